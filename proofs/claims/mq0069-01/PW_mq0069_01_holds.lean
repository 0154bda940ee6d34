import PyProof.Rows.All
import Wide.All
import OpenK.AllK
import Wide.FinOn
import PySem.Sre
import Lean
import PySem.Challenge.RW_mq0069_01
set_option Elab.async false
section
set_option maxRecDepth 100000
set_option Elab.async false
open PySem PySem.W PySem.Calls PyProof.Rows
namespace Mine

/-- the claim's caller stands in the context, as its code or below it -/
def HasC (Γ : Ctx) : Prop := Γ.code.isCaller = true ∨ ∃ x ∈ Γ.below, x.1.isCaller = true
def HasB (Γ : Ctx) : Prop := ∃ x ∈ Γ.below, x.1.isCaller = true

theorem HasC.enter {Γ : Ctx} (h : HasC Γ) (c : Code) (hd : Option Value) (p : Pos) : HasB (Γ.enter c hd p) := by
  rcases h with h | ⟨x, hx, h⟩
  · exact ⟨(Γ.code, p), List.mem_cons_self, h⟩
  · exact ⟨x, List.mem_cons_of_mem _ hx, h⟩
theorem HasB.hasC {Γ : Ctx} (h : HasB Γ) : HasC Γ := .inr h
theorem HasB.goto {Γ : Ctx} (h : HasB Γ) (c : Code) : HasB (Γ.goto c) := h

/-- the weakest precondition in the contexts that hold the caller -/
def wpC {α : Type} (M : Model) (A : Around) (t : Sem α) (Q : α → Shared → Prop) (E : Value → Shared → Prop) (s : Shared) : Prop :=
  ∀ Γ p, Γ.In A → HasC Γ → Sem.wp M Γ t (fun a _ s' => Q a s') (fun e _ s' => E e s') p s
def codeC (M : Model) (A : Around) (c : Code) (R : Result → Shared → Prop) (s : Shared) : Prop :=
  ∀ Γ p, Γ.code = c → Γ.Below A → HasB Γ → wpCode M Γ R p s

section
variable {α β : Type} {M : Model} {A : Around} {E : Value → Shared → Prop} {s : Shared}
theorem wpC_of {t : Sem α} {Q : α → Shared → Prop} (h : wpAny M A t Q E s) : wpC M A t Q E s := fun Γ p hΓ _ => h Γ p hΓ
theorem wpC_mono {t : Sem α} {Q Q' : α → Shared → Prop} {E' : Value → Shared → Prop} (h : wpC M A t Q E s) (hQ : ∀ a s, Q a s → Q' a s) (hE : ∀ e s, E e s → E' e s) : wpC M A t Q' E' s :=
  fun Γ p hΓ hc => Sem.wp_mono M Γ t (fun a _ s => hQ a s) (fun e _ s => hE e s) p s (h Γ p hΓ hc)
theorem wpC_bind {m : Sem α} {f : α → Sem β} {Q : β → Shared → Prop} (h : wpC M A m (fun a s' => wpC M A (f a) Q E s') E s) : wpC M A (m >>= f) Q E s := fun Γ p hΓ hc => by
  rw [Sem.wp_bind']
  exact Sem.wp_mono M Γ m (fun a p' s' h' => h' Γ p' hΓ hc) (fun _ _ _ h' => h') p s (h Γ p hΓ hc)
theorem wpC_onRaise {m : Sem α} {k : Value → Sem Unit} {Q : α → Shared → Prop} (h : wpC M A m Q (fun e s' => wpC M A (k e) (fun _ s'' => E e s'') E s') s) : wpC M A (m.onRaise k) Q E s := fun Γ p hΓ hc => by
  rw [Sem.wp_onRaise]
  exact Sem.wp_mono M Γ m (fun _ _ _ h' => h') (fun e p' s' h' => h' Γ p' hΓ hc) p s (h Γ p hΓ hc)
theorem wpC_run {c : Code} {h : Option Value} {Q : Flow → Shared → Prop} (hc : codeC M (A.mark h) c (fun r s' => match r with | .ok f => Q f s' | .error e => E e s') s) (hnb : h ≠ some byPass := by intro x; cases x) : wpC M A (run c h) Q E s :=
  fun Γ p hΓ hC => by rw [Sem.wp_run]; exact hc _ p rfl (hΓ.enter c h p hnb) (hC.enter c h p)
theorem wpC_runValue {c : Code} {Q : Value → Shared → Prop} (hc : codeC M A c (fun r s' => match r with | .ok (.ret v) => Q v s' | .ok _ => False | .error e => E e s') s) : wpC M A (runValue c) Q E s :=
  fun Γ p hΓ hC => by rw [Sem.wp_runValue]; exact hc _ p rfl (hΓ.enter c none p (by intro x; cases x)) (hC.enter c none p)
theorem codeC_of_tree {c : Code} {R : Result → Shared → Prop}
    (h : wpC M (A.under c) (M.den c) (fun fin s' => match fin with | .done f => R (.ok f) s' | .again c' => c'.quiet = true ∧ codeC M A c' R s') (fun e s' => R (.error e) s') s) : codeC M A c R s := fun Γ p hc hΓ hC => by
  rw [wpCode_iff_wp, hc]
  refine Sem.wp_mono M Γ _ (fun fin p' s' h' => ?_) (fun _ _ _ h' => h') p s (h Γ p (hc ▸ hΓ.in) hC.hasC)
  cases fin with
  | done f => exact h'
  | again c' => exact ⟨h'.1, h'.2 (Γ.goto c') p' rfl (hΓ.goto c') (hC.goto c')⟩
theorem codeC_mono {c : Code} {R R' : Result → Shared → Prop} (h : codeC M A c R s) (hR : ∀ r s, R r s → R' r s) : codeC M A c R' s :=
  fun Γ p hc hΓ hC => let ⟨r, s', a, b⟩ := h Γ p hc hΓ hC; ⟨r, s', a, hR _ _ b⟩
end

/-- the caller's own context -/
abbrev ctx0 : Ctx := ⟨.builtin "claim.caller" {}, none, none, [], none⟩
theorem hasC_ctx0 : HasC ctx0 := .inl rfl

theorem ends_c {prog : Program} {w : World} {t : Sem Fin} {s : Shared} {R : Result → Shared → Prop} (hreg : s.asleep)
    (h : wpC (model prog w) callerA t (fun fin s' => ∃ f, fin = .done f ∧ (R (.ok f) s' ∧ leftWithCleanup s'.gens = false)) (fun e s' => R (.error e) s' ∧ leftWithCleanup s'.gens = false) s) :
    ∃ n r s' s'', runN (denote table) prog w n s ⟨t, .builtin "claim.caller" {}, default, []⟩ = .halted (outcomeOf r) s' ∧
      schedN (denote table) prog w n (.single s ⟨t, .builtin "claim.caller" {}, default, []⟩) = .halted (outcomeOf r) s' ∧ s'.forget = s''.forget ∧ R r s'' := by
  have z : Sem.wp (model prog w) ctx0 t (Sem.finPost (model prog w) ctx0 fun r s' => R r s' ∧ leftWithCleanup s'.gens = false) (fun e _ s' => R (.error e) s' ∧ leftWithCleanup s'.gens = false) default s := by
    refine Sem.wp_mono _ _ t (fun fin p' s' h' => ?_) (fun _ _ _ h' => h') default s (h ctx0 default caller_in hasC_ctx0)
    obtain ⟨f, rfl, hf⟩ := h'
    exact hf
  obtain ⟨n, r, s₁, s₂, hs, hn, hfo, hR⟩ := wp_halts_full (M := model prog w) (R := R) hreg z
  exact ⟨n, r, s₂, s₁, hn, hs, hfo, hR⟩

/-- the walk that the door asks: the call in the contexts that hold the caller -/
abbrev WalkC (q : Program) (loose : List Str) (XP : (Str → Option Value) → Heap → Prop) (YP : World → Heap → Prop) (r : RowW) (d : DefRec) (kwd : List (Str × Expr)) : Prop :=
  ∀ (w : World) (s₀ s₁ : Shared) (mg mb : Str → Option Value), Ground q loose r.records XP w s₀ mg mb s₁.heap → YP w s₁.heap → ∀ (a : Addr) (o : Obj) (pm cd doc dV kV : Value), s₁.heap.get? a = some o →
    o.data = .func { docDef d.name d.params d.body d.scope pm cd doc with defaults := dV, kwdefaults := kV } → s₁.heap.CodeRec cd d.name → Dflts mg s₁.heap d.params kwd dV kV → mg d.name = some (.ref a) → s₁.gens = #[] →
    ∀ (args : List WData) (vals : List Value) (as : List Addr), r.claim.pre args = true → WData.layableAll args = true → ReadsAllW r.records (classAt s₀.heap) s₁.heap vals args as → WellAll w.params s₁.heap vals args → (∀ a ∈ as, (a == sysModules) = false) →
      wpC (model r.prog w) callerA (PySem.call (.ref a) vals) (fun v s' => GoodWG r.claim (classAt s₀.heap) (ExcName.means s₀.heap) args s₁ (.ok (.ret v)) s')
        (fun e s' => GoodWG r.claim (classAt s₀.heap) (ExcName.means s₀.heap) args s₁ (.error e) s') s₁

theorem callFrom_c {c : ClaimW} {tree : List Value → Sem Fin} {w : World} {s : Shared} {free : Addr → Prop} {gens : Prop} {kept : Heap → Prop} (hz : s.asleep) (hgens : s.gens = #[])
    (hspec : ∀ args, c.pre args = true → WData.layableAll args = true → ∀ ord : List DictEntry → List DictEntry, (∀ l, (ord l).Perm l) →
      ∃ vs s₁, layAllW c.records (classAt s.heap) w.params ord args s = some (vs, s₁) ∧
        wpC (model c.prog w) callerA (tree vs) (fun fin s' => ∃ f, fin = .done f ∧ (c.Ends s args vs s₁ (.ok f) s' ∧ s'.os = s.os ∧ AllBare s'.gens ∧ kept s'.heap))
          (fun e s' => c.Ends s args vs s₁ (.error e) s' ∧ s'.os = s.os ∧ AllBare s'.gens ∧ kept s'.heap) s₁) :
    c.CallFrom (fun vs => ⟨tree vs, .builtin "claim.caller" {}, default, []⟩) w free gens kept s := by
  intro args hpre hlay ord hord
  obtain ⟨vs, s₁, hlaid, hcode⟩ := hspec args hpre hlay ord hord
  have hal := layAllW_rest _ _ _ hlaid
  have hends := ends_c (R := fun r s' => c.Ends s args vs s₁ r s' ∧ s'.os = s.os ∧ kept s'.heap) (Shared.asleep_of_life hal.2.2.2 hz)
    (wpC_mono hcode (fun fin s' ⟨f, e, h1, h2, h3, h4⟩ => ⟨f, e, ⟨h1, h2, h4⟩, leftWithCleanup_false_of_bare h3⟩) fun e s' ⟨h1, h2, h3, h4⟩ => ⟨⟨h1, h2, h4⟩, leftWithCleanup_false_of_bare h3⟩)
  obtain ⟨n, r, s', s'', hrun, hsched, hfo, hcase, hos, hkp⟩ := hends
  obtain ⟨eh, _, _, eo, _⟩ := Shared.forget_eq hfo
  refine ⟨vs, s₁, hlaid, n, _, s', hsched, ?_, fun _ i x hx => ?_, ?_, ?_, Shared.rest_eq (eo.trans hos)⟩
  · rcases hcase.congr eh with ⟨v, rfl, d1, d2, d3, d4, d5⟩ | ⟨e, ob, cls, rfl, d1, d2, d3, d4, d5⟩
    · exact .inl ⟨v, rfl, d1, d2, d3, fun b o y _ => d4 b o y, d5⟩
    · exact .inr ⟨e, ob, cls, rfl, d1, d2, d3, d4, fun b o y _ => d5 b o y⟩
  · rw [hgens] at hx; simp at hx
  · rw [eh]; exact hkp
  · rw [(runN_life _ _ _ hrun).trans hal.2.2.2]

/-- the door: the library's head with the walk in the caller's contexts alone -/
theorem PySem.W.holds_open {r : OpenRow} {q : Program} {loose : List Str} {Xt : Shared → Bool} {XP : (Str → Option Value) → Heap → Prop} {α : Type} {Yf : Shared → α} {Ya : World → α} {YP : World → Heap → Prop} {d : DefRec} {kwd : List (Str × Expr)} {N : Nat}
    (left : LeftO r.prog q loose Xt Yf Ya N) (hY : ∀ w s, Yf s = Ya w → YP w s.heap) (hYk : ∀ w h h', YP w h → (∀ b o, h.get? b = some o → h'.get? b = some o) → YP w h')
    (hX : ∀ s, Xt s = true → XP (s.heap.nsMap mainGlobals) s.heap) (hXk : ∀ mg h h', XP mg h → (∀ b o, h.get? b = some o → h'.get? b = some o) → XP mg h')
    (hdef : defOf q r.name = some (d, kwd)) (hp : r.prog.theDef r.name = some (d.params, d.body, d.scope)) (hk : kwWritten? d.params.kwonlyargs d.params.kw_defaults = some kwd) (hRf : ∀ s, Xt s = true → RecFacts r.records s.heap) (hwr : (!r.writes || r.records.isEmpty) = true)
    (k1 : r.wellSaid = true) (ok : (chainsOk q && opensWell r.prog && (frees r.toRowW && r.within.isEmpty)) = true) (hb : r.prog.bare) (hw : r.toRowW.promised)
    (call : WalkC q loose XP YP r.toRowW d kwd) : r.Holds := by
  simp only [Bool.and_eq_true] at ok
  obtain ⟨⟨hch, o1⟩, k5, k6⟩ := ok
  obtain ⟨hsame, hu, ha, hap, hm⟩ := frees_parts k5
  refine ⟨k1, hw, ⟨hb, o1, by show r.makers.map _ = []; rw [hm]; rfl⟩, hw.witness, fun w => ⟨(left.behind hX hch w).1, fun s' hs' => ?_⟩⟩
  obtain ⟨s₀, hf, hg0, s, hT, hz, hgens, hg, G00, y⟩ := (left.behind (XP := fun mg h => XP mg h ∧ RecFacts r.records h) (fun s hs => ⟨hX s hs, hRf s hs⟩) hch w).2 s' hs'
  have G0 : Ground q loose [] XP w s (s.heap.nsMap mainGlobals) (s.heap.nsMap builtinsNs) s.heap := ⟨G00.T, G00.B, G00.D, G00.TE, G00.TD, G00.W, G00.X.1, G00.cls, G00.has, G00.apart, G00.once, G00.K⟩
  have RF := G00.X.2
  refine ⟨s₀, hf, hg0, s, hT, fun n hn => ?_, RF.1, RF.2.1, ?_⟩
  · obtain rfl : n = r.name := by split at hn <;> simp_all
    exact pinned_of_view hg G0 hdef hp hk
  have hgens : s.gens = #[] := Array.eq_empty_of_size_eq_zero (beq_iff_eq.mp hgens)
  have G : Ground q loose r.records XP w s _ _ s.heap := RF.ground G0
  refine callFrom_c (c := r.claim) hz hgens fun args hpre hlay ord hord => ?_
  obtain ⟨⟨vs, s₁⟩, hlaid⟩ := Option.isSome_iff_exists.mp (layAllW_isSome (P := w.params) (ord := ord) G.has args r.args s (pre_splitW hpre).1)
  have keeps := layAllW_keeps _ _ _ hlaid
  have hal := layAllW_rest _ _ _ hlaid
  obtain ⟨as, hrd, hin, hold⟩ := reads_layAllW hord _ _ _ hlaid hlay s₁.heap (fun _ _ e => e)
  have L : Laid r.records w s s₁ args vs as := ⟨⟨ord, hord, hlaid⟩, hrd, hin, hold, keeps, hal.1.trans hgens, hal.2.2.1⟩
  have G₁ := G.keeps hXk keeps
  obtain ⟨a, o, pm, cd, doc, dV, kV, h1, h2, h3, h4, h5⟩ := G₁.fn hdef
  have h := call w s s₁ _ _ G₁ (hYk _ _ _ (hY w s y) keeps) a o pm cd doc dV kV h2 h3 h4 h5 (defOf_name hdef ▸ h1) L.gens args vs as hpre hlay L.reads L.well (L.low G.low)
  have hi := ident_freeW hu ha hap
  have hwi : r.claim.within = [] := List.isEmpty_iff.mp k6
  have done : ∀ res s', GoodWG r.claim (classAt s.heap) (ExcName.means s.heap) args s₁ res s' → _ := fun res s' g => (⟨(g.laid (c := r.claim) hsame hwi hi L).1, (g.laid (c := r.claim) hsame hwi hi L).2.1, (g.laid (c := r.claim) hsame hwi hi L).2.2,
    fun q => ⟨namesKept_of hT hg r.keeps keeps g.2.1.old, noTable hwr q⟩⟩ : r.claim.Ends s args vs s₁ res s' ∧ s'.os = s.os ∧ AllBare s'.gens ∧ (r.writes = true → namesKept r.prog r.keeps s.heap s'.heap ∧ ∀ x ∈ r.records, ∀ a, classAt s.heap x.1 = some a → recordClass s'.heap a x.1 (x.2.map (·.1)) = true))
  refine ⟨vs, s₁, hlaid, wpC_bind (wpC_of (wpAny_nsGet G₁.T.g ?_))⟩
  rw [h1]
  exact wpC_bind (wpC_mono h (fun v s' g => wpC_of (wpAny_pure ⟨_, rfl, done _ _ g⟩)) fun e s' g => done _ _ g)

set_option maxHeartbeats 0 in
open_top hd for _root_.PySem.Challenge.rw_mq0069_01
end Mine

end
section
open PySem PySem.W PyProof.Rows PySem.Calls PySem.Spec
set_option Elab.async false
set_option maxRecDepth 100000
set_option autoImplicit false
namespace Mine

/-- what stands in the one stands in the other -/
abbrev Le (g h : Heap) : Prop := ∀ b o, g.get? b = some o → h.get? b = some o
theorem Le.refl (g : Heap) : Le g g := fun _ _ e => e
theorem Le.trans {g h k : Heap} (a : Le g h) (b : Le h k) : Le g k := fun _ _ e => b _ _ (a _ _ e)
abbrev Mu := List (Addr × (Obj → Prop))

/-- what is known of a state: the still part `g`, the parts that may turn `mu`, the rest as in `s₀` -/
structure Fx (s₀ : Shared) (g : Heap) (mu : Mu) (s : Shared) : Prop where
  le : Le g s.heap
  tu : ∀ p ∈ mu, g.get? p.1 = none ∧ ∃ o, s.heap.get? p.1 = some o ∧ p.2 o
  nd : (mu.map (·.1)).Nodup
  sim : s.gens = s₀.gens ∧ s.drawn = s₀.drawn ∧ s.os = s₀.os

namespace Fx
variable {s₀ s : Shared} {g : Heap} {mu : Mu} {a : Addr} {P P' : Obj → Prop} {o : Obj}

theorem keeps (F : Fx s₀ g mu s) {h : Heap} (tk : Nat) (hk : Le s.heap h) : Fx s₀ g mu { s with heap := h, toks := tk } :=
  ⟨F.le.trans hk, fun p hp => let ⟨h1, o, h2, h3⟩ := F.tu p hp; ⟨h1, o, hk _ _ h2, h3⟩, F.nd, F.sim⟩
theorem tok (F : Fx s₀ g mu s) (tk : Nat) : Fx s₀ g mu { s with toks := tk } := F.keeps tk (Le.refl _)

theorem get (F : Fx s₀ g mu s) (hm : (a, P) ∈ mu) : ∃ o, s.heap.get? a = some o ∧ P o := (F.tu _ hm).2

theorem drop (F : Fx s₀ g ((a, P) :: mu) s) : Fx s₀ g mu s :=
  ⟨F.le, fun p hp => F.tu p (.tail _ hp), (List.nodup_cons.mp F.nd).2, F.sim⟩
theorem weak (F : Fx s₀ g ((a, P) :: mu) s) (h : ∀ o, P o → P' o) : Fx s₀ g ((a, P') :: mu) s :=
  ⟨F.le, fun p hp => by
    rcases List.mem_cons.mp hp with rfl | hp
    · obtain ⟨h1, o, h2, h3⟩ := F.tu _ (.head _); exact ⟨h1, o, h2, h _ h3⟩
    · exact F.tu p (.tail _ hp), F.nd, F.sim⟩
theorem perm {mu' : Mu} (F : Fx s₀ g mu s) (hp : mu.Perm mu') : Fx s₀ g mu' s :=
  ⟨F.le, fun p h => F.tu p (hp.mem_iff.mpr h), (hp.map _).nodup_iff.mp F.nd, F.sim⟩
theorem swap {b : Addr} {R : Obj → Prop} (F : Fx s₀ g ((a, P) :: (b, R) :: mu) s) : Fx s₀ g ((b, R) :: (a, P) :: mu) s := F.perm (List.Perm.swap _ _ _)
theorem front {pre post : Mu} (F : Fx s₀ g (pre ++ (a, P) :: post) s) : Fx s₀ g ((a, P) :: (pre ++ post)) s := F.perm List.perm_middle
theorem back {pre post : Mu} (F : Fx s₀ g ((a, P) :: (pre ++ post)) s) : Fx s₀ g (pre ++ (a, P) :: post) s := F.perm List.perm_middle.symm
theorem last {x : Addr × (Obj → Prop)} (F : Fx s₀ g (mu ++ [x]) s) : Fx s₀ g mu s := (F.perm (List.perm_append_singleton _ _)).drop

/-- the first of the turning parts turns -/
theorem upd (F : Fx s₀ g ((a, P) :: mu) s) {h' : Heap} (tk : Nat) (hs : Heap.SameBut a s.heap h') (ho : h'.get? a = some o) (hP : P' o) : Fx s₀ g ((a, P') :: mu) { s with heap := h', toks := tk } := by
  have hg := (F.tu _ (.head _)).1
  have nd := List.nodup_cons.mp F.nd
  refine ⟨fun b o' e => ?_, fun p hp => ?_, F.nd, F.sim⟩
  · have hb : b ≠ a := fun q => by rw [q] at e; rw [hg] at e; cases e
    exact (hs.2 b hb).trans (F.le b o' e)
  · rcases List.mem_cons.mp hp with rfl | hp
    · exact ⟨hg, o, ho, hP⟩
    · obtain ⟨h1, o', h2, h3⟩ := F.tu p (.tail _ hp)
      have hb : p.1 ≠ a := fun q => nd.1 (List.mem_map.mpr ⟨p, hp, q⟩)
      exact ⟨h1, o', (hs.2 _ hb).trans h2, h3⟩

theorem fresh (F : Fx s₀ g mu s) : g.get? s.heap.objs.size = none := by
  cases e : g.get? s.heap.objs.size with
  | none => rfl
  | some o => exact absurd (Heap.lt_size (F.le _ _ e)) (Nat.lt_irrefl _)
theorem ne_size (F : Fx s₀ g mu s) : ∀ p ∈ mu, p.1 ≠ s.heap.objs.size := fun p hp => by
  obtain ⟨_, o, h2, _⟩ := F.tu p hp
  exact Nat.ne_of_lt (Heap.lt_size h2)
theorem ext (F : Fx s₀ g mu s) {h : Heap} (tk : Nat) (hs : Heap.ExtBut s.heap.objs.size s.heap h) : Fx s₀ g mu { s with heap := h, toks := tk } :=
  ⟨fun b o e => hs b o (fun q => by rw [q, F.fresh] at e; cases e) (F.le b o e), fun p hp => let ⟨h1, o, h2, h3⟩ := F.tu p hp; ⟨h1, o, hs _ _ (F.ne_size p hp) h2, h3⟩, F.nd, F.sim⟩

/-- a new part that may turn -/
theorem more (F : Fx s₀ g mu s) {h' : Heap} (tk : Nat) (hk : Le s.heap h') (ho : h'.get? s.heap.objs.size = some o) (hP : P o) : Fx s₀ g ((s.heap.objs.size, P) :: mu) { s with heap := h', toks := tk } := by
  refine ⟨F.le.trans hk, fun p hp => ?_, List.nodup_cons.mpr ⟨fun q => ?_, F.nd⟩, F.sim⟩
  · rcases List.mem_cons.mp hp with rfl | hp
    · exact ⟨F.fresh, o, ho, hP⟩
    · obtain ⟨h1, o', h2, h3⟩ := F.tu p hp
      exact ⟨h1, o', hk _ _ h2, h3⟩
  · obtain ⟨p, hp, e⟩ := List.mem_map.mp q
    exact F.ne_size p hp e
theorem alloc (F : Fx s₀ g mu s) (o : Obj) (hP : P o) (hf : o.isFreed = false := by rfl) : Fx s₀ g ((s.heap.objs.size, P) :: mu) { s with heap := s.heap.push o } :=
  F.more s.toks (fun _ _ e => Heap.get?_push_of_some _ e) (Heap.get?_push_size _ hf) hP

/-- all that does not turn is still -/
theorem still (F : Fx s₀ g mu s) : ∃ g', Le g g' ∧ Fx s₀ g' mu s ∧ ∀ b o, s.heap.get? b = some o → b ∉ mu.map (·.1) → g'.get? b = some o := by
  refine ⟨hideAll s.heap (mu.map (·.1)), fun b o e => hideAll_get _ (F.le b o e) fun q => ?_, ⟨fun b o e => of_hideAll _ e, fun p hp => ⟨hideAll_none _ (List.mem_map_of_mem hp), (F.tu p hp).2⟩, F.nd, F.sim⟩, fun b o e hb => hideAll_get _ e hb⟩
  obtain ⟨p, hp, rfl⟩ := List.mem_map.mp q
  rw [(F.tu p hp).1] at e; cases e
/-- the first of the turning parts turns no more -/
theorem freeze (F : Fx s₀ g ((a, P) :: mu) s) : ∃ g' o, Le g g' ∧ g'.get? a = some o ∧ P o ∧ Fx s₀ g' mu s := by
  obtain ⟨_, o, h2, h3⟩ := F.tu _ (.head _)
  obtain ⟨g', l, F', st⟩ := F.drop.still
  exact ⟨g', o, l, st a o h2 (List.nodup_cons.mp F.nd).1, h3, F'⟩
theorem allocF (F : Fx s₀ g mu s) (o : Obj) (hf : o.isFreed = false := by rfl) : ∃ g', Le g g' ∧ g'.get? s.heap.objs.size = some o ∧ Fx s₀ g' mu { s with heap := s.heap.push o } := by
  obtain ⟨g', o', l, e, rfl, F'⟩ := (F.alloc (P := (· = o)) o rfl hf).freeze
  exact ⟨g', l, e, F'⟩
end Fx

/-- a frame's names, as far as they are known -/
def Loc (l : List (Str × Value)) (o : Obj) : Prop := ∃ m, LCg.NsObj o m ∧ ∀ p ∈ l, m p.1 = some p.2
def Cel (v : Value) (o : Obj) : Prop := o.data = .cell (some v)
def CelX (o : Obj) : Prop := ∃ v, o.data = .cell v
def Lst (vs : List Value) (o : Obj) : Prop := ∃ n, o = { cls := .type "list", data := .seq vs.toArray n }
theorem Loc.sub {l l' : List (Str × Value)} (h : ∀ p ∈ l', p ∈ l) (o : Obj) : Loc l o → Loc l' o := fun ⟨m, a, b⟩ => ⟨m, a, fun p hp => b p (h p hp)⟩

noncomputable abbrev PR : Program := PySem.Challenge.rw_mq0069_01.row.prog
noncomputable abbrev LS : List Str := looseW hd.view_39 [Str.ofString "_twin_re_1", Str.ofString "_ver_stages"] ++ List.map (fun x => x.name) (recsOf hd.view_39) ++ List.map (fun x => x.fst) (litsOf hd.view_39) ++
    List.map (fun x => x.name) (clssOf hd.view_39 (looseW hd.view_39 [Str.ofString "_twin_re_1", Str.ofString "_ver_stages"]))

/-- the ground: the text's own objects as its top has left them -/
structure Gd (w : World) (g : Heap) : Prop where
  K : (hd.heap_39 w.params).In g
  T : ∃ mean mg mb, Top topProg LS mean mg mb g
theorem Gd.up {w : World} {g g' : Heap} (G : Gd w g) (l : Le g g') : Gd w g' := ⟨G.K.keeps l, let ⟨a, b, c, T⟩ := G.T; ⟨a, b, c, T.keeps l⟩⟩

/-- room for `k` calls one within the other -/
structure Rm (A : Around) (k : Nat) : Prop where
  hand : A.handled = none
  deep : A.depth + k < recursionLimit
  unit : A.units + 4 * k < cLine
theorem Rm.deeper {A : Around} {k : Nat} (R : Rm A (k + 1)) (env : Env) : Rm (A.deeper env) k := ⟨R.hand, by have := R.deep; simp only [Around.deeper]; omega, by have := R.unit; simp only [Around.deeper]; omega⟩
theorem Rm.in1 {A : Around} {k : Nat} (R : Rm A (k + 1)) : Rm A.in1 k := ⟨R.hand, by have := R.deep; simp only; omega, by have := R.unit; simp only; omega⟩
theorem Rm.less {A : Around} {k j : Nat} (R : Rm A k) (h : j ≤ k) : Rm A j := ⟨R.hand, by have := R.deep; omega, by have := R.unit; omega⟩

/-- the walk's own word for «from this state the tree ends in Q or raises into E» -/
structure Wp {α : Type} (w : World) (A : Around) (t : Sem α) (Q : α → Shared → Prop) (E : Value → Shared → Prop) (s : Shared) : Prop where
  out : wpAny (model PR w) A t Q E s
theorem wp_mono {α : Type} {w : World} {A : Around} {E : Value → Shared → Prop} {s : Shared} {t : Sem α} {Q Q' : α → Shared → Prop} (h : Wp w A t Q E s) (hQ : ∀ a s, Q a s → Q' a s) : Wp w A t Q' E s := ⟨wpAny_mono h.out hQ fun _ _ e => e⟩
theorem via {α : Type} {w : World} {A : Around} {E : Value → Shared → Prop} {s : Shared} {t : Sem α} {Q' : α → Shared → Prop} (Q : α → Shared → Prop) (h : Wp w A t Q E s) (hQ : ∀ a s, Q a s → Q' a s) : Wp w A t Q' E s := wp_mono h hQ
theorem wp_pure {α : Type} {w : World} {A : Around} {E : Value → Shared → Prop} {s : Shared} {a : α} {Q : α → Shared → Prop} (h : Q a s) : Wp w A (pure a) Q E s := ⟨wpAny_pure h⟩
theorem wp_bind {α β : Type} {w : World} {A : Around} {E : Value → Shared → Prop} {s : Shared} {m : Sem α} {f : α → Sem β} {Q : β → Shared → Prop} (h : Wp w A m (fun a s' => Wp w A (f a) Q E s') E s) : Wp w A (m >>= f) Q E s := ⟨wpAny_bind (wpAny_mono h.out (fun _ _ h => h.out) fun _ _ e => e)⟩

section
variable {w : World} {A : Around} {E : Value → Shared → Prop} {s₀ s : Shared} {g : Heap} {mu : Mu} {env : Env} {L c : Addr} {l : List (Str × Value)} {x : Str} {pos : Pos} {v : Value} {Q : Value → Shared → Prop}

theorem ld (F : Fx s₀ g mu s) (hm : (env.locals, Loc l) ∈ mu) (hv : (x, v) ∈ l) (h : Q v s)
    (hk : env.scope.kind = .function := by rfl) (hl : env.kindOf x = some .local := by rfl) (hd : (x == ("__debug__" : Str)) = false := by decide) : Wp w A (eval (.Name x pos) env) Q E s := by
  obtain ⟨o, ho, m, hn, hl'⟩ := F.get hm
  exact ⟨wpAny_Name (wpAny_loadName_local hk hl (hn.ns ho) (hl' _ hv) h) hd⟩
theorem ldc (F : Fx s₀ g mu s) (hc : env.cells.lookup x = some c) (hm : (c, Cel v) ∈ mu) (h : Q v s)
    (hk : env.scope.kind = .function := by rfl) (hl : env.kindOf x = some .cell := by rfl) (hd : (x == ("__debug__" : Str)) = false := by decide) : Wp w A (eval (.Name x pos) env) Q E s := by
  obtain ⟨o, ho, hv⟩ := F.get hm
  exact ⟨wpAny_Name (wpAny_loadName_cell hk hl hc ⟨o, ho, hv⟩ h) hd⟩
theorem ldf (F : Fx s₀ g mu s) (hc : env.cells.lookup x = some c) (hm : g.IsCell c (some v)) (h : Q v s)
    (hk : env.scope.kind = .function := by rfl) (hl : env.kindOf x = some .free := by rfl) (hd : (x == ("__debug__" : Str)) = false := by decide) (hn : (x == ("__classdict__" : Str)) = false := by decide) : Wp w A (eval (.Name x pos) env) Q E s :=
  ⟨wpAny_Name (wpAny_loadName_free hk hl hc (let ⟨o, ho, hv⟩ := hm; ⟨o, F.le _ _ ho, hv⟩) h hn) hd⟩
theorem ldg (G : Gd w g) (F : Fx s₀ g mu s) (e : nsIn (hd.heap_39 w.params) mainGlobals x = some (some v)) (h : Q v s)
    (hk : env.scope.kind = .function := by rfl) (hx : env.kindOf x = some .globalImplicit := by rfl) (hg : env.globals = mainGlobals := by rfl) (hd : (x == ("__debug__" : Str)) = false := by decide) : Wp w A (eval (.Name x pos) env) Q E s := by
  obtain ⟨_, _, _, T⟩ := G.T
  exact ⟨Name_function_global hk hx (loadGlobal_global (hg ▸ T.g.keeps F.le) (mg_of G.K T.g e) h) hd⟩
theorem ldb (G : Gd w g) (F : Fx s₀ g mu s) (e : nsIn (hd.heap_39 w.params) mainGlobals x = some none) (hv : bootBuiltins x = some v) (h : Q v s) (hn : x ≠ "__name__" := by decide)
    (hk : env.scope.kind = .function := by rfl) (hx : env.kindOf x = some .globalImplicit := by rfl) (hg : env.globals = mainGlobals := by rfl) (hb : env.builtins = builtinsNs := by rfl) (hd : (x == ("__debug__" : Str)) = false := by decide) : Wp w A (eval (.Name x pos) env) Q E s := by
  obtain ⟨_, _, _, T⟩ := G.T
  exact ⟨Name_function_global hk hx (loadGlobal_builtin (hg ▸ T.g.keeps F.le) (mg_none_of G.K T.g e) (hb ▸ T.b.keeps F.le) ((T.builtins x hn).trans hv) h) hd⟩

def put (x : Str) (v : Value) (l : List (Str × Value)) : List (Str × Value) := (x, v) :: l.filter fun p => !(p.1 == x)
theorem Loc.put {o' : Obj} {m : Str → Option Value} (hl : ∀ p ∈ l, m p.1 = some p.2) (h : LCg.NsObj o' fun y => if y = x then some v else m y) : Loc (put x v l) o' := by
  refine ⟨_, h, fun p hp => ?_⟩
  rcases List.mem_cons.mp hp with rfl | hp
  · simp
  · obtain ⟨h1, h2⟩ := List.mem_filter.mp hp
    have : p.1 ≠ x := by simpa using h2
    simp only [this, if_false]; exact hl p h1
theorem sto {Q : Unit → Shared → Prop} (F : Fx s₀ g ((L, Loc l) :: mu) s) (h : ∀ s', Fx s₀ g ((L, Loc (put x v l)) :: mu) s' → Q () s')
    (hL : env.locals = L := by rfl) (hk : env.scope.kind = .function := by rfl) (hl : env.kindOf x = some .local := by rfl) : Wp w A (storeName env x v) Q E s := by
  subst hL
  obtain ⟨o, ho, m, hn, hl'⟩ := F.get (.head _)
  refine ⟨wpAny_storeName_local hl (hn.ns ho) (fun h' hn' hs => ?_) (by rw [hk]; rfl)⟩
  obtain ⟨o', ho', hn''⟩ := LCg.ns_obj hn'
  exact h _ (F.upd _ hs ho' (Loc.put hl' hn''))
theorem stoc {Q : Unit → Shared → Prop} {P : Obj → Prop} {pre post : Mu} (F : Fx s₀ g mu s) (hc : env.cells.lookup x = some c) (hm : mu = pre ++ (c, P) :: post) (hP : ∀ o, P o → CelX o) (h : ∀ s', Fx s₀ g (pre ++ (c, Cel v) :: post) s' → Q () s')
    (hk : env.scope.kind = .function := by rfl) (hl : env.kindOf x = some .cell := by rfl) : Wp w A (storeName env x v) Q E s := by
  subst hm
  have F' := F.front
  obtain ⟨o, ho, hp⟩ := F'.get (.head _)
  obtain ⟨u, hu⟩ := hP o hp
  refine ⟨wpAny_storeName_cell hk hl hc ⟨o, ho, hu⟩ fun h' hv hs => ?_⟩
  obtain ⟨o', ho', hd'⟩ := hv
  exact h _ (F'.upd (P' := Cel v) _ hs ho' hd').back
end

def retOf : Flow → Value
  | .ret v => v
  | _ => .none
section
variable {w : World} {A : Around} {E : Value → Shared → Prop} {s₀ s : Shared} {g : Heap} {mu : Mu} {k : Nat} {Q : Value → Shared → Prop}
theorem callf {f : Addr} {fd : FuncData} {oc : Value} {od : Option Addr} {osl : Array (Option Value)} {body : List Stmt} {vs : List Value} {binds l : List (Str × Value)} (G : Gd w g) (R : Rm A (k + 1)) (F : Fx s₀ g mu s)
    (ho : (hd.heap_39 w.params).lookup f = some ⟨oc, od, .func fd, osl⟩) (hcd : codeIn (hd.heap_39 w.params) fd.code fd.qualname = true) (hbody : fd.body = .stmts body) (hbind : bindArgs fd ⟨vs, []⟩ = pure binds)
    (hl : ∀ p ∈ l, binds.reverse.lookup p.1 = some p.2) (hcell : ∀ x ∈ fd.scope.names, x.2 ≠ .cell) (hloc : (binds.all fun x => decide (fd.scope.names.lookup x.1 = some .local)) = true)
    (hco : fd.scope.isCoroutine = false) (hgen : fd.scope.isGenerator = false) (hk : fd.scope.kind = .function)
    (h : ∀ L s' E', Rm (A.deeper (callEnv fd L f)) k → Fx s₀ g ((L, Loc l) :: mu) s' →
      Wp w (A.deeper (callEnv fd L f)) (execs body (callEnv fd L f)) (fun fl s'' => Q (retOf fl) s'') E' s') :
    Wp w A (call (.ref f) vs) Q E s := by
  obtain ⟨_, _, _, T⟩ := G.T
  refine ⟨wpAny_call (codeAny_call_def (binds := binds) (by have := R.deep; omega) (F.le _ _ (G.K _ _ ho)) rfl (T.nolimit.keeps F.le) (codeRec_of (G.K.keeps F.le) hcd) hbody (.of_eq hbind) hcell (locs hloc) (fun h₀ hns hk₀ => ?_) hco hgen hk)⟩
  obtain ⟨o, ho', hn⟩ := LCg.ns_obj hns
  exact wpAny_mono (h _ _ _ (R.deeper _) (F.more _ hk₀ ho' ⟨_, hn, hl⟩)).out (fun fl s hq => by cases fl <;> exact hq) fun _ _ e => e
end
end Mine

end
section
open PySem PySem.W PyProof.Rows PySem.Calls PySem.Spec
set_option Elab.async false
set_option maxRecDepth 100000
set_option autoImplicit false
namespace Mine
/-- an iterator by itself: its state hangs on its own object and on what is still -/
structure It (w : World) (A : Around) (g : Heap) (I : Addr) (n : Nat) (P : Nat → Value → Prop) (St : Nat → Heap → Prop) (fp : List Addr) : Prop where
  W : Walks PR w A I fp [I] n P St
  on : ∀ i h, St i h → ∃ o, h.get? I = some o
  st : ∀ i h h' o, St i h → h.get? I = some o → h'.get? I = some o → Le g h' → St i h'

/-- the iterator's own object at turn i -/
def Itr (g : Heap) (I : Addr) (St : Nat → Heap → Prop) (i : Nat) (o : Obj) : Prop := ∀ h, h.get? I = some o → Le g h → St i h

/-- how a for's end is told -/
def ForR (D : Shared → Prop) (Rt : Value → Shared → Prop) (Er : Value → Shared → Prop) (r : Result) (s : Shared) : Prop := match r with
  | .ok .next => D s
  | .ok (.ret v) => Rt v s
  | .ok _ => False
  | .error e => Er e s
/-- the for's iterable is taken and its turns are made -/
structure Lp (w : World) (A : Around) (target : Expr) (body : List Stmt) (env : Env) (D : Shared → Prop) (Rt : Value → Shared → Prop) (E : Value → Shared → Prop) (x : Value) (s : Shared) : Prop where
  out : ∀ Er, wpAny (model PR w) A (pyIter x) (fun it s₂ => codeAny (model PR w) A (.forLoop target it body [] env) (ForR D Rt Er) s₂) E s

/-- a turn's end -/
def Went (s₀ : Shared) (I : Addr) (PI : Obj → Prop) (g : Heap) (J : Heap → Mu → Prop) (D : Shared → Prop) (Rt : Value → Shared → Prop) (f : Flow) (s₃ : Shared) : Prop :=
  match f with
  | .next | .cont => ∃ g'' mu'', Le g g'' ∧ J g'' mu'' ∧ Fx s₀ g'' (mu'' ++ [(I, PI)]) s₃
  | .brk => D s₃
  | .ret v => Rt v s₃
theorem Went.on {s₀ : Shared} {I : Addr} {PI : Obj → Prop} {g : Heap} {J : Heap → Mu → Prop} {D : Shared → Prop} {Rt : Value → Shared → Prop} {s₃ : Shared} {g'' : Heap} {mu'' : Mu} (l : Le g g'') (j : J g'' mu'') (F : Fx s₀ g'' (mu'' ++ [(I, PI)]) s₃) : Went s₀ I PI g J D Rt .next s₃ := ⟨g'', mu'', l, j, F⟩

section
variable {w : World} {A : Around} {s₀ s : Shared} {g : Heap} {mu : Mu} {I : Addr} {n : Nat} {P : Nat → Value → Prop} {St : Nat → Heap → Prop} {fp : List Addr}
theorem itr_of (T : It w A g I n P St fp) {i : Nat} {h : Heap} {o : Obj} (a : St i h) (b : h.get? I = some o) : Itr g I St i o := fun h' e l => T.st i h h' o a b e l

/-- the turns of a for: what holds of the still part and of the parts that turn -/
theorem for_it {D : Shared → Prop} {Rt Er : Value → Shared → Prop} {target : Expr} {body : List Stmt} {env : Env} (T : It w A g I n P St fp) (F : Fx s₀ g ((I, Itr g I St 0) :: mu) s)
    (J : Nat → Heap → Mu → Prop) (h0 : J 0 g mu)
    (hgo : ∀ i (s' : Shared) v (Q' : Unit → Shared → Prop) E', St i s'.heap → Q' () s' → wpAny (model PR w) A (letOwnedTupleGo target (.ref I) v) Q' E' s')
    (turn : ∀ i v g' mu' s' E' PI, i < n → P i v → Le g g' → J i g' mu' → Fx s₀ g' (mu' ++ [(I, PI)]) s' →
      Wp w A (assign target env v) (fun _ s₂ => Wp w A (execs body env) (Went s₀ I PI g' (J (i + 1)) D Rt) E' s₂) E' s')
    (done : ∀ g' mu' s', Le g g' → J n g' mu' → Fx s₀ g' mu' s' → D s') :
    codeAny (model PR w) A (.forLoop target (.ref I) body [] env) (ForR D Rt Er) s := by
  have dead : ∀ {g' mu' s'} {i : Nat}, Le g g' → Fx s₀ g' ((I, Itr g I St i) :: mu') s' → St i s'.heap := fun l F' => by
    obtain ⟨o, ho, hp⟩ := F'.get (.head _)
    exact hp _ ho (l.trans F'.le)
  refine codeAny_forLoop_any
    (fun k s' => ∃ g' mu' i, Le g g' ∧ J i g' mu' ∧ Fx s₀ g' ((I, Itr g I St i) :: mu') s' ∧ i ≤ n ∧ k = n + 1 - i) ?_ (n + 1) ⟨g, mu, 0, Le.refl _, h0, F, Nat.zero_le _, rfl⟩
  rintro k s' ⟨g', mu', i, l, hJ, F', hi, rfl⟩
  have hst := dead l F'
  have hI := (F'.tu _ (.head _)).1
  have ndI := (List.nodup_cons.mp F'.nd).1
  have next : ∀ {h₁ : Heap} (tk : Nat), (∀ b o, b ∉ [I] → s'.heap.get? b = some o → h₁.get? b = some o) → Fx s₀ g' mu' { s' with heap := h₁, toks := tk } := fun tk hk => by
    refine ⟨fun b o e => hk b o (fun q => ?_) (F'.le b o e), fun p hp => ?_, F'.drop.nd, F'.sim⟩
    · rw [List.mem_singleton.mp q, hI] at e; cases e
    · obtain ⟨h1, o, h2, h3⟩ := F'.tu p (.tail _ hp)
      exact ⟨h1, o, hk _ _ (fun q => ndI (List.mem_map.mpr ⟨p, hp, List.mem_singleton.mp q⟩)) h2, h3⟩
  by_cases hlt : i < n
  · refine T.W.item i _ _ _ hlt hst fun v h₁ tk₁ hP hst₁ hk₁ => ?_
    obtain ⟨oI, hoI⟩ := T.on _ _ hst₁
    have Fn := next tk₁ hk₁
    have F₁ : Fx s₀ g' ((I, Itr g I St (i + 1)) :: mu') { s' with heap := h₁, toks := tk₁ } := by
      refine ⟨Fn.le, fun p hp => ?_, F'.nd, F'.sim⟩
      rcases List.mem_cons.mp hp with rfl | hp
      · exact ⟨hI, oI, hoI, itr_of T hst₁ hoI⟩
      · exact Fn.tu p hp
    refine hgo (i + 1) _ v _ _ hst₁ ?_
    refine wpAny_mono (turn i v g' mu' _ _ _ hlt hP l hJ (F₁.perm (List.perm_append_singleton _ _).symm)).out (fun _ s₂ h₂ => wpAny_mono h₂.out (fun f s₃ h₃ => ?_) fun _ _ e => e) fun _ _ e => e
    cases f with
    | next => obtain ⟨g'', mu'', a, b, c⟩ := h₃; exact ⟨n + 1 - (i + 1), by omega, g'', mu'', i + 1, l.trans a, b, c.perm (List.perm_append_singleton _ _), hlt, rfl⟩
    | cont => obtain ⟨g'', mu'', a, b, c⟩ := h₃; exact ⟨n + 1 - (i + 1), by omega, g'', mu'', i + 1, l.trans a, b, c.perm (List.perm_append_singleton _ _), hlt, rfl⟩
    | brk => exact h₃
    | ret v => exact h₃
  · obtain rfl : i = n := Nat.le_antisymm hi (Nat.not_lt.mp hlt)
    refine T.W.done _ _ _ hst fun h₂ tk₂ hk₂ => ?_
    exact wpAny_execs_nil (done g' mu' _ l hJ (next tk₂ hk₂))
end

section
variable {w : World} {A : Around} {g : Heap} {I a : Addr}
theorem It.list {items : Array Value} (hh : A.handled = none) (hl : g.IsList a items) (hne : a ≠ I) :
    It w A g I items.size (fun i v => items[i]? = some v) (fun i h => h.IsListIter I a i ∧ h.IsList a items) [I, a] where
  W := Walks.list hh I a hne items
  on := fun i h st => let ⟨o, ho, _⟩ := st.1; ⟨o, ho⟩
  st := fun i h h' o st e e' l => ⟨st.1.at fun o' e'' => by rw [e] at e''; cases e''; exact e', hl.at fun o' e'' => l _ _ e''⟩
theorem It.range (hh : A.handled = none) (lo : Int) (n : Nat) :
    It w A g I n (fun i v => ∃ t, v = .int (lo + (i : Int)) t) (fun i h => IsRangeIter h I (lo + (i : Nat) * 1) ((n : Int) - (i : Nat)) 1) [I] where
  W := LCg.range_walks hh lo n
  on := fun i h st => ⟨_, st⟩
  st := fun i h h' o st e e' l => by
    have st' : h.get? I = some _ := st
    rw [e] at st'; cases st'
    exact e'
end

section
variable {w : World} {A : Around} {E : Value → Shared → Prop} {s₀ s : Shared} {g : Heap} {mu : Mu} {D : Shared → Prop} {Rt : Value → Shared → Prop} {target : Expr} {body : List Stmt} {env : Env}
theorem go_list {I a : Addr} {i : Nat} {s' : Shared} {v : Value} {Q' : Unit → Shared → Prop} {E' : Value → Shared → Prop} (st : s'.heap.IsListIter I a i) (h : Q' () s') : wpAny (model PR w) A (letOwnedTupleGo target (.ref I) v) Q' E' s' := by
  obtain ⟨o, ho, hc, hd⟩ := st
  have key : wpAny (model PR w) A (do
    let (.ref r, .ref a) := (Value.ref I, v) | return
    let o ← load r
    match o.cls, o.data with
    | .type n, .fields vs =>
      if ["enumerate", "zip", "dict_itemiterator", "dict_reverseitemiterator", "odict_iterator", "itertools.zip_longest", "itertools.pairwise"].contains n && vs[0]? == some (rawInt a) then
        rule "for.unpacks-the-owned-tuple"
        updateField r 0 .none
    | _, _ => pure ()) Q' E' s' := by
    cases v with
    | ref b =>
      refine wpAny_bind (wpAny_load ho ?_)
      rw [hc, hd]
      exact wpAny_pure h
    | _ => exact wpAny_pure h
  cases target with
  | Tuple => exact key
  | List => exact key
  | _ => exact wpAny_pure h

/-- for over a list that does not turn -/
theorem iter_list {a : Addr} {items : Array Value} (hh : A.handled = none) (F : Fx s₀ g mu s) (hl : g.IsList a items)
    (J : Nat → Heap → Mu → Prop) (h0 : J 0 g mu)
    (turn : ∀ i v g' mu' s' E' I PI, i < items.size → items[i]? = some v → Le g g' → J i g' mu' → Fx s₀ g' (mu' ++ [(I, PI)]) s' →
      Wp w A (assign target env v) (fun _ s₂ => Wp w A (execs body env) (Went s₀ I PI g' (J (i + 1)) D Rt) E' s₂) E' s')
    (done : ∀ g' mu' s', Le g g' → J items.size g' mu' → Fx s₀ g' mu' s' → D s') : Lp w A target body env D Rt E (.ref a) s := by
  refine ⟨fun Er => ?_⟩
  have hls : s.heap.IsList a items := hl.at fun o e => F.le _ _ e
  refine wpAny_pyIter_list hls ?_
  obtain ⟨o, ho, _⟩ := id hls
  have T : It w A g s.heap.objs.size _ _ _ _ := It.list hh hl (Nat.ne_of_lt (Heap.lt_size ho))
  have F' := F.alloc (P := fun o => o = { cls := .type "list_iterator", data := .fields #[.ref a, .int 0 0] }) _ rfl
  refine for_it T (F'.weak fun o e => ?_) J h0 (fun i s' v Q' E' st h => go_list st.1 h) (fun i v g' mu' s' E' PI hi hp l hj F' => turn i v g' mu' s' E' _ PI hi hp l hj F') done
  subst e
  exact fun h e l => ⟨⟨_, e, rfl, rfl⟩, hl.at fun o' e'' => l _ _ e''⟩

/-- for over a range by ones -/
theorem iter_range {r : Addr} {lo hi : Int} {t u v : Tok} {n : Nat} {x : Str} {px : Pos} (hh : A.handled = none) (F : Fx s₀ g mu s) (hr : IsRange s.heap r lo hi 1 t u v) (hsm : Builtin.Range.small lo hi 1 = true) (hn : Builtin.Range.rangeSize lo hi 1 = ((n : Nat) : Int))
    (J : Nat → Heap → Mu → Prop) (h0 : J 0 g mu)
    (turn : ∀ i t g' mu' s' E' I PI, i < n → Le g g' → J i g' mu' → Fx s₀ g' (mu' ++ [(I, PI)]) s' →
      Wp w A (assign (.Name x px) env (.int (lo + (i : Int)) t)) (fun _ s₂ => Wp w A (execs body env) (Went s₀ I PI g' (J (i + 1)) D Rt) E' s₂) E' s')
    (done : ∀ g' mu' s', Le g g' → J n g' mu' → Fx s₀ g' mu' s' → D s') : Lp w A (.Name x px) body env D Rt E (.ref r) s := by
  refine ⟨fun Er => ?_⟩
  refine wpAny_pyIter_range hr hsm ?_
  rw [hn]
  have T : It w A g s.heap.objs.size _ _ _ _ := It.range hh lo n
  have F' := F.alloc (P := fun o => o = { cls := .type "range_iterator", data := .fields #[rawInt lo, rawInt (n : Int), rawInt 1] }) _ rfl
  refine for_it T (F'.weak fun o e => ?_) J h0 (fun i s' v Q' E' st h => wpAny_pure h) (fun i v g' mu' s' E' PI hi hp l hj F' => ?_) done
  · subst e
    intro h e l
    show h.get? _ = some _
    rw [e]; simp [rawInt]
  · obtain ⟨t, rfl⟩ := hp
    exact turn i t g' mu' s' E' _ PI hi l hj F'

/-- for over a text's signs -/
theorem iter_str {y : Str} {t : Tok} {x : Str} {px : Pos} (hh : A.handled = none) (F : Fx s₀ g mu s)
    (J : Nat → Heap → Mu → Prop) (h0 : J 0 g mu)
    (turn : ∀ i c t g' mu' s' E' I PI, y.cps[i]? = some c → Le g g' → J i g' mu' → Fx s₀ g' (mu' ++ [(I, PI)]) s' →
      Wp w A (assign (.Name x px) env (.str ⟨#[c]⟩ t)) (fun _ s₂ => Wp w A (execs body env) (Went s₀ I PI g' (J (i + 1)) D Rt) E' s₂) E' s')
    (done : ∀ g' mu' s', Le g g' → J y.cps.size g' mu' → Fx s₀ g' mu' s' → D s') : Lp w A (.Name x px) body env D Rt E (.str y t) s := by
  refine ⟨fun Er => ?_⟩
  have go : ∀ ty, (∀ I, Walks PR w A I [I] [I] y.cps.size (SignAt y) (fun i h => h.IsStrIter I ty y t i)) →
      codeAny (model PR w) A (.forLoop (.Name x px) (.ref s.heap.objs.size) body [] env) (ForR D Rt Er) { s with heap := s.heap.push { cls := .type ty, data := .fields #[.str y t, .int 0 0] } } := fun ty W => by
    have T : It w A g s.heap.objs.size y.cps.size (SignAt y) (fun i h => h.IsStrIter s.heap.objs.size ty y t i) [s.heap.objs.size] :=
      ⟨W _, fun i h st => let ⟨o, ho, _⟩ := st; ⟨o, ho⟩, fun i h h' o st e e' _ => (W _).frame i h h' st fun b hb o' e'' => by rw [List.mem_singleton.mp hb] at e'' ⊢; rw [e] at e''; cases e''; exact e'⟩
    have F' := F.alloc (P := fun o => o = { cls := .type ty, data := .fields #[.str y t, .int 0 0] }) _ rfl
    refine for_it T (F'.weak fun o e => ?_) J h0 (fun i s' v Q' E' st h => wpAny_pure h) (fun i v g' mu' s' E' PI hi hp l hj F' => ?_) done
    · subst e
      exact fun h e l => ⟨_, e, rfl, rfl⟩
    · obtain ⟨c, u, hc, rfl⟩ := hp
      exact turn i c u g' mu' s' E' _ PI hc l hj F'
  cases ha : y.cps.all (· < 128)
  · exact wpAny_pyIter_wide ha (go _ fun I => Walks.strWide hh I y t)
  · exact wpAny_pyIter_ascii ha (go _ fun I => Walks.strAscii hh I y t)
end

section
variable {w : World} {A : Around} {E : Value → Shared → Prop} {s₀ s : Shared} {g : Heap} {mu : Mu} {env : Env} {Q : Flow → Shared → Prop} {rest : List Stmt} {pos p1 : Pos}
theorem ex_nil (h : Q .next s) : Wp w A (execs [] env) Q E s := ⟨wpAny_execs_nil h⟩
theorem ex_assign {x : Str} {value : Expr} (h : Wp w A (eval value env) (fun v s₁ => Wp w A (storeName env x v) (fun _ s₂ => Wp w A (execs rest env) Q E s₂) E s₁) E s)
    (hs : swapsWith value (some (.Name x p1)) pos.line env = pure false := by rfl) : Wp w A (execs (.Assign [.Name x p1] value pos :: rest) env) Q E s :=
  ⟨wpAny_execs_cons (wpAny_Assign_Name (wpAny_mono h.out (fun _ _ h => wpAny_mono h.out (fun _ _ h => h.out) fun _ _ e => e) fun _ _ e => e) hs)⟩
theorem ex_assign2 {elts : List Expr} {value : Expr} {k : Nat} (h : Wp w A (eval value env) (fun v s₁ => Wp w A (assign (.Tuple elts k p1) env v) (fun _ s₂ => Wp w A (execs rest env) Q E s₂) E s₁) E s)
    (h1 : swapsWithSole [.Tuple elts k p1] value pos.line env = pure false := by rfl) (h2 : swappedStores [.Tuple elts k p1] value env = pure none := by rfl) : Wp w A (execs (.Assign [.Tuple elts k p1] value pos :: rest) env) Q E s :=
  ⟨wpAny_execs_cons (Assign_Tuple (wpAny_mono h.out (fun _ _ h => wpAny_mono h.out (fun _ _ h => h.out) fun _ _ e => e) fun _ _ e => e) h1 h2)⟩
/-- what follows a statement -/
def Thru (w : World) (A : Around) (env : Env) (rest : List Stmt) (Q : Flow → Shared → Prop) (E : Value → Shared → Prop) (f : Flow) (s' : Shared) : Prop := match f with
  | .next => Wp w A (execs rest env) Q E s'
  | .brk => Q .brk s'
  | .cont => Q .cont s'
  | .ret v => Q (.ret v) s'
theorem ex_skip (h : Wp w A (execs rest env) Q E s) : Wp w A (execs [] env) (Thru w A env rest Q E) E s := ex_nil h
theorem ex_if {test : Expr} {body orelse : List Stmt} (h : Wp w A (isTrue test env (eval test env)) (fun b s₂ => Wp w A (execs (if b then body else orelse) env) (Thru w A env rest Q E) E s₂) E s) :
    Wp w A (execs (.If test body orelse pos :: rest) env) Q E s := by
  refine ⟨wpAny_execs_cons (wpAny_If (wpAny_mono h.out (fun b s₂ h₂ => ?_) fun _ _ e => e))⟩
  have key : ∀ f s', Thru w A env rest Q E f s' → (match f with | .next => wpAny (model PR w) A (execs rest env) Q E s' | f => Q f s') := fun f s' h' => by
    cases f with
    | next => exact h'.out
    | _ => exact h'
  cases b with
  | true => exact wpAny_mono h₂.out (fun f s' h' => by cases f <;> exact key _ _ h') fun _ _ e => e
  | false => exact wpAny_mono h₂.out (fun f s' h' => by cases f <;> exact key _ _ h') fun _ _ e => e
theorem ex_ret {e : Expr} (h : Wp w A (eval e env) (fun v s' => Q (.ret v) s') E s) : Wp w A (execs (.Return (some e) pos :: rest) env) Q E s := ⟨wpAny_execs_cons (wpAny_Return_some h.out)⟩
theorem ex_brk (h : Q .brk s) : Wp w A (execs (.Break pos :: rest) env) Q E s := ⟨wpAny_execs_cons (wpAny_Break h)⟩
theorem ex_expr {e : Expr} (h : Wp w A (eval e env) (fun v s' => v = .none ∧ Wp w A (execs rest env) Q E s') E s)
    (hi : interactive env = false := by rfl) (hs : swapsWith e none pos.line env = pure false := by rfl) : Wp w A (execs (.Expr e pos :: rest) env) Q E s :=
  ⟨wpAny_execs_cons (wpAny_Expr (wpAny_mono h.out (fun v s' h' => by obtain ⟨rfl, h'⟩ := h'; exact h'.out) fun _ _ e => e) hi hs)⟩
theorem ex_for {target iter : Expr} {body : List Stmt} (h : Wp w A (eval iter env) (fun x s₁ => Lp w A target body env (fun s' => Wp w A (execs rest env) Q E s') (fun v s' => Q (.ret v) s') E x s₁) E s)
    (hs : ∀ x, foldedSetIterable iter env x = pure x := by intro _; unfold foldedSetIterable; rfl) : Wp w A (execs (.For target iter body [] pos :: rest) env) Q E s := by
  refine ⟨wpAny_execs_cons (wpAny_For (wpAny_mono h.out (fun x s₁ h₁ => wpAny_mono (h₁.out (cameBackBy (model PR w) A env E)) (fun it s₂ h₂ => codeAny_mono h₂ fun r s' hr => ?_) fun _ _ e => e) fun _ _ e => e) hs)⟩
  cases r with
  | ok f =>
    cases f with
    | next => exact hr.out
    | ret v => exact hr
    | brk => exact hr.elim
    | cont => exact hr.elim
  | error e => exact hr
end
end Mine

end
section
open PySem PySem.W PyProof.Rows PySem.Calls PySem.Spec
set_option Elab.async false
set_option maxRecDepth 100000
set_option autoImplicit false
namespace Mine
section
variable {w : World} {A : Around} {E : Value → Shared → Prop} {s₀ s : Shared} {g : Heap} {mu : Mu} {env : Env} {Q : Value → Shared → Prop} {pos p1 : Pos} {x : Str} {e : Expr} {es : List Expr}

theorem ev_binop {l r : Expr} {op : Operator} (h : Wp w A (eval l env) (fun a s₁ => Wp w A (eval r env) (fun b s₂ => Wp w A (binaryOp op a b) Q E s₂) E s₁) E s) : Wp w A (eval (.BinOp l op r pos) env) Q E s :=
  ⟨wpAny_BinOp (wpAny_mono h.out (fun _ _ h => wpAny_mono h.out (fun _ _ h => h.out) fun _ _ e => e) fun _ _ e => e)⟩
theorem ev_sub {v sl : Expr} (h : Wp w A (eval v env) (fun o s₁ => Wp w A (eval sl env) (fun i s₂ => Wp w A (subscriptTail v sl o i) Q E s₂) E s₁) E s) : Wp w A (eval (.Subscript v sl pos) env) Q E s :=
  ⟨Subscript_ (wpAny_mono h.out (fun _ _ h => wpAny_mono h.out (fun _ _ h => h.out) fun _ _ e => e) fun _ _ e => e)⟩
theorem ev_tuple {k : Nat} (h : Wp w A (spliced (backTo pos (starEach es env))) (fun vs s₁ => Wp w A (newTuple vs) Q E s₁) E s) : Wp w A (eval (.Tuple es k pos) env) Q E s :=
  ⟨Tuple_ (wpAny_mono h.out (fun _ _ h => h.out) fun _ _ e => e)⟩
theorem ev_list (h : Wp w A (spliced (backTo pos (starEach es env))) (fun vs s₁ => Wp w A (newList vs) Q E s₁) E s) : Wp w A (eval (.List es pos) env) Q E s :=
  ⟨List_ (wpAny_mono h.out (fun _ _ h => h.out) fun _ _ e => e)⟩
theorem sp_cons {Q : List Value → Shared → Prop} (h : Wp w A (eval e env) (fun v s₁ => Wp w A (spliced (backTo pos (starEach es env))) (fun vs s₂ => Q (v :: vs) s₂) E s₁) E s)
    (hst : starEach (e :: es) env = (false, eval e env) :: starEach es env := by rfl) : Wp w A (spliced (backTo pos (starEach (e :: es) env))) Q E s :=
  ⟨spliced_more (wpAny_mono h.out (fun _ _ h => h.out) fun _ _ e => e) hst⟩
theorem sp_nil {Q : List Value → Shared → Prop} (h : Q [] s) : Wp w A (spliced (backTo pos (starEach [] env))) Q E s := ⟨spliced_none h⟩

theorem it_cmp {l r : Expr} {op : CmpOp} {whole : Sem Value} {Q : Bool → Shared → Prop} (h : Wp w A (eval l env) (fun a s₁ => Wp w A (eval r env) (fun b s₂ => Wp w A (compareOp op a b) (fun c s₃ => Wp w A (truthy c) Q E s₃) E s₂) E s₁) E s)
    (hb : behindInMarks op r = false := by rfl) : Wp w A (isTrue (.Compare l [op] [r] pos) env whole) Q E s :=
  ⟨wpAny_isTrue_Compare1 (wpAny_mono h.out (fun _ _ h => wpAny_mono h.out (fun _ _ h => wpAny_mono h.out (fun _ _ h => h.out) fun _ _ e => e) fun _ _ e => e) fun _ _ e => e) hb⟩
theorem tr_bool {b : Bool} {Q : Bool → Shared → Prop} (h : Q b s) : Wp w A (truthy (.bool b)) Q E s := ⟨wpAny_truthy_bool h⟩
theorem it_not {y : Expr} {whole : Sem Value} {Q : Bool → Shared → Prop} (h : Wp w A (isTrue y env (eval y env)) (fun b s' => Q (!b) s') E s) : Wp w A (isTrue (.UnaryOp .Not y pos) env whole) Q E s :=
  ⟨by show wpAny _ _ (do return !(← isTrue y env (eval y env))) _ _ _; exact wpAny_bind (wpAny_mono h.out (fun _ _ h => wpAny_pure h) fun _ _ e => e)⟩
theorem it_and2 {a b : Expr} {whole : Sem Value} {Q : Bool → Shared → Prop} (h : Wp w A (isTrue a env (eval a env)) (fun x s₁ => (x = false → Q false s₁) ∧ (x = true → Wp w A (isTrue b env (eval b env)) Q E s₁)) E s) : Wp w A (isTrue (.BoolOp .And [a, b] pos) env whole) Q E s := by
  refine ⟨?_⟩
  have e2 : ∀ x rest, allTrue .And (x :: rest) env = (isTrue x env (eval x env) >>= fun r => if r then allTrue .And rest env else pure false) := fun x rest => by
    rw [allTrue]
    refine congrArg (fun f => isTrue x env (eval x env) >>= f) (funext fun r => ?_)
    cases r <;> rfl
  show wpAny _ _ (allTrue .And [a, b] env) _ _ _
  rw [e2]
  refine wpAny_bind (wpAny_mono h.out (fun x s₁ h₁ => ?_) fun _ _ e => e)
  cases x with
  | false => exact wpAny_pure (h₁.1 rfl)
  | true =>
    show wpAny _ _ (allTrue .And [b] env) _ _ _
    rw [e2]
    refine wpAny_bind (wpAny_mono (h₁.2 rfl).out (fun y s₂ h₂ => ?_) fun _ _ e => e)
    cases y with
    | false => exact wpAny_pure h₂
    | true => show wpAny _ _ (allTrue .And [] env) _ _ _; rw [allTrue]; exact wpAny_pure h₂
theorem it_or2 {a b : Expr} {whole : Sem Value} {Q : Bool → Shared → Prop} (h : Wp w A (isTrue a env (eval a env)) (fun x s₁ => (x = true → Q true s₁) ∧ (x = false → Wp w A (isTrue b env (eval b env)) Q E s₁)) E s) : Wp w A (isTrue (.BoolOp .Or [a, b] pos) env whole) Q E s := by
  refine ⟨?_⟩
  have e2 : ∀ x rest, allTrue .Or (x :: rest) env = (isTrue x env (eval x env) >>= fun r => if r then pure true else allTrue .Or rest env) := fun x rest => by
    rw [allTrue]
    refine congrArg (fun f => isTrue x env (eval x env) >>= f) (funext fun r => ?_)
    cases r <;> rfl
  show wpAny _ _ (allTrue .Or [a, b] env) _ _ _
  rw [e2]
  refine wpAny_bind (wpAny_mono h.out (fun x s₁ h₁ => ?_) fun _ _ e => e)
  cases x with
  | true => exact wpAny_pure (h₁.1 rfl)
  | false =>
    show wpAny _ _ (allTrue .Or [b] env) _ _ _
    rw [e2]
    refine wpAny_bind (wpAny_mono (h₁.2 rfl).out (fun y s₂ h₂ => ?_) fun _ _ e => e)
    cases y with
    | true => exact wpAny_pure h₂
    | false => show wpAny _ _ (allTrue .Or [] env) _ _ _; rw [allTrue]; exact wpAny_pure h₂

/-- a call of a def of the text -/
theorem callG {f : Addr} (G : Gd w g) (F : Fx s₀ g mu s) (hn : nsIn (hd.heap_39 w.params) mainGlobals x = some (some (.ref f))) (hkp : keepIn (hd.heap_39 w.params) (.ref f) = true)
    (h : Wp w A (spliced (backTo pos (starEach (e :: es) env))) (fun vs s₁ => (∃ g' mu', Le g g' ∧ Fx s₀ g' mu' s₁) ∧ Wp w A (call (.ref f) vs) Q E s₁) E s)
    (hk : env.scope.kind = .function := by rfl) (hx : env.kindOf x = some .globalImplicit := by rfl) (hg : env.globals = mainGlobals := by rfl) (hdb : (x == ("__debug__" : Str)) = false := by decide)
    (hst : starEach (e :: es) env = (false, eval e env) :: starEach es env := by rfl) (hst2 : ((backTo pos (starEach es env)).any fun x => x.1) = false := by rfl) :
    Wp w A (eval (.Call (.Name x p1) (e :: es) [] pos) env) Q E s := by
  obtain ⟨_, _, _, T⟩ := G.T
  refine ⟨Call_ (Name_function_global hk hx (loadGlobal_global (hg ▸ T.g.keeps F.le) (mg_of G.K T.g hn) ?_) hdb)⟩
  exact callWith_K G.K hkp (wpAny_mono h.out (fun vs s₁ h₁ => ⟨let ⟨_, _, l, F'⟩ := h₁.1; G.K.keeps (l.trans F'.le), h₁.2.out⟩) fun _ _ e => e) hst hst2
/-- a call of a built-in function -/
theorem callB {id : String} (G : Gd w g) (F : Fx s₀ g mu s) (hn : nsIn (hd.heap_39 w.params) mainGlobals x = some none) (hv : bootBuiltins x = some (.builtin id)) 
    (h : Wp w A (spliced (backTo pos (starEach (e :: es) env))) (fun vs s₁ => Wp w A (call (.builtin id) vs) Q E s₁) E s) (hnn : x ≠ "__name__" := by decide)
    (hk : env.scope.kind = .function := by rfl) (hx : env.kindOf x = some .globalImplicit := by rfl) (hg : env.globals = mainGlobals := by rfl) (hb : env.builtins = builtinsNs := by rfl) (hdb : (x == ("__debug__" : Str)) = false := by decide)
    (hst : starEach (e :: es) env = (false, eval e env) :: starEach es env := by rfl) (hst2 : ((backTo pos (starEach es env)).any fun x => x.1) = false := by rfl) :
    Wp w A (eval (.Call (.Name x p1) (e :: es) [] pos) env) Q E s := by
  obtain ⟨_, _, _, T⟩ := G.T
  exact ⟨Call_ (Name_function_global hk hx (loadGlobal_builtin (hg ▸ T.g.keeps F.le) (mg_none_of G.K T.g hn) (hb ▸ T.b.keeps F.le) ((T.builtins x hnn).trans hv) (PyProof.Rows.callWith_builtin1 (wpAny_mono h.out (fun _ _ h => h.out) fun _ _ e => e) hst hst2)) hdb)⟩
/-- a call of a built-in class -/
theorem callT {T : String} (G : Gd w g) (F : Fx s₀ g mu s) (hn : nsIn (hd.heap_39 w.params) mainGlobals x = some none) (hv : bootBuiltins x = some (.type T)) 
    (h : Wp w A (spliced (backTo pos (starEach (e :: es) env))) (fun vs s₁ => Wp w A (call (.type T) vs) Q E s₁) E s) (hnn : x ≠ "__name__" := by decide)
    (hk : env.scope.kind = .function := by rfl) (hx : env.kindOf x = some .globalImplicit := by rfl) (hg : env.globals = mainGlobals := by rfl) (hb : env.builtins = builtinsNs := by rfl) (hdb : (x == ("__debug__" : Str)) = false := by decide)
    (hst : starEach (e :: es) env = (false, eval e env) :: starEach es env := by rfl) (hst2 : ((backTo pos (starEach es env)).any fun x => x.1) = false := by rfl) :
    Wp w A (eval (.Call (.Name x p1) (e :: es) [] pos) env) Q E s := by
  obtain ⟨_, _, _, T⟩ := G.T
  exact ⟨Call_ (Name_function_global hk hx (loadGlobal_builtin (hg ▸ T.g.keeps F.le) (mg_none_of G.K T.g hn) (hb ▸ T.b.keeps F.le) ((T.builtins x hnn).trans hv) (PyProof.Rows.callWith_type1 (wpAny_mono h.out (fun _ _ h => h.out) fun _ _ e => e) hst hst2)) hdb)⟩

/-- a new list, still from now on -/
theorem mkList {vs : List Value} (F : Fx s₀ g mu s) (h : ∀ a s' g', Le g g' → g'.get? a = some { cls := .type "list", data := .seq vs.toArray } → Fx s₀ g' mu s' → Q (.ref a) s') (hsz : vs.length ≤ sizeLine := by size_fits) :
    Wp w A (newList vs) Q E s := by
  refine ⟨wpAny_newObj_type ?_ (by show vs.toArray.size ≤ sizeLine; rw [List.size_toArray]; exact hsz)⟩
  obtain ⟨g', l, e, F'⟩ := F.allocF { cls := .type "list", data := .seq vs.toArray }
  exact h _ _ g' l e F'
theorem mkTuple {vs : List Value} (F : Fx s₀ g mu s) (h : ∀ a s' g', Le g g' → g'.get? a = some { cls := .type "tuple", data := .seq vs.toArray } → Fx s₀ g' mu s' → Q (.ref a) s') (hsz : vs.length ≤ sizeLine := by size_fits) :
    Wp w A (newTuple vs) Q E s := by
  refine ⟨wpAny_newObj_type ?_ (by show vs.toArray.size ≤ sizeLine; rw [List.size_toArray]; exact hsz)⟩
  obtain ⟨g', l, e, F'⟩ := F.allocF { cls := .type "tuple", data := .seq vs.toArray }
  exact h _ _ g' l e F'
/-- a new list that will turn -/
theorem mkListM {vs : List Value} (F : Fx s₀ g mu s) (h : ∀ a s', Fx s₀ g ((a, Lst vs) :: mu) s' → Q (.ref a) s') (hsz : vs.length ≤ sizeLine := by size_fits) :
    Wp w A (newList vs) Q E s := by
  refine ⟨wpAny_newObj_type ?_ (by show vs.toArray.size ≤ sizeLine; rw [List.size_toArray]; exact hsz)⟩
  exact h _ _ (F.alloc (P := Lst vs) { cls := .type "list", data := .seq vs.toArray } ⟨0, rfl⟩)
end

theorem tup_up {g g' : Heap} {a : Addr} {vs : Array Value} (l : Le g g') (x : g.IsTuple a vs) : g'.IsTuple a vs := let ⟨o, ho, r⟩ := x; ⟨o, l _ _ ho, r⟩
theorem lst_up {g g' : Heap} {a : Addr} {vs : Array Value} (l : Le g g') (x : g.IsList a vs) : g'.IsList a vs := let ⟨o, ho, r⟩ := x; ⟨o, l _ _ ho, r⟩
section
variable {w : World} {A : Around} {E : Value → Shared → Prop} {s₀ s : Shared} {g : Heap} {mu : Mu} {env : Env} {L : Addr} {l : List (Str × Value)}
theorem as_name {x : Str} {p : Pos} {v : Value} {Q : Unit → Shared → Prop} (F : Fx s₀ g ((L, Loc l) :: mu) s) (h : ∀ s', Fx s₀ g ((L, Loc (put x v l)) :: mu) s' → Q () s')
    (hL : env.locals = L := by rfl) (hk : env.scope.kind = .function := by rfl) (hl : env.kindOf x = some .local := by rfl) : Wp w A (assign (.Name x p) env v) Q E s := ⟨wpAny_assign_Name (sto (w := w) F h hL hk hl).out⟩
theorem as_pair {x y : Str} {p q pos : Pos} {k : Nat} {t : Addr} {v u : Value} {Q : Unit → Shared → Prop} (hh : A.handled = none) (F : Fx s₀ g ((L, Loc l) :: mu) s) (ht : g.IsTuple t #[v, u])
    (h : ∀ s', Fx s₀ g ((L, Loc (put y u (put x v l))) :: mu) s' → Q () s')
    (hL : env.locals = L := by rfl) (hk : env.scope.kind = .function := by rfl) (hx : env.kindOf x = some .local := by rfl) (hy : env.kindOf y = some .local := by rfl) :
    Wp w A (assign (.Tuple [.Name x p, .Name y q] k pos) env (.ref t)) Q E s := by
  refine ⟨wpAny_assign_Tuple hh (tup_up F.le ht) rfl rfl fun h' hs => ?_⟩
  have F' := F.ext s.toks hs
  show wpAny _ _ (do holding [u] (assign (.Name x p) env v); do holding [] (assign (.Name y q) env u); pure ()) Q E _
  exact wpAny_bind (wpAny_holding (as_name (w := w) F' (fun s₁ F₁ => wpAny_bind (wpAny_holding (as_name (w := w) F₁ (fun s₂ F₂ => wpAny_pure (h _ F₂)) hL hk hy).out)) hL hk hx).out)
end

section
variable {w : World} {A : Around} {E : Value → Shared → Prop} {s₀ s : Shared} {g : Heap} {mu : Mu} {env : Env} {Q : Value → Shared → Prop} {pos : Pos} {k : Nat}
theorem ct_int {i : Int} (F : Fx s₀ g mu s) (h : ∀ t s', Fx s₀ g mu s' → Q (.int i t) s') : Wp w A (eval (.Constant (.int i) k pos) env) Q E s := ⟨wpAny_mkInt (h _ _ (F.tok _))⟩
theorem ct_str {x : Str} (F : Fx s₀ g mu s) (h : ∀ t s', Fx s₀ g mu s' → Q (.str x t) s') : Wp w A (eval (.Constant (.str x) k pos) env) Q E s := ⟨wpAny_mkText (h _ _ (F.tok _))⟩
theorem ct_none (h : Q .none s) : Wp w A (eval (.Constant .none k pos) env) Q E s := ⟨wpAny_pure h⟩
theorem ct_bool {b : Bool} (h : Q (.bool b) s) : Wp w A (eval (.Constant (.bool b) k pos) env) Q E s := ⟨wpAny_pure h⟩
theorem op_add {a b : Int} {t u : Tok} (F : Fx s₀ g mu s) (h : ∀ t s', Fx s₀ g mu s' → Q (.int (a + b) t) s') : Wp w A (binaryOp .Add (.int a t) (.int b u)) Q E s := ⟨add_int (h _ _ (F.tok _))⟩
theorem op_sub {a b : Int} {t u : Tok} (F : Fx s₀ g mu s) (h : ∀ t s', Fx s₀ g mu s' → Q (.int (a - b) t) s') : Wp w A (binaryOp .Sub (.int a t) (.int b u)) Q E s := ⟨sub_int (h _ _ (F.tok _))⟩
theorem op_mul {a b : Int} {t u : Tok} (hm : IntMulOk a b) (F : Fx s₀ g mu s) (h : ∀ t s', Fx s₀ g mu s' → Q (.int (a * b) t) s') : Wp w A (binaryOp .Mult (.int a t) (.int b u)) Q E s := ⟨mul_int (h _ _ (F.tok _)) hm⟩
theorem op_mod {a b : Int} {t u : Tok} (hb : b ≠ 0) (F : Fx s₀ g mu s) (h : ∀ t s', Fx s₀ g mu s' → Q (.int (a.fmod b) t) s') : Wp w A (binaryOp .Mod (.int a t) (.int b u)) Q E s := ⟨mod_int hb (h _ _ (F.tok _))⟩
theorem op_cat {x y : Str} {t u : Tok} (hs : x.length + y.length ≤ sizeLine) (F : Fx s₀ g mu s) (h : ∀ t s', Fx s₀ g mu s' → Q (.str (x ++ y) t) s') : Wp w A (binaryOp .Add (.str x t) (.str y u)) Q E s := ⟨add_str (fun _ _ => h _ _ (F.tok _)) hs⟩
theorem at_str {value slice : Expr} {x : Str} {i : Nat} {c : Nat} {t u : Tok} (hc : x.cps[i]? = some c) (hi : i < 1000) (F : Fx s₀ g mu s) (h : ∀ t s', Fx s₀ g mu s' → Q (.str ⟨#[c]⟩ t) s')
    (h1 : subscripted slice false (.str x t) (.int (i : Int) u) = operate [.str x t, .int (i : Int) u] (getItem (.str x t) (.int (i : Int) u)) := by rfl) (h2 : ∀ r, letTemporaryGo value (.str x t) r = pure () := by intro _; rfl) :
    Wp w A (subscriptTail value slice (.str x t) (.int (i : Int) u)) Q E s := by
  have hlt : i < x.length := by
    rcases Nat.lt_or_ge i x.cps.size with q | q
    · exact q
    · rw [Array.getElem?_eq_none q] at hc; cases hc
  refine ⟨item_str (by simp only [fitsSsize, Bool.not_eq_true', Bool.or_eq_false_iff, decide_eq_false_iff_not]; omega) (by omega) (by omega) (fun _ => ?_) h1 h2⟩
  have e : Txt.item x (i : Int) = ⟨#[c]⟩ := by
    have : Txt.charAt x (i : Int) = some c := by
      unfold Txt.charAt
      have : seqIndex? (i : Int) x.length = some i := by
        unfold seqIndex?
        simp
        omega
      rw [this]
      exact hc
    unfold Txt.item; rw [this]; rfl
  rw [e]
  exact h _ _ (F.tok _)
theorem mul10 (b : Int) : IntMulOk 10 b := by
  unfold IntMulOk
  rw [show Builtin.Int.intBits 10 = 4 from by decide]
  simp [shortFactorBits]
theorem bi_ord {c : Nat} {t : Tok} (F : Fx s₀ g mu s) (h : ∀ t s', Fx s₀ g mu s' → Q (.int (c : Int) t) s') : Wp w A (call (.builtin "ord") [.str ⟨#[c]⟩ t]) Q E s := ⟨P.ord_of_char (h _ _ (F.tok _))⟩
/-- a sign in a text -/
theorem cm_in1 {x : Str} {c : Nat} {t u : Tok} (h : Q (.bool (decide (c ∈ x.cps.toList))) s) : Wp w A (compareOp .In (.str ⟨#[c]⟩ u) (.str x t)) Q E s := ⟨in_str (by rw [StrLaws.found_one]; exact h)⟩
end

/-- a value stands for a datum in the still part -/
def Rd (g : Heap) (v : Value) (d : PyData) : Prop := ∃ as, Reads g v d as
def RdA (g : Heap) (vs : List Value) (ds : List PyData) : Prop := ∃ as, ReadsAll g vs ds as
theorem Rd.up {g g' : Heap} {v : Value} {d : PyData} (l : Le g g') (x : Rd g v d) : Rd g' v d := let ⟨as, h⟩ := x; ⟨as, PyProof.Rows.Reads.keeps l h⟩
theorem RdA.up {g g' : Heap} {v : List Value} {d : List PyData} (l : Le g g') (x : RdA g v d) : RdA g' v d := let ⟨as, h⟩ := x; ⟨as, PyProof.Rows.ReadsAll.keeps l h⟩
theorem Rd.int {g : Heap} (i : Int) (t : Tok) : Rd g (.int i t) (.int i) := ⟨_, .int i t⟩
theorem Rd.str {g : Heap} (x : Str) (t : Tok) : Rd g (.str x t) (.str x) := ⟨_, .str x t⟩
theorem RdA.nil {g : Heap} : RdA g [] [] := ⟨_, .nil⟩
theorem RdA.cons {g : Heap} {v : Value} {vs : List Value} {d : PyData} {ds : List PyData} (x : Rd g v d) (y : RdA g vs ds) : RdA g (v :: vs) (d :: ds) := let ⟨_, h⟩ := x; let ⟨_, k⟩ := y; ⟨_, .cons h k⟩
theorem Rd.list {g : Heap} {a : Addr} {vs : List Value} {n : Nat} {ds : List PyData} (e : g.get? a = some { cls := .type "list", data := .seq vs.toArray n }) (y : RdA g vs ds) : Rd g (.ref a) (.list ds) := let ⟨_, k⟩ := y; ⟨_, .list e rfl rfl k⟩
theorem Rd.tuple {g : Heap} {a : Addr} {vs : List Value} {n : Nat} {ds : List PyData} (e : g.get? a = some { cls := .type "tuple", data := .seq vs.toArray n }) (y : RdA g vs ds) : Rd g (.ref a) (.tuple ds) := let ⟨_, k⟩ := y; ⟨_, .tuple e rfl rfl k⟩
theorem Rd.inv_int {g : Heap} {v : Value} {i : Int} (x : Rd g v (.int i)) : ∃ t, v = .int i t := by obtain ⟨_, h⟩ := x; cases h; exact ⟨_, rfl⟩
theorem Rd.inv_str {g : Heap} {v : Value} {y : Str} (x : Rd g v (.str y)) : ∃ t, v = .str y t := by obtain ⟨_, h⟩ := x; cases h; exact ⟨_, rfl⟩
theorem Rd.inv_list {g : Heap} {v : Value} {ds : List PyData} (x : Rd g v (.list ds)) : ∃ a vs, v = .ref a ∧ g.IsList a vs.toArray ∧ RdA g vs ds := by
  obtain ⟨_, h⟩ := x
  cases h with
  | list h1 h2 h3 h4 => exact ⟨_, _, rfl, ⟨_, h1, h2, _, h3⟩, _, h4⟩
theorem Rd.inv_tuple {g : Heap} {v : Value} {ds : List PyData} (x : Rd g v (.tuple ds)) : ∃ a vs, v = .ref a ∧ g.IsTuple a vs.toArray ∧ RdA g vs ds := by
  obtain ⟨_, h⟩ := x
  cases h with
  | tuple h1 h2 h3 h4 => exact ⟨_, _, rfl, ⟨_, h1, h2, _, h3⟩, _, h4⟩
theorem RdA.len {g : Heap} {vs : List Value} {ds : List PyData} (x : RdA g vs ds) : vs.length = ds.length := by
  obtain ⟨_, h⟩ := x
  exact SeqAt.ReadsAll.length _ _ _ h
theorem RdA.inv {g : Heap} {vs : List Value} {d : PyData} {ds : List PyData} (x : RdA g vs (d :: ds)) : ∃ v vs', vs = v :: vs' ∧ Rd g v d ∧ RdA g vs' ds := by
  obtain ⟨_, h⟩ := x
  cases h with
  | cons h1 h2 => exact ⟨_, _, rfl, ⟨_, h1⟩, ⟨_, h2⟩⟩
theorem RdA.inv0 {g : Heap} {vs : List Value} (x : RdA g vs []) : vs = [] := by
  obtain ⟨_, h⟩ := x
  cases h; rfl
theorem RdA.get {g : Heap} : ∀ {ds : List PyData} {vs : List Value} {i : Nat} {v : Value}, RdA g vs ds → vs[i]? = some v → ∃ d, ds[i]? = some d ∧ Rd g v d
  | [], vs, i, v, x, e => by rw [x.inv0] at e; cases e
  | d :: ds, vs, i, v, x, e => by
    obtain ⟨u, us, rfl, h1, h2⟩ := x.inv
    cases i with
    | zero => cases e; exact ⟨d, rfl, h1⟩
    | succ i => exact RdA.get (ds := ds) h2 (by simpa using e)
theorem RdA.snoc {g : Heap} : ∀ {ds : List PyData} {vs : List Value} {v : Value} {d : PyData}, RdA g vs ds → Rd g v d → RdA g (vs ++ [v]) (ds ++ [d])
  | [], vs, v, d, x, y => by rw [x.inv0]; exact .cons y .nil
  | e :: ds, vs, v, d, x, y => by
    obtain ⟨u, us, rfl, h1, h2⟩ := x.inv
    exact .cons h1 (RdA.snoc h2 y)

/-- a def of the text keeps its word -/
def Pc (w : World) (f : Addr) (vs : List Value) (k : Nat) (Pre : Heap → Prop) (Out : Heap → Value → Prop) : Prop :=
  ∀ (A : Around) (s₀ s : Shared) (g : Heap) (mu : Mu) (Q E : Value → Shared → Prop), Gd w g → Rm A k → Fx s₀ g mu s → Pre g →
    (∀ r s' g', Le g g' → Fx s₀ g' mu s' → Out g' r → Q r s') → Wp w A (call (.ref f) vs) Q E s
end Mine

end
section
open PySem PySem.W PyProof.Rows PySem.Calls PySem.Spec
set_option Elab.async false
set_option maxRecDepth 100000
set_option autoImplicit false
namespace Mine
section
variable {w : World} {A : Around} {E : Value → Shared → Prop} {s₀ s : Shared} {g : Heap} {mu : Mu} {env : Env} {Q : Value → Shared → Prop} {pos p1 apos : Pos} {L D : Addr} {l : List (Str × Value)} {vs : List Value}
theorem ev_cmp {a b : Expr} {op : CmpOp} (h : Wp w A (eval a env) (fun x s₁ => Wp w A (eval b env) (fun y s₂ => Wp w A (compareOp op x y) Q E s₂) E s₁) E s) (hb : behindInMarks op b = false := by rfl) : Wp w A (eval (.Compare a [op] [b] pos) env) Q E s :=
  ⟨wpAny_Compare1 (wpAny_mono h.out (fun _ _ h => wpAny_mono h.out (fun _ _ h => h.out) fun _ _ e => e) fun _ _ e => e) hb⟩
/-- x.append(e) -/
theorem ev_append {x : Str} {e : Expr} {pl : Sem Bool} (F : Fx s₀ g mu s) (hm : (env.locals, Loc l) ∈ mu) (hv : (x, .ref D) ∈ l) (hD : (D, Lst vs) ∈ mu)
    (h : Wp w A (eval e env) (fun v s₁ => ∃ g' vs' L' l' mu', Fx s₀ g' ((L', Loc l') :: (D, Lst vs') :: mu') s₁ ∧ vs'.length ≤ 1000000 ∧ (∀ s', Fx s₀ g' ((L', Loc l') :: (D, Lst (vs' ++ [v])) :: mu') s' → Q .none s')) E s)
    (hk : env.scope.kind = .function := by rfl) (hl : env.kindOf x = some .local := by rfl) (hdb : (x == ("__debug__" : Str)) = false := by decide) (hst : starEach [e] env = (false, eval e env) :: starEach [] env := by rfl)
    (he : eval (.Call (.Attribute (.Name x p1) (Str.ofString "append") apos) [e] [] pos) env = (do
      let ov ← eval (.Name x p1) env
      standAt apos.atName
      let (f, first) ← holding [ov] (getMethod ov (Str.ofString "append") pl)
      callWith pos f first (backTo pos (starEach [e] env)) []) := by rfl) :
    Wp w A (eval (.Call (.Attribute (.Name x p1) (Str.ofString "append") apos) [e] [] pos) env) Q E s := by
  obtain ⟨o, ho, m, hn, hl'⟩ := F.get hm
  obtain ⟨od, hod, n, rfl⟩ := F.get hD
  refine ⟨MethodCall_ (pl := pl) (wpAny_Name (wpAny_loadName_local hk hl (hn.ns ho) (hl' _ hv) (getMethod_list_append hod rfl rfl (callWith_method1 (spliced_more (wpAny_mono h.out (fun v s₁ h₁ => spliced_none ?_) fun _ _ e => e) hst) hst rfl))) hdb) he⟩
  obtain ⟨g', vs', L', l', mu', F', hsz, hQ⟩ := h₁
  obtain ⟨od', hod', n', rfl⟩ := F'.get (.tail _ (.head _))
  refine append_at hod' (fun h' hs ho' => ?_) (by rw [List.size_toArray]; exact Nat.le_trans hsz (by rw [sizeLine_eq]; decide))
  have F2 := F'.swap.upd (P' := Lst (vs' ++ [v])) s₁.toks hs ho' ⟨n' + 1, by rw [List.push_toArray]⟩
  exact hQ _ F2.swap
theorem cm_ne_str {x y : Str} {t u : Tok} (h : Q (.bool (x.cps.toList != y.cps.toList)) s) : Wp w A (compareOp .NotEq (.str x t) (.str y u)) Q E s := ⟨P.ne_str h⟩
theorem cm_ne_bool {a b : Bool} (h : Q (.bool (a != b)) s) : Wp w A (compareOp .NotEq (.bool a) (.bool b)) Q E s := ⟨ne_bool h⟩
theorem cm_nin1 {x : Str} {c : Nat} {t u : Tok} (h : Q (.bool (!decide (c ∈ x.cps.toList))) s) : Wp w A (compareOp .NotIn (.str ⟨#[c]⟩ u) (.str x t)) Q E s := ⟨P.notIn_str (by rw [StrLaws.found_one]; exact h)⟩
end
section
variable {w : World} {A : Around} {E : Value → Shared → Prop} {s : Shared} {env : Env} {Q : Flow → Shared → Prop} {rest : List Stmt} {pos : Pos}
/-- an if whose ways meet -/
theorem ex_if_to {test : Expr} {body orelse : List Stmt} (M : Shared → Prop) (h : Wp w A (isTrue test env (eval test env)) (fun b s₂ => Wp w A (execs (if b then body else orelse) env) (fun f s' => f = .next ∧ M s') E s₂) E s)
    (k : ∀ s', M s' → Wp w A (execs rest env) Q E s') : Wp w A (execs (.If test body orelse pos :: rest) env) Q E s :=
  ex_if (wp_mono h fun _ _ h₁ => wp_mono h₁ fun f s' h₂ => by obtain ⟨rfl, h₂⟩ := h₂; exact k s' h₂)
end
end Mine

end
section
open PySem PySem.W PyProof.Rows PySem.Calls PySem.Spec
set_option Elab.async false
set_option maxRecDepth 100000
set_option autoImplicit false
namespace Mine
section
variable {w : World} {A : Around} {E : Value → Shared → Prop} {s₀ s : Shared} {g : Heap} {mu : Mu} {env : Env} {Q : Value → Shared → Prop} {pos p1 apos : Pos}
theorem bi_len_str {x : Str} {t : Tok} (hx : x.length ≤ 1000000) (F : Fx s₀ g mu s) (h : ∀ t s', Fx s₀ g mu s' → Q (.int (x.length : Int) t) s') : Wp w A (call (.builtin "len") [.str x t]) Q E s := ⟨len_str (by omega) (h _ _ (F.tok _))⟩
theorem bi_len_list {a : Addr} {vs : List Value} (F : Fx s₀ g mu s) (hl : g.IsList a vs.toArray) (h : ∀ t s', Fx s₀ g mu s' → Q (.int (vs.length : Int) t) s') (hx : vs.length ≤ 1000000) : Wp w A (call (.builtin "len") [.ref a]) Q E s := by
  exact ⟨len_list (lst_up F.le hl) (by rw [List.size_toArray]; omega) (by rw [List.size_toArray]; exact h _ _ (F.tok _))⟩
theorem bi_range {n : Int} {t : Tok} (F : Fx s₀ g mu s) (h : ∀ r s' g' t u, Le g g' → g'.get? r = some { cls := .type "range", data := .fields #[.int 0 t, .int n u, .int 1 (t + 1)] } → Fx s₀ g' mu s' → Q (.ref r) s') : Wp w A (call (.type "range") [.int n t]) Q E s := by
  refine ⟨call_range_1 ?_⟩
  obtain ⟨g', l, e, F'⟩ := F.allocF { cls := .type "range", data := .fields #[.int 0 s.toks, .int n t, .int 1 (s.toks + 1)] }
  exact h _ _ g' _ _ l e (F'.tok _)
theorem cm_eq_str {x y : Str} {t u : Tok} (h : Q (.bool (x.cps.toList == y.cps.toList)) s) : Wp w A (compareOp .Eq (.str x t) (.str y u)) Q E s := ⟨P.eq_str h⟩
theorem cm_lt {a b : Int} {t u : Tok} (h : Q (.bool (decide (a < b))) s) : Wp w A (compareOp .Lt (.int a t) (.int b u)) Q E s := ⟨PyProof.Rows.lt_int h⟩
theorem cm_le {a b : Int} {t u : Tok} (h : Q (.bool (decide (a ≤ b))) s) : Wp w A (compareOp .LtE (.int a t) (.int b u)) Q E s := ⟨PyProof.Rows.le_int h⟩
theorem cm_eq {a b : Int} {t u : Tok} (h : Q (.bool (a == b)) s) : Wp w A (compareOp .Eq (.int a t) (.int b u)) Q E s := ⟨PyProof.Rows.eq_int h⟩
end
section
variable {w : World} {A : Around} {E : Value → Shared → Prop} {s₀ s : Shared} {g : Heap} {mu : Mu} {D : Shared → Prop} {Rt : Value → Shared → Prop} {body : List Stmt} {env : Env}
/-- for x in range(n) -/
theorem iter_rangeN {r : Addr} {t u v : Tok} {n : Nat} {x : Str} {px : Pos} (hh : A.handled = none) (F : Fx s₀ g mu s) (hr : g.get? r = some { cls := .type "range", data := .fields #[.int 0 t, .int (n : Int) u, .int 1 v] }) (hn : n ≤ 1000000)
    (J : Nat → Heap → Mu → Prop) (h0 : J 0 g mu)
    (turn : ∀ (i : Nat) t g' mu' s' E' I PI, i < n → Le g g' → J i g' mu' → Fx s₀ g' (mu' ++ [(I, PI)]) s' →
      Wp w A (assign (.Name x px) env (.int (i : Int) t)) (fun _ s₂ => Wp w A (execs body env) (Went s₀ I PI g' (J (i + 1)) D Rt) E' s₂) E' s')
    (done : ∀ g' mu' s', Le g g' → J n g' mu' → Fx s₀ g' mu' s' → D s') : Lp w A (.Name x px) body env D Rt E (.ref r) s := by
  refine iter_range hh F (F.le _ _ hr) (small_one (by omega) (by omega) (by omega) (by omega)) (rangeSize_nat _ _) J h0 (fun i t g' mu' s' E' I PI hi l hj F' => ?_) fun g' mu' s' l hj F' => ?_
  · have := turn i t g' mu' s' E' I PI (by omega) l hj F'
    rw [Int.zero_add]; exact this
  · have e : ((n : Int) - 0).toNat = n := by omega
    rw [e] at hj
    exact done g' mu' s' l hj F'
end
end Mine

end
section
open PySem PySem.W PyProof.Rows PySem.Calls PySem.Spec
set_option Elab.async false
set_option maxRecDepth 100000
set_option autoImplicit false
namespace Mine
section
variable {w : World} {A : Around} {E : Value → Shared → Prop} {R : Result → Shared → Prop} {s s₀ : Shared}
/-- the turns of a comprehension with one clause, whatever its target -/
theorem comp_tests {elt target iter : Expr} {ifs : List Expr} {scope : Scope} {pos : Pos} {it acc : Value} {env : Env} (I : Nat → Shared → Prop)
    (turn : ∀ n s (E' : Value → Shared → Prop), I n s → wpAny (model PR w) A (pyNext it) (fun r s₁ => match r with
      | none => R (.ok .next) s₁
      | some v => wpAny (model PR w) A (letOwnedTupleGo target it v) (fun _ s₁ => wpAny (model PR w) A (assign target env v) (fun _ s₂ =>
          wpAny (model PR w) A (forIn ifs true fun c r => if r = true then do let ok ← isTrue c env (eval c env); pure (ForInStep.yield ok) else pure (ForInStep.yield r)) (fun ok s₃ =>
            (ok = true → wpAny (model PR w) A (eval elt env) (fun x s₄ => wpAny (model PR w) A (call (.builtin "list.append") [acc, x]) (fun _ s₅ => ∃ m, m < n ∧ I m s₅) E' s₄) E' s₃) ∧
            (ok = false → ∃ m, m < n ∧ I m s₃)) E' s₂) E' s₁) E' s₁) E' s)
    (n : Nat) (h : I n s) : codeAny (model PR w) A (.compLoop (.ListComp elt [⟨target, iter, ifs, 0⟩] scope pos) 0 it acc env) R s := by
  refine codeAny_loop rfl I (fun n s hI => ?_) n h
  show wpAny _ A ((compTurn (.ListComp elt [⟨target, iter, ifs, 0⟩] scope pos) 0 it acc env).onRaise (fun x => do noteFrame x env; theTreesLotGoes x)) _ _ s
  refine wpAny_noted ?_
  rw [compTurn_list]
  refine wpAny_bind (wpAny_standAt (wpAny_bind (wpAny_mono (turn n s _ hI) (fun r s₁ h₁ => ?_) fun _ _ h' => h')))
  cases r with
  | none => exact wpAny_pure h₁
  | some v =>
    refine wpAny_bind (wpAny_mono h₁ (fun _ s₁ h₁ => ?_) fun _ _ h' => h')
    refine wpAny_bind (wpAny_mono h₁ (fun _ s₂ h₂ => wpAny_bind (wpAny_mono h₂ (fun ok s₃ h₃ => ?_) fun _ _ h' => h')) fun _ _ h' => h')
    cases ok with
    | false => exact wpAny_pure ⟨rfl, h₃.2 rfl⟩
    | true =>
      exact wpAny_bind (wpAny_bind (wpAny_mono (h₃.1 rfl) (fun x s₄ h₄ => wpAny_bind (wpAny_mono h₄ (fun _ s₅ h₅ => wpAny_pure (wpAny_pure ⟨rfl, h₅⟩)) fun _ _ h' => h')) fun _ _ h' => h'))
end

/-- the tests of a clause: none, or one -/
def Tst (w : World) (A : Around) (ifs : List Expr) (env : Env) (Q : Bool → Shared → Prop) (E : Value → Shared → Prop) (s : Shared) : Prop := match ifs with
  | [] => Q true s
  | [c] => Wp w A (isTrue c env (eval c env)) Q E s
  | _ => False
theorem Tst.out {w : World} {A : Around} {ifs : List Expr} {env : Env} {Q : Bool → Shared → Prop} {E : Value → Shared → Prop} {s : Shared} (h : Tst w A ifs env Q E s) :
    wpAny (model PR w) A (forIn ifs true fun c r => if r = true then do let ok ← isTrue c env (eval c env); pure (ForInStep.yield ok) else pure (ForInStep.yield r)) Q E s := by
  match ifs, h with
  | [], h => exact wpAny_tests_nil h
  | [c], h => exact wpAny_tests_one (Wp.out h)

/-- what a turn of a comprehension gives -/
def CTurn (w : World) (A : Around) (elt target : Expr) (ifs : List Expr) (cenv : Env) (s₀ : Shared) (g : Heap) (mu₁ : Mu) (ys : List Value) (J : Heap → List Value → Prop) (E' : Value → Shared → Prop) (v : Value) (s : Shared) : Prop :=
  Wp w A (assign target cenv v) (fun _ s₂ => Tst w A ifs cenv (fun ok s₃ =>
    (ok = true → Wp w A (eval elt cenv) (fun y s₄ => ∃ g' l, Le g g' ∧ J g' (ys ++ [y]) ∧ Fx s₀ g' ((cenv.locals, Loc l) :: mu₁) s₄) E' s₃) ∧
    (ok = false → ∃ g' l, Le g g' ∧ J g' ys ∧ Fx s₀ g' ((cenv.locals, Loc l) :: mu₁) s₃)) E' s₂) E' s

section
variable {w : World} {A : Around} {E : Value → Shared → Prop} {s₀ s : Shared} {g : Heap} {mu : Mu} {I : Addr} {n : Nat} {P : Nat → Value → Prop} {St : Nat → Heap → Prop} {fp : List Addr}
  {elt target iter : Expr} {ifs : List Expr} {scope : Scope} {pos : Pos} {env : Env} {cl : List (Str × Addr)}
theorem comp_block {RR : Value → Addr → Result → Shared → Prop} (T : It w A g I n P St fp) (F : Fx s₀ g ((I, Itr g I St 0) :: mu) s) (hn : n ≤ 1000000)
    (hcell : ∀ y ∈ scope.names, y.2 ≠ .cell) (hkind : scope.kind = .function)
    (J : Nat → Heap → List Value → Prop) (h0 : J 0 g [])
    (hgo : ∀ i (s' : Shared) v (Q' : Unit → Shared → Prop) E', St i s'.heap → Q' () s' → wpAny (model PR w) A (letOwnedTupleGo target (.ref I) v) Q' E' s')
    (turn : ∀ i v g' C l mu₁ ys s' E', i < n → P i v → Le g g' → J i g' ys → (∀ p ∈ mu, p ∈ mu₁) → Fx s₀ g' ((C, Loc l) :: mu₁) s' →
      CTurn w A elt target ifs (compEnvC scope cl C env) s₀ g' mu₁ ys (J (i + 1)) E' v s')
    (hRR : ∀ C D g' ys l s', Le g g' → J n g' ys → ys.length ≤ n → Fx s₀ g' ((C, Loc l) :: (D, Lst ys) :: mu) s' → RR (.ref D) C (.ok .next) s') :
    wpAny (model PR w) A (newList []) (fun acc s₃ => wpAny (model PR w) A (newFunctionEnv scope env.globals cl [] env.qual none .none (some env)) (fun cenv s₄ =>
      codeAny (model PR w) A (.compStart (.ListComp elt [⟨target, iter, ifs, 0⟩] scope pos) 0 (.ref I) acc { cenv with scope := relabel scope env }) (RR acc cenv.locals) s₄) E s₃) E s := by
  refine wpAny_newObj_type (wpAny_newFunctionEnv hcell (by intro y hy; simp at hy) (fun h₁ hns₁ hsb₁ => ?_) hkind)
  have F2 := F.alloc (P := Lst []) { cls := .type "list", data := .seq ([] : List Value).toArray } ⟨0, rfl⟩
  dsimp only at hns₁ hsb₁ ⊢
  generalize hH : ({ s with heap := s.heap.push { cls := .type "list", dict := none, data := .seq ([] : List Value).toArray } } : Shared) = s₁ at F2
  have e1 : s₁.heap = s.heap.push { cls := .type "list", dict := none, data := .seq ([] : List Value).toArray } := by rw [← hH]
  rw [← e1] at hns₁ hsb₁ ⊢
  obtain ⟨oC, hoC, hnC⟩ := LCg.ns_obj hns₁
  have F3 := F2.more (P := Loc []) (s.toks + ([] : List (Str × Value)).length) (fun b o e => hsb₁.extBut b o (Nat.ne_of_lt (Heap.lt_size e)) (Heap.get?_push_of_some _ e)) hoC ⟨_, hnC, fun p hp => nomatch hp⟩
  have e2 : ({ s₁ with heap := h₁, toks := s.toks + ([] : List (Str × Value)).length } : Shared) = { s with heap := h₁, toks := s.toks + ([] : List (Str × Value)).length } := by rw [← hH]
  rw [e2] at F3
  generalize s₁.heap.objs.size = C at F3 ⊢
  generalize s.heap.objs.size = D at F3 ⊢
  generalize ({ s with heap := h₁, toks := s.toks + ([] : List (Str × Value)).length } : Shared) = s₃ at F3 ⊢
  have dead : ∀ {g' mu' s'} {i : Nat}, Le g g' → Fx s₀ g' ((I, Itr g I St i) :: mu') s' → St i s'.heap := fun l F' => by
    obtain ⟨o, ho, hp⟩ := F'.get (.head _)
    exact hp _ ho (l.trans F'.le)
  have F4 : Fx s₀ g ((I, Itr g I St 0) :: (C, Loc []) :: (D, Lst []) :: mu) s₃ := F3.perm ((List.Perm.cons _ (List.Perm.swap _ _ _)).trans (List.Perm.swap _ _ _))
  have loop : codeAny (model PR w) A (.compLoop (.ListComp elt [⟨target, iter, ifs, 0⟩] scope pos) 0 (.ref I) (.ref D) (compEnvC scope cl C env)) (RR (.ref D) C) s₃ := by
    refine comp_tests
      (fun k s' => ∃ g' l ys i, Le g g' ∧ J i g' ys ∧ ys.length ≤ i ∧ Fx s₀ g' ((I, Itr g I St i) :: (C, Loc l) :: (D, Lst ys) :: mu) s' ∧ i ≤ n ∧ k = n + 1 - i) ?_ (n + 1) ⟨g, [], [], 0, Le.refl _, h0, Nat.le_refl _, F4, Nat.zero_le _, rfl⟩
    rintro k s' E' ⟨g', l, ys, i, lg, hJ, hyl, F', hi, rfl⟩
    have hst := dead lg F'
    have hI := (F'.tu _ (.head _)).1
    have ndI := (List.nodup_cons.mp F'.nd).1
    have next : ∀ {h₁ : Heap} (tk : Nat), (∀ b o, b ∉ [I] → s'.heap.get? b = some o → h₁.get? b = some o) → Fx s₀ g' ((C, Loc l) :: (D, Lst ys) :: mu) { s' with heap := h₁, toks := tk } := fun tk hk => by
      refine ⟨fun b o e => hk b o (fun q => ?_) (F'.le b o e), fun p hp => ?_, F'.drop.nd, F'.sim⟩
      · rw [List.mem_singleton.mp q, hI] at e; cases e
      · obtain ⟨h1, o, h2, h3⟩ := F'.tu p (.tail _ hp)
        exact ⟨h1, o, hk _ _ (fun q => ndI (List.mem_map.mpr ⟨p, hp, List.mem_singleton.mp q⟩)) h2, h3⟩
    by_cases hlt : i < n
    · refine T.W.item i _ _ _ hlt hst fun v h₂ tk₂ hP hst₂ hk₂ => ?_
      obtain ⟨oI, hoI⟩ := T.on _ _ hst₂
      have Fn := next tk₂ hk₂
      have F₁ : Fx s₀ g' ((I, Itr g I St (i + 1)) :: (C, Loc l) :: (D, Lst ys) :: mu) { s' with heap := h₂, toks := tk₂ } := by
        refine ⟨Fn.le, fun p hp => ?_, F'.nd, F'.sim⟩
        rcases List.mem_cons.mp hp with rfl | hp
        · exact ⟨hI, oI, hoI, fun h'' e l' => T.st _ _ _ _ hst₂ hoI e l'⟩
        · exact Fn.tu p hp
      refine hgo (i + 1) _ v _ _ hst₂ ?_
      have F₂ : Fx s₀ g' ((C, Loc l) :: (I, Itr g I St (i + 1)) :: (D, Lst ys) :: mu) { s' with heap := h₂, toks := tk₂ } := F₁.swap
      refine wpAny_mono (turn i v g' C l _ ys _ E' hlt hP lg hJ (fun p hp => .tail _ (.tail _ hp)) F₂).out (fun _ s₂ h₂ => wpAny_mono h₂.out (fun ok s₃ h₃ => ⟨fun e => ?_, fun e => ?_⟩) fun _ _ e => e) fun _ _ e => e
      · refine wpAny_mono (h₃.1 e).out (fun y s₄ h₄ => ?_) fun _ _ e => e
        obtain ⟨g2, l2, lg2, hJ2, F5⟩ := h₄
        have F6 : Fx s₀ g2 ((D, Lst ys) :: (C, Loc l2) :: (I, Itr g I St (i + 1)) :: mu) s₄ := F5.perm ((List.Perm.cons _ (List.Perm.swap _ _ _)).trans (List.Perm.swap _ _ _))
        obtain ⟨oD, hoD, m, rfl⟩ := F6.get (.head _)
        refine append_at hoD (fun h' hs ho' => ?_) (by rw [List.size_toArray]; exact Nat.le_trans hyl (Nat.le_trans hi (Nat.le_trans hn (by rw [sizeLine_eq]; decide))))
        have F7 := F6.upd (P' := Lst (ys ++ [y])) s₄.toks hs ho' ⟨m + 1, by rw [List.push_toArray]⟩
        refine ⟨n + 1 - (i + 1), by omega, g2, l2, ys ++ [y], i + 1, lg.trans lg2, hJ2, by rw [List.length_append]; simp; omega, ?_, hlt, rfl⟩
        exact F7.perm ((List.Perm.swap _ _ _).trans ((List.Perm.cons _ (List.Perm.swap _ _ _)).trans (List.Perm.swap _ _ _)))
      · obtain ⟨g2, l2, lg2, hJ2, F5⟩ := h₃.2 e
        exact ⟨n + 1 - (i + 1), by omega, g2, l2, ys, i + 1, lg.trans lg2, hJ2, by omega, F5.swap, hlt, rfl⟩
    · obtain rfl : i = n := Nat.le_antisymm hi (Nat.not_lt.mp hlt)
      refine T.W.done _ _ _ hst fun h₂ tk₂ hk₂ => ?_
      exact hRR C D g' ys l _ lg hJ hyl (next tk₂ hk₂)
  exact codeAny_compStart_list loop (T.W.self 0 _ _ _ (dead (Le.refl _) F4) loop)
end
end Mine

end
section
open PySem PySem.W PyProof.Rows PySem.Calls PySem.Spec
set_option Elab.async false
set_option maxRecDepth 100000
set_option autoImplicit false
namespace Mine
/-- a comprehension's iterable is taken and its turns are made -/
structure Cm (w : World) (A : Around) (elt target iter : Expr) (ifs : List Expr) (scope : Scope) (pos : Pos) (cl : List (Str × Addr)) (env : Env) (use : Option (Value → Sem Unit)) (Q : Value → Shared → Prop) (E : Value → Shared → Prop) (x : Value) (s : Shared) : Prop where
  out : wpAny (model PR w) A (pyIter x) (fun it s₂ => wpAny (model PR w) A (newList []) (fun acc s₃ => wpAny (model PR w) A (newFunctionEnv scope env.globals cl [] env.qual none .none (some env)) (fun cenv s₄ =>
      codeAny (model PR w) A (.compStart (.ListComp elt [⟨target, iter, ifs, 0⟩] scope pos) 0 it acc { cenv with scope := relabel scope env }) (compPost (model PR w) A E use Q acc cenv.locals) s₄) E s₃) E s₂) E s

section
variable {w : World} {A : Around} {E : Value → Shared → Prop} {s₀ s : Shared} {g : Heap} {mu : Mu} {L : Addr} {l : List (Str × Value)}
  {elt target iter : Expr} {ifs : List Expr} {scope : Scope} {pos spos py : Pos} {env : Env} {cl : List (Str × Addr)} {Q : Value → Shared → Prop}
theorem ev_comp (h : Wp w A (eval iter env) (fun x s₁ => Cm w A elt target iter ifs scope pos cl env none Q E x s₁) E s) (hclos : closureFor scope env = pure cl := by rfl) (hkind : scope.kind = .function := by rfl)
    (hnames : ∀ y ∈ scope.names, y.2 = .local → scope.names.lookup y.1 = some .local := by decide) (hs : ∀ x, foldedSetIterable iter env x = pure x := by intro _; unfold foldedSetIterable; rfl) :
    Wp w A (eval (.ListComp elt [⟨target, iter, ifs, 0⟩] scope pos) env) Q E s := by
  refine ⟨?_⟩
  rw [eval_ListComp]
  exact wpAny_comprehension_free (use := none) rfl hs hclos hkind hnames (wpAny_mono h.out (fun xv s₁ h₁ => h₁.out) fun _ _ e => e)
theorem ex_assign_comp {y : Str} {rest : List Stmt} {Q : Flow → Shared → Prop} (h : Wp w A (eval iter env) (fun x s₁ => Cm w A elt target iter ifs scope pos cl env (some (assign (.Name y py) env)) (fun _ s' => Wp w A (execs rest env) Q E s') E x s₁) E s)
    (hsw : swapsWith (.ListComp elt [⟨target, iter, ifs, 0⟩] scope pos) (some (.Name y py)) spos.line env = pure true := by rfl)
    (hclos : closureFor scope env = pure cl := by rfl) (hkind : scope.kind = .function := by rfl)
    (hnames : ∀ y ∈ scope.names, y.2 = .local → scope.names.lookup y.1 = some .local := by decide) (hs : ∀ x, foldedSetIterable iter env x = pure x := by intro _; unfold foldedSetIterable; rfl) :
    Wp w A (execs (.Assign [.Name y py] (.ListComp elt [⟨target, iter, ifs, 0⟩] scope pos) spos :: rest) env) Q E s := by
  refine ⟨wpAny_execs_cons ?_⟩
  rw [exec_Assign_Name_used _ _ _ _ hsw]
  refine wpAny_bind (wpAny_standAt (wpAny_bind ?_))
  show wpAny _ A (do let _ ← comprehension (.ListComp elt [⟨target, iter, ifs, 0⟩] scope pos) scope env _ (newList []) false (eval iter env) (some (assign (.Name y py) env))) _ _ s
  refine wpAny_bind (wpAny_mono (wpAny_comprehension_free (use := some (assign (.Name y py) env)) rfl hs hclos hkind hnames
    (wpAny_mono h.out (fun xv s₁ h₁ => h₁.out) fun _ _ e => e)) (fun _ s' hq => wpAny_pure (wpAny_pure hq.out)) fun _ _ e => e)

/-- a comprehension's names are let go; its list is still from now on -/
theorem post_plain {C D : Addr} {ys : List Value} {lC : List (Str × Value)} (F : Fx s₀ g ((C, Loc lC) :: (D, Lst ys) :: mu) s)
    (fin : ∀ g' s' n, Le g g' → g'.get? D = some { cls := .type "list", data := .seq ys.toArray n } → Fx s₀ g' mu s' → Q (.ref D) s') : compPost (model PR w) A E none Q (.ref D) C (.ok .next) s := by
  obtain ⟨o, ho, m, hn, _⟩ := F.get (.head _)
  refine ⟨m, hn.ns ho, fun h' hs => ?_⟩
  obtain ⟨od, hod, n, rfl⟩ := F.get (.tail _ (.head _))
  obtain ⟨_, _, nd⟩ := List.nodup_cons.mp F.nd
  have F' : Fx s₀ g ((D, Lst ys) :: mu) { s with heap := h', toks := s.toks } := by
    have hC := (F.tu _ (.head _)).1
    have ndC := (List.nodup_cons.mp F.nd).1
    refine ⟨fun b o e => (hs.2 b (fun q => by rw [q, hC] at e; cases e)).trans (F.le b o e), fun p hp => ?_, F.drop.nd, F.sim⟩
    obtain ⟨h1, o', h2, h3⟩ := F.tu p (.tail _ hp)
    exact ⟨h1, o', (hs.2 _ (fun q => ndC (List.mem_map.mpr ⟨p, hp, q⟩))).trans h2, h3⟩
  obtain ⟨g', o', l, e, ⟨n', rfl⟩, F2⟩ := F'.freeze
  exact fin g' _ n' l e F2
theorem post_used {C D : Addr} {ys : List Value} {lC : List (Str × Value)} {y : Str} (F : Fx s₀ g ((C, Loc lC) :: (D, Lst ys) :: (L, Loc l) :: mu) s)
    (fin : ∀ g' s' n, Le g g' → g'.get? D = some { cls := .type "list", data := .seq ys.toArray n } → Fx s₀ g' ((L, Loc (put y (.ref D) l)) :: mu) s' → Q .none s')
    (hL : env.locals = L := by rfl) (hk : env.scope.kind = .function := by rfl) (hl : env.kindOf y = some .local := by rfl) : compPost (model PR w) A E (some (assign (.Name y py) env)) Q (.ref D) C (.ok .next) s := by
  have F1 : Fx s₀ g ((L, Loc l) :: (C, Loc lC) :: (D, Lst ys) :: mu) s := F.perm ((List.Perm.cons _ (List.Perm.swap _ _ _)).trans (List.Perm.swap _ _ _))
  refine (as_name (w := w) F1 (fun s' F2 => ?_) hL hk hl).out
  have F3 : Fx s₀ g ((C, Loc lC) :: (D, Lst ys) :: (L, Loc (put y (.ref D) l)) :: mu) s' := F2.perm ((List.Perm.swap _ _ _).trans (List.Perm.cons _ (List.Perm.swap _ _ _)))
  exact post_plain (w := w) (A := A) (E := E) (Q := fun _ s => Q .none s) F3 fin

/-- over a list that is still -/
theorem cm_list {a : Addr} {items : Array Value} {use : Option (Value → Sem Unit)} (hh : A.handled = none) (F : Fx s₀ g mu s) (hl : g.IsList a items) (hn : items.size ≤ 1000000)
    (J : Nat → Heap → List Value → Prop) (h0 : J 0 g [])
    (turn : ∀ i v g' C l mu₁ ys s' E', i < items.size → items[i]? = some v → Le g g' → J i g' ys → (∀ p ∈ mu, p ∈ mu₁) → Fx s₀ g' ((C, Loc l) :: mu₁) s' →
      CTurn w A elt target ifs (compEnvC scope cl C env) s₀ g' mu₁ ys (J (i + 1)) E' v s')
    (fin : ∀ C D g' ys l s', Le g g' → J items.size g' ys → ys.length ≤ items.size → Fx s₀ g' ((C, Loc l) :: (D, Lst ys) :: mu) s' → compPost (model PR w) A E use Q (.ref D) C (.ok .next) s')
    (hcell : ∀ y ∈ scope.names, y.2 ≠ .cell := by decide) (hkind : scope.kind = .function := by rfl) : Cm w A elt target iter ifs scope pos cl env use Q E (.ref a) s := by
  refine ⟨?_⟩
  have hls : s.heap.IsList a items := hl.at fun o e => F.le _ _ e
  refine wpAny_pyIter_list hls ?_
  obtain ⟨o, ho, _⟩ := id hls
  have T : It w A g s.heap.objs.size _ _ _ _ := It.list hh hl (Nat.ne_of_lt (Heap.lt_size ho))
  have F' := F.alloc (P := fun o => o = { cls := .type "list_iterator", data := .fields #[.ref a, .int 0 0] }) _ rfl
  refine comp_block T (F'.weak fun o e => ?_) hn hcell hkind J h0 (fun i s' v Q' E' st h => go_list st.1 h) turn fin
  subst e
  exact fun h e l => ⟨⟨_, e, rfl, rfl⟩, hl.at fun o' e'' => l _ _ e''⟩
/-- over range(n) -/
theorem cm_range {r : Addr} {t u v : Tok} {n : Nat} {x : Str} {px : Pos} {use : Option (Value → Sem Unit)} (hh : A.handled = none) (F : Fx s₀ g mu s) (hr : g.get? r = some { cls := .type "range", data := .fields #[.int 0 t, .int (n : Int) u, .int 1 v] }) (hn : n ≤ 1000000)
    (J : Nat → Heap → List Value → Prop) (h0 : J 0 g [])
    (turn : ∀ (i : Nat) t g' C l mu₁ ys s' E', i < n → Le g g' → J i g' ys → (∀ p ∈ mu, p ∈ mu₁) → Fx s₀ g' ((C, Loc l) :: mu₁) s' →
      CTurn w A elt (.Name x px) ifs (compEnvC scope cl C env) s₀ g' mu₁ ys (J (i + 1)) E' (.int (i : Int) t) s')
    (fin : ∀ C D g' ys l s', Le g g' → J n g' ys → ys.length ≤ n → Fx s₀ g' ((C, Loc l) :: (D, Lst ys) :: mu) s' → compPost (model PR w) A E use Q (.ref D) C (.ok .next) s')
    (hcell : ∀ y ∈ scope.names, y.2 ≠ .cell := by decide) (hkind : scope.kind = .function := by rfl) : Cm w A elt (.Name x px) iter ifs scope pos cl env use Q E (.ref r) s := by
  refine ⟨?_⟩
  refine wpAny_pyIter_range (F.le _ _ hr) (small_one (by omega) (by omega) (by omega) (by omega)) ?_
  rw [rangeSize_nat, show ((n : Int) - 0).toNat = n by omega]
  have T : It w A g s.heap.objs.size _ _ _ _ := It.range hh 0 n
  have F' := F.alloc (P := fun o => o = { cls := .type "range_iterator", data := .fields #[rawInt 0, rawInt (n : Int), rawInt 1] }) _ rfl
  refine comp_block T (F'.weak fun o e => ?_) hn hcell hkind J h0 (fun i s' v Q' E' st h => wpAny_pure h) (fun i v g' C l mu₁ ys s' E' hi hp lg hj hm F' => ?_) fin
  · subst e
    intro h e l
    show h.get? _ = some _
    rw [e]; simp [rawInt]
  · obtain ⟨t, rfl⟩ := hp
    rw [Int.zero_add]
    exact turn i t g' C l mu₁ ys s' E' hi lg hj hm F'
/-- a turn without a test -/
theorem ct_of {mu₁ : Mu} {ys : List Value} {J : Heap → List Value → Prop} {v : Value} {cenv : Env}
    (h : Wp w A (assign target cenv v) (fun _ s₂ => Wp w A (eval elt cenv) (fun y s₄ => ∃ g' l, Le g g' ∧ J g' (ys ++ [y]) ∧ Fx s₀ g' ((cenv.locals, Loc l) :: mu₁) s₄) E s₂) E s) : CTurn w A elt target [] cenv s₀ g mu₁ ys J E v s :=
  wp_mono h fun _ _ h₂ => ⟨fun _ => h₂, fun e => nomatch e⟩
end
end Mine

end
section
open PySem PySem.W PyProof.Rows PySem.Calls PySem.Spec
set_option Elab.async false
set_option maxRecDepth 100000
set_option autoImplicit false
namespace Mine
theorem cellsFrom_app : ∀ (names : List (Str × NameKind)) (n : Nat) (acc : List (Str × Addr)), cellsFrom n names acc = cellsFrom n names [] ++ acc
  | [], _, _ => rfl
  | (x, k) :: r, n, acc => by
    unfold cellsFrom
    split
    · rw [cellsFrom_app r (n + 1) ((x, n) :: acc), cellsFrom_app r (n + 1) [(x, n)], List.append_assoc]; rfl
    · exact cellsFrom_app r n acc
/-- the cells of a new frame -/
def cellMu (n : Nat) (names : List (Str × NameKind)) : Mu := (cellsFrom n names []).map fun p => (p.2, CelX)
theorem layFx {s₀ s : Shared} {g : Heap} : ∀ (names : List (Str × NameKind)) {mu : Mu}, Fx s₀ g mu s → Fx s₀ g (cellMu s.heap.objs.size names ++ mu) { s with heap := pushCells s.heap names }
  | [], mu, F => F
  | (x, k) :: r, mu, F => by
    unfold cellMu cellsFrom pushCells
    split
    · have F1 := F.alloc (P := CelX) { cls := .type "cell", data := .cell none } ⟨none, rfl⟩
      have F2 := layFx (s := { s with heap := s.heap.push { cls := .type "cell", data := .cell none } }) r F1
      rw [show ({ s with heap := s.heap.push { cls := .type "cell", data := .cell none } } : Shared).heap.objs.size = s.heap.objs.size + 1 from Heap.size_push ..] at F2
      rw [cellsFrom_app r (s.heap.objs.size + 1) [(x, s.heap.objs.size)], List.map_append]
      rw [List.append_assoc]
      exact F2
    · exact layFx r F
/-- a new frame's parameters are stored -/
def StAll (w : World) (A : Around) (env : Env) : List (Str × Value) → (Shared → Prop) → (Value → Shared → Prop) → Shared → Prop
  | [], Q, _, s => Q s
  | (n, v) :: r, Q, E, s => Wp w A (storeName env n v) (fun _ s' => StAll w A env r Q E s') E s
theorem StAll.out {w : World} {A : Around} {env : Env} (f : Str × Value → PUnit → Sem (ForInStep PUnit)) (hf : ∀ n v u, f (n, v) u = (do storeName env n v; pure (.yield ⟨⟩))) : ∀ {binds : List (Str × Value)} {Q : Shared → Prop} {E : Value → Shared → Prop} {s : Shared},
    StAll w A env binds Q E s → wpAny (model PR w) A (forIn binds ⟨⟩ f) (fun _ s' => Q s') E s
  | [], Q, E, s, h => by rw [List.forIn_nil]; exact wpAny_pure h
  | (n, v) :: r, Q, E, s, h => by
    rw [List.forIn_cons, hf]
    exact wpAny_bind (wpAny_bind (wpAny_mono (Wp.out h) (fun _ s' h' => wpAny_pure (StAll.out f hf h')) fun _ _ e => e))
theorem StAll.mono {w : World} {A : Around} {env : Env} {Q Q' : Shared → Prop} {E : Value → Shared → Prop} (hq : ∀ s, Q s → Q' s) : ∀ {binds : List (Str × Value)} {s : Shared}, StAll w A env binds Q E s → StAll w A env binds Q' E s
  | [], _, h => hq _ h
  | (_, _) :: _, _, h => wp_mono h fun _ _ h' => StAll.mono hq h'
def envF (fd : FuncData) (L f : Addr) : Env := newEnv fd.scope L fd.globals (cellsFrom (L + 1) fd.scope.names fd.closure) (fd.qualname ++ ".<locals>.") (some f) fd.code none fd.builtins
section
variable {w : World} {A : Around} {E : Value → Shared → Prop} {s₀ s : Shared} {g : Heap} {mu : Mu} {k : Nat} {Q : Value → Shared → Prop}
theorem new_env {fd : FuncData} {binds : List (Str × Value)} {f : Addr} {Q : Env → Shared → Prop} (F : Fx s₀ g mu s)
    (h : ∀ L s', Fx s₀ g (cellMu (L + 1) fd.scope.names ++ (L, Loc []) :: mu) s' → StAll w A (envF fd L f) binds (fun s'' => Q (envF fd L f) s'') E s') :
    wpAny (model PR w) A (newFunctionEnv fd.scope fd.globals fd.closure binds (fd.qualname ++ ".<locals>.") (some f) fd.code none fd.builtins) Q E s := by
  simp only [newFunctionEnv, Option.isSome_none, Bool.false_eq_true, if_false]
  refine wpAny_bind (wpAny_alloc ?_)
  refine wpAny_bind (wpAny_layCells _ (fun name kind cells => by cases hkc : kind == NameKind.cell <;> simp) _ _ _ _ ?_)
  obtain ⟨o, ho, hn⟩ := LCg.ns_obj (Heap.Ns.new s.heap (.type "frame"))
  have F1 := F.more (P := Loc []) s.toks (fun b o e => Heap.get?_push_of_some _ e) ho ⟨_, hn, fun p hp => nomatch hp⟩
  have F2 := layFx fd.scope.names F1
  have e : ({ s with heap := s.heap.push { cls := .type "frame", data := .dict #[] } } : Shared).heap.objs.size = s.heap.objs.size + 1 := Heap.size_push ..
  rw [e] at F2 ⊢
  exact wpAny_bind (wpAny_mono (StAll.out _ (fun _ _ _ => rfl) (h s.heap.objs.size _ F2)) (fun _ _ h => wpAny_pure h) fun _ _ e => e)

theorem callx {f : Addr} {fd : FuncData} {fo : Obj} {body : List Stmt} {vs : List Value} {binds : List (Str × Value)} (G : Gd w g) (R : Rm A (k + 1)) (F : Fx s₀ g mu s)
    (ho : g.get? f = some fo) (hd : fo.data = .func fd) (hcd : g.CodeRec fd.code fd.qualname) (hbody : fd.body = .stmts body) (hbind : BindsTo s fd ⟨vs, []⟩ binds)
    (hco : fd.scope.isCoroutine = false) (hgen : fd.scope.isGenerator = false)
    (h : ∀ L s' E', Rm (A.deeper (envF fd L f)) k → Fx s₀ g (cellMu (L + 1) fd.scope.names ++ (L, Loc []) :: mu) s' →
      StAll w A.in1 (envF fd L f) binds (fun s'' => (∃ mu', Fx s₀ g mu' s'') ∧ ∀ E', Wp w (A.deeper (envF fd L f)) (execs body (envF fd L f)) (fun fl s'' => Q (retOf fl) s'') E' s'') E' s') :
    Wp w A (call (.ref f) vs) Q E s := by
  obtain ⟨_, _, _, T⟩ := G.T
  refine ⟨wpAny_call (codeAny_call_function (by have := R.deep; omega) (F.le _ _ ho) hd hco hgen hbody (hcd.keeps F.le) (hbind _ _ _ _ (new_env F fun L s' F' => ?_)))⟩
  refine StAll.mono (fun s'' hk => ?_) (h L s' _ (R.deeper _) F')
  obtain ⟨⟨mu', F2⟩, k2⟩ := hk
  exact ⟨T.nolimit.keeps F2.le, codeAny_func (wpAny_mono (k2 _).out (fun fl s hq => by cases fl <;> exact hq) fun _ _ e => e)⟩
end
end Mine

end
section
open PySem PySem.W PyProof.Rows PySem.Calls PySem.Spec
set_option Elab.async false
set_option maxRecDepth 100000
set_option autoImplicit false
namespace Mine
def isDig (c : Nat) : Bool := decide (48 ≤ c) && decide (c ≤ 57)
def isSep (c : Nat) : Bool := c == 46 || c == 95 || c == 43 || c == 45
def numOf (cs : List Nat) : Int := cs.foldl (fun (a : Int) (c : Nat) => 10 * a + (c : Int) - 48) 0
def rankTab : List (Int × List Str) := [(10, [Str.ofString "dev"]), (20, [Str.ofString "alpha", Str.ofString "a"]), (30, [Str.ofString "beta", Str.ofString "b"]), (40, [Str.ofString "c"]), (50, [Str.ofString "RC", Str.ofString "rc"]), (200, [Str.ofString "pl", Str.ofString "p"])]
def hits (x : Str) (p : Int × List Str) : Bool := p.2.any fun y => y == x
def rankOf (x : Str) : Int := ((rankTab.find? (hits x)).map (·.1)).getD 0
def rankedD (x : Str) : PyData := if isDig (x.cps.getD 0 0) then .list [.int 100, .int (numOf x.cps.toList)] else .list [.int (rankOf x), .str x]
/-- a step of _law_runs: the runs so far, the run at hand -/
def cutR (run : List Nat) (c : Nat) : Bool := !run.isEmpty && (isSep c || (isDig c != isDig (run.headD 0)))
def stepR (st : List Str × List Nat) (c : Nat) : List Str × List Nat :=
  let st' := if cutR st.2 c then (st.1 ++ [⟨st.2.toArray⟩], []) else st
  if isSep c then st' else (st'.1, st'.2 ++ [c])
def runsOf (cs : List Nat) : List Str := ((cs ++ [46]).foldl stepR ([], [])).1
def runsD (cs : List Nat) : PyData := .list ((runsOf cs).map rankedD)
/-- a step of _law_words -/
def stepW (cs : List Nat) (st : List (Nat × Nat) × Nat) (k : Nat) : List (Nat × Nat) × Nat :=
  if cs.getD k 0 == 32 then ((if st.2 < k then st.1 ++ [(st.2, k)] else st.1), k + 1) else st
def spanD (p : Nat × Nat) : PyData := .tuple [.int (p.1 : Int), .int (p.2 : Int)]
def wordsSt (cs : List Nat) (i : Nat) : List (Nat × Nat) × Nat := (List.range i).foldl (stepW cs) ([], 0)
def wordsOf (cs : List Nat) : List (Nat × Nat) := (wordsSt cs cs.length).1 ++ [((wordsSt cs cs.length).2, cs.length)]
def pieceTab : List Str := [Str.ofString "0", Str.ofString "1", Str.ofString "9", Str.ofString "10", Str.ofString ".", Str.ofString "-", Str.ofString "_", Str.ofString "+", Str.ofString "rc", Str.ofString "RC", Str.ofString "a", Str.ofString "alpha", Str.ofString "b", Str.ofString "beta", Str.ofString "c", Str.ofString "dev", Str.ofString "pl", Str.ofString "p", Str.ofString " ", Str.ofString " "]
def pieceAt (n : Int) : Str := pieceTab.getD (n.fmod 20).toNat Str.empty
def rowOf (ns : List Int) : Str := Str.join (Str.ofString "") (ns.map pieceAt) ++ Str.ofString " 1.9 1.10"
end Mine

end
section
open PySem PySem.W PyProof.Rows PySem.Calls PySem.Spec
set_option Elab.async false
set_option maxRecDepth 100000
set_option autoImplicit false
set_option maxHeartbeats 1000000
namespace Mine
theorem fillR : (PySem.Challenge.rw_mq0069_01 = PySem.Challenge.rw_mq0069_01) ∧ (hd.heap_39 = hd.heap_39) := by k_fill; exact ⟨rfl, rfl⟩


theorem dig_in (c : Nat) : decide (c ∈ (Str.ofString "0123456789").cps.toList) = isDig c := by
  have e : (Str.ofString "0123456789").cps.toList = [48, 49, 50, 51, 52, 53, 54, 55, 56, 57] := by decide +kernel
  rw [e, Bool.eq_iff_iff]
  simp only [decide_eq_true_eq, isDig, Bool.and_eq_true, List.mem_cons, List.not_mem_nil, or_false]
  omega
theorem numOf_snoc (cs : List Nat) (c : Nat) : numOf (cs ++ [c]) = 10 * numOf cs + (c : Int) - 48 := by simp [numOf, List.foldl_append]
theorem take_snoc {x : Str} {i c : Nat} (hc : x.cps[i]? = some c) : x.cps.toList.take (i + 1) = x.cps.toList.take i ++ [c] := by
  rw [List.take_add_one, Array.getElem?_toList, hc]; rfl
theorem getD0 {x : Str} {c : Nat} (hc : x.cps[0]? = some c) : x.cps.getD 0 0 = c := by
  rw [Array.getD_eq_getD_getElem?, hc]; rfl
theorem bit_take {x : Str} : x.cps.toList.take x.cps.size = x.cps.toList := List.take_of_length_le (by simp)

theorem strsAre {g : Heap} : ∀ {ns : List Str} {vs : List Value}, RdA g vs (ns.map .str) → StrsAre vs ns
  | [], vs, x => by rw [x.inv0]; exact .nil
  | n :: ns, vs, x => by
    obtain ⟨v, vs', rfl, h1, h2⟩ := x.inv
    obtain ⟨t, rfl⟩ := h1.inv_str
    exact .cons n t (strsAre h2)
theorem cm_inl {w : World} {A : Around} {E : Value → Shared → Prop} {s₀ s : Shared} {g : Heap} {mu : Mu} {Q : Value → Shared → Prop} {l : Addr} {vs : List Value} {ns : List Str} {k : Str} {t : Tok} (F : Fx s₀ g mu s) (hl : g.IsList l vs.toArray) (hr : RdA g vs (ns.map .str))
    (h : Q (.bool (ns.any fun y => y == k)) s) : Wp w A (compareOp .In (.str k t) (.ref l)) Q E s := ⟨in_list_strs (lst_up F.le hl) (strsAre hr) h⟩
theorem find_none {α : Type} {p : α → Bool} {l : List α} (h : l.all (fun a => !p a) = true) : l.find? p = none := by
  rw [List.find?_eq_none]; intro a ha; simpa using List.all_eq_true.mp h a ha
theorem find_at {α : Type} {p : α → Bool} {l : List α} {i : Nat} {a : α} (h : (l.take i).all (fun a => !p a) = true) (e : l[i]? = some a) (ha : p a = true) : l.find? p = some a := by
  have hl : l = l.take i ++ a :: l.drop (i + 1) := by
    obtain ⟨hi, rfl⟩ := List.getElem?_eq_some_iff.mp e
    rw [List.getElem_cons_drop hi, List.take_append_drop]
  rw [hl, List.find?_append, find_none h, Option.none_or, List.find?_cons, ha]
theorem all_snoc {α : Type} {p : α → Bool} {l : List α} {i : Nat} {a : α} (h : (l.take i).all (fun a => !p a) = true) (e : l[i]? = some a) (ha : p a = false) : (l.take (i + 1)).all (fun a => !p a) = true := by
  rw [List.take_add_one, e, List.all_append, h]; simp [ha]
def tabD (p : Int × List Str) : PyData := .tuple [.int p.1, .list (p.2.map .str)]

theorem ranked {w : World} (x : Str) (t : Tok) (hx : 0 < x.length) :
    Pc w 75 [.str x t] 3 (fun _ => True) (fun g r => Rd g r (rankedD x)) := by
  intro A s₀ s g mu Q E G R F _ hQ
  refine callf (binds := [(Str.ofString "run", .str x t)]) (l := [(Str.ofString "run", .str x t)]) G R F (by k_is) (by k_is) rfl rfl (List.forall_mem_singleton.mpr rfl) (by decide) rfl rfl rfl rfl ?_
  clear F
  intro L s E' R F
  obtain ⟨c0, hc0⟩ : ∃ c, x.cps[0]? = some c := ⟨_, Array.getElem?_eq_getElem hx⟩
  refine ex_if (it_cmp (ev_sub (ld F (.head _) (.head _) (ct_int F fun t1 s F => at_str (i := 0) hc0 (by omega) F fun t2 s F => ct_str F fun t3 s F => cm_in1 (tr_bool ?_)))) rfl)
  rw [dig_in]
  have hrk : rankedD x = if isDig c0 then .list [.int 100, .int (numOf x.cps.toList)] else .list [.int (rankOf x), .str x] := by rw [rankedD, getD0 hc0]
  cases hd0 : isDig c0 with
  | true =>
    simp only [if_true]
    refine ex_assign (ct_int F fun t4 s F => sto F fun s F => ?_)
    refine ex_for (ld F (.head _) (.tail _ (.head _)) ?_)
    refine iter_str R.hand F (fun i g' mu' => ∃ t', mu' = (L, Loc [(Str.ofString "worth", .int (numOf (x.cps.toList.take i)) t'), (Str.ofString "run", .str x t)]) :: mu) ⟨t4, rfl⟩ ?_ ?_
    · rintro i c tc g' mu' s E'' I PI hc l ⟨t', rfl⟩ F
      refine as_name F fun s F => ?_
      refine ex_assign (ev_binop (ev_binop (ev_binop (ct_int F fun t5 s F => ld F (.head _) (.tail _ (.head _)) (op_mul (mul10 _) F fun t6 s F => ?_)))))
      refine callB (G.up l) F (by k_is) (by rfl) (sp_cons (ld F (.head _) (.head _) (sp_nil (bi_ord F fun t7 s F => op_add F fun t8 s F => ct_int F fun t9 s F => op_sub F fun t10 s F => sto F fun s F => ?_))))
      refine ex_nil (Went.on (mu'' := (L, Loc [(Str.ofString "worth", .int (numOf (x.cps.toList.take (i + 1))) t10), (Str.ofString "run", .str x t)]) :: mu) (Le.refl _) ⟨t10, rfl⟩ ?_)
      rw [take_snoc hc, numOf_snoc]
      exact F.weak (Loc.sub (List.forall_mem_cons.mpr ⟨.head _, List.forall_mem_singleton.mpr (.tail _ (.tail _ (.head _)))⟩))
    · rintro g' mu' s l ⟨t', rfl⟩ F
      rw [bit_take] at F
      refine ex_ret (ev_list (sp_cons (ct_int F fun t5 s F => sp_cons (ld F (.head _) (.head _) (sp_nil (mkList F fun a s g'' l' e F => ?_))))))
      refine hQ _ _ _ (l.trans l') F.drop ?_
      rw [hrk, hd0]
      exact .list e (.cons (.int _ _) (.cons (.int _ _) .nil))
  | false =>
    simp only [Bool.false_eq_true, if_false]
    refine ex_skip ?_
    refine ex_for (ev_list ?_)
    refine via (fun vs s => ∃ g', Le g g' ∧ RdA g' vs (rankTab.map tabD) ∧ Fx s₀ g' ((L, Loc [(Str.ofString "run", .str x t)]) :: mu) s) ?_ ?_
    · refine sp_cons (ev_tuple (sp_cons (ct_int F fun _ s F => sp_cons (ev_list (sp_cons (ct_str F fun _ s F => sp_nil (mkList F fun a1 s g1 l1 e1 F => sp_nil (mkTuple F fun b1 s h1 m1 f1 F => ?_))))))))
      refine sp_cons (ev_tuple (sp_cons (ct_int F fun _ s F => sp_cons (ev_list (sp_cons (ct_str F fun _ s F => sp_cons (ct_str F fun _ s F => sp_nil (mkList F fun a2 s g2 l2 e2 F => sp_nil (mkTuple F fun b2 s h2 m2 f2 F => ?_)))))))))
      refine sp_cons (ev_tuple (sp_cons (ct_int F fun _ s F => sp_cons (ev_list (sp_cons (ct_str F fun _ s F => sp_cons (ct_str F fun _ s F => sp_nil (mkList F fun a3 s g3 l3 e3 F => sp_nil (mkTuple F fun b3 s h3 m3 f3 F => ?_)))))))))
      refine sp_cons (ev_tuple (sp_cons (ct_int F fun _ s F => sp_cons (ev_list (sp_cons (ct_str F fun _ s F => sp_nil (mkList F fun a4 s g4 l4 e4 F => sp_nil (mkTuple F fun b4 s h4 m4 f4 F => ?_))))))))
      refine sp_cons (ev_tuple (sp_cons (ct_int F fun _ s F => sp_cons (ev_list (sp_cons (ct_str F fun _ s F => sp_cons (ct_str F fun _ s F => sp_nil (mkList F fun a5 s g5 l5 e5 F => sp_nil (mkTuple F fun b5 s h5 m5 f5 F => ?_)))))))))
      refine sp_cons (ev_tuple (sp_cons (ct_int F fun _ s F => sp_cons (ev_list (sp_cons (ct_str F fun _ s F => sp_cons (ct_str F fun _ s F => sp_nil (mkList F fun a6 s g6 l6 e6 F => sp_nil (mkTuple F fun b6 s h6 m6 f6 F => ?_)))))))))
      have r6 : Le h5 h6 := l6.trans m6
      have r5 : Le h4 h6 := (l5.trans m5).trans r6
      have r4 : Le h3 h6 := (l4.trans m4).trans r5
      have r3 : Le h2 h6 := (l3.trans m3).trans r4
      have r2 : Le h1 h6 := (l2.trans m2).trans r3
      refine sp_nil ⟨h6, (l1.trans m1).trans r2, ?_, F⟩
      refine .cons (Rd.up r2 (.tuple f1 (.cons (.int _ _) (.cons (Rd.up m1 (.list e1 (.cons (.str _ _) .nil))) .nil)))) ?_
      refine .cons (Rd.up r3 (.tuple f2 (.cons (.int _ _) (.cons (Rd.up m2 (.list e2 (.cons (.str _ _) (.cons (.str _ _) .nil)))) .nil)))) ?_
      refine .cons (Rd.up r4 (.tuple f3 (.cons (.int _ _) (.cons (Rd.up m3 (.list e3 (.cons (.str _ _) (.cons (.str _ _) .nil)))) .nil)))) ?_
      refine .cons (Rd.up r5 (.tuple f4 (.cons (.int _ _) (.cons (Rd.up m4 (.list e4 (.cons (.str _ _) .nil))) .nil)))) ?_
      refine .cons (Rd.up r6 (.tuple f5 (.cons (.int _ _) (.cons (Rd.up m5 (.list e5 (.cons (.str _ _) (.cons (.str _ _) .nil)))) .nil)))) ?_
      exact .cons (.tuple f6 (.cons (.int _ _) (.cons (Rd.up m6 (.list e6 (.cons (.str _ _) (.cons (.str _ _) .nil)))) .nil))) .nil
    · rintro vs s ⟨g', l, hrd, F⟩
      have hlen : vs.length = 6 := hrd.len
      refine mkList F (fun a s g'' l' e F => ?_) (by rw [hlen]; decide)
      refine iter_list R.hand F (items := vs.toArray) ⟨_, e, rfl, _, rfl⟩ (fun i g' mu' => mu' = (L, Loc [(Str.ofString "run", .str x t)]) :: mu ∧ (rankTab.take i).all (fun p => !hits x p) = true) ⟨rfl, rfl⟩ ?_ ?_
      · rintro i v g3 mu' s E'' I PI hi hv l3 ⟨rfl, hno⟩ F
        obtain ⟨d, hd, hr⟩ := hrd.get (i := i) (v := v) (by simpa using hv)
        rw [List.getElem?_map] at hd
        obtain ⟨q, hq, rfl⟩ := Option.map_eq_some_iff.mp hd
        obtain ⟨b, us, rfl, ht, hus⟩ := (hr.up (l'.trans l3)).inv_tuple
        obtain ⟨v1, us', rfl, k1, hus⟩ := hus.inv
        obtain ⟨v2, us'', rfl, k2, hus⟩ := hus.inv
        rw [hus.inv0] at ht
        obtain ⟨t1, rfl⟩ := k1.inv_int
        obtain ⟨b2, ws, rfl, hl2, hws⟩ := k2.inv_list
        refine as_pair R.hand F ht fun s F => ?_
        refine ex_if (it_cmp (ld F (.head _) (.tail _ (.tail _ (.head _))) (ld F (.head _) (.head _) (cm_inl F hl2 hws (tr_bool ?_)))) rfl)
        show Wp _ _ (execs (if hits x q = true then _ else _) _) _ _ _
        cases hh : hits x q with
        | true =>
          simp only [if_true]
          refine ex_ret (ev_list (sp_cons (ld F (.head _) (.tail _ (.head _)) (sp_cons (ld F (.head _) (.tail _ (.tail _ (.head _))) (sp_nil (mkList F fun a s g4 l4 e F => ?_)))))))
          refine hQ _ _ _ (((l.trans l').trans l3).trans l4) F.drop.last ?_
          rw [hrk, hd0, rankOf, find_at hno hq hh]
          exact .list e (.cons (.int _ _) (.cons (.str _ _) .nil))
        | false =>
          simp only [Bool.false_eq_true, if_false]
          exact ex_skip (ex_nil (Went.on (Le.refl _) ⟨rfl, all_snoc hno hq hh⟩ (F.weak (Loc.sub (List.forall_mem_singleton.mpr (.tail _ (.tail _ (.head _))))))))
      · rintro g3 mu' s l3 ⟨rfl, hno⟩ F
        have hno : rankTab.all (fun p => !hits x p) = true := by rw [List.size_toArray, hlen] at hno; exact hno
        refine ex_ret (ev_list (sp_cons (ct_int F fun t5 s F => sp_cons (ld F (.head _) (.head _) (sp_nil (mkList F fun a s g4 l4 e F => ?_))))))
        refine hQ _ _ _ (((l.trans l').trans l3).trans l4) F.drop ?_
        rw [hrk, hd0, rankOf, find_none hno]
        exact .list e (.cons (.int _ _) (.cons (.str _ _) .nil))
end Mine

end
section
open PySem PySem.W PyProof.Rows PySem.Calls PySem.Spec
set_option Elab.async false
set_option maxRecDepth 100000
set_option autoImplicit false
set_option maxHeartbeats 1000000
namespace Mine
theorem fillU : (PySem.Challenge.rw_mq0069_01 = PySem.Challenge.rw_mq0069_01) ∧ (hd.heap_39 = hd.heap_39) := by k_fill; exact ⟨rfl, rfl⟩
theorem sep_in (c : Nat) : decide (c ∈ (Str.ofString "._+-").cps.toList) = isSep c := by
  have e : (Str.ofString "._+-").cps.toList = [46, 95, 43, 45] := by decide +kernel
  rw [e, Bool.eq_iff_iff]
  simp [isSep, or_assoc]
theorem str_eta (x : Str) : (⟨x.cps.toList.toArray⟩ : Str) = x := by cases x; simp
theorem cat_one (run : List Nat) (c : Nat) : (⟨run.toArray⟩ : Str) ++ ⟨#[c]⟩ = ⟨(run ++ [c]).toArray⟩ := by
  show (⟨run.toArray ++ #[c]⟩ : Str) = _
  simp
theorem stepR_run {st : List Str × List Nat} {c : Nat} : (stepR st c).2.length ≤ st.2.length + 1 := by
  unfold stepR; dsimp only; split <;> split <;> simp
theorem stepR_rs {st : List Str × List Nat} {c : Nat} : (stepR st c).1.length ≤ st.1.length + 1 := by
  unfold stepR; dsimp only; split <;> split <;> simp

theorem runs {w : World} (x : Str) (t : Tok) (hx2 : x.length ≤ 1000) :
    Pc w 82 [.str x t] 5 (fun _ => True) (fun g r => Rd g r (runsD x.cps.toList)) := by
  intro A s₀ s g mu Q E G R F _ hQ
  refine callf (binds := [(Str.ofString "word", .str x t)]) (l := [(Str.ofString "word", .str x t)]) G R F (by k_is) (by k_is) rfl rfl (List.forall_mem_singleton.mpr rfl) (by decide) rfl rfl rfl rfl ?_
  clear F
  intro L s E' R F
  refine ex_assign (ev_list (sp_nil (mkListM F fun D s F => sto F.swap fun s F => ?_)))
  refine ex_assign (ct_str F fun t1 s F => sto F fun s F => ?_)
  refine ex_for (ev_binop (ld F (.head _) (.tail _ (.tail _ (.head _))) (ct_str F fun t2 s F => op_cat ?_ F fun t3 s F => ?_)))
  · rw [show (Str.ofString ".").length = 1 from by decide +kernel, sizeLine_eq]; omega
  have hy : (x ++ Str.ofString ".").cps.toList = x.cps.toList ++ [46] := by
    show (x.cps ++ (Str.ofString ".").cps).toList = _
    rw [Array.toList_append, show (Str.ofString ".").cps.toList = [46] from by decide +kernel]
  have hn : (x ++ Str.ofString ".").cps.size = x.cps.size + 1 := by
    rw [← Array.length_toList, hy]; simp
  let st (i : Nat) := ((x ++ Str.ofString ".").cps.toList.take i).foldl stepR ([], [])
  let mk (D L : Addr) (vs : List Value) (run : List Nat) (t' : Tok) : Mu := (L, Loc [(Str.ofString "run", .str ⟨run.toArray⟩ t'), (Str.ofString "runs", .ref D)]) :: (D, Lst vs) :: mu
  have F := F.weak (Loc.sub (l' := [(Str.ofString "run", .str (Str.ofString "") t1), (Str.ofString "runs", .ref D)]) (List.forall_mem_cons.mpr ⟨.head _, List.forall_mem_singleton.mpr (.tail _ (.head _))⟩))
  rw [show Str.ofString "" = ⟨([] : List Nat).toArray⟩ from by decide +kernel] at F
  refine iter_str R.hand F (fun i g' mu' => ∃ vs t', mu' = mk D L vs (st i).2 t' ∧ RdA g' vs ((st i).1.map rankedD) ∧ (st i).2.length ≤ i ∧ (st i).1.length ≤ i) ⟨[], t1, rfl, .nil, by simp [st], by simp [st]⟩ ?_ ?_
  · rintro i c tc g' mu' s E'' I PI hc l ⟨vs, t', rfl, hrd, hle, hle2⟩ F
    have hi : i < x.cps.size + 1 := by
      rw [← hn]
      rcases Nat.lt_or_ge i (x ++ Str.ofString ".").cps.size with q | q
      · exact q
      · rw [Array.getElem?_eq_none q] at hc; cases hc
    have hst : st (i + 1) = stepR (st i) c := by
      show ((x ++ Str.ofString ".").cps.toList.take (i + 1)).foldl stepR ([], []) = _
      rw [take_snoc hc, List.foldl_append]; rfl
    have hx2' : x.cps.size ≤ 1000 := hx2
    generalize hsti : st i = q at hrd hle hle2 hst F
    obtain ⟨rs, run⟩ := q
    dsimp only at hrd hle hle2
    refine as_name F fun s F => ?_
    refine ex_if_to (fun s => ∃ g2 rs2 run2 vs2 t2, Le g' g2 ∧ stepR (rs, run) c = (if isSep c then (rs2, run2) else (rs2, run2 ++ [c])) ∧ RdA g2 vs2 (rs2.map rankedD) ∧ run2.length ≤ i ∧ rs2.length ≤ i + 1 ∧
        Fx s₀ g2 ((L, Loc [(Str.ofString "run", .str ⟨run2.toArray⟩ t2), (Str.ofString "one", .str ⟨#[c]⟩ tc), (Str.ofString "runs", .ref D)]) :: (D, Lst vs2) :: (mu ++ [(I, PI)])) s) ?_ ?_
    · refine via (fun b s => b = cutR run c ∧ Fx s₀ g' ((L, Loc [(Str.ofString "one", .str ⟨#[c]⟩ tc), (Str.ofString "run", .str ⟨run.toArray⟩ t'), (Str.ofString "runs", .ref D)]) :: (D, Lst vs) :: (mu ++ [(I, PI)])) s) ?_ ?_
      · have e0 : (Str.ofString "").cps.toList = [] := by decide +kernel
        have F := F.weak (Loc.sub (l' := [(Str.ofString "one", .str ⟨#[c]⟩ tc), (Str.ofString "run", .str ⟨run.toArray⟩ t'), (Str.ofString "runs", .ref D)]) (fun p hp => hp))
        refine it_and2 (it_cmp (ld F (.head _) (.tail _ (.head _)) (ct_str F fun t4 s F => cm_ne_str (tr_bool ?_))) rfl)
        rw [e0]
        cases run with
        | nil => exact ⟨fun _ => ⟨rfl, F⟩, fun h => nomatch h⟩
        | cons r0 run =>
          refine ⟨fun h => (nomatch h), fun _ => it_or2 (it_cmp (ld F (.head _) (.head _) (ct_str F fun t5 s F => cm_in1 (tr_bool ?_))) rfl)⟩
          rw [sep_in]
          refine ⟨fun h => ⟨by simp [cutR, h], F⟩, fun h => it_cmp (ev_cmp (ld F (.head _) (.head _) (ct_str F fun t6 s F => cm_in1 ?_)) rfl) rfl⟩
          refine ev_cmp (ev_sub (ld F (.head _) (.tail _ (.head _)) (ct_int F fun t7 s F => at_str (i := 0) (c := r0) rfl (by omega) F fun t8 s F => ct_str F fun t9 s F => cm_in1 (cm_ne_bool (tr_bool ?_))))) rfl
          rw [dig_in, dig_in]
          exact ⟨by simp [cutR, h], F⟩
      · rintro b s ⟨rfl, F⟩
        cases hcut : cutR run c with
        | true =>
          simp only [if_true]
          have hpos : 0 < (⟨run.toArray⟩ : Str).length := by
            show 0 < run.toArray.size
            cases run with
            | nil => simp [cutR] at hcut
            | cons => simp
          refine ex_expr (ev_append F (.head _) (.tail _ (.tail _ (.head _))) (.tail _ (.head _)) (callG (G.up l) F (by k_is) (by k_is) (sp_cons (ld F (.head _) (.tail _ (.head _)) (sp_nil ⟨⟨_, _, Le.refl _, F⟩, ?_⟩)))))
          refine ranked _ _ hpos _ _ _ _ _ _ _ (G.up l) (R.less (by omega)) F trivial fun r s g2 l2 F hr => ?_
          refine ⟨g2, vs, L, _, _, F, ?_, fun s F => ⟨rfl, ?_⟩⟩
          · have := hrd.len; rw [List.length_map] at this; omega
          refine ex_assign (ct_str F fun t5 s F => sto F fun s F => ?_)
          refine ex_nil ⟨rfl, g2, rs ++ [⟨run.toArray⟩], [], vs ++ [r], t5, l2, ?_, ?_, by simp, by simp; omega, ?_⟩
          · simp [stepR, hcut]
          · rw [List.map_append]; exact (hrd.up l2).snoc hr
          · rw [show Str.ofString "" = ⟨([] : List Nat).toArray⟩ from by decide +kernel] at F
            exact F.weak (Loc.sub (fun p hp => hp))
        | false =>
          simp only [Bool.false_eq_true, if_false]
          refine ex_nil ⟨rfl, g', rs, run, vs, t', Le.refl _, by simp [stepR, hcut], hrd, hle, by omega, ?_⟩
          exact F.weak (Loc.sub (List.forall_mem_cons.mpr ⟨.tail _ (.head _), List.forall_mem_cons.mpr ⟨.head _, List.forall_mem_singleton.mpr (.tail _ (.tail _ (.head _)))⟩⟩))
    · rintro s ⟨g2, rs2, run2, vs2, t2, l2, hstep, hrd2, hr2, hs2, F⟩
      refine ex_if (it_cmp (ld F (.head _) (.tail _ (.head _)) (ct_str F fun t4 s F => cm_nin1 (tr_bool ?_))) rfl)
      rw [sep_in]
      have fin : ∀ run3 t3 s, st (i + 1) = (rs2, run3) → run3.length ≤ i + 1 → Fx s₀ g2 ((L, Loc [(Str.ofString "run", .str ⟨run3.toArray⟩ t3), (Str.ofString "runs", .ref D)]) :: (D, Lst vs2) :: (mu ++ [(I, PI)])) s →
          ∃ g'' mu'', Le g' g'' ∧ (∃ vs t', mu'' = mk D L vs (st (i + 1)).2 t' ∧ RdA g'' vs ((st (i + 1)).1.map rankedD) ∧ (st (i + 1)).2.length ≤ i + 1 ∧ (st (i + 1)).1.length ≤ i + 1) ∧ Fx s₀ g'' (mu'' ++ [(I, PI)]) s := by
        intro run3 t3 s e h3 F
        rw [e]
        exact ⟨g2, _, l2, ⟨vs2, t3, rfl, hrd2, h3, hs2⟩, F⟩
      cases hsep : isSep c with
      | true =>
        refine ex_skip (ex_nil (fin run2 t2 _ (by rw [hst, hstep, hsep]; rfl) (by omega) (F.weak (Loc.sub (List.forall_mem_cons.mpr ⟨.head _, List.forall_mem_singleton.mpr (.tail _ (.tail _ (.head _)))⟩)))))
      | false =>
        refine ex_assign (ev_binop (ld F (.head _) (.head _) (ld F (.head _) (.tail _ (.head _)) (op_cat ?_ F fun t5 s F => sto F fun s F => ?_))))
        · show run2.toArray.size + 1 ≤ sizeLine
          rw [List.size_toArray, sizeLine_eq]; omega
        rw [cat_one] at F
        refine ex_nil (ex_nil (fin (run2 ++ [c]) t5 _ (by rw [hst, hstep, hsep]; rfl) (by simp; omega) (F.weak (Loc.sub (List.forall_mem_cons.mpr ⟨.head _, List.forall_mem_singleton.mpr (.tail _ (.tail _ (.head _)))⟩)))))
  · rintro g' mu' s l ⟨vs, t', rfl, hrd, hle, hle2⟩ F
    refine ex_ret (ld F (.head _) (.tail _ (.head _)) ?_)
    obtain ⟨g2, o, l2, e, ⟨n, rfl⟩, F2⟩ := F.drop.freeze
    refine hQ _ _ _ (l.trans l2) F2 ?_
    have : st (x ++ Str.ofString ".").cps.size = ((x.cps.toList ++ [46]).foldl stepR ([], [])) := by
      show ((x ++ Str.ofString ".").cps.toList.take _).foldl stepR _ = _
      rw [List.take_of_length_le (by simp), hy]
    rw [this] at hrd
    exact .list e (hrd.up l2)
end Mine

end
section
open PySem PySem.W PyProof.Rows PySem.Calls PySem.Spec
set_option Elab.async false
set_option maxRecDepth 100000
set_option autoImplicit false
set_option maxHeartbeats 1000000
namespace Mine
theorem fillW : (PySem.Challenge.rw_mq0069_01 = PySem.Challenge.rw_mq0069_01) ∧ (hd.heap_39 = hd.heap_39) := by k_fill; exact ⟨rfl, rfl⟩
theorem wordsSt_succ (cs : List Nat) (i : Nat) : wordsSt cs (i + 1) = stepW cs (wordsSt cs i) i := by simp [wordsSt, List.range_succ, List.foldl_append]
theorem wordsSt_len (cs : List Nat) : ∀ i, (wordsSt cs i).1.length ≤ i
  | 0 => by simp [wordsSt]
  | i + 1 => by
    have := wordsSt_len cs i
    rw [wordsSt_succ]; unfold stepW
    split
    · split
      · simp; omega
      · simp; omega
    · omega

theorem words {w : World} (x : Str) (t : Tok) (hx2 : x.length ≤ 900) :
    Pc w 63 [.str x t] 5 (fun _ => True) (fun g r => Rd g r (.list ((wordsOf x.cps.toList).map spanD))) := by
  intro A s₀ s g mu Q E G R F _ hQ
  refine callf (binds := [(Str.ofString "row", .str x t)]) (l := [(Str.ofString "row", .str x t)]) G R F (by k_is) (by k_is) rfl rfl (List.forall_mem_singleton.mpr rfl) (by decide) rfl rfl rfl rfl ?_
  clear F
  intro L s E' R F
  have hx3 : x.cps.size ≤ 900 := hx2
  refine ex_assign (ev_list (sp_nil (mkListM F fun D s F => sto F.swap fun s F => ?_)))
  refine ex_assign (ct_int F fun t1 s F => sto F fun s F => ?_)
  refine ex_for (callT G F (by k_is) (by rfl) (sp_cons (callB G F (by k_is) (by rfl) (sp_cons (ld F (.head _) (.tail _ (.tail _ (.head _))) (sp_nil (bi_len_str (by omega) F fun t2 s F => sp_nil (bi_range F fun r s g1 t3 u3 l1 hr F => ?_))))))))
  have F := F.weak (Loc.sub (l' := [(Str.ofString "first", .int 0 t1), (Str.ofString "spans", .ref D), (Str.ofString "row", .str x t)]) (fun p hp => hp))
  let mk (D L : Addr) (vs : List Value) (first : Nat) (t' : Tok) : Mu := (L, Loc [(Str.ofString "first", .int (first : Int) t'), (Str.ofString "spans", .ref D), (Str.ofString "row", .str x t)]) :: (D, Lst vs) :: mu
  refine iter_rangeN R.hand F hr (by omega) (fun i g' mu' => ∃ vs t', mu' = mk D L vs (wordsSt x.cps.toList i).2 t' ∧ RdA g' vs ((wordsSt x.cps.toList i).1.map spanD)) ⟨[], t1, rfl, .nil⟩ ?_ ?_
  · rintro i ti g' mu' s E'' I PI hi l ⟨vs, t', rfl, hrd⟩ F
    have hi : i < x.cps.size := hi
    refine as_name F fun s F => ?_
    obtain ⟨c, hc⟩ : ∃ c, x.cps[i]? = some c := ⟨_, Array.getElem?_eq_getElem hi⟩
    have hcD : x.cps.toList.getD i 0 = c := by rw [List.getD_eq_getElem?_getD, Array.getElem?_toList, hc]; rfl
    have hlen : vs.length ≤ i := by have h1 := hrd.len; have h2 := wordsSt_len x.cps.toList i; rw [List.length_map] at h1; omega
    have fin : ∀ sp2 (first2 : Nat) g2 vs2 t2 s, wordsSt x.cps.toList (i + 1) = (sp2, first2) → Le g' g2 → RdA g2 vs2 (sp2.map spanD) → Fx s₀ g2 ((L, Loc [(Str.ofString "first", .int (first2 : Int) t2), (Str.ofString "spans", .ref D), (Str.ofString "row", .str x t)]) :: (D, Lst vs2) :: (mu ++ [(I, PI)])) s →
          ∃ g'' mu'', Le g' g'' ∧ (∃ vs t', mu'' = mk D L vs (wordsSt x.cps.toList (i + 1)).2 t' ∧ RdA g'' vs ((wordsSt x.cps.toList (i + 1)).1.map spanD)) ∧ Fx s₀ g'' (mu'' ++ [(I, PI)]) s :=
      fun sp2 first2 g2 vs2 t2 s e l2 h2 F => by rw [e]; exact ⟨g2, _, l2, ⟨vs2, t2, rfl, h2⟩, F⟩
    have hs0 := wordsSt_succ x.cps.toList i
    refine ex_if (it_cmp (ev_sub (ld F (.head _) (.tail _ (.tail _ (.tail _ (.head _)))) (ld F (.head _) (.head _) (at_str hc (by omega) F fun t4 s F => ct_str F fun t5 s F => cm_eq_str (tr_bool ?_))))) rfl)
    rw [show (Str.ofString " ").cps.toList = [32] from by decide +kernel]
    generalize wordsSt x.cps.toList i = q at hrd F hs0
    obtain ⟨sp, first⟩ := q
    simp only at hrd
    have hs : stepW x.cps.toList (sp, first) i = if c == 32 then ((if first < i then sp ++ [(first, i)] else sp), i + 1) else (sp, first) := by rw [stepW, hcD]
    rw [hs] at hs0
    cases hb : (c == 32) with
    | true =>
      obtain rfl : c = 32 := by simpa using hb
      simp only [hb, if_true] at hs0
      refine ex_if_to (fun s => ∃ g2 vs2, Le g' g2 ∧ RdA g2 vs2 ((if first < i then sp ++ [(first, i)] else sp).map spanD) ∧ Fx s₀ g2 ((L, Loc [(Str.ofString "k", .int (i : Int) ti), (Str.ofString "spans", .ref D), (Str.ofString "row", .str x t)]) :: (D, Lst vs2) :: (mu ++ [(I, PI)])) s) ?_ ?_
      · refine it_cmp (ld F (.head _) (.tail _ (.head _)) (ld F (.head _) (.head _) (cm_lt (tr_bool ?_)))) rfl
        have e1 : decide ((first : Int) < (i : Int)) = decide (first < i) := by simp
        rw [e1]
        by_cases hlt : first < i
        · simp only [hlt, decide_true, if_true]
          refine ex_expr (ev_append F (.head _) (.tail _ (.tail _ (.head _))) (.tail _ (.head _)) (ev_tuple (sp_cons (ld F (.head _) (.tail _ (.head _)) (sp_cons (ld F (.head _) (.head _) (sp_nil (mkTuple F fun b s g2 l2 e F => ?_))))))))
          refine ⟨g2, vs, L, _, _, F, by omega, fun s F => ⟨rfl, ex_nil ⟨rfl, g2, vs ++ [.ref b], l2, ?_, F.weak (Loc.sub (List.forall_mem_cons.mpr ⟨.head _, List.forall_mem_cons.mpr ⟨.tail _ (.tail _ (.head _)), List.forall_mem_singleton.mpr (.tail _ (.tail _ (.tail _ (.head _))))⟩⟩))⟩⟩⟩
          rw [List.map_append]
          exact (hrd.up l2).snoc (.tuple e (.cons (.int _ _) (.cons (.int _ _) .nil)))
        · simp only [hlt, decide_false, Bool.false_eq_true, if_false]
          exact ex_nil ⟨rfl, g', vs, Le.refl _, hrd, F.weak (Loc.sub (List.forall_mem_cons.mpr ⟨.head _, List.forall_mem_cons.mpr ⟨.tail _ (.tail _ (.head _)), List.forall_mem_singleton.mpr (.tail _ (.tail _ (.tail _ (.head _))))⟩⟩))⟩
      · rintro s ⟨g2, vs2, l2, hrd2, F⟩
        refine ex_assign (ev_binop (ld F (.head _) (.head _) (ct_int F fun t6 s F => op_add F fun t7 s F => sto F fun s F => ?_)))
        refine ex_nil (ex_nil (fin _ _ g2 vs2 t7 _ hs0 l2 hrd2 (F.weak (Loc.sub ?_))))
        exact List.forall_mem_cons.mpr ⟨.head _, List.forall_mem_cons.mpr ⟨.tail _ (.tail _ (.head _)), List.forall_mem_singleton.mpr (.tail _ (.tail _ (.tail _ (.head _))))⟩⟩
    | false =>
      simp only [hb, Bool.false_eq_true, if_false] at hs0
      have hbb : ([c] == [32]) = false := by simpa using hb
      simp only [hbb, Bool.false_eq_true, if_false]
      exact ex_skip (ex_nil (fin _ _ g' vs t' _ hs0 (Le.refl _) hrd (F.weak (Loc.sub (fun p hp => .tail _ hp)))))
  · rintro g' mu' s l ⟨vs, t', rfl, hrd⟩ F
    refine ex_expr (ev_append F (.head _) (.tail _ (.head _)) (.tail _ (.head _)) (ev_tuple (sp_cons (ld F (.head _) (.head _) (sp_cons (callB (G.up (l1.trans l)) F (by k_is) (by rfl) (sp_cons (ld F (.head _) (.tail _ (.tail _ (.head _))) (sp_nil (bi_len_str (by omega) F fun t2 s F => sp_nil (mkTuple F fun b s g2 l2 e F => ?_)))))))))))
    have hn : x.cps.size = x.cps.toList.length := by simp
    have hlen : vs.length ≤ 900 := by have h1 := hrd.len; have h2 := wordsSt_len x.cps.toList x.length; rw [List.length_map] at h1; omega
    refine ⟨g2, vs, L, _, _, F, by omega, fun s F => ⟨rfl, ?_⟩⟩
    refine ex_ret (ld F (.head _) (.tail _ (.head _)) ?_)
    obtain ⟨g3, o, l3, e3, ⟨n, rfl⟩, F3⟩ := F.drop.freeze
    refine hQ _ _ _ (((l1.trans l).trans l2).trans l3) F3 (.list e3 ?_)
    rw [wordsOf, ← hn, List.map_append]
    exact (hrd.up (l2.trans l3)).snoc (.up l3 (.tuple e (.cons (.int _ _) (.cons (.int _ _) .nil))))
end Mine

end
section
open PySem PySem.W PyProof.Rows PySem.Calls PySem.Spec
set_option Elab.async false
set_option maxRecDepth 100000
set_option autoImplicit false
set_option maxHeartbeats 1000000
namespace Mine
theorem fillRow : (PySem.Challenge.rw_mq0069_01 = PySem.Challenge.rw_mq0069_01) ∧ (hd.heap_39 = hd.heap_39) := by k_fill; exact ⟨rfl, rfl⟩
section
variable {w : World} {A : Around} {E : Value → Shared → Prop} {s₀ s : Shared} {g : Heap} {mu : Mu} {env : Env} {Q : Value → Shared → Prop}
theorem at_list {value slice : Expr} {a : Addr} {vs : List Value} {k : Int} {u : Tok} {v : Value} (F : Fx s₀ g mu s) (hl : g.IsList a vs.toArray) (h0 : 0 ≤ k) (hf : k < 2 ^ 63) (hv : vs[k.toNat]? = some v) (h : Q v s)
    (hs : subscripted slice false (.ref a) (.int k u) = operate [.ref a, .int k u] (getItem (.ref a) (.int k u)) := by with_unfolding_all rfl) (hg : ∀ r, letTemporaryGo value (.ref a) r = pure () := by intro _; with_unfolding_all rfl) :
    Wp w A (subscriptTail value slice (.ref a) (.int k u)) Q E s := ⟨item_list (lst_up F.le hl) h0 hf (by simpa using hv) h hs hg⟩
theorem ev_meth {o : Expr} {name : Str} {apos pos : Pos} {args : List Expr} {pl : Sem Bool} (h : Wp w A (eval o env) (fun ov s₁ => Wp w A (getMethod ov name pl) (fun fx s₂ => Wp w A (callWith pos fx.1 fx.2 (backTo pos (starEach args env)) []) Q E s₂) E s₁) E s)
    (he : eval (.Call (.Attribute o name apos) args [] pos) env = (do
      let ov ← eval o env
      standAt apos.atName
      let (f, first) ← holding [ov] (getMethod ov name pl)
      callWith pos f first (backTo pos (starEach args env)) []) := by rfl) : Wp w A (eval (.Call (.Attribute o name apos) args [] pos) env) Q E s :=
  ⟨MethodCall_ (pl := pl) (wpAny_mono h.out (fun _ _ h => wpAny_mono h.out (fun _ _ h => h.out) fun _ _ e => e) fun _ _ e => e) he⟩
theorem cw_bi {id : String} {first : List Value} {pos : Pos} {e : Expr} {es : List Expr} (h : Wp w A (spliced (backTo pos (starEach (e :: es) env))) (fun vs s₁ => Wp w A (call (.builtin id) (first ++ vs)) Q E s₁) E s)
    (hst : starEach (e :: es) env = (false, eval e env) :: starEach es env := by rfl) (hst2 : ((backTo pos (starEach es env)).any fun x => x.1) = false := by rfl) : Wp w A (callWith pos (.builtin id) first (backTo pos (starEach (e :: es) env)) []) Q E s :=
  ⟨callWith_method1 (wpAny_mono h.out (fun _ _ h => h.out) fun _ _ e => e) hst hst2⟩
theorem gm_join {x : Str} {t : Tok} {pl : Sem Bool} {Q : Value × List Value → Shared → Prop} (h : Q (.builtin "str.join", [.str x t]) s) : Wp w A (getMethod (.str x t) (Str.ofString "join") pl) Q E s := ⟨GM.join h⟩
end
theorem strs_vals {g : Heap} : ∀ {ns : List Str} {vs : List Value}, RdA g vs (ns.map .str) → ∃ l, vs = strValues l ∧ l.map (·.1) = ns
  | [], vs, x => ⟨[], by rw [x.inv0]; rfl, rfl⟩
  | n :: ns, vs, x => by
    obtain ⟨v, vs', rfl, h1, h2⟩ := x.inv
    obtain ⟨t, rfl⟩ := h1.inv_str
    obtain ⟨l, rfl, e⟩ := strs_vals h2
    exact ⟨(n, t) :: l, rfl, by rw [List.map_cons, e]⟩
theorem bi_join {w : World} {A : Around} {E : Value → Shared → Prop} {s₀ s : Shared} {g : Heap} {mu : Mu} {Q : Value → Shared → Prop} {x : Str} {t : Tok} {D : Addr} {vs : List Value} {ns : List Str} (F : Fx s₀ g mu s) (hl : g.IsList D vs.toArray) (hr : RdA g vs (ns.map .str)) (hok : JoinOk x ns = true)
    (h : ∀ t s', Fx s₀ g mu s' → Q (.str (Str.join x ns) t) s') : Wp w A (call (.builtin "str.join") [.str x t, .ref D]) Q E s := by
  obtain ⟨l, rfl, e⟩ := strs_vals hr
  exact ⟨SC.join (lst_up F.le hl) e hok fun t' k => by rw [show Txt.join x ns = Str.join x ns from by simpa using join_plain_closes x ns]; exact h _ _ (F.tok _)⟩
theorem joinP (sep : Str) (l : List Str) : Txt.join sep l = Str.join sep l := by simpa using join_plain_closes sep l
theorem pieces_len (n : Int) : (pieceAt n).length ≤ 5 := by
  have h1 := fmod_lo n (n := 20) (by decide)
  have h2 := fmod_hi n (n := 20) (by decide)
  unfold pieceAt
  generalize n.fmod 20 = m at h1 h2
  obtain ⟨k, rfl⟩ := Int.eq_ofNat_of_zero_le h1
  have : ∀ k : Nat, k < 20 → (pieceTab.getD (Int.toNat (k : Int)) Str.empty).length ≤ 5 := by decide +kernel
  exact this k (by omega)

theorem join_len : ∀ ns : List Int, (Str.join (Str.ofString "") (ns.map pieceAt)).length ≤ 5 * ns.length
  | [] => by simp [Str.join, Str.empty, Str.length]
  | [n] => by have := pieces_len n; simp only [List.map_cons, List.map_nil, Str.join, List.length_cons, List.length_nil]; omega
  | n :: m :: r => by
    have h1 := pieces_len n
    have h2 := join_len (m :: r)
    simp only [List.map_cons] at h2 ⊢
    rw [Str.join]
    · rw [Str.length_append, Str.length_append, show (Str.ofString "").length = 0 from by decide +kernel]
      simp only [List.length_cons] at h2 ⊢
      omega
    · intro h; cases h
theorem rowJoin_len {ns : List Int} : (Str.join (Str.ofString "") (ns.map pieceAt)).length ≤ 5 * ns.length := join_len ns
theorem joinOk_row {ns : List Int} (hn : ns.length ≤ 6) : JoinOk (Str.ofString "") (ns.map pieceAt) = true := by
  have key : ∀ (l : List Int) (n : Nat), (l.map pieceAt).foldl (fun a x => a + x.length + (Str.ofString "").length) n ≤ n + 5 * l.length := by
    intro l
    induction l with
    | nil => intro n; simp
    | cons a r ih =>
      intro n
      have h1 := pieces_len a
      have h2 := ih (n + (pieceAt a).length + (Str.ofString "").length)
      rw [show (Str.ofString "").length = 0 from by decide +kernel] at h2 ⊢
      simp only [List.map_cons, List.foldl_cons, List.length_cons] at h2 ⊢
      omega
  have := key ns 0
  unfold JoinOk Builtin.Str.tooLong
  rw [Bool.not_eq_true', decide_eq_false_iff_not, List.foldl_toArray, sizeLine_eq]
  omega

theorem row {w : World} (a : Addr) (ns : List Int) (hn : ns.length ≤ 6) :
    Pc w 56 [.ref a] 5 (fun g => Rd g (.ref a) (.list (ns.map .int))) (fun g r => ∃ t, r = .str (rowOf ns) t) := by
  intro A s₀ s g mu Q E G R F hpre hQ
  refine callx (binds := [(Str.ofString "numbers", .ref a)]) G R F (G.K _ _ (by k_is)) rfl (codeRec_of G.K (by k_is)) rfl (.of_eq rfl) rfl rfl ?_
  clear F
  intro L s E' R F
  have F : Fx s₀ g ((L + 1, CelX) :: (L, Loc []) :: mu) s := F
  refine sto F.swap fun s F => ⟨⟨_, F⟩, fun E' => ?_⟩
  refine ex_assign (ev_list (via (fun vs s => RdA g vs (pieceTab.map .str) ∧ Fx s₀ g ((L, Loc [(Str.ofString "numbers", .ref a)]) :: (L + 1, CelX) :: mu) s) ?_ ?_))
  · have F : Fx s₀ g ((L, Loc [(Str.ofString "numbers", .ref a)]) :: (L + 1, CelX) :: mu) s := F
    refine sp_cons (ct_str F fun _ s F => ?_)
    refine sp_cons (ct_str F fun _ s F => ?_)
    refine sp_cons (ct_str F fun _ s F => ?_)
    refine sp_cons (ct_str F fun _ s F => ?_)
    refine sp_cons (ct_str F fun _ s F => ?_)
    refine sp_cons (ct_str F fun _ s F => ?_)
    refine sp_cons (ct_str F fun _ s F => ?_)
    refine sp_cons (ct_str F fun _ s F => ?_)
    refine sp_cons (ct_str F fun _ s F => ?_)
    refine sp_cons (ct_str F fun _ s F => ?_)
    refine sp_cons (ct_str F fun _ s F => ?_)
    refine sp_cons (ct_str F fun _ s F => ?_)
    refine sp_cons (ct_str F fun _ s F => ?_)
    refine sp_cons (ct_str F fun _ s F => ?_)
    refine sp_cons (ct_str F fun _ s F => ?_)
    refine sp_cons (ct_str F fun _ s F => ?_)
    refine sp_cons (ct_str F fun _ s F => ?_)
    refine sp_cons (ct_str F fun _ s F => ?_)
    refine sp_cons (ct_str F fun _ s F => ?_)
    refine sp_cons (ct_str F fun _ s F => ?_)
    exact sp_nil ⟨.cons (.str _ _) (.cons (.str _ _) (.cons (.str _ _) (.cons (.str _ _) (.cons (.str _ _) (.cons (.str _ _) (.cons (.str _ _) (.cons (.str _ _) (.cons (.str _ _) (.cons (.str _ _) (.cons (.str _ _) (.cons (.str _ _) (.cons (.str _ _) (.cons (.str _ _) (.cons (.str _ _) (.cons (.str _ _) (.cons (.str _ _) (.cons (.str _ _) (.cons (.str _ _) (.cons (.str _ _) (.nil)))))))))))))))))))), F⟩
  · rintro vs s ⟨hvs, F⟩
    have hlen : vs.length = 20 := hvs.len
    refine mkList F (fun b s g1 l1 e1 F => ?_) (by rw [hlen]; decide)
    refine stoc (pre := [_]) F rfl rfl (fun _ h => h) fun s F => ?_
    refine ex_ret (ev_binop ?_)
    obtain ⟨a', us, e, hla, hus⟩ := hpre.inv_list
    cases e
    have husl : us.length = ns.length := by have := hus.len; simpa using this
    refine ev_meth (ct_str F fun t1 s F => gm_join (cw_bi (sp_cons (ev_comp (ld F (.head _) (.head _) ?_)))))
    refine cm_list R.hand F (lst_up l1 hla) (by rw [List.size_toArray]; omega) (fun i g' ys => RdA g' ys ((ns.take i).map fun n => .str (pieceAt n))) .nil ?_ ?_
    · intro i v g' C l mu₁ ys s E2 hi hv lg hJ hmu F
      obtain ⟨d, hd, hr⟩ := hus.get (i := i) (v := v) (by simpa using hv)
      rw [List.getElem?_map] at hd
      obtain ⟨n, hn', rfl⟩ := Option.map_eq_some_iff.mp hd
      obtain ⟨t2, rfl⟩ := hr.inv_int
      refine ct_of (as_name F fun s F => ?_)
      refine ev_sub (ldc F rfl (.tail _ (hmu _ (.tail _ (.head _)))) (ev_binop (ld F (.head _) (.head _) (ct_int F fun t3 s F => op_mod (by decide) F fun t4 s F => ?_))))
      have h1 := fmod_lo n (n := 20) (by decide)
      have h2 := fmod_hi n (n := 20) (by decide)
      have hk : (n.fmod 20).toNat < vs.length := by omega
      obtain ⟨d2, hd2, hr2⟩ := hvs.get (i := (n.fmod 20).toNat) (List.getElem?_eq_getElem hk)
      refine at_list F (lst_up lg ⟨_, e1, rfl, _, rfl⟩) h1 (by omega) (List.getElem?_eq_getElem hk) ?_
      refine ⟨g', _, Le.refl _, ?_, F⟩
      rw [List.take_add_one, hn', List.map_append]
      refine hJ.snoc ?_
      have e3 : d2 = .str (pieceAt n) := by
        rw [List.getElem?_map] at hd2
        obtain ⟨y, hy, rfl⟩ := Option.map_eq_some_iff.mp hd2
        rw [pieceAt, List.getD_eq_getElem?_getD, hy]; rfl
      rw [e3] at hr2
      exact hr2.up (l1.trans lg)
    · intro C D g2 ys l s' lg hJ hyl F
      refine post_plain F fun g3 s n l3 e3 F => ?_
      have hJ' : RdA g3 ys ((ns.map pieceAt).map .str) := by
        rw [List.size_toArray, husl, List.take_length] at hJ
        rw [List.map_map]; exact hJ.up l3
      refine sp_nil (bi_join F ⟨_, e3, rfl, _, rfl⟩ hJ' ?_ fun t5 s F => ct_str F fun t6 s F => op_cat ?_ F fun t7 s F => ?_)
      · exact joinOk_row hn
      · have := rowJoin_len (ns := ns); rw [show (Str.ofString " 1.9 1.10").length = 9 from by decide +kernel, sizeLine_eq]; omega
      · exact hQ _ _ _ ((l1.trans lg).trans l3) F.drop.drop ⟨t7, rfl⟩
end Mine

end
section
open PySem PySem.Sre
set_option autoImplicit false
set_option maxRecDepth 100000
namespace Mine
def rc : Array Nat := #[14, 4, 0, 1, 4294967295, 17, 0, 7, 14, 24, 10, 1, 4294967295, 13, 5, 22, 48, 57, 0, 1, 15, 17, 15, 13, 11, 9, 0, 26624, 2147483648, 0, 0, 0, 0, 0, 0, 15, 2, 0, 17, 1, 1]
def isDigR (c : Nat) : Bool := decide (48 ≤ c) && decide (c ≤ 57)
def isSepR (c : Nat) : Bool := c == 46 || c == 95 || c == 43 || c == 45
def f0 (p : Nat) (om : Bool) : Sre.Frame := { wait := .nextStart, pc := 5, pos := p, outermost := om }
/-- at the start of a try at place p -/
def Sp (text : Array Nat) (lim p : Nat) (om : Bool) (marks : Array (Option Nat)) (seen : Seen) : M :=
  { code := rc, text, lim, start := p, lastStart := lim, pc := 5, pos := p, handed := p, outermost := om, marks, frames := [f0 p om], weight := 1, seen }
def fb (k p : Nat) (om : Bool) : Sre.Frame := { wait := .nextBranch, pc := k, pos := p, outermost := om, kept := { lastmark := 0 } }
/-- ahead of the digits -/
def Sd (text : Array Nat) (lim p : Nat) (om : Bool) (marks : Array (Option Nat)) (seen : Seen) : M :=
  { code := rc, text, lim, start := p, lastStart := lim, pc := 9, pos := p, handed := p, outermost := om, marks, lastmark := 0, frames := [fb 8 p om, f0 p om], weight := 2, seen }
/-- ahead of the set -/
def Ss (text : Array Nat) (lim p : Nat) (om : Bool) (marks : Array (Option Nat)) (seen : Seen) : M :=
  { code := rc, text, lim, start := p, lastStart := lim, pc := 23, pos := p, handed := p, outermost := om, marks, lastmark := 0, frames := [fb 22 p om, f0 p om], weight := 2, seen }
theorem runFor_succ {n : Nat} {m : M} (h : m.outcome = none) : M.runFor (n + 1) m = M.runFor n m.step := by
  rw [M.runFor, h]; rfl
/-- it comes to this, within b steps -/
def Comes (b : Nat) (m : M) (P : M → Prop) : Prop := ∃ N, N ≤ b ∧ P (M.runFor N m)
theorem Comes.step {b : Nat} {m : M} {P : M → Prop} (h : m.outcome = none) (c : Comes (b - 1) m.step P) (hb : 0 < b := by omega) : Comes b m P := let ⟨N, hN, p⟩ := c; ⟨N + 1, by omega, by rw [runFor_succ h]; exact p⟩
theorem Comes.here {b : Nat} {m : M} {P : M → Prop} (p : P m) : Comes b m P := ⟨0, Nat.zero_le _, p⟩
theorem Comes.to {b : Nat} {m m' : M} {P : M → Prop} (e : m = m') (c : Comes b m' P) : Comes b m P := e ▸ c
theorem Comes.mono {b b' : Nat} {m : M} {P : M → Prop} (h : b ≤ b') (c : Comes b m P) : Comes b' m P := let ⟨N, hN, p⟩ := c; ⟨N, Nat.le_trans hN h, p⟩

theorem two (text : Array Nat) (lim p : Nat) (om : Bool) (marks : Array (Option Nat)) (seen : Seen) :
    ∃ seen', (Sp text lim p om marks seen).step.step = Sd text lim p om (marks.setIfInBounds 0 (some p)) seen' := ⟨_, rfl⟩
theorem acc13 (c : Nat) (seen : Seen) : ∃ seen', accepts rc 13 c seen = .ok (isDigR c, seen') := by
  show ∃ seen', (if (decide (48 ≤ c) && decide (c ≤ 57)) = true then Except.ok (true, _) else Except.ok (false, _)) = _
  unfold isDigR
  cases h : (decide (48 ≤ c) && decide (c ≤ 57)) with
  | true => exact ⟨_, rfl⟩
  | false => exact ⟨_, rfl⟩
def digLen (text : Array Nat) : (n p : Nat) → Nat
  | 0, _ => 0
  | n + 1, p => if isDigR (text.getD p 0) then digLen text n (p + 1) + 1 else 0
theorem run_eq (text : Array Nat) : ∀ (n p found : Nat) (seen : Seen), ∃ seen', Sre.run rc text 13 n p found seen = .ok (found + digLen text n p, seen')
  | 0, p, found, seen => ⟨seen, rfl⟩
  | n + 1, p, found, seen => by
    obtain ⟨s1, e1⟩ := acc13 (text.getD p 0) seen
    rw [Sre.run, e1]
    show ∃ seen', (if isDigR (text.getD p 0) = true then Sre.run rc text 13 n (p + 1) (found + 1) s1 else pure (found, s1)) = _
    rw [digLen]
    cases isDigR (text.getD p 0) with
    | true =>
      obtain ⟨s2, e2⟩ := run_eq text n (p + 1) (found + 1) s1
      exact ⟨s2, by rw [if_pos rfl, e2, if_pos rfl]; congr 2; omega⟩
    | false => exact ⟨s1, rfl⟩
theorem bits (c : Nat) : (decide (c < 256) && ((rc.getD (25 + (1 + c / 32)) 0).testBit (c % 32))) = isSepR c := by
  by_cases h : c < 256
  · have key : ∀ c, c < 256 → (decide (c < 256) && ((rc.getD (25 + (1 + c / 32)) 0).testBit (c % 32))) = isSepR c := by decide +kernel
    exact key c h
  · unfold isSepR
    have h1 : (c == 46) = false := by simp; omega
    have h2 : (c == 95) = false := by simp; omega
    have h3 : (c == 43) = false := by simp; omega
    have h4 : (c == 45) = false := by simp; omega
    simp [h, h1, h2, h3, h4]
theorem acc23 (c : Nat) (seen : Seen) : ∃ seen', accepts rc 23 c seen = .ok (isSepR c, seen') := by
  show ∃ seen', (if (decide (c < 256) && ((rc.getD (25 + (1 + c / 32)) 0).testBit (c % 32))) = true then Except.ok (true, _) else Except.ok (false, _)) = _
  rw [bits]
  cases isSepR c with
  | true => exact ⟨_, rfl⟩
  | false => exact ⟨_, rfl⟩

def No (m : M) : Prop := match m.outcome with | some .failed => True | _ => False
def Yes (q e : Nat) (m : M) : Prop := (match m.outcome with | some .matched => True | _ => False) ∧ m.start = q ∧ m.handed = e ∧ m.lastmark = 1 ∧ m.marks.getD 0 none = some q ∧ m.marks.getD 1 none = some e
/-- behind the digits -/
def Sg (text : Array Nat) (lim p n : Nat) (om : Bool) (marks : Array (Option Nat)) (seen : Seen) : M :=
  { code := rc, text, lim, start := p, lastStart := lim, pc := 20, pos := p + n, handed := p + n, outermost := om, marks, lastmark := 0, frames := [{ wait := .giveBack, pc := 9, pos := p + n, outermost := om, count := n, kept := { lastmark := 0 } }, fb 8 p om, f0 p om], weight := 3, seen }
/-- behind the sign of the set -/
def St (text : Array Nat) (lim p : Nat) (om : Bool) (marks : Array (Option Nat)) (seen : Seen) : M :=
  { code := rc, text, lim, start := p, lastStart := lim, pc := 35, pos := p + 1, handed := p, outermost := om, marks, lastmark := 0, frames := [fb 22 p om, f0 p om], weight := 2, seen }
def saysNo (m : M) (seen : Seen) : M := { m with answer := some false, seen }
theorem sd_end (text : Array Nat) (lim p : Nat) (om : Bool) (marks : Array (Option Nat)) (seen : Seen) (h : lim ≤ p) : ∃ seen', (Sd text lim p om marks seen).step = saysNo (Sd text lim p om marks seen) seen' := by
  show ∃ seen', (if ((1 : Nat) : Int) > (lim : Int) - (p : Int) then _ else _) = _
  rw [if_pos (by omega)]
  exact ⟨_, rfl⟩
theorem sd_run (text : Array Nat) (lim p : Nat) (om : Bool) (marks : Array (Option Nat)) (seen : Seen) (h : p < lim) (hl : lim ≤ 4294967295) :
    ∃ seen', (Sd text lim p om marks seen).step = if digLen text (lim - p) p = 0 then saysNo (Sd text lim p om marks seen) seen' else Sg text lim p (digLen text (lim - p) p) om marks seen' := by
  obtain ⟨s1, e1⟩ := run_eq text (min 4294967295 (((lim : Int) - (p : Int)).toNat)) p 0 ((seen.add 24).add 13)
  have e2 : (Sd text lim p om marks seen).step = (if ((1 : Nat) : Int) > (lim : Int) - (p : Int) then saysNo (Sd text lim p om marks seen) (seen.add 24) else
      match Sre.run rc text 13 (min 4294967295 (((lim : Int) - (p : Int)).toNat)) p 0 ((seen.add 24).add 13) with
      | .error why => ({ Sd text lim p om marks seen with seen := seen.add 24 } : M).stick why
      | .ok (n, s') => if n < 1 then saysNo (Sd text lim p om marks seen) s' else Sg text lim p n om marks s') := by
    show (if ((1 : Nat) : Int) > (lim : Int) - (p : Int) then _ else _) = (if ((1 : Nat) : Int) > (lim : Int) - (p : Int) then _ else _)
    congr 1
  rw [e2, if_neg (by omega), e1]
  have e3 : min 4294967295 (((lim : Int) - (p : Int)).toNat) = lim - p := by omega
  rw [e3]
  refine ⟨s1, ?_⟩
  show (if 0 + digLen text (lim - p) p < 1 then _ else _) = _
  by_cases h0 : digLen text (lim - p) p = 0
  · rw [if_pos (by omega), if_pos h0]
  · rw [if_neg (by omega), if_neg h0, Nat.zero_add]
theorem getD_set2 {marks : Array (Option Nat)} (hm : marks.size = 2) (a b : Nat) : ((marks.setIfInBounds 0 (some a)).setIfInBounds 1 (some b)).getD 0 none = some a ∧ ((marks.setIfInBounds 0 (some a)).setIfInBounds 1 (some b)).getD 1 none = some b := by
  obtain ⟨l⟩ := marks
  match l, hm with
  | [x, y], _ => exact ⟨rfl, rfl⟩
/-- at the mark behind a find -/
def Sm (text : Array Nat) (lim p e h : Nat) (om : Bool) (marks : Array (Option Nat)) (seen : Seen) (fs : List Sre.Frame) (wt : Nat) : M :=
  { code := rc, text, lim, start := p, lastStart := lim, pc := 38, pos := e, handed := h, outermost := om, marks, lastmark := 0, frames := fs, weight := wt, seen }
def Sm2 (li : Int) (text : Array Nat) (lim p e h : Nat) (om : Bool) (marks : Array (Option Nat)) (seen : Seen) (fs : List Sre.Frame) (wt : Nat) : M :=
  { code := rc, text, lim, start := p, lastStart := lim, pc := 40, pos := e, handed := h, outermost := om, marks := marks.setIfInBounds 1 (some e), lastmark := 1, lastindex := li, frames := fs, weight := wt, seen }
def Sy (li : Int) (text : Array Nat) (lim p e pc pos : Nat) (om : Bool) (marks : Array (Option Nat)) (seen : Seen) (fs : List Sre.Frame) (wt : Nat) : M :=
  { code := rc, text, lim, start := p, lastStart := lim, pc := pc, pos := pos, handed := e, outermost := om, marks := marks.setIfInBounds 1 (some e), lastmark := 1, lastindex := li, frames := fs, weight := wt, seen, answer := some true }
theorem sm1 (text : Array Nat) (lim p e h : Nat) (om : Bool) (marks : Array (Option Nat)) (seen : Seen) (fs : List Sre.Frame) (wt : Nat) : ∃ s' li, (Sm text lim p e h om marks seen fs wt).step = Sm2 li text lim p e h om marks s' fs wt := by
  cases fs <;> exact ⟨_, _, rfl⟩
theorem sm2 (li : Int) (text : Array Nat) (lim p e h : Nat) (om : Bool) (marks : Array (Option Nat)) (seen : Seen) (fs : List Sre.Frame) (wt : Nat) : ∃ s', (Sm2 li text lim p e h om marks seen fs wt).step = Sy li text lim p e 40 e om marks s' fs wt := by
  cases fs <;> cases om <;> exact ⟨_, rfl⟩
theorem sy_give (li : Int) (text : Array Nat) (lim p e pc pos : Nat) (om : Bool) (marks : Array (Option Nat)) (seen : Seen) (fs : List Sre.Frame) (f : Sre.Frame) (hf : f.wait = .giveBack ∨ f.wait = .nextBranch ∨ f.wait = .nextStart) (wt : Nat) :
    ∃ wt', (Sy li text lim p e pc pos om marks seen (f :: fs) wt).step = Sy li text lim p e f.pc f.pos f.outermost marks seen fs wt' := by
  obtain ⟨w, a, b, c, d, k, l, g⟩ := f
  rcases hf with rfl | rfl | rfl
  · exact ⟨_, rfl⟩
  · exact ⟨_, rfl⟩
  · exact ⟨_, rfl⟩
theorem sy_end (li : Int) (text : Array Nat) (lim p e pc pos : Nat) (om : Bool) (marks : Array (Option Nat)) (seen : Seen) (wt : Nat) (hm : marks.size = 2) {b : Nat} (hb : 0 < b) : Comes b (Sy li text lim p e pc pos om (marks.setIfInBounds 0 (some p)) seen [] wt) (Yes p e) := by
  obtain ⟨h1, h2⟩ := getD_set2 hm p e
  exact .step rfl (.here ⟨trivial, rfl, rfl, rfl, h1, h2⟩) hb
theorem sm_yes (text : Array Nat) (lim p e h : Nat) (om : Bool) (marks : Array (Option Nat)) (seen : Seen) (hm : marks.size = 2) : ∀ (fs : List Sre.Frame) (wt : Nat), (∀ f ∈ fs, f.wait = .giveBack ∨ f.wait = .nextBranch ∨ f.wait = .nextStart) → ∀ {b : Nat}, fs.length + 3 ≤ b → Comes b (Sm text lim p e h om (marks.setIfInBounds 0 (some p)) seen fs wt) (Yes p e) := by
  intro fs wt hf b hb
  obtain ⟨s1, li, e1⟩ := sm1 text lim p e h om (marks.setIfInBounds 0 (some p)) seen fs wt
  obtain ⟨s2, e2⟩ := sm2 li text lim p e h om (marks.setIfInBounds 0 (some p)) s1 fs wt
  refine .step rfl (.to e1 (.step rfl (.to e2 ?_)))
  have key : ∀ (fs : List Sre.Frame) (pc pos : Nat) (om : Bool) (wt : Nat), (∀ f ∈ fs, f.wait = .giveBack ∨ f.wait = .nextBranch ∨ f.wait = .nextStart) → ∀ {b : Nat}, fs.length + 1 ≤ b → Comes b (Sy li text lim p e pc pos om (marks.setIfInBounds 0 (some p)) s2 fs wt) (Yes p e) := by
    intro fs
    induction fs with
    | nil => intro pc pos om wt _ b hb; exact sy_end li text lim p e pc pos om marks s2 wt hm (by omega)
    | cons f fs ih =>
      intro pc pos om wt hf b hb
      rw [List.length_cons] at hb
      obtain ⟨wt', e3⟩ := sy_give li text lim p e pc pos om (marks.setIfInBounds 0 (some p)) s2 fs f (hf f List.mem_cons_self) wt
      exact .step rfl (.to e3 (ih _ _ _ _ (fun g hg => hf g (List.mem_cons_of_mem _ hg)) (by omega)))
  exact key fs _ _ _ _ hf (by omega)
theorem sg_jump (text : Array Nat) (lim p n : Nat) (om : Bool) (marks : Array (Option Nat)) (seen : Seen) : ∃ s', (Sg text lim p n om marks seen).step = Sm text lim p (p + n) (p + n) om marks s' [{ wait := .giveBack, pc := 9, pos := p + n, outermost := om, count := n, kept := { lastmark := 0 } }, fb 8 p om, f0 p om] 3 := ⟨_, rfl⟩
theorem sg_yes (text : Array Nat) (lim p n : Nat) (om : Bool) (marks : Array (Option Nat)) (seen : Seen) (hm : marks.size = 2) {b : Nat} (hb : 10 ≤ b) : Comes b (Sg text lim p n om (marks.setIfInBounds 0 (some p)) seen) (Yes p (p + n)) := by
  obtain ⟨s1, e1⟩ := sg_jump text lim p n om (marks.setIfInBounds 0 (some p)) seen
  refine .step rfl (.to e1 (sm_yes text lim p _ _ om marks s1 hm _ _ ?_ (by simp; omega)))
  intro f hf
  simp only [List.mem_cons, List.not_mem_nil, or_false] at hf
  rcases hf with rfl | rfl | rfl
  · exact .inl rfl
  · exact .inr (.inl rfl)
  · exact .inr (.inr rfl)
theorem sd_no (text : Array Nat) (lim p : Nat) (om : Bool) (marks : Array (Option Nat)) (seen seen' : Seen) : ∃ s2, (saysNo (Sd text lim p om marks seen) seen').step = Ss text lim p om marks s2 := ⟨_, rfl⟩
theorem ss_end (text : Array Nat) (lim p : Nat) (om : Bool) (marks : Array (Option Nat)) (seen : Seen) (h : lim ≤ p) : ∃ seen', (Ss text lim p om marks seen).step = saysNo (Ss text lim p om marks seen) seen' := by
  show ∃ seen', (if p ≥ lim then _ else _) = _
  rw [if_pos h]
  exact ⟨_, rfl⟩
theorem ss_run (text : Array Nat) (lim p : Nat) (om : Bool) (marks : Array (Option Nat)) (seen : Seen) (h : p < lim) :
    ∃ seen', (Ss text lim p om marks seen).step = if isSepR (text.getD p 0) then St text lim p om marks seen' else saysNo (Ss text lim p om marks seen) seen' := by
  obtain ⟨s1, e1⟩ := acc23 (text.getD p 0) (seen.add 13)
  have e2 : (Ss text lim p om marks seen).step = (if p ≥ lim then saysNo (Ss text lim p om marks seen) (seen.add 13) else
      match accepts rc 23 (text.getD p 0) (seen.add 13) with
      | .error why => ({ Ss text lim p om marks seen with seen := seen.add 13 } : M).stick why
      | .ok (false, s') => saysNo (Ss text lim p om marks seen) s'
      | .ok (true, s') => St text lim p om marks s') := by
    show (if p ≥ lim then _ else _) = (if p ≥ lim then _ else _)
    congr 1
  rw [e2, if_neg (by omega), e1]
  refine ⟨s1, ?_⟩
  cases isSepR (text.getD p 0) <;> rfl
theorem st_jump (text : Array Nat) (lim p : Nat) (om : Bool) (marks : Array (Option Nat)) (seen : Seen) : ∃ s', (St text lim p om marks seen).step = Sm text lim p (p + 1) p om marks s' [fb 22 p om, f0 p om] 2 := ⟨_, rfl⟩
theorem st_yes (text : Array Nat) (lim p : Nat) (om : Bool) (marks : Array (Option Nat)) (seen : Seen) (hm : marks.size = 2) {b : Nat} (hb : 10 ≤ b) : Comes b (St text lim p om (marks.setIfInBounds 0 (some p)) seen) (Yes p (p + 1)) := by
  obtain ⟨s1, e1⟩ := st_jump text lim p om (marks.setIfInBounds 0 (some p)) seen
  refine .step rfl (.to e1 (sm_yes text lim p _ _ om marks s1 hm _ _ ?_ (by simp; omega)))
  intro f hf
  simp only [List.mem_cons, List.not_mem_nil, or_false] at hf
  rcases hf with rfl | rfl
  · exact .inr (.inl rfl)
  · exact .inr (.inr rfl)
theorem ss_no (text : Array Nat) (lim p : Nat) (om : Bool) (marks : Array (Option Nat)) (seen seen' : Seen) (h : p < lim) : ∃ s2, (saysNo (Ss text lim p om marks seen) seen').step.step = Sp text lim (p + 1) false marks s2 := by
  show ∃ s2, (if p < lim then _ else _) = _
  rw [if_pos h]
  exact ⟨_, rfl⟩
theorem ss_last (text : Array Nat) (lim p : Nat) (om : Bool) (marks : Array (Option Nat)) (seen seen' : Seen) (h : lim ≤ p) {b : Nat} (hb : 4 ≤ b) : Comes b (saysNo (Ss text lim p om marks seen) seen') No := by
  refine .step rfl (.step rfl ?_)
  have e : (saysNo (Ss text lim p om marks seen) seen').step.step = (if p < lim then (({ (saysNo (Ss text lim p om marks seen) seen') with } : M).step.step) else { Ss text lim p om marks seen' with answer := some false, frames := [], weight := 0, pc := 5, pos := p, outermost := om }) := by
    by_cases q : p < lim
    · omega
    · rw [if_neg q]
      show (if p < lim then _ else _) = _
      rw [if_neg q]; rfl
  rw [e, if_neg (by omega)]
  exact ⟨1, by omega, trivial⟩
/-- the next of the regular expression's finds -/
def nextTok (text : Array Nat) (lim : Nat) : (fuel p : Nat) → Option (Nat × Nat)
  | 0, _ => none
  | f + 1, p => if lim ≤ p then none else if digLen text (lim - p) p ≠ 0 then some (p, p + digLen text (lim - p) p) else if isSepR (text.getD p 0) then some (p, p + 1) else nextTok text lim f (p + 1)
def Ends (r : Option (Nat × Nat)) (m : M) : Prop := match r with
  | none => No m
  | some (q, e) => Yes q e m
theorem search_from (text : Array Nat) (lim : Nat) (hl : lim ≤ 4294967295) : ∀ (f p : Nat) (om : Bool) (marks : Array (Option Nat)) (seen : Seen), marks.size = 2 → lim < p + f → Comes (30 * (f + 1)) (Sp text lim p om marks seen) (Ends (nextTok text lim f p))
  | 0, p, om, marks, seen, hm, hf => by
    obtain ⟨s1, e1⟩ := two text lim p om marks seen
    obtain ⟨s2, e2⟩ := sd_end text lim p om (marks.setIfInBounds 0 (some p)) s1 (by omega)
    obtain ⟨s3, e3⟩ := sd_no text lim p om (marks.setIfInBounds 0 (some p)) s1 s2
    obtain ⟨s4, e4⟩ := ss_end text lim p om (marks.setIfInBounds 0 (some p)) s3 (by omega)
    refine .step rfl (.step rfl (.to e1 (.step rfl (.to e2 (.step rfl (.to e3 (.step rfl (.to e4 ?_))))))))
    exact ss_last text lim p om _ s3 s4 (by omega) (by omega)
  | f + 1, p, om, marks, seen, hm, hf => by
    obtain ⟨s1, e1⟩ := two text lim p om marks seen
    refine .step rfl (.step rfl (.to e1 (.step rfl ?_)))
    rw [nextTok]
    by_cases hp : lim ≤ p
    · rw [if_pos hp]
      obtain ⟨s2, e2⟩ := sd_end text lim p om (marks.setIfInBounds 0 (some p)) s1 hp
      obtain ⟨s3, e3⟩ := sd_no text lim p om (marks.setIfInBounds 0 (some p)) s1 s2
      obtain ⟨s4, e4⟩ := ss_end text lim p om (marks.setIfInBounds 0 (some p)) s3 hp
      exact .to e2 (.step rfl (.to e3 (.step rfl (.to e4 (ss_last text lim p om _ s3 s4 hp (by omega))))))
    · rw [if_neg hp]
      obtain ⟨s2, e2⟩ := sd_run text lim p om (marks.setIfInBounds 0 (some p)) s1 (by omega) hl
      refine .to e2 ?_
      by_cases h0 : digLen text (lim - p) p = 0
      · rw [if_pos h0, if_neg (by simpa using h0)]
        obtain ⟨s3, e3⟩ := sd_no text lim p om (marks.setIfInBounds 0 (some p)) s1 s2
        obtain ⟨s4, e4⟩ := ss_run text lim p om (marks.setIfInBounds 0 (some p)) s3 (by omega)
        refine .step rfl (.to e3 (.step rfl (.to e4 ?_)))
        cases isSepR (text.getD p 0) with
        | true => exact st_yes text lim p om marks s4 hm (by omega)
        | false =>
          obtain ⟨s5, e5⟩ := ss_no text lim p om (marks.setIfInBounds 0 (some p)) s3 s4 (by omega)
          refine .step rfl (.step rfl (.to e5 ?_))
          exact (search_from text lim hl f (p + 1) false _ s5 (by simpa using hm) (by omega)).mono (by omega)
      · rw [if_neg h0, if_pos h0]
        exact sg_yes text lim p _ om marks s2 hm (by omega)
theorem search_spec (text : Array Nat) (lim p : Nat) (hl : lim ≤ 4294967295) : Comes (30 * (lim + 3)) (forSearch rc text 1 p lim false) (Ends (nextTok text lim (lim + 1) p)) := by
  have e : ∃ s1 s2 m0, forSearch rc text 1 p lim false = (if (decide (p > lim) || decide (lim - p < 1)) = true then m0 else Sp text lim p true (Array.replicate 2 none) s1) ∧ m0.step = { m0 with outcome := some .failed, seen := s2 } ∧ m0.outcome = none := ⟨_, _, _, rfl, rfl, rfl⟩
  obtain ⟨s1, s2, m0, e1, e2, e3⟩ := e
  rw [e1]
  by_cases h : lim ≤ p
  · rw [if_pos (by simp; omega), nextTok, if_pos h]
    refine .step e3 (.to e2 (.here ?_))
    trivial
  · rw [if_neg (by simp; omega)]
    exact (search_from text lim hl (lim + 1) p true _ s1 (by simp) (by omega)).mono (by omega)
theorem runFor_add : ∀ (a b : Nat) (m : M), M.runFor (a + b) m = M.runFor b (M.runFor a m)
  | 0, b, m => by rw [Nat.zero_add]; rfl
  | a + 1, b, m => by
    cases h : m.outcome with
    | none => rw [show a + 1 + b = (a + b) + 1 by omega, runFor_succ h, runFor_succ h, runFor_add a b]
    | some o =>
      have key : ∀ n, M.runFor n m = m := fun n => by
        cases n with
        | zero => rfl
        | succ n => rw [M.runFor, h]; rfl
      rw [key, key, key]
theorem runFor_stable {a b : Nat} {m : M} (h : (M.runFor a m).outcome.isSome = true) (hb : a ≤ b) : M.runFor b m = M.runFor a m := by
  obtain ⟨k, rfl⟩ : ∃ k, b = a + k := ⟨b - a, by omega⟩
  rw [runFor_add]
  generalize M.runFor a m = m' at h
  cases k with
  | zero => rfl
  | succ k => rw [M.runFor, if_pos h]
end Mine

end
section
open PySem PySem.W PyProof.Rows PySem.Calls PySem.Spec
set_option Elab.async false
set_option maxRecDepth 100000
set_option autoImplicit false
namespace Mine
theorem pa_re : PlainAttrs "re.Pattern" :=
  ⟨⟨"object.__getattribute__", by rw [typeLookup_type, builtinLookup_eq_fast]; kernel_rfl, by decide +kernel⟩, by rw [typeLookup_type, builtinLookup_eq_fast]; kernel_rfl⟩
theorem slot_split : Slot "re.Pattern" "split" "re.Pattern.split" :=
  .of (owner := "re.Pattern") (n := "split") (by rw [typeLookup_type, builtinLookup_eq_fast]; kernel_rfl) (by decide +kernel) (by decide +kernel) (by decide +kernel)
    (by first | exact .inl (by decide +kernel) | exact .inr (by decide +kernel)) (by rw [isSubtype_type]; kernel_rfl)
theorem type_split : typeOf (.builtin "re.Pattern.split") = pure (.type "method_descriptor") := by show builtinType _ = _; rw [builtinType_eq_fast]; kernel_rfl
theorem entry_split : entryFor table "re.Pattern.split" = some Builtin.«re.Pattern.split» := entryFor_of_tree (by kernel_rfl)
theorem owner_re : Manifest.owners.lookup (String.ofList ['n', 'r', 'e', 't', 't', 'a', 'P', '.', 'e', 'r'].reverse) = some Manifest.sig_re_Pattern := by kernel_rfl
theorem args_split (a b : Value) : argsOk "re.Pattern.split" ⟨[a, b], []⟩ := by
  unfold argsOk; rw [signature?_of (id := "re.Pattern.split") (n := ['t', 'i', 'l', 'p', 's']) (o := ['n', 'r', 'e', 't', 't', 'a', 'P', '.', 'e', 'r']) (by kernel_rfl) owner_re]; kernel_rfl
end Mine

end
section
open PySem PySem.W PyProof.Rows PySem.Calls PySem.Spec
set_option Elab.async false
set_option maxRecDepth 100000
set_option autoImplicit false
namespace Mine
open PySem.Builtin PySem.Builtin.Re
theorem forIn_inv {M : Model} {A : Around} {E : Value → Shared → Prop} {β σ : Type} (Inv : Nat → σ → Shared → Prop) (f : β → σ → Sem (ForInStep σ)) (h : ∀ b k st s, Inv (k + 1) st s → wpAny M A (f b st) (fun r s' => ∃ st', r = .yield st' ∧ Inv k st' s') E s) :
    ∀ (l : List β) (init : σ) (s : Shared) (Q : σ → Shared → Prop), Inv l.length init s → (∀ st s, Inv 0 st s → Q st s) → wpAny M A (forIn l init f) Q E s
  | [], init, s, Q, h0, hQ => by rw [List.forIn_nil]; exact wpAny_pure (hQ _ _ h0)
  | b :: l, init, s, Q, h0, hQ => by
    rw [List.forIn_cons]
    refine wpAny_bind (wpAny_mono (h b l.length init s h0) (fun r s' h' => ?_) fun _ _ e => e)
    obtain ⟨st', rfl, h'⟩ := h'
    exact forIn_inv Inv f h l st' s' Q h' hQ
section
variable {w : World} {A : Around} {E : Value → Shared → Prop} {s : Shared}
theorem drive : ∀ (T : Nat) (m : Sre.M) (N : Nat) (Q : Sre.M → Shared → Prop), (Sre.M.runFor N m).outcome.isSome = true → N ≤ 4 * T → 0 < T → Q (Sre.M.runFor N m) s → wpAny (model PR w) A (reDrive T m) Q E s
  | 0, _, _, _, _, _, h, _ => absurd h (Nat.lt_irrefl _)
  | T + 1, m, N, Q, h, hN, _, hQ => by
    rw [reDrive]
    by_cases h4 : (Sre.M.runFor 4 m).outcome.isSome = true
    · have e : Sre.M.runFor N m = Sre.M.runFor 4 m := by
        rcases Nat.le_total N 4 with q | q
        · exact (runFor_stable h q).symm
        · exact runFor_stable h4 q
      rw [if_pos (show (Sre.M.runFor reTurnSteps m).outcome.isSome = true from h4)]
      rw [e] at hQ
      exact wpAny_pure hQ
    · rw [if_neg (show ¬ (Sre.M.runFor reTurnSteps m).outcome.isSome = true from h4)]
      have hN4 : 4 < N := by
        rcases Nat.lt_or_ge 4 N with q | q
        · exact q
        · exact absurd (by rw [runFor_stable h q]; exact h) h4
      obtain ⟨k, rfl⟩ : ∃ k, N = 4 + k := ⟨N - 4, by omega⟩
      rw [runFor_add] at h hQ
      refine wpAny_bind (wpAny_rule ?_)
      exact drive T (Sre.M.runFor 4 m) k Q h (by omega) (by omega) hQ
theorem rules_go {α : Type} (p : α → Bool) (tag : α → String) (l : List α) (Q : PUnit → Shared → Prop) (h : Q ⟨⟩ s) : wpAny (model PR w) A (forIn l PUnit.unit fun i _ => if p i = true then do rule (tag i); pure (ForInStep.yield PUnit.unit) else pure (ForInStep.yield PUnit.unit)) Q E s := by
  refine forIn_inv (fun _ _ s' => s' = s) _ (fun b k st s' e => ?_) l _ s Q rfl (fun st s' e => e ▸ h)
  subst e
  by_cases hp : p b = true
  · rw [if_pos hp]; exact wpAny_bind (wpAny_rule (wpAny_pure ⟨_, rfl, rfl⟩))
  · rw [if_neg hp]; exact wpAny_pure ⟨_, rfl, rfl⟩
theorem toEnd {b : Nat} {m : Sre.M} {r : Option (Nat × Nat)} (hb : b ≤ 1000000) (c : Comes b m (Ends r)) {Q : Option Sre.M → Shared → Prop}
    (h : ∀ m', Ends r m' → Q (if r.isSome then some m' else none) s) : wpAny (model PR w) A (reRunToEnd m) Q E s := by
  obtain ⟨N, hN, p⟩ := c
  have ho : (Sre.M.runFor N m).outcome.isSome = true := by
    cases r with
    | none =>
      have : No (Sre.M.runFor N m) := p
      unfold No at this
      cases e : (Sre.M.runFor N m).outcome with
      | none => rw [e] at this; exact this.elim
      | some o => rfl
    | some qe =>
      have := p.1
      cases e : (Sre.M.runFor N m).outcome with
      | none => rw [e] at this; exact this.elim
      | some o => rfl
  unfold reRunToEnd
  refine wpAny_bind (drive _ m N _ ho (by omega) (by decide) ?_)
  refine wpAny_bind (rules_go _ _ _ _ ?_)
  cases r with
  | none =>
    have q : No (Sre.M.runFor N m) := p
    unfold No at q
    cases e : (Sre.M.runFor N m).outcome with
    | none => rw [e] at q; exact q.elim
    | some o =>
      rw [e] at q
      cases o with
      | failed => exact wpAny_pure (h _ p)
      | matched => exact q.elim
      | stuck _ => exact q.elim
  | some qe =>
    have q := p.1
    cases e : (Sre.M.runFor N m).outcome with
    | none => rw [e] at q; exact q.elim
    | some o =>
      rw [e] at q
      cases o with
      | matched => exact wpAny_pure (h _ p)
      | failed => exact q.elim
      | stuck _ => exact q.elim
end
theorem named_eq (v : Value) : reNamed "re.Pattern.split" "split" ["string", "maxsplit"] 1 [v] [] = pure [some v, none] := by rfl
theorem digLen_le (text : Array Nat) : ∀ n p, digLen text n p ≤ n
  | 0, _ => Nat.le_refl _
  | n + 1, p => by
    have := digLen_le text n (p + 1)
    rw [digLen]; split <;> omega
theorem nextTok_in {text : Array Nat} {lim : Nat} : ∀ {f p q e : Nat}, nextTok text lim f p = some (q, e) → p ≤ q ∧ q < e ∧ e ≤ lim
  | 0, _, _, _, h => by cases h
  | f + 1, p, q, e, h => by
    rw [nextTok] at h
    split at h
    · cases h
    · split at h
      · have := digLen_le text (lim - p) p
        cases h; omega
      · split at h
        · cases h; omega
        · have := nextTok_in h; omega
def slc (text : Array Nat) (a b : Nat) : Str := ⟨text.extract a b⟩
/-- what split gives, from a place on -/
def splitF (text : Array Nat) (lim : Nat) : (fuel start : Nat) → List Str
  | 0, start => [slc text start lim]
  | f + 1, start => match nextTok text lim (lim + 1) start with
    | none => [slc text start lim]
    | some (q, e) => slc text start q :: slc text q e :: splitF text lim f e
theorem splitF_len (text : Array Nat) (lim : Nat) : ∀ f start, (splitF text lim f start).length ≤ 2 * f + 1
  | 0, _ => by simp [splitF]
  | f + 1, start => by
    rw [splitF]
    split
    · simp
    · rename_i q e _
      have := splitF_len text lim f e
      simp only [List.length_cons]; omega
def splitL (x : Str) : List Str := splitF x.cps x.cps.size (x.cps.size + 1) 0

section
variable {w : World} {A : Around} {E : Value → Shared → Prop} {s₀ s : Shared} {g : Heap} {mu : Mu}
theorem sl {text : Array Nat} {a b : Nat} {Q : Value → Shared → Prop} (hsz : text.size ≤ 1000) (F : Fx s₀ g mu s) (h : ∀ t s', Fx s₀ g mu s' → Q (.str (slc text a b) t) s') : wpAny (model PR w) A (reSlice text 0 a b) Q E s := by
  show wpAny _ _ (mkStr ⟨text.extract a b⟩) _ _ _
  refine wpAny_mkStr (h _ _ (F.tok _)) ?_
  show (text.extract a b).size ≤ sizeLine
  rw [Array.size_extract, sizeLine_eq]; omega
abbrev SplitSt := Array Value × Nat × Nat × Bool × Int × Bool
theorem split_loop {T : ReTarget} (hk : T.kind = 0) (hc : T.code = rc) (hg : T.groups = 1) (hl : T.lim = T.text.size) (hsz : T.text.size ≤ 1000) (F : Fx s₀ g mu s) {Q : SplitSt → Shared → Prop}
    (h : ∀ out start last must n s', Fx s₀ g mu s' → (∃ pre, RdA g out.toList (pre.map .str) ∧ splitF T.text T.lim (T.lim + 1) 0 = pre ++ [slc T.text last T.lim]) → Q (out, start, last, must, n, true) s') :
    wpAny (model PR w) A (forIn (List.range (reMostMatches T)) ((#[], 0, 0, false, 0, false) : SplitSt) fun (_ : Nat) st =>
      if (!st.2.2.2.2.2) = true then do
        let r ← if ((0 : Int) != 0 && decide (st.2.2.2.2.1 ≥ 0)) = true then pure none else reNextFound T st.2.1 st.2.2.2.1
        match r with
        | none => pure (ForInStep.yield (st.1, st.2.1, st.2.2.1, st.2.2.2.1, st.2.2.2.2.1, true))
        | some m => do
          let v ← reSlice T.text T.kind st.2.2.1 m.start
          let o ← forIn (List.range T.groups) (st.1.push v) fun g o => do
            let v ← reMachineGroup T m (g + 1) (pure Value.none)
            pure (ForInStep.yield (o.push v))
          pure (ForInStep.yield (o, m.handed, m.handed, m.handed == m.start, st.2.2.2.2.1 + 1, st.2.2.2.2.2))
      else pure (ForInStep.yield (st.1, st.2.1, st.2.2.1, st.2.2.2.1, st.2.2.2.2.1, st.2.2.2.2.2))) Q E s := by
  generalize hfull : splitF T.text T.lim (T.lim + 1) 0 = full at h
  refine forIn_inv (fun k st s' => Fx s₀ g mu s' ∧ ∃ pre, RdA g st.1.toList (pre.map .str) ∧
    ((st.2.2.2.2.2 = true ∧ full = pre ++ [slc T.text st.2.2.1 T.lim]) ∨
     (st.2.2.2.2.2 = false ∧ st.2.2.1 = st.2.1 ∧ st.2.2.2.1 = false ∧ ∃ f, f + 1 ≤ k ∧ T.lim - st.2.1 < f ∧ full = pre ++ splitF T.text T.lim f st.2.1))) _ ?_ _ _ s Q ?_ ?_
  · rintro b k ⟨out, start, last, must, n, over⟩ s' ⟨F, pre, hpre, hst⟩
    rcases hst with ⟨h1, h2⟩ | ⟨h1, h2, h3, f, hf, hlim, h4⟩
    · simp only at h1 h2
      subst h1
      exact wpAny_pure ⟨_, rfl, F, pre, hpre, .inl ⟨rfl, h2⟩⟩
    · simp only at h1 h2 h3 h4 hlim
      subst h1 h2 h3
      show wpAny _ _ (reNextFound T last false >>= _) _ _ _
      refine wpAny_bind ?_
      unfold reNextFound
      rw [hc, hg]
      have hl2 : T.lim ≤ 1000 := by omega
      refine toEnd (b := 30 * (T.lim + 3)) (by omega) (search_spec T.text T.lim last (by omega)) fun m' hm => ?_
      obtain ⟨f, rfl⟩ : ∃ f', f = f' + 1 := ⟨f - 1, by omega⟩
      rw [splitF] at h4
      cases hn : nextTok T.text T.lim (T.lim + 1) last with
      | none =>
        rw [hn] at h4
        exact wpAny_pure ⟨_, rfl, F, pre, hpre, .inl ⟨rfl, h4⟩⟩
      | some qe =>
        obtain ⟨q, e⟩ := qe
        rw [hn] at h4 hm
        obtain ⟨_, m1, m2, m3, m4, m5⟩ := hm
        obtain ⟨i1, i2, i3⟩ := nextTok_in hn
        simp only [Option.isSome_some, if_true]
        rw [hk, m1, m2]
        refine wpAny_bind (sl hsz F fun t1 s F => ?_)
        refine wpAny_bind (m := forIn [0] _ _) ?_
        rw [List.forIn_cons]
        refine wpAny_bind (wpAny_bind ?_)
        unfold reMachineGroup
        rw [m3, if_neg (by decide)]
        rw [show (2 * (0 + 1 - 1)) = 0 by decide, m4, m5]
        simp only
        rw [if_neg (by omega), hk]
        refine sl hsz F fun t2 s F => wpAny_pure ?_
        dsimp only
        rw [List.forIn_nil]
        refine wpAny_pure (wpAny_pure ⟨_, rfl, F, pre ++ [slc T.text last q, slc T.text q e], ?_, .inr ⟨rfl, rfl, ?_, f, by omega, ?_, ?_⟩⟩)
        · simp only [Array.toList_push, List.map_append]
          rw [List.append_assoc]
          have := (hpre.snoc (.str (slc T.text last q) t1)).snoc (.str (slc T.text q e) t2)
          simpa using this
        · simp only [beq_eq_false_iff_ne]; omega
        · show T.lim - e < f
          omega
        · rw [h4, List.append_assoc]; rfl
  · refine ⟨F, [], .nil, .inr ⟨rfl, rfl, rfl, T.lim + 1, ?_, ?_, hfull.symm⟩⟩
    · rw [List.length_range]; unfold reMostMatches; omega
    · show T.lim - 0 < T.lim + 1; omega
  · rintro ⟨out, start, last, must, n, over⟩ s' ⟨F, pre, hpre, hst⟩
    rcases hst with ⟨h1, h2⟩ | ⟨h1, h2, h3, f, hf, _⟩
    · simp only at h1
      subst h1
      exact h _ _ _ _ _ _ F ⟨pre, hpre, h2⟩
    · omega
/-- pattern.split(text) -/
theorem split_wp {x : Str} {t : Tok} {Q : Value → Shared → Prop} (G : Gd w g) (F : Fx s₀ g mu s) (hx : x.length ≤ 1000)
    (hlk : (hd.heap_39 w.params).lookup 43 = some { cls := .type "re.Pattern", data := .fields #[.str (Str.ofString "([0-9]+|[._+-])") 300, .int 32 344, .int 1 0, .none, .none, .ref 42, .int 0 0] })
    {vs42 : Array Value} (hlk2 : (hd.heap_39 w.params).lookup 42 = some { cls := .type "tuple", data := .seq vs42 }) (hrc : (vs42.map reRawOf).map (·.toNat) = rc)
    (h : ∀ D s' g' vs, Le g g' → g'.get? D = some { cls := .type "list", data := .seq (vs : List Value).toArray } → RdA g' vs ((splitL x).map .str) → Fx s₀ g' mu s' → Q (.ref D) s') :
    Wp w A (call (.builtin "re.Pattern.split") [.ref 43, .str x t]) Q E s := by
  have h43 := F.le _ _ (G.K _ _ hlk)
  have h42 := F.le _ _ (G.K _ _ hlk2)
  have hx' : x.cps.size ≤ 1000 := hx
  refine ⟨wpAny_call_entry slot_split ⟨_, h43, rfl⟩ entry_split ?_ (args_split _ _)⟩
  unfold «re.Pattern.split»
  show wpAny _ _ (reNamed "re.Pattern.split" "split" ["string", "maxsplit"] 1 [.str x t] [] >>= _) _ _ _
  rw [named_eq]
  refine wpAny_bind (wpAny_pure (wpAny_bind (wpAny_pure (wpAny_bind ?_))))
  unfold reWholeTarget
  refine wpAny_bind (wpAny_fieldsOf h43 rfl ?_)
  refine wpAny_bind (m := reTextOf (.str x t)) (wpAny_of_eq (a := (x.cps, 0)) rfl ?_)
  refine wpAny_bind (m := reNoCollectionInside (.str x t) 0) (wpAny_of_eq (a := ()) rfl ?_)
  refine wpAny_bind (m := reRawItems (.ref 42)) ?_
  unfold reRawItems
  refine wpAny_bind (wpAny_seqItems h42 rfl (wpAny_pure (wpAny_pure ?_)))
  dsimp only [Option.getD_some]
  rw [hrc]
  refine wpAny_bind (split_loop rfl rfl rfl rfl hx' F fun out start last must n s' F hpre => ?_)
  obtain ⟨pre, hpre, he⟩ := hpre
  simp only [Bool.not_true, Bool.false_eq_true, if_false]
  refine wpAny_bind (sl hx' F fun t2 s F => ?_)
  have hall : RdA g (out.push (.str (slc x.cps last x.cps.size) t2)).toList ((splitL x).map .str) := by
    rw [splitL, he, List.map_append, Array.toList_push]
    exact hpre.snoc (.str _ _)
  have hlen : (out.push (.str (slc x.cps last x.cps.size) t2)).toList.length ≤ sizeLine := by
    have h1 := hall.len
    have h2 := splitF_len x.cps x.cps.size (x.cps.size + 1) 0
    rw [List.length_map] at h1
    rw [h1, splitL, sizeLine_eq]; omega
  refine wpAny_bind (mkList (w := w) F (fun a s' g' l e F' => ?_) hlen).out
  exact wpAny_pure ⟨_, rfl, h a s' g' _ l e (hall.up l) F'⟩
end
end Mine

end
section
open PySem PySem.W PyProof.Rows PySem.Calls PySem.Spec
set_option Elab.async false
set_option maxRecDepth 100000
set_option autoImplicit false
namespace Mine
section
variable {α β : Type} {M : Model} {A : Around} {E : Value → Shared → Prop} {s : Shared}
theorem wpC_pure {a : α} {Q : α → Shared → Prop} (h : Q a s) : wpC M A (pure a) Q E s := wpC_of (wpAny_pure h)
theorem wpC_bindA {m : Sem α} {f : α → Sem β} {Q : β → Shared → Prop} (h : wpAny M A m (fun a s' => wpC M A (f a) Q E s') E s) : wpC M A (m >>= f) Q E s := wpC_bind (wpC_of h)
theorem wpC_holding {vs : List Value} {m : Sem α} {Q : α → Shared → Prop} (h : wpC M A m Q E s) : wpC M A (holding vs m) Q E s :=
  fun Γ p hΓ hC => by rw [Sem.wp_holding]; exact h Γ p hΓ hC
theorem wpC_attempt {m : Sem α} {Q : Except Value α → Shared → Prop} (h : wpC M A m (fun a => Q (.ok a)) (fun e => Q (.error e)) s) : wpC M A m.attempt Q E s :=
  fun Γ p hΓ hC => by rw [Sem.wp_attempt]; exact h Γ p hΓ hC
theorem wpC_tryCatch {m : Sem α} {k : Value → Sem α} {Q : α → Shared → Prop} (h : wpC M A m Q (fun e s' => wpC M A (k e) Q E s') s) : wpC M A (tryCatch m k) Q E s := fun Γ p hΓ hC => by
  rw [Sem.wp_tryCatch']
  exact Sem.wp_mono M Γ m (fun _ _ _ h' => h') (fun e p' s' h' => h' Γ p' hΓ hC) p s (h Γ p hΓ hC)
theorem wpC_noted {env : Env} {m : Sem α} {Q : α → Shared → Prop} (h : wpC M A m Q (notedBy M A env E) s) : wpC M A (m.onRaise fun x => do noteFrame x env; theTreesLotGoes x) Q E s :=
  wpC_onRaise (wpC_mono h (fun _ _ q => q) fun _ _ hx => wpC_of (wpAny_bind (wpAny_mono hx (fun _ _ e => wpAny_theTreesLotGoes e) fun _ _ e => e)))
/-- a code that goes on as itself, or ends, or goes on as another -/
theorem codeC_loop {c : Code} {R : Result → Shared → Prop} (hq : c.quiet = true) (I : Nat → Shared → Prop)
    (turn : ∀ n s, I n s → wpC M (A.under c) (M.den c)
      (fun fin s' => match fin with
        | .done f => R (.ok f) s'
        | .again c' => (c' = c ∧ ∃ m, m < n ∧ I m s') ∨ (c'.quiet = true ∧ codeC M A c' R s')) (fun e s' => R (.error e) s') s)
    (n : Nat) (h : I n s) : codeC M A c R s := by
  induction n using Nat.strongRecOn generalizing s with
  | ind n ih =>
    refine codeC_of_tree (wpC_mono (turn n s h) (fun fin s' hf => ?_) fun _ _ h' => h')
    cases fin with
    | done f => exact hf
    | again c' =>
      rcases hf with ⟨rfl, m, hm, hI⟩ | hf
      · exact ⟨hq, ih m hm hI⟩
      · exact hf
theorem codeC_of {c : Code} {R : Result → Shared → Prop} (h : codeAny M A c R s) : codeC M A c R s := fun Γ p hc hΓ _ => h Γ p hc hΓ
theorem wpC_execs_cons {st : Stmt} {rest : List Stmt} {env : Env} {Q : Flow → Shared → Prop}
    (h : wpC M A (exec st env) (fun f s' => match f with | .next => wpC M A (execs rest env) Q E s' | f => Q f s') E s) : wpC M A (execs (st :: rest) env) Q E s := by
  rw [execs]
  refine wpC_bind (wpC_mono h (fun f s' h' => ?_) fun _ _ e => e)
  cases f <;> first | exact h' | exact wpC_pure h'
theorem wp_execs_app {pre post : List Stmt} {env : Env} {Γ : PySem.Ctx} {Q : Flow → Pos → Shared → Prop} {E : Value → Pos → Shared → Prop} : ∀ {p : Pos} {s : Shared},
    Sem.wp M Γ (execs pre env) (fun f p' s' => match f with | .next => Sem.wp M Γ (execs post env) Q E p' s' | f => Q f p' s') E p s → Sem.wp M Γ (execs (pre ++ post) env) Q E p s := by
  induction pre with
  | nil => intro p s h; exact h
  | cons st pre ih =>
    intro p s h
    rw [execs_cons, Sem.wp_bind'] at h
    rw [List.cons_append, execs_cons, Sem.wp_bind']
    refine Sem.wp_mono M Γ _ (fun f p' s' h' => ?_) (fun _ _ _ h' => h') _ _ h
    cases f with
    | next => exact ih h'
    | _ => exact h'
/-- the first statements by the rules for all contexts, the rest in the caller's -/
theorem wpC_execs_app {pre post : List Stmt} {env : Env} {Q : Flow → Shared → Prop} (h : wpAny M A (execs pre env) (fun f s' => f = .next ∧ wpC M A (execs post env) Q E s') E s) : wpC M A (execs (pre ++ post) env) Q E s :=
  fun Γ p hΓ hC => wp_execs_app (Q := fun f _ s' => Q f s') (E := fun e _ s' => E e s') (Sem.wp_mono M Γ _ (fun f p' s' h' => by obtain ⟨rfl, h'⟩ := h'; exact h' Γ p' hΓ hC) (fun _ _ _ e => e) _ _ (h Γ p hΓ))
theorem wpC_runOwn {c : Code} {env : Env} {h : Option Value} {Q : Flow → Shared → Prop}
    (hc : codeC M (A.mark h) c (fun r s' => match r with | .ok f => Q f s' | .error e => cameBackBy M A env E e s') s) (hnb : h ≠ some byPass := by intro x; cases x) : wpC M A (runOwn c env h) Q E s := by
  unfold runOwn
  exact wpC_onRaise (wpC_mono (wpC_run (E := cameBackBy M A env E) hc hnb) (fun _ _ q => q) fun _ _ e => wpC_of e)
theorem wpC_For {target iter : Expr} {body orelse : List Stmt} {pos : Pos} {env : Env} {Q : Flow → Shared → Prop}
    (h : wpAny M A (eval iter env) (fun x s₁ => wpAny M A (pyIter x) (fun it s₂ =>
      codeC M A (.forLoop target it body orelse env) (fun r s' => match r with | .ok f => Q f s' | .error e => cameBackBy M A env E e s') s₂) E s₁) E s)
    (hs : ∀ x, foldedSetIterable iter env x = pure x := by intro _; rfl) : wpC M A (exec (.For target iter body orelse pos) env) Q E s := by
  rw [exec_For]
  refine wpC_bindA (wpAny_standAt (wpC_bindA (wpAny_mono h (fun x s₁ h₁ => ?_) fun _ _ e => e)))
  rw [hs x]
  exact wpC_bindA (wpAny_pure (wpC_bindA (wpAny_standAt (wpC_bindA (wpAny_holding (wpAny_mono h₁ (fun it s₂ h₂ => wpC_runOwn h₂) fun _ _ e => e))))))
end

section
variable {w : World} {A : Around} {E : Value → Shared → Prop} {R : Result → Shared → Prop} {s : Shared}
/-- the turns of a for, its body in the caller's contexts -/
theorem codeC_for {target : Expr} {it : Value} {body : List Stmt} {env : Env} (I : Nat → Shared → Prop)
    (turn : ∀ n s, I n s → wpAny (model PR w) A (pyNext it) (fun r s₁ => match r with
      | none => R (.ok .next) s₁
      | some v => wpAny (model PR w) A (letOwnedTupleGo target it v) (fun _ s₁' =>
          wpAny (model PR w) A (assign target env v) (fun _ s₂ => wpC (model PR w) A (execs body env) (fun f s₃ => match f with
            | .next | .cont => ∃ m, m < n ∧ I m s₃
            | .brk => R (.ok .next) s₃
            | .ret v => R (.ok (.ret v)) s₃) (notedBy (model PR w) A env fun e s' => R (.error e) s') s₂) (notedBy (model PR w) A env fun e s' => R (.error e) s') s₁') (notedBy (model PR w) A env fun e s' => R (.error e) s') s₁) (notedBy (model PR w) A env fun e s' => R (.error e) s') s)
    (n : Nat) (h : I n s) : codeC (model PR w) A (.forLoop target it body [] env) R s := by
  refine codeC_loop rfl I (fun n s hI => ?_) n h
  show wpC _ A ((forTurn target it body [] env).onRaise (fun x => do noteFrame x env; theTreesLotGoes x)) _ _ s
  refine wpC_noted ?_
  simp only [forTurn]
  refine wpC_bindA (wpAny_standAt (wpC_bindA (wpAny_onRaise (wpAny_mono (turn n s hI) (fun r s₁ h₁ => ?_) fun _ _ h' => wpAny_standAt h'))))
  cases r with
  | none => exact wpC_pure (.inr ⟨rfl, codeC_of (codeAny_block (wpAny_execs_nil h₁))⟩)
  | some v =>
    refine wpC_bindA (wpAny_mono h₁ (fun _ s₁' h₁' => ?_) fun _ _ h' => h')
    refine wpC_bindA (wpAny_mono h₁' (fun _ s₂ h₂ => wpC_bind (wpC_mono h₂ (fun f s₃ h₃ => ?_) fun _ _ h' => h')) fun _ _ h' => h')
    cases f with
    | next => exact wpC_pure (.inl ⟨rfl, h₃⟩)
    | cont => exact wpC_pure (.inl ⟨rfl, h₃⟩)
    | brk => exact wpC_pure h₃
    | ret v => exact wpC_pure h₃
theorem codeC_func {body : List Stmt} {env : Env}
    (h : wpC (model PR w) (A.deeper env) (execs body env) (fun f s' => R (.ok (.ret (match f with | .ret v => v | _ => .none))) s')
      (fun e s' => wpAny (model PR w) (A.deeper env) (leaving env e) (fun _ s'' => R (.error e) s'') (fun e' s'' => R (.error e') s'') s') s) :
    codeC (model PR w) A (.func body env) R s := by
  refine codeC_of_tree ?_
  show wpC _ (A.deeper env) (do point; match ← (execs body env).onRaise (leaving env) with | .ret v => ret v | _ => ret .none) _ _ s
  refine wpC_bindA (wpAny_point (wpC_bind (wpC_onRaise (wpC_mono h (fun f s' h' => ?_) fun _ _ h' => wpC_of h'))))
  cases f <;> exact wpC_pure h'
end
end Mine

end
section
open PySem PySem.W PyProof.Rows PySem.Calls PySem.Spec
set_option Elab.async false
set_option maxRecDepth 100000
set_option autoImplicit false
namespace Mine
/-- Wp in the caller's contexts -/
structure Wc {α : Type} (w : World) (A : Around) (t : Sem α) (Q : α → Shared → Prop) (E : Value → Shared → Prop) (s : Shared) : Prop where
  out : wpC (model PR w) A t Q E s
theorem Wp.c {α : Type} {w : World} {A : Around} {t : Sem α} {Q : α → Shared → Prop} {E : Value → Shared → Prop} {s : Shared} (h : Wp w A t Q E s) : Wc w A t Q E s := ⟨wpC_of h.out⟩
theorem wc_mono {α : Type} {w : World} {A : Around} {t : Sem α} {Q Q' : α → Shared → Prop} {E : Value → Shared → Prop} {s : Shared} (h : Wc w A t Q E s) (hq : ∀ a s, Q a s → Q' a s) : Wc w A t Q' E s := ⟨wpC_mono h.out hq fun _ _ e => e⟩
structure Lc (w : World) (A : Around) (target : Expr) (body : List Stmt) (env : Env) (D : Shared → Prop) (Rt : Value → Shared → Prop) (E : Value → Shared → Prop) (x : Value) (s : Shared) : Prop where
  out : ∀ Er, wpAny (model PR w) A (pyIter x) (fun it s₂ => codeC (model PR w) A (.forLoop target it body [] env) (ForR D Rt Er) s₂) E s

section
variable {w : World} {A : Around} {s₀ s : Shared} {g : Heap} {mu : Mu} {I : Addr} {n : Nat} {P : Nat → Value → Prop} {St : Nat → Heap → Prop} {fp : List Addr}
/-- the turns of a for: what holds of the still part and of the parts that turn -/
theorem for_itC {D : Shared → Prop} {Rt Er : Value → Shared → Prop} {target : Expr} {body : List Stmt} {env : Env} (T : It w A g I n P St fp) (F : Fx s₀ g ((I, Itr g I St 0) :: mu) s)
    (J : Nat → Heap → Mu → Prop) (h0 : J 0 g mu)
    (hgo : ∀ i (s' : Shared) v (Q' : Unit → Shared → Prop) E', St i s'.heap → Q' () s' → wpAny (model PR w) A (letOwnedTupleGo target (.ref I) v) Q' E' s')
    (turn : ∀ i v g' mu' s' E' PI, i < n → P i v → Le g g' → J i g' mu' → Fx s₀ g' (mu' ++ [(I, PI)]) s' →
      Wp w A (assign target env v) (fun _ s₂ => Wc w A (execs body env) (Went s₀ I PI g' (J (i + 1)) D Rt) E' s₂) E' s')
    (done : ∀ g' mu' s', Le g g' → J n g' mu' → Fx s₀ g' mu' s' → D s') :
    codeC (model PR w) A (.forLoop target (.ref I) body [] env) (ForR D Rt Er) s := by
  have dead : ∀ {g' mu' s'} {i : Nat}, Le g g' → Fx s₀ g' ((I, Itr g I St i) :: mu') s' → St i s'.heap := fun l F' => by
    obtain ⟨o, ho, hp⟩ := F'.get (.head _)
    exact hp _ ho (l.trans F'.le)
  refine codeC_for
    (fun k s' => ∃ g' mu' i, Le g g' ∧ J i g' mu' ∧ Fx s₀ g' ((I, Itr g I St i) :: mu') s' ∧ i ≤ n ∧ k = n + 1 - i) ?_ (n + 1) ⟨g, mu, 0, Le.refl _, h0, F, Nat.zero_le _, rfl⟩
  rintro k s' ⟨g', mu', i, l, hJ, F', hi, rfl⟩
  have hst := dead l F'
  have hI := (F'.tu _ (.head _)).1
  have ndI := (List.nodup_cons.mp F'.nd).1
  have next : ∀ {h₁ : Heap} (tk : Nat), (∀ b o, b ∉ [I] → s'.heap.get? b = some o → h₁.get? b = some o) → Fx s₀ g' mu' { s' with heap := h₁, toks := tk } := fun tk hk => by
    refine ⟨fun b o e => hk b o (fun q => ?_) (F'.le b o e), fun p hp => ?_, F'.drop.nd, F'.sim⟩
    · rw [List.mem_singleton.mp q, hI] at e; cases e
    · obtain ⟨h1, o, h2, h3⟩ := F'.tu p (.tail _ hp)
      exact ⟨h1, o, hk _ _ (fun q => ndI (List.mem_map.mpr ⟨p, hp, List.mem_singleton.mp q⟩)) h2, h3⟩
  by_cases hlt : i < n
  · refine T.W.item i _ _ _ hlt hst fun v h₁ tk₁ hP hst₁ hk₁ => ?_
    obtain ⟨oI, hoI⟩ := T.on _ _ hst₁
    have Fn := next tk₁ hk₁
    have F₁ : Fx s₀ g' ((I, Itr g I St (i + 1)) :: mu') { s' with heap := h₁, toks := tk₁ } := by
      refine ⟨Fn.le, fun p hp => ?_, F'.nd, F'.sim⟩
      rcases List.mem_cons.mp hp with rfl | hp
      · exact ⟨hI, oI, hoI, itr_of T hst₁ hoI⟩
      · exact Fn.tu p hp
    refine hgo (i + 1) _ v _ _ hst₁ ?_
    refine wpAny_mono (turn i v g' mu' _ _ _ hlt hP l hJ (F₁.perm (List.perm_append_singleton _ _).symm)).out (fun _ s₂ h₂ => wpC_mono h₂.out (fun f s₃ h₃ => ?_) fun _ _ e => e) fun _ _ e => e
    cases f with
    | next => obtain ⟨g'', mu'', a, b, c⟩ := h₃; exact ⟨n + 1 - (i + 1), by omega, g'', mu'', i + 1, l.trans a, b, c.perm (List.perm_append_singleton _ _), hlt, rfl⟩
    | cont => obtain ⟨g'', mu'', a, b, c⟩ := h₃; exact ⟨n + 1 - (i + 1), by omega, g'', mu'', i + 1, l.trans a, b, c.perm (List.perm_append_singleton _ _), hlt, rfl⟩
    | brk => exact h₃
    | ret v => exact h₃
  · obtain rfl : i = n := Nat.le_antisymm hi (Nat.not_lt.mp hlt)
    refine T.W.done _ _ _ hst fun h₂ tk₂ hk₂ => ?_
    exact done g' mu' _ l hJ (next tk₂ hk₂)
end

section
variable {w : World} {A : Around} {E : Value → Shared → Prop} {s₀ s : Shared} {g : Heap} {mu : Mu} {D : Shared → Prop} {Rt : Value → Shared → Prop} {target : Expr} {body : List Stmt} {env : Env}
/-- for over a list that does not turn -/
theorem iter_listC {a : Addr} {items : Array Value} (hh : A.handled = none) (F : Fx s₀ g mu s) (hl : g.IsList a items)
    (J : Nat → Heap → Mu → Prop) (h0 : J 0 g mu)
    (turn : ∀ i v g' mu' s' E' I PI, i < items.size → items[i]? = some v → Le g g' → J i g' mu' → Fx s₀ g' (mu' ++ [(I, PI)]) s' →
      Wp w A (assign target env v) (fun _ s₂ => Wc w A (execs body env) (Went s₀ I PI g' (J (i + 1)) D Rt) E' s₂) E' s')
    (done : ∀ g' mu' s', Le g g' → J items.size g' mu' → Fx s₀ g' mu' s' → D s') : Lc w A target body env D Rt E (.ref a) s := by
  refine ⟨fun Er => ?_⟩
  have hls : s.heap.IsList a items := hl.at fun o e => F.le _ _ e
  refine wpAny_pyIter_list hls ?_
  obtain ⟨o, ho, _⟩ := id hls
  have T : It w A g s.heap.objs.size _ _ _ _ := It.list hh hl (Nat.ne_of_lt (Heap.lt_size ho))
  have F' := F.alloc (P := fun o => o = { cls := .type "list_iterator", data := .fields #[.ref a, .int 0 0] }) _ rfl
  refine for_itC T (F'.weak fun o e => ?_) J h0 (fun i s' v Q' E' st h => go_list st.1 h) (fun i v g' mu' s' E' PI hi hp l hj F' => turn i v g' mu' s' E' _ PI hi hp l hj F') done
  subst e
  exact fun h e l => ⟨⟨_, e, rfl, rfl⟩, hl.at fun o' e'' => l _ _ e''⟩

end

section
variable {w : World} {A : Around} {E : Value → Shared → Prop} {s : Shared} {env : Env} {rest : List Stmt} {pos : Pos} {Q : Flow → Shared → Prop}
theorem ex_forC {target iter : Expr} {body : List Stmt} (h : Wp w A (eval iter env) (fun x s₁ => Lc w A target body env (fun s' => Wc w A (execs rest env) Q E s') (fun v s' => Q (.ret v) s') E x s₁) E s)
    (hs : ∀ x, foldedSetIterable iter env x = pure x := by intro _; unfold foldedSetIterable; rfl) : Wc w A (execs (.For target iter body [] pos :: rest) env) Q E s := by
  refine ⟨wpC_execs_cons (wpC_For (wpAny_mono h.out (fun x s₁ h₁ => wpAny_mono (h₁.out (cameBackBy (model PR w) A env E)) (fun it s₂ h₂ => codeC_mono h₂ fun r s' hr => ?_) fun _ _ e => e) fun _ _ e => e) hs)⟩
  cases r with
  | ok f =>
    cases f with
    | next => exact hr.out
    | ret v => exact hr
    | brk => exact hr.elim
    | cont => exact hr.elim
  | error e => exact hr
theorem ex_preC {pre : List Stmt} (h : Wp w A (execs pre env) (fun f s' => f = .next ∧ Wc w A (execs rest env) Q E s') E s) : Wc w A (execs (pre ++ rest) env) Q E s :=
  ⟨wpC_execs_app (wpAny_mono h.out (fun _ _ x => ⟨x.1, x.2.out⟩) fun _ _ e => e)⟩
end
end Mine

end
section
open PySem PySem.W PyProof.Rows PySem.Calls PySem.Spec
set_option Elab.async false
set_option maxRecDepth 100000
set_option autoImplicit false
namespace Mine
section
variable {w : World} {A : Around} {R : Result → Shared → Prop} {s : Shared}
theorem codeC_call {a : Addr} {args : Args} {o : Obj} {fd : FuncData} {body : List Stmt} (hroom : A.depth < recursionLimit) (ho : s.heap.get? a = some o) (hd' : o.data = .func fd)
    (hco : fd.scope.isCoroutine = false) (hgen : fd.scope.isGenerator = false) (hbody : fd.body = .stmts body) (hcd : s.heap.CodeRec fd.code fd.qualname)
    (h : wpAny (model PR w) A.in1 (bindArgs fd args) (fun binds s₁ => wpAny (model PR w) A.in1 (newFunctionEnv fd.scope fd.globals fd.closure binds (fd.qualname ++ ".<locals>.") (some a) fd.code none fd.builtins)
        (fun env s₂ => s₂.heap.NoLimit ∧ codeC (model PR w) A (.func body env) R s₂) (fun e s' => R (.error e) s') s₁) (fun e s' => R (.error e) s') s) :
    codeC (model PR w) A (.call (.ref a) args) R s := by
  refine codeC_of_tree ?_
  show wpC _ A.in1 (callAny (.ref a) args) _ _ s
  simp only [callAny]
  refine wpC_bindA (wpAny_load ho ?_)
  obtain ⟨c, oc, vs, tq, hc, hoc, hdc, hq⟩ := hcd
  simp only [hd', callFunction, hco, hgen, hbody, hc]
  rw [hc] at h
  refine wpC_bindA (m := field (.ref c) 1) (wpAny_field hoc hdc hq (wpC_bindA (wpAny_pure ?_)))
  exact wpC_bindA (wpAny_mono h (fun binds s₁ h₁ => wpC_bindA (wpAny_mono h₁ (fun env s₂ h₂ => wpC_bindA (wpAny_enterFrame h₂.1 hroom (wpC_pure (And.intro rfl h₂.2)))) fun _ _ h' => h')) fun _ _ h' => h')
end
section
variable {w : World} {A : Around} {E : Value → Shared → Prop} {s₀ s : Shared} {g : Heap} {mu : Mu} {k : Nat} {Q : Value → Shared → Prop}
theorem callxC {f : Addr} {fd : FuncData} {fo : Obj} {body : List Stmt} {vs : List Value} {binds : List (Str × Value)} (G : Gd w g) (R : Rm A (k + 1)) (F : Fx s₀ g mu s)
    (ho : g.get? f = some fo) (hd : fo.data = .func fd) (hcd : g.CodeRec fd.code fd.qualname) (hbody : fd.body = .stmts body) (hbind : BindsTo s fd ⟨vs, []⟩ binds)
    (hco : fd.scope.isCoroutine = false) (hgen : fd.scope.isGenerator = false)
    (h : ∀ L s' E', Rm (A.deeper (envF fd L f)) k → Fx s₀ g (cellMu (L + 1) fd.scope.names ++ (L, Loc []) :: mu) s' →
      StAll w A.in1 (envF fd L f) binds (fun s'' => (∃ mu', Fx s₀ g mu' s'') ∧ ∀ E', Wc w (A.deeper (envF fd L f)) (execs body (envF fd L f)) (fun fl s'' => Q (retOf fl) s'') E' s'') E' s') :
    Wc w A (call (.ref f) vs) Q E s := by
  obtain ⟨_, _, _, T⟩ := G.T
  refine ⟨wpC_runValue (codeC_call (by have := R.deep; omega) (F.le _ _ ho) hd hco hgen hbody (hcd.keeps F.le) (hbind _ _ _ _ (new_env F fun L s' F' => ?_)))⟩
  refine StAll.mono (fun s'' hk => ?_) (h L s' _ (R.deeper _) F')
  obtain ⟨⟨mu', F2⟩, k2⟩ := hk
  exact ⟨T.nolimit.keeps F2.le, codeC_func (wpC_mono (k2 _).out (fun fl s hq => by cases fl <;> exact hq) fun _ _ e => e)⟩
end
end Mine

end
section
open PySem PySem.W PyProof.Rows PySem.Calls PySem.Spec
set_option Elab.async false
set_option maxRecDepth 100000
set_option autoImplicit false
namespace Mine
section
variable {w : World} {A : Around} {E : Value → Shared → Prop} {R : Result → Shared → Prop} {s s₀ : Shared}
theorem wpC_notedAt {α : Type} {M : Model} {env : Env} {m : Sem α} {pos : Pos} {Q : α → Shared → Prop} (h : wpC M A m Q (notedBy M A env E) s) : wpC M A (m.onRaise fun x => do noteFrame x env; standAt pos) Q E s :=
  wpC_onRaise (wpC_mono h (fun _ _ q => q) fun _ _ hx => wpC_of (wpAny_bind (wpAny_mono hx (fun _ _ e => wpAny_standAt e) fun _ _ e => e)))
theorem codeC_compStart {elt target iter : Expr} {ifs : List Expr} {rest : List Comprehension} {scope : Scope} {pos : Pos} {it acc : Value} {env : Env}
    (h0 : codeC (model PR w) A (.compLoop (.ListComp elt (⟨target, iter, ifs, 0⟩ :: rest) scope pos) 0 it acc env) R s)
    (h : wpAny (model PR w) A (pyIter it) (fun it' s' => codeC (model PR w) A (.compLoop (.ListComp elt (⟨target, iter, ifs, 0⟩ :: rest) scope pos) 0 it' acc env) R s')
      (notedBy (model PR w) A env fun x s' => R (.error x) s') s) : codeC (model PR w) A (.compStart (.ListComp elt (⟨target, iter, ifs, 0⟩ :: rest) scope pos) 0 it acc env) R s := by
  refine codeC_of_tree ?_
  show wpC _ _ ((compStart (.ListComp elt (⟨target, iter, ifs, 0⟩ :: rest) scope pos) 0 it acc env).onRaise (fun x => do noteFrame x env; standAt theWindowsPlace)) _ _ s
  refine wpC_notedAt ?_
  unfold compStart
  show wpC _ _ (ask >>= _) _ _ s
  refine wpC_bindA (wpAny_askSetting ?_)
  split
  · first
      | exact wpC_bindA (wpAny_pure (wpC_pure (And.intro rfl h0)))
      | exact wpC_pure (And.intro rfl h0)
  · first
      | exact wpC_bindA (wpAny_rule (wpC_bindA (wpAny_standAt (wpC_bindA (wpAny_mono h (fun it' s' h' => wpC_pure (And.intro rfl h')) fun _ _ x => x)))))
      | (refine wpC_bindA (wpAny_rule ?_); show wpC _ _ (standAt iter.pos >>= _) _ _ s; exact wpC_bindA (wpAny_standAt (wpC_bindA (wpAny_mono h (fun it' s' h' => wpC_pure (And.intro rfl h')) fun _ _ x => x))))
/-- the turns of a comprehension with one clause, whatever its target -/
theorem comp_testsC {elt target iter : Expr} {ifs : List Expr} {scope : Scope} {pos : Pos} {it acc : Value} {env : Env} (I : Nat → Shared → Prop)
    (turn : ∀ n s (E' : Value → Shared → Prop), I n s → wpAny (model PR w) A (pyNext it) (fun r s₁ => match r with
      | none => R (.ok .next) s₁
      | some v => wpAny (model PR w) A (letOwnedTupleGo target it v) (fun _ s₁ => wpAny (model PR w) A (assign target env v) (fun _ s₂ =>
          wpAny (model PR w) A (forIn ifs true fun c r => if r = true then do let ok ← isTrue c env (eval c env); pure (ForInStep.yield ok) else pure (ForInStep.yield r)) (fun ok s₃ =>
            (ok = true → wpC (model PR w) A (eval elt env) (fun x s₄ => wpAny (model PR w) A (call (.builtin "list.append") [acc, x]) (fun _ s₅ => ∃ m, m < n ∧ I m s₅) E' s₄) E' s₃) ∧
            (ok = false → ∃ m, m < n ∧ I m s₃)) E' s₂) E' s₁) E' s₁) E' s)
    (n : Nat) (h : I n s) : codeC (model PR w) A (.compLoop (.ListComp elt [⟨target, iter, ifs, 0⟩] scope pos) 0 it acc env) R s := by
  refine codeC_loop rfl I (fun n s hI => ?_) n h
  show wpC _ A ((compTurn (.ListComp elt [⟨target, iter, ifs, 0⟩] scope pos) 0 it acc env).onRaise (fun x => do noteFrame x env; theTreesLotGoes x)) _ _ s
  refine wpC_noted ?_
  rw [compTurn_list]
  refine wpC_bindA (wpAny_standAt (wpC_bindA (wpAny_mono (turn n s _ hI) (fun r s₁ h₁ => ?_) fun _ _ h' => h')))
  cases r with
  | none => exact wpC_pure h₁
  | some v =>
    refine wpC_bindA (wpAny_mono h₁ (fun _ s₁ h₁ => ?_) fun _ _ h' => h')
    refine wpC_bindA (wpAny_mono h₁ (fun _ s₂ h₂ => wpC_bindA (wpAny_mono h₂ (fun ok s₃ h₃ => ?_) fun _ _ h' => h')) fun _ _ h' => h')
    cases ok with
    | false => exact wpC_pure (.inl ⟨rfl, h₃.2 rfl⟩)
    | true =>
      exact wpC_bind (wpC_bind (wpC_mono (h₃.1 rfl) (fun x s₄ h₄ => wpC_bindA (wpAny_mono h₄ (fun _ s₅ h₅ => wpC_pure (wpC_pure (.inl ⟨rfl, h₅⟩))) fun _ _ h' => h')) fun _ _ h' => h'))
end

/-- what a turn of a comprehension gives -/
def CTurnC (w : World) (A : Around) (elt target : Expr) (ifs : List Expr) (cenv : Env) (s₀ : Shared) (g : Heap) (mu₁ : Mu) (ys : List Value) (J : Heap → List Value → Prop) (E' : Value → Shared → Prop) (v : Value) (s : Shared) : Prop :=
  Wp w A (assign target cenv v) (fun _ s₂ => Tst w A ifs cenv (fun ok s₃ =>
    (ok = true → Wc w A (eval elt cenv) (fun y s₄ => ∃ g' l, Le g g' ∧ J g' (ys ++ [y]) ∧ Fx s₀ g' ((cenv.locals, Loc l) :: mu₁) s₄) E' s₃) ∧
    (ok = false → ∃ g' l, Le g g' ∧ J g' ys ∧ Fx s₀ g' ((cenv.locals, Loc l) :: mu₁) s₃)) E' s₂) E' s

section
variable {w : World} {A : Around} {E : Value → Shared → Prop} {s₀ s : Shared} {g : Heap} {mu : Mu} {I : Addr} {n : Nat} {P : Nat → Value → Prop} {St : Nat → Heap → Prop} {fp : List Addr}
  {elt target iter : Expr} {ifs : List Expr} {scope : Scope} {pos : Pos} {env : Env} {cl : List (Str × Addr)}
theorem comp_blockC {RR : Value → Addr → Result → Shared → Prop} (T : It w A g I n P St fp) (F : Fx s₀ g ((I, Itr g I St 0) :: mu) s) (hn : n ≤ 1000000)
    (hcell : ∀ y ∈ scope.names, y.2 ≠ .cell) (hkind : scope.kind = .function)
    (J : Nat → Heap → List Value → Prop) (h0 : J 0 g [])
    (hgo : ∀ i (s' : Shared) v (Q' : Unit → Shared → Prop) E', St i s'.heap → Q' () s' → wpAny (model PR w) A (letOwnedTupleGo target (.ref I) v) Q' E' s')
    (turn : ∀ i v g' C l mu₁ ys s' E', i < n → P i v → Le g g' → J i g' ys → (∀ p ∈ mu, p ∈ mu₁) → Fx s₀ g' ((C, Loc l) :: mu₁) s' →
      CTurnC w A elt target ifs (compEnvC scope cl C env) s₀ g' mu₁ ys (J (i + 1)) E' v s')
    (hRR : ∀ C D g' ys l s', Le g g' → J n g' ys → ys.length ≤ n → Fx s₀ g' ((C, Loc l) :: (D, Lst ys) :: mu) s' → RR (.ref D) C (.ok .next) s') :
    wpAny (model PR w) A (newList []) (fun acc s₃ => wpAny (model PR w) A (newFunctionEnv scope env.globals cl [] env.qual none .none (some env)) (fun cenv s₄ =>
      codeC (model PR w) A (.compStart (.ListComp elt [⟨target, iter, ifs, 0⟩] scope pos) 0 (.ref I) acc { cenv with scope := relabel scope env }) (RR acc cenv.locals) s₄) E s₃) E s := by
  refine wpAny_newObj_type (wpAny_newFunctionEnv hcell (by intro y hy; simp at hy) (fun h₁ hns₁ hsb₁ => ?_) hkind)
  have F2 := F.alloc (P := Lst []) { cls := .type "list", data := .seq ([] : List Value).toArray } ⟨0, rfl⟩
  dsimp only at hns₁ hsb₁ ⊢
  generalize hH : ({ s with heap := s.heap.push { cls := .type "list", dict := none, data := .seq ([] : List Value).toArray } } : Shared) = s₁ at F2
  have e1 : s₁.heap = s.heap.push { cls := .type "list", dict := none, data := .seq ([] : List Value).toArray } := by rw [← hH]
  rw [← e1] at hns₁ hsb₁ ⊢
  obtain ⟨oC, hoC, hnC⟩ := LCg.ns_obj hns₁
  have F3 := F2.more (P := Loc []) (s.toks + ([] : List (Str × Value)).length) (fun b o e => hsb₁.extBut b o (Nat.ne_of_lt (Heap.lt_size e)) (Heap.get?_push_of_some _ e)) hoC ⟨_, hnC, fun p hp => nomatch hp⟩
  have e2 : ({ s₁ with heap := h₁, toks := s.toks + ([] : List (Str × Value)).length } : Shared) = { s with heap := h₁, toks := s.toks + ([] : List (Str × Value)).length } := by rw [← hH]
  rw [e2] at F3
  generalize s₁.heap.objs.size = C at F3 ⊢
  generalize s.heap.objs.size = D at F3 ⊢
  generalize ({ s with heap := h₁, toks := s.toks + ([] : List (Str × Value)).length } : Shared) = s₃ at F3 ⊢
  have dead : ∀ {g' mu' s'} {i : Nat}, Le g g' → Fx s₀ g' ((I, Itr g I St i) :: mu') s' → St i s'.heap := fun l F' => by
    obtain ⟨o, ho, hp⟩ := F'.get (.head _)
    exact hp _ ho (l.trans F'.le)
  have F4 : Fx s₀ g ((I, Itr g I St 0) :: (C, Loc []) :: (D, Lst []) :: mu) s₃ := F3.perm ((List.Perm.cons _ (List.Perm.swap _ _ _)).trans (List.Perm.swap _ _ _))
  have loop : codeC (model PR w) A (.compLoop (.ListComp elt [⟨target, iter, ifs, 0⟩] scope pos) 0 (.ref I) (.ref D) (compEnvC scope cl C env)) (RR (.ref D) C) s₃ := by
    refine comp_testsC
      (fun k s' => ∃ g' l ys i, Le g g' ∧ J i g' ys ∧ ys.length ≤ i ∧ Fx s₀ g' ((I, Itr g I St i) :: (C, Loc l) :: (D, Lst ys) :: mu) s' ∧ i ≤ n ∧ k = n + 1 - i) ?_ (n + 1) ⟨g, [], [], 0, Le.refl _, h0, Nat.le_refl _, F4, Nat.zero_le _, rfl⟩
    rintro k s' E' ⟨g', l, ys, i, lg, hJ, hyl, F', hi, rfl⟩
    have hst := dead lg F'
    have hI := (F'.tu _ (.head _)).1
    have ndI := (List.nodup_cons.mp F'.nd).1
    have next : ∀ {h₁ : Heap} (tk : Nat), (∀ b o, b ∉ [I] → s'.heap.get? b = some o → h₁.get? b = some o) → Fx s₀ g' ((C, Loc l) :: (D, Lst ys) :: mu) { s' with heap := h₁, toks := tk } := fun tk hk => by
      refine ⟨fun b o e => hk b o (fun q => ?_) (F'.le b o e), fun p hp => ?_, F'.drop.nd, F'.sim⟩
      · rw [List.mem_singleton.mp q, hI] at e; cases e
      · obtain ⟨h1, o, h2, h3⟩ := F'.tu p (.tail _ hp)
        exact ⟨h1, o, hk _ _ (fun q => ndI (List.mem_map.mpr ⟨p, hp, List.mem_singleton.mp q⟩)) h2, h3⟩
    by_cases hlt : i < n
    · refine T.W.item i _ _ _ hlt hst fun v h₂ tk₂ hP hst₂ hk₂ => ?_
      obtain ⟨oI, hoI⟩ := T.on _ _ hst₂
      have Fn := next tk₂ hk₂
      have F₁ : Fx s₀ g' ((I, Itr g I St (i + 1)) :: (C, Loc l) :: (D, Lst ys) :: mu) { s' with heap := h₂, toks := tk₂ } := by
        refine ⟨Fn.le, fun p hp => ?_, F'.nd, F'.sim⟩
        rcases List.mem_cons.mp hp with rfl | hp
        · exact ⟨hI, oI, hoI, fun h'' e l' => T.st _ _ _ _ hst₂ hoI e l'⟩
        · exact Fn.tu p hp
      refine hgo (i + 1) _ v _ _ hst₂ ?_
      have F₂ : Fx s₀ g' ((C, Loc l) :: (I, Itr g I St (i + 1)) :: (D, Lst ys) :: mu) { s' with heap := h₂, toks := tk₂ } := F₁.swap
      refine wpAny_mono (turn i v g' C l _ ys _ E' hlt hP lg hJ (fun p hp => .tail _ (.tail _ hp)) F₂).out (fun _ s₂ h₂ => wpAny_mono h₂.out (fun ok s₃ h₃ => ⟨fun e => ?_, fun e => ?_⟩) fun _ _ e => e) fun _ _ e => e
      · refine wpC_mono (h₃.1 e).out (fun y s₄ h₄ => ?_) fun _ _ e => e
        obtain ⟨g2, l2, lg2, hJ2, F5⟩ := h₄
        have F6 : Fx s₀ g2 ((D, Lst ys) :: (C, Loc l2) :: (I, Itr g I St (i + 1)) :: mu) s₄ := F5.perm ((List.Perm.cons _ (List.Perm.swap _ _ _)).trans (List.Perm.swap _ _ _))
        obtain ⟨oD, hoD, m, rfl⟩ := F6.get (.head _)
        refine append_at hoD (fun h' hs ho' => ?_) (by rw [List.size_toArray]; exact Nat.le_trans hyl (Nat.le_trans hi (Nat.le_trans hn (by rw [sizeLine_eq]; decide))))
        have F7 := F6.upd (P' := Lst (ys ++ [y])) s₄.toks hs ho' ⟨m + 1, by rw [List.push_toArray]⟩
        refine ⟨n + 1 - (i + 1), by omega, g2, l2, ys ++ [y], i + 1, lg.trans lg2, hJ2, by rw [List.length_append]; simp; omega, ?_, hlt, rfl⟩
        exact F7.perm ((List.Perm.swap _ _ _).trans ((List.Perm.cons _ (List.Perm.swap _ _ _)).trans (List.Perm.swap _ _ _)))
      · obtain ⟨g2, l2, lg2, hJ2, F5⟩ := h₃.2 e
        exact ⟨n + 1 - (i + 1), by omega, g2, l2, ys, i + 1, lg.trans lg2, hJ2, by omega, F5.swap, hlt, rfl⟩
    · obtain rfl : i = n := Nat.le_antisymm hi (Nat.not_lt.mp hlt)
      refine T.W.done _ _ _ hst fun h₂ tk₂ hk₂ => ?_
      exact hRR C D g' ys l _ lg hJ hyl (next tk₂ hk₂)
  exact codeC_compStart loop (T.W.self 0 _ _ _ (dead (Le.refl _) F4) loop)
end
/-- a comprehension's iterable is taken and its turns are made, in the caller's contexts -/
structure CmC (w : World) (A : Around) (elt target iter : Expr) (ifs : List Expr) (scope : Scope) (pos : Pos) (cl : List (Str × Addr)) (env : Env) (Q : Value → Shared → Prop) (E : Value → Shared → Prop) (x : Value) (s : Shared) : Prop where
  out : wpAny (model PR w) A (pyIter x) (fun it s₂ => wpAny (model PR w) A (newList []) (fun acc s₃ => wpAny (model PR w) A (newFunctionEnv scope env.globals cl [] env.qual none .none (some env)) (fun cenv s₄ =>
      codeC (model PR w) A (.compStart (.ListComp elt [⟨target, iter, ifs, 0⟩] scope pos) 0 it acc { cenv with scope := relabel scope env }) (compPost (model PR w) A E none Q acc cenv.locals) s₄) E s₃) E s₂) E s
section
variable {w : World} {A : Around} {E : Value → Shared → Prop} {s₀ s : Shared} {g : Heap} {mu : Mu} {L : Addr} {l : List (Str × Value)}
  {elt target iter : Expr} {ifs : List Expr} {scope : Scope} {pos spos py : Pos} {env : Env} {cl : List (Str × Addr)} {Q : Value → Shared → Prop}
/-- over a list that is still -/
theorem cm_listC {a : Addr} {items : Array Value} (hh : A.handled = none) (F : Fx s₀ g mu s) (hl : g.IsList a items) (hn : items.size ≤ 1000000)
    (J : Nat → Heap → List Value → Prop) (h0 : J 0 g [])
    (turn : ∀ i v g' C l mu₁ ys s' E', i < items.size → items[i]? = some v → Le g g' → J i g' ys → (∀ p ∈ mu, p ∈ mu₁) → Fx s₀ g' ((C, Loc l) :: mu₁) s' →
      CTurnC w A elt target ifs (compEnvC scope cl C env) s₀ g' mu₁ ys (J (i + 1)) E' v s')
    (fin : ∀ C D g' ys l s', Le g g' → J items.size g' ys → ys.length ≤ items.size → Fx s₀ g' ((C, Loc l) :: (D, Lst ys) :: mu) s' → compPost (model PR w) A E none Q (.ref D) C (.ok .next) s')
    (hcell : ∀ y ∈ scope.names, y.2 ≠ .cell := by decide) (hkind : scope.kind = .function := by rfl) : CmC w A elt target iter ifs scope pos cl env Q E (.ref a) s := by
  refine ⟨?_⟩
  have hls : s.heap.IsList a items := hl.at fun o e => F.le _ _ e
  refine wpAny_pyIter_list hls ?_
  obtain ⟨o, ho, _⟩ := id hls
  have T : It w A g s.heap.objs.size _ _ _ _ := It.list hh hl (Nat.ne_of_lt (Heap.lt_size ho))
  have F' := F.alloc (P := fun o => o = { cls := .type "list_iterator", data := .fields #[.ref a, .int 0 0] }) _ rfl
  refine comp_blockC T (F'.weak fun o e => ?_) hn hcell hkind J h0 (fun i s' v Q' E' st h => go_list st.1 h) turn fin
  subst e
  exact fun h e l => ⟨⟨_, e, rfl, rfl⟩, hl.at fun o' e'' => l _ _ e''⟩
end
end Mine

end
section
open PySem PySem.W PyProof.Rows PySem.Calls PySem.Spec
set_option Elab.async false
set_option maxRecDepth 100000
set_option autoImplicit false
namespace Mine
section
variable {M : Model} {A : Around} {E : Value → Shared → Prop} {s : Shared} {env : Env}
theorem wpC_standIf {α : Type} {c : Prop} [Decidable c] {pos : Pos} {k : PUnit → Sem α} {Q : α → Shared → Prop} (h : wpC M A (k ()) Q E s) : wpC M A (if c then (standAt pos >>= k) else k ()) Q E s := by
  split
  · exact wpC_bindA (wpAny_standAt h)
  · exact h
theorem wpC_comp {e : Expr} {scope : Scope} {pos : Pos} {newAcc first : Sem Value} {g : Comprehension} {gs : List Comprehension} {cl : List (Str × Addr)} {Q : Value → Shared → Prop}
    (hcl : clausesOf e = g :: gs) (hs : ∀ x, foldedSetIterable g.iter env x = pure x) (hclos : closureFor scope env = pure cl)
    (hkind : scope.kind = .function) (hnames : ∀ x ∈ scope.names, x.2 = .local → scope.names.lookup x.1 = some .local)
    (h : wpAny M A first (fun x s₁ => wpAny M A (pyIter x) (fun it s₂ => wpAny M A newAcc (fun acc s₃ => wpAny M A (newFunctionEnv scope env.globals cl [] env.qual none .none (some env)) (fun cenv s₄ =>
        codeC M A (.compStart e 0 it acc { cenv with scope := relabel scope env }) (compPost M A E none Q acc cenv.locals) s₄) E s₃) E s₂) E s₁) E s) :
    wpC M A (comprehension e scope env pos newAcc false first none) Q E s := by
  unfold comprehension
  rw [hclos, hcl]
  refine wpC_bindA (wpAny_mono h (fun x s₁ h₁ => wpC_bindA (wpAny_standAt (wpC_bindA (wpAny_of_eq (hs x) (wpC_bindA (wpAny_holding (wpAny_mono h₁ (fun it s₂ h₂ =>
    wpC_standIf (wpC_bindA (wpAny_mono h₂ (fun acc s₃ h₃ => wpC_bindA (wpAny_pure (wpC_bindA (wpAny_mono h₃ (fun cenv s₄ h₄ => ?_) fun _ _ h' => h')))) fun _ _ h' => h')))
      fun _ _ h' => h'))))))) fun _ _ h' => h')
  dsimp only
  have hv : ∀ x ∈ (scope.names.filter fun x => (x.2 == .local || x.2 == .cell) && x.1 != (".0" : Str)).reverse, x.2 = .local →
      Env.kindOf { cenv with scope := relabel scope env } x.1 = some .local := fun x hx hl => lookup_relabel_local (hnames x (List.mem_filter.mp (List.mem_reverse.mp hx)).1 hl)
  refine wpC_holding (wpC_bind (wpC_attempt (wpC_holding (wpC_run (E := fun e s' => _) (codeC_mono h₄ fun r s' hr => ?_)))))
  cases r with
  | ok f =>
    obtain ⟨m, hn, hr⟩ := hr
    exact wpC_bindA (wpAny_holding (wpAny_comp_letGo (cenv := { cenv with scope := relabel scope env }) hkind _ s' m hv hn fun h' m' _ hs' => wpC_pure (hr h' hs')))
  | error x =>
    obtain ⟨m, hn, hr⟩ := hr
    exact wpC_bindA (wpAny_holding (wpAny_comp_letGo (cenv := { cenv with scope := relabel scope env }) hkind _ s' m hv hn fun h' m' _ hs' => wpC_of (wpAny_mono (hr h' hs' _ rfl) (fun _ _ f => f.elim) fun _ _ y => y)))
end
section
variable {w : World} {A : Around} {E : Value → Shared → Prop} {s : Shared} {elt target iter : Expr} {ifs : List Expr} {scope : Scope} {pos spos py : Pos} {env : Env} {cl : List (Str × Addr)}
theorem ev_compC {Q : Value → Shared → Prop} (h : Wp w A (eval iter env) (fun x s₁ => CmC w A elt target iter ifs scope pos cl env Q E x s₁) E s) (hclos : closureFor scope env = pure cl := by rfl) (hkind : scope.kind = .function := by rfl)
    (hnames : ∀ y ∈ scope.names, y.2 = .local → scope.names.lookup y.1 = some .local := by decide) (hs : ∀ x, foldedSetIterable iter env x = pure x := by intro _; unfold foldedSetIterable; rfl) :
    Wc w A (eval (.ListComp elt [⟨target, iter, ifs, 0⟩] scope pos) env) Q E s := by
  refine ⟨?_⟩
  rw [eval_ListComp]
  exact wpC_comp rfl hs hclos hkind hnames (wpAny_mono h.out (fun xv s₁ h₁ => h₁.out) fun _ _ e => e)
end
end Mine

end
section
open PySem PySem.W PyProof.Rows PySem.Calls PySem.Spec
set_option Elab.async false
set_option maxRecDepth 100000
set_option autoImplicit false
namespace Mine
section
variable {M : Model} {A : Around} {E : Value → Shared → Prop} {s : Shared} {env : Env}
theorem wpC_keep {α : Type} {vs : List Value} {t : Sem α} {Q : α → Shared → Prop} (h : wpC M A t Q E s) : wpC M A (t.keep vs) Q E s :=
  fun Γ p hΓ hC => by rw [Sem.wp_keep]; exact h Γ p hΓ hC
theorem callWithC {P : Heap → Prop} {pos : Pos} {f : Value} {first : List Value} {args : List (Bool × Sem Value)} {Q : Value → Shared → Prop} (hplain : (args.any (·.1)) = false)
    (hk : ∀ h, P h → ∃ k, (k = Keeper.frame ∨ k = Keeper.machine ∨ k = Keeper.boundFrame) ∧ Looks M h (keeperOf f) k)
    (h : wpAny M A (evalArgs f true args []) (fun a s₁ => P s₁.heap ∧ wpC M A (call f (first ++ a.pos) a.kw) Q E s₁) E s) : wpC M A (callWith pos f first args []) Q E s := by
  unfold callWith
  refine wpC_bindA (wpAny_holding (wpAny_mono h (fun a s₁ h₁ => wpC_bindA (wpAny_standAt ?_)) fun _ _ x => x))
  obtain ⟨k, hk', L⟩ := hk _ h₁.1
  simp only [hplain, List.any_nil, Bool.or_false]
  refine wpC_bindA (L.here ?_)
  have tail : ∀ {t : Sem Value}, wpC M A t Q E s₁ → wpC M A (t >>= fun r => holding [r] point >>= fun _ => pure r) Q E s₁ :=
    fun ht => wpC_bind (wpC_mono ht (fun r s₂ hr => wpC_bindA (wpAny_holding (wpAny_point (wpC_pure hr)))) fun _ _ x => x)
  have marked (mk : Value) : wpC M A (callMarked mk f (first ++ a.pos) a.kw) Q E s₁ := by unfold callMarked; exact wpC_keep h₁.2
  rcases hk' with rfl | rfl | rfl <;> dsimp only <;> first | exact tail h₁.2 | (split <;> first | exact tail h₁.2 | exact tail (marked _))
theorem callWith_typeC {pos : Pos} {T : String} {first : List Value} {args : List (Bool × Sem Value)} {Q : Value → Shared → Prop} (hplain : args.any (·.1) = false)
    (h : wpAny M A (evalArgs (.type T) true args []) (fun a s₁ => wpC M A (call (.type T) (first ++ a.pos) a.kw) Q E s₁) E s) : wpC M A (callWith pos (.type T) first args []) Q E s := by
  unfold callWith
  refine wpC_bindA (wpAny_holding (wpAny_mono h (fun a s₁ h₁ => wpC_bindA (wpAny_standAt ?_)) fun _ _ x => x))
  simp only [hplain, List.any_nil, Bool.or_false]
  refine wpC_bindA (wpAny_pure ?_)
  exact wpC_bind (wpC_mono h₁ (fun r s₂ hr => wpC_bindA (wpAny_holding (wpAny_point (wpC_pure hr)))) fun _ _ x => x)
end
section
variable {w : World} {A : Around} {E : Value → Shared → Prop} {s₀ s : Shared} {g : Heap} {mu : Mu} {env : Env} {Q : Value → Shared → Prop} {pos p1 : Pos} {x : Str} {e : Expr} {es : List Expr}
theorem call_C {func : Expr} {args : List Expr} (h : wpAny (model PR w) A (eval func env) (fun f s₁ => wpC (model PR w) A (callWith pos f [] (backTo pos (starEach args env)) []) Q E s₁) E s)
    (he : eval (.Call func args [] pos) env = (do callWith pos (← eval func env) [] (backTo pos (starEach args env)) (backToKw pos (keywordEach [] env))) := by rfl) : Wc w A (eval (.Call func args [] pos) env) Q E s := by
  refine ⟨?_⟩
  rw [he]; exact wpC_bindA h
theorem callGC {f : Addr} (G : Gd w g) (F : Fx s₀ g mu s) (hn : nsIn (hd.heap_39 w.params) mainGlobals x = some (some (.ref f))) (hkp : keepIn (hd.heap_39 w.params) (.ref f) = true)
    (h : Wp w A (spliced (backTo pos (starEach (e :: es) env))) (fun vs s₁ => (∃ g' mu', Le g g' ∧ Fx s₀ g' mu' s₁) ∧ Wc w A (call (.ref f) vs) Q E s₁) E s)
    (hk : env.scope.kind = .function := by rfl) (hx : env.kindOf x = some .globalImplicit := by rfl) (hg : env.globals = mainGlobals := by rfl) (hdb : (x == ("__debug__" : Str)) = false := by decide)
    (hst : starEach (e :: es) env = (false, eval e env) :: starEach es env := by rfl) (hst2 : ((backTo pos (starEach es env)).any fun x => x.1) = false := by rfl) :
    Wc w A (eval (.Call (.Name x p1) (e :: es) [] pos) env) Q E s := by
  obtain ⟨_, _, _, T⟩ := G.T
  refine call_C (Name_function_global hk hx (loadGlobal_global (hg ▸ T.g.keeps F.le) (mg_of G.K T.g hn) ?_) hdb)
  have h' := h.out
  rw [hst] at h' ⊢
  exact callWithC (by show (false || (backTo pos (starEach es env)).any (·.1)) = false; rw [hst2]; rfl) (keeps_K hkp) (evalArgs_plain (wpAny_mono h' (fun vs s₁ h₁ => ⟨let ⟨_, _, l, F'⟩ := h₁.1; G.K.keeps (l.trans F'.le), h₁.2.out⟩) fun _ _ e => e))
theorem callTC {T : String} (G : Gd w g) (F : Fx s₀ g mu s) (hn : nsIn (hd.heap_39 w.params) mainGlobals x = some none) (hv : bootBuiltins x = some (.type T))
    (h : Wp w A (spliced (backTo pos (starEach (e :: es) env))) (fun vs s₁ => Wc w A (call (.type T) vs) Q E s₁) E s) (hnn : x ≠ "__name__" := by decide)
    (hk : env.scope.kind = .function := by rfl) (hx : env.kindOf x = some .globalImplicit := by rfl) (hg : env.globals = mainGlobals := by rfl) (hb : env.builtins = builtinsNs := by rfl) (hdb : (x == ("__debug__" : Str)) = false := by decide)
    (hst : starEach (e :: es) env = (false, eval e env) :: starEach es env := by rfl) (hst2 : ((backTo pos (starEach es env)).any fun x => x.1) = false := by rfl) :
    Wc w A (eval (.Call (.Name x p1) (e :: es) [] pos) env) Q E s := by
  obtain ⟨_, _, _, T'⟩ := G.T
  refine call_C (Name_function_global hk hx (loadGlobal_builtin (hg ▸ T'.g.keeps F.le) (mg_none_of G.K T'.g hn) (hb ▸ T'.b.keeps F.le) ((T'.builtins x hnn).trans hv) ?_) hdb)
  have h' := h.out
  rw [hst] at h' ⊢
  exact callWith_typeC (by show (false || (backTo pos (starEach es env)).any (·.1)) = false; rw [hst2]; rfl) (evalArgs_plain (wpAny_mono h' (fun _ _ h => h.out) fun _ _ e => e))
end
section
variable {w : World} {A : Around} {E : Value → Shared → Prop} {s : Shared} {env : Env} {rest : List Stmt} {pos p1 : Pos} {Q : Flow → Shared → Prop}
/-- the value in the caller's contexts, the rest too -/
theorem ex_assignC {x : Str} {value : Expr} (h : Wc w A (eval value env) (fun v s₁ => Wp w A (storeName env x v) (fun _ s₂ => Wc w A (execs rest env) Q E s₂) E s₁) E s)
    (hs : swapsWith value (some (.Name x p1)) pos.line env = pure false := by rfl) : Wc w A (execs (.Assign [.Name x p1] value pos :: rest) env) Q E s := by
  refine ⟨wpC_execs_cons fun Γ p hΓ hC => ?_⟩
  simp only [exec_Assign_Name env x p1 value pos hs, Sem.wp_bind', Sem.wp_cmd_standAt, Sem.wp_bindName, Sem.wp_pure']
  exact Sem.wp_mono _ Γ _ (fun v _ s₁ h₁ => Sem.wp_mono _ Γ _ (fun _ _ _ h₂ => h₂.out) (fun _ _ _ e => e) _ _ (h₁.out Γ _ hΓ)) (fun _ _ _ h' => h') _ _ (h.out Γ _ hΓ hC)
/-- what follows a statement -/
def ThruC (w : World) (A : Around) (env : Env) (rest : List Stmt) (Q : Flow → Shared → Prop) (E : Value → Shared → Prop) (f : Flow) (s' : Shared) : Prop := match f with
  | .next => Wc w A (execs rest env) Q E s'
  | f => Q f s'
end
end Mine

end
section
open PySem PySem.W PyProof.Rows PySem.Calls PySem.Spec
set_option Elab.async false
set_option maxRecDepth 100000
set_option autoImplicit false
namespace Mine
section
variable {M : Model} {A : Around} {E : Value → Shared → Prop} {s : Shared} {env : Env}
theorem wpC_try {body orelse : List Stmt} {h₀ : ExceptHandler} {hs : List ExceptHandler} {pos : Pos} {w : World} {Q : Flow → Shared → Prop}
    (h : wpC (model PR w) A (execs body env) (fun f s₁ => match f with | .next => wpC (model PR w) A (execs orelse env) Q E s₁ | f => Q f s₁)
      (fun e s₁ => wpAny (model PR w) A (noteFrame e env) (fun _ s₂ => wpAny (model PR w) A (setFlight e none) (fun _ s₃ => wpC (model PR w) A (handleBy e env (h₀ :: hs)) Q E s₃) E s₂) E s₁) s) :
    wpC (model PR w) A (exec (.Try body (h₀ :: hs) orelse [] pos) env) Q E s := by
  rw [arm_exec_Try]
  refine wpC_bindA (wpAny_standAt ?_)
  unfold tryStmt
  simp only [List.isEmpty_nil, if_true, List.isEmpty_cons, Bool.false_and, Bool.false_eq_true, if_false]
  refine wpC_bind (wpC_attempt (wpC_mono h (fun f s₁ h₁ => ?_) fun e s₁ h₁ => ?_))
  · cases f <;> first | exact h₁ | exact wpC_pure h₁
  · exact wpC_bindA (wpAny_mono h₁ (fun _ _ h₂ => wpC_bindA h₂) fun _ _ x => x)
end
section
variable {w : World} {A : Around} {E : Value → Shared → Prop} {s : Shared} {env : Env} {rest : List Stmt} {pos p1 : Pos} {Q : Flow → Shared → Prop}
theorem ex_ifC {test : Expr} {body orelse : List Stmt} (h : Wp w A (isTrue test env (eval test env)) (fun b s₂ => Wc w A (execs (if b then body else orelse) env) (ThruC w A env rest Q E) E s₂) E s) :
    Wc w A (execs (.If test body orelse pos :: rest) env) Q E s := by
  refine ⟨wpC_execs_cons fun Γ p hΓ hC => ?_⟩
  simp only [exec_If, Sem.wp_bind', Sem.wp_cmd_standAt]
  refine Sem.wp_mono _ Γ _ (fun b p' s₂ h₂ => ?_) (fun _ _ _ h' => h') _ _ (h.out Γ _ hΓ)
  have key : ∀ f s', ThruC w A env rest Q E f s' → (match f with | .next => wpC (model PR w) A (execs rest env) Q E s' | f => Q f s') := fun f s' h' => by
    cases f with
    | next => exact h'.out
    | _ => exact h'
  cases b with
  | true => exact Sem.wp_mono _ Γ _ (fun f p' s' h' => by cases f <;> exact key _ _ h') (fun _ _ _ e => e) _ _ (h₂.out Γ _ hΓ hC)
  | false => exact Sem.wp_mono _ Γ _ (fun f p' s' h' => by cases f <;> exact key _ _ h') (fun _ _ _ e => e) _ _ (h₂.out Γ _ hΓ hC)
end
end Mine

end
section
open PySem PySem.W PyProof.Rows PySem.Calls PySem.Spec PySem.NumText
set_option Elab.async false
set_option maxRecDepth 100000
set_option autoImplicit false
namespace Mine
set_option maxHeartbeats 4000000 in
theorem gives_text2 {x : PySem.Str} {u t : Tok} {n : Int} (hl : x.length ≤ 640) (hn : PySem.intText? x = some n) : Gives (Builtin.«int.__new__» ⟨[.type "int", .str x u, .int 10 t], []⟩) (.int n) :=
  .of_wp fun M A E s Q h => by
    obtain ⟨hp, g, d, tk, os⟩ := s
    have f1 := F.conv_sub_int
    have f2 := F.madeHere_int
    have f3 := KIN.str_int
    have f4 := KIN.str_idx
    have f5 := KIN.str_trunc
    have f6 : typeOf (.str x u) = pure (.type "str") := rfl
    have hs : (numSeenOf x).length ≤ 640 := Nat.le_trans (seen_length x) hl
    have hr : (int_private% "readNumeral") 0 10 (numSeenOf x) = (int_private% "Numeral.value") n ∧ ((numSeenOf x).length == (numTextOf x).length) = true := by
      rcases read0 x hs with ⟨m, h1, h2, h3⟩ | ⟨h1, _⟩
      · rw [hn] at h1
        injection h1 with h1
        subst h1
        exact ⟨h3, h2⟩
      · rw [hn] at h1
        cases h1
    have hk := KIN.Hid.mk (And.intro hs hr)
    clear hs hr hl hn
    repeat (any_goals (first
      | assumption
      | ((with_reducible show wpAny _ _ ((int_private% "intFromText") _ _ _) _ _ _); refine KIN.wp_text hk.out.1 hk.out.2.1 hk.out.2.2 ?_)
      | wp_step))
    all_goals first | exact ⟨_, rfl, h⟩ | skip
theorem typeCall_int_2 (a b : Value) : checkTypeCall "int" ⟨[a, b], []⟩ = pure () := by kernel_rfl
theorem newCall_int_2 (a b : Value) : checkBuiltinCall "int.__new__" ⟨[.type "int", a, b], []⟩ = pure () := by kernel_rfl
theorem initArgs_3 (o a b : Value) : argsOk "object.__init__" ⟨[o, a, b], []⟩ := by kernel_rfl
section
variable {w : World} {A : Around} {E : Value → Shared → Prop} {s : Shared} {Q : Value → Shared → Prop} {x : PySem.Str} {u t : Tok} {n : Int}
theorem call_int10 (hn : PySem.intText? x = some n) (hl : x.length ≤ 640) (h : Q (.int n s.toks) { s with toks := s.toks + 1 }) : Wp w A (call (.type "int") [.str x u, .int 10 t]) Q E s :=
  ⟨callType_new F.called_int F.newNe_int (typeCall_int_2 _ _) (newCall_int_2 _ _) (fun obj => initArgs_3 obj _ _) F.entry_int_new (gives_text2 hl hn).meets (show (Made.int n).post _ s from ⟨rfl, h⟩)⟩
end
end Mine

end
section
open PySem PySem.W PyProof.Rows PySem.Calls PySem.Spec PySem.NumText
set_option Elab.async false
set_option maxRecDepth 100000
set_option autoImplicit false
namespace Mine
section
variable {M : Model} {A : Around} {E : Value → Shared → Prop} {s : Shared}
theorem wpC_stack {Q : List (Code × Pos) → Shared → Prop} (h : ∀ st : List (Code × Pos), (∃ x ∈ st, x.1.isCaller = true) → Q st s) : wpC M A stack Q E s := fun Γ p hΓ hC => by
  show Q ((Γ.code, p) :: Γ.below) s
  refine h _ ?_
  rcases hC with h | ⟨x, hx, h⟩
  · exact ⟨_, List.mem_cons_self, h⟩
  · exact ⟨x, List.mem_cons_of_mem _ hx, h⟩
theorem isCaller_eq {c : Code} (h : c.isCaller = true) : ∃ a, c = .builtin "claim.caller" a := by
  unfold Code.isCaller at h
  split at h
  · exact ⟨_, rfl⟩
  · cases h
theorem wpC_mark {own : List String} {e : Value} {Q : Unit → Shared → Prop} (h : Q () s) : wpC M A (markTheRefusal own e) Q E s := by
  unfold markTheRefusal
  refine wpC_bind (wpC_stack fun st hst => ?_)
  have e1 : pythonCodeMadeTheCall own (st.map (·.1)) = false := by
    obtain ⟨x, hx, hc⟩ := hst
    obtain ⟨a, ha⟩ := isCaller_eq hc
    have h2 : ∀ f : Code → Bool, f (.builtin "claim.caller" a) = true → (st.map (·.1)).any f = true := fun f hf => List.any_eq_true.mpr ⟨_, ha ▸ List.mem_map_of_mem hx, hf⟩
    unfold pythonCodeMadeTheCall
    rw [h2 _ rfl]; rfl
  rw [e1]
  exact wpC_pure h
theorem str_size (x : PySem.Str) (hl : x.length ≤ 640) (hx : ∀ c ∈ x.cps.toList, c < 128) : (reprText x).length ≤ sizeLine := by
  have := StrLaws.reprText_len x (fun c hc => Nat.lt_of_lt_of_le (hx c hc) (by decide))
  rw [sizeLine_eq]; omega
theorem refuse_wp {x : PySem.Str} {u : Tok} {Q : Value → Shared → Prop} {w : World} (hh : A.handled = none) (hl : x.length ≤ 640) (hx : ∀ c ∈ x.cps.toList, c < 128) (hn : PySem.intText? x = none)
    (h : ∀ h' e tk v, Heap.MadeExc s.heap h' e "ValueError" [v] → E (.ref e) { s with heap := h', toks := tk }) :
    wpC (model PR w) A ((int_private% "intFromText") (.str x u) (numTextOf x) 10) Q E s := by
  have hs : (numSeenOf x).length ≤ 640 := Nat.le_trans (seen_length x) hl
  obtain ⟨hp, g, d, tk, os⟩ := s
  conv in (int_private% "intFromText") _ _ _ => whnf
  have key : ∀ d : Decidable ((numSeenOf x).length ≤ 640), d = isTrue hs := fun d => Subsingleton.elim _ _
  simp only [key]
  refine wpC_bind (wpC_of (wpAny_pure ?_))
  have bo : (int_private% "bytesOf?") (.str x u) = pure none := rfl
  have tail : wpC (model PR w) A (do
        rule "int.__new__.invalid-literal"
        let b ← (int_private% "bytesOf?") (.str x u)
        match b with
          | some b => do
            let v ← mkBytes (b.extract 0 200)
            let shown ← pyRepr v
            let t ← mkStr (Str.ofString (toString "invalid literal for int() with base " ++ toString 10 ++ toString ": ") ++ { cps := shown.cps.extract 0 200 })
            let refusal ← newExc (Value.type "ValueError") [t]
            markTheRefusal ["int.__new__"] refusal
            raiseNew refusal
          | none => do
            let shown ← pyRepr (.str x u)
            let t ← mkStr (Str.ofString (toString "invalid literal for int() with base " ++ toString 10 ++ toString ": ") ++ { cps := shown.cps.extract 0 200 })
            let refusal ← newExc (Value.type "ValueError") [t]
            markTheRefusal ["int.__new__"] refusal
            raiseNew refusal) Q E { heap := hp, gens := g, drawn := d, toks := tk, os := os } := by
    refine wpC_bindA (wpAny_rule ?_)
    rw [bo]
    refine wpC_bindA (wpAny_pure ?_)
    refine wpC_bindA (wpAny_pyRepr_str ?_ (str_size x hl hx))
    refine wpC_bindA (wpAny_mkStr ?_ ?_)
    · refine wpC_bindA (wpAny_newExc_plain plainExc_ValueError (fun h' e hm => ?_) (Nat.le_trans (Nat.le_of_eq rfl : _ ≤ 1) (by rw [sizeLine_eq]; decide)))
      refine wpC_bind (wpC_mark ?_)
      exact wpC_of (wpAny_raiseNew_none hh (h _ _ _ _ hm))
    · have h1 : (({ cps := (reprText x).cps.extract 0 200 } : PySem.Str)).length ≤ 200 := by
        show ((reprText x).cps.extract 0 200).size ≤ 200
        rw [Array.size_extract]; omega
      have h2 : (Str.ofString (toString "invalid literal for int() with base " ++ toString 10 ++ toString ": ")).length ≤ 1000 := by decide +kernel
      rw [Str.length_append, sizeLine_eq]; omega
  rcases read0 x hs with ⟨n, h1, _⟩ | ⟨_, h2 | ⟨i, h2, h3⟩⟩
  · rw [hn] at h1; cases h1
  · rw [h2]
    dsimp only
    rw [bo]
    refine wpC_bindA (wpAny_pure ?_)
    exact tail
  · rw [h2]
    dsimp only
    rw [if_neg h3]
    exact tail
end
end Mine

end
section
open PySem PySem.W PyProof.Rows PySem.Calls PySem.Spec PySem.NumText
set_option Elab.async false
set_option maxRecDepth 100000
set_option autoImplicit false
namespace Mine
section
variable {w : World} {A : Around} {E : Value → Shared → Prop} {s : Shared} {R : Result → Shared → Prop}
theorem codeC_builtin {id : String} {args : Args} {b : Builtin} (hb : entryFor table id = some b)
    (h : wpC (model PR w) (A.under (.builtin id args)) (b args)
      (fun fin s' => match fin with | .done f => R (.ok f) s' | .again c' => c'.quiet = true ∧ codeC (model PR w) A c' R s') (fun e s' => R (.error e) s') s) :
    codeC (model PR w) A (.builtin id args) R s := by
  refine codeC_of_tree ?_
  show wpC _ _ (match entryFor table id with | some b => b args | none => unsupported ((withoutEnding? id "#data").getD id)) _ _ s
  rw [hb]; exact h
theorem codeC_call_builtin {id : String} {args : Args} {b : Builtin} (hq : plainId id = true) (hb : entryFor table id = some b) (hcn : checkBuiltinCall id args = pure ())
    (h : wpC (model PR w) A.in1 (b args)
      (fun fin s' => match fin with | .done f => R (.ok f) s' | .again c' => c'.quiet = true ∧ codeC (model PR w) A c' R s') (fun e s' => R (.error e) s') s) : codeC (model PR w) A (.call (.builtin id) args) R s := by
  refine codeC_of_tree ?_
  show wpC _ A.in1 (do checkBuiltinCall id args; again (.builtin id args)) _ _ s
  rw [hcn]
  refine wpC_bindA (wpAny_pure (wpC_pure (And.intro (plainId_quiet hq args) (codeC_builtin hb ?_))))
  rw [Around.under_plainId hq args]; exact h
theorem typeCall_int {args : List Value} {Bn : Builtin} (hct : checkTypeCall "int" ⟨args, []⟩ = pure ()) (hcn : checkBuiltinCall "int.__new__" ⟨.type "int" :: args, []⟩ = pure ()) (entryN : entryFor table "int.__new__" = some Bn)
    (h : wpC (model PR w) A.in1.in1 (Bn ⟨.type "int" :: args, []⟩) (fun _ _ => False) (fun e s' => E e s') s) {Q : Value → Shared → Prop} :
    wpC (model PR w) A (call (.type "int") args) Q E s := by
  obtain ⟨c, tl, hmro⟩ := F.called_int.mro
  have hmade := F.called_int.made
  have h1 := F.called_int.notType
  have h2 := F.called_int.canCreate
  refine wpC_runValue (codeC_of_tree ?_)
  show wpC _ _ (callAny (.type "int") _) _ _ _
  refine wpC_pure ⟨Code.quiet_builtin _ (by decide +kernel), codeC_builtin F.entry_type_call ?_⟩
  rw [Around.under_plain (weight_type_call_type "int" args []) (units_type_call_type "int" args [])]
  unfold Builtin.«type.__call__»
  dsimp only
  rw [h1]
  simp only [Bool.false_eq_true, if_false]
  rw [h2]
  simp only [Bool.false_eq_true, if_false]
  rw [hct, hmro, hmade]
  refine wpC_bindA (wpAny_pure (wpC_bindA (wpAny_pure ?_)))
  simp only [List.isEmpty_cons, Bool.false_eq_true, if_false]
  refine wpC_bindA (wpAny_pure (wpC_bindA (wpAny_pure (wpC_bind (wpC_holding (wpC_runValue (codeC_call_builtin F.called_int.plain entryN hcn (wpC_mono h (fun _ _ x => x.elim) fun _ _ x => x))))))))
theorem int_new_refuse {x : PySem.Str} {u t : Tok} {Q : Fin → Shared → Prop} (hh : A.handled = none) (hl : x.length ≤ 640) (hx : ∀ c ∈ x.cps.toList, c < 128) (hn : PySem.intText? x = none)
    (h : ∀ h' e tk v, Heap.MadeExc s.heap h' e "ValueError" [v] → E (.ref e) { s with heap := h', toks := tk }) :
    wpC (model PR w) A (Builtin.«int.__new__» ⟨[.type "int", .str x u, .int 10 t], []⟩) Q E s := by
  have f1 := F.conv_sub_int
  have f2 := F.madeHere_int
  unfold Builtin.«int.__new__»
  dsimp only
  refine wpC_bindA (wpAny_of_eq (a := true) rfl ?_)
  simp only [Bool.not_true, Bool.false_eq_true, if_false]
  rw [f1, f2]
  refine wpC_bindA (wpAny_pure ?_)
  simp only [Bool.not_true, Bool.false_eq_true, if_false]
  refine wpC_bindA (wpAny_pure ?_)
  rw [if_neg (by simp)]
  rw [if_neg (by simp)]
  rw [List.forIn_nil]
  refine wpC_bindA (wpAny_pure ?_)
  show wpC _ _ (Builtin.Int.intIndex "int.__new__" (.int 10 t) >>= _) _ _ _
  refine wpC_bindA ?_
  obtain ⟨hp, g, d, tk, os⟩ := s
  repeat (any_goals (first | assumption | wp_step))
  rw [if_neg (by decide)]
  refine wpC_bindA (wpAny_of_eq (t := (int_private% "numeralText?") _) (a := some (numTextOf x)) rfl ?_)
  exact wpC_bind (refuse_wp hh hl hx hn h)
theorem call_int10_refuse {x : PySem.Str} {u t : Tok} {Q : Value → Shared → Prop} (hh : A.handled = none) (hl : x.length ≤ 640) (hx : ∀ c ∈ x.cps.toList, c < 128) (hn : PySem.intText? x = none)
    (h : ∀ h' e tk v, Heap.MadeExc s.heap h' e "ValueError" [v] → E (.ref e) { s with heap := h', toks := tk }) : Wc w A (call (.type "int") [.str x u, .int 10 t]) Q E s :=
  ⟨typeCall_int (typeCall_int_2 _ _) (newCall_int_2 _ _) F.entry_int_new (int_new_refuse hh hl hx hn h)⟩
end
end Mine

end
section
open PySem PySem.W PyProof.Rows PySem.Calls PySem.Spec
set_option Elab.async false
set_option maxRecDepth 100000
set_option autoImplicit false
namespace Mine
/-- the frames on the stack, each with its names among the parts that turn -/
def Fms (l : List Env) (mu : Mu) : Prop := ∀ env ∈ l, env.scope.kind ≠ .module ∧ ∃ L ns, env.frame = some L ∧ (L, Loc ns) ∈ mu
theorem nd_same {mu : Mu} (nd : (mu.map (·.1)).Nodup) {a : Addr} {P Q : Obj → Prop} (h1 : (a, P) ∈ mu) (h2 : (a, Q) ∈ mu) : P = Q := by
  induction mu with
  | nil => cases h1
  | cons p mu ih =>
    obtain ⟨n1, n2⟩ := List.nodup_cons.mp nd
    have key : ∀ R, (a, R) ∈ mu → p.1 ≠ a := fun R hR q => n1 (List.mem_map.mpr ⟨_, hR, q.symm⟩)
    rcases List.mem_cons.mp h1 with e1 | h1 <;> rcases List.mem_cons.mp h2 with e2 | h2
    · rw [← e1] at e2; exact (Prod.mk.inj e2).2.symm
    · exact absurd (by rw [← e1]) (key _ h2)
    · exact absurd (by rw [← e2]) (key _ h1)
    · exact ih n2 h1 h2
theorem Loc.slots {l : List (Str × Value)} {o : Obj} (h : Loc l o) (sl : Array (Option Value)) : Loc l { o with slots := sl } := by
  obtain ⟨m, hn, hl⟩ := h
  exact ⟨m, hn, hl⟩
theorem Loc.dict {l : List (Str × Value)} {o : Obj} (h : Loc l o) : ∀ vs, o.data ≠ .fields vs := by
  obtain ⟨m, ⟨es, ep, hd, _⟩, _⟩ := h
  intro vs q; rw [hd] at q; cases q
theorem funFrames {base h : Heap} {mu : Mu} (ht : ∀ p ∈ mu, ∃ o, h.get? p.1 = some o ∧ p.2 o) : ∀ {l : List Env}, (∀ L ∈ l.filterMap (·.frame), base.get? L = none) → Fms l mu → h.FunFrames base l
  | [], _, _ => trivial
  | env :: r, hb, f => by
    obtain ⟨h1, L, ns, h2, h3⟩ := f env (.head _)
    obtain ⟨o, ho, hp⟩ := ht _ h3
    rw [List.filterMap_cons, h2] at hb
    exact ⟨h1, ⟨L, o, h2, hb L (.head _), ho, Loc.dict hp⟩, funFrames ht (fun M hM => hb M (.tail _ hM)) fun e he => f e (.tail _ he)⟩
section
variable {w : World} {A : Around} {E : Value → Shared → Prop} {s₀ s : Shared} {g : Heap} {mu : Mu} {env : Env} {outer : List Env}
/-- what is left of the state when the frames have been looked at -/
theorem Fx.looked {S : List Addr} {h' h'' : Heap} (F : Fx s₀ g mu s) (tk : Nat) (hS : ∀ L ∈ S, ∃ ns, (L, Loc ns) ∈ mu) (hk : Le s.heap h') (st : (hideAll s.heap S).StaysIn h'') (up : h'.UpToSlots h'') : Fx s₀ g mu { s with heap := h'', toks := tk } := by
  refine ⟨fun b o e => st b o (hideAll_get _ (F.le b o e) fun q => ?_), fun p hp => ?_, F.nd, F.sim⟩
  · obtain ⟨ns, hn⟩ := hS b q
    rw [(F.tu _ hn).1] at e; cases e
  · obtain ⟨h1, o, h2, h3⟩ := F.tu p hp
    refine ⟨h1, ?_⟩
    by_cases q : p.1 ∈ S
    · obtain ⟨ns, hn⟩ := hS _ q
      have hp' : (p.1, p.2) ∈ mu := hp
      rw [nd_same F.nd hp' hn] at h3 ⊢
      obtain ⟨sl, hs⟩ := up _ _ (hk _ _ h2) (Loc.dict h3)
      exact ⟨_, hs, Loc.slots h3 sl⟩
    · exact ⟨o, st _ _ (hideAll_get _ h2 q), h3⟩
theorem caught {x : Str} {np hpos : Pos} {b₀ : Stmt} {suite : List Stmt} {h' : Heap} {e : Addr} {tk : Nat} {v : Value} {Q : Flow → Shared → Prop} (G : Gd w g) (hfr : A.frames = some (env :: outer)) (fm : Fms (env :: outer) mu) (F : Fx s₀ g mu s)
    (hm : Heap.MadeExc s.heap h' e "ValueError" [v]) (hn : nsIn (hd.heap_39 w.params) mainGlobals x = some none) (hv : bootBuiltins x = some (.type "ValueError"))
    (k : ∀ s' E', Fx s₀ g mu s' → Wp w (A.mark (some (.ref e))) (execs (b₀ :: suite) env) Q E' s') (hnn : x ≠ "__name__" := by decide)
    (hk : env.scope.kind = .function := by rfl) (hx : env.kindOf x = some .globalImplicit := by rfl) (hg : env.globals = mainGlobals := by rfl) (hb : env.builtins = builtinsNs := by rfl) (hdb : (x == ("__debug__" : Str)) = false := by decide) :
    wpAny (model PR w) A (noteFrame (.ref e) env) (fun _ s₂ => wpAny (model PR w) A (setFlight (.ref e) none) (fun _ s₃ =>
      wpC (model PR w) A (handleBy (.ref e) env [.ExceptHandler (some (.Name x np)) none (b₀ :: suite) hpos]) Q E s₃) E s₂) E { s with heap := h', toks := tk } := by
  obtain ⟨t, he, htn, ht⟩ := hm.there
  obtain ⟨_, L, _, hf, _⟩ := fm env (.head _)
  have hS : ∀ L ∈ (env :: outer).filterMap (·.frame), ∃ ns, (L, Loc ns) ∈ mu := fun L hL => by
    obtain ⟨en, h1, h2⟩ := List.mem_filterMap.mp hL
    obtain ⟨_, L', ns, h3, h4⟩ := fm en h1
    rw [h2] at h3; cases h3
    exact ⟨ns, h4⟩
  generalize hbase : hideAll s.heap ((env :: outer).filterMap (·.frame)) = base
  have hst : base.StaysIn h' := fun b o hb => hm.keeps b o (of_hideAll _ (hbase ▸ hb))
  have hen : base.get? e = none := by
    cases q : base.get? e with
    | none => rfl
    | some o => have := of_hideAll _ (hbase ▸ q); rw [hm.new] at this; cases this
  have hff : h'.FunFrames base (env :: outer) := funFrames (mu := mu) (fun p hp => let ⟨_, o, h2, h3⟩ := F.tu p hp; ⟨o, hm.keeps _ _ h2, h3⟩) (fun L hL => hbase ▸ hideAll_none _ hL) fm
  unfold noteFrame
  simp only [hf]
  refine wpAny_bind (wpAny_field (x := .none) he rfl rfl ?_)
  rw [if_neg (show ¬ ((Value.none != Value.none) = true) by decide)]
  refine wpAny_entryW (base := base) (e := e) (a0 := .ref t) hfr hff hf he hst hen rfl (by simp) rfl fun h₁ hN => ?_
  obtain ⟨k1, k2, k3, k4⟩ := hN
  refine wpAny_setFlight_noneW k1 k2 k3 fun h₂ l1 l2 l3 l4 => ?_
  have up2 : h'.UpToSlots h₂ := Heap.UpToSlots.trans k4 fun b o hb hnf => ⟨o.slots, l4 b o hb hnf⟩
  have F2 : Fx s₀ g mu { s with heap := h₂, toks := tk } := F.looked tk hS hm.keeps (hbase ▸ l1) up2
  have hob := Heap.TracedAtW.there l3
  refine wpC_of (wpAny_handleBy_builtin (X := "ValueError") (T := "ValueError") (b := true) (isSubtype_of_subB (by decide +kernel)) (isSubtype_of_subB (by decide +kernel)) (isSubtype_of_subB (by decide +kernel))
    (ldb (w := w) G F2 hn hv ⟨rfl, hob, ?_⟩ hnn hk hx hg hb hdb).out)
  rw [if_pos rfl]
  refine wpAny_setFlight_noneW l1 l2 l3 fun h₃ m1 m2 m3 m4 => ?_
  exact (k _ _ (F.looked tk hS hm.keeps (hbase ▸ m1) (Heap.UpToSlots.trans up2 fun b o hb hnf => ⟨o.slots, m4 b o hb hnf⟩))).out
end
end Mine

end
section
open PySem PySem.W PyProof.Rows PySem.Calls PySem.Spec
set_option Elab.async false
set_option maxRecDepth 100000
set_option autoImplicit false
namespace Mine
section
variable {w : World} {A : Around} {E : Value → Shared → Prop} {s₀ s : Shared} {g : Heap} {mu : Mu} {env : Env} {rest : List Stmt} {pos : Pos}
/-- what a try does with an exception -/
def Cgt (w : World) (A : Around) (env : Env) (h₀ : ExceptHandler) (rest : List Stmt) (Q : Flow → Shared → Prop) (E : Value → Shared → Prop) (e : Value) (s₁ : Shared) : Prop :=
  wpAny (model PR w) A (noteFrame e env) (fun _ s₂ => wpAny (model PR w) A (setFlight e none) (fun _ s₃ =>
      wpC (model PR w) A (handleBy e env [h₀]) (fun f s₄ => match f with | .next => wpC (model PR w) A (execs rest env) Q E s₄ | f => Q f s₄) E s₃) E s₂) E s₁
theorem ex_tryC {body : List Stmt} {h₀ : ExceptHandler} {Q : Flow → Shared → Prop} (h : Wc w A (execs body env) (fun f s₁ => f = .next ∧ Wc w A (execs rest env) Q E s₁) (Cgt w A env h₀ rest Q E) s) :
    Wc w A (execs (.Try body [h₀] [] [] pos :: rest) env) Q E s := by
  refine ⟨wpC_execs_cons (wpC_try (wpC_mono h.out (fun f s₁ h₁ => ?_) fun e s₁ h₁ => h₁))⟩
  obtain ⟨rfl, h₁⟩ := h₁
  exact wpC_of (wpAny_execs_nil h₁.out)
theorem caughtC {outer : List Env} {x : Str} {np hpos : Pos} {b₀ : Stmt} {suite : List Stmt} {h' : Heap} {e : Addr} {tk : Nat} {v : Value} {Q : Flow → Shared → Prop} (G : Gd w g) (hfr : A.frames = some (env :: outer)) (fm : Fms (env :: outer) mu) (F : Fx s₀ g mu s)
    (hm : Heap.MadeExc s.heap h' e "ValueError" [v]) (hn : nsIn (hd.heap_39 w.params) mainGlobals x = some none) (hv : bootBuiltins x = some (.type "ValueError"))
    (k : ∀ s' E', Fx s₀ g mu s' → Wp w (A.mark (some (.ref e))) (execs (b₀ :: suite) env) (fun f s₄ => f = .next ∧ Wc w A (execs rest env) Q E s₄) E' s') (hnn : x ≠ "__name__" := by decide)
    (hk : env.scope.kind = .function := by rfl) (hx : env.kindOf x = some .globalImplicit := by rfl) (hg : env.globals = mainGlobals := by rfl) (hb : env.builtins = builtinsNs := by rfl) (hdb : (x == ("__debug__" : Str)) = false := by decide) :
    Cgt w A env (.ExceptHandler (some (.Name x np)) none (b₀ :: suite) hpos) rest Q E (.ref e) { s with heap := h', toks := tk } :=
  caught G hfr fm F hm hn hv (fun s' E' F' => wp_mono (k s' E' F') fun f s₄ h₄ => by obtain ⟨rfl, h₄⟩ := h₄; exact h₄.out) hnn hk hx hg hb hdb
def CgtM (w : World) (A : Around) (env : Env) (h₀ : ExceptHandler) (M : Shared → Prop) (e : Value) (s₁ : Shared) : Prop :=
  ∀ E, wpAny (model PR w) A (noteFrame e env) (fun _ s₂ => wpAny (model PR w) A (setFlight e none) (fun _ s₃ =>
      wpC (model PR w) A (handleBy e env [h₀]) (fun f s₄ => f = .next ∧ M s₄) E s₃) E s₂) E s₁
/-- a try whose ways meet -/
theorem ex_tryM (M : Shared → Prop) {body : List Stmt} {h₀ : ExceptHandler} {Q : Flow → Shared → Prop} (h : Wc w A (execs body env) (fun f s₁ => f = .next ∧ M s₁) (CgtM w A env h₀ M) s) (k : ∀ s', M s' → Wc w A (execs rest env) Q E s') :
    Wc w A (execs (.Try body [h₀] [] [] pos :: rest) env) Q E s := by
  refine ex_tryC ⟨wpC_mono h.out (fun f s₁ h₁ => ⟨h₁.1, k _ h₁.2⟩) fun e s₁ h₁ => ?_⟩
  exact wpAny_mono (h₁ E) (fun _ _ h₂ => wpAny_mono h₂ (fun _ _ h₃ => wpC_mono h₃ (fun f s₄ h₄ => by obtain ⟨rfl, h₄⟩ := h₄; exact (k _ h₄).out) fun _ _ x => x) fun _ _ x => x) fun _ _ x => x
theorem caughtM {M : Shared → Prop} {outer : List Env} {x : Str} {np hpos : Pos} {b₀ : Stmt} {suite : List Stmt} {h' : Heap} {e : Addr} {tk : Nat} {v : Value} (G : Gd w g) (hfr : A.frames = some (env :: outer)) (fm : Fms (env :: outer) mu) (F : Fx s₀ g mu s)
    (hm : Heap.MadeExc s.heap h' e "ValueError" [v]) (hn : nsIn (hd.heap_39 w.params) mainGlobals x = some none) (hv : bootBuiltins x = some (.type "ValueError"))
    (k : ∀ s' E', Fx s₀ g mu s' → Wp w (A.mark (some (.ref e))) (execs (b₀ :: suite) env) (fun f s₄ => f = .next ∧ M s₄) E' s') (hnn : x ≠ "__name__" := by decide)
    (hk : env.scope.kind = .function := by rfl) (hx : env.kindOf x = some .globalImplicit := by rfl) (hg : env.globals = mainGlobals := by rfl) (hb : env.builtins = builtinsNs := by rfl) (hdb : (x == ("__debug__" : Str)) = false := by decide) :
    CgtM w A env (.ExceptHandler (some (.Name x np)) none (b₀ :: suite) hpos) M (.ref e) { s with heap := h', toks := tk } := fun _ =>
  caught G hfr fm F hm hn hv (fun s' E' F' => k s' E' F') hnn hk hx hg hb hdb
theorem gm_extend {D : Addr} {vs : List Value} {pl : Sem Bool} {Q : Value × List Value → Shared → Prop} (F : Fx s₀ g mu s) (hD : (D, Lst vs) ∈ mu) (h : Q (.builtin "list.extend", [.ref D]) s) : Wp w A (getMethod (.ref D) (Str.ofString "extend") pl) Q E s := by
  obtain ⟨o, ho, n, rfl⟩ := F.get hD
  exact ⟨getMethod_builtin ⟨_, ho, rfl⟩ PySem.F.plainAttrs_list PySem.F.slot_list_extend PySem.F.type_list_extend (fun a e => by cases e; exact ⟨_, ho, rfl⟩) h⟩
theorem bi_extend {D b : Addr} {vs us : List Value} {n2 : Nat} {x : Addr × (Obj → Prop)} {Q : Value → Shared → Prop} (F : Fx s₀ g (x :: (D, Lst vs) :: mu) s) (hb : g.get? b = some { cls := .type "tuple", data := .seq us.toArray n2 })
    (h : ∀ s', Fx s₀ g (x :: (D, Lst (vs ++ us)) :: mu) s' → Q .none s') (hsz : vs.length + us.length ≤ 1000000) : Wp w A (call (.builtin "list.extend") [.ref D, .ref b]) Q E s := by
  obtain ⟨o, ho, n, rfl⟩ := F.get (.tail _ (.head _))
  have hsz' : vs.toArray.size + us.toArray.size ≤ sizeLine := by rw [List.size_toArray, List.size_toArray, sizeLine_eq]; omega
  refine ⟨call_meets PySem.F.slot_list_extend ⟨_, ho, rfl⟩ PySem.F.entry_list_extend (PySem.F.args_list_extend_2 _ _) (AutoSeq1.list_extend_list_tuple_0 D vs.toArray n b us.toArray n2 (extend_door hsz') (Nat.le_trans (Nat.le_add_right _ _) hsz') (Nat.le_succ_of_le hsz')) ⟨ho, F.le _ _ hb, ?_⟩⟩
  have F' : Fx s₀ g ((D, Lst vs) :: x :: mu) s := F.perm (List.Perm.swap _ _ _)
  have e : vs.toArray ++ us.toArray = (vs ++ us).toArray := by simp
  have ho' : (s.heap.update D (Obj.mapSeq fun x => x ++ us.toArray)).get? D = some { cls := .type "list", data := .seq (vs ++ us).toArray (if (vs.toArray ++ us.toArray).size == vs.toArray.size then n else n + 1) } := by
    rw [Heap.get?_update_self _ ho (by rw [mapSeq_app]; rfl), mapSeq_app, e]
  have F2 := F'.upd (P' := Lst (vs ++ us)) s.toks (Heap.SameBut.update ..) ho' ⟨_, rfl⟩
  exact h _ (F2.perm (List.Perm.swap _ _ _))
theorem gm_split {pl : Sem Bool} {Q : Value × List Value → Shared → Prop} {vs : Array Value} (G : Gd w g) (F : Fx s₀ g mu s) (hlk : (hd.heap_39 w.params).lookup 43 = some { cls := .type "re.Pattern", data := .fields vs }) (h : Q (.builtin "re.Pattern.split", [.ref 43]) s) :
    Wp w A (getMethod (.ref 43) (Str.ofString "split") pl) Q E s := by
  have h43 := F.le _ _ (G.K _ _ hlk)
  exact ⟨getMethod_builtin ⟨_, h43, rfl⟩ pa_re slot_split type_split (fun a e => by cases e; exact ⟨_, h43, rfl⟩) h⟩
theorem cm_nin {x y : Str} {t u : Tok} {Q : Value → Shared → Prop} (h : Q (.bool (!(!(Builtin.Str.occurrences x y 0 x.length 1).isEmpty))) s) : Wp w A (compareOp .NotIn (.str y u) (.str x t)) Q E s := ⟨P.notIn_str h⟩
end
def stageTab : List (Str × Int) := [(Str.ofString "dev", 10), (Str.ofString "alpha", 20), (Str.ofString "a", 20), (Str.ofString "beta", 30), (Str.ofString "b", 30), (Str.ofString "c", 40), (Str.ofString "RC", 50), (Str.ofString "rc", 50), (Str.ofString "pl", 200), (Str.ofString "p", 200)]
def stageOf (x : Str) : Int := (KTD.datumAt x stageTab).getD 0
def stageD : List (Str × KTD.Dat) := stageTab.map fun p => (p.1, KTD.Dat.flat (.int p.2))
theorem stageD_at (x : Str) : ∀ l : List (Str × Int), KTD.datumAt x (l.map fun p => (p.1, KTD.Dat.flat (.int p.2))) = (KTD.datumAt x l).map fun i => KTD.Dat.flat (.int i)
  | [] => rfl
  | (k, i) :: l => by
    show (if decide (x = k) = true then some (KTD.Dat.flat (.int i)) else KTD.datumAt x (l.map fun p => (p.1, KTD.Dat.flat (.int p.2)))) = (if decide (x = k) = true then some i else KTD.datumAt x l).map _
    rw [stageD_at x l]
    split <;> rfl
def isOut (y : Str) : Bool := !(Builtin.Str.occurrences (Str.ofString "._+-") y 0 (Str.ofString "._+-").length 1).isEmpty
def verOf (y : Str) : List PyData := if isOut y then [] else match PySem.intText? y with
  | some n => [.int 100, .int n]
  | none => [.int (stageOf y), .str y]
def versionD (x : Str) : PyData := .list ((splitL x).flatMap verOf)
section
variable {w : World} {A : Around} {E : Value → Shared → Prop} {s₀ s : Shared} {g : Heap} {mu : Mu}
theorem stage_here (G : Gd w g) (F : Fx s₀ g mu s) {es : Array DictEntry} {ep : Nat} (hlk : (hd.heap_39 w.params).lookup 44 = some { cls := .type "dict", data := .dict es ep }) (hr : KTD.Rows (KTD.Dat.At g) es.toList stageD) : KTD.Here g s.heap 44 stageD :=
  ⟨⟨rfl, _, es, ep, G.K _ _ hlk, ⟨rfl, rfl, rfl⟩, rfl, hr⟩, F.le⟩
theorem gm_get {pl : Sem Bool} {Q : Value × List Value → Shared → Prop} (T : KTD.Here g s.heap 44 stageD) (h : Q (.builtin "dict.get", [.ref 44]) s) : Wp w A (getMethod (.ref 44) (Str.ofString "get") pl) Q E s := ⟨KTD.getMethod_text T h⟩
theorem bi_get {x : Str} {t t0 : Tok} {Q : Value → Shared → Prop} (F : Fx s₀ g mu s) (T : KTD.Here g s.heap 44 stageD) (h : ∀ t s', Fx s₀ g mu s' → Q (.int (stageOf x) t) s') : Wp w A (call (.builtin "dict.get") [.ref 44, .str x t, .int 0 t0]) Q E s := by
  refine ⟨call_meetsIn PySem.F.slot_dict_get T.typeIs PySem.F.entry_dict_get (PySem.F.args_dict_get_3 _ _ _) (KTD.meets_get2 (h₀ := g) (D := stageD)) ⟨T, fun d v ha hv => ?_, fun hn => ?_⟩⟩
  · rw [stageD, stageD_at] at ha
    obtain ⟨i, hi, rfl⟩ := Option.map_eq_some_iff.mp ha
    have hs : stageOf x = i := by rw [stageOf, hi]; rfl
    obtain ⟨t, rfl⟩ := _root_.PyProof.V.Flat.int_inv hv
    exact hs ▸ h _ _ (F.tok _)
  · rw [stageD, stageD_at] at hn
    have hs : stageOf x = 0 := by rw [stageOf, Option.map_eq_none_iff.mp hn]; rfl
    exact hs ▸ h _ _ (F.tok _)
end
end Mine

end
section
open PySem PySem.W PyProof.Rows PySem.Calls PySem.Spec
set_option Elab.async false
set_option maxRecDepth 100000
set_option autoImplicit false
set_option maxHeartbeats 1000000
namespace Mine
theorem fillV : (PySem.Challenge.rw_mq0069_01 = PySem.Challenge.rw_mq0069_01) ∧ (hd.heap_39 = hd.heap_39) := by k_fill; exact ⟨rfl, rfl⟩
theorem slc_in {text : Array Nat} {a b : Nat} : (slc text a b).length ≤ text.size ∧ ∀ c ∈ (slc text a b).cps.toList, c ∈ text.toList := by
  refine ⟨?_, fun c hc => ?_⟩
  · show (text.extract a b).size ≤ _
    rw [Array.size_extract]; omega
  · have hc' : c ∈ (text.extract a b).toList := hc
    rw [Array.toList_extract] at hc'
    exact List.mem_of_mem_drop (List.mem_of_mem_take hc')
theorem splitF_in (text : Array Nat) (lim : Nat) : ∀ f start, ∀ y ∈ splitF text lim f start, y.length ≤ text.size ∧ ∀ c ∈ y.cps.toList, c ∈ text.toList
  | 0, _, y, hy => by rw [splitF, List.mem_singleton] at hy; subst hy; exact slc_in
  | f + 1, start, y, hy => by
    rw [splitF] at hy
    split at hy
    · rw [List.mem_singleton] at hy; subst hy; exact slc_in
    · rcases List.mem_cons.mp hy with rfl | hy
      · exact slc_in
      · rcases List.mem_cons.mp hy with rfl | hy
        · exact slc_in
        · exact splitF_in text lim f _ y hy
theorem splitL_in (x : Str) : ∀ y ∈ splitL x, y.length ≤ x.length ∧ ∀ c ∈ y.cps.toList, c ∈ x.cps.toList := splitF_in _ _ _ _
theorem Rd.strs_get {g : Heap} {vs : List Value} {ns : List Str} {i : Nat} {v : Value} (h : RdA g vs (ns.map .str)) (e : vs[i]? = some v) : ∃ y t, v = .str y t ∧ ns[i]? = some y := by
  obtain ⟨d, hd, hr⟩ := h.get e
  rw [List.getElem?_map] at hd
  obtain ⟨y, hy, rfl⟩ := Option.map_eq_some_iff.mp hd
  obtain ⟨t, rfl⟩ := hr.inv_str
  exact ⟨y, t, rfl, hy⟩
theorem verOf_len (y : Str) : (verOf y).length ≤ 2 := by
  unfold verOf; split
  · simp
  · split <;> simp
theorem RdA.app {g : Heap} : ∀ {ds : List PyData} {vs : List Value} {us : List Value} {es : List PyData}, RdA g vs ds → RdA g us es → RdA g (vs ++ us) (ds ++ es)
  | [], vs, us, es, x, y => by rw [x.inv0]; exact y
  | e :: ds, vs, us, es, x, y => by
    obtain ⟨u, us', rfl, h1, h2⟩ := x.inv
    exact .cons h1 (RdA.app h2 y)
theorem flatMap_take {α β : Type} (f : α → List β) {l : List α} {i : Nat} {a : α} (h : l[i]? = some a) : (l.take (i + 1)).flatMap f = (l.take i).flatMap f ++ f a := by
  rw [List.take_add_one, h, List.flatMap_append]; simp

/-- a def of the text keeps its word in the caller's contexts, its frames known -/
def PcC (w : World) (f : Addr) (vs : List Value) (k : Nat) (Out : Heap → Value → Prop) : Prop :=
  ∀ (A : Around) (outer : List Env) (s₀ s : Shared) (g : Heap) (mu : Mu) (Q E : Value → Shared → Prop), Gd w g → Rm A k → A.frames = some outer → Fms outer mu → Fx s₀ g mu s →
    (∀ r s' g', Le g g' → Fx s₀ g' mu s' → Out g' r → Q r s') → Wc w A (call (.ref f) vs) Q E s
theorem Fms.cons {env : Env} {outer : List Env} {mu mu' : Mu} {ns : List (Str × Value)} {L : Addr} (f : Fms outer mu) (hk : env.scope.kind ≠ .module) (hf : env.frame = some L) (hm : (L, Loc ns) ∈ mu') (hs : ∀ p ∈ mu, p ∈ mu') : Fms (env :: outer) mu' := by
  intro e he
  rcases List.mem_cons.mp he with rfl | he
  · exact ⟨hk, L, ns, hf, hm⟩
  · obtain ⟨h1, L', ns', h2, h3⟩ := f e he
    exact ⟨h1, L', ns', h2, hs _ h3⟩

theorem version {w : World} (x : Str) (t : Tok) (hx2 : x.length ≤ 600) (hasc : ∀ c ∈ x.cps.toList, c < 128) :
    PcC w 51 [.str x t] 5 (fun g r => Rd g r (versionD x)) := by
  intro A outer s₀ s g mu Q E G R hfr fm F hQ
  refine callxC (binds := [(Str.ofString "version", .str x t)]) G R F (G.K _ _ (by k_is)) rfl (codeRec_of G.K (by k_is)) rfl (.of_eq rfl) rfl rfl ?_
  clear F
  intro L s E' R F
  have F : Fx s₀ g ((L, Loc []) :: mu) s := F
  refine sto F fun s F => ⟨⟨_, F⟩, fun E' => ?_⟩
  refine ex_assignC (ldg G F (by k_is) (sto F fun s F => ?_)).c
  refine ex_assignC (ev_list (sp_nil (mkListM F fun D s F => sto F.swap fun s F => ?_))).c
  refine ex_forC (ev_meth (ld F (.head _) (.tail _ (.head _)) (gm_split G F (by k_is) (cw_bi (sp_cons (ld F (.head _) (.tail _ (.tail _ (.head _))) (sp_nil (split_wp G F (by omega) (by k_is) (by k_is) (by decide +kernel) fun D2 s g1 us l1 e1 hus F => ?_))))))))
  have F := F.weak (Loc.sub (l' := [(Str.ofString "result", .ref D)]) (List.forall_mem_singleton.mpr (.head _)))
  let mk (D L : Addr) (vs : List Value) : Mu := (L, Loc [(Str.ofString "result", .ref D)]) :: (D, Lst vs) :: mu
  have G := G.up l1
  have hasz : us.length = (splitL x).length := by have := hus.len; rwa [List.length_map] at this
  have hlim : (splitL x).length ≤ 2 * (x.cps.size + 1) + 1 := splitF_len _ _ _ _
  have hx3 : x.cps.size ≤ 600 := hx2
  refine iter_listC R.hand F (items := us.toArray) ⟨_, e1, rfl, _, rfl⟩ (fun i g' mu' => ∃ vs, mu' = mk D L vs ∧ RdA g' vs (((splitL x).take i).flatMap verOf) ∧ vs.length ≤ 2 * i) ⟨[], rfl, .nil, by simp⟩ ?_ ?_
  · rintro i v g' mu' s E'' I PI hi hv l ⟨vs, rfl, hrd, hle⟩ F
    obtain ⟨y, ty, rfl, hy⟩ := Rd.strs_get hus (i := i) (v := v) (by simpa using hv)
    rw [List.size_toArray] at hi
    obtain ⟨hyl, hyc⟩ := splitL_in x y (List.mem_of_getElem? hy)
    have G := G.up l
    have hft := flatMap_take verOf hy
    have F := F
    refine as_name F fun s F => ?_
    refine ex_ifC (it_cmp (ld F (.head _) (.head _) (ct_str F fun t1 s F => cm_nin (tr_bool ?_))) rfl)
    show Wc _ _ (execs (if (!isOut y) = true then _ else _) _) _ _ _
    have hlen : i < 1300 := by omega
    have hlen2 : vs.length ≤ 2600 := by omega
    have fin : ∀ (us2 : List Value) g2 s, verOf y = verOf y → Le g' g2 → RdA g2 us2 (verOf y) → Fx s₀ g2 ((L, Loc [(Str.ofString "result", .ref D)]) :: (D, Lst (vs ++ us2)) :: (mu ++ [(I, PI)])) s →
        ∃ g'' mu'', Le g' g'' ∧ (∃ vs, mu'' = mk D L vs ∧ RdA g'' vs (((splitL x).take (i + 1)).flatMap verOf) ∧ vs.length ≤ 2 * (i + 1)) ∧ Fx s₀ g'' (mu'' ++ [(I, PI)]) s := by
      intro us2 g2 s _ l2 h2 F
      refine ⟨g2, mk D L (vs ++ us2), l2, ⟨vs ++ us2, rfl, ?_, ?_⟩, F⟩
      · rw [hft]; exact (hrd.up l2).app h2
      · have := h2.len; have := verOf_len y; rw [List.length_append]; omega
    cases ho : isOut y with
    | true =>
      simp only [Bool.not_true, Bool.false_eq_true, if_false]
      have hv0 : verOf y = [] := by rw [verOf, ho]; rfl
      refine (ex_nil (ex_nil (fin [] g' _ rfl (Le.refl _) (hv0 ▸ .nil) ?_)).c).c
      rw [List.append_nil]
      exact F.weak (Loc.sub (List.forall_mem_singleton.mpr (.tail _ (.head _))))
    | false =>
      simp only [Bool.not_false, if_true]
      refine ex_tryM (fun s => ∃ (n : Int) (u : Value) (d : PyData) (tr : Tok), verOf y = [.int n, d] ∧ (∀ g, Rd g u d) ∧ Fx s₀ g' ((L, Loc [(Str.ofString "t", .int n tr), (Str.ofString "v", u), (Str.ofString "result", .ref D)]) :: (D, Lst vs) :: (mu ++ [(I, PI)])) s) ?_ ?_
      · cases hn : PySem.intText? y with
        | some n =>
          refine ex_assignC (callT G F (by k_is) (by rfl) (sp_cons (ld F (.head _) (.head _) (sp_cons (ct_int F fun t2 s F => sp_nil (call_int10 hn (by omega) (sto (F.tok _) fun s F => ?_))))))).c
          refine Wp.c (ex_assign (ct_int F fun t3 s F => sto F fun s F => ex_nil ⟨rfl, 100, _, .int n, t3, ?_, fun g => .int n _, F.weak (Loc.sub (fun p hp => hp))⟩))
          rw [verOf, ho, hn]; rfl
        | none =>
          refine ex_assignC (callTC G F (by k_is) (by rfl) (sp_cons (ld F (.head _) (.head _) (sp_cons (ct_int F fun t2 s F => sp_nil (call_int10_refuse R.hand (by omega) (fun c hc => hasc c (hyc c hc)) hn fun h' e tk v hm => ?_))))))
          refine caughtM G (Around.frames_deeper hfr) (fm.cons (by intro q; cases q) rfl (.head _) (fun p hp => .tail _ (.tail _ (List.mem_append_left _ hp)))) F hm (by k_is) (by rfl) fun s E' F => ?_
          have T := stage_here G F (by k_is) (by
            repeat (first | exact .nil | refine KTD.Rows.cons rfl (_root_.PyProof.V.Flat.int _ _) ?_))
          refine ex_assign (ev_meth (ldg G F (by k_is) (gm_get T (cw_bi (sp_cons (ld F (.head _) (.head _) (sp_cons (ct_int F fun t2 s F => sp_nil (bi_get F ⟨T.1, F.le⟩ fun tr s F => sto F fun s F => ?_)))))))))
          refine ex_nil ⟨rfl, stageOf y, .str y ty, .str y, tr, ?_, fun g => .str y ty, F.weak (Loc.sub (fun p hp => hp))⟩
          rw [verOf, ho, hn]; rfl
      · rintro s ⟨n, u, d, tr, hver, hu, F⟩
        refine Wp.c (ex_expr (ev_meth (ld F (.head _) (.tail _ (.tail _ (.head _))) (gm_extend F (.tail _ (.head _)) (cw_bi ?_)))))
        refine sp_cons (ev_tuple ?_)
        refine sp_cons (ld F (.head _) (.head _) (sp_cons (ld F (.head _) (.tail _ (.head _)) (sp_nil (mkTuple F fun b s g2 l2 e F => sp_nil ?_)))))
        refine bi_extend F e (fun s F => ⟨rfl, ?_⟩) (by simp; omega)
        refine ex_nil (Wp.c (ex_nil (fin _ g2 _ rfl l2 ?_ (F.weak (Loc.sub (List.forall_mem_singleton.mpr (.tail _ (.tail _ (.head _)))))))))
        rw [hver]
        exact .cons (.int _ _) (.cons (hu _) .nil)
  · rintro g' mu' s l ⟨vs, rfl, hrd, hle⟩ F
    refine (ex_ret (ld F (.head _) (.head _) ?_)).c
    obtain ⟨g2, o, l2, e, ⟨n, rfl⟩, F2⟩ := F.drop.freeze
    refine hQ _ _ _ ((l1.trans l).trans l2) F2 ?_
    rw [versionD]
    refine .list e ?_
    rw [List.size_toArray, hasz, List.take_length] at hrd
    exact hrd.up l2
end Mine

end
section
open PySem PySem.W PyProof.Rows PySem.Calls PySem.Spec PySem.SeqAt
set_option Elab.async false
set_option maxRecDepth 100000
set_option autoImplicit false
set_option linter.unusedVariables false
namespace Mine
open PySem.AutoSeq1 (wpAny_loadPart')
open PySem.MeetsSeq3 (plain_eq_loop entry_eq_loop)
/-- a > b for two values -/
def GtAt (A : Around) (s : Shared) (y x : Value) (b : Bool) : Prop :=
  ∀ (prog : Program) (w : World) (E : Value → Shared → Prop) (Q : Value → Shared → Prop), Q (.bool b) s → wpAny (model prog w) A (richCompare .Gt y x) Q E s
/-- list > list: the first place that is not the same -/
inductive LexAt (A : Around) (s : Shared) : List Value → List Value → Bool → Prop
  | nil (ys : List Value) : LexAt A s [] ys false
  | more (x : Value) (xs : List Value) : LexAt A s (x :: xs) [] true
  | same {x y : Value} {xs ys : List Value} {b : Bool} : EqAt A s x y true → LexAt A s xs ys b → LexAt A s (x :: xs) (y :: ys) b
  | diff {x y : Value} {xs ys : List Value} {b : Bool} : EqAt A s x y false → GtAt A s x y b → LexAt A s (x :: xs) (y :: ys) b

theorem gt_loop (l b : Addr) (items items2 : Array Value) (n n2 : Nat) (dd dd2 : Option Addr) (sl sl2 : Array (Option Value)) (res : Bool) (k : Nat) :
    ∀ i : Nat, items.size - i = k → i ≤ items.size → i ≤ items2.size → Meets (Builtin.«list.__eq__.loop» ⟨[.ref l, .ref b, rawInt i, rawInt 4], []⟩)
      (fun A R s => s.heap.get? l = some { cls := .type "list", dict := dd, data := .seq items n, slots := sl } ∧ s.heap.get? b = some { cls := .type "list", dict := dd2, data := .seq items2 n2, slots := sl2 } ∧
        LexAt A.in1 s (items.toList.drop i) (items2.toList.drop i) res ∧ R (.ok (.ret (.bool res))) s) := by
  induction k with
  | zero =>
    intro i hk hi1 hi2 prog w A R s h
    obtain ⟨hp, g, d, tk, os⟩ := s; obtain ⟨hl, hb, he, h⟩ := h
    wp_walk using wpAny_loadPart' hl, wpAny_loadPart' hb
    have e1 : items[((i : Nat) : Int).toNat]? = none := by simp; omega
    have hd : items.toList.drop i = [] := by simp; omega
    rw [hd] at he
    cases he
    rw [e1]
    wp_walk using wpAny_loadPart' hl, wpAny_loadPart' hb
    show R (.ok (.ret (.bool (decide (items.size > items2.size))))) _
    rw [decide_eq_false (by omega)]
    exact h
  | succ k ih =>
    intro i hk hi1 hi2 prog w A R s h
    obtain ⟨hp, g, d, tk, os⟩ := s; obtain ⟨hl, hb, he, h⟩ := h
    wp_walk using wpAny_loadPart' hl, wpAny_loadPart' hb
    have hlt : i < items.size := by omega
    have e1 : items[((i : Nat) : Int).toNat]? = some items[i] := by simp [hlt]
    have hd : items.toList.drop i = items[i] :: items.toList.drop (i + 1) := by simp [List.drop_eq_getElem_cons, hlt]
    have hc : ((i : Int) + 1) = ((i + 1 : Nat) : Int) := by push_cast; rfl
    rw [hd] at he
    by_cases hlt2 : i < items2.size
    · have e2 : items2[((i : Nat) : Int).toNat]? = some items2[i] := by simp [hlt2]
      have hd2 : items2.toList.drop i = items2[i] :: items2.toList.drop (i + 1) := by simp [List.drop_eq_getElem_cons, hlt2]
      rw [hd2] at he
      rw [e1, e2]
      cases he with
      | same he1 he2 =>
        refine wpAny_bind (he1 prog w _ _ ?_)
        wp_walk
        rw [hc]
        exact ⟨plainId_quiet plain_eq_loop _, codeAny_builtin entry_eq_loop (by
          rw [Around.under_plainId plain_eq_loop _]
          exact ih (i + 1) (by omega) (by omega) (by omega) prog w A R _ ⟨hl, hb, he2, h⟩)⟩
      | diff he1 he2 =>
        refine wpAny_bind (he1 prog w _ _ ?_)
        wp_walk using wpAny_loadPart' hl, wpAny_loadPart' hb
        rw [e1, e2]
        show wpAny _ _ (richCompare .Gt items[i] items2[i] >>= ret) _ _ _
        exact wpAny_bind (he2 prog w _ _ (wpAny_pure h))
    · have e2 : items2[((i : Nat) : Int).toNat]? = none := by simp; omega
      have hd2 : items2.toList.drop i = [] := by simp; omega
      rw [hd2] at he
      cases he
      rw [e1, e2]
      wp_walk using wpAny_loadPart' hl, wpAny_loadPart' hb
      show R (.ok (.ret (.bool (decide (items.size > items2.size))))) _
      rw [decide_eq_true (by omega)]
      exact h
theorem list_gtAt (l b : Addr) (items items2 : Array Value) (n n2 : Nat) (dd dd2 : Option Addr) (sl sl2 : Array (Option Value)) (res : Bool) :
    Meets (Builtin.«list.__gt__» ⟨[.ref l, .ref b], []⟩)
      (fun A R s => s.heap.get? l = some { cls := .type "list", dict := dd, data := .seq items n, slots := sl } ∧ s.heap.get? b = some { cls := .type "list", dict := dd2, data := .seq items2 n2, slots := sl2 } ∧
        LexAt A.in1 s items.toList items2.toList res ∧ R (.ok (.ret (.bool res))) s) := by
  intro prog w A R s h
  obtain ⟨hp, g, d, tk, os⟩ := s; obtain ⟨hl, hb, he, h⟩ := h
  have f3 := AutoSeq1.sub_list_list
  wp_walk using wpAny_loadPart' hl, wpAny_loadPart' hb
  exact ⟨plainId_quiet plain_eq_loop _, codeAny_builtin entry_eq_loop (by
    rw [Around.under_plainId plain_eq_loop _]
    exact gt_loop l b items items2 n n2 dd dd2 sl sl2 res _ 0 rfl (Nat.zero_le _) (Nat.zero_le _) prog w A R _ ⟨hl, hb, he, h⟩)⟩
theorem GtAt.lists {A : Around} {s : Shared} {l b : Addr} {items items2 : Array Value} {res : Bool} (hl : s.heap.IsList l items) (hb : s.heap.IsList b items2) (hu : A.units < cLine)
    (he : LexAt A.in1 s items.toList items2.toList res) : GtAt A s (.ref l) (.ref b) res := fun prog w E Q h => by
  obtain ⟨⟨cls, dd, data, sl⟩, ho, hc, n, hd⟩ := id hl
  obtain ⟨⟨cls2, dd2, data2, sl2⟩, ho2, hc2, n2, hd2⟩ := id hb
  simp only at hc hd hc2 hd2
  subst hc hd hc2 hd2
  exact richCompare_meets_room (op := .Gt) ⟨_, ho, rfl⟩ ⟨_, ho2, rfl⟩ PySem.F.slot_list_gt PySem.F.entry_list_gt (PySem.F.args_list_gt_2 _ _) (list_gtAt l b items items2 n n2 dd dd2 sl sl2 res)
    ⟨ho, ho2, he, show Value.bool res ≠ Value.notImplemented ∧ Q (.bool res) s from ⟨(fun x => nomatch x), h⟩⟩ hu
theorem GtAt.int {A : Around} {s : Shared} (i j : Int) (t u : Tok) : GtAt A s (.int i t) (.int j u) (decide (j < i)) := fun prog w E Q h => PyProof.Rows.gt_int h
theorem GtAt.str {A : Around} {s : Shared} (x y : Str) (t u : Tok) : GtAt A s (.str x t) (.str y u) (decide (y.cps.toList < x.cps.toList)) := fun prog w E Q h => P.gt_str h
/-- the same of data: scalars -/
inductive GtS : PyData → PyData → Bool → Prop
  | int (i j : Int) : GtS (.int i) (.int j) (decide (j < i))
  | str (x y : Str) : GtS (.str x) (.str y) (decide (y.cps.toList < x.cps.toList))
inductive GtL (T : PyData → PyData → Bool → Prop) : List PyData → List PyData → Bool → Prop
  | nil (ys : List PyData) : GtL T [] ys false
  | more (x : PyData) (xs : List PyData) : GtL T (x :: xs) [] true
  | same {x y : PyData} {xs ys : List PyData} {b : Bool} : PyData.eqv x y = true → GtL T xs ys b → GtL T (x :: xs) (y :: ys) b
  | diff {x y : PyData} {xs ys : List PyData} {b : Bool} : PyData.eqv x y = false → T x y b → GtL T (x :: xs) (y :: ys) b
def GtK (T : PyData → PyData → Bool → Prop) (k : Nat) : Prop := ∀ x y b, T x y b → ∀ (A : Around) (s : Shared) (vx vy : Value), A.units + k < cLine → Rd s.heap vx x → Rd s.heap vy y → GtAt A s vx vy b
theorem GtS.k : GtK GtS 0 := by
  intro x y b h A s vx vy hu rx ry
  cases h with
  | int i j => obtain ⟨t, rfl⟩ := rx.inv_int; obtain ⟨u, rfl⟩ := ry.inv_int; exact .int _ _ _ _
  | str i j => obtain ⟨t, rfl⟩ := rx.inv_str; obtain ⟨u, rfl⟩ := ry.inv_str; exact .str _ _ _ _
theorem GtL.at {T : PyData → PyData → Bool → Prop} {k : Nat} (hT : GtK T k) {xs ys : List PyData} {b : Bool} (h : GtL T xs ys b) : ∀ {A : Around} {s : Shared} {vs us : List Value}, A.units + k < cLine → (∀ x ∈ xs, x.canLay0 = true ∧ x.depth ≤ k) → (∀ y ∈ ys, y.canLay0 = true) →
    RdA s.heap vs xs → RdA s.heap us ys → LexAt A s vs us b := by
  induction h with
  | nil ys => intro A s vs us hu _ _ rx ry; rw [rx.inv0]; exact .nil _
  | more x xs => intro A s vs us hu _ _ rx ry; obtain ⟨v, vs', rfl, _, _⟩ := rx.inv; rw [ry.inv0]; exact .more _ _
  | same e _ ih =>
    intro A s vs us hu hx hy rx ry
    obtain ⟨v, vs', rfl, ⟨_, r1⟩, r2⟩ := rx.inv
    obtain ⟨u, us', rfl, ⟨_, q1⟩, q2⟩ := ry.inv
    have h1 := hx _ (.head _)
    refine .same (e ▸ eqAt_reads _ _ A s _ _ _ _ r1 q1 h1.1 (hy _ (.head _)) (by omega)) (ih hu (fun z hz => hx z (.tail _ hz)) (fun z hz => hy z (.tail _ hz)) r2 q2)
  | diff e t =>
    intro A s vs us hu hx hy rx ry
    obtain ⟨v, vs', rfl, r, r2⟩ := rx.inv
    obtain ⟨u, us', rfl, q, q2⟩ := ry.inv
    have h1 := hx _ (.head _)
    have hg := hT _ _ _ t A s v u hu r q
    obtain ⟨_, r1⟩ := r
    obtain ⟨_, q1⟩ := q
    exact .diff (e ▸ eqAt_reads _ _ A s _ _ _ _ r1 q1 h1.1 (hy _ (.head _)) (by omega)) hg
def GtLL (T : PyData → PyData → Bool → Prop) (k : Nat) (x y : PyData) (b : Bool) : Prop := ∃ xs ys, x = .list xs ∧ y = .list ys ∧ (∀ x ∈ xs, x.canLay0 = true ∧ x.depth ≤ k) ∧ (∀ y ∈ ys, y.canLay0 = true) ∧ GtL T xs ys b
theorem GtL.k {T : PyData → PyData → Bool → Prop} {k : Nat} (hT : GtK T k) : GtK (GtLL T k) (k + 1) := by
  rintro x y b ⟨xs, ys, rfl, rfl, hx, hy, h⟩ A s vx vy hu rx ry
  obtain ⟨a, vs, rfl, ha, hvs⟩ := rx.inv_list
  obtain ⟨c, us, rfl, hc, hus⟩ := ry.inv_list
  exact GtAt.lists ha hc (by omega) (h.at hT (by show A.units + 1 + k < cLine; omega) hx hy hvs hus)
end Mine

end
section
open PySem PySem.W PyProof.Rows PySem.Calls PySem.Spec
set_option Elab.async false
set_option maxRecDepth 100000
set_option autoImplicit false
set_option linter.unusedVariables false
namespace Mine
open PySem.Builtin PySem.Builtin.ObjectAttr
theorem fn_store : StoreFacts "function" [.type "function", .type "object"] "object.__setattr__" "object" where
  mro := by kernel_rfl
  slot := .of (owner := "object") (n := "__setattr__") (by rw [typeLookup_type, builtinLookup_eq_fast]; kernel_rfl) (by decide +kernel) (by decide +kernel) (by decide +kernel)
    (by first | exact .inl (by decide +kernel) | exact .inr (by decide +kernel)) (by rw [isSubtype_type]; kernel_rfl)
  entry := PySem.F.entry_object_sa
  kind := by decide +kernel
  split := by decide +kernel
  hasOwner := by decide +kernel
  args := fun a b c => by unfold argsOk; kernel_rfl
  passes := fun self => by kernel_rfl
theorem fn_span : typeLookup (.type "function") (Str.ofString "span") = pure none := by rw [typeLookup_type, builtinLookup_eq_fast]; kernel_rfl
theorem fn_search : typeLookup (.type "function") (Str.ofString "search") = pure none := by rw [typeLookup_type, builtinLookup_eq_fast]; kernel_rfl
section
variable {w : World} {A : Around} {E : Value → Shared → Prop} {h : Heap} {g : Array GenState} {d : Drawn} {t : Nat} {os : OsState}
/-- a named value is laid on a function that has none -/
theorem fn_store_entry {x : Addr} {o : Obj} {name : Str} {tk : Tok} {v : Value} {Q : Fin → Shared → Prop} (hx : h.get? x = some o) (hc : o.cls = .type "function") (hnc : ∀ c, o.data ≠ .cls c) (hdn : o.dict = none)
    (hB : typeLookup (.type "function") name = pure none)
    (hq : ∀ h' tk', h'.get? x = some { o with dict := some h.objs.size } → h'.Ns1 h.objs.size (fun y => if y = name then some v else none) → (∀ b o, b ≠ x → h.get? b = some o → h'.get? b = some o) → Q (.done (.ret .none)) ⟨h', g, d, tk', os⟩) :
    wpAny (model PR w) A (Builtin.«object.__setattr__» ⟨[.ref x, .str name tk, v], []⟩) Q E ⟨h, g, d, t, os⟩ := by
  have hpass := fn_store.passes (.ref x)
  have hmro := fn_store.mro
  unfold Builtin.«object.__setattr__»
  repeat (first | rw [refuse_eq] | (rw [hpass]) | (with_reducible refine wpAny_loadPart_at hx ?_; rw [hc]) | wp_step)
  rw [hdn, if_neg (by decide +kernel)]
  split
  · rename_i hcd
    cases hcd
  split
  · rename_i c hcd
    exact absurd hcd (hnc c)
  · have hx₁ : (h.push { cls := .type "dict", data := .dict #[] }).get? x = some o := Heap.get?_push_of_some _ hx
    have hxs : x ≠ h.objs.size := Nat.ne_of_lt (Heap.lt_size hx)
    refine wpAny_bind (wpAny_alloc' ?_)
    refine wpAny_bind (wpAny_update' hx₁ ?_)
    have hnf : finalisedInACycleAlone "function" = false := by decide +kernel
    unfold dictMade
    dsimp only
    rw [hnf]
    simp only [Bool.false_eq_true, if_false]
    refine wpAny_pure ?_
    have hgd : ((h.push { cls := .type "dict", data := .dict #[] }).update x fun o => { cls := o.cls, dict := some h.objs.size, data := o.data, slots := o.slots }).get? h.objs.size
        = some { cls := .type "dict", data := .dict #[] } :=
      (Heap.get?_update_ne _ _ _ _ hxs.symm).trans (Heap.get?_push_at rfl rfl)
    have hnd : ((h.push { cls := .type "dict", data := .dict #[] }).update x fun o => { cls := o.cls, dict := some h.objs.size, data := o.data, slots := o.slots }).Ns h.objs.size (fun _ => none) :=
      ⟨_, #[], _, hgd, rfl, fun e he => absurd he (by simp), fun _ => rfl⟩
    show wpAny _ _ (storeInDict h.objs.size (.str name tk) name v) _ _ _
    unfold storeInDict newKeyGuard
    refine wpAny_bind (wpAny_pure (wpAny_bind (wpAny_nsSet1 (Heap.Ns1.of_empty hnd) fun h' hn' hs => ?_)))
    obtain ⟨oD, esD, epD, hoD, hdD, hcD⟩ := hn'.count (Within.cons name v Within.nil)
    refine wpAny_bind (wpAny_lookBehind hoD (by rw [hdD]; exact pastItsLine_dict (Nat.le_trans hcD (by rw [List.length_cons, List.length_nil, sizeLine_eq]; omega))) ?_)
    wp_walk
    refine hq h' _ ((hs.2 x hxs).trans (Heap.get?_update_self _ hx₁ ?_)) hn' (fun b ob hbx hb => ?_)
    · have hfr := (Heap.get?_some_iff.mp hx).2
      obtain ⟨oc, od, odt, osl⟩ := o
      cases odt <;> first | rfl | exact hfr
    · exact (hs.2 b (Nat.ne_of_lt (Heap.lt_size hb))).trans ((Heap.get?_update_ne _ _ _ _ hbx).trans (Heap.get?_push_of_some _ hb))
theorem fn_setattr {x : Addr} {o : Obj} {name : Str} {v : Value} {Q : Unit → Shared → Prop} (hx : h.get? x = some o) (hc : o.cls = .type "function") (hnc : ∀ c, o.data ≠ .cls c) (hdn : o.dict = none)
    (hB : typeLookup (.type "function") name = pure none)
    (hq : ∀ h' tk', h'.get? x = some { o with dict := some h.objs.size } → h'.Ns1 h.objs.size (fun y => if y = name then some v else none) → (∀ b o, b ≠ x → h.get? b = some o → h'.get? b = some o) → Q () ⟨h', g, d, tk', os⟩) :
    wpAny (model PR w) A (setAttr (.ref x) name v) Q E ⟨h, g, d, t, os⟩ := by
  have f3 := fn_store.slot.bind (.ref x)
  have f4 := fn_store.slot.lookup
  unfold setAttr callSpecial? specialOf
  repeat (any_goals (first | assumption | (with_reducible refine wpAny_loadPart_at hx ?_; rw [hc]) | wp_step))
  exact codeAny_call_builtin fn_store.slot.plain fn_store.entry (fn_store.slot.check _ _ _ _ _ _ _ _ ⟨o, hx, hc⟩ (fn_store.args _ _ _) (fn_store_entry hx hc hnc hdn hB fun h' tk' h1 h2 h3 => wpAny_pure (wpAny_pure (hq h' tk' h1 h2 h3))))
theorem fn_ga : typeLookup (.type "function") "__getattribute__" = pure (some (.builtin "object.__getattribute__")) := by rw [typeLookup_type, builtinLookup_eq_fast]; kernel_rfl
theorem fn_gattr : typeLookup (.type "function") "__getattr__" = pure none := by rw [typeLookup_type, builtinLookup_eq_fast]; kernel_rfl
theorem fn_bool : typeLookup (.type "function") "__bool__" = pure none := by rw [typeLookup_type, builtinLookup_eq_fast]; kernel_rfl
theorem fn_len : typeLookup (.type "function") "__len__" = pure none := by rw [typeLookup_type, builtinLookup_eq_fast]; kernel_rfl
theorem fn_truthy {x : Addr} {o : Obj} {Q : Bool → Shared → Prop} (hx : h.get? x = some o) (hc : o.cls = .type "function") (hq : Q true ⟨h, g, d, t, os⟩) : wpAny (model PR w) A (truthy (.ref x)) Q E ⟨h, g, d, t, os⟩ := by
  have hT : (⟨h, g, d, t, os⟩ : Shared).TypeIs (.ref x) "function" := ⟨o, hx, hc⟩
  unfold truthy callSpecial?
  dsimp only
  refine wpAny_bind (wpAny_bind (wpAny_specialOf hT fn_bool (wpAny_pure ?_)))
  refine wpAny_bind (wpAny_specialOf hT fn_len ?_)
  exact wpAny_pure hq
theorem fn_slot_ga : Slot "function" "__getattribute__" "object.__getattribute__" :=
  .of (owner := "object") (n := "__getattribute__") (by rw [typeLookup_type, builtinLookup_eq_fast]; kernel_rfl) (by decide +kernel) (by decide +kernel) (by decide +kernel)
    (by first | exact .inl (by decide +kernel) | exact .inr (by decide +kernel)) (by rw [isSubtype_type]; kernel_rfl)
theorem fn_entry_ga : entryFor table "object.__getattribute__" = some Builtin.«object.__getattribute__» := entryFor_of_tree (by kernel_rfl)
theorem fn_args_ga (a b : Value) : argsOk "object.__getattribute__" ⟨[a, b], []⟩ := by unfold argsOk; kernel_rfl
theorem fn_load_entry {x dx : Addr} {o : Obj} {name : Str} {v : Value} {tk : Tok} {mA : Str → Option Value} {Q : Fin → Shared → Prop} (hx : h.get? x = some o) (hc : o.cls = .type "function") (hnc : ∀ c, o.data ≠ .cls c) (hdx : o.dict = some dx) (hns : h.Ns dx mA) (hv : mA name = some v)
    (hB : typeLookup (.type "function") name = pure none) (hq : Q (.done (.ret v)) ⟨h, g, d, t, os⟩) : wpAny (model PR w) A (Builtin.«object.__getattribute__» ⟨[.ref x, .str name tk], []⟩) Q E ⟨h, g, d, t, os⟩ := by
  unfold Builtin.«object.__getattribute__»
  repeat (first | (with_reducible refine wpAny_loadPart_at hx ?_; rw [hc]) | wp_step)
  split
  · rename_i c hcd
    exact absurd hcd (hnc c)
  unfold instanceDict
  repeat (first | (with_reducible refine wpAny_loadPart_at hx ?_; rw [hc]) | wp_step)
  rw [hdx]
  refine wpAny_pure ?_
  show wpAny _ _ (nsGet dx name) _ _ _
  refine wpAny_nsGet hns ?_
  rw [hv]
  exact wpAny_bind (wpAny_rule (wpAny_pure (wpAny_pure hq)))
theorem fn_getAttr {x dx : Addr} {o : Obj} {name : Str} {v : Value} {mA : Str → Option Value} {Q : Value → Shared → Prop} {ex : Bool} (hx : h.get? x = some o) (hc : o.cls = .type "function") (hnc : ∀ c, o.data ≠ .cls c) (hdx : o.dict = some dx) (hns : h.Ns dx mA) (hv : mA name = some v)
    (hB : typeLookup (.type "function") name = pure none) (hh : handedOut v = pure v) (hq : Q v ⟨h, g, d, t + 1, os⟩) : wpAny (model PR w) A (getAttr (.ref x) name ex) Q E ⟨h, g, d, t, os⟩ := by
  have f4 := fn_ga
  unfold getAttr getAttrBy getAttrByItsOwn callGetattribute
  repeat (first | (with_reducible refine wpAny_loadPart_at hx ?_; rw [hc]) | wp_step)
  rw [show (ex && onTheHeap (.builtin "object.__getattribute__")) = false from Bool.and_false _]
  simp only [Bool.false_eq_true, if_false]
  unfold boundAndCalled
  rw [fn_slot_ga.bind (.ref x)]
  refine wpAny_bind (wpAny_pure ?_)
  refine wpAny_call (codeAny_call_builtin fn_slot_ga.plain fn_entry_ga (fn_slot_ga.check _ _ _ _ _ _ _ _ ⟨o, hx, hc⟩ (fn_args_ga _ _) (fn_load_entry hx hc hnc hdx hns hv hB ?_)))
  show wpAny _ _ (handedOut v) _ _ _
  rw [hh]
  exact wpAny_pure hq
theorem fn_getMethod {x dx : Addr} {o : Obj} {name : Str} {v : Value} {pl : Sem Bool} {mA : Str → Option Value} {Q : Value × List Value → Shared → Prop} (hx : h.get? x = some o) (hc : o.cls = .type "function") (hnc : ∀ c, o.data ≠ .cls c) (hdx : o.dict = some dx) (hns : h.Ns dx mA) (hv : mA name = some v)
    (hB : typeLookup (.type "function") name = pure none) (hh : handedOut v = pure v) (hq : Q (v, []) ⟨h, g, d, t + 1, os⟩) : wpAny (model PR w) A (getMethod (.ref x) name pl) Q E ⟨h, g, d, t, os⟩ := by
  have hT : (⟨h, g, d, t, os⟩ : Shared).TypeIs (.ref x) "function" := ⟨o, hx, hc⟩
  unfold getMethod
  refine wpAny_bind (wpAny_specialOf hT fn_ga ?_)
  show wpAny _ _ (if (Manifest.canonical "object.__getattribute__" != "object.__getattribute__") = true then _ else _) _ _ _
  rw [PySem.F.canon_object_ga, if_neg Bool.false_ne_true]
  refine wpAny_bind (wpAny_specialOf hT fn_gattr ?_)
  refine wpAny_bind (wpAny_specialOf hT hB ?_)
  refine wpAny_bind (fn_getAttr hx hc hnc hdx hns hv hB hh (wpAny_pure hq))
end
end Mine

end
section
open PySem PySem.W PyProof.Rows PySem.Calls PySem.Spec
set_option Elab.async false
set_option maxRecDepth 100000
set_option autoImplicit false
set_option linter.unusedVariables false
namespace Mine
/-- a table of codes, as it is -/
def Tb (ps : Array Value) (o : Obj) : Prop := o = tabObj ps
def Is (x : Obj) (o : Obj) : Prop := o = x
abbrev fnd (name qual : Str) (params : Arguments) (body : FuncBody) (scope : Scope) (clos : List (Str × Addr)) (dV pm cd ctv : Value) : FuncData :=
  { name, qualname := qual, params, body, scope, globals := mainGlobals, closure := clos, defaults := dV, kwdefaults := .none, doc := .none, pyModule := pm, annotations := none, code := cd, closureTuple := ctv, builtins := builtinsNs }
abbrev fno (fd : FuncData) : Obj := { cls := .type "function", data := .func fd }
theorem codeHd_is {h : Heap} {c P : Addr} (x : CodeHd h c P) {g : Heap} (k : ∀ o, h.get? c = some o → g.get? c = some o) : CodeHd g c P :=
  let ⟨o, vs, file, tf, flags, tg, inF, text, tt, e, r⟩ := x; ⟨o, vs, file, tf, flags, tg, inF, text, tt, k _ e, r⟩
section
variable {w : World} {A : Around} {E : Value → Shared → Prop} {s₀ s : Shared} {g : Heap} {mu : Mu} {env : Env} {c P : Addr} {ps : Array Value} {pos : Pos} {firstLine : Nat} {name qual : Str} {params : Arguments} {scope : Scope} {body : FuncBody}
/-- a code that the table has not: it is made, with a table of its own -/
theorem mk_code (hc : env.code = .ref c) (C : CodeHd g c P) (F : Fx s₀ g ((P, Tb ps) :: mu) s) (ht : TriplesOk ps.toList) (hnf : codeAmong pos ps.toList = none) {Q : Value → Shared → Prop}
    (h : ∀ c' P' g' s', Le g g' → g'.CodeRec (.ref c') qual → CodeHd g' c' P' → Fx s₀ g' ((P', Tb #[]) :: (P, Tb (ps ++ #[rawInt pos.line, rawInt pos.col, .ref c'])) :: mu) s' → Q (.ref c') s') :
    Wp w A (functionCode env pos firstLine name qual params scope body) Q E s := by
  obtain ⟨o, ho, hP⟩ := F.get (.head _)
  subst hP
  have C' := C.keeps F.le
  refine ⟨wpAny_functionCodeX hc (C'.code ho ht) (C'.tab ho) hnf fun c' h' tk hx hge hlt _ hrec htb hown => ?_⟩
  obtain ⟨P', hgeP, hic, hit⟩ := hown
  have C2 := CodeHd.of hic hit
  have hPn := (F.tu _ (.head _)).1
  have ndP := (List.nodup_cons.mp F.nd).1
  have hPs := Heap.lt_size ho
  have F1 : Fx s₀ g ((P, Tb (ps ++ #[rawInt pos.line, rawInt pos.col, .ref c'])) :: mu) { s with heap := h', toks := tk } := by
    refine ⟨fun b o' e => hx b o' (fun q => by rw [q, hPn] at e; cases e) (F.le b o' e), fun p hp => ?_, F.nd, F.sim⟩
    rcases List.mem_cons.mp hp with rfl | hp
    · exact ⟨hPn, _, htb.2, rfl⟩
    · obtain ⟨h1, o', h2, h3⟩ := F.tu p (.tail _ hp)
      exact ⟨h1, o', hx _ _ (fun q => ndP (List.mem_map.mpr ⟨p, hp, q⟩)) h2, h3⟩
  have old : ∀ p ∈ ((P, Tb (ps ++ #[rawInt pos.line, rawInt pos.col, .ref c'])) :: mu), p.1 < s.heap.objs.size := fun p hp => by
    rcases List.mem_cons.mp hp with rfl | hp
    · exact hPs
    · obtain ⟨_, o', h2, _⟩ := F.tu p (.tail _ hp); exact Heap.lt_size h2
  have F2 : Fx s₀ g ((P', Tb #[]) :: (P, Tb (ps ++ #[rawInt pos.line, rawInt pos.col, .ref c'])) :: mu) { s with heap := h', toks := tk } := by
    refine ⟨F1.le, fun p hp => ?_, List.nodup_cons.mpr ⟨fun q => ?_, F1.nd⟩, F1.sim⟩
    · rcases List.mem_cons.mp hp with rfl | hp
      · refine ⟨?_, _, hit.2, rfl⟩
        cases q : g.get? P' with
        | none => rfl
        | some o' => exact absurd (Heap.lt_size (F.le _ _ q)) (Nat.not_lt.mpr hgeP)
      · exact F1.tu p hp
    · obtain ⟨p, hp, e⟩ := List.mem_map.mp q
      exact absurd (old p hp) (by rw [e]; exact Nat.not_lt.mpr hgeP)
  obtain ⟨g', l, F3, st⟩ := F2.still
  have hcP : c' ≠ P' := by obtain ⟨_, _, _, _, _, _, _, _, _, _, _, _, _, _, _, _, _, _, hne⟩ := C2; exact hne
  have hc' : ∀ o', h'.get? c' = some o' → g'.get? c' = some o' := fun o' e => st _ _ e fun q => by
    obtain ⟨p, hp, e⟩ := List.mem_map.mp q
    rcases List.mem_cons.mp hp with rfl | hp
    · exact hcP e.symm
    · exact absurd (old p hp) (by rw [e]; exact Nat.not_lt.mpr hge)
  refine h c' P' g' _ l ?_ (codeHd_is C2 hc') F3
  obtain ⟨c2, oc, vs, t, e2, hoc, hd, hv⟩ := hrec
  cases e2
  exact ⟨c', oc, vs, t, rfl, hc' _ hoc, hd, hv⟩
theorem hit_code {cv : Value} (hc : env.code = .ref c) (C : CodeHd g c P) (F : Fx s₀ g mu s) (hm : (P, Tb ps) ∈ mu) (ht : TriplesOk ps.toList) (hf : codeAmong pos ps.toList = some cv) {Q : Value → Shared → Prop}
    (h : Q cv s) : Wp w A (functionCode env pos firstLine name qual params scope body) Q E s := by
  obtain ⟨o, ho, hP⟩ := F.get hm
  subst hP
  exact ⟨wpAny_functionCode_hit hc ((C.keeps F.le).code ho ht) hf h⟩
/-- a function is made, its code by `h` -/
theorem mk_tail {clos : List (Str × Addr)} {dV : Value} {Q : Value → Shared → Prop} (G : Gd w g) (F : Fx s₀ g mu s) (hcl : closureFor scope env = pure clos) (hge0 : env.globals = mainGlobals)
    (hdoc : (match body with | .stmts b => docOf b | .expr _ => none) = none)
    (h : ∀ ctv g₁ s₁, Le g g₁ → Fx s₀ g₁ mu s₁ → Wp w A (functionCode env pos firstLine name qual params scope body) (fun cv s₂ => ∃ g₂ mu₂, Le g₁ g₂ ∧ Fx s₀ g₂ mu₂ s₂ ∧
      ∀ pm f s₃, Fx s₀ g₂ ((f, Is (fno (fnd name qual params body scope clos dV pm cv ctv))) :: mu₂) s₃ → Q (.ref f) s₃) E s₁) :
    Wp w A (makeTail name qual params body scope env dV .none none pos firstLine) Q E s := by
  obtain ⟨_, mg, _, T⟩ := G.T
  obtain ⟨bm, ob, hbm, hne0, hbo, hcls, hdict, hdata⟩ := T.bmain
  have rest : ∀ (dcs : Sem Value), dcs = pure Value.none → ∀ ctv g₁ s₁, Le g g₁ → Fx s₀ g₁ mu s₁ → wpAny (model PR w) A (do
      let cd ← functionCode env pos firstLine name qual params scope body
      let bi ← builtinsFor mainGlobals env.builtins
      let nm ← nsGet mainGlobals "__name__"
      let dc ← dcs
      newObj (.type "function") (.func { name, qualname := qual, params, body, scope, globals := mainGlobals, closure := clos, closureTuple := ctv, code := cd, builtins := bi, defaults := dV, kwdefaults := .none, annotations := none, pyModule := nm.getD .none, doc := dc })) Q E s₁ := by
    intro dcs hdcs ctv g₁ s₁ l F₁
    refine wpAny_bind (wpAny_mono (h ctv g₁ s₁ l F₁).out (fun cv s₂ h₂ => ?_) fun _ _ e => e)
    obtain ⟨g₂, mu₂, l2, F₂, k⟩ := h₂
    have hk : Le g s₂.heap := (l.trans l2).trans F₂.le
    refine wpAny_bind (wpAny_builtinsFor (T.g.keeps hk) hbm hne0 (hk _ _ hbo) hcls hdict hdata ?_)
    refine wpAny_bind (wpAny_nsGet (T.g.keeps hk) ?_)
    rw [hdcs]
    refine wpAny_bind (wpAny_pure (wpAny_newObj_type ?_ (by size_fits)))
    exact k _ _ _ (F₂.alloc (P := Is _) _ rfl)
  have tuple : ∀ (q : Str × Addr) (r : List (Str × Addr)), ∃ g', Le g g' ∧ Fx s₀ g' mu { s with heap := s.heap.push { cls := .type "tuple", data := .seq (List.map (fun x => Value.ref x.2) ((q :: r).mergeSort fun a b => a.1.cps.toList ≤ b.1.cps.toList)).toArray } } := fun q r => by
    obtain ⟨g', l, _, F'⟩ := F.allocF { cls := .type "tuple", data := .seq (List.map (fun x => Value.ref x.2) ((q :: r).mergeSort fun a b => a.1.cps.toList ≤ b.1.cps.toList)).toArray }
    exact ⟨g', l, F'⟩
  refine ⟨?_⟩
  unfold makeTail
  rw [hcl, hge0]
  refine wpAny_bind (wpAny_pure ?_)
  cases body with
  | stmts b =>
    have hd : docOf b = none := hdoc
    dsimp only
    rw [hd]
    cases clos with
    | nil =>
      simp only [List.isEmpty_nil, if_true]
      exact wpAny_bind (wpAny_pure (rest _ rfl _ g s (Le.refl _) F))
    | cons q r =>
      simp only [List.isEmpty_cons, Bool.false_eq_true, if_false]
      refine wpAny_bind (wpAny_newTextTuple ?_)
      obtain ⟨g', l, F'⟩ := tuple q r
      exact rest _ rfl _ g' _ l F'
  | expr b =>
    dsimp only
    cases clos with
    | nil =>
      simp only [List.isEmpty_nil, if_true]
      exact wpAny_bind (wpAny_pure (rest _ rfl _ g s (Le.refl _) F))
    | cons q r =>
      simp only [List.isEmpty_cons, Bool.false_eq_true, if_false]
      refine wpAny_bind (wpAny_newTextTuple ?_)
      obtain ⟨g', l, F'⟩ := tuple q r
      exact rest _ rfl _ g' _ l F'
end
end Mine

end
section
open PySem PySem.W PyProof.Rows PySem.Calls PySem.Spec
set_option Elab.async false
set_option maxRecDepth 100000
set_option autoImplicit false
set_option linter.unusedVariables false
namespace Mine
section
variable {w : World} {A : Around} {E : Value → Shared → Prop} {s₀ s : Shared} {g : Heap} {mu : Mu} {env : Env} {pos : Pos} {firstLine : Nat} {name qual : Str} {params : Arguments} {scope : Scope} {body : FuncBody} {rest : List Stmt}
theorem mk_fun0 {Q : Value → Shared → Prop} (h : Wp w A (makeTail name qual params body scope env .none .none none pos firstLine) Q E s) : Wp w A (makeFunction name qual params body scope env [] [] [] pos firstLine) Q E s := by
  refine ⟨?_⟩
  rw [makeFunction_eq]
  simp only [List.zip_nil_right, List.filterMap_nil, List.isEmpty_nil, if_true, pure_bind]
  exact h.out
theorem mk_fun1 {v : Value} {Q : Value → Shared → Prop} (F : Fx s₀ g mu s) (h : ∀ t g' s', Le g g' → g'.get? t = some { cls := .type "tuple", data := .seq #[v] } → Fx s₀ g' mu s' → Wp w A (makeTail name qual params body scope env (.ref t) .none none pos firstLine) Q E s') :
    Wp w A (makeFunction name qual params body scope env [v] [] [] pos firstLine) Q E s := by
  refine ⟨?_⟩
  rw [makeFunction_eq]
  simp only [List.zip_nil_right, List.filterMap_nil, List.isEmpty_nil, List.isEmpty_cons, if_true, pure_bind, Bool.false_eq_true, if_false]
  refine wpAny_bind (wpAny_newTextTuple ?_)
  obtain ⟨g', l, e, F'⟩ := F.allocF { cls := .type "tuple", data := .seq [v].toArray }
  exact (h _ g' _ l e F').out
theorem ev_lam {body : Expr} {Q : Value → Shared → Prop} (h : Wp w A (makeTail "<lambda>" (env.qual ++ "<lambda>") params (.expr body) scope env .none .none none pos pos.line) Q E s) (hdef : defaultsOf params env = ([], []) := by rfl) : Wp w A (eval (.Lambda params body scope pos) env) Q E s :=
  ⟨kla_eval hdef (mk_fun0 h).out⟩
theorem ex_def1 {body : List Stmt} {d : Expr} {Q : Flow → Shared → Prop} (hd : params.defaults = [d]) (hk0 : params.kw_defaults = []) (ha : annTrees params none env = [])
    (h : Wp w A (eval d env) (fun v s₁ => Wp w A (makeFunction name (qualnameIn env name name) params (.stmts body) scope env [v] [] [] pos pos.line) (fun v s' => Wp w A (storeName env name v) (fun _ s'' => Wp w A (execs rest env) Q E s'') E s') E s₁) E s) :
    Wp w A (execs (.FunctionDef name params body [] none [] scope none name pos :: rest) env) Q E s := by
  refine ⟨wpAny_execs_cons (kdv_def (by rw [hd]; rfl) hk0 ha ?_)⟩
  rw [hd]
  exact kdv_all1 (wpAny_mono h.out (fun v s₁ h₁ => kdv_all0 (wpAny_mono h₁.out (fun v s' h' => wpAny_mono h'.out (fun _ _ h'' => h''.out) fun _ _ e => e) fun _ _ e => e)) fun _ _ e => e)
theorem ex_setattr {o : Expr} {attr : Str} {pos' : Pos} {value : Expr} {Q : Flow → Shared → Prop} (h : Wp w A (eval value env) (fun v s₁ => Wp w A (eval o env) (fun ov s₂ => Wp w A (setAttr ov attr v) (fun _ s₃ => Wp w A (execs rest env) Q E s₃) E s₂) E s₁) E s)
    (hs : swapsWith value (some (.Attribute o attr pos')) pos.line env = pure false := by rfl) : Wp w A (execs (.Assign [.Attribute o attr pos'] value pos :: rest) env) Q E s :=
  ⟨wpAny_execs_cons (plainObj_wpAny_Assign_Attribute (wpAny_mono h.out (fun _ _ h => wpAny_mono h.out (fun _ _ h => wpAny_mono h.out (fun _ _ h => h.out) fun _ _ e => e) fun _ _ e => e) fun _ _ e => e) hs)⟩
/-- a function with one named value, still -/
def FnWith (g : Heap) (f : Addr) (name : Str) (v : Value) : Prop := ∃ o d, g.get? f = some o ∧ o.cls = .type "function" ∧ (∀ c, o.data ≠ .cls c) ∧ o.dict = some d ∧ g.Ns d (fun y => if y = name then some v else none)
theorem FnWith.up {g g' : Heap} {f : Addr} {name : Str} {v : Value} (l : Le g g') (x : FnWith g f name v) : FnWith g' f name v :=
  let ⟨o, d, h1, h2, h3, h4, h5⟩ := x; ⟨o, d, l _ _ h1, h2, h3, h4, h5.keeps l⟩
theorem st_attr {f : Addr} {fd : FuncData} {attr : Str} {v : Value} {Q : Unit → Shared → Prop} (F : Fx s₀ g ((f, Is (fno fd)) :: mu) s) (hB : typeLookup (.type "function") attr = pure none)
    (h : ∀ g' s', Le g g' → FnWith g' f attr v → Fx s₀ g' mu s' → Q () s') : Wp w A (setAttr (.ref f) attr v) Q E s := by
  obtain ⟨o, ho, hP⟩ := F.get (.head _)
  subst hP
  have hg := (F.tu _ (.head _)).1
  have nd := (List.nodup_cons.mp F.nd).1
  obtain ⟨hp, gn, dr, tk, os⟩ := s
  refine ⟨fn_setattr ho rfl (fun c q => nomatch q) rfl hB fun h' tk' h1 h2 h3 => ?_⟩
  have F' : Fx s₀ g mu ⟨h', gn, dr, tk', os⟩ := by
    refine ⟨fun b o' e => h3 b o' (fun q => by rw [q, hg] at e; cases e) (F.le b o' e), fun p hp => ?_, F.drop.nd, F.sim⟩
    obtain ⟨k1, o', k2, k3⟩ := F.tu p (.tail _ hp)
    exact ⟨k1, o', h3 _ _ (fun q => nd (List.mem_map.mpr ⟨p, hp, q⟩)) k2, k3⟩
  obtain ⟨g', l, F2, st⟩ := F'.still
  obtain ⟨oD, es, ep, hoD, r⟩ := h2.ns
  refine h g' _ l ⟨_, hp.objs.size, st _ _ h1 nd, rfl, (fun c q => nomatch q), rfl, ⟨oD, es, ep, st _ _ hoD fun q => ?_, r⟩⟩ F2
  obtain ⟨p, hp', e⟩ := List.mem_map.mp q
  obtain ⟨_, o', k2, _⟩ := F.tu p (.tail _ hp')
  exact absurd (Heap.lt_size k2) (by rw [e]; exact Nat.lt_irrefl _)
theorem gm_fn {f : Addr} {attr : Str} {v : Value} {pl : Sem Bool} {Q : Value × List Value → Shared → Prop} (F : Fx s₀ g mu s) (x : FnWith g f attr v) (hB : typeLookup (.type "function") attr = pure none) (hh : handedOut v = pure v)
    (h : ∀ s', Fx s₀ g mu s' → Q (v, []) s') : Wp w A (getMethod (.ref f) attr pl) Q E s := by
  obtain ⟨o, d, h1, h2, h3, h4, h5⟩ := x.up F.le
  obtain ⟨hp, gn, dr, tk, os⟩ := s
  exact ⟨fn_getMethod h1 h2 h3 h4 h5 (by simp) hB hh (h _ (F.tok _))⟩
theorem fn_true {f : Addr} {attr : Str} {v : Value} {Q : Bool → Shared → Prop} (F : Fx s₀ g mu s) (x : FnWith g f attr v) (h : Q true s) : Wp w A (truthy (.ref f)) Q E s := by
  obtain ⟨o, d, h1, h2, _⟩ := x.up F.le
  obtain ⟨hp, gn, dr, tk, os⟩ := s
  exact ⟨fn_truthy h1 h2 h⟩
theorem cw_fn0 {q : Addr} {fd : FuncData} {first : List Value} {Q : Value → Shared → Prop} (F : Fx s₀ g mu s) (ho : g.get? q = some (fno fd)) (h : Wp w A (call (.ref q) (first ++ [])) Q E s) : Wp w A (callWith pos (.ref q) first (backTo pos (starEach [] env)) []) Q E s :=
  ⟨callWith_F0 ⟨_, _, _, _, F.le _ _ ho⟩ h.out⟩
theorem cw_fn {q : Addr} {fd : FuncData} {first : List Value} {e : Expr} {es : List Expr} {Q : Value → Shared → Prop} (F : Fx s₀ g mu s) (ho : g.get? q = some (fno fd))
    (h : Wp w A (spliced (backTo pos (starEach (e :: es) env))) (fun vs s₁ => (∃ g' mu', Le g g' ∧ Fx s₀ g' mu' s₁) ∧ Wp w A (call (.ref q) (first ++ vs)) Q E s₁) E s)
    (hst : starEach (e :: es) env = (false, eval e env) :: starEach es env := by rfl) (hst2 : ((backTo pos (starEach es env)).any fun x => x.1) = false := by rfl) : Wp w A (callWith pos (.ref q) first (backTo pos (starEach (e :: es) env)) []) Q E s :=
  ⟨callWith_F ⟨_, _, _, _, F.le _ _ ho⟩ (wpAny_mono h.out (fun vs s₁ h₁ => ⟨let ⟨_, _, l, F'⟩ := h₁.1; ⟨_, _, _, _, F'.le _ _ (l _ _ ho)⟩, h₁.2.out⟩) fun _ _ e => e) hst hst2⟩
theorem callxE {f : Addr} {fd : FuncData} {fo : Obj} {body : Expr} {vs : List Value} {binds : List (Str × Value)} {k : Nat} {Q : Value → Shared → Prop} (G : Gd w g) (R : Rm A (k + 1)) (F : Fx s₀ g mu s)
    (ho : g.get? f = some fo) (hd : fo.data = .func fd) (hcd : g.CodeRec fd.code fd.qualname) (hbody : fd.body = .expr body) (hbind : BindsTo s fd ⟨vs, []⟩ binds)
    (hco : fd.scope.isCoroutine = false) (hgen : fd.scope.isGenerator = false)
    (h : ∀ L s' E', Rm (A.deeper (envF fd L f)) k → Fx s₀ g (cellMu (L + 1) fd.scope.names ++ (L, Loc []) :: mu) s' →
      StAll w A.in1 (envF fd L f) binds (fun s'' => (∃ mu', Fx s₀ g mu' s'') ∧ ∀ E', Wp w (A.deeper (envF fd L f)) (eval body (envF fd L f)) Q E' s'') E' s') :
    Wp w A (call (.ref f) vs) Q E s := by
  obtain ⟨_, _, _, T⟩ := G.T
  refine ⟨wpAny_call (kla_callFunE (by have := R.deep; omega) (F.le _ _ ho) hd hco hgen hbody (hcd.keeps F.le) (hbind _ _ _ _ (new_env F fun L s' F' => ?_)))⟩
  refine StAll.mono (fun s'' hk => ?_) (h L s' _ (R.deeper _) F')
  obtain ⟨⟨mu', F2⟩, k2⟩ := hk
  exact ⟨T.nolimit.keeps F2.le, kla_codeExpr (k2 _).out⟩
/-- a pair laid into two cells -/
theorem as_cells {x y : Str} {p q pos : Pos} {k : Nat} {t c1 c2 : Addr} {v u : Value} {P1 P2 : Obj → Prop} {Q : Unit → Shared → Prop} (hh : A.handled = none) (F : Fx s₀ g ((c1, P1) :: (c2, P2) :: mu) s) (ht : g.IsTuple t #[v, u]) (h1 : ∀ o, P1 o → CelX o) (h2 : ∀ o, P2 o → CelX o)
    (h : ∀ s', Fx s₀ g ((c1, Cel v) :: (c2, Cel u) :: mu) s' → Q () s')
    (hcx : env.cells.lookup x = some c1) (hcy : env.cells.lookup y = some c2) (hk : env.scope.kind = .function := by rfl) (hx : env.kindOf x = some .cell := by rfl) (hy : env.kindOf y = some .cell := by rfl) :
    Wp w A (assign (.Tuple [.Name x p, .Name y q] k pos) env (.ref t)) Q E s := by
  refine ⟨wpAny_assign_Tuple hh (tup_up F.le ht) rfl rfl fun h' hs => ?_⟩
  have F' := F.ext s.toks hs
  show wpAny _ _ (do holding [u] (assign (.Name x p) env v); do holding [] (assign (.Name y q) env u); pure ()) Q E _
  refine wpAny_bind (wpAny_holding (wpAny_assign_Name (stoc (w := w) (pre := []) (post := (c2, P2) :: mu) F' hcx rfl h1 (fun s₁ F₁ => ?_) hk hx).out))
  exact wpAny_bind (wpAny_holding (wpAny_assign_Name (stoc (w := w) (pre := [(c1, Cel v)]) (post := mu) F₁ hcy rfl h2 (fun s₂ F₂ => wpAny_pure (h _ F₂)) hk hy).out))
end
end Mine

end
section
open PySem PySem.W PyProof.Rows PySem.Calls PySem.Spec
set_option Elab.async false
set_option maxRecDepth 100000
set_option autoImplicit false
set_option maxHeartbeats 1000000
set_option linter.unusedVariables false
namespace Mine
theorem fillP : (PySem.Challenge.rw_mq0069_01 = PySem.Challenge.rw_mq0069_01) ∧ (hd.heap_39 = hd.heap_39) := by k_fill; exact ⟨rfl, rfl⟩
/-- a table whose codes all bear one name -/
def OkT (q : Str) (g : Heap) (ps : Array Value) : Prop := TriplesOk ps.toList ∧ ∀ pos cv, codeAmong pos ps.toList = some cv → g.CodeRec cv q
theorem OkT.up {q : Str} {g g' : Heap} {ps : Array Value} (l : Le g g') (x : OkT q g ps) : OkT q g' ps := ⟨x.1, fun pos cv h => (x.2 pos cv h).keeps l⟩
theorem OkT.nil {q : Str} {g : Heap} : OkT q g #[] := ⟨trivial, fun pos cv h => nomatch h⟩
theorem triples_snoc (a b : Int) (t u : Tok) (c : Value) : ∀ l : List Value, TriplesOk l → TriplesOk (l ++ [.int a t, .int b u, c]) := fun l h => by
  fun_induction TriplesOk l with
  | case1 => exact trivial
  | case2 x t' y u' z rest ih => exact ih h
  | case3 => exact h.elim
theorem among_snoc {pos : Pos} {a b : Int} {t u : Tok} {c cv : Value} : ∀ l : List Value, TriplesOk l → codeAmong pos (l ++ [.int a t, .int b u, c]) = some cv → codeAmong pos l = some cv ∨ cv = c := fun l h e => by
  fun_induction TriplesOk l with
  | case1 =>
    simp only [List.nil_append, codeAmong] at e
    split at e
    · cases e; exact .inr rfl
    · cases e
  | case2 x t' y u' z rest ih =>
    simp only [List.cons_append, codeAmong] at e ⊢
    split at e
    · rename_i h1; rw [if_pos h1]; exact .inl e
    · rename_i h1; rw [if_neg h1]; exact ih h e
  | case3 => exact h.elim
section
variable {w : World} {A : Around} {E : Value → Shared → Prop} {s₀ s : Shared} {g : Heap} {mu : Mu} {env : Env} {c P : Addr} {ps : Array Value} {pos : Pos} {firstLine : Nat} {name qual : Str} {params : Arguments} {scope : Scope} {body : FuncBody}
theorem get_code (hc : env.code = .ref c) (C : CodeHd g c P) (F : Fx s₀ g ((P, Tb ps) :: mu) s) (ok : OkT qual g ps) {Q : Value → Shared → Prop}
    (h : ∀ cv ps' g' s', Le g g' → g'.CodeRec cv qual → OkT qual g' ps' → Fx s₀ g' ((P, Tb ps') :: mu) s' → Q cv s') : Wp w A (functionCode env pos firstLine name qual params scope body) Q E s := by
  cases hf : codeAmong pos ps.toList with
  | some cv => exact hit_code hc C F (.head _) ok.1 hf (h cv ps g s (Le.refl _) (ok.2 _ _ hf) ok F)
  | none =>
    refine mk_code hc C F ok.1 hf fun c' P' g' s' l hr _ F' => h (.ref c') _ g' s' l hr ⟨?_, fun pos' cv e => ?_⟩ F'.drop
    · rw [Array.toList_append]; exact triples_snoc _ _ _ _ _ _ ok.1
    · rw [Array.toList_append] at e
      rcases among_snoc _ ok.1 e with e | rfl
      · exact (ok.2 _ _ e).keeps l
      · exact hr
end
abbrev qS : Str := (Str.ofString "_law_program" ++ ".<locals>.") ++ Str.ofString "search"
abbrev qL : Str := (Str.ofString "_law_program" ++ ".<locals>.") ++ "<lambda>"
abbrev qSL : Str := (qS ++ ".<locals>.") ++ "<lambda>"
/-- the tables of codes, while `search` alone is made -/
def TB (g : Heap) (c1 P1 : Addr) (tm : Mu) : Prop := tm = [(65, Tb #[rawInt (51 : Nat), rawInt (4 : Nat), .ref c1]), (P1, Tb #[])] ∧ g.CodeRec (.ref c1) qS ∧ CodeHd g c1 P1
/-- and when both are -/
def TC (g : Heap) (c1 P1 : Addr) (tm : Mu) : Prop := ∃ c2 ps1, tm = [(65, Tb #[rawInt (51 : Nat), rawInt (4 : Nat), .ref c1, rawInt (58 : Nat), rawInt (11 : Nat), c2]), (P1, Tb ps1)] ∧ g.CodeRec (.ref c1) qS ∧ CodeHd g c1 P1 ∧ g.CodeRec c2 qL ∧ OkT qSL g ps1
def TM (g : Heap) (c1 P1 : Addr) (tm : Mu) : Prop := TB g c1 P1 tm ∨ TC g c1 P1 tm
def TS (g : Heap) (tm : Mu) : Prop := tm = [(65, Tb #[])] ∨ ∃ c1 P1, TC g c1 P1 tm
theorem TC.up {g g' : Heap} {c1 P1 : Addr} {tm : Mu} (l : Le g g') (x : TC g c1 P1 tm) : TC g' c1 P1 tm := let ⟨c2, ps1, h1, h2, h3, h4, h5⟩ := x; ⟨c2, ps1, h1, h2.keeps l, h3.keeps l, h4.keeps l, h5.up l⟩
theorem TM.up {g g' : Heap} {c1 P1 : Addr} {tm : Mu} (l : Le g g') (x : TM g c1 P1 tm) : TM g' c1 P1 tm := x.elim (fun ⟨h1, h2, h3⟩ => .inl ⟨h1, h2.keeps l, h3.keeps l⟩) fun h => .inr (h.up l)
theorem TS.up {g g' : Heap} {tm : Mu} (l : Le g g') (x : TS g tm) : TS g' tm := x.elim .inl fun ⟨c1, P1, h⟩ => .inr ⟨c1, P1, h.up l⟩
section
variable {w : World} {A : Around} {E : Value → Shared → Prop} {s₀ s : Shared} {g : Heap} {mu tm : Mu} {env : Env} {firstLine : Nat} {name : Str} {params : Arguments} {scope : Scope} {body : FuncBody} {a b : Nat}
theorem code_s (hc : env.code = .ref 67) (C : CodeHd g 67 65) (T : TS g tm) (F : Fx s₀ g (tm ++ mu) s) :
    Wp w A (functionCode env ⟨51, 4, a, b⟩ firstLine name qS params scope body) (fun cv s' => ∃ c1 P1 tm1 g', cv = .ref c1 ∧ Le g g' ∧ TM g' c1 P1 tm1 ∧ Fx s₀ g' (tm1 ++ mu) s') E s := by
  rcases T with rfl | ⟨c1, P1, c2, ps1, rfl, h2, h3, h4, h5⟩
  · exact mk_code hc C F trivial rfl fun c' P' g' s' l hr hh F' => ⟨c', P', _, g', rfl, l, .inl ⟨rfl, hr, hh⟩, F'.swap⟩
  · exact hit_code hc C F (.head _) trivial rfl ⟨c1, P1, _, g, rfl, Le.refl _, .inr ⟨c2, ps1, rfl, h2, h3, h4, h5⟩, F⟩
theorem code_p {c1 P1 : Addr} (hc : env.code = .ref 67) (C : CodeHd g 67 65) (T : TM g c1 P1 tm) (F : Fx s₀ g (tm ++ mu) s) :
    Wp w A (functionCode env ⟨58, 11, a, b⟩ firstLine name qL params scope body) (fun cv s' => ∃ tm1 g', Le g g' ∧ g'.CodeRec cv qL ∧ TC g' c1 P1 tm1 ∧ Fx s₀ g' (tm1 ++ mu) s') E s := by
  rcases T with ⟨rfl, h2, h3⟩ | ⟨c2, ps1, rfl, h2, h3, h4, h5⟩
  · exact mk_code hc C F trivial rfl fun c' P' g' s' l hr hh F' => ⟨_, g', l, hr, ⟨.ref c', #[], rfl, h2.keeps l, h3.keeps l, hr, .nil⟩, F'.drop⟩
  · exact hit_code hc C F (.head _) trivial rfl ⟨_, g, Le.refl _, h4, ⟨c2, ps1, rfl, h2, h3, h4, h5⟩, F⟩
end
/-- a match: what its span gives -/
def IsHit (w : World) (g : Heap) (v : Value) (p : Nat × Nat) : Prop := ∃ f m fm, v = .ref f ∧ FnWith g f (Str.ofString "span") (.ref m) ∧ g.get? m = some (fno fm) ∧
  ∀ (A : Around) (s₀ s : Shared) (g' : Heap) (mu : Mu) (Q E : Value → Shared → Prop), Gd w g' → Rm A 2 → Le g g' → Fx s₀ g' mu s → (∀ r s' g'', Le g' g'' → Fx s₀ g'' mu s' → Rd g'' r (spanD p) → Q r s') → Wp w A (call (.ref m) []) Q E s
theorem IsHit.up {w : World} {g g' : Heap} {v : Value} {p : Nat × Nat} (l : Le g g') (x : IsHit w g v p) : IsHit w g' v p :=
  let ⟨f, m, fm, h1, h2, h3, h4⟩ := x; ⟨f, m, fm, h1, h2.up l, l _ _ h3, fun A s₀ s g'' mu Q E G R l' F k => h4 A s₀ s g'' mu Q E G R (l.trans l') F k⟩
def Found (w : World) (g : Heap) (r : Value) : Option (Nat × Nat) → Prop
  | none => r = .none
  | some p => IsHit w g r p
/-- what search gives -/
def SearchCt (w : World) (P1 sr : Addr) (x : Str) (sp : List (Nat × Nat)) (g : Heap) : Prop :=
  ∀ (vs : List Value) (j : Int) (A : Around) (s₀ s : Shared) (g' : Heap) (mu : Mu) (ps : Array Value) (Q E : Value → Shared → Prop), (∃ t, (vs = [.str x t] ∧ j = 0) ∨ ∃ u, vs = [.str x t, .int j u]) →
    Gd w g' → Rm A 3 → Le g g' → OkT qSL g' ps → Fx s₀ g' ((P1, Tb ps) :: mu) s →
    (∀ r s' g'' ps', Le g' g'' → OkT qSL g'' ps' → Fx s₀ g'' ((P1, Tb ps') :: mu) s' → Found w g'' r (sp.find? fun p => decide (j ≤ (p.1 : Int))) → Q r s') → Wp w A (call (.ref sr) vs) Q E s
def IsProg (w : World) (g : Heap) (v : Value) (P1 : Addr) (x : Str) (sp : List (Nat × Nat)) : Prop := ∃ f sr fs, v = .ref f ∧ FnWith g f (Str.ofString "search") (.ref sr) ∧ g.get? sr = some (fno fs) ∧ SearchCt w P1 sr x sp g
theorem it_name {w : World} {A : Around} {E : Value → Shared → Prop} {s : Shared} {env : Env} {x : Str} {p : Pos} {whole : Sem Value} {Q : Bool → Shared → Prop} (h : Wp w A whole (fun v s₁ => Wp w A (truthy v) Q E s₁) E s) : Wp w A (isTrue (.Name x p) env whole) Q E s :=
  ⟨isTrue_plain (wpAny_mono h.out (fun _ _ h => h.out) fun _ _ e => e)⟩
def spansOf (ends : Bool) (sp : List (Nat × Nat)) : List (Nat × Nat) := if ends then sp.map fun p => (p.2, p.2) else sp
theorem Rd.span {g : Heap} {v : Value} {p : Nat × Nat} (h : Rd g v (spanD p)) : ∃ a t1 t2, v = .ref a ∧ g.IsTuple a #[.int (p.1 : Int) t1, .int (p.2 : Int) t2] := by
  obtain ⟨a, us, rfl, ht, hus⟩ := h.inv_tuple
  obtain ⟨v1, us', rfl, k1, hus⟩ := hus.inv
  obtain ⟨v2, us'', rfl, k2, hus⟩ := hus.inv
  rw [hus.inv0] at ht
  obtain ⟨t1, rfl⟩ := k1.inv_int
  obtain ⟨t2, rfl⟩ := k2.inv_int
  exact ⟨a, t1, t2, rfl, ht⟩
theorem front2 {s₀ s : Shared} {g : Heap} {a b c : Addr × (Obj → Prop)} {mu : Mu} (F : Fx s₀ g (a :: b :: c :: mu) s) : Fx s₀ g (c :: a :: b :: mu) s := F.perm (List.perm_middle (l₁ := [a, b]))
theorem front1 {s₀ s : Shared} {g : Heap} {a b : Addr × (Obj → Prop)} {mu : Mu} (F : Fx s₀ g (a :: b :: mu) s) : Fx s₀ g (b :: a :: mu) s := F.perm (List.Perm.swap _ _ _)
theorem front3 {s₀ s : Shared} {g : Heap} {a b c d : Addr × (Obj → Prop)} {mu : Mu} (F : Fx s₀ g (a :: b :: c :: d :: mu) s) : Fx s₀ g (d :: a :: b :: c :: mu) s := F.perm (List.perm_middle (l₁ := [a, b, c]))
theorem front4 {s₀ s : Shared} {g : Heap} {a b c d e : Addr × (Obj → Prop)} {mu : Mu} (F : Fx s₀ g (a :: b :: c :: d :: e :: mu) s) : Fx s₀ g (e :: a :: b :: c :: d :: mu) s := F.perm (List.perm_middle (l₁ := [a, b, c, d]))
theorem past {s₀ s : Shared} {g : Heap} (as bs : Mu) {mu : Mu} (F : Fx s₀ g (as ++ (bs ++ mu)) s) : Fx s₀ g (bs ++ (as ++ mu)) s := F.perm (List.perm_append_comm_assoc _ _ _)
theorem prog {w : World} (x : Str) (t : Tok) (ab : Addr) (sp : List (Nat × Nat)) (ends : Bool) (tm : Mu) (hx2 : x.length ≤ 1000) (hsp : sp.length ≤ 1000)
    {A : Around} {s₀ s : Shared} {g : Heap} {mu : Mu} {Q E : Value → Shared → Prop} (G : Gd w g) (R : Rm A 5) (T : TS g tm) (F : Fx s₀ g (tm ++ mu) s) (hab : Rd g (.ref ab) (.list (sp.map spanD)))
    (hQ : ∀ r s' g' P1 c1 tm', Le g g' → TC g' c1 P1 tm' → IsProg w g' r P1 x (spansOf ends sp) → Fx s₀ g' (tm' ++ mu) s' → Q r s') :
    Wp w A (call (.ref 68) [.str x t, .ref ab, .bool ends]) Q E s := by
  refine callx (binds := [(Str.ofString "row", .str x t), (Str.ofString "above", .ref ab), (Str.ofString "ends", .bool ends)]) G R F (G.K _ _ (by k_is)) rfl (codeRec_of G.K (by k_is)) rfl (.of_eq rfl) rfl rfl ?_
  clear F
  intro L s E' R F
  have F : Fx s₀ g ((L + 2, CelX) :: (L + 1, CelX) :: (L, Loc []) :: (tm ++ mu)) s := F
  refine stoc (pre := [(L + 2, CelX)]) F rfl rfl (fun _ h => h) fun s F => stoc (pre := []) F rfl rfl (fun _ h => h) fun s F => ?_
  have F : Fx s₀ g ((L + 2, Cel (.ref ab)) :: (L + 1, Cel (.str x t)) :: (L, Loc []) :: (tm ++ mu)) s := F
  have F : Fx s₀ g ((L, Loc []) :: (L + 2, Cel (.ref ab)) :: (L + 1, Cel (.str x t)) :: (tm ++ mu)) s := F.perm ((List.Perm.cons _ (List.Perm.swap _ _ _)).trans (List.Perm.swap _ _ _))
  refine sto F fun s F => ⟨⟨_, F⟩, fun E' => ?_⟩
  refine ex_if_to (fun s => ∃ g1 ab1, Le g g1 ∧ Rd g1 (.ref ab1) (.list ((spansOf ends sp).map spanD)) ∧ Fx s₀ g1 ((L, Loc []) :: (L + 2, Cel (.ref ab1)) :: (L + 1, Cel (.str x t)) :: (tm ++ mu)) s) ?_ ?_
  · refine it_name (ld F (.head _) (.head _) (tr_bool ?_))
    cases ends with
    | false => exact ex_nil ⟨rfl, g, ab, Le.refl _, hab, F.weak (Loc.sub fun p hp => nomatch hp)⟩
    | true =>
      simp only [if_true]
      obtain ⟨ab', vs, e, hl, hvs⟩ := hab.inv_list
      cases e
      have hlen : vs.length = sp.length := by have := hvs.len; rwa [List.length_map] at this
      refine ex_assign (ev_comp (ldc F rfl (.tail _ (.head _)) ?_))
      refine cm_list R.hand F hl (by rw [List.size_toArray]; omega) (fun i g' ys => RdA g' ys (((sp.map fun p => (p.2, p.2)).take i).map spanD)) .nil ?_ ?_
      · rintro i v g' C l mu₁ ys s' E' hi hv lg hJ hm F
        obtain ⟨d, hd, hr⟩ := hvs.get (i := i) (v := v) (by simpa using hv)
        rw [List.getElem?_map] at hd
        obtain ⟨q, hq, rfl⟩ := Option.map_eq_some_iff.mp hd
        obtain ⟨b, t1, t2, rfl, ht⟩ := (hr.up lg).span
        refine ct_of (as_pair R.hand F ht fun s F => ?_)
        refine ev_tuple (sp_cons (ld F (.head _) (.head _) (sp_cons (ld F (.head _) (.head _) (sp_nil (mkTuple F fun a s g2 l2 e F => ?_))))))
        refine ⟨g2, _, l2, ?_, F⟩
        rw [List.take_add_one, List.getElem?_map, hq, List.map_append]
        exact (hJ.up l2).snoc (.tuple e (.cons (.int _ _) (.cons (.int _ _) .nil)))
      · intro C D g2 ys l s' lg hJ hyl F
        refine post_plain F fun g3 s n l3 e3 F => ?_
        refine stoc (pre := [(L, Loc [(Str.ofString "ends", .bool true)])]) F rfl rfl (fun o h => ⟨_, h⟩) fun s F => ex_nil ⟨rfl, g3, D, lg.trans l3, ?_, F.weak (Loc.sub fun p hp => nomatch hp)⟩
        rw [List.size_toArray, hlen] at hJ
        have : (sp.map fun p => (p.2, p.2)).take sp.length = sp.map fun p => (p.2, p.2) := List.take_of_length_le (by simp)
        rw [this] at hJ
        exact .list e3 (hJ.up l3)
  · rintro s ⟨g1, ab1, l1, hab1, F⟩
    have G := G.up l1
    have C : CodeHd g1 67 65 := ⟨_, _, _, _, _, _, _, _, _, G.K _ _ (by k_is), rfl, rfl, rfl, rfl, rfl, rfl, rfl, rfl, by decide⟩
    refine ex_def1 rfl rfl rfl (ct_int F fun t0 s F => via (fun v s => ∃ sr fs c1 P1 tm1 g2, v = .ref sr ∧ Le g1 g2 ∧ TM g2 c1 P1 tm1 ∧ g2.get? sr = some (fno fs) ∧ SearchCt w P1 sr x (spansOf ends sp) g2 ∧ Fx s₀ g2 ((L, Loc []) :: (tm1 ++ mu)) s) ?_ ?_)
    · refine mk_fun1 F fun tup g2 s l2 htup F => ?_
      refine mk_tail (G.up l2) F rfl rfl rfl fun ctv g3 s l3 F => ?_
      have F := past [(L, Loc []), (L + 2, Cel (.ref ab1)), (L + 1, Cel (.str x t))] tm F
      refine wp_mono (code_s rfl (C.keeps (l2.trans l3)) (T.up (l1.trans (l2.trans l3))) F) ?_
      rintro cv s ⟨c1, P1, tm1, g4, rfl, l4, TM4, F⟩
      refine ⟨g4, _, l4, F, fun pm sr s F => ?_⟩
      obtain ⟨g5, o5, l5, e5, hIs, F⟩ := F.freeze
      unfold Is at hIs
      subst hIs
      have F := past tm1 [(L, Loc []), (L + 2, Cel (.ref ab1)), (L + 1, Cel (.str x t))] F
      have F : Fx s₀ g5 ((L + 2, Cel (.ref ab1)) :: (L, Loc []) :: (L + 1, Cel (.str x t)) :: (tm1 ++ mu)) s := front1 F
      obtain ⟨g6, o6, l6, e6, h6, F⟩ := F.freeze
      have F := front1 F
      obtain ⟨g7, o7, l7, e7, h7, F⟩ := F.freeze
      have l37 : Le g3 g7 := l4.trans (l5.trans (l6.trans l7))
      have hsr := (l6.trans l7) _ _ e5
      have TM7 := TM4.up (l5.trans (l6.trans l7))
      have hab7 := hab1.up (l2.trans (l3.trans l37))
      have htup7 := (l3.trans l37) _ _ htup
      have c1r : g7.CodeRec (.ref c1) qS := by rcases TM7 with ⟨_, h, _⟩ | ⟨_, _, _, h, _⟩ <;> exact h
      have c1h : CodeHd g7 c1 P1 := by rcases TM7 with ⟨_, _, h⟩ | ⟨_, _, _, _, h, _⟩ <;> exact h
      have cell1 : g7.IsCell (L + 2) (some (.ref ab1)) := ⟨o6, l7 _ _ e6, h6⟩
      have cell2 : g7.IsCell (L + 1) (some (.str x t)) := ⟨o7, e7, h7⟩
      refine ⟨sr, _, c1, P1, tm1, g7, rfl, l2.trans (l3.trans l37), TM7, hsr, ?_, F⟩
      have G7 := G.up (l2.trans (l3.trans l37))
      clear F hQ T TM4 TM7 e5 e6 e7 h6 h7
      intro vs j A s₀ s g' mu ps Q E hvs G R l ok F k
      obtain ⟨tc, tj, hvs⟩ : ∃ tc tj, (vs = [.str x tc] ∧ j = 0 ∧ tj = t0) ∨ vs = [.str x tc, .int j tj] := by
        obtain ⟨tc, ⟨h1, h2⟩ | ⟨tj, h1⟩⟩ := hvs
        · exact ⟨tc, t0, .inl ⟨h1, h2, rfl⟩⟩
        · exact ⟨tc, tj, .inr h1⟩
      refine callx (binds := [(Str.ofString "chars", .str x tc), (Str.ofString "at", .int j tj)]) G R F (l _ _ hsr) rfl (c1r.keeps l) rfl ?_ rfl rfl ?_
      · rcases hvs with ⟨rfl, rfl, rfl⟩ | rfl
        · exact BindsTo.of_defaults rfl (F.le _ _ (l _ _ htup7)) rfl rfl rfl
        · exact BindsTo.of_defaults rfl (F.le _ _ (l _ _ htup7)) rfl rfl rfl
      clear F
      intro L2 s E' R F
      have F : Fx s₀ g' ((L2 + 2, CelX) :: (L2 + 1, CelX) :: (L2, Loc []) :: (P1, Tb ps) :: mu) s := F
      refine sto (front2 F) fun s F => sto F fun s F => ⟨⟨_, F⟩, fun E' => ?_⟩
      have F := F.weak (Loc.sub (l' := [(Str.ofString "at", .int j tj), (Str.ofString "chars", .str x tc)]) (fun p hp => hp))
      obtain ⟨ab', us, e, hl, hus⟩ := (hab7.up l).inv_list
      cases e
      have husl : us.length = (spansOf ends sp).length := by have := hus.len; rwa [List.length_map] at this
      refine ex_for (ldf F rfl ⟨_, l _ _ cell1.choose_spec.1, cell1.choose_spec.2⟩ ?_)
      have cell2' : g'.IsCell (L + 1) (some (.str x t)) := ⟨_, l _ _ cell2.choose_spec.1, cell2.choose_spec.2⟩
      have F := F.perm ((List.Perm.swap _ _ _).trans (List.Perm.cons _ (List.Perm.swap _ _ _)))
      refine iter_list R.hand F hl (fun i g'' mu' => ∃ P3 P4 ps', mu' = (L2 + 2, P3) :: (L2 + 1, P4) :: (L2, Loc [(Str.ofString "at", .int j tj), (Str.ofString "chars", .str x tc)]) :: (P1, Tb ps') :: mu ∧ (∀ o, P3 o → CelX o) ∧ (∀ o, P4 o → CelX o) ∧ OkT qSL g'' ps' ∧
        ((spansOf ends sp).take i).all (fun p => !decide (j ≤ (p.1 : Int))) = true) ⟨_, _, ps, rfl, fun _ h => h, fun _ h => h, ok, rfl⟩ ?_ ?_
      · rintro i v g'' mu' s E'' I PI hi hv l2' ⟨P3, P4, ps', rfl, hP3, hP4, ok', hno⟩ F
        obtain ⟨d, hd, hr⟩ := hus.get (i := i) (v := v) (by simpa using hv)
        rw [List.getElem?_map] at hd
        obtain ⟨q, hq, rfl⟩ := Option.map_eq_some_iff.mp hd
        obtain ⟨b, t1, t2, rfl, ht⟩ := (hr.up l2').span
        refine as_cells R.hand F ht hP3 hP4 (fun s F => ?_) rfl rfl
        refine ex_if (via (fun b s => b = decide (j ≤ (q.1 : Int)) ∧ Fx s₀ g'' ((L2 + 2, Cel (.int (q.1 : Int) t1)) :: (L2 + 1, Cel (.int (q.2 : Int) t2)) :: (L2, Loc [(Str.ofString "at", .int j tj), (Str.ofString "chars", .str x tc)]) :: (P1, Tb ps') :: (mu ++ [(I, PI)])) s) ?_ ?_)
        · refine it_and2 (it_cmp (ld F (.tail _ (.tail _ (.head _))) (.head _) (ldc F rfl (.head _) (cm_le (tr_bool ?_)))) rfl)
          refine ⟨fun h => ⟨h.symm, F⟩, fun h => it_cmp (ld F (.tail _ (.tail _ (.head _))) (.tail _ (.head _)) (ldf F rfl ⟨_, l2' _ _ cell2'.choose_spec.1, cell2'.choose_spec.2⟩ (cm_eq_str (tr_bool ?_)))) rfl⟩
          exact ⟨by rw [h]; simp, F⟩
        · rintro _ s ⟨rfl, F⟩
          cases hj : decide (j ≤ (q.1 : Int)) with
          | false =>
            simp only [Bool.false_eq_true, if_false]
            exact ex_skip (ex_nil (Went.on (Le.refl _) ⟨_, _, ps', rfl, fun o h => ⟨_, h⟩, fun o h => ⟨_, h⟩, ok', all_snoc hno hq hj⟩ F))
          | true =>
            simp only [if_true]
            refine ex_assign (ev_lam (mk_tail (G.up l2') (front3 F) rfl rfl rfl fun ctv g3 s l3 F => ?_))
            refine get_code rfl (c1h.keeps (l.trans (l2'.trans l3))) F (ok'.up l3) fun cv ps2 g4 s l4 hr4 ok4 F => ⟨g4, _, l4, F, fun pm f s F => ?_⟩
            refine sto (front4 F) fun s F => ?_
            have G4 := G.up (l2'.trans (l3.trans l4))
            refine ex_setattr (ev_lam (mk_tail G4 (front2 F) rfl rfl rfl fun ctv2 g5 s l5 F => ?_))
            refine get_code rfl (c1h.keeps (l.trans (l2'.trans (l3.trans (l4.trans l5))))) F (ok4.up l5) fun cv2 ps3 g6 s l6 hr6 ok6 F => ⟨g6, _, l6, F, fun pm2 m s F => ?_⟩
            obtain ⟨g7, om, l7, em, hm, F⟩ := F.freeze
            unfold Is at hm
            subst hm
            refine ld F (.tail _ (.head _)) (.head _) (st_attr (front2 F) fn_span fun g8 s l8 hf F => ?_)
            refine ex_ret (ld F (.tail _ (.head _)) (.head _) ?_)
            obtain ⟨g9, oc1, l9, ec1, hc1, F⟩ := (front2 F).freeze
            obtain ⟨g10, oc2, l10, ec2, hc2, F⟩ := (front2 F).freeze
            have F := (front1 F).drop
            have F : Fx s₀ g10 (((P1, Tb ps3) :: mu) ++ [(I, PI)]) s := F
            have l710 : Le g7 g10 := l8.trans (l9.trans l10)
            refine k (.ref f) s g10 ps3 (l2'.trans (l3.trans (l4.trans (l5.trans (l6.trans (l7.trans l710)))))) (ok6.up (l7.trans l710)) F.last ?_
            rw [find_at hno hq hj]
            have k1 : g10.IsCell (L2 + 2) (some (.int (q.1 : Int) t1)) := ⟨oc1, l10 _ _ ec1, hc1⟩
            have k2 : g10.IsCell (L2 + 1) (some (.int (q.2 : Int) t2)) := ⟨oc2, ec2, hc2⟩
            refine ⟨f, m, _, rfl, hf.up (l9.trans l10), l710 _ _ em, ?_⟩
            clear F k ec1 ec2 hc1 hc2
            intro A s₀ s g11 mu Q E G R l11 F k
            refine callxE (binds := []) G R F (l11 _ _ (l710 _ _ em)) rfl (hr6.keeps (l7.trans (l710.trans l11))) rfl (.of_eq rfl) rfl rfl ?_
            intro L3 s E' R F
            refine ⟨⟨_, F⟩, fun E' => ?_⟩
            refine ev_tuple (sp_cons (ldf F rfl ⟨_, l11 _ _ k1.choose_spec.1, k1.choose_spec.2⟩ (sp_cons (ldf F rfl ⟨_, l11 _ _ k2.choose_spec.1, k2.choose_spec.2⟩ (sp_nil (mkTuple F fun a s g12 l12 e F => ?_))))))
            have F : Fx s₀ g12 ((L3, Loc []) :: mu) s := F
            exact k _ _ g12 l12 F.drop (.tuple e (.cons (.int _ _) (.cons (.int _ _) .nil)))
      · rintro g'' mu' s l2' ⟨P3, P4, ps', rfl, hP3, hP4, ok', hno⟩ F
        have hno : (spansOf ends sp).all (fun p => !decide (j ≤ (p.1 : Int))) = true := by rw [List.size_toArray, husl, List.take_length] at hno; exact hno
        refine ex_ret (ct_none ?_)
        refine k _ _ g'' ps' l2' ok' F.drop.drop.drop ?_
        rw [find_none hno]
        rfl
    · rintro v s ⟨sr, fs, c1, P1, tm1, g2, rfl, l2, TM2, hsr, ct, F⟩
      refine sto F fun s F => ?_
      refine ex_assign (ev_lam (mk_tail (G.up l2) F rfl rfl rfl fun ctv g3 s l3 F => ?_))
      have F := past [(L, Loc [(Str.ofString "search", .ref sr)])] tm1 F
      refine wp_mono (code_p rfl (C.keeps (l2.trans l3)) (TM2.up l3) F) ?_
      rintro cv s ⟨tm2, g4, l4, hr4, T4, F⟩
      refine ⟨g4, _, l4, F, fun pm f s F => ?_⟩
      have F := past (_ :: tm2) [_] F
      refine sto F fun s F => ?_
      refine ex_setattr (ld F (.head _) (.tail _ (.head _)) (ld F (.head _) (.head _) (st_attr (front1 F) fn_search fun g5 s l5 hf F => ?_)))
      refine ex_ret (ld F (.head _) (.head _) ?_)
      have l25 : Le g2 g5 := l3.trans (l4.trans l5)
      exact hQ _ _ g5 P1 c1 tm2 (l1.trans (l2.trans l25)) (T4.up l5) ⟨f, sr, fs, rfl, hf, l25 _ _ hsr, fun vs j A s₀ s g' mu ps Q E hvs G R l => ct vs j A s₀ s g' mu ps Q E hvs G R (l25.trans l)⟩ F.drop
end Mine

end
section
open PySem PySem.W PyProof.Rows PySem.Calls PySem.Spec
set_option Elab.async false
set_option maxRecDepth 100000
set_option autoImplicit false
set_option maxHeartbeats 1000000
set_option linter.unusedVariables false
namespace Mine
theorem fillRv : (PySem.Challenge.rw_mq0069_01 = PySem.Challenge.rw_mq0069_01) ∧ (hd.heap_39 = hd.heap_39) := by k_fill; exact ⟨rfl, rfl⟩
section
variable {w : World} {A : Around} {E : Value → Shared → Prop} {s : Shared} {env : Env} {rest : List Stmt} {pos : Pos} {Q : Flow → Shared → Prop}
/-- a turn of a while ends -/
def WEnd (w : World) (A : Around) (env : Env) (rest : List Stmt) (Q : Flow → Shared → Prop) (E : Value → Shared → Prop) (I : Nat → Shared → Prop) (n : Nat) (f : Flow) (s₃ : Shared) : Prop := match f with
  | .next | .cont => ∃ m, m < n ∧ I m s₃
  | .brk => Wp w A (execs rest env) Q E s₃
  | .ret v => Q (.ret v) s₃
theorem ex_while {test : Expr} {body : List Stmt} (I : Nat → Shared → Prop) (n : Nat) (h0 : I n s)
    (turn : ∀ n s E', I n s → Wp w A (isTrue test env (eval test env)) (fun b s₂ => (b = true → Wp w A (execs body env) (WEnd w A env rest Q E I n) E' s₂) ∧ (b = false → Wp w A (execs rest env) Q E s₂)) E' s) :
    Wp w A (execs (.While test body [] pos :: rest) env) Q E s := by
  refine ⟨wpAny_execs_cons (wpAny_While (codeAny_whileLoop (fun n s => I n s) (fun n s hI => ?_) n h0))⟩
  refine wpAny_mono (turn n s _ hI).out (fun b s₂ h₂ => ?_) fun _ _ e => e
  cases b with
  | false => exact wpAny_execs_nil (h₂.2 rfl).out
  | true =>
    refine wpAny_mono (h₂.1 rfl).out (fun f s₃ h₃ => ?_) fun _ _ e => e
    cases f with
    | next => exact h₃
    | cont => exact h₃
    | brk => exact h₃.out
    | ret v => exact h₃
end
def nextAt (p : Nat × Nat) : Int := if p.1 = p.2 then (p.2 : Int) + 1 else (p.2 : Int)
def seek (sp : List (Nat × Nat)) (j : Int) : Option (Nat × Nat) := sp.find? fun p => decide (j ≤ (p.1 : Int))
def revL (sp : List (Nat × Nat)) (col : Int) : Nat → (Nat × Nat) → Option (Nat × Nat) → Option (Nat × Nat)
  | 0, _, fd => fd
  | n + 1, p, fd => if (p.1 : Int) < col ∧ (p.2 : Int) ≤ col then (match seek sp (nextAt p) with
      | none => some p
      | some q => revL sp col n q (some p)) else fd
def revOf (sp : List (Nat × Nat)) (col : Int) : Option (Nat × Nat) := match seek sp 0 with
  | none => none
  | some p => revL sp col 1001 p none
theorem Found.up {w : World} {g g' : Heap} {r : Value} {o : Option (Nat × Nat)} (l : Le g g') (x : Found w g r o) : Found w g' r o := by
  cases o with
  | none => exact x
  | some p => exact IsHit.up l x
theorem seek_mem {sp : List (Nat × Nat)} {j : Int} {p : Nat × Nat} (h : seek sp j = some p) : p ∈ sp ∧ j ≤ (p.1 : Int) := ⟨List.mem_of_find?_eq_some h, by have := List.find?_some h; simpa using this⟩

theorem reverse {w : World} (x : Str) (t tc : Tok) (col : Int) (sp : List (Nat × Nat)) (P1 c1 : Addr) (tm : Mu) (pr : Value) (hsp : ∀ p ∈ sp, p.1 ≤ p.2 ∧ p.1 ≤ 1000)
    {A : Around} {s₀ s : Shared} {g : Heap} {mu : Mu} {Q E : Value → Shared → Prop} (G : Gd w g) (R : Rm A 5) (T : TC g c1 P1 tm) (F : Fx s₀ g (tm ++ mu) s) (ip : IsProg w g pr P1 x sp)
    (hQ : ∀ r s' g' tm', Le g g' → TC g' c1 P1 tm' → Fx s₀ g' (tm' ++ mu) s' → Found w g' r (revOf sp col) → Q r s') :
    Wp w A (call (.ref 38) [pr, .str x t, .int col tc]) Q E s := by
  obtain ⟨c2, ps0, rfl, T2, T3, T4, ok0⟩ := T
  obtain ⟨f, sr, fs, rfl, hfw, hsr, ct⟩ := ip
  have F : Fx s₀ g ((65, _) :: (P1, Tb ps0) :: mu) s := F
  have hQ : ∀ r s' g' ps, Le g g' → OkT qSL g' ps → Fx s₀ g' ((P1, Tb ps) :: (65, _) :: mu) s' → Found w g' r (revOf sp col) → Q r s' :=
    fun r s' g' ps l ok F h => hQ r s' g' _ l ⟨c2, ps, rfl, T2.keeps l, T3.keeps l, T4.keeps l, ok⟩ (front1 F) h
  generalize Tb #[rawInt ↑51, rawInt ↑4, Value.ref c1, rawInt ↑58, rawInt ↑11, c2] = T65 at F hQ
  refine callf (binds := [(Str.ofString "prog", .ref f), (Str.ofString "chars", .str x t), (Str.ofString "col", .int col tc)]) (l := [(Str.ofString "prog", .ref f), (Str.ofString "chars", .str x t), (Str.ofString "col", .int col tc)]) G R (front1 F) (by k_is) (by k_is) rfl rfl
    (List.forall_mem_cons.mpr ⟨rfl, List.forall_mem_cons.mpr ⟨rfl, List.forall_mem_singleton.mpr rfl⟩⟩) (by decide) rfl rfl rfl rfl ?_
  clear F
  intro L s E' R F
  refine ex_assign (ev_meth (ld F (.head _) (.head _) (gm_fn F hfw fn_search rfl fun s F => cw_fn F hsr ?_)))
  refine sp_cons (ld F (.head _) (.tail _ (.head _)) (sp_nil ⟨⟨_, _, Le.refl _, F⟩, ?_⟩))
  refine ct _ 0 _ _ _ _ _ _ _ _ ⟨t, .inl ⟨rfl, rfl⟩⟩ G (R.less (by omega)) (Le.refl _) ok0 (front1 F) fun r s g1 ps1 l1 ok1 F hf => ?_
  refine sto (front1 F) fun s F => ?_
  have F := F.weak (Loc.sub (l' := [(Str.ofString "m", r), (Str.ofString "prog", .ref f), (Str.ofString "chars", .str x t), (Str.ofString "col", .int col tc)]) (fun p hp => hp))
  have hf : Found w g1 r (seek sp 0) := hf
  have hrev : revOf sp col = (match seek sp 0 with | none => none | some p => revL sp col 1001 p none) := rfl
  cases hsk : seek sp 0 with
  | none =>
    rw [hsk] at hf hrev
    obtain rfl : r = .none := hf
    refine ex_if (it_not (it_name (ld F (.head _) (.head _) ⟨truthy_none ?_⟩)))
    refine ex_ret (ct_none ?_)
    exact hQ _ _ g1 ps1 l1 ok1 F.drop (by rw [hrev]; rfl)
  | some p =>
    rw [hsk] at hf hrev
    obtain ⟨hpm, _⟩ := seek_mem hsk
    have hf : IsHit w g1 r p := hf
    obtain ⟨f1, m1, fm1, rfl, hw1, hm1, sc1⟩ := id hf
    refine ex_if (it_not (it_name (ld F (.head _) (.head _) (fn_true F hw1 ?_))))
    refine ex_skip ?_
    refine ex_assign (ct_none (sto F fun s F => ?_))
    refine ex_assign2 (ev_meth (ld F (.head _) (.tail _ (.head _)) (gm_fn F hw1 fn_span rfl fun s F => cw_fn0 F hm1 ?_)))
    refine sc1 _ _ _ _ _ _ _ (G.up l1) (R.less (by omega)) (Le.refl _) F fun r s g2 l2 F hr => ?_
    obtain ⟨b, ti, tj, rfl, ht⟩ := hr.span
    refine as_pair R.hand F ht fun s F => ?_
    refine ex_while (fun n s => ∃ g' ps q fd vm vf ti tj, Le g g' ∧ OkT qSL g' ps ∧ IsHit w g' vm q ∧ Found w g' vf fd ∧ q ∈ sp ∧ revL sp col n q fd = revOf sp col ∧ 1001 - q.1 ≤ n ∧
      Fx s₀ g' ((L, Loc [(Str.ofString "i", .int (q.1 : Int) ti), (Str.ofString "j", .int (q.2 : Int) tj), (Str.ofString "m", vm), (Str.ofString "found", vf), (Str.ofString "prog", .ref f), (Str.ofString "chars", .str x t), (Str.ofString "col", .int col tc)]) :: (P1, Tb ps) :: (65, T65) :: mu) s) 1001
      ⟨g2, ps1, p, none, _, .none, ti, tj, l1.trans l2, ok1.up l2, hf.up l2, rfl, hpm, hrev.symm, by omega, F.weak (Loc.sub ?_)⟩ ?_
    · refine List.forall_mem_cons.mpr ⟨.tail _ (.head _), List.forall_mem_cons.mpr ⟨.head _, List.forall_mem_cons.mpr ⟨.tail _ (.tail _ (.tail _ (.head _))), List.forall_mem_cons.mpr ⟨.tail _ (.tail _ (.head _)), ?_⟩⟩⟩⟩
      intro p hp
      exact .tail _ (.tail _ (.tail _ (.tail _ hp)))
    clear F
    rintro n s E'' ⟨g', ps, q, fd, vm, vf, ti, tj, l, ok, hm, hfd, hq, hrv, hn, F⟩
    refine via (fun b s => b = decide ((q.1 : Int) < col ∧ (q.2 : Int) ≤ col) ∧ Fx s₀ g' ((L, Loc [(Str.ofString "i", .int (q.1 : Int) ti), (Str.ofString "j", .int (q.2 : Int) tj), (Str.ofString "m", vm), (Str.ofString "found", vf), (Str.ofString "prog", .ref f), (Str.ofString "chars", .str x t), (Str.ofString "col", .int col tc)]) :: (P1, Tb ps) :: (65, T65) :: mu) s) ?_ ?_
    · refine it_and2 (it_cmp (ld F (.head _) (.head _) (ld F (.head _) (.tail _ (.tail _ (.tail _ (.tail _ (.tail _ (.tail _ (.head _))))))) (cm_lt (tr_bool ?_)))) rfl)
      refine ⟨fun h => ⟨?_, F⟩, fun h => it_cmp (ld F (.head _) (.tail _ (.head _)) (ld F (.head _) (.tail _ (.tail _ (.tail _ (.tail _ (.tail _ (.tail _ (.head _))))))) (cm_le (tr_bool ?_)))) rfl⟩
      · have := of_decide_eq_false h; exact (decide_eq_false fun h => this h.1).symm
      · have := of_decide_eq_true h
        exact ⟨by rw [decide_eq_decide]; exact ⟨fun h => ⟨this, h⟩, fun h => h.2⟩, F⟩
    · rintro b s ⟨hb, F⟩
      have hq1 := (hsp q hq).1
      have hq2 := (hsp q hq).2
      obtain ⟨n, rfl⟩ : ∃ k, n = k + 1 := ⟨n - 1, by omega⟩
      refine ⟨fun h => ?_, fun h => ?_⟩
      · have ht : (q.1 : Int) < col ∧ (q.2 : Int) ≤ col := by rw [h] at hb; exact of_decide_eq_true hb.symm
        rw [revL, if_pos ht] at hrv
        refine ex_assign (ld F (.head _) (.tail _ (.tail _ (.head _))) (sto F fun s F => ?_))
        refine ex_if_to (fun s => ∃ tj, Fx s₀ g' ((L, Loc [(Str.ofString "j", .int (nextAt q) tj), (Str.ofString "found", vm), (Str.ofString "prog", .ref f), (Str.ofString "chars", .str x t), (Str.ofString "col", .int col tc)]) :: (P1, Tb ps) :: (65, T65) :: mu) s) ?_ ?_
        · refine it_cmp (ld F (.head _) (.tail _ (.head _)) (ld F (.head _) (.tail _ (.tail _ (.head _))) (cm_eq (tr_bool ?_)))) rfl
          by_cases he : q.1 = q.2
          · rw [show ((q.1 : Int) == (q.2 : Int)) = true by simp [he]]
            simp only [if_true]
            refine ex_assign (ev_binop (ld F (.head _) (.tail _ (.tail _ (.head _))) (ct_int F fun t6 s F => op_add F fun t7 s F => sto F fun s F => ex_nil ⟨rfl, t7, ?_⟩)))
            rw [nextAt, if_pos he]
            refine F.weak (Loc.sub ?_)
            refine List.forall_mem_cons.mpr ⟨.head _, List.forall_mem_cons.mpr ⟨.tail _ (.head _), ?_⟩⟩
            intro p hp
            exact .tail _ (.tail _ (.tail _ (.tail _ hp)))
          · rw [show ((q.1 : Int) == (q.2 : Int)) = false by rw [beq_eq_false_iff_ne]; omega]
            simp only [Bool.false_eq_true, if_false]
            refine ex_nil ⟨rfl, tj, ?_⟩
            rw [nextAt, if_neg he]
            refine F.weak (Loc.sub ?_)
            refine List.forall_mem_cons.mpr ⟨.tail _ (.tail _ (.head _)), List.forall_mem_cons.mpr ⟨.head _, ?_⟩⟩
            intro p hp
            exact .tail _ (.tail _ (.tail _ (.tail _ hp)))
        · rintro s ⟨tj2, F⟩
          have hfw' := hfw.up l
          refine ex_assign (ev_meth (ld F (.head _) (.tail _ (.tail _ (.head _))) (gm_fn F hfw' fn_search rfl fun s F => cw_fn F (l _ _ hsr) ?_)))
          refine sp_cons (ld F (.head _) (.tail _ (.tail _ (.tail _ (.head _)))) (sp_cons (ld F (.head _) (.head _) (sp_nil ⟨⟨_, _, Le.refl _, F⟩, ?_⟩))))
          refine ct _ (nextAt q) _ _ _ _ _ _ _ _ ⟨t, .inr ⟨tj2, rfl⟩⟩ (G.up l) (R.less (by omega)) l ok (front1 F) fun r s g3 ps3 l3 ok3 F hf => ?_
          refine sto (front1 F) fun s F => ?_
          have hf : Found w g3 r (seek sp (nextAt q)) := hf
          cases hsk : seek sp (nextAt q) with
          | none =>
            rw [hsk] at hf hrv
            obtain rfl : r = .none := hf
            refine ex_if (it_not (it_name (ld F (.head _) (.head _) ⟨truthy_none ?_⟩)))
            refine ex_brk (ex_ret (ld F (.head _) (.tail _ (.tail _ (.head _))) ?_))
            exact hQ _ _ g3 ps3 (l.trans l3) ok3 F.drop (hrv ▸ hm.up l3)
          | some q2 =>
            rw [hsk] at hf hrv
            obtain ⟨hqm, hqj⟩ := seek_mem hsk
            have hf : IsHit w g3 r q2 := hf
            obtain ⟨f2, m2, fm2, rfl, hw2, hm2, sc2⟩ := id hf
            refine ex_if (it_not (it_name (ld F (.head _) (.head _) (fn_true F hw2 ?_))))
            refine ex_skip ?_
            refine ex_assign2 (ev_meth (ld F (.head _) (.head _) (gm_fn F hw2 fn_span rfl fun s F => cw_fn0 F hm2 ?_)))
            refine sc2 _ _ _ _ _ _ _ (G.up (l.trans l3)) (R.less (by omega)) (Le.refl _) F fun r s g4 l4 F hr => ?_
            obtain ⟨b, ti, tj, rfl, ht⟩ := hr.span
            refine as_pair R.hand F ht fun s F => ex_nil ⟨n, Nat.lt_succ_self n, g4, ps3, q2, some q, _, vm, ti, tj, l.trans (l3.trans l4), ok3.up l4, hf.up l4, hm.up (l3.trans l4), hqm, hrv, ?_, F.weak (Loc.sub ?_)⟩
            · have : (q.1 : Int) < nextAt q := by unfold nextAt; split <;> omega
              omega
            · refine List.forall_mem_cons.mpr ⟨.tail _ (.head _), List.forall_mem_cons.mpr ⟨.head _, List.forall_mem_cons.mpr ⟨.tail _ (.tail _ (.head _)), ?_⟩⟩⟩
              intro p hp
              exact .tail _ (.tail _ (.tail _ hp))
      · have ht : ¬ ((q.1 : Int) < col ∧ (q.2 : Int) ≤ col) := by rw [h] at hb; exact of_decide_eq_false hb.symm
        rw [revL, if_neg ht] at hrv
        refine ex_ret (ld F (.head _) (.tail _ (.tail _ (.tail _ (.head _)))) ?_)
        exact hQ _ _ g' ps l ok F.drop (hrv ▸ hfd)
end Mine

end
section
open PySem PySem.W PyProof.Rows PySem.Calls PySem.Spec
set_option Elab.async false
set_option maxRecDepth 100000
set_option autoImplicit false
set_option linter.unusedVariables false
namespace Mine
section
variable {w : World} {A : Around} {E : Value → Shared → Prop} {R : Result → Shared → Prop} {s s₀ : Shared}
theorem compTurn_in (elt t0 i0 t1 i1 : Expr) (scope : Scope) (pos : Pos) (it acc : Value) (env : Env) :
    compTurn (.ListComp elt [⟨t0, i0, [], 0⟩, ⟨t1, i1, [], 0⟩] scope pos) 1 it acc env = (do
      standAt i1.pos
      match ← pyNext it with
      | none => pure (.done .next)
      | some v =>
        letOwnedTupleGo t1 it v
        assign t1 env v
        (do let _ ← call (.builtin "list.append") [acc, ← eval elt env])
        again (.compLoop (.ListComp elt [⟨t0, i0, [], 0⟩, ⟨t1, i1, [], 0⟩] scope pos) 1 it acc env)) := by rfl
theorem compTurn_out (elt t0 i0 t1 i1 : Expr) (scope : Scope) (pos : Pos) (it acc : Value) (env : Env) :
    compTurn (.ListComp elt [⟨t0, i0, [], 0⟩, ⟨t1, i1, [], 0⟩] scope pos) 0 it acc env = (do
      standAt i0.pos
      match ← pyNext it with
      | none => pure (.done .next)
      | some v =>
        letOwnedTupleGo t0 it v
        assign t0 env v
        let x ← eval i1 env
        standAt i1.pos
        let x ← foldedSetIterable i1 env x
        let it' ← holding [x] (pyIter x)
        let _ ← runOwn (.compStart (.ListComp elt [⟨t0, i0, [], 0⟩, ⟨t1, i1, [], 0⟩] scope pos) 1 it' acc env) env
        again (.compLoop (.ListComp elt [⟨t0, i0, [], 0⟩, ⟨t1, i1, [], 0⟩] scope pos) 0 it acc env)) := by rfl
theorem start_in {elt t0 i0 t1 i1 : Expr} {scope : Scope} {pos : Pos} {it acc : Value} {env : Env}
    (h0 : codeAny (model PR w) A (.compLoop (.ListComp elt [⟨t0, i0, [], 0⟩, ⟨t1, i1, [], 0⟩] scope pos) 1 it acc env) R s)
    (h : wpAny (model PR w) A (pyIter it) (fun it' s' => codeAny (model PR w) A (.compLoop (.ListComp elt [⟨t0, i0, [], 0⟩, ⟨t1, i1, [], 0⟩] scope pos) 1 it' acc env) R s')
      (notedBy (model PR w) A env fun x s' => R (.error x) s') s) : codeAny (model PR w) A (.compStart (.ListComp elt [⟨t0, i0, [], 0⟩, ⟨t1, i1, [], 0⟩] scope pos) 1 it acc env) R s := by
  refine codeAny_of_tree ?_
  show wpAny _ _ ((compStart (.ListComp elt [⟨t0, i0, [], 0⟩, ⟨t1, i1, [], 0⟩] scope pos) 1 it acc env).onRaise (fun x => do noteFrame x env; standAt theWindowsPlace)) _ _ s
  refine wpAny_notedAt ?_
  unfold compStart
  show wpAny _ _ (ask >>= _) _ _ s
  refine wpAny_bind (wpAny_askSetting (wpAny_ite ?_))
  split
  · first
      | exact wpAny_bind (wpAny_pure (wpAny_pure (And.intro rfl h0)))
      | exact wpAny_pure (And.intro rfl h0)
  · first
      | exact wpAny_bind (wpAny_rule (wpAny_bind (wpAny_standAt (wpAny_bind (wpAny_mono h (fun it' s' h' => wpAny_pure (And.intro rfl h')) fun _ _ x => x)))))
      | (refine wpAny_bind (wpAny_rule ?_); show wpAny _ _ (standAt i1.pos >>= _) _ _ s; exact wpAny_bind (wpAny_standAt (wpAny_bind (wpAny_mono h (fun it' s' h' => wpAny_pure (And.intro rfl h')) fun _ _ x => x))))
end
section
variable {w : World} {A : Around} {E : Value → Shared → Prop} {R : Result → Shared → Prop} {s s₀ : Shared} {g : Heap} {mu : Mu} {l : List (Str × Value)} {ys : List Value} {C D : Addr}
/-- the inner clause's turns, over a list that is still, its target a name -/
theorem inner_loop {elt t0 i0 i1 : Expr} {x : Str} {px : Pos} {scope : Scope} {pos : Pos} {cenv : Env} {b : Addr} {us : List Value} (hh : A.handled = none) (F : Fx s₀ g ((C, Loc l) :: (D, Lst ys) :: mu) s) (hl : g.IsList b us.toArray)
    (J2 : Nat → Heap → List (Str × Value) → List Value → Prop) (h0 : J2 0 g l ys) (hsz : ys.length + us.length ≤ 1000000)
    (turn : ∀ k u g' l' mu₂ ys' s' E', us[k]? = some u → Le g g' → J2 k g' l' ys' → Fx s₀ g' ((C, Loc l') :: mu₂) s' →
      Wp w A (assign (.Name x px) cenv u) (fun _ s₅ => Wp w A (eval elt cenv) (fun y s₆ => ∃ g4 l4, Le g' g4 ∧ J2 (k + 1) g4 l4 (ys' ++ [y]) ∧ Fx s₀ g4 ((C, Loc l4) :: mu₂) s₆) E' s₅) E' s')
    (done : ∀ g' l' ys' s', Le g g' → J2 us.length g' l' ys' → ys'.length = ys.length + us.length → Fx s₀ g' ((C, Loc l') :: (D, Lst ys') :: mu) s' → R (.ok .next) s') :
    wpAny (model PR w) A (pyIter (.ref b)) (fun it s₂ => codeAny (model PR w) A (.compStart (.ListComp elt [⟨t0, i0, [], 0⟩, ⟨.Name x px, i1, [], 0⟩] scope pos) 1 it (.ref D) cenv) R s₂) E s := by
  have hls : s.heap.IsList b us.toArray := hl.at fun o e => F.le _ _ e
  refine wpAny_pyIter_list hls ?_
  obtain ⟨o, ho, _⟩ := id hls
  generalize hI : s.heap.objs.size = I
  have T : It w A g I _ _ _ _ := It.list hh hl (hI ▸ Nat.ne_of_lt (Heap.lt_size ho))
  have F' := F.alloc (P := fun o => o = { cls := .type "list_iterator", data := .fields #[.ref b, .int 0 0] }) _ rfl
  rw [hI] at F'
  have F0 : Fx s₀ g ((I, Itr g I (fun i h => h.IsListIter I b i ∧ h.IsList b us.toArray) 0) :: (C, Loc l) :: (D, Lst ys) :: mu) _ := F'.weak fun o e => by
    subst e
    exact fun h e l => ⟨⟨_, e, rfl, rfl⟩, hl.at fun o' e'' => l _ _ e''⟩
  clear F'
  revert F0
  generalize ({ s with heap := s.heap.push { cls := .type "list_iterator", data := .fields #[.ref b, .int 0 0] } } : Shared) = s₁
  intro F0
  have dead : ∀ {g' mu' s'} {i : Nat}, Le g g' → Fx s₀ g' ((I, Itr g I (fun i h => h.IsListIter I b i ∧ h.IsList b us.toArray) i) :: mu') s' → s'.heap.IsListIter I b i ∧ s'.heap.IsList b us.toArray := fun l F' => by
    obtain ⟨o, ho, hp⟩ := F'.get (.head _)
    exact hp _ ho (l.trans F'.le)
  have loop : codeAny (model PR w) A (.compLoop (.ListComp elt [⟨t0, i0, [], 0⟩, ⟨.Name x px, i1, [], 0⟩] scope pos) 1 (.ref I) (.ref D) cenv) R s₁ := by
    refine codeAny_loop rfl
      (fun k s' => ∃ g' l' ys' i, Le g g' ∧ J2 i g' l' ys' ∧ ys'.length = ys.length + i ∧ Fx s₀ g' ((I, Itr g I (fun i h => h.IsListIter I b i ∧ h.IsList b us.toArray) i) :: (C, Loc l') :: (D, Lst ys') :: mu) s' ∧ i ≤ us.length ∧ k = us.length + 1 - i) ?_ (us.length + 1) ⟨g, l, ys, 0, Le.refl _, h0, rfl, F0, Nat.zero_le _, rfl⟩
    rintro k s' ⟨g', l', ys', i, lg, hJ, hyl, F', hi, rfl⟩
    show wpAny _ A ((compTurn (.ListComp elt [⟨t0, i0, [], 0⟩, ⟨.Name x px, i1, [], 0⟩] scope pos) 1 (.ref I) (.ref D) cenv).onRaise (fun x => do noteFrame x cenv; theTreesLotGoes x)) _ _ s'
    refine wpAny_noted ?_
    rw [compTurn_in]
    have hst := dead lg F'
    have hIn := (F'.tu _ (.head _)).1
    have ndI := (List.nodup_cons.mp F'.nd).1
    have next : ∀ {h₁ : Heap} (tk : Nat), (∀ b o, b ∉ [I] → s'.heap.get? b = some o → h₁.get? b = some o) → Fx s₀ g' ((C, Loc l') :: (D, Lst ys') :: mu) { s' with heap := h₁, toks := tk } := fun tk hk => by
      refine ⟨fun b o e => hk b o (fun q => ?_) (F'.le b o e), fun p hp => ?_, F'.drop.nd, F'.sim⟩
      · rw [List.mem_singleton.mp q, hIn] at e; cases e
      · obtain ⟨h1, o, h2, h3⟩ := F'.tu p (.tail _ hp)
        exact ⟨h1, o, hk _ _ (fun q => ndI (List.mem_map.mpr ⟨p, hp, List.mem_singleton.mp q⟩)) h2, h3⟩
    refine wpAny_bind (wpAny_standAt (wpAny_bind ?_))
    by_cases hlt : i < us.toArray.size
    · refine T.W.item i _ _ _ hlt hst fun v h₂ tk₂ hP hst₂ hk₂ => ?_
      obtain ⟨oI, hoI⟩ := T.on _ _ hst₂
      have Fn := next tk₂ hk₂
      have F₂ : Fx s₀ g' ((I, Itr g I (fun i h => h.IsListIter I b i ∧ h.IsList b us.toArray) (i + 1)) :: (C, Loc l') :: (D, Lst ys') :: mu) { s' with heap := h₂, toks := tk₂ } := by
        refine ⟨Fn.le, fun p hp => ?_, F'.nd, F'.sim⟩
        rcases List.mem_cons.mp hp with rfl | hp
        · exact ⟨hIn, oI, hoI, fun h'' e l' => T.st _ _ _ _ hst₂ hoI e l'⟩
        · exact Fn.tu p hp
      refine wpAny_bind (go_list hst₂.1 ?_)
      have hv : us[i]? = some v := by simpa using hP
      refine wpAny_bind (wpAny_mono (turn i v g' l' _ ys' _ _ hv lg hJ F₂.swap).out (fun _ s₅ h₅ => ?_) fun _ _ e => e)
      refine wpAny_bind (wpAny_bind (wpAny_mono h₅.out (fun y s₆ h₆ => ?_) fun _ _ e => e))
      obtain ⟨g4, l4, lg4, hJ4, F5⟩ := h₆
      have F6 : Fx s₀ g4 ((D, Lst ys') :: (C, Loc l4) :: (I, Itr g I (fun i h => h.IsListIter I b i ∧ h.IsList b us.toArray) (i + 1)) :: mu) s₆ := F5.perm ((List.Perm.cons _ (List.Perm.swap _ _ _)).trans (List.Perm.swap _ _ _))
      obtain ⟨oD, hoD, m, rfl⟩ := F6.get (.head _)
      rw [List.size_toArray] at hlt
      refine wpAny_bind (append_at hoD (fun h' hs ho' => ?_) (by rw [List.size_toArray]; exact Nat.le_trans (show ys'.length ≤ 1000000 by omega) (by rw [sizeLine_eq]; decide)))
      have F7 := F6.upd (P' := Lst (ys' ++ [y])) s₆.toks hs ho' ⟨m + 1, by rw [List.push_toArray]⟩
      refine wpAny_pure (wpAny_pure ⟨rfl, us.length + 1 - (i + 1), by omega, g4, l4, ys' ++ [y], i + 1, lg.trans lg4, hJ4, by rw [List.length_append, hyl]; simp; omega, ?_, hlt, rfl⟩)
      exact F7.perm ((List.Perm.swap _ _ _).trans ((List.Perm.cons _ (List.Perm.swap _ _ _)).trans (List.Perm.swap _ _ _)))
    · rw [List.size_toArray] at hlt
      obtain rfl : i = us.length := Nat.le_antisymm hi (Nat.not_lt.mp hlt)
      have hst' : s'.heap.IsListIter I b us.toArray.size ∧ s'.heap.IsList b us.toArray := by rw [List.size_toArray]; exact hst
      refine T.W.done _ _ _ hst' fun h₂ tk₂ hk₂ => ?_
      exact wpAny_pure (done g' l' ys' _ lg hJ hyl (next tk₂ hk₂))
  exact start_in loop (T.W.self 0 _ _ _ (dead (Le.refl _) F0) loop)
end
/-- what a turn of the inner clause gives -/
def Inn (w : World) (A : Around) (elt : Expr) (x : Str) (px : Pos) (cenv : Env) (C : Addr) (s₀ : Shared) (g : Heap) (l : List (Str × Value)) (ys us : List Value) (K : Heap → List Value → Prop) : Prop :=
  ∃ J2 : Nat → Heap → List (Str × Value) → List Value → Prop, J2 0 g l ys ∧
    (∀ k u g' l' mu₂ ys' s' E', us[k]? = some u → Le g g' → J2 k g' l' ys' → Fx s₀ g' ((C, Loc l') :: mu₂) s' →
      Wp w A (assign (.Name x px) cenv u) (fun _ s₅ => Wp w A (eval elt cenv) (fun y s₆ => ∃ g4 l4, Le g' g4 ∧ J2 (k + 1) g4 l4 (ys' ++ [y]) ∧ Fx s₀ g4 ((C, Loc l4) :: mu₂) s₆) E' s₅) E' s') ∧
    (∀ g' l' ys', Le g g' → J2 us.length g' l' ys' → K g' ys')
section
variable {w : World} {A : Around} {E : Value → Shared → Prop} {s₀ s : Shared} {g : Heap} {mu : Mu} {I : Addr} {n : Nat} {P : Nat → Value → Prop} {St : Nat → Heap → Prop} {fp : List Addr}
  {elt t0 i0 i1 : Expr} {x : Str} {px : Pos} {scope : Scope} {pos : Pos} {env : Env} {cl : List (Str × Addr)}
theorem comp2_block {RR : Value → Addr → Result → Shared → Prop} (hh : A.handled = none) (T : It w A g I n P St fp) (F : Fx s₀ g ((I, Itr g I St 0) :: mu) s)
    (hcell : ∀ y ∈ scope.names, y.2 ≠ .cell) (hkind : scope.kind = .function)
    (J : Nat → Heap → List Value → Prop) (h0 : J 0 g [])
    (hgo : ∀ i (s' : Shared) v (Q' : Unit → Shared → Prop) E', St i s'.heap → Q' () s' → wpAny (model PR w) A (letOwnedTupleGo t0 (.ref I) v) Q' E' s')
    (hs1 : ∀ C v, foldedSetIterable i1 (compEnvC scope cl C env) v = pure v)
    (turn : ∀ i v g' C D l ys mu₁ s' E', i < n → P i v → Le g g' → J i g' ys → (∀ p ∈ mu, p ∈ mu₁) → Fx s₀ g' ((C, Loc l) :: (D, Lst ys) :: mu₁) s' →
      Wp w A (assign t0 (compEnvC scope cl C env) v) (fun _ s₂ => Wp w A (eval i1 (compEnvC scope cl C env)) (fun v₂ s₃ => ∃ b us g2 l2, v₂ = .ref b ∧ Le g' g2 ∧ g2.IsList b us.toArray ∧ Fx s₀ g2 ((C, Loc l2) :: (D, Lst ys) :: mu₁) s₃ ∧
        ys.length + us.length ≤ 1000000 ∧ Inn w A elt x px (compEnvC scope cl C env) C s₀ g2 l2 ys us (J (i + 1))) E' s₂) E' s')
    (hRR : ∀ C D g' ys l s', Le g g' → J n g' ys → Fx s₀ g' ((C, Loc l) :: (D, Lst ys) :: mu) s' → RR (.ref D) C (.ok .next) s') :
    wpAny (model PR w) A (newList []) (fun acc s₃ => wpAny (model PR w) A (newFunctionEnv scope env.globals cl [] env.qual none .none (some env)) (fun cenv s₄ =>
      codeAny (model PR w) A (.compStart (.ListComp elt [⟨t0, i0, [], 0⟩, ⟨.Name x px, i1, [], 0⟩] scope pos) 0 (.ref I) acc { cenv with scope := relabel scope env }) (RR acc cenv.locals) s₄) E s₃) E s := by
  refine wpAny_newObj_type (wpAny_newFunctionEnv hcell (by intro y hy; simp at hy) (fun h₁ hns₁ hsb₁ => ?_) hkind)
  have F2 := F.alloc (P := Lst []) { cls := .type "list", data := .seq ([] : List Value).toArray } ⟨0, rfl⟩
  dsimp only at hns₁ hsb₁ ⊢
  generalize hH : ({ s with heap := s.heap.push { cls := .type "list", dict := none, data := .seq ([] : List Value).toArray } } : Shared) = s₁ at F2
  have e1 : s₁.heap = s.heap.push { cls := .type "list", dict := none, data := .seq ([] : List Value).toArray } := by rw [← hH]
  rw [← e1] at hns₁ hsb₁ ⊢
  obtain ⟨oC, hoC, hnC⟩ := LCg.ns_obj hns₁
  have F3 := F2.more (P := Loc []) (s.toks + ([] : List (Str × Value)).length) (fun b o e => hsb₁.extBut b o (Nat.ne_of_lt (Heap.lt_size e)) (Heap.get?_push_of_some _ e)) hoC ⟨_, hnC, fun p hp => nomatch hp⟩
  have e2 : ({ s₁ with heap := h₁, toks := s.toks + ([] : List (Str × Value)).length } : Shared) = { s with heap := h₁, toks := s.toks + ([] : List (Str × Value)).length } := by rw [← hH]
  rw [e2] at F3
  generalize s₁.heap.objs.size = C at F3 ⊢
  generalize s.heap.objs.size = D at F3 ⊢
  generalize ({ s with heap := h₁, toks := s.toks + ([] : List (Str × Value)).length } : Shared) = s₃ at F3 ⊢
  have dead : ∀ {g' mu' s'} {i : Nat}, Le g g' → Fx s₀ g' ((I, Itr g I St i) :: mu') s' → St i s'.heap := fun l F' => by
    obtain ⟨o, ho, hp⟩ := F'.get (.head _)
    exact hp _ ho (l.trans F'.le)
  have F4 : Fx s₀ g ((I, Itr g I St 0) :: (C, Loc []) :: (D, Lst []) :: mu) s₃ := F3.perm ((List.Perm.cons _ (List.Perm.swap _ _ _)).trans (List.Perm.swap _ _ _))
  have loop : codeAny (model PR w) A (.compLoop (.ListComp elt [⟨t0, i0, [], 0⟩, ⟨.Name x px, i1, [], 0⟩] scope pos) 0 (.ref I) (.ref D) (compEnvC scope cl C env)) (RR (.ref D) C) s₃ := by
    refine codeAny_loop rfl
      (fun k s' => ∃ g' l ys i, Le g g' ∧ J i g' ys ∧ Fx s₀ g' ((I, Itr g I St i) :: (C, Loc l) :: (D, Lst ys) :: mu) s' ∧ i ≤ n ∧ k = n + 1 - i) ?_ (n + 1) ⟨g, [], [], 0, Le.refl _, h0, F4, Nat.zero_le _, rfl⟩
    rintro k s' ⟨g', l, ys, i, lg, hJ, F', hi, rfl⟩
    show wpAny _ A ((compTurn (.ListComp elt [⟨t0, i0, [], 0⟩, ⟨.Name x px, i1, [], 0⟩] scope pos) 0 (.ref I) (.ref D) (compEnvC scope cl C env)).onRaise (fun x => do noteFrame x (compEnvC scope cl C env); theTreesLotGoes x)) _ _ s'
    refine wpAny_noted ?_
    rw [compTurn_out]
    have hst := dead lg F'
    have hI := (F'.tu _ (.head _)).1
    have ndI := (List.nodup_cons.mp F'.nd).1
    have next : ∀ {h₁ : Heap} (tk : Nat), (∀ b o, b ∉ [I] → s'.heap.get? b = some o → h₁.get? b = some o) → Fx s₀ g' ((C, Loc l) :: (D, Lst ys) :: mu) { s' with heap := h₁, toks := tk } := fun tk hk => by
      refine ⟨fun b o e => hk b o (fun q => ?_) (F'.le b o e), fun p hp => ?_, F'.drop.nd, F'.sim⟩
      · rw [List.mem_singleton.mp q, hI] at e; cases e
      · obtain ⟨h1, o, h2, h3⟩ := F'.tu p (.tail _ hp)
        exact ⟨h1, o, hk _ _ (fun q => ndI (List.mem_map.mpr ⟨p, hp, List.mem_singleton.mp q⟩)) h2, h3⟩
    refine wpAny_bind (wpAny_standAt (wpAny_bind ?_))
    by_cases hlt : i < n
    · refine T.W.item i _ _ _ hlt hst fun v h₂ tk₂ hP hst₂ hk₂ => ?_
      obtain ⟨oI, hoI⟩ := T.on _ _ hst₂
      have Fn := next tk₂ hk₂
      have F₁ : Fx s₀ g' ((I, Itr g I St (i + 1)) :: (C, Loc l) :: (D, Lst ys) :: mu) { s' with heap := h₂, toks := tk₂ } := by
        refine ⟨Fn.le, fun p hp => ?_, F'.nd, F'.sim⟩
        rcases List.mem_cons.mp hp with rfl | hp
        · exact ⟨hI, oI, hoI, fun h'' e l' => T.st _ _ _ _ hst₂ hoI e l'⟩
        · exact Fn.tu p hp
      refine wpAny_bind (hgo (i + 1) _ v _ _ hst₂ ?_)
      have F₂ : Fx s₀ g' ((C, Loc l) :: (D, Lst ys) :: (I, Itr g I St (i + 1)) :: mu) { s' with heap := h₂, toks := tk₂ } := F₁.perm ((List.Perm.swap _ _ _).trans (List.Perm.cons _ (List.Perm.swap _ _ _)))
      refine wpAny_bind (wpAny_mono (turn i v g' C D l ys _ _ _ hlt hP lg hJ (fun p hp => .tail _ hp) F₂).out (fun _ s₂ h₂ => ?_) fun _ _ e => e)
      refine wpAny_bind (wpAny_mono h₂.out (fun v₂ s₃ h₃ => ?_) fun _ _ e => e)
      obtain ⟨b, us, g2, l2, rfl, lg2, hl2, F₃, hsz, J2, hJ0, hturn, hdone⟩ := h₃
      refine wpAny_bind (wpAny_standAt ?_)
      rw [hs1]
      refine wpAny_bind (wpAny_pure (wpAny_bind (wpAny_holding ?_)))
      refine wpAny_mono (inner_loop (R := fun r s' => match r with | .ok f => wpAny (model PR w) A (again (.compLoop (.ListComp elt [⟨t0, i0, [], 0⟩, ⟨.Name x px, i1, [], 0⟩] scope pos) 0 (.ref I) (.ref D) (compEnvC scope cl C env))) _ _ s' | .error e => _) hh F₃ hl2 J2 hJ0 hsz hturn fun g4 l4 ys4 s4 lg4 hJ4 hy4 F4 => ?_) (fun it s₄ h₄ => wpAny_bind (wpAny_runOwn h₄)) fun _ _ e => e
      refine wpAny_pure ⟨rfl, n + 1 - (i + 1), by omega, g4, l4, ys4, i + 1, lg.trans (lg2.trans lg4), hdone _ _ _ lg4 hJ4, ?_, hlt, rfl⟩
      exact F4.perm ((List.Perm.cons _ (List.Perm.swap _ _ _)).trans (List.Perm.swap _ _ _))
    · obtain rfl : i = n := Nat.le_antisymm hi (Nat.not_lt.mp hlt)
      refine T.W.done _ _ _ hst fun h₂ tk₂ hk₂ => ?_
      exact wpAny_pure (hRR C D g' ys l _ lg hJ (next tk₂ hk₂))
  exact codeAny_compStart_list loop (T.W.self 0 _ _ _ (dead (Le.refl _) F4) loop)
end
structure Cm2 (w : World) (A : Around) (elt t0 i0 i1 : Expr) (x : Str) (px : Pos) (scope : Scope) (pos : Pos) (cl : List (Str × Addr)) (env : Env) (Q : Value → Shared → Prop) (E : Value → Shared → Prop) (v : Value) (s : Shared) : Prop where
  out : wpAny (model PR w) A (pyIter v) (fun it s₂ => wpAny (model PR w) A (newList []) (fun acc s₃ => wpAny (model PR w) A (newFunctionEnv scope env.globals cl [] env.qual none .none (some env)) (fun cenv s₄ =>
      codeAny (model PR w) A (.compStart (.ListComp elt [⟨t0, i0, [], 0⟩, ⟨.Name x px, i1, [], 0⟩] scope pos) 0 it acc { cenv with scope := relabel scope env }) (compPost (model PR w) A E none Q acc cenv.locals) s₄) E s₃) E s₂) E s
section
variable {w : World} {A : Around} {E : Value → Shared → Prop} {s₀ s : Shared} {g : Heap} {mu : Mu} {elt t0 i0 i1 : Expr} {x : Str} {px : Pos} {scope : Scope} {pos : Pos} {env : Env} {cl : List (Str × Addr)} {Q : Value → Shared → Prop}
theorem ev_comp2 (h : Wp w A (eval i0 env) (fun v s₁ => Cm2 w A elt t0 i0 i1 x px scope pos cl env Q E v s₁) E s) (hclos : closureFor scope env = pure cl := by rfl) (hkind : scope.kind = .function := by rfl)
    (hnames : ∀ y ∈ scope.names, y.2 = .local → scope.names.lookup y.1 = some .local := by decide) (hs : ∀ x, foldedSetIterable i0 env x = pure x := by intro _; unfold foldedSetIterable; rfl) :
    Wp w A (eval (.ListComp elt [⟨t0, i0, [], 0⟩, ⟨.Name x px, i1, [], 0⟩] scope pos) env) Q E s := by
  refine ⟨?_⟩
  rw [eval_ListComp]
  exact wpAny_comprehension_free (use := none) rfl hs hclos hkind hnames (wpAny_mono h.out (fun xv s₁ h₁ => h₁.out) fun _ _ e => e)
theorem cm_list2 {a : Addr} {items : Array Value} (hh : A.handled = none) (F : Fx s₀ g mu s) (hl : g.IsList a items)
    (J : Nat → Heap → List Value → Prop) (h0 : J 0 g [])
    (turn : ∀ i v g' C D l ys mu₁ s' E', i < items.size → items[i]? = some v → Le g g' → J i g' ys → (∀ p ∈ mu, p ∈ mu₁) → Fx s₀ g' ((C, Loc l) :: (D, Lst ys) :: mu₁) s' →
      Wp w A (assign t0 (compEnvC scope cl C env) v) (fun _ s₂ => Wp w A (eval i1 (compEnvC scope cl C env)) (fun v₂ s₃ => ∃ b us g2 l2, v₂ = .ref b ∧ Le g' g2 ∧ g2.IsList b us.toArray ∧ Fx s₀ g2 ((C, Loc l2) :: (D, Lst ys) :: mu₁) s₃ ∧
        ys.length + us.length ≤ 1000000 ∧ Inn w A elt x px (compEnvC scope cl C env) C s₀ g2 l2 ys us (J (i + 1))) E' s₂) E' s')
    (fin : ∀ C D g' ys l s', Le g g' → J items.size g' ys → Fx s₀ g' ((C, Loc l) :: (D, Lst ys) :: mu) s' → compPost (model PR w) A E none Q (.ref D) C (.ok .next) s')
    (hcell : ∀ y ∈ scope.names, y.2 ≠ .cell := by decide) (hkind : scope.kind = .function := by rfl) (hs1 : ∀ C v, foldedSetIterable i1 (compEnvC scope cl C env) v = pure v := by intro _ _; unfold foldedSetIterable; rfl) :
    Cm2 w A elt t0 i0 i1 x px scope pos cl env Q E (.ref a) s := by
  refine ⟨?_⟩
  have hls : s.heap.IsList a items := hl.at fun o e => F.le _ _ e
  refine wpAny_pyIter_list hls ?_
  obtain ⟨o, ho, _⟩ := id hls
  have T : It w A g s.heap.objs.size _ _ _ _ := It.list hh hl (Nat.ne_of_lt (Heap.lt_size ho))
  have F' := F.alloc (P := fun o => o = { cls := .type "list_iterator", data := .fields #[.ref a, .int 0 0] }) _ rfl
  refine comp2_block hh T (F'.weak fun o e => ?_) hcell hkind J h0 (fun i s' v Q' E' st h => go_list st.1 h) hs1 turn fin
  subst e
  exact fun h e l => ⟨⟨_, e, rfl, rfl⟩, hl.at fun o' e'' => l _ _ e''⟩
end
end Mine

end
section
open PySem PySem.W PyProof.Rows PySem.Calls PySem.Spec
set_option Elab.async false
set_option maxRecDepth 100000
set_option autoImplicit false
set_option linter.unusedVariables false
namespace Mine
section
variable {w : World} {A : Around} {E : Value → Shared → Prop} {s₀ s : Shared} {g : Heap} {mu : Mu} {env : Env} {pos : Pos}
theorem ev_slc {e1 e2 : Expr} {Q : Value → Shared → Prop} (h : Wp w A (eval e1 env) (fun a s₁ => Wp w A (eval e2 env) (fun b s₂ => Q (.ref s₂.heap.objs.size) { s₂ with heap := s₂.heap.push { cls := .type "slice", data := .fields #[a, b, .none] } }) E s₁) E s) :
    Wp w A (eval (.Slice (some e1) (some e2) none pos) env) Q E s := by
  refine ⟨wpAny_Slice ?_⟩
  rw [evalPart_some, evalPart_some, evalPart_none]
  exact wpAny_mono h.out (fun a s₁ h₁ => wpAny_mono h₁.out (fun b s₂ h₂ => wpAny_pure h₂) fun _ _ e => e) fun _ _ e => e
theorem ev_slc0 {e2 : Expr} {Q : Value → Shared → Prop} (h : Wp w A (eval e2 env) (fun b s₂ => Q (.ref s₂.heap.objs.size) { s₂ with heap := s₂.heap.push { cls := .type "slice", data := .fields #[.none, b, .none] } }) E s) :
    Wp w A (eval (.Slice none (some e2) none pos) env) Q E s := by
  refine ⟨wpAny_Slice ?_⟩
  rw [evalPart_some, evalPart_none]
  exact wpAny_pure (wpAny_mono h.out (fun b s₂ h₂ => wpAny_pure h₂) fun _ _ e => e)
theorem sub_str {value slice : Expr} {x : Str} {t ui uj : Tok} {i j : Int} {Q : Value → Shared → Prop} (F : Fx s₀ g mu s) (hsz : x.length ≤ 1000000) (h : ∀ t s', Fx s₀ g mu s' → Q (.str (Txt.slice x (some i) (some j)) t) s')
    (hs : subscripted slice false (.str x t) (.ref s.heap.objs.size) = operate [.ref s.heap.objs.size, .str x t] (getItem (.str x t) (.ref s.heap.objs.size)) := by with_unfolding_all rfl)
    (ht : ∀ r, letTemporaryGo value (.str x t) r = pure () := by intro _; with_unfolding_all rfl) :
    Wp w A (subscriptTail value slice (.str x t) (.ref s.heap.objs.size)) Q E { s with heap := s.heap.push { cls := .type "slice", data := .fields #[.int i ui, .int j uj, .none] } } :=
  ⟨tail_of_ItemOn (SBG.sliceItem_ss (Fm := Fx s₀ g mu) (fun s ob k F => F.keeps k fun _ _ e => Heap.get?_push_of_some _ e) F (fun s' t' F' => h t' s' F') (by rw [sizeLine_eq]; omega)) hs ht⟩
theorem sub_list {value slice : Expr} {l : Addr} {items : Array Value} {vl vu : Value} {lo hi : Option Int} {Q : Value → Shared → Prop} (F : Fx s₀ g mu s) (hl : g.IsList l items) (pl : IsPart vl lo) (pu : IsPart vu hi) (hsz : items.size ≤ 1000000)
    (h : ∀ a s' g', Le g g' → g'.get? a = some { cls := .type "list", data := .seq (slicePick items lo hi none) } → Fx s₀ g' mu s' → Q (.ref a) s')
    (hs : subscripted slice false (.ref l) (.ref s.heap.objs.size) = operate [.ref s.heap.objs.size, .ref l] (getItem (.ref l) (.ref s.heap.objs.size)) := by with_unfolding_all rfl) :
    Wp w A (subscriptTail value slice (.ref l) (.ref s.heap.objs.size)) Q E { s with heap := s.heap.push { cls := .type "slice", data := .fields #[vl, vu, .none] } } := by
  have hls : s.heap.IsList l items := lst_up F.le hl
  refine ⟨kba_turn (value' := .Name (Str.ofString "x") ⟨0, 0, 0, 0⟩) (fun _ => rfl) ?_⟩
  refine subscriptTail_ops (Heap.IsList.typeIs (s := { s with heap := s.heap.push { cls := .type "slice", data := .fields #[vl, vu, .none] } }) (hls.push _)) list_getitem_lookup
    (wpAny_getItem_list_slice (hls.push _) (Heap.IsSliceOf.new ..) pl pu .none (by simp) ?_ (by rw [sizeLine_eq]; omega)) hs (fun _ => rfl)
  have F1 : Fx s₀ g mu { s with heap := s.heap.push { cls := .type "slice", data := .fields #[vl, vu, .none] } } := F.keeps s.toks fun _ _ e => Heap.get?_push_of_some _ e
  obtain ⟨g', l', e, F'⟩ := F1.allocF { cls := .type "list", data := .seq (slicePick items lo hi none) }
  exact h _ _ g' l' e F'
end
end Mine

end
section
open PySem PySem.W PyProof.Rows PySem.Calls PySem.Spec
set_option Elab.async false
set_option maxRecDepth 100000
set_option autoImplicit false
set_option maxHeartbeats 1000000
set_option linter.unusedVariables false
namespace Mine
theorem fillL : (PySem.Challenge.rw_mq0069_01 = PySem.Challenge.rw_mq0069_01) ∧ (hd.heap_39 = hd.heap_39) := by k_fill; exact ⟨rfl, rfl⟩
def wd (x : Str) (p : Nat × Nat) : Str := Txt.slice x (some (p.1 : Int)) (some (p.2 : Int))
abbrev GtV : PyData → PyData → Bool → Prop := GtLL GtS 0
abbrev GtR : PyData → PyData → Bool → Prop := GtLL (GtLL GtS 0) 1
/-- the spans of which the word is higher than the n-th's -/
def upOf (sp : List (Nat × Nat)) (gt : Nat → Nat → Bool) (n : Nat) (m : Nat) : List (Nat × Nat) := ((List.range m).filter fun k => gt k n).map fun k => sp.getD k (0, 0)
def dueStep (ends : Bool) (col : Int) (due : Option (Nat × Nat)) (p : Nat × Nat) : Option (Nat × Nat) :=
  if ends then (if (p.2 : Int) < col then some (p.2, p.2) else due) else (if (p.2 : Int) ≤ col then some p else due)
def dueOf (ends : Bool) (col : Int) (hs : List (Nat × Nat)) : Option (Nat × Nat) := hs.foldl (dueStep ends col) none
/-- what the plain law says -/
structure PlainOk (x : Str) (sp : List (Nat × Nat)) (gt : Nat → Nat → Bool) : Prop where
  xl : x.length ≤ 100
  asc : ∀ c ∈ x.cps.toList, c < 128
  len : sp.length ≤ 100
  bnd : ∀ p ∈ sp, p.1 ≤ p.2 ∧ p.2 ≤ 100
  cmpR : ∀ (k n : Nat) (p q : Nat × Nat), sp[k]? = some p → sp[n]? = some q → GtR (runsD (wd x p).cps.toList) (runsD (wd x q).cps.toList) (gt k n)
  cmpV : ∀ (k n : Nat) (p q : Nat × Nat), sp[k]? = some p → sp[n]? = some q → GtV (versionD (wd x p)) (versionD (wd x q)) (gt k n)
  rev : ∀ (ends : Bool) (col : Int) (n : Nat), revOf (spansOf ends (upOf sp gt n sp.length)) col = dueOf ends col (upOf sp gt n sp.length)
theorem wd_in (x : Str) (p : Nat × Nat) : (wd x p).length ≤ x.length ∧ ∀ c ∈ (wd x p).cps.toList, c ∈ x.cps.toList := by
  refine ⟨Txt.slice_le _ _ _, fun c hc => ?_⟩
  unfold wd Txt.slice at hc
  split at hc
  · exact hc
  · simp only [List.mem_filterMap] at hc
    obtain ⟨i, _, hi⟩ := hc
    exact List.mem_of_getElem? (by rw [Array.getElem?_toList]; exact hi)

theorem pick_clip (items : Array Value) (b : Nat) : slicePick items none (some (b : Int)) none = (items.toList.take b).toArray := by
  have e : sliceBounds none (some (b : Int)) none items.size = sliceBounds none (some ((min b items.size : Nat) : Int)) none items.size := by
    simp only [sliceBounds, Option.getD_none]
    have h2 : ¬ ((b : Int) < 0) := by omega
    have h3 : ¬ (((min b items.size : Nat) : Int) < 0) := by omega
    simp only [h2, h3, if_false, show (1 : Int) > 0 by decide, if_true]
    congr 2; omega
  have : slicePick items none (some (b : Int)) none = slicePick items none (some ((min b items.size : Nat) : Int)) none := by unfold slicePick; rw [e]
  rw [this, slicePick_upto items _ (Nat.min_le_right _ _)]
  congr 1
  rw [show items.size = items.toList.length from by simp, List.take_eq_take_min.symm] <;> simp
theorem pick_init (items : Array Value) : slicePick items none (some (-1)) none = (items.toList.dropLast).toArray := by
  have e : sliceBounds none (some (-1)) none items.size = sliceBounds none (some ((items.size - 1 : Nat) : Int)) none items.size := by
    simp only [sliceBounds, Option.getD_none]
    have h3 : ¬ (((items.size - 1 : Nat) : Int) < 0) := by omega
    simp only [h3, if_false, show (1 : Int) > 0 by decide, show (-1 : Int) < 0 by decide, if_true]
    congr 2; omega
  have : slicePick items none (some (-1)) none = slicePick items none (some ((items.size - 1 : Nat) : Int)) none := by unfold slicePick; rw [e]
  rw [this, pick_clip, List.dropLast_eq_take]
  simp
theorem RdA.take {g : Heap} : ∀ {ds : List PyData} {vs : List Value} (k : Nat), RdA g vs ds → RdA g (vs.take k) (ds.take k)
  | [], vs, k, x => by rw [x.inv0]; simp; exact .nil
  | d :: ds, vs, 0, x => by simp; exact .nil
  | d :: ds, vs, k + 1, x => by
    obtain ⟨u, us, rfl, h1, h2⟩ := x.inv
    exact .cons h1 (RdA.take k h2)
def colP (p : Nat × Nat) : List Int := [(p.2 : Int) + -1, (p.2 : Int) + 0, (p.2 : Int) + 1]
def colsOf (sp : List (Nat × Nat)) : List Int := (sp.flatMap colP).dropLast
theorem ev_neg {w : World} {A : Around} {E : Value → Shared → Prop} {s₀ s : Shared} {g : Heap} {mu : Mu} {env : Env} {pos p2 : Pos} {k : Nat} {i : Int} {Q : Value → Shared → Prop} (F : Fx s₀ g mu s) (h : ∀ t s', Fx s₀ g mu s' → Q (.int (-i) t) s') : Wp w A (eval (.UnaryOp .USub (.Constant (.int i) k p2) pos) env) Q E s :=
  ⟨UnaryOp_ (wpAny_mono (ct_int (w := w) (A := A) (E := E) (env := env) (Q := fun v s₁ => Wp w A (unaryOp .USub v) Q E s₁) F fun t s F => ⟨PyProof.Rows.neg_int (h _ _ (F.tok _))⟩).out (fun _ _ h => h.out) fun _ _ e => e)⟩
theorem ct_ofC {w : World} {A : Around} {E : Value → Shared → Prop} {s₀ s : Shared} {g : Heap} {mu₁ : Mu} {ys : List Value} {elt target : Expr} {J : Heap → List Value → Prop} {v : Value} {cenv : Env}
    (h : Wp w A (assign target cenv v) (fun _ s₂ => Wc w A (eval elt cenv) (fun y s₄ => ∃ g' l, Le g g' ∧ J g' (ys ++ [y]) ∧ Fx s₀ g' ((cenv.locals, Loc l) :: mu₁) s₄) E s₂) E s) : CTurnC w A elt target [] cenv s₀ g mu₁ ys J E v s :=
  wp_mono h fun _ _ h₂ => ⟨fun _ => h₂, fun e => nomatch e⟩
theorem as_cell {w : World} {A : Around} {E : Value → Shared → Prop} {s₀ s : Shared} {g : Heap} {mu : Mu} {env : Env} {x : Str} {p : Pos} {c : Addr} {v : Value} {P : Obj → Prop} {pre post : Mu} {Q : Unit → Shared → Prop} (F : Fx s₀ g mu s) (hc : env.cells.lookup x = some c) (hm : mu = pre ++ (c, P) :: post) (hP : ∀ o, P o → CelX o)
    (h : ∀ s', Fx s₀ g (pre ++ (c, Cel v) :: post) s' → Q () s') (hk : env.scope.kind = .function := by rfl) (hl : env.kindOf x = some .cell := by rfl) : Wp w A (assign (.Name x p) env v) Q E s :=
  ⟨wpAny_assign_Name (stoc (w := w) F hc hm hP h hk hl).out⟩
theorem cm_gt {w : World} {A : Around} {E : Value → Shared → Prop} {s₀ s : Shared} {g : Heap} {mu : Mu} {T : PyData → PyData → Bool → Prop} {k : Nat} (hT : GtK T k) {x y : PyData} {b : Bool} {vx vy : Value} {Q : Value → Shared → Prop} (F : Fx s₀ g mu s) (hu : A.units + k < cLine) (h : T x y b) (rx : Rd g vx x) (ry : Rd g vy y)
    (hq : Q (.bool b) s) : Wp w A (compareOp .Gt vx vy) Q E s := ⟨cmp_ofGt (hT _ _ _ h A s vx vy hu (rx.up F.le) (ry.up F.le) _ _ _ _ hq)⟩
theorem gtR_k : GtK GtR 2 := GtL.k (GtL.k GtS.k)
theorem gtV_k : GtK GtV 1 := GtL.k GtS.k
theorem upOf_succ (sp : List (Nat × Nat)) (gt : Nat → Nat → Bool) (n k : Nat) : upOf sp gt n (k + 1) = upOf sp gt n k ++ (if gt k n then [sp.getD k (0, 0)] else []) := by
  unfold upOf
  rw [List.range_succ, List.filter_append, List.map_append]
  congr 1
  cases h : gt k n <;> simp [h]
theorem RdA.at {g : Heap} {ds : List PyData} {vs : List Value} {i : Nat} {d : PyData} (x : RdA g vs ds) (h : ds[i]? = some d) : ∃ v, vs[i]? = some v ∧ Rd g v d := by
  have hi : i < vs.length := by rw [x.len]; exact (List.getElem?_eq_some_iff.mp h).1
  obtain ⟨d', h', r⟩ := x.get (List.getElem?_eq_getElem hi)
  rw [h] at h'; cases h'
  exact ⟨_, List.getElem?_eq_getElem hi, r⟩
theorem tailA {s₀ s : Shared} {g : Heap} (as bs cs ds : Mu) (F : Fx s₀ g (as ++ ((bs ++ cs) ++ ds)) s) : Fx s₀ g (as ++ (bs ++ (cs ++ ds))) s := by rwa [List.append_assoc] at F
theorem tailB {s₀ s : Shared} {g : Heap} (as bs cs ds : Mu) (F : Fx s₀ g (as ++ (bs ++ (cs ++ ds))) s) : Fx s₀ g (as ++ ((bs ++ cs) ++ ds)) s := by rwa [List.append_assoc]
def DueV (g : Heap) (v : Value) (o : Option (Nat × Nat)) : Prop := match o with
  | none => v = .none
  | some p => Rd g v (spanD p)
theorem DueV.up {g g' : Heap} {v : Value} {o : Option (Nat × Nat)} (l : Le g g') (x : DueV g v o) : DueV g' v o := by
  cases o with
  | none => exact x
  | some p => exact Rd.up l x
theorem cm_is_none {w : World} {A : Around} {E : Value → Shared → Prop} {s : Shared} {v : Value} {Q : Value → Shared → Prop} (h : Q (.bool (v == .none)) s) : Wp w A (compareOp .Is v .none) Q E s := ⟨is_none_gen h⟩
theorem cm_isnot_none {w : World} {A : Around} {E : Value → Shared → Prop} {s : Shared} {v : Value} {Q : Value → Shared → Prop} (h : Q (.bool (!(v == .none))) s) : Wp w A (compareOp .IsNot v .none) Q E s := ⟨isnot_none_gen h⟩
theorem span_eqv (p : Nat × Nat) : PyData.eqv (spanD p) (spanD p) = true := by
  simp [spanD, PyData.eqv, PyData.eqvAll]
theorem cm_ne_span {w : World} {A : Around} {E : Value → Shared → Prop} {s₀ s : Shared} {g : Heap} {mu : Mu} {p : Nat × Nat} {u v : Value} {Q : Value → Shared → Prop} (F : Fx s₀ g mu s) (hu : A.units + 1 < cLine) (ru : Rd g u (spanD p)) (rv : Rd g v (spanD p)) (h : Q (.bool false) s) : Wp w A (compareOp .NotEq u v) Q E s := by
  obtain ⟨_, r1⟩ := ru.up F.le
  obtain ⟨_, r2⟩ := rv.up F.le
  have e : (!PyData.eqv (spanD p) (spanD p)) = false := by rw [span_eqv]; rfl
  refine ⟨cmp_ofNotEq (SeqAt.rcNeAt_reads r1 r2 rfl rfl ?_ _ _ _ _ (e ▸ h))⟩
  have : (spanD p).depth = 1 := rfl
  omega
theorem upOf_mem (sp : List (Nat × Nat)) (gt : Nat → Nat → Bool) (n : Nat) : ∀ p ∈ upOf sp gt n sp.length, p ∈ sp := by
  intro p hp
  obtain ⟨k, hk, rfl⟩ := List.mem_map.mp hp
  have hk := List.mem_range.mp (List.mem_filter.mp hk).1
  rw [List.getD_eq_getElem?_getD, List.getElem?_eq_getElem hk]
  exact List.getElem_mem hk
theorem spansOf_ok {ends : Bool} {H sp : List (Nat × Nat)} (h : ∀ p ∈ H, p ∈ sp) (b : ∀ p ∈ sp, p.1 ≤ p.2 ∧ p.2 ≤ 100) : ∀ p ∈ spansOf ends H, p.1 ≤ p.2 ∧ p.1 ≤ 1000 := by
  intro p hp
  cases ends with
  | false => have := b p (h p hp); omega
  | true =>
    obtain ⟨q, hq, rfl⟩ := List.mem_map.mp (show p ∈ H.map fun p => (p.2, p.2) from hp)
    have := b q (h q hq); omega
theorem law {w : World} (a : Addr) (ns : List Int) (gt : Nat → Nat → Bool) (hns : ns.length ≤ 1000000) (ok : PlainOk (rowOf (ns.take 6)) (wordsOf (rowOf (ns.take 6)).cps.toList) gt)
    {A : Around} {s₀ s : Shared} {g : Heap} {Q E : Value → Shared → Prop} (G : Gd w g) (R : Rm A 9) (hfr : A.frames = some []) (F : Fx s₀ g [(65, Tb #[])] s) (hscr : Rd g (.ref a) (.list (ns.map .int)))
    (hQ : ∀ s' g' ps mu', Le g g' → Fx s₀ g' ((65, Tb ps) :: mu') s' → Q (.bool true) s') : Wc w A (call (.ref 87) [.ref a]) Q E s := by
  generalize hx : rowOf (ns.take 6) = x at ok
  generalize hsp : wordsOf x.cps.toList = sp at ok
  refine callxC (binds := [(Str.ofString "script", .ref a)]) G R F (G.K _ _ (by k_is)) rfl (codeRec_of G.K (by k_is)) rfl (.of_eq rfl) rfl rfl ?_
  clear F
  intro L s E' R F
  have F : Fx s₀ g ((L + 5, CelX) :: (L + 4, CelX) :: (L + 3, CelX) :: (L + 2, CelX) :: (L + 1, CelX) :: (L, Loc []) :: [(65, Tb #[])]) s := F
  have F := F.perm (List.perm_middle (l₁ := [(L + 5, CelX), (L + 4, CelX), (L + 3, CelX), (L + 2, CelX), (L + 1, CelX)]))
  refine sto F fun s F => ⟨⟨_, F⟩, fun E' => ?_⟩
  obtain ⟨a', us, e, hla, hus⟩ := hscr.inv_list
  cases e
  have husl : us.length = ns.length := by have := hus.len; rwa [List.length_map] at this
  refine ex_assignC (callG G F (by k_is) (by k_is) (sp_cons (ev_sub (ld F (.head _) (.head _) (ev_slc0 (ct_int F fun t0 s F => sub_list F hla .none (.int _ _) (by rw [List.size_toArray]; omega) fun b s g1 l1 e1 F => sp_nil ⟨⟨_, _, l1, F⟩, ?_⟩)))))).c
  have hus6 : RdA g1 (slicePick us.toArray none (some 6) none).toList ((ns.take 6).map .int) := by
    have e6 : slicePick us.toArray none (some 6) none = (us.take 6).toArray := pick_clip us.toArray 6
    rw [e6, show (ns.take 6).map PyData.int = (ns.map PyData.int).take 6 from (List.map_take ..)]
    exact (hus.take 6).up l1
  refine row b (ns.take 6) (by simp; omega) _ _ _ _ _ _ _ (G.up l1) (R.less (by omega)) F (.list (n := 0) (vs := (slicePick us.toArray none (some 6) none).toList) (by simpa using e1) hus6) fun r s g2 l2 F hr => ?_
  rw [hx] at hr
  obtain ⟨tx, rfl⟩ := hr
  refine stoc (pre := [_, _, _, _, _]) F rfl rfl (fun _ h => h) fun s F => ?_
  have F : Fx s₀ g2 ((L, Loc []) :: (L + 1, Cel (.str x tx)) :: (L + 2, CelX) :: (L + 3, CelX) :: (L + 4, CelX) :: (L + 5, CelX) :: [(65, Tb #[])]) s :=
    (F.weak (Loc.sub (l' := []) fun p hp => nomatch hp)).perm (List.Perm.cons _ ((List.reverse_perm [(L + 1, Cel (.str x tx)), (L + 2, CelX), (L + 3, CelX), (L + 4, CelX), (L + 5, CelX)]).append_right _))
  have G := (G.up l1).up l2
  have hxl := ok.xl
  refine ex_assignC (callG G F (by k_is) (by k_is) (sp_cons (ldc F rfl (.tail _ (.head _)) (sp_nil ⟨⟨_, _, Le.refl _, F⟩, ?_⟩)))).c
  refine words x tx (by omega) _ _ _ _ _ _ _ G (R.less (by omega)) F trivial fun r s g3 l3 F hr => ?_
  rw [hsp] at hr
  obtain ⟨sa, ss, rfl, hsa, hss⟩ := hr.inv_list
  have hssl : ss.length = sp.length := by have := hss.len; rwa [List.length_map] at this
  refine stoc (pre := [_, _]) F rfl rfl (fun _ h => h) fun s F => ?_
  have F : Fx s₀ g3 ((L, Loc []) :: (L + 1, Cel (.str x tx)) :: (L + 2, Cel (.ref sa)) :: (L + 3, CelX) :: (L + 4, CelX) :: (L + 5, CelX) :: [(65, Tb #[])]) s := F
  have G := G.up l3
  have hln := ok.len
  refine ex_assignC (ev_comp (ldc F rfl (.tail _ (.tail _ (.head _))) ?_)).c
  refine cm_list R.hand F hsa (by rw [List.size_toArray]; omega) (fun i g' ys => RdA g' ys ((sp.take i).map fun p => runsD (wd x p).cps.toList)) .nil ?_ ?_
  · rintro i v g' C l mu₁ ys s' E' hi hv lg hJ hm F
    obtain ⟨d, hd, hr⟩ := hss.get (i := i) (v := v) (by simpa using hv)
    rw [List.getElem?_map] at hd
    obtain ⟨q, hq, rfl⟩ := Option.map_eq_some_iff.mp hd
    obtain ⟨b, t1, t2, rfl, ht⟩ := (hr.up lg).span
    refine ct_of (as_pair R.hand F ht fun s F => ?_)
    refine callG (G.up lg) F (by k_is) (by k_is) (sp_cons (ev_sub (ldc F rfl (.tail _ (hm _ (.tail _ (.head _)))) (ev_slc (ld F (.head _) (.tail _ (.head _)) (ld F (.head _) (.head _) (sub_str F (by omega) fun t3 s F => sp_nil ⟨⟨_, _, Le.refl _, F⟩, ?_⟩)))))))
    refine runs (wd x q) t3 (by have := (wd_in x q).1; omega) _ _ _ _ _ _ _ (G.up lg) (R.less (by omega)) F trivial fun r s g4 l4 F hr => ?_
    refine ⟨g4, _, l4, ?_, F⟩
    rw [List.take_add_one, hq, List.map_append]
    exact (hJ.up l4).snoc hr
  · intro C D g4 rs l s' lg hJ hyl F
    refine post_plain F fun g5 s n5 l5 e5 F => ?_
    have hrs : RdA g5 rs (sp.map fun p => runsD (wd x p).cps.toList) := by
      rw [List.size_toArray, hssl, List.take_length] at hJ
      exact hJ.up l5
    have hrsl : rs.length = sp.length := by have := hrs.len; rwa [List.length_map] at this
    refine stoc (pre := [_, _, _]) F rfl rfl (fun _ h => h) fun s F => ?_
    have F : Fx s₀ g5 ((L, Loc []) :: (L + 1, Cel (.str x tx)) :: (L + 2, Cel (.ref sa)) :: (L + 3, Cel (.ref D)) :: (L + 4, CelX) :: (L + 5, CelX) :: [(65, Tb #[])]) s := F
    have hra : g5.IsList D rs.toArray := ⟨_, e5, rfl, _, rfl⟩
    have G := G.up (lg.trans l5)
    have hsa := lst_up (lg.trans l5) hsa
    have hss := hss.up (lg.trans l5)
    have l05 : Le g g5 := l1.trans (l2.trans (l3.trans (lg.trans l5)))
    generalize D = ra at F hra
    clear hJ e5
    refine ex_assignC (ev_compC (ldc F rfl (.tail _ (.tail _ (.head _))) ?_))
    refine cm_listC R.hand F hsa (by rw [List.size_toArray]; omega) (fun i g' ys => RdA g' ys ((sp.take i).map fun p => versionD (wd x p))) .nil ?_ ?_
    · rintro i v g' C l mu₁ ys s' E' hi hv lg hJ hm F
      obtain ⟨d, hd, hr⟩ := hss.get (i := i) (v := v) (by simpa using hv)
      rw [List.getElem?_map] at hd
      obtain ⟨q, hq, rfl⟩ := Option.map_eq_some_iff.mp hd
      obtain ⟨b, t1, t2, rfl, ht⟩ := (hr.up lg).span
      refine ct_ofC (as_pair R.hand F ht fun s F => ?_)
      refine callGC (G.up lg) F (by k_is) (by k_is) (sp_cons (ev_sub (ldc F rfl (.tail _ (hm _ (.tail _ (.head _)))) (ev_slc (ld F (.head _) (.tail _ (.head _)) (ld F (.head _) (.head _) (sub_str F (by omega) fun t3 s F => sp_nil ⟨⟨_, _, Le.refl _, F⟩, ?_⟩)))))))
      refine version (wd x q) t3 (by have := (wd_in x q).1; omega) (fun c hc => ok.asc c ((wd_in x q).2 c hc)) _ _ _ _ _ _ _ _ (G.up lg) (R.less (by omega)) (Around.frames_deeper hfr)
        (Fms.cons (mu := []) (fun e he => nomatch he) (by intro q; cases q) rfl (.tail _ (hm _ (.head _))) (fun p hp => nomatch hp)) F fun r s g6 l6 F hr => ?_
      refine ⟨g6, _, l6, ?_, F⟩
      rw [List.take_add_one, hq, List.map_append]
      exact (hJ.up l6).snoc hr
    · intro C D g6 vs l s' lg hJ hyl F
      refine post_plain F fun g7 s n7 l7 e7 F => ?_
      have hvs : RdA g7 vs (sp.map fun p => versionD (wd x p)) := by
        rw [List.size_toArray, hssl, List.take_length] at hJ
        exact hJ.up l7
      have hvsl : vs.length = sp.length := by have := hvs.len; rwa [List.length_map] at this
      refine stoc (pre := [_, _, _, _]) F rfl rfl (fun _ h => h) fun s F => Wp.c ?_
      have F : Fx s₀ g7 ((L, Loc []) :: (L + 1, Cel (.str x tx)) :: (L + 2, Cel (.ref sa)) :: (L + 3, Cel (.ref ra)) :: (L + 4, Cel (.ref D)) :: (L + 5, CelX) :: [(65, Tb #[])]) s := F
      have hva : g7.IsList D vs.toArray := ⟨_, e7, rfl, _, rfl⟩
      have l67 := lg.trans l7
      have G := G.up l67
      have hsa := lst_up l67 hsa
      have hss := hss.up l67
      have hra := lst_up l67 hra
      have hrs := hrs.up l67
      have l07 := l05.trans l67
      generalize D = va at F hva
      clear hJ e7
      refine ex_assign (ev_sub (ev_comp2 (ldc F rfl (.tail _ (.tail _ (.head _))) ?_)))
      refine cm_list2 R.hand F hsa (fun i g' ys => RdA g' ys (((sp.take i).flatMap colP).map .int)) .nil ?_ ?_
      · rintro i v g' C D l ys mu₁ s' E' hi hv lg hJ hm F
        obtain ⟨d, hd, hr⟩ := hss.get (i := i) (v := v) (by simpa using hv)
        rw [List.getElem?_map] at hd
        obtain ⟨q, hq, rfl⟩ := Option.map_eq_some_iff.mp hd
        obtain ⟨b, t1, t2, rfl, ht⟩ := (hr.up lg).span
        refine as_pair R.hand F ht fun s F => ?_
        refine ev_list (sp_cons (ev_neg F fun t3 s F => sp_cons (ct_int F fun t4 s F => sp_cons (ct_int F fun t5 s F => sp_nil (mkList F fun b s g8 l8 e8 F => ?_)))))
        have hyl : ys.length ≤ 300 := by
          have := hJ.len
          rw [List.length_map] at this
          have h3 : ((sp.take i).flatMap colP).length = 3 * (sp.take i).length := by
            rw [List.length_flatMap, show (List.map (fun a => (colP a).length) (sp.take i)) = List.replicate (sp.take i).length 3 from ?_]
            · simp; omega
            · rw [List.eq_replicate_iff]; exact ⟨by simp, fun b hb => by obtain ⟨_, _, rfl⟩ := List.mem_map.mp hb; rfl⟩
          have : (sp.take i).length ≤ sp.length := by rw [List.length_take]; omega
          omega
        refine ⟨b, _, g8, _, rfl, l8, ⟨_, e8, rfl, _, rfl⟩, F, by simp; omega, ?_⟩
        refine ⟨fun k g' l' ys' => (Str.ofString "behind", Value.int (q.2 : Int) t2) ∈ l' ∧ RdA g' ys' ((((sp.take i).flatMap colP) ++ (colP q).take k).map .int), ⟨.head _, by simpa using hJ.up l8⟩, ?_, ?_⟩
        · rintro k u g9 l9 mu₂ ys9 s9 E9 hu lg9 ⟨hl9, hJ9⟩ F
          obtain ⟨j, t6, rfl, hj⟩ : ∃ j t6, u = .int j t6 ∧ (colP q)[k]? = some ((q.2 : Int) + j) := by
            match k, hu with
            | 0, hu => cases hu; exact ⟨_, _, rfl, rfl⟩
            | 1, hu => cases hu; exact ⟨_, _, rfl, rfl⟩
            | 2, hu => cases hu; exact ⟨_, _, rfl, rfl⟩
            | k + 3, hu => simp at hu
          refine as_name F fun s F => ?_
          have hl9' : (Str.ofString "behind", Value.int (q.2 : Int) t2) ∈ put (Str.ofString "k") (.int j t6) l9 := .tail _ (List.mem_filter.mpr ⟨hl9, show (!(Str.ofString "behind" == Str.ofString "k")) = true by decide +kernel⟩)
          refine ev_binop (ld F (.head _) hl9' (ld F (.head _) (.head _) (op_add F fun t7 s F => ⟨g9, _, Le.refl _, ⟨hl9', ?_⟩, F⟩)))
          rw [List.take_add_one, hj, ← List.append_assoc, List.map_append]
          exact hJ9.snoc (.int _ _)
        · rintro g9 l9 ys9 lg9 ⟨_, hJ9⟩
          rw [List.take_add_one, hq, List.flatMap_append]
          have e3 : (colP q).take 3 = colP q := rfl
          have hJ9 : RdA g9 ys9 ((((sp.take i).flatMap colP) ++ (colP q).take 3).map .int) := hJ9
          rw [e3] at hJ9
          simpa using hJ9
      · intro C D g8 cs l s' lg hJ F
        refine post_plain F fun g9 s n9 l9 e9 F => ?_
        have hcs : RdA g9 cs ((sp.flatMap colP).map .int) := by
          rw [List.size_toArray, hssl, List.take_length] at hJ
          exact hJ.up l9
        have hcsl : cs.length ≤ 300 := by
          have := hcs.len
          rw [List.length_map] at this
          have h3 : (sp.flatMap colP).length = 3 * sp.length := by
            rw [List.length_flatMap, show (List.map (fun a => (colP a).length) sp) = List.replicate sp.length 3 from ?_]
            · simp; omega
            · rw [List.eq_replicate_iff]; exact ⟨by simp, fun b hb => by obtain ⟨_, _, rfl⟩ := List.mem_map.mp hb; rfl⟩
          omega
        refine ev_slc0 (ev_neg F fun t8 s F => sub_list F ⟨_, e9, rfl, _, rfl⟩ .none (.int _ _) (by rw [List.size_toArray]; omega) fun co s g10 l10 e10 F => ?_)
        refine sto F fun s F => ?_
        have hcols : RdA g10 cs.dropLast ((colsOf sp).map .int) := by
          rw [colsOf, List.dropLast_eq_take, List.dropLast_eq_take, List.map_take]
          have := (hcs.take (cs.length - 1)).up l10
          have e := hcs.len
          rw [List.length_map] at e
          rwa [e] at this ⊢
        rw [pick_init] at e10
        have G := G.up ((lg.trans l9).trans l10)
        have l10' := (lg.trans l9).trans l10
        have hsa := lst_up l10' hsa
        have hss := hss.up l10'
        have hra := lst_up l10' hra
        have hrs := hrs.up l10'
        have hva := lst_up l10' hva
        have hvs := hvs.up l10'
        have l010 := l07.trans l10'
        have hco : g10.IsList co cs.dropLast.toArray := ⟨_, e10, rfl, _, rfl⟩
        have F : Fx s₀ g10 ((L, Loc [(Str.ofString "cols", .ref co)]) :: (L + 1, Cel (.str x tx)) :: (L + 2, Cel (.ref sa)) :: (L + 3, Cel (.ref ra)) :: (L + 4, Cel (.ref va)) :: (L + 5, CelX) :: [(65, Tb #[])]) s := F.weak (Loc.sub fun p hp => hp)
        clear hJ e9 e10 hcs
        refine ex_for (callT G F (by k_is) (by rfl) (sp_cons (callB G F (by k_is) (by rfl) (sp_cons (ldc F rfl (.tail _ (.tail _ (.head _))) (sp_nil (bi_len_list F hsa (fun t10 s F => sp_nil (bi_range F fun r s g11 t11 u11 l11 hr11 F => ?_)) (by omega))))))))
        rw [hssl] at hr11
        refine iter_rangeN R.hand F hr11 (by omega) (fun n g' mu' => ∃ P5 tm, TS g' tm ∧ (∀ o, P5 o → CelX o) ∧ mu' = (L, Loc [(Str.ofString "cols", .ref co)]) :: (L + 1, Cel (.str x tx)) :: (L + 2, Cel (.ref sa)) :: (L + 3, Cel (.ref ra)) :: (L + 4, Cel (.ref va)) :: (L + 5, P5) :: tm)
          ⟨_, _, .inl rfl, fun _ h => h, rfl⟩ ?_ ?_
        · rintro n tn g' mu' s E1 I PI hn lg ⟨P5, tm, hT, hP5, rfl⟩ F
          have lg := l11.trans lg
          have G := G.up lg
          obtain ⟨q, hq⟩ : ∃ q, sp[n]? = some q := ⟨_, List.getElem?_eq_getElem hn⟩
          obtain ⟨rv, hrv, hrr⟩ := hrs.at (i := n) (d := runsD (wd x q).cps.toList) (by rw [List.getElem?_map, hq]; rfl)
          obtain ⟨vv, hvv, hvr⟩ := hvs.at (i := n) (d := versionD (wd x q)) (by rw [List.getElem?_map, hq]; rfl)
          refine as_cell (pre := [_, _, _, _, _]) F rfl rfl hP5 (fun s F => ?_)
          have F : Fx s₀ g' ((L, Loc [(Str.ofString "cols", .ref co)]) :: (L + 1, Cel (.str x tx)) :: (L + 2, Cel (.ref sa)) :: (L + 3, Cel (.ref ra)) :: (L + 4, Cel (.ref va)) :: (L + 5, Cel (.int (n : Int) tn)) :: (tm ++ [(I, PI)])) s := F
          refine ex_assign_comp (callT G F (by k_is) (by rfl) (sp_cons (callB G F (by k_is) (by rfl) (sp_cons (ldc F rfl (.tail _ (.tail _ (.head _))) (sp_nil (bi_len_list F (lst_up lg hsa) (fun t12 s F => sp_nil (bi_range F fun r s g12 t13 u13 l12 hr12 F => ?_)) (by omega))))))))
          rw [hssl] at hr12
          refine cm_range R.hand F hr12 (by omega) (fun k g' ys => RdA g' ys ((upOf sp gt n k).map spanD)) .nil ?_ ?_
          · rintro k tk g13 C l mu₁ ys s' E2 hk l13 hJ hm F
            have l1013 := lg.trans (l12.trans l13)
            obtain ⟨p, hp⟩ : ∃ p, sp[k]? = some p := ⟨_, List.getElem?_eq_getElem hk⟩
            obtain ⟨rk, hrk, hrkr⟩ := hrs.at (i := k) (d := runsD (wd x p).cps.toList) (by rw [List.getElem?_map, hp]; rfl)
            obtain ⟨sk, hsk, hskr⟩ := hss.at (i := k) (d := spanD p) (by rw [List.getElem?_map, hp]; rfl)
            refine as_name F fun s F => ?_
            refine it_cmp (ev_sub (ldc F rfl (.tail _ (hm _ (.tail _ (.tail _ (.tail _ (.head _)))))) (ld F (.head _) (.head _) (at_list F (lst_up l1013 hra) (by omega) (by omega) (by simpa using hrk) ?_)))) rfl
            refine ev_sub (ldc F rfl (.tail _ (hm _ (.tail _ (.tail _ (.tail _ (.head _)))))) (ldc F rfl (.tail _ (hm _ (.tail _ (.tail _ (.tail _ (.tail _ (.tail _ (.head _)))))))) (at_list F (lst_up l1013 hra) (by omega) (by omega) (by simpa using hrv) ?_)))
            refine cm_gt gtR_k F (by have := R.unit; omega) (ok.cmpR k n p q hp hq) (hrkr.up l1013) (hrr.up l1013) (tr_bool ?_)
            have hup := upOf_succ sp gt n k
            refine ⟨fun h => ?_, fun h => ⟨g13, _, Le.refl _, ?_, F⟩⟩
            · rw [h, if_pos rfl, List.getD_eq_getElem?_getD, hp] at hup
              refine ev_sub (ldc F rfl (.tail _ (hm _ (.tail _ (.tail _ (.head _))))) (ld F (.head _) (.head _) (at_list F (lst_up l1013 hsa) (by omega) (by omega) (by simpa using hsk) ⟨g13, _, Le.refl _, ?_, F⟩)))
              rw [hup, List.map_append]
              exact hJ.snoc (hskr.up l1013)
            · rw [h] at hup
              rw [hup]
              simpa using hJ
          · intro C hi g14 hs l s' l14 hJ hyl F
            refine post_used F fun g15 s n15 l15 e15 F => ?_
            have l15' := lg.trans (l12.trans (l14.trans l15))
            have hhs : RdA g15 hs ((upOf sp gt n sp.length).map spanD) := hJ.up l15
            have hhl : g15.IsList hi hs.toArray := ⟨_, e15, rfl, _, rfl⟩
            have hhsl : hs.length ≤ sp.length := hyl
            have F : Fx s₀ g15 ((L, Loc [(Str.ofString "higher", .ref hi), (Str.ofString "cols", .ref co)]) :: (L + 1, Cel (.str x tx)) :: (L + 2, Cel (.ref sa)) :: (L + 3, Cel (.ref ra)) :: (L + 4, Cel (.ref va)) :: (L + 5, Cel (.int (n : Int) tn)) :: (tm ++ [(I, PI)])) s := F.weak (Loc.sub fun p hp => hp)
            have G := G.up (l12.trans (l14.trans l15))
            clear hJ e15
            refine ex_assign_comp (callT G F (by k_is) (by rfl) (sp_cons (callB G F (by k_is) (by rfl) (sp_cons (ldc F rfl (.tail _ (.tail _ (.head _))) (sp_nil (bi_len_list F (lst_up l15' hsa) (fun t12 s F => sp_nil (bi_range F fun r s g16 t13 u13 l16 hr16 F => ?_)) (by omega))))))))
            rw [hssl] at hr16
            refine cm_range R.hand F hr16 (by omega) (fun k g' ys => RdA g' ys ((upOf sp gt n k).map spanD)) .nil ?_ ?_
            · rintro k tk g17 C l mu₁ ys s' E2 hk l17 hJ hm F
              have l1017 := l15'.trans (l16.trans l17)
              obtain ⟨p, hp⟩ : ∃ p, sp[k]? = some p := ⟨_, List.getElem?_eq_getElem hk⟩
              obtain ⟨vk, hvk, hvkr⟩ := hvs.at (i := k) (d := versionD (wd x p)) (by rw [List.getElem?_map, hp]; rfl)
              obtain ⟨sk, hsk, hskr⟩ := hss.at (i := k) (d := spanD p) (by rw [List.getElem?_map, hp]; rfl)
              refine as_name F fun s F => ?_
              refine it_cmp (ev_sub (ldc F rfl (.tail _ (hm _ (.tail _ (.tail _ (.tail _ (.tail _ (.head _))))))) (ld F (.head _) (.head _) (at_list F (lst_up l1017 hva) (by omega) (by omega) (by simpa using hvk) ?_)))) rfl
              refine ev_sub (ldc F rfl (.tail _ (hm _ (.tail _ (.tail _ (.tail _ (.tail _ (.head _))))))) (ldc F rfl (.tail _ (hm _ (.tail _ (.tail _ (.tail _ (.tail _ (.tail _ (.head _)))))))) (at_list F (lst_up l1017 hva) (by omega) (by omega) (by simpa using hvv) ?_)))
              refine cm_gt gtV_k F (by have := R.unit; omega) (ok.cmpV k n p q hp hq) (hvkr.up l1017) (hvr.up l1017) (tr_bool ?_)
              have hup := upOf_succ sp gt n k
              refine ⟨fun h => ?_, fun h => ⟨g17, _, Le.refl _, ?_, F⟩⟩
              · rw [h, if_pos rfl, List.getD_eq_getElem?_getD, hp] at hup
                refine ev_sub (ldc F rfl (.tail _ (hm _ (.tail _ (.tail _ (.head _))))) (ld F (.head _) (.head _) (at_list F (lst_up l1017 hsa) (by omega) (by omega) (by simpa using hsk) ⟨g17, _, Le.refl _, ?_, F⟩)))
                rw [hup, List.map_append]
                exact hJ.snoc (hskr.up l1017)
              · rw [h] at hup
                rw [hup]
                simpa using hJ
            · intro C ab g18 as l s' l18 hJ hyl F
              refine post_used F fun g19 s n19 l19 e19 F => ?_
              have l19' := l16.trans (l18.trans l19)
              have l1019 := l15'.trans l19'
              have has : RdA g19 as ((upOf sp gt n sp.length).map spanD) := hJ.up l19
              have hal : Rd g19 (.ref ab) (.list ((upOf sp gt n sp.length).map spanD)) := .list e19 has
              have F : Fx s₀ g19 ((L, Loc [(Str.ofString "above", .ref ab), (Str.ofString "higher", .ref hi), (Str.ofString "cols", .ref co)]) :: (L + 1, Cel (.str x tx)) :: (L + 2, Cel (.ref sa)) :: (L + 3, Cel (.ref ra)) :: (L + 4, Cel (.ref va)) :: (L + 5, Cel (.int (n : Int) tn)) :: (tm ++ [(I, PI)])) s := F.weak (Loc.sub fun p hp => hp)
              have G := G.up l19'
              have hHl : (upOf sp gt n sp.length).length ≤ sp.length := by have := has.len; rw [List.length_map] at this; omega
              have hhl := lst_up l19' hhl
              have hhs := hhs.up l19'
              have hT := hT.up (l12.trans (l14.trans (l15.trans l19')))
              clear hJ e19 hvv hvr hrr hrv
              have hHm := upOf_mem sp gt n
              have hrev := fun ends col => ok.rev ends col n
              generalize hH : upOf sp gt n sp.length = H at *
              refine ex_for (ev_list (sp_cons (ct_bool (sp_cons (ct_bool (sp_nil (mkList F fun el s g20 l20 e20 F => ?_)))))))
              refine iter_list R.hand F ⟨_, e20, rfl, _, rfl⟩ (fun j g' mu' => ∃ tm, TS g' tm ∧ mu' = (L, Loc [(Str.ofString "above", .ref ab), (Str.ofString "higher", .ref hi), (Str.ofString "cols", .ref co)]) :: (L + 1, Cel (.str x tx)) :: (L + 2, Cel (.ref sa)) :: (L + 3, Cel (.ref ra)) :: (L + 4, Cel (.ref va)) :: (L + 5, Cel (.int (n : Int) tn)) :: (tm ++ [(I, PI)]))
                ⟨tm, hT.up l20, rfl⟩ ?_ ?_
              · rintro j v g21 mu' s E3 I2 PI2 hj hv l21 ⟨tm2, hT2, rfl⟩ F
                obtain ⟨ends, rfl⟩ : ∃ ends, v = .bool ends := by
                  match j, hv with
                  | 0, hv => cases hv; exact ⟨_, rfl⟩
                  | 1, hv => cases hv; exact ⟨_, rfl⟩
                  | j + 2, hv => simp at hv
                have G := G.up (l20.trans l21)
                refine as_name F fun s F => ?_
                have F : Fx s₀ g21 ([(L, Loc [(Str.ofString "ends", .bool ends), (Str.ofString "above", .ref ab), (Str.ofString "higher", .ref hi), (Str.ofString "cols", .ref co)]), (L + 1, Cel (.str x tx)), (L + 2, Cel (.ref sa)), (L + 3, Cel (.ref ra)), (L + 4, Cel (.ref va)), (L + 5, Cel (.int (n : Int) tn))] ++ ((tm2 ++ [(I, PI)]) ++ [(I2, PI2)])) s := F.weak (Loc.sub fun p hp => hp)
                refine ex_assign (callG G F (by k_is) (by k_is) (sp_cons (ldc F rfl (.tail _ (.head _)) (sp_cons (ld F (.head _) (.tail _ (.head _)) (sp_cons (ld F (.head _) (.head _) (sp_nil ⟨⟨_, _, Le.refl _, F⟩, ?_⟩))))))))
                have F := past _ tm2 (tailA _ _ _ _ F)
                refine prog x tx ab H ends tm2 (by omega) (by omega) G (R.less (by omega)) hT2 F (hal.up (l20.trans l21)) fun pr s g22 P1 c1 tm3 l22 hT3 hpr F => ?_
                have F := past tm3 [_, _, _, _, _, _] F
                refine sto F fun s F => ?_
                have G := G.up l22
                have F : Fx s₀ g22 ((L, Loc [(Str.ofString "prog", pr), (Str.ofString "ends", .bool ends), (Str.ofString "above", .ref ab), (Str.ofString "higher", .ref hi), (Str.ofString "cols", .ref co)]) :: (L + 1, Cel (.str x tx)) :: (L + 2, Cel (.ref sa)) :: (L + 3, Cel (.ref ra)) :: (L + 4, Cel (.ref va)) :: (L + 5, Cel (.int (n : Int) tn)) :: (tm3 ++ ([(I, PI)] ++ [(I2, PI2)]))) s := F.weak (Loc.sub fun p hp => hp)
                refine ex_for (ld F (.head _) (.tail _ (.tail _ (.tail _ (.tail _ (.head _))))) ?_)
                have l1022 := l1019.trans (l20.trans (l21.trans l22))
                refine iter_list R.hand F (lst_up l1022 hco) (fun i g' mu' => ∃ tm, TC g' c1 P1 tm ∧ mu' = (L, Loc [(Str.ofString "prog", pr), (Str.ofString "ends", .bool ends), (Str.ofString "above", .ref ab), (Str.ofString "higher", .ref hi), (Str.ofString "cols", .ref co)]) :: (L + 1, Cel (.str x tx)) :: (L + 2, Cel (.ref sa)) :: (L + 3, Cel (.ref ra)) :: (L + 4, Cel (.ref va)) :: (L + 5, Cel (.int (n : Int) tn)) :: (tm ++ ([(I, PI)] ++ [(I2, PI2)])))
                  ⟨tm3, hT3, rfl⟩ ?_ ?_
                · rintro i v g23 mu' s E4 I3 PI3 hi4 hv l23 ⟨tm4, hT4, rfl⟩ F
                  have G := G.up l23
                  obtain ⟨d, hd, hr⟩ := hcols.get (i := i) (v := v) (by simpa using hv)
                  rw [List.getElem?_map] at hd
                  obtain ⟨col, _, rfl⟩ := Option.map_eq_some_iff.mp hd
                  obtain ⟨tc, rfl⟩ := hr.inv_int
                  refine as_name F fun s F => ?_
                  refine ex_assign (ct_none (sto F fun s F => ?_))
                  have F : Fx s₀ g23 ((L, Loc [(Str.ofString "due", .none), (Str.ofString "col", .int col tc), (Str.ofString "prog", pr), (Str.ofString "ends", .bool ends), (Str.ofString "above", .ref ab), (Str.ofString "higher", .ref hi), (Str.ofString "cols", .ref co)]) :: (L + 1, Cel (.str x tx)) :: (L + 2, Cel (.ref sa)) :: (L + 3, Cel (.ref ra)) :: (L + 4, Cel (.ref va)) :: (L + 5, Cel (.int (n : Int) tn)) :: ((tm4 ++ ([(I, PI)] ++ [(I2, PI2)])) ++ [(I3, PI3)])) s := F.weak (Loc.sub fun p hp => hp)
                  refine ex_for (ld F (.head _) (.tail _ (.tail _ (.tail _ (.tail _ (.tail _ (.head _)))))) ?_)
                  have l1923 := l20.trans (l21.trans (l22.trans l23))
                  have hhl := lst_up l1923 hhl
                  have hhs := hhs.up l1923
                  have hhl2 : hs.length = H.length := by have := hhs.len; rwa [List.length_map] at this
                  refine iter_list R.hand F hhl (fun i g' mu' => ∃ dv, DueV g' dv ((H.take i).foldl (dueStep ends col) none) ∧ mu' = (L, Loc [(Str.ofString "due", dv), (Str.ofString "col", .int col tc), (Str.ofString "prog", pr), (Str.ofString "ends", .bool ends), (Str.ofString "above", .ref ab), (Str.ofString "higher", .ref hi), (Str.ofString "cols", .ref co)]) :: (L + 1, Cel (.str x tx)) :: (L + 2, Cel (.ref sa)) :: (L + 3, Cel (.ref ra)) :: (L + 4, Cel (.ref va)) :: (L + 5, Cel (.int (n : Int) tn)) :: ((tm4 ++ ([(I, PI)] ++ [(I2, PI2)])) ++ [(I3, PI3)]))
                    ⟨.none, rfl, rfl⟩ ?_ ?_
                  · rintro i5 v g24 mu' s E5 I4 PI4 hi5 hv l24 ⟨dv, hdv, rfl⟩ F
                    obtain ⟨d, hd, hr⟩ := hhs.get (i := i5) (v := v) (by simpa using hv)
                    rw [List.getElem?_map] at hd
                    obtain ⟨q2, hq2, rfl⟩ := Option.map_eq_some_iff.mp hd
                    obtain ⟨b, t1, t2, rfl, ht⟩ := (hr.up l24).span
                    have hfold : (H.take (i5 + 1)).foldl (dueStep ends col) none = dueStep ends col ((H.take i5).foldl (dueStep ends col) none) q2 := by
                      rw [List.take_add_one, hq2, List.foldl_append]; rfl
                    refine as_pair R.hand F ht fun s F => ?_
                    have fin : ∀ g25 dv2 s, Le g24 g25 → DueV g25 dv2 (dueStep ends col ((H.take i5).foldl (dueStep ends col) none) q2) → Fx s₀ g25 ((L, Loc [(Str.ofString "due", dv2), (Str.ofString "col", .int col tc), (Str.ofString "prog", pr), (Str.ofString "ends", .bool ends), (Str.ofString "above", .ref ab), (Str.ofString "higher", .ref hi), (Str.ofString "cols", .ref co)]) :: (L + 1, Cel (.str x tx)) :: (L + 2, Cel (.ref sa)) :: (L + 3, Cel (.ref ra)) :: (L + 4, Cel (.ref va)) :: (L + 5, Cel (.int (n : Int) tn)) :: (((tm4 ++ ([(I, PI)] ++ [(I2, PI2)])) ++ [(I3, PI3)]) ++ [(I4, PI4)])) s →
                        ∃ g'' mu'', Le g24 g'' ∧ (∃ dv, DueV g'' dv ((H.take (i5 + 1)).foldl (dueStep ends col) none) ∧ mu'' = (L, Loc [(Str.ofString "due", dv), (Str.ofString "col", .int col tc), (Str.ofString "prog", pr), (Str.ofString "ends", .bool ends), (Str.ofString "above", .ref ab), (Str.ofString "higher", .ref hi), (Str.ofString "cols", .ref co)]) :: (L + 1, Cel (.str x tx)) :: (L + 2, Cel (.ref sa)) :: (L + 3, Cel (.ref ra)) :: (L + 4, Cel (.ref va)) :: (L + 5, Cel (.int (n : Int) tn)) :: ((tm4 ++ ([(I, PI)] ++ [(I2, PI2)])) ++ [(I3, PI3)])) ∧ Fx s₀ g'' (mu'' ++ [(I4, PI4)]) s :=
                      fun g25 dv2 s l25 h2 F => ⟨g25, _, l25, ⟨dv2, hfold ▸ h2, rfl⟩, F⟩
                    cases ends with
                    | false =>
                      refine ex_if (it_and2 (it_name (ld F (.head _) (.tail _ (.tail _ (.tail _ (.tail _ (.tail _ (.head _)))))) (tr_bool ⟨fun _ => ?_, fun h => nomatch h⟩))))
                      simp only [Bool.false_eq_true, if_false]
                      refine ex_skip ?_
                      refine ex_if (it_and2 (it_not (it_name (ld F (.head _) (.tail _ (.tail _ (.tail _ (.tail _ (.tail _ (.head _)))))) (tr_bool ⟨fun h => (nomatch h), fun _ => it_cmp (ld F (.head _) (.head _) (ld F (.head _) (.tail _ (.tail _ (.tail _ (.head _)))) (cm_le (tr_bool ?_)))) rfl⟩)))))
                      by_cases hle : (q2.2 : Int) ≤ col
                      · rw [decide_eq_true hle]
                        simp only [if_true]
                        refine ex_assign (ev_tuple (sp_cons (ld F (.head _) (.tail _ (.head _)) ?_)))
                        refine sp_cons (ld F (.head _) (.head _) (sp_nil (mkTuple F fun b s g25 l25 e25 F => ?_)))
                        refine sto F fun s F => ?_
                        refine ex_nil (ex_nil (fin g25 (.ref b) _ l25 ?_ (F.weak (Loc.sub ?_))))
                        · rw [dueStep]
                          simp only [Bool.false_eq_true, if_false, hle, if_true]
                          exact .tuple e25 (.cons (.int _ _) (.cons (.int _ _) .nil))
                        · refine List.forall_mem_cons.mpr ⟨.head _, fun p hp => ?_⟩
                          exact .tail _ (.tail _ (.tail _ hp))
                      · rw [decide_eq_false hle]
                        simp only [Bool.false_eq_true, if_false]
                        refine ex_skip (ex_nil (fin g24 dv _ (Le.refl _) ?_ (F.weak (Loc.sub fun p hp => .tail _ (.tail _ hp)))))
                        rw [dueStep]
                        simp only [Bool.false_eq_true, if_false, hle]
                        exact hdv
                    | true =>
                      refine ex_if (it_and2 (it_name (ld F (.head _) (.tail _ (.tail _ (.tail _ (.tail _ (.tail _ (.head _)))))) (tr_bool ⟨fun h => (nomatch h), fun _ => it_cmp (ld F (.head _) (.head _) (ld F (.head _) (.tail _ (.tail _ (.tail _ (.head _)))) (cm_lt (tr_bool ?_)))) rfl⟩))))
                      by_cases hlt : (q2.2 : Int) < col
                      · rw [decide_eq_true hlt]
                        simp only [if_true]
                        refine ex_assign (ev_tuple (sp_cons (ld F (.head _) (.head _) ?_)))
                        refine sp_cons (ld F (.head _) (.head _) (sp_nil (mkTuple F fun b s g25 l25 e25 F => ?_)))
                        refine sto F fun s F => ?_
                        refine ex_nil ?_
                        refine ex_if (it_and2 (it_not (it_name (ld F (.head _) (.tail _ (.tail _ (.tail _ (.tail _ (.tail _ (.head _)))))) (tr_bool ⟨fun _ => ?_, fun h => nomatch h⟩)))))
                        simp only [Bool.false_eq_true, if_false]
                        refine ex_skip (ex_nil (fin g25 (.ref b) _ l25 ?_ (F.weak (Loc.sub ?_))))
                        · rw [dueStep]
                          simp only [if_true, hlt]
                          exact .tuple e25 (.cons (.int _ _) (.cons (.int _ _) .nil))
                        · refine List.forall_mem_cons.mpr ⟨.head _, fun p hp => ?_⟩
                          exact .tail _ (.tail _ (.tail _ hp))
                      · rw [decide_eq_false hlt]
                        simp only [Bool.false_eq_true, if_false]
                        refine ex_skip ?_
                        refine ex_if (it_and2 (it_not (it_name (ld F (.head _) (.tail _ (.tail _ (.tail _ (.tail _ (.tail _ (.head _)))))) (tr_bool ⟨fun _ => ?_, fun h => nomatch h⟩)))))
                        simp only [Bool.false_eq_true, if_false]
                        refine ex_skip (ex_nil (fin g24 dv _ (Le.refl _) ?_ (F.weak (Loc.sub fun p hp => .tail _ (.tail _ hp)))))
                        rw [dueStep]
                        simp only [if_true, hlt, if_false]
                        exact hdv
                  · rintro g24 mu' s l24 ⟨dv, hdv, rfl⟩ F
                    rw [List.size_toArray, hhl2, List.take_length] at hdv
                    have hdv : DueV g24 dv (dueOf ends col H) := hdv
                    have G := G.up l24
                    have F : Fx s₀ g24 ([(L, Loc [(Str.ofString "due", dv), (Str.ofString "col", .int col tc), (Str.ofString "prog", pr), (Str.ofString "ends", .bool ends), (Str.ofString "above", .ref ab), (Str.ofString "higher", .ref hi), (Str.ofString "cols", .ref co)]), (L + 1, Cel (.str x tx)), (L + 2, Cel (.ref sa)), (L + 3, Cel (.ref ra)), (L + 4, Cel (.ref va)), (L + 5, Cel (.int (n : Int) tn))] ++ ((tm4 ++ ([(I, PI)] ++ [(I2, PI2)])) ++ [(I3, PI3)])) s := F
                    refine ex_assign (callG G F (by k_is) (by k_is) (sp_cons (ld F (.head _) (.tail _ (.tail _ (.head _))) (sp_cons (ldc F rfl (.tail _ (.head _)) (sp_cons (ld F (.head _) (.tail _ (.head _)) (sp_nil ⟨⟨_, _, Le.refl _, F⟩, ?_⟩))))))))
                    have F := past _ tm4 (tailA _ _ _ _ F)
                    have hpr4 : IsProg w g24 pr P1 x (spansOf ends H) := by
                      obtain ⟨f, sr, fs, h1, h2, h3, h4⟩ := hpr
                      have l2224 := l23.trans l24
                      exact ⟨f, sr, fs, h1, h2.up l2224, l2224 _ _ h3, fun vs j A s₀ s g' mu ps Q E hvs G R l => h4 vs j A s₀ s g' mu ps Q E hvs G R (l2224.trans l)⟩
                    refine reverse x tx tc col (spansOf ends H) P1 c1 tm4 pr (spansOf_ok hHm ok.bnd) G (R.less (by omega)) (hT4.up l24) F hpr4 fun told s g25 tm5 l25 hT5 F hfd => ?_
                    rw [hrev] at hfd
                    have F := past tm5 [_, _, _, _, _, _] F
                    refine sto F fun s F => ?_
                    have F : Fx s₀ g25 ([(L, Loc [(Str.ofString "told", told), (Str.ofString "due", dv), (Str.ofString "col", .int col tc), (Str.ofString "prog", pr), (Str.ofString "ends", .bool ends), (Str.ofString "above", .ref ab), (Str.ofString "higher", .ref hi), (Str.ofString "cols", .ref co)]), (L + 1, Cel (.str x tx)), (L + 2, Cel (.ref sa)), (L + 3, Cel (.ref ra)), (L + 4, Cel (.ref va)), (L + 5, Cel (.int (n : Int) tn))] ++ (tm5 ++ (([(I, PI)] ++ [(I2, PI2)]) ++ [(I3, PI3)]))) s := F.weak (Loc.sub fun p hp => hp)
                    have hdv := hdv.up l25
                    have fin : ∀ g26 s, Le g25 g26 → Fx s₀ g26 ([(L, Loc [(Str.ofString "told", told), (Str.ofString "due", dv), (Str.ofString "col", .int col tc), (Str.ofString "prog", pr), (Str.ofString "ends", .bool ends), (Str.ofString "above", .ref ab), (Str.ofString "higher", .ref hi), (Str.ofString "cols", .ref co)]), (L + 1, Cel (.str x tx)), (L + 2, Cel (.ref sa)), (L + 3, Cel (.ref ra)), (L + 4, Cel (.ref va)), (L + 5, Cel (.int (n : Int) tn))] ++ (tm5 ++ (([(I, PI)] ++ [(I2, PI2)]) ++ [(I3, PI3)]))) s →
                        ∃ g'' mu'', Le g23 g'' ∧ (∃ tm, TC g'' c1 P1 tm ∧ mu'' = (L, Loc [(Str.ofString "prog", pr), (Str.ofString "ends", .bool ends), (Str.ofString "above", .ref ab), (Str.ofString "higher", .ref hi), (Str.ofString "cols", .ref co)]) :: (L + 1, Cel (.str x tx)) :: (L + 2, Cel (.ref sa)) :: (L + 3, Cel (.ref ra)) :: (L + 4, Cel (.ref va)) :: (L + 5, Cel (.int (n : Int) tn)) :: (tm ++ ([(I, PI)] ++ [(I2, PI2)]))) ∧ Fx s₀ g'' (mu'' ++ [(I3, PI3)]) s := by
                      intro g26 s l26 F
                      have F := tailB [_, _, _, _, _, _] tm5 ([(I, PI)] ++ [(I2, PI2)]) [(I3, PI3)] F
                      exact ⟨g26, _, l24.trans (l25.trans l26), ⟨tm5, hT5.up l26, rfl⟩, F.weak (Loc.sub fun p hp => .tail _ (.tail _ (.tail _ hp)))⟩
                    cases hd : dueOf ends col H with
                    | none =>
                      rw [hd] at hfd hdv
                      obtain rfl : told = .none := hfd
                      obtain rfl : dv = .none := hdv
                      refine ex_if (it_and2 (it_cmp (ld F (.head _) (.head _) (ct_none (cm_is_none (tr_bool ⟨fun h => (nomatch h), fun _ => ?_⟩)))) rfl))
                      refine it_cmp (ld F (.head _) (.tail _ (.head _)) (ct_none (cm_isnot_none (tr_bool ?_)))) rfl
                      refine ex_skip ?_
                      refine ex_if (it_and2 (it_cmp (ld F (.head _) (.head _) (ct_none (cm_isnot_none (tr_bool ⟨fun _ => ?_, fun h => (nomatch h)⟩)))) rfl))
                      exact ex_skip (ex_nil (fin g25 _ (Le.refl _) F))
                    | some p =>
                      rw [hd] at hfd hdv
                      have hfd : IsHit w g25 told p := hfd
                      obtain ⟨f2, m2, fm2, rfl, hw2, hm2, sc2⟩ := hfd
                      refine ex_if (it_and2 (it_cmp (ld F (.head _) (.head _) (ct_none (cm_is_none (tr_bool ⟨fun _ => ?_, fun h => (nomatch h)⟩)))) rfl))
                      refine ex_skip ?_
                      refine ex_if (it_and2 (it_cmp (ld F (.head _) (.head _) (ct_none (cm_isnot_none (tr_bool ⟨fun h => (nomatch h), fun _ => ?_⟩)))) rfl))
                      refine it_cmp (ev_meth (ld F (.head _) (.head _) (gm_fn F hw2 fn_span rfl fun s F => cw_fn0 F hm2 ?_))) rfl
                      refine sc2 _ _ _ _ _ _ _ (G.up l25) (R.less (by omega)) (Le.refl _) F fun r s g26 l26 F hr => ?_
                      refine ld F (.head _) (.tail _ (.head _)) (cm_ne_span F (by have := R.unit; omega) hr (Rd.up l26 hdv) (tr_bool ?_))
                      exact ex_skip (ex_nil (fin g26 _ l26 F))
                · rintro g23 mu' s l23 ⟨tm4, hT4, rfl⟩ F
                  refine ex_nil (Went.on (l22.trans l23) ⟨tm4, .inr ⟨_, _, hT4⟩, rfl⟩ ?_)
                  have F := tailB [_, _, _, _, _, _] tm4 [(I, PI)] [(I2, PI2)] F
                  exact F.weak (Loc.sub fun p hp => .tail _ (.tail _ hp))
              · rintro g21 mu' s l21 ⟨tm2, hT2, rfl⟩ F
                refine ex_nil (Went.on (l12.trans (l14.trans (l15.trans (l19'.trans (l20.trans l21))))) ⟨Cel (.int (n : Int) tn), tm2, hT2, fun o h => ⟨_, h⟩, rfl⟩ ?_)
                exact F.weak (Loc.sub fun p hp => .tail _ (.tail _ hp))
        · rintro g' mu' s lg ⟨P5, tm, hT, hP5, rfl⟩ F
          refine ex_ret (ct_bool ?_)
          have lg' := l010.trans (l11.trans lg)
          have fin : ∀ (ps : Array Value) (mu' : Mu) tm, tm = (65, Tb ps) :: mu' → Fx s₀ g' ((L, Loc [(Str.ofString "cols", .ref co)]) :: (L + 1, Cel (.str x tx)) :: (L + 2, Cel (.ref sa)) :: (L + 3, Cel (.ref ra)) :: (L + 4, Cel (.ref va)) :: (L + 5, P5) :: tm) s → Q (.bool true) s :=
            fun ps mu' tm e F => hQ _ g' ps mu' lg' (e ▸ F.drop.drop.drop.drop.drop.drop)
          rcases hT with rfl | ⟨c1, P1, c2, ps1, rfl, _⟩
          · exact fin _ _ _ rfl F
          · exact fin _ _ _ rfl F
end Mine

end
section
open PySem PySem.W PyProof.Rows PySem.Calls PySem.Spec
set_option Elab.async false
set_option maxRecDepth 100000
set_option autoImplicit false
set_option linter.unusedVariables false
namespace Mine
/-- a letter of a word: no digit, no sign of separation -/
def isLet (c : Nat) : Bool := !isDig c && !isSep c
theorem sep_not_dig {c : Nat} (h : isSep c = true) : isDig c = false := by
  unfold isSep at h; unfold isDig
  simp only [Bool.or_eq_true, beq_iff_eq] at h
  simp only [Bool.and_eq_false_imp, decide_eq_true_eq, decide_eq_false_iff_not]
  omega
def runOut (run : List Nat) : List Str := if run.isEmpty then [] else [⟨run.toArray⟩]
def runG (run rest : List Nat) : List Str := ((rest ++ [46]).foldl stepR ([], run)).1
theorem stepR_app (d : List Str) (r : List Nat) (c : Nat) : stepR (d, r) c = (d ++ (stepR ([], r) c).1, (stepR ([], r) c).2) := by
  unfold stepR
  dsimp only
  split <;> split <;> simp
theorem foldR_app : ∀ (l : List Nat) (d : List Str) (r : List Nat), l.foldl stepR (d, r) = (d ++ (l.foldl stepR ([], r)).1, (l.foldl stepR ([], r)).2)
  | [], d, r => by simp
  | c :: l, d, r => by
    rw [List.foldl_cons, List.foldl_cons, stepR_app d r c]
    have e := foldR_app l (d ++ (stepR ([], r) c).1) (stepR ([], r) c).2
    have e2 := foldR_app l (stepR ([], r) c).1 (stepR ([], r) c).2
    rw [e, show (stepR ([], r) c) = ((stepR ([], r) c).1, (stepR ([], r) c).2) from rfl, e2]
    simp
theorem runG_step (run rest : List Nat) (c : Nat) : runG run (c :: rest) = (stepR ([], run) c).1 ++ runG (stepR ([], run) c).2 rest := by
  unfold runG
  rw [List.cons_append, List.foldl_cons]
  have := foldR_app (rest ++ [46]) (stepR ([], run) c).1 (stepR ([], run) c).2
  rw [show (stepR ([], run) c) = ((stepR ([], run) c).1, (stepR ([], run) c).2) from rfl, this]
theorem step_sep {run : List Nat} {c : Nat} (h : isSep c = true) : stepR ([], run) c = (runOut run, []) := by
  unfold stepR cutR runOut
  cases run with
  | nil => simp [h]
  | cons a r => simp [h]
theorem step_in {run : List Nat} {c : Nat} (h : isSep c = false) (hd : run = [] ∨ isDig c = isDig (run.headD 0)) : stepR ([], run) c = ([], run ++ [c]) := by
  unfold stepR cutR
  rcases hd with rfl | hd
  · simp [h]
  · rw [← hd]; simp [h]
theorem step_cut {run : List Nat} {c : Nat} (h : isSep c = false) (hr : run ≠ []) (hd : isDig c ≠ isDig (run.headD 0)) : stepR ([], run) c = ([⟨run.toArray⟩], [c]) := by
  unfold stepR cutR
  cases run with
  | nil => exact absurd rfl hr
  | cons a r =>
    have : (isDig c != isDig a) = true := by simpa using hd
    simp [h, this]
theorem runG_nil (run : List Nat) : runG run [] = runOut run := by
  show ((stepR ([], run) 46)).1 = _
  rw [step_sep (by decide)]
theorem runG_sep {run rest : List Nat} {c : Nat} (h : isSep c = true) : runG run (c :: rest) = runOut run ++ runG [] rest := by
  rw [runG_step, step_sep h]
theorem runG_run (b : Bool) : ∀ (l run rest : List Nat), (∀ c ∈ l, isSep c = false ∧ isDig c = b) → (run = [] ∨ isDig (run.headD 0) = b) → runG run (l ++ rest) = runG (run ++ l) rest
  | [], run, rest, _, _ => by simp
  | c :: l, run, rest, h, hr => by
    have hc := h c (.head _)
    rw [List.cons_append, runG_step, step_in hc.1 (hr.imp id fun e => by rw [e, hc.2]), List.nil_append]
    rw [runG_run b l (run ++ [c]) rest (fun d hd => h d (.tail _ hd)) (.inr (by
      cases run with
      | nil => exact hc.2
      | cons a r => exact hr.resolve_left (by simp)))]
    rw [List.append_assoc]; rfl
theorem runG_turn {run rest : List Nat} {b : Bool} (hr : run ≠ []) (hb : isDig (run.headD 0) = b) (h : rest = [] ∨ isSep (rest.headD 0) = true ∨ isDig (rest.headD 0) ≠ b) : runG run rest = runOut run ++ runG [] rest := by
  cases rest with
  | nil => rw [runG_nil, runG_nil]; simp [runOut]
  | cons c rest =>
    have h : isSep c = true ∨ isDig c ≠ b := h.resolve_left (by simp)
    cases hs : isSep c with
    | true => rw [runG_sep hs, runG_sep hs]; simp [runOut]
    | false =>
      have hd : isDig c ≠ b := h.resolve_left (by rw [hs]; simp)
      rw [runG_step, step_cut hs hr (by rw [hb]; exact hd), runG_step [], step_in hs (.inl rfl)]
      show [_] ++ _ = runOut run ++ ([] ++ _)
      rw [List.nil_append, List.nil_append]
      congr 1
      unfold runOut
      rw [if_neg (by simpa using hr)]
theorem runG_part {l rest : List Nat} {b : Bool} (h : ∀ c ∈ l, isSep c = false ∧ isDig c = b) (ht : rest = [] ∨ isSep (rest.headD 0) = true ∨ isDig (rest.headD 0) ≠ b) : runG [] (l ++ rest) = runOut l ++ runG [] rest := by
  cases l with
  | nil => simp [runOut]
  | cons c l =>
    rw [runG_run b _ _ _ h (.inl rfl), List.nil_append]
    exact runG_turn (by simp) (h c (.head _)).2 ht
theorem runsOf_eq (cs : List Nat) : runsOf cs = runG [] cs := rfl
/-- what the expression finds next -/
def TokIs (text : Array Nat) (p : Nat) : Option (Nat × Nat) → Prop
  | none => ∀ i, p ≤ i → i < text.size → isLet (text.getD i 0) = true
  | some (q, e) => p ≤ q ∧ q < e ∧ e ≤ text.size ∧ (∀ i, p ≤ i → i < q → isLet (text.getD i 0) = true) ∧
      ((isSep (text.getD q 0) = true ∧ e = q + 1) ∨ ((∀ i, q ≤ i → i < e → isDig (text.getD i 0) = true) ∧ (e < text.size → isDig (text.getD e 0) = false)))
theorem digLen_is (text : Array Nat) : ∀ n p, (∀ i, p ≤ i → i < p + digLen text n p → isDig (text.getD i 0) = true) ∧ (digLen text n p < n → isDig (text.getD (p + digLen text n p) 0) = false)
  | 0, p => ⟨fun i h1 h2 => by simp only [digLen] at h2; omega, fun h => by omega⟩
  | n + 1, p => by
    obtain ⟨h1, h2⟩ := digLen_is text n (p + 1)
    rw [digLen]
    cases hd : isDigR (text.getD p 0) with
    | false => exact ⟨fun i h3 h4 => by simp at h4; omega, fun _ => by simp only [Bool.false_eq_true, if_false, Nat.add_zero]; exact hd⟩
    | true =>
      simp only [if_true]
      refine ⟨fun i h3 h4 => ?_, fun h3 => ?_⟩
      · by_cases e : i = p
        · subst e; exact hd
        · exact h1 i (by omega) (by omega)
      · have := h2 (by omega)
        rwa [show p + 1 + digLen text n (p + 1) = p + (digLen text n (p + 1) + 1) by omega] at this
theorem nextTok_is (text : Array Nat) : ∀ f p, text.size < p + f → TokIs text p (nextTok text text.size f p)
  | 0, p, h => by intro i h1 h2; omega
  | f + 1, p, h => by
    rw [nextTok]
    by_cases h0 : text.size ≤ p
    · rw [if_pos h0]; intro i h1 h2; omega
    · rw [if_neg h0]
      obtain ⟨d1, d2⟩ := digLen_is text (text.size - p) p
      have dl := digLen_le text (text.size - p) p
      by_cases h1 : digLen text (text.size - p) p ≠ 0
      · rw [if_pos h1]
        exact ⟨Nat.le_refl _, by omega, by omega, fun i _ _ => by omega, .inr ⟨d1, fun h => d2 (by omega)⟩⟩
      · rw [if_neg h1]
        have hz : digLen text (text.size - p) p = 0 := by omega
        rw [hz] at d2
        have hnd : isDig (text.getD p 0) = false := d2 (by omega)
        cases hs : isSepR (text.getD p 0) with
        | true =>
          rw [if_pos rfl]
          exact ⟨Nat.le_refl _, by omega, by omega, fun i _ _ => by omega, .inl ⟨hs, rfl⟩⟩
        | false =>
          rw [if_neg (by simp)]
          have ih := nextTok_is text f (p + 1) (by omega)
          have hl : isLet (text.getD p 0) = true := by
            unfold isLet; rw [hnd, show isSep (text.getD p 0) = false from hs]; rfl
          cases hn : nextTok text text.size f (p + 1) with
          | none =>
            rw [hn] at ih
            intro i h3 h4
            by_cases e : i = p
            · subst e; exact hl
            · exact ih i (by omega) h4
          | some qe =>
            obtain ⟨q, e⟩ := qe
            rw [hn] at ih
            obtain ⟨i1, i2, i3, i4, i5⟩ := ih
            refine ⟨by omega, i2, i3, fun i h3 h4 => ?_, i5⟩
            by_cases e : i = p
            · subst e; exact hl
            · exact i4 i (by omega) h4
theorem getD_toList (text : Array Nat) (i : Nat) : text.getD i 0 = text.toList.getD i 0 := by
  simp [Array.getD_eq_getD_getElem?, List.getD_eq_getElem?_getD]
theorem slc_list (text : Array Nat) (a b : Nat) : (slc text a b).cps.toList = (text.toList.drop a).take (b - a) := by
  show (text.extract a b).toList = _
  rw [Array.toList_extract]
theorem slc_mem {text : Array Nat} {a b : Nat} (hb : b ≤ text.size) {P : Nat → Prop} (h : ∀ i, a ≤ i → i < b → P (text.getD i 0)) : ∀ c ∈ (slc text a b).cps.toList, P c := by
  intro c hc
  rw [slc_list] at hc
  obtain ⟨i, hi, rfl⟩ := List.getElem_of_mem hc
  simp only [List.length_take, List.length_drop, Array.length_toList] at hi
  have := h (a + i) (by omega) (by omega)
  rw [getD_toList, List.getD_eq_getElem?_getD, List.getElem?_eq_getElem (by simp; omega)] at this
  simpa using this
theorem drop_slc (text : Array Nat) {a b : Nat} (h : a ≤ b) : text.toList.drop a = (slc text a b).cps.toList ++ text.toList.drop b := by
  rw [slc_list]
  have := (List.take_append_drop (b - a) (text.toList.drop a)).symm
  rw [List.drop_drop, show a + (b - a) = b by omega] at this
  exact this
theorem drop_head (text : Array Nat) {b : Nat} : text.toList.drop b = [] ∨ (b < text.size ∧ (text.toList.drop b).headD 0 = text.getD b 0) := by
  by_cases h : b < text.size
  · refine .inr ⟨h, ?_⟩
    rw [getD_toList, List.getD_eq_getElem?_getD, List.headD_eq_head?_getD, List.head?_drop]
  · exact .inl (List.drop_eq_nil_of_le (by simp; omega))
def ent (x : Str) : List PyData := if isDig (x.cps.getD 0 0) then [.int 100, .int (numOf x.cps.toList)] else [.int (rankOf x), .str x]
/-- signs of a word: no blank, of ASCII, not too many -/
def Fine (y : Str) : Prop := y.length ≤ 4300 ∧ ∀ c ∈ y.cps.toList, 33 ≤ c ∧ c < 128
/-- what the parts of a split say, if each kind of part says as its run -/
structure VerSays (V : Str → List PyData) : Prop where
  none : V ⟨#[]⟩ = []
  sep : ∀ c, isSep c = true → V ⟨#[c]⟩ = []
  lett : ∀ y : Str, Fine y → y.cps.toList ≠ [] → (∀ c ∈ y.cps.toList, isLet c = true) → V y = ent y
  dig : ∀ y : Str, Fine y → y.cps.toList ≠ [] → (∀ c ∈ y.cps.toList, isDig c = true) → V y = ent y
theorem runOut_ent {V : Str → List PyData} (H : VerSays V) {y : Str} (hf : Fine y) (h : (∀ c ∈ y.cps.toList, isLet c = true) ∨ (∀ c ∈ y.cps.toList, isDig c = true)) : V y = (runOut y.cps.toList).flatMap ent := by
  obtain ⟨⟨l⟩⟩ := y
  cases l with
  | nil => exact H.none
  | cons c l =>
    show _ = List.flatMap ent [⟨⟨c :: l⟩⟩]
    rw [List.flatMap_singleton]
    rcases h with h | h
    · exact H.lett _ hf (by simp) h
    · exact H.dig _ hf (by simp) h
theorem let_part {c : Nat} (h : isLet c = true) : isSep c = false ∧ isDig c = false := by
  unfold isLet at h
  simp only [Bool.and_eq_true, Bool.not_eq_true'] at h
  exact ⟨h.2, h.1⟩
theorem dig_part {c : Nat} (h : isDig c = true) : isSep c = false ∧ isDig c = true := by
  refine ⟨?_, h⟩
  cases hs : isSep c with
  | false => rfl
  | true => rw [sep_not_dig hs] at h; cases h
theorem split_runs {V : Str → List PyData} (H : VerSays V) (text : Array Nat) (hf : ∀ a b, Fine (slc text a b)) : ∀ f start, text.size < start + f → start ≤ text.size → (splitF text text.size f start).flatMap V = (runG [] (text.toList.drop start)).flatMap ent
  | 0, start, h, h2 => by omega
  | f + 1, start, h, h2 => by
    rw [splitF]
    have tk := nextTok_is text (text.size + 1) start (by omega)
    cases hn : nextTok text text.size (text.size + 1) start with
    | none =>
      rw [hn] at tk
      have hl := slc_mem (P := fun c => isLet c = true) (Nat.le_refl text.size) tk
      have e := drop_slc text h2
      rw [List.drop_eq_nil_of_le (i := text.size) (by simp)] at e
      rw [e, runG_part (b := false) (fun c hc => let_part (hl c hc)) (.inl rfl), runG_nil]
      show List.flatMap V [_] = _
      rw [List.flatMap_singleton, runOut_ent H (hf _ _) (.inl hl)]
      simp [runOut]
    | some qe =>
      obtain ⟨q, e⟩ := qe
      rw [hn] at tk
      obtain ⟨t1, t2, t3, t4, t5⟩ := tk
      show List.flatMap V (slc text start q :: slc text q e :: splitF text text.size f e) = _
      rw [List.flatMap_cons, List.flatMap_cons, split_runs H text hf f e (by omega) t3]
      have hl := slc_mem (P := fun c => isLet c = true) (by omega) t4
      rw [drop_slc text t1, drop_slc text (Nat.le_of_lt t2)]
      have hq : (slc text q e).cps.toList ++ text.toList.drop e = text.toList.drop q := (drop_slc text (Nat.le_of_lt t2)).symm
      have hh := (drop_head text (b := q)).resolve_left (fun h => by
        have := congrArg List.length h
        simp at this; omega)
      rw [runG_part (b := false) (fun c hc => let_part (hl c hc)) (by
        rw [hq]
        rcases t5 with ⟨t5, _⟩ | ⟨t5, _⟩
        · exact .inr (.inl (by rw [hh.2]; exact t5))
        · exact .inr (.inr (by rw [hh.2, t5 q (Nat.le_refl _) t2]; simp)))]
      rw [List.flatMap_append, runOut_ent H (hf _ _) (.inl hl)]
      congr 1
      rcases t5 with ⟨t5, rfl⟩ | ⟨t5, t6⟩
      · have hs : slc text q (q + 1) = ⟨#[text.getD q 0]⟩ := by
          have : (slc text q (q + 1)).cps.toList = [text.getD q 0] := by
            rw [slc_list, show q + 1 - q = 1 by omega, List.drop_eq_getElem_cons (by simp; omega), getD_toList, List.getD_eq_getElem?_getD, List.getElem?_eq_getElem (by simp; omega)]
            rfl
          exact congrArg Str.mk (Array.toList_inj.mp this)
        rw [hs, H.sep _ t5]
        show _ = List.flatMap ent (runG [] (text.getD q 0 :: _))
        rw [runG_sep t5]; rfl
      · have hd := slc_mem (P := fun c => isDig c = true) t3 t5
        rw [runG_part (b := true) (fun c hc => dig_part (hd c hc)) ((drop_head text (b := e)).imp id fun ⟨h1, h2⟩ => .inr (by rw [h2, t6 h1]; simp)), List.flatMap_append, runOut_ent H (hf _ _) (.inr hd)]
theorem splitL_runs {V : Str → List PyData} (H : VerSays V) (y : Str) (hf : Fine y) : (splitL y).flatMap V = (runsOf y.cps.toList).flatMap ent := by
  have := split_runs H y.cps (fun a b => ⟨Nat.le_trans slc_in.1 hf.1, fun c hc => hf.2 c (slc_in.2 c hc)⟩) (y.cps.size + 1) 0 (by omega) (Nat.zero_le _)
  rwa [List.drop_zero] at this
end Mine

end
section
open PySem PySem.W PyProof.Rows PySem.Calls PySem.Spec
set_option Elab.async false
set_option maxRecDepth 100000
set_option autoImplicit false
set_option linter.unusedVariables false
namespace Mine
theorem stage_rank (x : Str) : stageOf x = rankOf x := by
  by_cases h1 : x = Str.ofString "dev"
  · subst h1; decide +kernel
  by_cases h2 : x = Str.ofString "alpha"
  · subst h2; decide +kernel
  by_cases h3 : x = Str.ofString "a"
  · subst h3; decide +kernel
  by_cases h4 : x = Str.ofString "beta"
  · subst h4; decide +kernel
  by_cases h5 : x = Str.ofString "b"
  · subst h5; decide +kernel
  by_cases h6 : x = Str.ofString "c"
  · subst h6; decide +kernel
  by_cases h7 : x = Str.ofString "RC"
  · subst h7; decide +kernel
  by_cases h8 : x = Str.ofString "rc"
  · subst h8; decide +kernel
  by_cases h9 : x = Str.ofString "pl"
  · subst h9; decide +kernel
  by_cases h10 : x = Str.ofString "p"
  · subst h10; decide +kernel
  have e1 : stageOf x = 0 := by
    unfold stageOf stageTab
    simp only [KTD.datumAt, h1, h2, h3, h4, h5, h6, h7, h8, h9, h10, decide_false, Bool.false_eq_true, if_false, Option.getD_none]
  have ne : ∀ s : Str, x ≠ s → (s == x) = false := fun s h => by simpa using fun e => h e.symm
  have e2 : rankOf x = 0 := by
    unfold rankOf rankTab hits
    simp only [List.find?, List.any, ne _ h1, ne _ h2, ne _ h3, ne _ h4, ne _ h5, ne _ h6, ne _ h7, ne _ h8, ne _ h9, ne _ h10, Bool.or_false, Option.map_none, Option.getD_none]
  rw [e1, e2]
theorem isOut_not {y : Str} {c : Nat} {r : List Nat} (h : y.cps.toList = c :: r) (hs : isSep c = false) : isOut y = false := by
  unfold isOut
  cases hf : (!(Builtin.Str.occurrences (Str.ofString "._+-") y 0 (Str.ofString "._+-").length 1).isEmpty) with
  | false => rfl
  | true =>
    obtain ⟨i, _, hi⟩ := (StrLaws.found_iff _ _).mp hf
    rw [StrLaws.subAt_eq, beq_iff_eq, h] at hi
    have hm : c ∈ (Str.ofString "._+-").cps.toList := List.mem_of_mem_drop (List.mem_of_mem_take (hi ▸ List.mem_cons_self ..))
    have e : (Str.ofString "._+-").cps.toList = [46, 95, 43, 45] := by decide +kernel
    rw [e] at hm
    unfold isSep at hs
    simp only [List.mem_cons, List.not_mem_nil, or_false] at hm
    simp only [Bool.or_eq_false_iff, beq_eq_false_iff_ne] at hs
    omega
theorem numOf_val : ∀ (cs : List Nat) (n : Nat), (∀ c ∈ cs, isDig c = true) → cs.foldl (fun (a : Int) (c : Nat) => 10 * a + (c : Int) - 48) (n : Int) = ((cs.foldl (fun acc c => acc * 10 + (c - 48)) n : Nat) : Int)
  | [], n, _ => rfl
  | c :: cs, n, h => by
    have hc := h c (.head _)
    unfold isDig at hc
    simp only [Bool.and_eq_true, decide_eq_true_eq] at hc
    rw [List.foldl_cons, List.foldl_cons, ← numOf_val cs _ fun d hd => h d (.tail _ hd)]
    congr 1
    omega
theorem fine_text {y : Str} (hf : Fine y) : numTextOf y = y.cps.toList ∧ numSeenOf y = y.cps.toList := by
  have e1 : numTextOf y = y.cps.toList := by
    refine if_pos ?_
    rw [← Array.all_toList, List.all_eq_true]
    intro c hc
    exact decide_eq_true (hf.2 c hc).2
  refine ⟨e1, ?_⟩
  show (numTextOf y).takeWhile _ = _
  rw [e1]
  refine NumText.takeWhile_all fun c hc => ?_
  have := hf.2 c hc
  exact bne_iff_ne.mpr (by omega)
theorem intText_let {y : Str} (hf : Fine y) {c : Nat} {r : List Nat} (h : y.cps.toList = c :: r) (hl : isLet c = true) : PySem.intText? y = none := by
  obtain ⟨e1, e2⟩ := fine_text hf
  obtain ⟨hs, hd⟩ := let_part hl
  have hfc := hf.2
  rw [h] at e1 e2 hfc
  unfold isSep at hs
  unfold isDig at hd
  simp only [Bool.or_eq_false_iff, beq_eq_false_iff_ne] at hs
  simp only [Bool.and_eq_false_imp, decide_eq_true_eq, decide_eq_false_iff_not] at hd
  unfold PySem.intText?
  rw [e1, e2]
  have es : NumText.sign ((c :: r).dropWhile NumText.blank) = (false, c :: r) := by
    rw [NumText.dropWhile_of (hfc c (.head _)).1]
    exact NumText.sign_of (by omega) (by omega)
  have ec : NumText.core (c :: r) = c :: r := by
    unfold NumText.core
    rw [es]
    show ((c :: r).reverse.dropWhile NumText.blank).reverse = c :: r
    have hrev : (c :: r).reverse.dropWhile NumText.blank = (c :: r).reverse := by
      cases hr : (c :: r).reverse with
      | nil => rfl
      | cons d q => exact NumText.dropWhile_of (hfc d (List.mem_reverse.mp (hr ▸ .head _))).1
    rw [hrev, List.reverse_reverse]
  have ed : NumText.digits? 10 (c :: r) = none := by
    unfold NumText.digits?
    have est : NumText.step 10 ((#[] : Array Nat), false) c = none := by
      unfold NumText.step
      rw [if_neg (by rw [beq_iff_eq]; omega)]
      unfold NumText.digit?
      rw [if_neg (by simp only [Bool.and_eq_true, decide_eq_true_eq]; omega)]
      split
      · rename_i h1 h2
        split at h2
        · simp only [Bool.and_eq_true, decide_eq_true_eq] at *
          cases h2
          exact if_neg (by omega)
        · split at h2
          · simp only [Bool.and_eq_true, decide_eq_true_eq] at *
            cases h2
            exact if_neg (by omega)
          · cases h2
      · rfl
    rw [List.foldlM_cons, est]; rfl
  rw [ec, ed]
  simp
theorem ver_says : VerSays verOf where
  none := by
    have h : isOut ⟨#[]⟩ = true := by decide +kernel
    unfold verOf; rw [h]; rfl
  sep c hc := by
    have h : isOut ⟨#[c]⟩ = true := by
      unfold isSep at hc
      simp only [Bool.or_eq_true, beq_iff_eq] at hc
      rcases hc with ((rfl | rfl) | rfl) | rfl <;> decide +kernel
    unfold verOf; rw [h]; rfl
  lett y hf h0 h := by
    obtain ⟨c, r, e⟩ : ∃ c r, y.cps.toList = c :: r := by
      cases hy : y.cps.toList with
      | nil => exact absurd hy h0
      | cons c r => exact ⟨c, r, rfl⟩
    have hc := h c (e ▸ .head _)
    unfold verOf ent
    rw [isOut_not e (let_part hc).1, intText_let hf e hc, stage_rank]
    have e0 : y.cps.getD 0 0 = c := by rw [getD_toList, e]; rfl
    rw [e0, (let_part hc).2]; rfl
  dig y hf h0 h := by
    obtain ⟨c, r, e⟩ : ∃ c r, y.cps.toList = c :: r := by
      cases hy : y.cps.toList with
      | nil => exact absurd hy h0
      | cons c r => exact ⟨c, r, rfl⟩
    have hc := h c (e ▸ .head _)
    have ha : NumText.AllDigits y.cps.toList := fun d hd => by
      have := h d hd
      unfold isDig at this
      simp only [Bool.and_eq_true, decide_eq_true_eq] at this
      exact this
    unfold verOf ent
    rw [isOut_not e (dig_part hc).1, intText_digits ha h0 hf.1]
    have e0 : y.cps.getD 0 0 = c := by rw [getD_toList, e]; rfl
    rw [e0, hc]
    have := numOf_val y.cps.toList 0 h
    unfold numOf NumText.digitsVal
    rw [← this]; rfl
theorem version_eq {y : Str} (hf : Fine y) : versionD y = .list ((runsOf y.cps.toList).flatMap ent) := by
  unfold versionD; rw [splitL_runs ver_says y hf]
end Mine

end
section
open PySem PySem.W PyProof.Rows PySem.Calls PySem.Spec
set_option Elab.async false
set_option maxRecDepth 100000
set_option autoImplicit false
set_option linter.unusedVariables false
namespace Mine
theorem rankOf_ne (x : Str) : rankOf x ≠ 100 := by
  unfold rankOf
  cases h : rankTab.find? (hits x) with
  | none => decide
  | some p =>
    have hm := List.mem_of_find?_eq_some h
    have : ∀ p ∈ rankTab, p.1 ≠ 100 := by decide +kernel
    exact this p hm
inductive Ent : PyData → PyData → PyData → Prop
  | int (r : Int) (n : Int) : Ent (.list [.int r, .int n]) (.int r) (.int n)
theorem GtS.ints {i j : Int} (b : Bool) (h : b = decide (j < i)) : GtS (.int i) (.int j) b := h ▸ .int i j
/-- two pairs of the same kind of rank -/
def Kind (r : Int) (p : PyData) : Prop := (∃ n, p = .int n ∧ r = 100) ∨ (∃ s, p = .str s ∧ r ≠ 100 ∧ PyData.strOk s = true)
theorem ent_is (x : Str) (hx : PyData.strOk x = true) : ∃ r p, ent x = [.int r, p] ∧ rankedD x = .list [.int r, p] ∧ Kind r p := by
  unfold ent rankedD
  cases isDig (x.cps.getD 0 0) with
  | true => exact ⟨100, _, rfl, rfl, .inl ⟨_, rfl, rfl⟩⟩
  | false => exact ⟨rankOf x, _, rfl, rfl, .inr ⟨x, rfl, rankOf_ne x, hx⟩⟩
theorem Kind.lay {r : Int} {p : PyData} (h : Kind r p) : p.canLay0 = true ∧ p.depth = 0 := by
  rcases h with ⟨n, rfl, _⟩ | ⟨s, rfl, _, h⟩
  · exact ⟨rfl, rfl⟩
  · exact ⟨h, rfl⟩
theorem Kind.gt {r : Int} {p q : PyData} (h1 : Kind r p) (h2 : Kind r q) : ∃ b, GtS p q b := by
  rcases h1 with ⟨n, rfl, e1⟩ | ⟨s, rfl, e1, _⟩
  · rcases h2 with ⟨m, rfl, _⟩ | ⟨s, rfl, e2, _⟩
    · exact ⟨_, .int n m⟩
    · exact absurd e1 e2
  · rcases h2 with ⟨m, rfl, e2⟩ | ⟨t, rfl, _, _⟩
    · exact absurd e2 e1
    · exact ⟨_, .str s t⟩
theorem eqv_int (i j : Int) : PyData.eqv (.int i) (.int j) = (i == j) := by simp [PyData.eqv]
theorem eqv_pair (i j : Int) (p q : PyData) : PyData.eqv (.list [.int i, p]) (.list [.int j, q]) = ((i == j) && PyData.eqv p q) := by
  simp [PyData.eqv, PyData.eqvAll]
theorem gt_pair {r r' : Int} {p q : PyData} {b : Bool} (h1 : Kind r p) (h2 : Kind r' q) (h : GtL GtS [.int r, p] [.int r', q] b) : GtLL GtS 0 (.list [.int r, p]) (.list [.int r', q]) b := by
  refine ⟨_, _, rfl, rfl, ?_, ?_, h⟩
  · intro x hx
    simp only [List.mem_cons, List.not_mem_nil, or_false] at hx
    rcases hx with rfl | rfl
    · exact ⟨rfl, Nat.le_refl _⟩
    · exact ⟨h1.lay.1, Nat.le_of_eq h1.lay.2⟩
  · intro x hx
    simp only [List.mem_cons, List.not_mem_nil, or_false] at hx
    rcases hx with rfl | rfl
    · rfl
    · exact h2.lay.1
theorem cmp_both : ∀ (R1 R2 : List Str), (∀ x ∈ R1, PyData.strOk x = true) → (∀ x ∈ R2, PyData.strOk x = true) → ∃ b, GtL (GtLL GtS 0) (R1.map rankedD) (R2.map rankedD) b ∧ GtL GtS (R1.flatMap ent) (R2.flatMap ent) b
  | [], R2, _, _ => ⟨false, .nil _, .nil _⟩
  | x :: R1, [], hx, _ => by
    obtain ⟨r, p, e1, e2, k⟩ := ent_is x (hx x (.head _))
    refine ⟨true, .more _ _, ?_⟩
    rw [List.flatMap_cons, e1]
    exact .more _ _
  | x :: R1, y :: R2, hx, hy => by
    obtain ⟨r, p, e1, e2, k⟩ := ent_is x (hx x (.head _))
    obtain ⟨r', q, e3, e4, k'⟩ := ent_is y (hy y (.head _))
    rw [List.map_cons, List.map_cons, List.flatMap_cons, List.flatMap_cons, e1, e2, e3, e4]
    by_cases hr : r = r'
    · subst hr
      have er : PyData.eqv (.int r) (.int r) = true := by rw [eqv_int]; simp
      cases hp : PyData.eqv p q with
      | true =>
        obtain ⟨b, h1, h2⟩ := cmp_both R1 R2 (fun z hz => hx z (.tail _ hz)) (fun z hz => hy z (.tail _ hz))
        exact ⟨b, .same (by rw [eqv_pair, hp]; simp) h1, .same er (.same hp h2)⟩
      | false =>
        obtain ⟨b, h⟩ := k.gt k'
        exact ⟨b, .diff (by rw [eqv_pair, hp]; simp) (gt_pair k k' (.same er (.diff hp h))), .same er (.diff hp h)⟩
    · have er : PyData.eqv (.int r) (.int r') = false := by rw [eqv_int]; simpa using hr
      exact ⟨_, .diff (by rw [eqv_pair]; simp [hr]) (gt_pair k k' (.diff er (.int r r'))), .diff er (.int r r')⟩
theorem strOk_fine {y : Str} (h : ∀ c ∈ y.cps.toList, c < 128) : PyData.strOk y = true := by
  unfold PyData.strOk
  rw [← Array.all_toList, List.all_eq_true]
  intro c hc
  have := h c hc
  exact decide_eq_true (by omega)
theorem ent_lay {x : Str} (hx : PyData.strOk x = true) : (∀ d ∈ ent x, d.canLay0 = true ∧ d.depth ≤ 0) ∧ (rankedD x).canLay0 = true ∧ (rankedD x).depth ≤ 1 := by
  obtain ⟨r, p, e1, e2, k⟩ := ent_is x hx
  rw [e1, e2]
  refine ⟨fun d hd => ?_, ?_, ?_⟩
  · simp only [List.mem_cons, List.not_mem_nil, or_false] at hd
    rcases hd with rfl | rfl
    · exact ⟨rfl, Nat.le_refl _⟩
    · exact ⟨k.lay.1, Nat.le_of_eq k.lay.2⟩
  · simp [PyData.canLay0, PyData.canLayAll0, k.lay.1]
  · rcases k with ⟨n, rfl, _⟩ | ⟨s, rfl, _, _⟩
    · exact Nat.le_refl _
    · exact Nat.le_refl _
theorem gt_word {R1 R2 : List Str} (h1 : ∀ x ∈ R1, PyData.strOk x = true) (h2 : ∀ x ∈ R2, PyData.strOk x = true) :
    ∃ b, GtR (.list (R1.map rankedD)) (.list (R2.map rankedD)) b ∧ GtV (.list (R1.flatMap ent)) (.list (R2.flatMap ent)) b := by
  obtain ⟨b, g1, g2⟩ := cmp_both R1 R2 h1 h2
  refine ⟨b, ⟨_, _, rfl, rfl, ?_, ?_, g1⟩, ⟨_, _, rfl, rfl, ?_, ?_, g2⟩⟩
  · intro d hd; obtain ⟨x, hx, rfl⟩ := List.mem_map.mp hd; exact (ent_lay (h1 x hx)).2
  · intro d hd; obtain ⟨x, hx, rfl⟩ := List.mem_map.mp hd; exact (ent_lay (h2 x hx)).2.1
  · intro d hd; obtain ⟨x, hx, hd⟩ := List.mem_flatMap.mp hd; exact (ent_lay (h1 x hx)).1 d hd
  · intro d hd; obtain ⟨x, hx, hd⟩ := List.mem_flatMap.mp hd; exact ((ent_lay (h2 x hx)).1 d hd).1
/-- the runs' signs are the word's -/
theorem stepR_mem {st : List Str × List Nat} {c : Nat} {P : Nat → Prop} (hc : P c) (h1 : ∀ x ∈ st.1, ∀ d ∈ x.cps.toList, P d) (h2 : ∀ d ∈ st.2, P d) : (∀ x ∈ (stepR st c).1, ∀ d ∈ x.cps.toList, P d) ∧ (∀ d ∈ (stepR st c).2, P d) := by
  have key : (∀ x ∈ (if cutR st.2 c then (st.1 ++ [⟨st.2.toArray⟩], ([] : List Nat)) else st).1, ∀ d ∈ x.cps.toList, P d) ∧ (∀ d ∈ (if cutR st.2 c then (st.1 ++ [(⟨st.2.toArray⟩ : Str)], ([] : List Nat)) else st).2, P d) := by
    split
    · refine ⟨fun x hx => ?_, fun d hd => nomatch hd⟩
      rcases List.mem_append.mp hx with hx | hx
      · exact h1 x hx
      · rw [List.mem_singleton] at hx; subst hx
        intro d hd
        exact h2 d (by simpa using hd)
    · exact ⟨h1, h2⟩
  unfold stepR
  dsimp only
  split
  · exact key
  · refine ⟨key.1, fun d hd => ?_⟩
    rcases List.mem_append.mp hd with hd | hd
    · exact key.2 d hd
    · rw [List.mem_singleton] at hd; subst hd; exact hc
theorem foldR_mem {P : Nat → Prop} : ∀ (l : List Nat) (st : List Str × List Nat), (∀ c ∈ l, P c) → (∀ x ∈ st.1, ∀ d ∈ x.cps.toList, P d) → (∀ d ∈ st.2, P d) → ∀ x ∈ (l.foldl stepR st).1, ∀ d ∈ x.cps.toList, P d
  | [], st, _, h1, _ => h1
  | c :: l, st, hl, h1, h2 => by
    obtain ⟨k1, k2⟩ := stepR_mem (hl c (.head _)) h1 h2
    exact foldR_mem l (stepR st c) (fun d hd => hl d (.tail _ hd)) k1 k2
theorem runs_ok {cs : List Nat} (h : ∀ c ∈ cs, c < 128) : ∀ x ∈ runsOf cs, PyData.strOk x = true := fun x hx =>
  strOk_fine (foldR_mem (P := (· < 128)) (cs ++ [46]) ([], []) (fun c hc => by
    rcases List.mem_append.mp hc with hc | hc
    · exact h c hc
    · rw [List.mem_singleton] at hc; subst hc; decide) (fun _ h => nomatch h) (fun _ h => nomatch h) x hx)
theorem gt_words {y z : Str} (hy : Fine y) (hz : Fine z) : ∃ b, GtR (runsD y.cps.toList) (runsD z.cps.toList) b ∧ GtV (versionD y) (versionD z) b := by
  rw [version_eq hy, version_eq hz]
  exact gt_word (runs_ok fun c hc => (hy.2 c hc).2) (runs_ok fun c hc => (hz.2 c hc).2)
end Mine

end
section
open PySem PySem.W PyProof.Rows PySem.Calls PySem.Spec
set_option Elab.async false
set_option maxRecDepth 100000
set_option autoImplicit false
set_option linter.unusedVariables false
namespace Mine
/-- spans one after the other -/
def Inc (S : List (Nat × Nat)) : Prop := S.Pairwise (fun a b => a.2 < b.1) ∧ ∀ p ∈ S, p.1 ≤ p.2
abbrev Hit (col : Int) (p : Nat × Nat) : Prop := (p.1 : Int) < col ∧ (p.2 : Int) ≤ col
def lastHit (col : Int) (due : Option (Nat × Nat)) (p : Nat × Nat) : Option (Nat × Nat) := if Hit col p then some p else due
theorem nextAt_gt {p : Nat × Nat} (h : p.1 ≤ p.2) : (p.1 : Int) < nextAt p := by
  unfold nextAt; split <;> omega
theorem nextAt_le {p q : Nat × Nat} (h : p.2 < q.1) : nextAt p ≤ (q.1 : Int) := by
  unfold nextAt; split <;> omega
theorem seek_next {pre post : List (Nat × Nat)} {p : Nat × Nat} (h : Inc (pre ++ p :: post)) : seek (pre ++ p :: post) (nextAt p) = post.head? := by
  obtain ⟨h1, h2⟩ := h
  obtain ⟨_, hp, hx⟩ := List.pairwise_append.mp h1
  have hpp := h2 p (by simp)
  unfold seek
  have hn : pre.find? (fun q => decide (nextAt p ≤ (q.1 : Int))) = none := by
    rw [List.find?_eq_none]
    intro q hq
    have a1 := hx q hq p (.head _)
    have a2 := h2 q (List.mem_append_left _ hq)
    have a3 := nextAt_gt hpp
    simp only [decide_eq_true_eq]; omega
  rw [List.find?_append, hn, Option.none_or, List.find?_cons, decide_eq_false (by have := nextAt_gt hpp; omega)]
  cases post with
  | nil => rfl
  | cons q r =>
    have a1 := (List.pairwise_cons.mp hp).1 q (.head _)
    rw [List.find?_cons, decide_eq_true (nextAt_le a1)]; rfl
theorem fold_miss {col : Int} : ∀ (S : List (Nat × Nat)) (fd : Option (Nat × Nat)), (∀ q ∈ S, ¬ Hit col q) → S.foldl (lastHit col) fd = fd
  | [], _, _ => rfl
  | q :: S, fd, h => by
    rw [List.foldl_cons, lastHit, if_neg (h q (.head _))]
    exact fold_miss S fd fun r hr => h r (.tail _ hr)
theorem revL_is (col : Int) (S : List (Nat × Nat)) (hS : Inc S) : ∀ (post pre : List (Nat × Nat)) (p : Nat × Nat) (n : Nat) (fd : Option (Nat × Nat)), S = pre ++ p :: post → post.length < n → revL S col n p fd = (p :: post).foldl (lastHit col) fd
  | post, pre, p, 0, fd, _, h => by omega
  | post, pre, p, n + 1, fd, e, h => by
    have hs := hS
    rw [e] at hs
    have sk := seek_next hs
    rw [← e] at sk
    rw [revL, sk]
    by_cases hc : Hit col p
    · rw [if_pos hc, List.foldl_cons, lastHit, if_pos hc]
      cases post with
      | nil => rfl
      | cons q r => exact revL_is col S hS r (pre ++ [p]) q n (some p) (by rw [e]; simp) (by simp only [List.length_cons] at h; omega)
    · rw [if_neg hc, List.foldl_cons, lastHit, if_neg hc]
      refine (fold_miss _ _ fun q hq hh => hc ?_).symm
      have a1 := (List.pairwise_cons.mp (List.pairwise_append.mp hs.1).2.1).1 q hq
      have a2 := hs.2 p (by simp)
      have a3 := hs.2 q (by simp [hq])
      omega
theorem revOf_is (col : Int) (S : List (Nat × Nat)) (hS : Inc S) (hl : S.length ≤ 1000) : revOf S col = S.foldl (lastHit col) none := by
  unfold revOf
  cases S with
  | nil => rfl
  | cons p r =>
    have : seek (p :: r) 0 = some p := by
      unfold seek
      rw [List.find?_cons, decide_eq_true (by omega)]
    rw [this]
    exact revL_is col _ hS r [] p 1001 none rfl (by simp only [List.length_cons] at hl; omega)
theorem rev_due (ends : Bool) (col : Int) (H : List (Nat × Nat)) (h1 : H.Pairwise (fun a b => a.2 < b.1)) (h2 : ∀ p ∈ H, p.1 < p.2) (hl : H.length ≤ 1000) : revOf (spansOf ends H) col = dueOf ends col H := by
  cases ends with
  | false =>
    show revOf H col = _
    rw [revOf_is col H ⟨h1, fun p hp => Nat.le_of_lt (h2 p hp)⟩ hl]
    unfold dueOf
    have : ∀ (l : List (Nat × Nat)) (fd : Option (Nat × Nat)), (∀ p ∈ l, p.1 < p.2) → l.foldl (lastHit col) fd = l.foldl (dueStep false col) fd := by
      intro l
      induction l with
      | nil => intro fd _; rfl
      | cons p r ih =>
        intro fd h
        have hp := h p (.head _)
        rw [List.foldl_cons, List.foldl_cons, ih _ fun q hq => h q (.tail _ hq)]
        congr 1
        unfold lastHit dueStep
        simp only [Bool.false_eq_true, if_false]
        by_cases hc : (p.2 : Int) ≤ col
        · rw [if_pos hc, if_pos ⟨by omega, hc⟩]
        · rw [if_neg hc, if_neg fun hh => hc hh.2]
    exact this H none h2
  | true =>
    show revOf (H.map fun p => (p.2, p.2)) col = _
    rw [revOf_is col _ ⟨?_, ?_⟩ (by simpa using hl)]
    · unfold dueOf
      rw [List.foldl_map]
      have : ∀ (l : List (Nat × Nat)) (fd : Option (Nat × Nat)), l.foldl (fun fd p => lastHit col fd (p.2, p.2)) fd = l.foldl (dueStep true col) fd := by
        intro l
        induction l with
        | nil => intro fd; rfl
        | cons p r ih =>
          intro fd
          rw [List.foldl_cons, List.foldl_cons, ih]
          congr 1
          unfold lastHit dueStep
          simp only [if_true]
          by_cases hc : (p.2 : Int) < col
          · rw [if_pos hc, if_pos ⟨hc, by show (p.2 : Int) ≤ col; omega⟩]
          · rw [if_neg hc, if_neg fun hh => hc hh.1]
      exact this H none
    · rw [List.pairwise_map]
      refine List.Pairwise.imp_of_mem (fun {a b} ha hb h => ?_) h1
      have := h2 b hb
      show a.2 < b.2
      omega
    · intro p hp
      obtain ⟨q, _, rfl⟩ := List.mem_map.mp hp
      exact Nat.le_refl _
/-- what stands after some signs of the row -/
structure WSt (cs : List Nat) (i : Nat) (st : List (Nat × Nat) × Nat) : Prop where
  le : st.2 ≤ i
  sp : ∀ p ∈ st.1, p.1 < p.2 ∧ p.2 < st.2
  pw : st.1.Pairwise (fun a b => a.2 < b.1)
  nb : ∀ p ∈ st.1, ∀ j, p.1 ≤ j → j < p.2 → cs.getD j 0 ≠ 32
  nf : ∀ j, st.2 ≤ j → j < i → cs.getD j 0 ≠ 32
  bl : st.2 = i → 0 < i → cs.getD (i - 1) 0 = 32
theorem wst (cs : List Nat) : ∀ i, WSt cs i (wordsSt cs i)
  | 0 => ⟨Nat.le_refl _, fun _ h => (nomatch h), .nil, fun _ h => (nomatch h), fun j _ h => by omega, fun _ h => by omega⟩
  | i + 1 => by
    have W := wst cs i
    rw [wordsSt_succ]
    generalize wordsSt cs i = st at W
    obtain ⟨W1, W2, W3, W4, W5, W6⟩ := W
    unfold stepW
    by_cases hb : cs.getD i 0 = 32
    · rw [if_pos (by simpa using hb)]
      by_cases hf : st.2 < i
      · rw [if_pos hf]
        refine ⟨Nat.le_refl _, fun p hp => ?_, ?_, fun p hp j h1 h2 => ?_, fun j h1 h2 => ?_, fun _ _ => hb⟩
        · rcases List.mem_append.mp hp with hp | hp
          · have a1 := W2 p hp
            exact ⟨a1.1, by show p.2 < i + 1; omega⟩
          · rw [List.mem_singleton] at hp; subst hp
            exact ⟨hf, Nat.lt_succ_self _⟩
        · refine List.pairwise_append.mpr ⟨W3, List.pairwise_singleton _ _, fun a ha b hb' => ?_⟩
          rw [List.mem_singleton] at hb'; subst hb'
          exact (W2 a ha).2
        · rcases List.mem_append.mp hp with hp | hp
          · exact W4 p hp j h1 h2
          · rw [List.mem_singleton] at hp; subst hp
            exact W5 j h1 h2
        · have h1 : i + 1 ≤ j := h1
          omega
      · rw [if_neg hf]
        refine ⟨Nat.le_refl _, fun p hp => ?_, W3, W4, fun j h1 h2 => ?_, fun _ _ => hb⟩
        · have a1 := W2 p hp
          exact ⟨a1.1, by show p.2 < i + 1; omega⟩
        · have h1 : i + 1 ≤ j := h1
          omega
    · rw [if_neg (by simpa using hb)]
      refine ⟨Nat.le_succ_of_le W1, W2, W3, W4, fun j h1 h2 => ?_, fun h1 h2 => by omega⟩
      by_cases e : j = i
      · subst e; exact hb
      · exact W5 j h1 (by omega)
structure WOk (cs : List Nat) (S : List (Nat × Nat)) : Prop where
  sp : ∀ p ∈ S, p.1 < p.2 ∧ p.2 ≤ cs.length
  pw : S.Pairwise (fun a b => a.2 < b.1)
  nb : ∀ p ∈ S, ∀ j, p.1 ≤ j → j < p.2 → cs.getD j 0 ≠ 32
  ln : S.length ≤ cs.length + 1
theorem words_ok (cs : List Nat) (h0 : 0 < cs.length) (hl : cs.getD (cs.length - 1) 0 ≠ 32) : WOk cs (wordsOf cs) := by
  have W := wst cs cs.length
  have hln := wordsSt_len cs cs.length
  unfold wordsOf
  generalize wordsSt cs cs.length = st at W hln
  obtain ⟨W1, W2, W3, W4, W5, W6⟩ := W
  have hlt : st.2 < cs.length := by
    rcases Nat.lt_or_eq_of_le W1 with h | h
    · exact h
    · exact absurd (W6 h h0) hl
  refine ⟨fun p hp => ?_, ?_, fun p hp => ?_, by simp; omega⟩
  · rcases List.mem_append.mp hp with hp | hp
    · have := W2 p hp; omega
    · rw [List.mem_singleton] at hp; subst hp
      exact ⟨hlt, Nat.le_refl _⟩
  · refine List.pairwise_append.mpr ⟨W3, List.pairwise_singleton _ _, fun a ha b hb' => ?_⟩
    rw [List.mem_singleton] at hb'; subst hb'
    exact (W2 a ha).2
  · rcases List.mem_append.mp hp with hp | hp
    · exact W4 p hp
    · rw [List.mem_singleton] at hp; subst hp
      exact W5
theorem wd_list (x : Str) {p : Nat × Nat} (h1 : p.1 ≤ p.2) (h2 : p.2 ≤ x.length) : (wd x p).cps.toList = (x.cps.toList.drop p.1).take (p.2 - p.1) := by
  unfold wd Txt.slice
  split
  · rename_i h
    have hl := StrLaws.strSliceIndices_plain h1 h2
    rw [hl] at h
    simp only [List.length_map, List.length_range, Bool.and_eq_true, beq_iff_eq] at h
    have e1 : p.1 = 0 := by omega
    have e2 : p.2 = x.length := by omega
    rw [e1, e2, List.drop_zero, List.take_of_length_le (by simp [Str.length])]
  · exact StrLaws.sliced_plain x h1 h2
theorem row_chars : ∀ ns : List Int, ∀ c ∈ (Str.join (Str.ofString "") (ns.map pieceAt)).cps.toList, 32 ≤ c ∧ c < 128 := by
  have hp : ∀ n : Int, ∀ c ∈ (pieceAt n).cps.toList, 32 ≤ c ∧ c < 128 := by
    intro n
    have h1 := fmod_lo n (n := 20) (by decide)
    have h2 := fmod_hi n (n := 20) (by decide)
    unfold pieceAt
    generalize n.fmod 20 = m at h1 h2
    obtain ⟨k, rfl⟩ := Int.eq_ofNat_of_zero_le h1
    have : ∀ k : Nat, k < 20 → ∀ c ∈ (pieceTab.getD (Int.toNat (k : Int)) Str.empty).cps.toList, 32 ≤ c ∧ c < 128 := by decide +kernel
    exact this k (by omega)
  have he : (Str.ofString "").cps = #[] := by decide +kernel
  intro ns
  induction ns with
  | nil => intro c hc; simp [Str.join, Str.empty] at hc
  | cons n r ih =>
    cases r with
    | nil => exact hp n
    | cons m r =>
      intro c hc
      simp only [List.map_cons] at ih hc
      rw [Str.join] at hc
      · rw [PySem.Str.cps_append, PySem.Str.cps_append, he, Array.toList_append, Array.toList_append] at hc
        simp only [List.append_nil, List.mem_append] at hc
        rcases hc with hc | hc
        · exact hp n c hc
        · exact ih c hc
      · intro h; cases h
theorem upOf_sub (sp : List (Nat × Nat)) (gt : Nat → Nat → Bool) (n : Nat) : (upOf sp gt n sp.length).Sublist sp := by
  unfold upOf
  have h1 : ((List.range sp.length).filter fun k => gt k n).Sublist (List.range sp.length) := List.filter_sublist
  have h2 := h1.map fun k => sp.getD k (0, 0)
  have e : (List.range sp.length).map (fun k => sp.getD k (0, 0)) = sp := by
    refine List.ext_getElem (by simp) fun i h3 h4 => ?_
    simp [List.getD_eq_getElem?_getD, h4]
  rwa [e] at h2
theorem plainX (x : Str) (hx : x.length ≤ 100) (hc : ∀ c ∈ x.cps.toList, 32 ≤ c ∧ c < 128) (h0 : 0 < x.cps.toList.length) (hl : x.cps.toList.getD (x.cps.toList.length - 1) 0 ≠ 32) (h99 : x.cps.toList.length < 100) : ∃ gt, PlainOk x (wordsOf x.cps.toList) gt := by
  have W := words_ok x.cps.toList h0 hl
  generalize wordsOf x.cps.toList = sp at W
  have fine : ∀ p ∈ sp, Fine (wd x p) := by
    intro p hp
    have a1 := W.sp p hp
    refine ⟨Nat.le_trans (wd_in x p).1 (by omega), fun c hcm => ?_⟩
    have := hc c ((wd_in x p).2 c hcm)
    rw [wd_list x (by omega) (by simpa [Str.length] using a1.2)] at hcm
    obtain ⟨i, hi, rfl⟩ := List.getElem_of_mem hcm
    simp only [List.length_take, List.length_drop] at hi
    have nb := W.nb p hp (p.1 + i) (by omega) (by omega)
    rw [List.getD_eq_getElem?_getD, List.getElem?_eq_getElem (by omega)] at nb
    simp only [Option.getD_some] at nb
    simp only [List.getElem_take, List.getElem_drop] at this ⊢
    omega
  have key : ∀ k n : Nat, ∃ b, ∀ p q, sp[k]? = some p → sp[n]? = some q → GtR (runsD (wd x p).cps.toList) (runsD (wd x q).cps.toList) b ∧ GtV (versionD (wd x p)) (versionD (wd x q)) b := by
    intro k n
    cases hk : sp[k]? with
    | none => exact ⟨false, fun p q h _ => (nomatch h)⟩
    | some p =>
      cases hn : sp[n]? with
      | none => exact ⟨false, fun p q _ h => (nomatch h)⟩
      | some q =>
        obtain ⟨b, hb⟩ := gt_words (fine p (List.mem_of_getElem? hk)) (fine q (List.mem_of_getElem? hn))
        exact ⟨b, fun p' q' e1 e2 => by cases e1; cases e2; exact hb⟩
  refine ⟨fun k n => Classical.choose (key k n), hx, fun c h => (hc c h).2, by have := W.ln; omega, fun p hp => ?_, fun k n p q h1 h2 => ?_, fun k n p q h1 h2 => ?_, fun ends col n => ?_⟩
  · have := W.sp p hp
    exact ⟨by omega, by omega⟩
  · exact (Classical.choose_spec (key k n) p q h1 h2).1
  · exact (Classical.choose_spec (key k n) p q h1 h2).2
  · have hs := upOf_sub sp (fun k n => Classical.choose (key k n)) n
    refine rev_due ends col _ (W.pw.sublist hs) (fun p hp => (W.sp p (hs.subset hp)).1) ?_
    have := hs.length_le
    have := W.ln
    omega
theorem plainT (ns : List Int) : ∃ gt, PlainOk (rowOf (ns.take 6)) (wordsOf (rowOf (ns.take 6)).cps.toList) gt := by
  have hj := join_len (ns.take 6)
  have h6 : (ns.take 6).length ≤ 6 := by simp; omega
  have hch := row_chars (ns.take 6)
  unfold rowOf
  generalize Str.join (Str.ofString "") ((ns.take 6).map pieceAt) = J at hj hch
  have et : (Str.ofString " 1.9 1.10").cps.toList = [32, 49, 46, 57, 32, 49, 46, 49, 48] := by decide +kernel
  have e : (J ++ Str.ofString " 1.9 1.10").cps.toList = J.cps.toList ++ [32, 49, 46, 57, 32, 49, 46, 49, 48] := by
    rw [PySem.Str.cps_append, Array.toList_append, et]
  have hJ : J.cps.toList.length = J.length := Array.length_toList
  have hl : (J ++ Str.ofString " 1.9 1.10").cps.toList.length = J.length + 9 := by rw [e]; simp [Str.length]
  refine plainX _ ?_ ?_ (by omega) ?_ (by omega)
  · have : (J ++ Str.ofString " 1.9 1.10").length = J.length + 9 := by rw [← hl]; exact Array.length_toList.symm
    omega
  · intro c hc
    rw [e] at hc
    rcases List.mem_append.mp hc with hc | hc
    · exact hch c hc
    · have : ∀ c ∈ [32, 49, 46, 57, 32, 49, 46, 49, 48], 32 ≤ c ∧ c < 128 := by decide
      exact this c hc
  · rw [hl, e, List.getD_eq_getElem?_getD, List.getElem?_append_right (by omega)]
    rw [show J.length + 9 - 1 - J.cps.toList.length = 8 by omega]
    decide
end Mine

end
section
open PySem PySem.W PyProof.Rows PySem.Calls PySem.Spec
set_option Elab.async false
set_option maxRecDepth 100000
set_option maxHeartbeats 4000000
namespace Mine
theorem intsRd {g : Heap} : ∀ {vs : List Value} {ns : List Int}, IntsAre vs ns → RdA g vs (ns.map .int)
  | _, _, .nil => .nil
  | _, _, .cons n t h => .cons (.int n t) (intsRd h)
theorem postT (as bs : List WData) : PySem.Challenge.rw_mq0069_01.row.claim.post as (.bool true) bs = true := by
  show (WShape.has [] (.bool true) .bool && WTm.holds [] (WTm.eq .res (.lit (.bool true))) { args := as, res := some (.bool true), after := bs }) = true
  simp [WShape.has, WTm.holds, WTm.value, WShape.arms, W.same]
theorem holds : PySem.Challenge.rw_mq0069_01.Holds := by
  refine hd ?_
  k_fill
  intro w s₀ s₁ mg mb G Y fa o pm cd doc dV kV ho hd hcd hD hmg hg args vals as hpre hlay hrd hwl hlo
  have KX := km_in_of Y
  km_tabs Y
  have X := (Ground.X G).1
  have V := (Ground.X G).2
  refine Ground.open G ?_
  intro T B D TE TW
  try (refine guard_noD D (by decide +kernel) ?_; clear D)
  have hfa : mg (Str.ofString "law") = some (.ref 87) := mg_of KX T.g (by k_is)
  have hfb : some (Value.ref fa) = some (Value.ref 87) := hmg.symm.trans hfa
  obtain rfl : fa = 87 := by cases hfb; rfl
  km_lay T hmg ho hd cd
  clear hmg hfa hfb
  wrow_args hpre hlay hrd hwl hlo
  rename_i ns _ _ _ _ _ _ _ a us _ hL _ _ _ hI _ hlen _
  have GX := ghost_K hT9 KX (by kernel_rfl)
  have GT := ghost_top hT9 T
  obtain ⟨gt, ok⟩ := plainT ns
  have Gg : Gd w (ghostOf s₁.heap [(67, 65)]) := ⟨GX, _, _, _, GT⟩
  have F : Fx s₁ (ghostOf s₁.heap [(67, 65)]) [(65, Tb #[])] s₁ := by
    refine ⟨fun b o e => of_hideAll _ e, fun p hp => ?_, by simp, rfl, rfl, rfl⟩
    obtain rfl := List.mem_singleton.mp hp
    exact ⟨hideAll_none _ (.head _), _, (hT9 _ (.head _)).2, rfl⟩
  have hscr : Rd (ghostOf s₁.heap [(67, 65)]) (.ref a) (.list (ns.map .int)) := by
    obtain ⟨oo, h1, h2, _, h3⟩ := ghost_list hT9 hL
    obtain ⟨as', ra⟩ := intsRd (g := ghostOf s₁.heap [(67, 65)]) hI
    exact ⟨_, .list h1 h2 h3 ra⟩
  refine (law a ns gt (by omega) ok Gg ⟨rfl, by decide, by decide⟩ rfl F hscr fun s' g' ps mu' l F' => ?_).out
  obtain ⟨hP, o, hgo, rfl⟩ := F'.tu _ (.head _)
  refine ⟨.inl ⟨.bool true, .bool true, [], rfl, fun _ => rfl, .bool true, postT _ _, fun _ => ⟨.nil, fun _ h => nomatch h⟩⟩, ⟨fun b o e => ?_, fun b o e => ?_⟩, F'.sim.2.2, .of_eq (F'.sim.1.trans hg)⟩
  · by_cases hb : b ∈ [(67, 65)].map (fun p : Addr × Addr => p.2)
    · obtain rfl : b = 65 := List.mem_singleton.mp hb
      have e2 := (hT9 _ (.head _)).2
      rw [e] at e2
      obtain rfl := Option.some.inj e2
      exact .inr (.inl ⟨((hT9 _ (.head _)).1.tab (hT9 _ (.head _)).2).isCodeTable, rfl, #[], ps, rfl, by rw [Array.empty_append]; exact hgo⟩)
    · exact .inl (F'.le _ _ (l _ _ (ghost_ne e hb)))
  · by_cases hb : b ∈ [(67, 65)].map (fun p : Addr × Addr => p.2)
    · obtain rfl : b = 65 := List.mem_singleton.mp hb
      exact ⟨_, hgo⟩
    · exact ⟨o, F'.le _ _ (l _ _ (ghost_ne e hb))⟩
end Mine

end

theorem PySem.Challenge.cw_mq0069_01_holds : PySem.Challenge.rw_mq0069_01.Holds := by
  exact Mine.holds
