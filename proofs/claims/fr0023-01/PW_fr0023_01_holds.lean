import PyProof.Rows.All
import Wide.All
import OpenK.AllK
import Wide.FinOn
import Lean
import PySem.Challenge.RW_fr0023_01

set_option Elab.async false
set_option maxRecDepth 100000
set_option pp.deepTerms false
set_option pp.maxSteps 3000
set_option linter.deprecated false

namespace Fr23
open PySem PySem.W PyProof.Rows
open PySem.Sem (wp)

/-- a built-in that, standing on the stack, may hold a bytearray's memory -/
def lends (c : Code) : Bool := match c with
  | .builtin id _ => (["bytearray.__contains__", "bytearray.__mod__", "bytearray.__rmod__", "_struct.pack_into.held", "bytearray.find.held"] ++ Builtin.Bytes.decodersThatHold).contains id
  | _ => false
def CleanL (l : List (Code × Pos)) : Prop := ∀ q ∈ l, lends q.1 = false
theorem CleanL.nil : CleanL [] := fun _ h => nomatch h
theorem CleanL.cons {c : Code} {p : Pos} {l : List (Code × Pos)} (hc : lends c = false) (h : CleanL l) : CleanL ((c, p) :: l) := fun q hq => by
  rcases List.mem_cons.mp hq with rfl | hq
  · exact hc
  · exact h q hq

def wpC {α : Type} (M : Model) (A : Around) (t : Sem α) (Q : α → Shared → Prop) (E : Value → Shared → Prop) (s : Shared) : Prop :=
  ∀ Γ p, Γ.In A → lends Γ.code = false → CleanL Γ.below → wp M Γ t (fun a _ s' => Q a s') (fun e _ s' => E e s') p s
def codeC (M : Model) (A : Around) (c : Code) (R : Result → Shared → Prop) (s : Shared) : Prop :=
  ∀ Γ p, Γ.code = c → Γ.Below A → CleanL Γ.below → wpCode M Γ R p s

section
variable {α β : Type} {M : Model} {A : Around} {E : Value → Shared → Prop} {s : Shared}
theorem wpC_of {t : Sem α} {Q : α → Shared → Prop} (h : wpAny M A t Q E s) : wpC M A t Q E s := fun Γ p hΓ _ _ => h Γ p hΓ
theorem codeC_of {c : Code} {R : Result → Shared → Prop} (h : codeAny M A c R s) : codeC M A c R s := fun Γ p hc hΓ _ => h Γ p hc hΓ
theorem wpC_pure {a : α} {Q : α → Shared → Prop} (h : Q a s) : wpC M A (pure a) Q E s := fun _ _ _ _ _ => h
theorem wpC_mono {t : Sem α} {Q Q' : α → Shared → Prop} {E' : Value → Shared → Prop} (h : wpC M A t Q E s) (hQ : ∀ a s, Q a s → Q' a s) (hE : ∀ e s, E e s → E' e s) : wpC M A t Q' E' s :=
  fun Γ p hΓ hl hb => Sem.wp_mono M Γ t (fun a _ s => hQ a s) (fun e _ s => hE e s) p s (h Γ p hΓ hl hb)
theorem wpC_bind {m : Sem α} {f : α → Sem β} {Q : β → Shared → Prop} (h : wpC M A m (fun a s' => wpC M A (f a) Q E s') E s) : wpC M A (m >>= f) Q E s := fun Γ p hΓ hl hb => by
  rw [Sem.wp_bind']
  exact Sem.wp_mono M Γ m (fun a p' s' h' => h' Γ p' hΓ hl hb) (fun _ _ _ h' => h') p s (h Γ p hΓ hl hb)
/-- a piece that the library knows, then one of mine -/
theorem wpC_then {m : Sem α} {f : α → Sem β} {Q : β → Shared → Prop} (h : wpAny M A m (fun a s' => wpC M A (f a) Q E s') E s) : wpC M A (m >>= f) Q E s := wpC_bind (wpC_of h)
theorem wpC_eq {t t' : Sem α} {Q : α → Shared → Prop} (e : t = t') (h : wpC M A t' Q E s) : wpC M A t Q E s := e ▸ h
theorem wpC_holding {vs : List Value} {m : Sem α} {Q : α → Shared → Prop} (h : wpC M A m Q E s) : wpC M A (holding vs m) Q E s := fun Γ p hΓ hl hb => by rw [Sem.wp_holding]; exact h Γ p hΓ hl hb
theorem wpC_keep {vs : List Value} {m : Sem α} {Q : α → Shared → Prop} (h : wpC M A m Q E s) : wpC M A (m.keep vs) Q E s := fun Γ p hΓ hl hb => by rw [Sem.wp_keep]; exact h Γ p hΓ hl hb
theorem wpC_operate {vs : List Value} {m : Sem Value} {Q : Value → Shared → Prop} (h : wpC M A m Q E s) : wpC M A (operate vs m) Q E s := fun Γ p hΓ hl hb => by rw [Sem.wp_operate]; exact h Γ p hΓ hl hb
theorem wpC_standAt {pos : Pos} {Q : Unit → Shared → Prop} (h : Q () s) : wpC M A (standAt pos) Q E s := wpC_of (wpAny_standAt h)
theorem wpC_onRaise {m : Sem α} {k : Value → Sem Unit} {Q : α → Shared → Prop} (h : wpC M A m Q (fun e s' => wpC M A (k e) (fun _ s'' => E e s'') E s') s) : wpC M A (m.onRaise k) Q E s := fun Γ p hΓ hl hb => by
  rw [Sem.wp_onRaise]
  exact Sem.wp_mono M Γ m (fun _ _ _ h' => h') (fun e p' s' h' => h' Γ p' hΓ hl hb) p s (h Γ p hΓ hl hb)

theorem wpC_runValue {c : Code} {Q : Value → Shared → Prop}
    (hc : codeC M A c (fun r s' => match r with | .ok (.ret v) => Q v s' | .ok _ => False | .error e => E e s') s) : wpC M A (runValue c) Q E s :=
  fun Γ p hΓ hl hb => by rw [Sem.wp_runValue]; exact hc _ p rfl (hΓ.enter c none p (by intro x; cases x)) (.cons hl hb)
theorem wpC_call {f : Value} {pos : List Value} {kw : List (Str × Value)} {Q : Value → Shared → Prop}
    (hc : codeC M A (.call f ⟨pos, kw⟩) (fun r s' => match r with | .ok (.ret v) => Q v s' | .ok _ => False | .error e => E e s') s) : wpC M A (call f pos kw) Q E s := wpC_runValue hc
theorem wpC_run {c : Code} {h : Option Value} {Q : Flow → Shared → Prop}
    (hc : codeC M (A.mark h) c (fun r s' => match r with | .ok f => Q f s' | .error e => E e s') s) (hnb : h ≠ some byPass := by intro x; cases x) : wpC M A (run c h) Q E s :=
  fun Γ p hΓ hl hb => by rw [Sem.wp_run]; exact hc _ p rfl (hΓ.enter c h p hnb) (.cons hl hb)
theorem codeC_mono {c : Code} {R R' : Result → Shared → Prop} (h : codeC M A c R s) (hR : ∀ r s, R r s → R' r s) : codeC M A c R' s :=
  fun Γ p hc hΓ hb => wpCode_mono hR (h Γ p hc hΓ hb)
def againC (M : Model) (A : Around) (R : Result → Shared → Prop) (fin : Fin) (s' : Shared) : Prop := match fin with
  | .done f => R (.ok f) s'
  | .again c' => c'.quiet = true ∧ codeC M A c' R s'
theorem codeC_of_tree {c : Code} {R : Result → Shared → Prop} (hl : lends c = false)
    (h : wpC M (A.under c) (M.den c) (againC M A R) (fun e s' => R (.error e) s') s) : codeC M A c R s := fun Γ p hc hΓ hb => by
  rw [wpCode_iff_wp, hc]
  refine Sem.wp_mono M Γ _ (fun fin p' s' h' => ?_) (fun _ _ _ h' => h') p s (h Γ p (hc ▸ hΓ.in) (hc ▸ hl) hb)
  cases fin with
  | done f => exact h'
  | again c' => exact ⟨h'.1, h'.2 (Γ.goto c') p' rfl (hΓ.goto c') hb⟩
theorem codeC_loop {c : Code} {R : Result → Shared → Prop} (hl : lends c = false) (hq : c.quiet = true) (I : Nat → Shared → Prop)
    (turn : ∀ n s, I n s → wpC M (A.under c) (M.den c)
      (fun fin s' => match fin with | .done f => R (.ok f) s' | .again c' => c' = c ∧ ∃ m, m < n ∧ I m s') (fun e s' => R (.error e) s') s)
    (n : Nat) (h : I n s) : codeC M A c R s := by
  induction n using Nat.strongRecOn generalizing s with
  | ind n ih =>
    refine codeC_of_tree hl (wpC_mono (turn n s h) (fun fin s' hf => ?_) fun _ _ h' => h')
    cases fin with
    | done f => exact hf
    | again c' => obtain ⟨rfl, m, hm, hI⟩ := hf; exact ⟨hq, ih m hm hI⟩
end

/-- no built-in that lends: nothing is exported -/
theorem wpC_exported {M : Model} {A : Around} {E : Value → Shared → Prop} {s : Shared} {self : Value} {Q : Bool → Shared → Prop} (h : Q false s) : wpC M A (Builtin.Bytes.exported self) Q E s := fun Γ p _ hl hb => by
  have key : ∀ (f : Code × Pos → Bool), (∀ q, lends q.1 = false → f q = false) → ((Γ.code, p) :: Γ.below).any f = false := fun f hf => by
    rw [List.any_eq_false]
    intro q hq
    rw [hf q (by
      rcases List.mem_cons.mp hq with rfl | hq
      · exact hl
      · exact hb q hq)]
    exact Bool.false_ne_true
  show Q (((Γ.code, p) :: Γ.below).any _) s
  rw [key]
  · exact h
  · rintro ⟨c, q⟩ hq
    cases c with
    | builtin id args =>
      have h1 : ∀ x : String, x ∈ (["bytearray.__contains__", "bytearray.__mod__", "bytearray.__rmod__", "_struct.pack_into.held", "bytearray.find.held"] ++ Builtin.Bytes.decodersThatHold : List String) → id ≠ x := fun x hx e => by
        subst e
        have h2 : (["bytearray.__contains__", "bytearray.__mod__", "bytearray.__rmod__", "_struct.pack_into.held", "bytearray.find.held"] ++ Builtin.Bytes.decodersThatHold).contains id = false := hq
        rw [List.contains_eq_mem, decide_eq_false_iff_not] at h2
        exact h2 hx
      have h3 : Builtin.Bytes.decodersThatHold.contains id = false := by
        rw [List.contains_eq_mem, decide_eq_false_iff_not]
        exact fun hx => h1 id (List.mem_append_right _ hx) rfl
      split
      all_goals first
        | rfl
        | (rename_i e; cases e; exact absurd rfl (h1 _ (by decide)))
        | (rename_i e; cases e; rw [h3, Bool.and_false])
    | _ => rfl

end Fr23

namespace Fr23
open PySem PySem.W PySem.Calls PyProof.Rows
open PySem.Sem (wp)

theorem wp_of_wpC_done {M : Model} {t : Sem Fin} {R : Result → Shared → Prop} {s : Shared}
    (h : wpC M callerA t (fun fin s' => ∃ f, fin = .done f ∧ R (.ok f) s') (fun e s' => R (.error e) s') s) (p : Pos) :
    wp M ⟨.builtin "claim.caller" {}, none, none, [], none⟩ t (Sem.finPost M ⟨.builtin "claim.caller" {}, none, none, [], none⟩ R) (fun e _ s' => R (.error e) s') p s := by
  refine Sem.wp_mono M _ t (fun fin p' s' h' => ?_) (fun _ _ _ h' => h') p s (h _ p caller_in (by decide +kernel) .nil)
  obtain ⟨f, rfl, hf⟩ := h'
  exact hf

theorem thread_endsC {prog : Program} {w : World} {t : Sem Fin} {s : Shared} {R : Result → Shared → Prop} (hreg : s.asleep)
    (h : wpC (model prog w) callerA t (fun fin s' => ∃ f, fin = .done f ∧ (R (.ok f) s' ∧ leftWithCleanup s'.gens = false)) (fun e s' => R (.error e) s' ∧ leftWithCleanup s'.gens = false) s) :
    ∃ n r s' s'', runN (denote table) prog w n s ⟨t, .builtin "claim.caller" {}, default, []⟩ = .halted (outcomeOf r) s' ∧
      schedN (denote table) prog w n (.single s ⟨t, .builtin "claim.caller" {}, default, []⟩) = .halted (outcomeOf r) s' ∧ s'.forget = s''.forget ∧ R r s'' := by
  obtain ⟨n, r, s₁, s₂, hs, hn, hfo, hR⟩ := wp_halts_full (M := model prog w) (R := R) hreg (wp_of_wpC_done (R := fun r s' => R r s' ∧ leftWithCleanup s'.gens = false) h default)
  exact ⟨n, r, s₂, s₁, hn, hs, hfo, hR⟩

theorem callFromC {c : ClaimW} {tree : List Value → Sem Fin} {w : World} {s : Shared} {free : Addr → Prop} {gens : Prop} {kept : Heap → Prop} (hz : s.asleep) (hgens : s.gens = #[])
    (hspec : ∀ args, c.pre args = true → WData.layableAll args = true → ∀ ord : List DictEntry → List DictEntry, (∀ l, (ord l).Perm l) →
      ∃ vs s₁, layAllW c.records (classAt s.heap) w.params ord args s = some (vs, s₁) ∧
        wpC (model c.prog w) callerA (tree vs) (fun fin s' => ∃ f, fin = .done f ∧ (c.Ends s args vs s₁ (.ok f) s' ∧ s'.os = s.os ∧ AllBare s'.gens ∧ kept s'.heap))
          (fun e s' => c.Ends s args vs s₁ (.error e) s' ∧ s'.os = s.os ∧ AllBare s'.gens ∧ kept s'.heap) s₁) :
    c.CallFrom (fun vs => ⟨tree vs, .builtin "claim.caller" {}, default, []⟩) w free gens kept s := by
  intro args hpre hlay ord hord
  obtain ⟨vs, s₁, hlaid, hcode⟩ := hspec args hpre hlay ord hord
  have hal := layAllW_rest _ _ _ hlaid
  obtain ⟨k, r, s', s'', hrun, hsched, hfo, hcase, hos, hkp⟩ := thread_endsC (prog := c.prog) (w := w) (t := tree vs) (s := s₁)
    (R := fun r s' => c.Ends s args vs s₁ r s' ∧ s'.os = s.os ∧ kept s'.heap)
    (Shared.asleep_of_life hal.2.2.2 hz)
    (wpC_mono hcode (fun _ _ ⟨f, e, h1, h2, h3, h4⟩ => ⟨f, e, ⟨h1, h2, h4⟩, leftWithCleanup_false_of_bare h3⟩)
      (fun _ _ ⟨h1, h2, h3, h4⟩ => ⟨⟨h1, h2, h4⟩, leftWithCleanup_false_of_bare h3⟩))
  obtain ⟨eh, _, _, eo, _⟩ := Shared.forget_eq hfo
  have hcase := hcase.congr eh
  have hkp : kept s'.heap := by rw [eh]; exact hkp
  rw [← eo] at hos
  have hlife : s'.heap.life = s.heap.life := (runN_life _ _ _ hrun).trans hal.2.2.2
  refine ⟨vs, s₁, hlaid, k, _, s', hsched, ?_, (fun _ i x hx => by rw [hgens] at hx; simp at hx), hkp, by rw [hlife], Shared.rest_eq hos⟩
  rcases hcase with ⟨v, rfl, d1, d2, d3, d4, d5⟩ | ⟨e, ob, cls, rfl, d1, d2, d3, d4, d5⟩
  · exact .inl ⟨v, rfl, d1, d2, d3, fun b o y _ => d4 b o y, d5⟩
  · exact .inr ⟨e, ob, cls, rfl, d1, d2, d3, d4, fun b o y _ => d5 b o y⟩

abbrev WalkC (q : Program) (loose : List Str) (XP : (Str → Option Value) → Heap → Prop) (YP : World → Heap → Prop) (r : RowW) (d : DefRec) (kwd : List (Str × Expr)) : Prop :=
  ∀ (w : World) (s₀ s₁ : Shared) (mg mb : Str → Option Value), Ground q loose r.records XP w s₀ mg mb s₁.heap → YP w s₁.heap → ∀ (a : Addr) (o : Obj) (pm cd doc dV kV : Value), s₁.heap.get? a = some o →
    o.data = .func { docDef d.name d.params d.body d.scope pm cd doc with defaults := dV, kwdefaults := kV } → s₁.heap.CodeRec cd d.name → Dflts mg s₁.heap d.params kwd dV kV → mg d.name = some (.ref a) → s₁.gens = #[] →
    ∀ (args : List WData) (vals : List Value) (as : List Addr), r.claim.pre args = true → WData.layableAll args = true → ReadsAllW r.records (classAt s₀.heap) s₁.heap vals args as → WellAll w.params s₁.heap vals args → (∀ a ∈ as, (a == sysModules) = false) →
      wpC (model r.prog w) callerA (PySem.call (.ref a) vals) (fun v s' => GoodWG r.claim (classAt s₀.heap) (ExcName.means s₀.heap) args s₁ (.ok (.ret v)) s')
        (fun e s' => GoodWG r.claim (classAt s₀.heap) (ExcName.means s₀.heap) args s₁ (.error e) s') s₁

theorem open_anyC {r : RowW} {tree : List Value → Sem Fin} {q : Program} {loose defs kps : List Str} {writes : Bool} {Xt : Shared → Bool} {XP : (Str → Option Value) → Heap → Prop} {α : Type} {Yf : Shared → α} {Ya : World → α} {YP : World → Heap → Prop} {N : Nat}
    (left : LeftO r.prog q loose Xt Yf Ya N) (hY : ∀ w s, Yf s = Ya w → YP w s.heap) (hYk : ∀ w h h', YP w h → (∀ b o, h.get? b = some o → h'.get? b = some o) → YP w h') (hX : ∀ s, Xt s = true → XP (s.heap.nsMap mainGlobals) s.heap) (hXk : ∀ mg h h', XP mg h → (∀ b o, h.get? b = some o → h'.get? b = some o) → XP mg h')
    (hRf : ∀ s, Xt s = true → RecFacts r.records s.heap) (hwr : (!writes || r.records.isEmpty) = true) (ok : (chainsOk q && opensWell r.prog && (frees r && r.within.isEmpty)) = true) (hb : r.prog.bare) (hw : r.promised)
    (ht : ∀ vs (w : World) (s : Shared) mg f (Q : Fin → Shared → Prop) (E : Value → Shared → Prop), s.heap.Ns mainGlobals mg → mg r.name = some f → wpC (model r.prog w) callerA (PySem.call f vs) (fun v s' => Q (.done (.ret v)) s') E s → wpC (model r.prog w) callerA (tree vs) Q E s)
    (pin : ∀ w s, s.heap.isNs mainGlobals = true → Ground q loose [] XP w s (s.heap.nsMap mainGlobals) (s.heap.nsMap builtinsNs) s.heap → ∀ n ∈ defs, isTheDefsW r.prog s.heap n)
    (call : ∀ (w : World) (s₀ s₁ : Shared) (mg mb : Str → Option Value), Ground q loose r.records XP w s₀ mg mb s₁.heap → YP w s₁.heap → ∀ (args : List WData) (vs : List Value) (as : List Addr),
      r.claim.pre args = true → WData.layableAll args = true → Laid r.records w s₀ s₁ args vs as → sysModules < s₀.heap.objs.size → ∃ f, mg r.name = some f ∧
        wpC (model r.prog w) callerA (PySem.call f vs) (fun v s' => GoodWG r.claim (classAt s₀.heap) (ExcName.means s₀.heap) args s₁ (.ok (.ret v)) s')
          (fun e s' => GoodWG r.claim (classAt s₀.heap) (ExcName.means s₀.heap) args s₁ (.error e) s') s₁) : r.claim.HoldsOpenBy (fun vs => ⟨tree vs, .builtin "claim.caller" {}, default, []⟩) defs kps writes := by
  obtain ⟨ok, k5⟩ := Bool.and_eq_true_iff.mp ok
  obtain ⟨hch, o1⟩ := Bool.and_eq_true_iff.mp ok
  obtain ⟨k5, k6⟩ := Bool.and_eq_true_iff.mp k5
  obtain ⟨hsame, hu, ha, hap, hm⟩ := frees_parts k5
  refine ⟨⟨hb, o1, by show r.makers.map _ = []; rw [hm]; rfl⟩, hw.witness, fun w => ⟨(left.behind hX hch w).1, fun s' hs' => ?_⟩⟩
  obtain ⟨s₀, hf, hg0, s, hT, hz, hgens, hg, G00, y⟩ := (left.behind (XP := fun mg h => XP mg h ∧ RecFacts r.records h) (fun s hs => ⟨hX s hs, hRf s hs⟩) hch w).2 s' hs'
  have G0 : Ground q loose [] XP w s (s.heap.nsMap mainGlobals) (s.heap.nsMap builtinsNs) s.heap := ⟨G00.T, G00.B, G00.D, G00.TE, G00.TD, G00.W, G00.X.1, G00.cls, G00.has, G00.apart, G00.once, G00.K⟩
  have RF := G00.X.2
  refine ⟨s₀, hf, hg0, s, hT, pin w s hg G0, RF.1, RF.2.1, ?_⟩
  have hgens : s.gens = #[] := Array.eq_empty_of_size_eq_zero (beq_iff_eq.mp hgens)
  have G : Ground q loose r.records XP w s _ _ s.heap := RF.ground G0
  refine callFromC (c := r.claim) hz hgens fun args hpre hlay ord hord => ?_
  obtain ⟨⟨vs, s₁⟩, hlaid⟩ := Option.isSome_iff_exists.mp (layAllW_isSome (P := w.params) (ord := ord) G.has args r.args s (pre_splitW hpre).1)
  have keeps := layAllW_keeps _ _ _ hlaid
  have hal := layAllW_rest _ _ _ hlaid
  obtain ⟨as, hrd, hin, hold⟩ := reads_layAllW hord _ _ _ hlaid hlay s₁.heap (fun _ _ e => e)
  have L : Laid r.records w s s₁ args vs as := ⟨⟨ord, hord, hlaid⟩, hrd, hin, hold, keeps, hal.1.trans hgens, hal.2.2.1⟩
  have G₁ := G.keeps hXk keeps
  obtain ⟨f, hf, h⟩ := call w s s₁ _ _ G₁ (hYk _ _ _ (hY w s y) keeps) args vs as hpre hlay L G.low
  have hi := ident_freeW hu ha hap
  have hwi : r.claim.within = [] := List.isEmpty_iff.mp k6
  have last : ∀ {res : Result} {s' : Shared}, GoodWG r.claim (classAt s.heap) (ExcName.means s.heap) args s₁ res s' →
      r.claim.Ends s args vs s₁ res s' ∧ s'.os = s.os ∧ AllBare s'.gens ∧ (writes = true → namesKept r.prog kps s.heap s'.heap ∧ ∀ x ∈ r.records, ∀ a, classAt s.heap x.1 = some a → recordClass s'.heap a x.1 (x.2.map (·.1)) = true) := fun g =>
    have z := g.laid (c := r.claim) hsame hwi hi L
    ⟨z.1, z.2.1, z.2.2, fun q => ⟨namesKept_of hT hg kps keeps g.2.1.old, noTable hwr q⟩⟩
  exact ⟨vs, s₁, hlaid, ht vs w s₁ _ f _ _ G₁.T.g hf (wpC_mono h (fun v s' g => ⟨_, rfl, last g⟩) fun e s' g => last g)⟩

end Fr23

section
open PySem PySem.W PySem.Calls PyProof.Rows Fr23
namespace FrHd.PySem.W
/-- the head for a law whose call is walked over clean contexts (it bears the name that the head's line asks for, in a namespace of my own) -/
theorem holds_open {r : OpenRow} {q : Program} {loose : List Str} {Xt : Shared → Bool} {XP : (Str → Option Value) → Heap → Prop} {α : Type} {Yf : Shared → α} {Ya : World → α} {YP : World → Heap → Prop} {d : DefRec} {kwd : List (Str × Expr)} {N : Nat}
    (left : LeftO r.prog q loose Xt Yf Ya N) (hY : ∀ w s, Yf s = Ya w → YP w s.heap) (hYk : ∀ w h h', YP w h → (∀ b o, h.get? b = some o → h'.get? b = some o) → YP w h')
    (hX : ∀ s, Xt s = true → XP (s.heap.nsMap mainGlobals) s.heap) (hXk : ∀ mg h h', XP mg h → (∀ b o, h.get? b = some o → h'.get? b = some o) → XP mg h')
    (hdef : defOf q r.name = some (d, kwd)) (hp : r.prog.theDef r.name = some (d.params, d.body, d.scope)) (hk : kwWritten? d.params.kwonlyargs d.params.kw_defaults = some kwd) (hRf : ∀ s, Xt s = true → RecFacts r.records s.heap) (hwr : (!r.writes || r.records.isEmpty) = true)
    (k1 : r.wellSaid = true) (ok : (chainsOk q && opensWell r.prog && (frees r.toRowW && r.within.isEmpty)) = true) (hb : r.prog.bare) (hw : r.toRowW.promised)
    (call : WalkC q loose XP YP r.toRowW d kwd) : r.Holds := by
  refine ⟨k1, hw, open_anyC (r := r.toRowW) (tree := fun vs => do match ← nsGet mainNs r.name with
      | some f => do ret (← PySem.call f vs)
      | none => unsupported "claim.caller:no-such-global") left hY hYk hX hXk hRf hwr ok hb hw
    (fun vs w s mg f Q E hg hf h => wpC_then (wpAny_nsGet hg (by rw [hf]; exact wpC_bind (wpC_mono h (fun _ _ x => wpC_pure x) fun _ _ x => x))))
    (fun w s hg G n hn => ?_) fun w s₀ s₁ mg mb G Y args vs as hpre hlay L low => ?_⟩
  · obtain rfl : n = r.name := by split at hn <;> simp_all
    exact pinned_of_view hg G hdef hp hk
  · obtain ⟨a, o, pm, cd, doc, dV, kV, h1, h2, h3, h4, h5⟩ := G.fn hdef
    exact ⟨.ref a, h1, call w s₀ s₁ mg mb G Y a o pm cd doc dV kV h2 h3 h4 h5 (defOf_name hdef ▸ h1) L.gens args vs as hpre hlay L.reads L.well (L.low low)⟩

end FrHd.PySem.W
end

namespace FrHd
open_top hd for PySem.Challenge.rw_fr0023_01

end FrHd

namespace Fr23
open PySem PySem.W PySem.Calls PyProof.Rows
open PySem.Sem (wp)

section
variable {α : Type} {M : Model} {A : Around} {E : Value → Shared → Prop} {s : Shared} {env : Env}
theorem wpC_onRaise0 {m : Sem α} {k : Value → Sem Unit} {Q : α → Shared → Prop} (h : wpC M A m Q (fun _ _ => False) s) : wpC M A (m.onRaise k) Q E s :=
  wpC_onRaise (wpC_mono h (fun _ _ x => x) fun _ _ x => x.elim)
theorem wpC_execs_nil {Q : Flow → Shared → Prop} (h : Q .next s) : wpC M A (execs [] env) Q E s := fun _ _ _ _ _ => h
def nextC (M : Model) (A : Around) (env : Env) (rest : List Stmt) (Q : Flow → Shared → Prop) (E : Value → Shared → Prop) : Flow → Shared → Prop
  | .next, s' => wpC M A (execs rest env) Q E s'
  | f, s' => Q f s'
theorem wpC_execs_cons {st : Stmt} {rest : List Stmt} {Q : Flow → Shared → Prop} (h : wpC M A (exec st env) (nextC M A env rest Q E) E s) : wpC M A (execs (st :: rest) env) Q E s := by
  rw [execs_cons]
  refine wpC_bind (wpC_mono h (fun f s' h' => ?_) fun _ _ x => x)
  cases f <;> first | exact h' | exact wpC_pure h'
/-- a statement that the library walks -/
theorem wpC_execs_leaf {st : Stmt} {rest : List Stmt} {Q : Flow → Shared → Prop} (h : wpAny M A (exec st env) (nextC M A env rest Q E) E s) : wpC M A (execs (st :: rest) env) Q E s := wpC_execs_cons (wpC_of h)
theorem wpC_If {test : Expr} {body orelse : List Stmt} {pos : Pos} {Q : Flow → Shared → Prop}
    (h : wpAny M A (isTrue test env (eval test env)) (fun b s₂ => if b then wpC M A (execs body env) Q E s₂ else wpC M A (execs orelse env) Q E s₂) E s) :
    wpC M A (exec (.If test body orelse pos) env) Q E s := by
  rw [exec_If]
  refine wpC_bind (wpC_standAt (wpC_then (wpAny_mono h (fun b s₂ h₂ => ?_) fun _ _ x => x)))
  cases b <;> exact h₂
theorem wpC_AugAssign_Name {x : Str} {pos' : Pos} {op : Operator} {value : Expr} {pos : Pos} {Q : Flow → Shared → Prop}
    (h : wpAny M A (loadName env x) (fun old s₁ => wpAny M A (eval value env) (fun v s₂ => wpC M A (inplaceOp op old v)
      (fun r s₃ => wpAny M A (storeName env x r) (fun _ => Q .next) E s₃) E s₂) E s₁) E s) :
    wpC M A (exec (.AugAssign (.Name x pos') op value pos) env) Q E s := by
  rw [exec_AugAssign_Name]
  refine wpC_bind (wpC_standAt (wpC_then (wpAny_mono h (fun old s₁ h₁ => ?_) fun _ _ x => x)))
  refine wpC_then (wpAny_holding (wpAny_mono h₁ (fun v s₂ h₂ => ?_) fun _ _ x => x))
  refine wpC_bind (wpC_standAt (wpC_bind (wpC_operate (wpC_mono h₂ (fun r s₃ h₃ => ?_) fun _ _ x => x))))
  exact wpC_bind (wpC_standAt (wpC_of (wpAny_bind (wpAny_bindName (wpAny_mono h₃ (fun _ _ q => wpAny_pure q) fun _ _ x => x)))))
theorem wpC_AugAssign_Attribute {o value : Expr} {attr : Str} {tpos pos : Pos} {op : Operator} {Q : Flow → Shared → Prop}
    (h : wpAny M A (eval o env) (fun ov s₁ => wpAny M A (getAttr ov attr true) (fun old s₂ => wpAny M A (eval value env) (fun v s₃ => wpC M A (inplaceOp op old v)
      (fun new s₄ => wpAny M A (setAttr ov attr new) (fun _ => Q .next) E s₄) E s₃) E s₂) E s₁) E s) :
    wpC M A (exec (.AugAssign (.Attribute o attr tpos) op value pos) env) Q E s := by
  have e : exec (.AugAssign (.Attribute o attr tpos) op value pos) env = (do
      standAt pos
      let ov ← eval o env
      let new ← holding [ov] do
        standAt tpos.atName
        let old ← getAttr ov attr true
        let v ← holding [old] (eval value env)
        standAt pos
        operate [old, v] (inplaceOp op old v)
      standAt tpos.atName
      holding [new, ov] (setAttr ov attr new)
      release [new, ov] []
      pure .next) := rfl
  rw [e]
  refine wpC_bind (wpC_standAt (wpC_then (wpAny_mono h (fun ov s₁ h₁ => ?_) fun _ _ x => x)))
  refine wpC_bind (wpC_holding (wpC_bind (wpC_standAt (wpC_then (wpAny_mono h₁ (fun old s₂ h₂ => ?_) fun _ _ x => x)))))
  refine wpC_then (wpAny_holding (wpAny_mono h₂ (fun v s₃ h₃ => ?_) fun _ _ x => x))
  refine wpC_bind (wpC_standAt (wpC_operate (wpC_mono h₃ (fun new s₄ h₄ => ?_) fun _ _ x => x)))
  exact wpC_bind (wpC_standAt (wpC_of (wpAny_bind (wpAny_holding (wpAny_mono h₄ (fun _ s₅ h₅ => wpAny_bind (wpAny_release (wpAny_pure h₅))) fun _ _ x => x)))))
theorem wpC_Delete_Subscript {o i : Expr} {spos pos : Pos} {Q : Flow → Shared → Prop}
    (h : wpAny M A (eval o env) (fun ov s₁ => wpAny M A (eval i env) (fun iv s₂ => wpC M A (delItem ov iv) (fun _ => Q .next) E s₂) E s₁) E s) :
    wpC M A (exec (.Delete [.Subscript o i spos] pos) env) Q E s := by
  have e : exec (.Delete [.Subscript o i spos] pos) env = (do
      standAt pos
      (do
        (do
          let ov ← eval o env
          let iv ← holding [ov] (eval i env)
          standAt spos
          holding [ov, iv] (delItem ov iv)
          release [ov, iv] [])
        pure ())
      pure .next) := rfl
  rw [e]
  refine wpC_bind (wpC_standAt (wpC_bind (wpC_bind ?_)))
  refine wpC_then (wpAny_mono h (fun ov s₁ h₁ => ?_) fun _ _ x => x)
  refine wpC_then (wpAny_holding (wpAny_mono h₁ (fun iv s₂ h₂ => ?_) fun _ _ x => x))
  exact wpC_bind (wpC_standAt (wpC_bind (wpC_holding (wpC_mono h₂ (fun _ s₃ h₃ => wpC_of (wpAny_release (wpC_pure (wpC_pure h₃)))) fun _ _ x => x))))
theorem wpC_callWith {pos : Pos} {f : Value} {first : List Value} {args : List (Bool × Sem Value)} {P : Heap → Prop} {Q : Value → Shared → Prop} (hplain : args.any (·.1) = false)
    (hk : ∀ h, P h → ∃ k, (k = Keeper.frame ∨ k = Keeper.machine ∨ k = Keeper.boundFrame) ∧ Looks M h (keeperOf f) k)
    (h : wpAny M A (evalArgs f true args []) (fun a s₁ => P s₁.heap ∧ wpC M A (call f (first ++ a.pos) a.kw) Q E s₁) E s) : wpC M A (callWith pos f first args []) Q E s := by
  unfold callWith
  refine wpC_then (wpAny_holding (wpAny_mono h (fun a s₁ h₁ => ?_) fun _ _ x => x))
  refine wpC_bind (wpC_standAt ?_)
  obtain ⟨k, hk', L⟩ := hk _ h₁.1
  simp only [hplain, List.any_nil, Bool.or_false]
  refine wpC_then (L.here ?_)
  have tail : ∀ {t : Sem Value}, wpC M A t Q E s₁ → wpC M A (t >>= fun r => holding [r] point >>= fun _ => pure r) Q E s₁ :=
    fun ht => wpC_bind (wpC_mono ht (fun r s₂ hr => wpC_of (wpAny_bind (wpAny_holding (wpAny_point (wpAny_pure hr))))) fun _ _ x => x)
  have marked (mk : Value) : wpC M A (callMarked mk f (first ++ a.pos) a.kw) Q E s₁ := by unfold callMarked; exact wpC_keep h₁.2
  rcases hk' with rfl | rfl | rfl <;> dsimp only <;> first | exact tail h₁.2 | (split <;> first | exact tail h₁.2 | exact tail (marked _))
end

section
variable {prog : Program} {w : World} {A : Around} {E : Value → Shared → Prop} {s : Shared} {env : Env}
theorem wpC_Expr {e : Expr} {pos : Pos} {Q : Flow → Shared → Prop} (h : wpC (model prog w) A (eval e env) (fun _ => Q .next) E s)
    (hi : interactive env = false := by rfl) (hs : swapsWith e none pos.line env = pure false := by rfl) : wpC (model prog w) A (exec (.Expr e pos) env) Q E s := by
  rw [exec_Expr env e pos hi hs]
  exact wpC_bind (wpC_standAt (wpC_bind (wpC_mono h (fun v s' h' => wpC_of (wpAny_dropValue h')) fun _ _ x => x)))
theorem wpC_Call_Attribute {M : Model} {o : Expr} {name : Str} {apos pos : Pos} {args : List Expr} {pl : Sem Bool} {Q : Value → Shared → Prop}
    (h : wpAny M A (eval o env) (fun ov s₁ => wpAny M A (getMethod ov name pl) (fun fx s₂ => wpC M A (callWith pos fx.1 fx.2 (backTo pos (starEach args env)) []) Q E s₂) E s₁) E s)
    (he : eval (.Call (.Attribute o name apos) args [] pos) env = (do
      let ov ← eval o env
      standAt apos.atName
      let (f, first) ← holding [ov] (getMethod ov name pl)
      callWith pos f first (backTo pos (starEach args env)) []) := by rfl) :
    wpC M A (eval (.Call (.Attribute o name apos) args [] pos) env) Q E s := by
  rw [he]
  refine wpC_then (wpAny_mono h (fun ov s₁ h₁ => ?_) fun _ _ x => x)
  exact wpC_bind (wpC_standAt (wpC_then (wpAny_holding (wpAny_mono h₁ (fun fx s₂ h₂ => h₂) fun _ _ x => x))))
end

section
variable {prog : Program} {w : World} {A : Around} {E : Value → Shared → Prop} {R : Result → Shared → Prop} {s : Shared}
theorem codeC_func {body : List Stmt} {env : Env} (h : wpC (model prog w) (A.deeper env) (execs body env) (fun f s' => R (.ok (.ret (match f with | .ret v => v | _ => .none))) s') (fun _ _ => False) s) :
    codeC (model prog w) A (.func body env) R s := by
  refine codeC_of_tree rfl ?_
  show wpC _ (A.deeper env) (do point; match ← (execs body env).onRaise (leaving env) with | .ret v => ret v | _ => ret .none) _ _ s
  refine wpC_bind (wpC_of (wpAny_point (wpC_bind (wpC_onRaise0 (wpC_mono h (fun f s' h' => ?_) fun _ _ x => x)))))
  cases f <;> exact wpC_pure h'
theorem codeC_call_function {a : Addr} {args : Args} {o : Obj} {fd : FuncData} {body : List Stmt} (hroom : A.depth < recursionLimit)
    (ho : s.heap.get? a = some o) (hd' : o.data = .func fd) (hco : fd.scope.isCoroutine = false) (hgen : fd.scope.isGenerator = false) (hbody : fd.body = .stmts body) (hcd : s.heap.CodeRec fd.code fd.qualname)
    (h : wpAny (model prog w) A.in1 (bindArgs fd args) (fun binds s₁ =>
      wpAny (model prog w) A.in1 (newFunctionEnv fd.scope fd.globals fd.closure binds (fd.qualname ++ ".<locals>.") (some a) fd.code none fd.builtins)
        (fun env s₂ => s₂.heap.NoLimit ∧ codeC (model prog w) A (.func body env) R s₂) (fun e s' => R (.error e) s') s₁) (fun e s' => R (.error e) s') s) :
    codeC (model prog w) A (.call (.ref a) args) R s := by
  refine codeC_of_tree rfl ?_
  show wpC _ A.in1 (callAny (.ref a) args) _ _ s
  simp only [callAny]
  refine wpC_then (wpAny_load ho ?_)
  obtain ⟨c, oc, vs, tq, hc, hoc, hdc, hq⟩ := hcd
  simp only [hd', callFunction, hco, hgen, hbody, hc]
  rw [hc] at h
  refine wpC_then (m := field (.ref c) 1) (wpAny_field hoc hdc hq (wpC_of (wpAny_bind (wpAny_pure ?_))))
  exact wpAny_bind (wpAny_mono h (fun binds s₁ h₁ => wpAny_bind (wpAny_mono h₁ (fun env s₂ h₂ => wpAny_bind (wpAny_enterFrame h₂.1 hroom
    (wpAny_pure (And.intro rfl h₂.2)))) fun _ _ h' => h')) fun _ _ h' => h')
theorem codeC_call_builtin {id : String} {args : Args} {b : Builtin} (hl : lends (.builtin id args) = false) (hq : plainId id = true) (hb : entryFor table id = some b)
    (h : wpAny (model prog w) A.in1 (checkBuiltinCall id args) (fun _ s₁ => wpC (model prog w) A.in1 (b args) (againC (model prog w) A R) (fun e s' => R (.error e) s') s₁)
      (fun e s' => R (.error e) s') s) : codeC (model prog w) A (.call (.builtin id) args) R s := by
  refine codeC_of_tree rfl ?_
  show wpC _ A.in1 (do checkBuiltinCall id args; again (.builtin id args)) _ _ s
  refine wpC_then (wpAny_mono h (fun _ s₁ h₁ => wpC_pure (And.intro (plainId_quiet hq args) (codeC_of_tree hl ?_))) fun _ _ h' => h')
  show wpC _ _ (match entryFor table id with | some b => b args | none => unsupported ((withoutEnding? id "#data").getD id)) _ _ s₁
  rw [hb, Around.under_plainId hq args]; exact h₁
end

end Fr23

namespace Fr23
open PySem PySem.W PySem.Calls PyProof.Rows
open PySem.Sem (wp)

section
variable {prog : Program} {w : World} {A : Around} {E : Value → Shared → Prop} {R : Result → Shared → Prop} {s : Shared}
theorem codeC_call_builtin_at {id : String} {args : Args} {b : Builtin} (hl : lends (.builtin id args) = false) (hq : (Code.builtin id args).quiet = true) (hb : entryFor table id = some b)
    (h : wpAny (model prog w) A.in1 (checkBuiltinCall id args) (fun _ s₁ => wpC (model prog w) (A.under (.builtin id args)) (b args) (againC (model prog w) A R) (fun e s' => R (.error e) s') s₁)
      (fun e s' => R (.error e) s') s) : codeC (model prog w) A (.call (.builtin id) args) R s := by
  refine codeC_of_tree rfl ?_
  show wpC _ A.in1 (do checkBuiltinCall id args; again (.builtin id args)) _ _ s
  refine wpC_then (wpAny_mono h (fun _ s₁ h₁ => wpC_pure (And.intro hq (codeC_of_tree hl ?_))) fun _ _ h' => h')
  show wpC _ _ (match entryFor table id with | some b => b args | none => unsupported ((withoutEnding? id "#data").getD id)) _ _ s₁
  rw [hb]; exact h₁
end

section
variable {prog : Program} {w : World} {A : Around} {R : Result → Shared → Prop} {s : Shared}
theorem codeC_builtin {id : String} {args : Args} {b : Builtin} (hl : lends (.builtin id args) = false) (hb : entryFor table id = some b)
    (h : wpC (model prog w) (A.under (.builtin id args)) (b args) (againC (model prog w) A R) (fun e s' => R (.error e) s') s) : codeC (model prog w) A (.builtin id args) R s := by
  refine codeC_of_tree hl ?_
  show wpC _ _ (match entryFor table id with | some b => b args | none => unsupported ((withoutEnding? id "#data").getD id)) _ _ s
  rw [hb]; exact h
end

section
variable {prog : Program} {w : World} {A : Around} {K : Frag} {C : Addr} {R : Result → Shared → Prop} {h : Heap} {g : Array GenState} {d : Drawn} {t : Nat} {os : OsState}
theorem codeC_make_core {rest : List Value} {kw : List (Str × Value)} {init : Value} (Y : Makes (model prog w) h C) (hi : Looks (model prog w) h (typeLookup (.ref C) "__init__") (some init))
    (hb : ∀ self, Looks (model prog w) h (bindSpecial init self) (init, [self])) (hne : (some init != some (Value.builtin "object.__init__")) = true ∨ (rest = [] ∧ kw = []))
    (hq : codeC (model prog w) (A.under (.builtin "type.__call__" ⟨.ref C :: rest, kw⟩)) (.call init ⟨.ref (h.objs.size + 1) :: rest, kw⟩) (InitBack (h.objs.size + 1) R) ⟨(h.push emptyDict).push (instObj C h.objs.size), g, d, t, os⟩) :
    codeC (model prog w) A (.call (.ref C) ⟨rest, kw⟩) R ⟨h, g, d, t, os⟩ := by
  have Y' := Y
  obtain ⟨⟨oc, od, cd, sl, hC, e1, e2, e4⟩, made, base, self, top, call, typ⟩ := Y
  refine codeC_of_tree rfl ?_
  show wpC _ _ (callAny (.ref C) _) _ _ _
  have e0 : ∀ o, o.data = .cls cd → (match (o : Obj).data with | .func _ => False | _ => True) := fun o e => by rw [e]; trivial
  unfold callAny
  refine wpC_then (wpAny_load hC ?_)
  show wpC _ _ (callAny.viaDunder (.ref C) _) _ _ _
  unfold callAny.viaDunder
  refine wpC_then (call.at ?_)
  dsimp only
  rw [tc_bind]
  refine wpC_bind (wpC_pure (wpC_bind (wpC_pure ?_)))
  refine wpC_pure (a := Fin.again (.call (.builtin "type.__call__") ⟨.ref C :: rest, kw⟩)) (And.intro rfl ?_)
  refine codeC_call_builtin_at (show List.contains _ "type.__call__" = false by decide +kernel) (Code.quiet_builtin _ (by decide +kernel)) entry_typeCall (check_slot tc_kind tc_split typ (tc_args _ _ _) ?_)
  unfold Builtin.«type.__call__»
  have hm : Looks (model prog w) h (mroOf (.ref C)) cd.mro := ((Looks.ld (part := none) hC).andThen .now).andThen .now
  show wpC _ _ (mroOf (.ref C) >>= _) _ _ _
  refine wpC_then (hm.at ?_)
  dsimp only
  rw [if_neg (by rw [e4]; exact Bool.false_ne_true)]
  refine wpC_then (made.at ?_)
  dsimp only
  refine wpC_bind (wpC_pure (wpC_bind (wpC_of (wpAny_holding (wpAny_call (new_K Y' hi hne ?_))))))
  have k : ∀ b o, h.get? b = some o → ((h.push emptyDict).push (instObj C h.objs.size)).get? b = some o := fun b o e => Heap.get?_push_of_some _ (Heap.get?_push_of_some _ e)
  have hx : ((h.push emptyDict).push (instObj C h.objs.size)).get? (h.objs.size + 1) = some (instObj C h.objs.size) := by
    have := Heap.get?_push_size (h.push emptyDict) (o := instObj C h.objs.size) rfl
    rwa [Heap.size_push] at this
  have t1 : Looks (model prog w) ((h.push emptyDict).push (instObj C h.objs.size)) (typeOf (.ref (h.objs.size + 1))) (.ref C) := (Looks.ld hx).andThen .now
  have s1 := self.keeps k
  have i1 := hi.keeps k
  have b1 := (hb (.ref (h.objs.size + 1))).keeps k
  have i2 : Looks (model prog w) ((h.push emptyDict).push (instObj C h.objs.size)) (isInstance (.ref (h.objs.size + 1)) (.ref C)) true := t1.andThen s1
  refine wpC_then (i2.at ?_)
  try simp only [Bool.not_true, Bool.false_eq_true, if_false]
  refine wpC_bind (wpC_holding ?_)
  unfold callSpecial? specialOf
  refine wpC_bind (wpC_then (t1.at (wpC_of (i1.at ?_))))
  dsimp only
  refine wpC_holding (wpC_then (b1.at ?_))
  refine wpC_bind (wpC_call (codeC_mono hq fun r s' z => ?_))
  rcases r with e | (v | _ | _ | _) <;> first | exact z | exact z.elim | skip
  obtain ⟨rfl, z⟩ := z
  exact wpC_pure (wpC_pure z)
end
end Fr23

namespace Fr23
open PySem PySem.W PySem.Calls PyProof.Rows
open PySem.Sem (wp)

section
variable {prog : Program} {w : World} {A : Around} {K : Frag} {C x : Addr} {s : Shared} {h₀ : Heap} {L : Addr} {m : Str → Option Value} {news : List (Addr × Obj)} {R : Result → Shared → Prop}
theorem codeC_make {rest : List Value} {kw : List (Str × Value)} {fI : Addr} (F : Fr h₀ L s.heap m) (N : News h₀ L s.heap news) (X₀ : K.In h₀) (hm : makesIn K C = true)
    (hi : findIn K (.ref C) "__init__" = some (some (.ref fI))) (hf : isFn K (.ref fI) = true)
    (h : ∀ x dx h', Fr h₀ L h' m → News h₀ L h' ((x, instObj C dx) :: (dx, dictOf [] 0) :: news) → (∀ p ∈ news, p.1 < dx) → dx < x →
      codeC (model prog w) (A.under (.builtin "type.__call__" ⟨.ref C :: rest, kw⟩)) (.call (.ref fI) ⟨.ref x :: rest, kw⟩) (InitBack x R) { s with heap := h' }) :
    codeC (model prog w) A (.call (.ref C) ⟨rest, kw⟩) R s := by
  have X := X₀.keeps F.keep
  obtain ⟨hh, g, d, t, os⟩ := s
  refine codeC_make_core (makes_of X hm) (looks_findIn X hi) (fun self => bind_fn X self (beq_iff_eq.mp hf)) (.inl rfl) (h _ hh.objs.size _ ((F.push _).push _) ?_ (fun p hp => Heap.lt_size (N p hp).1) (Nat.lt_succ_self _))
  have := (N.push F emptyDict).push (F.push _) (instObj C hh.objs.size)
  rwa [Heap.size_push] at this
end

section
variable {prog : Program} {w : World} {A₀ A : Around} {s : Shared} {K : Frag} {base h₀ : Heap} {outer : List Env} {L : Addr} {m mg mb : Str → Option Value} {env : Env} {news : List (Addr × Obj)} {p : Program} {loose : List Str} {mean : ExcName → Option Value}
  {R : Result → Shared → Prop} {name qual : Str} {params : Arguments} {body : List Stmt} {scope : Scope} {dV kV doc pm cdv ct oc : Value} {an od : Option Addr} {osl : Array (Option Value)} {f : Addr} {args : Args} {binds : List (Str × Value)}

theorem codeC_def (B : Below A₀ base outer h₀) (F : Fr h₀ L s.heap m) (X₀ : K.In h₀) (N : News h₀ L s.heap news) (T : Top p loose mean mg mb h₀) (hA : A.frames = some (env :: outer)) (hf : env.frame = some L) (hke : env.scope.kind = .function)
    (ho : K.lookup f = some ⟨oc, od, .func (fnOf name qual params body scope dV kV doc pm an cdv ct), osl⟩) (hcd : codeIn K cdv qual = true) (hroom : A.depth < recursionLimit)
    (hbind : BindsTo s (fnOf name qual params body scope dV kV doc pm an cdv ct) args binds) (hloc : ∀ y ∈ binds, scope.names.lookup y.1 = some .local)
    (h : ∀ g L' h₁, Fr h₀ L g m → Fr g L' h₁ (fun y => binds.reverse.lookup y) → News g L' h₁ news → Below A base (env :: outer) g → K.In g → Top p loose mean mg mb g →
      wpC (model prog w) (A.deeper (envOf qual scope L' f cdv)) (execs body (envOf qual scope L' f cdv))
        (fun fl s' => LeaveK h₀ L m g R (match fl with | .ret v => v | _ => .none) s') (fun _ _ => False)
        { s with heap := h₁, toks := s.toks + binds.length })
    (hco : scope.isCoroutine = false) (hgen : scope.isGenerator = false) (hk : scope.kind = .function) (hcell : ∀ x ∈ scope.names, x.2 ≠ .cell) : codeC (model prog w) A (.call (.ref f) args) R s := by
  obtain ⟨FG, BG, st, lv⟩ := groundX (R := R) B F N hA hf hke
  have ho' := (X₀.keeps F.keep) _ _ ho
  have hlim := T.nolimit
  refine codeC_call_function (fd := fnOf name qual params body scope dV kV doc pm an cdv ct) (body := body) hroom ho' rfl hco hgen rfl (codeRec_of (X₀.keeps F.keep) hcd) (hbind _ _ _ _ ?_)
  refine wpAny_newFunctionEnv hcell hloc (fun h₁ hns hsb => ⟨(hlim.keeps F.keep).fresh _ hsb, codeC_func ?_⟩) hk
  have hk₁ : ∀ b o, s.heap.get? b = some o → h₁.get? b = some o := fun b o e => hsb.extBut b o (Nat.ne_of_lt (Heap.lt_size e)) (Heap.get?_push_of_some _ e)
  exact wpC_mono (h _ s.heap.objs.size h₁ FG ⟨hns, fun b o e => hk₁ b o (of_hideAll _ e), Nat.le_of_eq (hideAll_size _ _)⟩
    (fun p hp => ⟨hk₁ _ _ (N p hp).1, Nat.ne_of_lt (Heap.lt_size (N p hp).1), hideAll_none _ (List.mem_map_of_mem hp)⟩) BG (X₀.keeps st) (T.keeps st)) (fun fl s' hl => lv _ _ hl) fun _ _ y => y
end

section
variable {prog : Program} {w : World} {A : Around} {R : Result → Shared → Prop} {s : Shared} {name : Str} {params : Arguments} {body : List Stmt} {scope : Scope}
    {pm cd doc : Value} {a : Addr} {o : Obj} {args : List Value} {binds : List (Str × Value)}
/-- a def whose locals are captured, called from the claim's caller -/
theorem codeC_cells (hroom : A.depth < recursionLimit) (ho : s.heap.get? a = some o) (hdata : o.data = .func (Calls.docDef name params body scope pm cd doc)) (hlim : s.heap.NoLimit) (hcd : s.heap.CodeRec cd name)
    (hbind : bindArgs (Calls.docDef name params body scope pm cd doc) ⟨args, []⟩ = pure binds)
    (hkind : ∀ x ∈ binds, scope.names.lookup x.1 = some .local ∨ (scope.names.lookup x.1 = some .cell ∧ ((cellsFrom (s.heap.objs.size + 1) scope.names []).lookup x.1).isSome = true))
    (hnd : ((cellsFrom 0 scope.names []).map (·.1)).Nodup)
    (h : ∀ h₁ tk cells, Fr s.heap s.heap.objs.size h₁ (bindL (envOfC name scope s.heap.objs.size a cd).kindOf binds fun _ => none) → News s.heap s.heap.objs.size h₁ cells →
      CellsAre (bindC (envOfC name scope s.heap.objs.size a cd).kindOf binds fun _ => none) (cellsFrom (s.heap.objs.size + 1) scope.names []) cells →
      wpC (model prog w) (A.deeper (envOfC name scope s.heap.objs.size a cd)) (execs body (envOfC name scope s.heap.objs.size a cd))
        (fun f s' => R (.ok (.ret (match f with | .ret v => v | _ => .none))) s') (fun _ _ => False) { s with heap := h₁, toks := tk })
    (hco : scope.isCoroutine = false := by rfl) (hgen : scope.isGenerator = false := by rfl) (hk : scope.kind = .function := by rfl) :
    codeC (model prog w) A (.call (.ref a) ⟨args, []⟩) R s := by
  refine codeC_call_function hroom ho hdata hco hgen rfl hcd ?_
  rw [hbind]
  refine wpAny_pure (wpAny_newFunctionEnv_cells hk hkind fun env' he s' x => ?_)
  subst he
  obtain ⟨h₁, tk, rfl, _⟩ := x.done
  refine ⟨hlim.keeps x.toInCall.keep, codeC_func ?_⟩
  obtain ⟨cells, NC, Y⟩ := Cl.news (h₀ := s.heap) (Nat.le_refl _) fun n c hm => ⟨x.cell n c (lookup_of_mem_nodup (cellsFrom_names scope.names 0 (s.heap.objs.size + 1) [] [] rfl ▸ hnd) hm), x.above n c hm⟩
  exact h h₁ tk cells ⟨x.toInCall.ns, x.toInCall.keep, Nat.le_refl _⟩ NC Y
end
end Fr23

namespace Fr23
open PySem PySem.W PySem.Calls PyProof.Rows
open PySem.Sem (wp)

namespace BF
theorem mro : mroOf (.type "bytearray") = pure [.type "bytearray", .type "object"] := by rw [mroOf_type]; kernel_rfl
theorem lookup_new : typeLookup (.type "bytearray") "__new__" = pure (some (.builtin "bytearray.__new__")) := by rw [typeLookup_type, builtinLookup_eq_fast]; kernel_rfl
theorem sub : isSubtype (.type "bytearray") (.type "bytearray") = pure true := by rw [isSubtype_type]; kernel_rfl
theorem slot_init : Slot "bytearray" "__init__" "bytearray.__init__" :=
  .of (owner := "bytearray") (n := "__init__") (by rw [typeLookup_type, builtinLookup_eq_fast]; kernel_rfl) (by decide +kernel) (by decide +kernel) (by decide +kernel) (.inl (by decide +kernel)) sub
theorem called : TypeCalled "bytearray" "bytearray.__new__" "bytearray.__init__" :=
  ⟨by decide +kernel, by decide +kernel, ⟨_, _, mro⟩, madeBy_type mro lookup_new (by decide +kernel), by decide +kernel, sub, slot_init⟩
theorem typeCall_0 : checkTypeCall "bytearray" ⟨[], []⟩ = pure () := by kernel_rfl
theorem typeCall_1 (a : Value) : checkTypeCall "bytearray" ⟨[a], []⟩ = pure () := by kernel_rfl
theorem newCall_0 : checkBuiltinCall "bytearray.__new__" ⟨[.type "bytearray"], []⟩ = pure () := by kernel_rfl
theorem newCall_1 (a : Value) : checkBuiltinCall "bytearray.__new__" ⟨[.type "bytearray", a], []⟩ = pure () := by kernel_rfl
theorem entry_new : entryFor table "bytearray.__new__" = some Builtin.«list.__new__» :=
  entryFor_alias (id' := "list.__new__") (by kernel_rfl) (by first | rfl | decide +kernel) (by decide +kernel) (by kernel_rfl)
theorem entry_init : entryFor table "bytearray.__init__" = some Builtin.«bytearray.__init__» := by first | exact entryFor_of_fast (by kernel_rfl) | exact entryFor_of_tree (by kernel_rfl)
theorem entry_iadd : entryFor table "bytearray.__iadd__" = some Builtin.«bytearray.__iadd__» := by first | exact entryFor_of_fast (by kernel_rfl) | exact entryFor_of_tree (by kernel_rfl)
theorem entry_getitem : entryFor table "bytearray.__getitem__" = some Builtin.«bytearray.__getitem__» := by first | exact entryFor_of_fast (by kernel_rfl) | exact entryFor_of_tree (by kernel_rfl)
theorem entry_delitem : entryFor table "bytearray.__delitem__" = some Builtin.«bytearray.__delitem__» := by first | exact entryFor_of_fast (by kernel_rfl) | exact entryFor_of_tree (by kernel_rfl)
theorem entry_len : entryFor table "bytearray.__len__" = some Builtin.«bytearray.__len__» := by first | exact entryFor_of_fast (by kernel_rfl) | exact entryFor_of_tree (by kernel_rfl)
theorem plain_new : plainId "bytearray.__new__" = true := by decide +kernel
theorem args_init_1 (a : Value) : argsOk "bytearray.__init__" ⟨[a], []⟩ := by unfold argsOk; kernel_rfl
theorem args_init_2 (a b : Value) : argsOk "bytearray.__init__" ⟨[a, b], []⟩ := by unfold argsOk; kernel_rfl
theorem args_iadd (a b : Value) : argsOk "bytearray.__iadd__" ⟨[a, b], []⟩ := by unfold argsOk; kernel_rfl
theorem args_getitem (a b : Value) : argsOk "bytearray.__getitem__" ⟨[a, b], []⟩ := by unfold argsOk; kernel_rfl
theorem args_delitem (a b : Value) : argsOk "bytearray.__delitem__" ⟨[a, b], []⟩ := by unfold argsOk; kernel_rfl
theorem args_len (a : Value) : argsOk "bytearray.__len__" ⟨[a], []⟩ := by unfold argsOk; kernel_rfl
theorem slot_iadd : Slot "bytearray" "__iadd__" "bytearray.__iadd__" :=
  .of (owner := "bytearray") (n := "__iadd__") (by rw [typeLookup_type, builtinLookup_eq_fast]; kernel_rfl) (by decide +kernel) (by decide +kernel) (by decide +kernel) (.inl (by decide +kernel)) sub
theorem slot_getitem : Slot "bytearray" "__getitem__" "bytearray.__getitem__" :=
  .of (owner := "bytearray") (n := "__getitem__") (by rw [typeLookup_type, builtinLookup_eq_fast]; kernel_rfl) (by decide +kernel) (by decide +kernel) (by decide +kernel) (.inl (by decide +kernel)) sub
theorem slot_delitem : Slot "bytearray" "__delitem__" "bytearray.__delitem__" :=
  .of (owner := "bytearray") (n := "__delitem__") (by rw [typeLookup_type, builtinLookup_eq_fast]; kernel_rfl) (by decide +kernel) (by decide +kernel) (by decide +kernel) (.inl (by decide +kernel)) sub
theorem slot_len : Slot "bytearray" "__len__" "bytearray.__len__" :=
  .of (owner := "bytearray") (n := "__len__") (by rw [typeLookup_type, builtinLookup_eq_fast]; kernel_rfl) (by decide +kernel) (by decide +kernel) (by decide +kernel) (.inl (by decide +kernel)) sub
theorem noBool : typeLookup (.type "bytearray") "__bool__" = pure none := by rw [typeLookup_type, builtinLookup_eq_fast]; kernel_rfl
theorem noBytes : typeLookup (.type "bytearray") "__bytes__" = pure none := by rw [typeLookup_type, builtinLookup_eq_fast]; kernel_rfl
theorem noIndex : typeLookup (.type "bytearray") "__index__" = pure none := by rw [typeLookup_type, builtinLookup_eq_fast]; kernel_rfl
theorem look_buffer : typeLookup (.type "bytearray") "__buffer__" = pure (some (.builtin "bytearray.__buffer__")) := by rw [typeLookup_type, builtinLookup_eq_fast]; kernel_rfl
theorem look_release : typeLookup (.type "bytearray") "__release_buffer__" = pure (some (.builtin "bytearray.__release_buffer__")) := by rw [typeLookup_type, builtinLookup_eq_fast]; kernel_rfl
theorem b_buffer : typeLookup (.type "bytes") "__buffer__" = pure (some (.builtin "bytes.__buffer__")) := by rw [typeLookup_type, builtinLookup_eq_fast]; kernel_rfl
theorem b_release : typeLookup (.type "bytes") "__release_buffer__" = pure none := by rw [typeLookup_type, builtinLookup_eq_fast]; kernel_rfl
theorem bind_init_0 : Builtin.Bytes.bindOptional "bytearray.__init__" "bytearray" ["source", "encoding", "errors"] [] [] = pure [none, none, none] := by kernel_rfl
theorem bind_init_1 (v : Value) : Builtin.Bytes.bindOptional "bytearray.__init__" "bytearray" ["source", "encoding", "errors"] [v] [] = pure [some v, none, none] := by kernel_rfl
theorem fills : fillsInplaceSlot (.type "bytearray") "add" true = pure false := by unfold fillsInplaceSlot; simp only [dunderI]; rw [typeLookup_type, builtinLookup_eq_fast]; kernel_rfl
end BF
end Fr23

namespace Fr23
open PySem PySem.W PySem.Calls PyProof.Rows
open PySem.Sem (wp)

abbrev baObj (b : Array UInt8) : Obj := { cls := .type "bytearray", data := .bytearray b }
theorem baT {s : Shared} {a : Addr} {b : Array UInt8} (ho : s.heap.get? a = some (baObj b)) : s.TypeIs (.ref a) "bytearray" := ⟨_, ho, rfl⟩

section
variable {M : Model} {A : Around} {E : Value → Shared → Prop} {s : Shared} {a : Addr} {b : Array UInt8}
theorem if_no {α : Type} {c : Bool} {x y : Sem α} {Q : α → Shared → Prop} (hc : c = false) (h : wpAny M A y Q E s) : wpAny M A (if c = true then x else y) Q E s := by subst hc; exact h
theorem if_yes {α : Type} {c : Bool} {x y : Sem α} {Q : α → Shared → Prop} (hc : c = true) (h : wpAny M A x Q E s) : wpAny M A (if c = true then x else y) Q E s := by subst hc; exact h
theorem ifC_no {α : Type} {c : Bool} {x y : Sem α} {Q : α → Shared → Prop} (hc : c = false) (h : wpC M A y Q E s) : wpC M A (if c = true then x else y) Q E s := by subst hc; exact h
theorem ifC_yes {α : Type} {c : Bool} {x y : Sem α} {Q : α → Shared → Prop} (hc : c = true) (h : wpC M A x Q E s) : wpC M A (if c = true then x else y) Q E s := by subst hc; exact h

theorem ba_payload {Q : Array UInt8 → Shared → Prop} (ho : s.heap.get? a = some (baObj b)) (h : Q b s) : wpAny M A (Builtin.Bytes.payload (.ref a)) Q E s := by
  unfold Builtin.Bytes.payload Builtin.Bytes.payload?
  exact wpAny_bind (wpAny_bind (wpAny_load ho (wpAny_pure (wpAny_pure h))))
theorem by_payload {t : Tok} {Q : Array UInt8 → Shared → Prop} (h : Q b s) : wpAny M A (Builtin.Bytes.payload (.bytes b t)) Q E s := wpAny_pure h
theorem ba_write {f : Array UInt8 → Array UInt8} {Q : Unit → Shared → Prop} (ho : s.heap.get? a = some (baObj b)) (hz : (f b).size ≤ sizeLine)
    (h : Q () { s with heap := s.heap.update a (Obj.mapBytearray f) }) : wpAny M A (Builtin.Bytes.write (.ref a) f) Q E s := by
  show wpAny M A (updateBytearray a f) Q E s
  unfold updateBytearray
  refine wpAny_bind (wpAny_load ho ?_)
  show wpAny M A (update a (Obj.mapBytearray f) >>= fun _ => lookBehind a) Q E s
  refine wpAny_bind (wpAny_update ho ?_)
  have h2 : (s.heap.update a (Obj.mapBytearray f)).get? a = some (baObj (f b)) := Heap.get?_update_self (Obj.mapBytearray f) ho rfl
  refine wpAny_lookBehind h2 ?_ h
  show (if (f b).size > sizeLine then some "bytearray:memory" else none) = none
  rw [if_neg (Nat.not_lt.mpr hz)]
theorem ba_exports {Q : Nat → Shared → Prop} (ho : s.heap.get? a = some (baObj b)) (h : Q 0 s) : wpAny M A (Builtin.Bytes.exportsOf (.ref a)) Q E s := by
  unfold Builtin.Bytes.exportsOf
  exact wpAny_bind (wpAny_load ho (wpAny_pure h))
theorem baC_free {Q : Bool → Shared → Prop} (ho : s.heap.get? a = some (baObj b)) (h : Q false s) :
    wpC M A (Builtin.Bytes.exported (.ref a) <||> (do return (← Builtin.Bytes.exportsOf (.ref a)) > 0)) Q E s := by
  show wpC M A (Builtin.Bytes.exported (.ref a) >>= _) Q E s
  refine wpC_bind (wpC_exported ?_)
  exact wpC_of (wpAny_bind (ba_exports ho (wpAny_pure h)))
theorem baC_resize {Q : Unit → Shared → Prop} (ho : s.heap.get? a = some (baObj b)) (h : Q () s) : wpC M A (Builtin.Bytes.checkResize (.ref a)) Q E s := by
  unfold Builtin.Bytes.checkResize
  exact wpC_bind (baC_free ho (ifC_no rfl (wpC_pure h)))

theorem ba_slotIsOwn_buffer {Q : Bool → Shared → Prop} (ho : s.heap.get? a = some (baObj b)) (h : Q true s) : wpAny M A (Builtin.Bytes.slotIsOwn (.ref a) "__buffer__") Q E s := by
  unfold Builtin.Bytes.slotIsOwn
  refine wpAny_bind (wpAny_specialOf (baT ho) BF.look_buffer ?_)
  refine if_no (by decide +kernel) ?_
  exact wpAny_isInstance (baT ho) (by rw [show String.dropRight "bytearray.__buffer__" ("__buffer__".length + 1) = "bytearray" from by decide +kernel]; exact BF.sub) h
theorem ba_ownRelease {Q : Bool → Shared → Prop} (ho : s.heap.get? a = some (baObj b)) (h : Q false s) : wpAny M A (Builtin.Bytes.ownRelease (.ref a)) Q E s := by
  unfold Builtin.Bytes.ownRelease Builtin.Bytes.slotIsOwn
  refine wpAny_bind (wpAny_bind (wpAny_specialOf (baT ho) BF.look_release ?_))
  refine if_no (by decide +kernel) ?_
  exact wpAny_isInstance (b := true) (baT ho) (by rw [show String.dropRight "bytearray.__release_buffer__" ("__release_buffer__".length + 1) = "bytearray" from by decide +kernel]; exact BF.sub) (wpAny_pure h)
end
end Fr23

namespace Fr23
open PySem PySem.W PySem.Calls PyProof.Rows
open PySem.Sem (wp)

theorem meets_ba_len (a : Addr) (b : Array UInt8) : Meets (Builtin.«bytearray.__len__» ⟨[.ref a], []⟩) (fun _ R s => s.heap.get? a = some (baObj b) ∧ R (.ok (.ret (.int b.size s.toks))) { s with toks := s.toks + 1 }) := by
  refine .of_wp fun prog w A R s hS => ?_
  show wpAny _ _ (Builtin.Bytes.payload (.ref a) >>= fun r => retInt r.size) _ _ s
  exact wpAny_bind (ba_payload hS.1 (wpAny_bind (wpAny_mkInt (wpAny_pure ⟨_, rfl, hS.2⟩))))

section
variable {prog : Program} {w : World} {A : Around} {E : Value → Shared → Prop} {s : Shared} {a : Addr} {b c : Array UInt8} {t : Tok}
theorem ba_len_body {Q : Value → Shared → Prop} (ho : s.heap.get? a = some (baObj b)) (hfit : b.size ≤ 1099511627776) (h : Q (.int b.size (s.toks + 1)) { s with toks := s.toks + 1 + 1 }) :
    wpAny (model prog w) A (Builtin.«len» ⟨[.ref a], []⟩) (fun fin s' => ∃ r, fin = .done (.ret r) ∧ Q r s') E s := by
  unfold Builtin.«len»
  refine wpAny_bind (m := oneArg "len" _) (wpAny_pure ?_)
  refine wpAny_bind (m := callSpecial? (.ref a) (Str.ofString "__len__")) (wpAny_callSpecial?_slot (name := Str.ofString "__len__") (baT ho) BF.slot_len (call_meets BF.slot_len (baT ho) BF.entry_len (BF.args_len _) (meets_ba_len a b) ⟨ho, ?_⟩))
  show wpAny _ _ _ _ _ { s with toks := s.toks + 1 }
  refine wpAny_bind (wpAny_holding (wpAny_pure ?_))
  refine wpAny_bind (wpAny_letGo ?_)
  show wpAny _ _ (if (b.size : Int) < 0 then _ else _) _ _ _
  rw [if_neg (by omega)]
  show wpAny _ _ (if (b.size : Int) ≥ 2 ^ 63 then _ else _) _ _ _
  rw [if_neg (by omega)]
  exact wpAny_bind (wpAny_mkInt (wpAny_pure ⟨_, rfl, h⟩))
theorem ba_len {Q : Value → Shared → Prop} (ho : s.heap.get? a = some (baObj b)) (hfit : b.size ≤ 1099511627776) (h : Q (.int b.size (s.toks + 1)) { s with toks := s.toks + 1 + 1 }) :
    wpAny (model prog w) A (call (.builtin "len") [.ref a]) Q E s :=
  Calls.call_function_entry kind_len plain_len entry_len (args_len1 _) (ba_len_body ho hfit h)
theorem ba_truthy {Q : Bool → Shared → Prop} (ho : s.heap.get? a = some (baObj b)) (hfit : b.size ≤ 1099511627776) (h : Q ((b.size : Int) != 0) { s with toks := s.toks + 1 + 1 }) :
    wpAny (model prog w) A (truthy (.ref a)) Q E s := by
  have key : wpAny (model prog w) A (runValue (.builtin "len" ⟨[.ref a], []⟩)) (fun r s' => r = .int b.size (s.toks + 1) ∧ Q ((b.size : Int) != 0) s') E s := by
    refine wpAny_runValue (codeAny_builtin entry_len ?_)
    rw [Around.under_plainId plain_len _]
    exact wpAny_mono (ba_len_body (Q := fun r s' => r = .int b.size (s.toks + 1) ∧ Q ((b.size : Int) != 0) s') ho hfit ⟨rfl, h⟩) (fun fin s' h' => by obtain ⟨r, rfl, hq⟩ := h'; exact hq) fun _ _ e => e
  unfold truthy
  refine wpAny_bind (wpAny_callSpecial?_none (name := Str.ofString "__bool__") (baT ho) BF.noBool ?_)
  refine wpAny_bind (wpAny_specialOf (name := Str.ofString "__len__") (baT ho) BF.slot_len.lookup ?_)
  exact wpAny_bind (wpAny_mono key (fun r s' h' => by obtain ⟨rfl, hq⟩ := h'; exact wpAny_pure hq) fun _ _ e => e)

theorem ba_buffer {id : String} {full : Bool} {Q : Option (Array UInt8) → Shared → Prop} (ho : s.heap.get? a = some (baObj b)) (h : Q (some b) s) : wpAny (model prog w) A (Builtin.Bytes.buffer? id (.ref a) full) Q E s := by
  unfold Builtin.Bytes.buffer?
  refine wpAny_bind (wpAny_specialOf (baT ho) BF.look_buffer ?_)
  refine wpAny_bind (ba_slotIsOwn_buffer ho ?_)
  refine if_no rfl ?_
  refine wpAny_bind (wpAny_specialOf (baT ho) BF.look_buffer ?_)
  refine wpAny_bind (ba_ownRelease ho ?_)
  refine if_no rfl ?_
  exact wpAny_bind (ba_payload ho (wpAny_pure h))
theorem ba_take {id : String} {Q : Option (Array UInt8 × Option Value) → Shared → Prop} (ho : s.heap.get? a = some (baObj b)) (h : Q (some (b, none)) s) : wpAny (model prog w) A (Builtin.Bytes.takeBufferQuiet? id (.ref a) 0) Q E s := by
  unfold Builtin.Bytes.takeBufferQuiet? Builtin.Bytes.takeBuffer?
  refine wpAny_bind (wpAny_attempt ?_)
  refine wpAny_bind (wpAny_specialOf (baT ho) BF.look_buffer ?_)
  refine wpAny_bind (ba_slotIsOwn_buffer ho ?_)
  refine if_no rfl ?_
  refine wpAny_bind (wpAny_specialOf (baT ho) BF.look_buffer ?_)
  exact wpAny_bind (ba_buffer ho (wpAny_pure (wpAny_pure h)))
theorem by_slotIsOwn_buffer {Q : Bool → Shared → Prop} (h : Q true s) : wpAny (model prog w) A (Builtin.Bytes.slotIsOwn (.bytes b t) "__buffer__") Q E s := by
  unfold Builtin.Bytes.slotIsOwn
  refine wpAny_bind (wpAny_specialOf (typeIs_bytes s b t) BF.b_buffer ?_)
  refine if_no (by decide +kernel) ?_
  exact wpAny_isInstance (typeIs_bytes s b t) (by rw [show String.dropRight "bytes.__buffer__" ("__buffer__".length + 1) = "bytes" from by decide +kernel]; exact F.sub_bytes_bytes) h
theorem by_ownRelease {Q : Bool → Shared → Prop} (h : Q false s) : wpAny (model prog w) A (Builtin.Bytes.ownRelease (.bytes b t)) Q E s := by
  unfold Builtin.Bytes.ownRelease Builtin.Bytes.slotIsOwn
  exact wpAny_bind (wpAny_bind (wpAny_specialOf (typeIs_bytes s b t) BF.b_release (wpAny_pure (wpAny_pure h))))
theorem by_buffer {id : String} {full : Bool} {Q : Option (Array UInt8) → Shared → Prop} (h : Q (some b) s) : wpAny (model prog w) A (Builtin.Bytes.buffer? id (.bytes b t) full) Q E s := by
  unfold Builtin.Bytes.buffer?
  refine wpAny_bind (wpAny_specialOf (typeIs_bytes s b t) BF.b_buffer ?_)
  refine wpAny_bind (by_slotIsOwn_buffer ?_)
  refine if_no rfl ?_
  refine wpAny_bind (wpAny_specialOf (typeIs_bytes s b t) BF.b_buffer ?_)
  refine wpAny_bind (by_ownRelease ?_)
  refine if_no rfl ?_
  exact wpAny_bind (by_payload (wpAny_pure h))
theorem by_take {id : String} {Q : Option (Array UInt8 × Option Value) → Shared → Prop} (h : Q (some (b, none)) s) : wpAny (model prog w) A (Builtin.Bytes.takeBufferQuiet? id (.bytes b t) 0) Q E s := by
  unfold Builtin.Bytes.takeBufferQuiet? Builtin.Bytes.takeBuffer?
  refine wpAny_bind (wpAny_attempt ?_)
  refine wpAny_bind (wpAny_specialOf (typeIs_bytes s b t) BF.b_buffer ?_)
  refine wpAny_bind (by_slotIsOwn_buffer ?_)
  refine if_no rfl ?_
  refine wpAny_bind (wpAny_specialOf (typeIs_bytes s b t) BF.b_buffer ?_)
  exact wpAny_bind (by_buffer (wpAny_pure (wpAny_pure h)))

/-- bytes(of a bytearray) -/
theorem bytes_new_ba {Q : Value → Shared → Prop} (ho : s.heap.get? a = some (baObj b)) (hz : b.size ≤ sizeLine) (hQ : ∀ t k, Q (.bytes b t) { s with toks := k }) :
    codeAny (model prog w) A (.call (.builtin "bytes.__new__") ⟨[.type "bytes", .ref a], []⟩) (wants Q E) s := by
  refine codeAny_of_tree ?_
  show wpAny _ A.in1 (do checkBuiltinCall "bytes.__new__" ⟨[.type "bytes", .ref a], []⟩; again (.builtin "bytes.__new__" ⟨[.type "bytes", .ref a], []⟩)) _ _ s
  refine wpAny_bind (wpAny_of_eq (F.bm_newCall _) (wpAny_pure ⟨plainId_quiet F.bm_plain _, codeAny_builtin F.bm_entry ?_⟩))
  rw [Around.under_plainId F.bm_plain _]
  unfold Builtin.«bytes.__new__»
  refine wpAny_bind (wpAny_of_eq (a := true) rfl ?_)
  refine if_no rfl ?_
  refine wpAny_bind (wpAny_of_eq F.bm_sub ?_)
  refine if_no rfl ?_
  refine wpAny_bind (wpAny_of_eq (F.bm_bind _) ?_)
  refine wpAny_bind (wpAny_of_eq (a := ()) rfl ?_)
  refine wpAny_bind (wpAny_of_eq (a := ()) rfl ?_)
  refine if_no rfl ?_
  refine wpAny_bind (wpAny_specialOf (baT ho) BF.noBytes ?_)
  refine wpAny_bind (wpAny_bind ?_)
  show wpAny _ _ (load a >>= _) _ _ _
  refine wpAny_bind (wpAny_load ho ?_)
  refine wpAny_pure (wpAny_pure ?_)
  refine if_no rfl ?_
  refine wpAny_bind (wpAny_specialOf (baT ho) BF.noIndex ?_)
  refine if_yes rfl ?_
  first
    | show wpAny _ _ (Builtin.Bytes.buffer? "bytes.__new__" (.ref a) true >>= _) _ _ _
    | (refine wpAny_bind ?_; show wpAny _ _ (Builtin.Bytes.buffer? "bytes.__new__" (.ref a) true >>= _) _ _ _)
  refine wpAny_bind (ba_buffer ho ?_)
  refine wpAny_bind (wpAny_rule (wpAny_bind (wpAny_mkBytes ?_ hz)))
  show wpAny _ _ (if (Value.type "bytes" == Value.type "bytes") = true then _ else _) _ _ _
  exact if_yes (by decide) (wpAny_pure (hQ _ _))
theorem ba_bytes {Q : Value → Shared → Prop} (ho : s.heap.get? a = some (baObj b)) (hz : b.size ≤ sizeLine) (hQ : ∀ t k, Q (.bytes b t) { s with toks := k }) :
    wpAny (model prog w) A (call (.type "bytes") [.ref a]) Q E s := by
  refine callType_codes (Q₁ := fun obj s₁ => s₁.TypeIs obj "bytes" ∧ Q obj s₁) F.bm_called (F.bm_typeCall _) F.entry_object_init
    (bytes_new_ba ho hz fun t k => ⟨PySem.W.typeIs_bytes _ _ _, hQ t k⟩) fun obj s₁ h₁ => ?_
  exact ⟨h₁.1, F.args_object_init_2 obj _, object_init_meets F.bm_called.init.lookup F.bm_called.made (by decide) prog w A.in1 _ s₁ ⟨h₁.1, rfl, h₁.2⟩⟩
end
end Fr23

namespace Fr23
open PySem PySem.W PySem.Calls PyProof.Rows
open PySem.Sem (wp)

section
variable {prog : Program} {w : World} {A : Around} {E : Value → Shared → Prop} {s : Shared}

theorem wpC_callType {T newId initId : String} {Bi : Builtin} {args : List Value} {Q Q₁ : Value → Shared → Prop} (ft : TypeCalled T newId initId) (hl : ∀ as, lends (.builtin initId as) = false)
    (hct : checkTypeCall T ⟨args, []⟩ = pure ()) (entryI : entryFor table initId = some Bi)
    (hnew : codeAny (model prog w) A.in1 (.call (.builtin newId) ⟨.type T :: args, []⟩) (wants Q₁ E) s)
    (hnext : ∀ obj s₁, Q₁ obj s₁ → s₁.TypeIs obj T ∧ argsOk initId ⟨obj :: args, []⟩ ∧
      wpC (model prog w) A.in1.in1 (Bi ⟨obj :: args, []⟩) (againC (model prog w) A.in1 (wants (fun r s₂ => r = .none ∧ Q obj s₂) E)) (fun e s' => wants (fun r s₂ => r = .none ∧ Q obj s₂) E (.error e) s') s₁) :
    wpC (model prog w) A (call (.type T) args) Q E s := by
  obtain ⟨c, tl, hmro⟩ := ft.mro
  have hmade := ft.made
  have hsub := ft.sub
  refine wpC_call (codeC_of_tree rfl ?_)
  show wpC _ _ (callAny (.type T) _) _ _ _
  refine wpC_pure ⟨Code.quiet_builtin _ (by decide +kernel), codeC_builtin (show List.contains _ "type.__call__" = false by decide +kernel) F.entry_type_call ?_⟩
  rw [Around.under_plain (weight_type_call_type T args []) (units_type_call_type T args [])]
  have h1 := ft.notType
  have h2 := ft.canCreate
  unfold Builtin.«type.__call__»
  dsimp only
  refine ifC_no h1 ?_
  refine ifC_no h2 ?_
  rw [hct]
  refine wpC_bind (wpC_pure ?_)
  rw [hmro]
  refine wpC_bind (wpC_pure (ifC_no rfl ?_))
  rw [hmade]
  refine wpC_bind (wpC_pure ?_)
  refine wpC_bind (wpC_pure ?_)
  refine wpC_then (wpAny_holding (wpAny_call (codeAny_mono hnew fun r s₁ hr => ?_)))
  cases r with
  | error e => exact hr
  | ok fl =>
    cases fl with
    | ret obj =>
      obtain ⟨hT, hok, hsi⟩ := hnext _ _ hr
      refine wpC_then (wpAny_isInstance hT hsub (ifC_no rfl ?_))
      refine wpC_bind (wpC_holding ?_)
      unfold callSpecial?
      refine wpC_then (wpAny_specialOf hT ft.init.lookup ?_)
      refine wpC_holding ?_
      rw [ft.init.bind obj]
      refine wpC_bind (wpC_pure (wpC_bind (wpC_call ?_)))
      refine codeC_mono (codeC_call_builtin (hl _) ft.init.plain entryI (ft.init.check _ _ _ _ _ _ _ _ hT hok hsi)) fun r₂ s₂ hr₂ => ?_
      cases r₂ with
      | error e => exact hr₂
      | ok fl₂ =>
        cases fl₂ with
        | ret r =>
          obtain ⟨rfl, hq⟩ := hr₂
          exact wpC_pure (wpC_pure hq)
        | _ => exact hr₂.elim
    | _ => exact hr.elim

set_option maxRecDepth 1000000 in
set_option maxHeartbeats 4000000 in
theorem owner_ba_new : ("bytearray.__new__".splitOn ".__new__").headD "" = "bytearray" := by simp +decide [String.splitOn, String.splitOnAux]

theorem ba_new (args : List Value) (hcn : checkBuiltinCall "bytearray.__new__" ⟨.type "bytearray" :: args, []⟩ = pure ()) {Q₁ : Value → Shared → Prop}
    (h : Q₁ (.ref s.heap.objs.size) { s with heap := s.heap.push (baObj #[]) }) :
    codeAny (model prog w) A (.call (.builtin "bytearray.__new__") ⟨.type "bytearray" :: args, []⟩) (wants Q₁ E) s := by
  refine codeAny_of_tree ?_
  show wpAny _ A.in1 (do checkBuiltinCall "bytearray.__new__" ⟨.type "bytearray" :: args, []⟩; again (.builtin "bytearray.__new__" ⟨.type "bytearray" :: args, []⟩)) _ _ s
  refine wpAny_bind (wpAny_of_eq hcn (wpAny_pure ⟨plainId_quiet BF.plain_new _, codeAny_builtin_stack BF.entry_new rfl fun p st => ?_⟩))
  rw [Around.under_plainId BF.plain_new _]
  have hsub := BF.sub
  have hown := owner_ba_new
  obtain ⟨hp, g, d, tk, os⟩ := s
  simp only [hown]
  wp_walk
  exact h

theorem lends_init (as : Args) : lends (.builtin "bytearray.__init__" as) = false := show List.contains _ "bytearray.__init__" = false by decide +kernel

/-- bytearray() -/
theorem baC_make {Q : Value → Shared → Prop} (h : ∀ h', h' = (s.heap.push (baObj #[])).update s.heap.objs.size (Obj.mapBytearray fun _ => #[]) → Q (.ref s.heap.objs.size) { s with heap := h' }) :
    wpC (model prog w) A (call (.type "bytearray") []) Q E s := by
  refine wpC_callType (Q₁ := fun obj s₁ => obj = .ref s.heap.objs.size ∧ s₁ = { s with heap := s.heap.push (baObj #[]) }) BF.called lends_init BF.typeCall_0 BF.entry_init (ba_new [] BF.newCall_0 ⟨rfl, rfl⟩) ?_
  rintro obj s₁ ⟨rfl, rfl⟩
  have hS : (s.heap.push (baObj #[])).get? s.heap.objs.size = some (baObj #[]) := Heap.get?_push_size _ rfl
  refine ⟨⟨_, hS, rfl⟩, BF.args_init_1 _, ?_⟩
  unfold Builtin.«bytearray.__init__»
  refine wpC_then (ba_ownRelease hS (ifC_no rfl ?_))
  rw [BF.bind_init_0]
  refine wpC_bind (wpC_pure ?_)
  refine wpC_bind (wpC_pure (wpC_bind (wpC_pure ?_)))
  refine wpC_bind (baC_free hS (ifC_no rfl ?_))
  refine wpC_then (ba_write hS (Nat.zero_le _) ?_)
  exact wpC_of (wpAny_bind (if_no rfl (if_no rfl (wpAny_pure (wpAny_pure ⟨rfl, h _ rfl⟩)))))
end
end Fr23

namespace Fr23
open PySem PySem.W PySem.Calls PyProof.Rows
open PySem.Sem (wp)

theorem takeWhile_all {α : Type} (p : α → Bool) : ∀ l : List α, (∀ x ∈ l, p x = true) → l.takeWhile p = l
  | [], _ => rfl
  | x :: r, h => by rw [List.takeWhile_cons, h x (List.mem_cons_self ..), if_pos rfl, takeWhile_all p r fun y hy => h y (List.mem_cons_of_mem _ hy)]

section
variable {prog : Program} {w : World} {A : Around} {E : Value → Shared → Prop} {s : Shared} {a : Addr} {b c : Array UInt8} {t : Tok}

theorem ints_items {vs : List Value} {ns : List Int} (hi : IntsAre vs ns) (hr : ∀ n ∈ ns, 0 ≤ n ∧ n < 256) :
    (∀ v ∈ vs, (match v with | .int i _ => decide (0 ≤ i) && decide (i < 256) | _ => false) = true) ∧ vs.filterMap (fun v => match v with | .int i _ => some i.toNat.toUInt8 | _ => none) = ns.map fun n => n.toNat.toUInt8 := by
  induction hi with
  | nil => exact ⟨fun _ h => (nomatch h), rfl⟩
  | cons n t r ih =>
    obtain ⟨i1, i2⟩ := ih fun k hk => hr k (List.mem_cons_of_mem _ hk)
    obtain ⟨h0, h1⟩ := hr n (List.mem_cons_self ..)
    refine ⟨fun v hv => ?_, ?_⟩
    · rcases List.mem_cons.mp hv with rfl | hv
      · simp [h0, h1]
      · exact i1 v hv
    · rw [List.filterMap_cons]
      simp only [List.map_cons]
      rw [i2]

/-- bytearray([ints]) -/
theorem baC_make_list {D : Addr} {vs : List Value} {ns : List Int} {Q : Value → Shared → Prop} (hl : s.heap.IsList D vs.toArray) (hi : IntsAre vs ns) (hr : ∀ n ∈ ns, 0 ≤ n ∧ n < 256) (hz : ns.length ≤ sizeLine)
    (h : ∀ h', h'.get? s.heap.objs.size = some (baObj (byteArr ns)) → (∀ b o, s.heap.get? b = some o → h'.get? b = some o) → Q (.ref s.heap.objs.size) { s with heap := h' }) :
    wpC (model prog w) A (call (.type "bytearray") [.ref D]) Q E s := by
  refine wpC_callType (Q₁ := fun obj s₁ => obj = .ref s.heap.objs.size ∧ s₁ = { s with heap := s.heap.push (baObj #[]) }) BF.called lends_init (BF.typeCall_1 _) BF.entry_init (ba_new [_] (BF.newCall_1 _) ⟨rfl, rfl⟩) ?_
  rintro obj s₁ ⟨rfl, rfl⟩
  have hS : (s.heap.push (baObj #[])).get? s.heap.objs.size = some (baObj #[]) := Heap.get?_push_size _ rfl
  refine ⟨⟨_, hS, rfl⟩, BF.args_init_2 _ _, ?_⟩
  unfold Builtin.«bytearray.__init__»
  refine wpC_then (ba_ownRelease hS (ifC_no rfl ?_))
  rw [BF.bind_init_1]
  refine wpC_bind (wpC_pure ?_)
  refine wpC_bind (wpC_pure (wpC_bind (wpC_pure ?_)))
  refine wpC_bind (baC_free hS (ifC_no rfl ?_))
  refine wpC_then (ba_write hS (Nat.zero_le _) ?_)
  refine wpC_of ?_
  have hS₂ : ((s.heap.push (baObj #[])).update s.heap.objs.size (Obj.mapBytearray fun _ => #[])).get? s.heap.objs.size = some (baObj #[]) := Heap.get?_update_self (Obj.mapBytearray fun _ => #[]) hS rfl
  have hk : ∀ b o, s.heap.get? b = some o → ((s.heap.push (baObj #[])).update s.heap.objs.size (Obj.mapBytearray fun _ => #[])).get? b = some o := fun b o e =>
    (Heap.get?_update_other _ _ (Nat.ne_of_gt (Heap.lt_size e))).trans (Heap.get?_push_of_some _ e)
  generalize (s.heap.push (baObj #[])).update s.heap.objs.size (Obj.mapBytearray fun _ => #[]) = h₂ at hS₂ hk ⊢
  obtain ⟨⟨oc, od, odata, osl⟩, hol, hoc, nl, hod⟩ := id hl
  dsimp only at hod hoc
  subst hod
  have hol₂ := hk _ _ hol
  have hl₂ : h₂.IsList D vs.toArray := ⟨_, hol₂, hoc, nl, rfl⟩
  have hT : ({ s with heap := h₂ } : Shared).TypeIs (.ref D) "list" := Heap.IsList.typeIs (s := { s with heap := h₂ }) hl₂
  dsimp only
  refine wpAny_bind (wpAny_bind ?_)
  show wpAny _ _ (load D >>= _) _ _ _
  refine wpAny_bind (wpAny_load hol₂ ?_)
  refine wpAny_pure (wpAny_pure ?_)
  refine if_no rfl ?_
  refine wpAny_bind (if_no rfl (if_no rfl (wpAny_pure ?_)))
  refine wpAny_bind (wpAny_specialOf hT F.bm_no_index ?_)
  refine if_no rfl ?_
  refine wpAny_bind ?_
  unfold Builtin.Bytes.buffer?
  refine wpAny_bind (wpAny_specialOf hT F.bm_no_buffer ?_)
  refine wpAny_bind (wpAny_specialOf hT F.bm_no_buffer ?_)
  refine wpAny_pure ?_
  dsimp only
  refine wpAny_bind (wpAny_typeOf hT ?_)
  refine if_yes (by decide) ?_
  refine wpAny_bind ?_
  unfold seqItems?
  refine wpAny_bind (wpAny_load hol₂ (wpAny_pure ?_))
  obtain ⟨i1, i2⟩ := ints_items hi hr
  dsimp only
  rw [takeWhile_all _ vs ?side]
  case side => exact i1
  generalize hf : List.filterMap _ vs = l
  have e : l = ns.map fun n => n.toNat.toUInt8 := hf.symm.trans i2
  subst e
  rw [show vs.toArray[vs.length]? = none by simp]
  dsimp only
  refine wpAny_bind (wpAny_rule (wpAny_bind (ba_write hS₂ (by simpa using hz) ?_)))
  refine wpAny_bind (wpAny_pure (wpAny_pure ⟨rfl, h _ ?_ ?_⟩))
  · exact Heap.get?_update_self (Obj.mapBytearray _) hS₂ rfl
  · exact fun b o e => (Heap.get?_update_other _ _ (Nat.ne_of_gt (Heap.lt_size e))).trans (hk b o e)
end
end Fr23

namespace Fr23
open PySem PySem.W PySem.Calls PyProof.Rows
open PySem.Sem (wp)

/-- a value that bears bytes: bytes, or a bytearray -/
def Bears (h : Heap) (v : Value) (c : Array UInt8) : Prop := (∃ t, v = .bytes c t) ∨ ∃ a, v = .ref a ∧ h.get? a = some (baObj c)
theorem lends_iadd (as : Args) : lends (.builtin "bytearray.__iadd__" as) = false := show List.contains _ "bytearray.__iadd__" = false by decide +kernel
theorem lends_delitem (as : Args) : lends (.builtin "bytearray.__delitem__" as) = false := show List.contains _ "bytearray.__delitem__" = false by decide +kernel

theorem bin1_no {t : Value} (ht : t = .type "bytes" ∨ t = .type "bytearray") : (fillsNumberSlot (.type "bytearray") "add" = pure false) ∧ (fillsNumberSlot t "add" = pure false) := by
  have h1 : fillsNumberSlot (.type "bytearray") "add" = pure false := by
    unfold fillsNumberSlot; simp only [typeLookup_type, builtinLookup_eq_fast]; kernel_rfl
  have h2 : fillsNumberSlot (.type "bytes") "add" = pure false := by
    unfold fillsNumberSlot; simp only [typeLookup_type, builtinLookup_eq_fast]; kernel_rfl
  refine ⟨h1, ?_⟩
  rcases ht with rfl | rfl
  · exact h2
  · exact h1
theorem seq_iadd : seqSlot? (.type "bytearray") (dunderI "add") = pure (some (.builtin "bytearray.__iadd__")) := by
  unfold seqSlot?; simp only [typeLookup_type, builtinLookup_eq_fast]; kernel_rfl

section
variable {prog : Program} {w : World} {A : Around} {E : Value → Shared → Prop} {s : Shared} {a : Addr} {b c : Array UInt8} {v : Value}

theorem Bears.type (hv : Bears s.heap v c) : s.TypeIs v "bytes" ∨ s.TypeIs v "bytearray" := by
  rcases hv with ⟨t, rfl⟩ | ⟨a, rfl, ho⟩
  · exact .inl rfl
  · exact .inr (baT ho)

theorem bin1_none {Q : Option Value → Shared → Prop} (ho : s.heap.get? a = some (baObj b)) (hv : Bears s.heap v c) (h : Q none s) : wpAny (model prog w) A (binaryOp1 "add" (.ref a) v) Q E s := by
  unfold binaryOp1
  refine wpAny_bind (wpAny_typeOf (baT ho) ?_)
  have go : ∀ T, (T = "bytes" ∨ T = "bytearray") → s.TypeIs v T → wpAny (model prog w) A (typeOf v) (fun tb s' => tb = .type T ∧ s' = s) E s := fun T _ hT => wpAny_typeOf hT ⟨rfl, rfl⟩
  obtain ⟨T, hT, hTy⟩ : ∃ T, (T = "bytes" ∨ T = "bytearray") ∧ s.TypeIs v T := hv.type.elim (fun x => ⟨_, .inl rfl, x⟩) fun x => ⟨_, .inr rfl, x⟩
  refine wpAny_bind (wpAny_mono (go T hT hTy) (fun tb s' h' => ?_) fun _ _ e => e)
  obtain ⟨rfl, rfl⟩ := h'
  obtain ⟨f1, f2⟩ := bin1_no (t := .type T) (hT.elim (fun e => .inl (by rw [e])) fun e => .inr (by rw [e]))
  rw [f1]
  refine wpAny_bind (wpAny_pure ?_)
  have f3 : (if (Value.type "bytearray" == Value.type T) = true then pure false else fillsNumberSlot (.type T) "add") = (pure false : Sem Bool) := by rw [f2]; split <;> rfl
  rcases hT with rfl | rfl
  · rw [f2]
    exact wpAny_bind (wpAny_pure (wpAny_pure h))
  · exact wpAny_bind (wpAny_pure (wpAny_pure h))

theorem bears_take {id : String} {Q : Option (Array UInt8 × Option Value) → Shared → Prop} (hv : Bears s.heap v c) (h : Q (some (c, none)) s) : wpAny (model prog w) A (Builtin.Bytes.takeBufferQuiet? id v 0) Q E s := by
  rcases hv with ⟨t, rfl⟩ | ⟨a, rfl, ho⟩
  · exact by_take h
  · exact ba_take ho h

/-- b += v -/
theorem baC_iadd {R : Result → Shared → Prop} (ho : s.heap.get? a = some (baObj b)) (hv : Bears s.heap v c) (hne : v ≠ .ref a) (hz : b.size + c.size ≤ sizeLine)
    (h : R (.ok (.ret (.ref a))) { s with heap := s.heap.update a (Obj.mapBytearray (· ++ c)) }) :
    codeC (model prog w) A (.call (.builtin "bytearray.__iadd__") ⟨[.ref a, v], []⟩) R s := by
  refine codeC_call_builtin (lends_iadd _) BF.slot_iadd.plain BF.entry_iadd (BF.slot_iadd.check _ _ _ _ _ _ _ _ (baT ho) (BF.args_iadd _ _) ?_)
  unfold Builtin.«bytearray.__iadd__»
  refine wpC_bind (wpC_pure ?_)
  refine wpC_then (bears_take hv ?_)
  dsimp only
  show wpC _ _ (Builtin.Bytes.thenGiveBack none _) _ _ _
  have hs : Builtin.Bytes.sameRef (.ref a) v = false := by
    cases v with
    | ref a' => exact decide_eq_false fun e => hne (by rw [e])
    | _ => rfl
  have rest : wpC (model prog w) A.in1 (do
      if Builtin.Bytes.tooLong ((← Builtin.Bytes.payload (.ref a)).size + c.size) then unsupported "bytearray.__iadd__:memory"
      Builtin.Bytes.write (.ref a) (· ++ c)
      ret (.ref a)) (againC (model prog w) A R) (fun e s' => R (.error e) s') s := by
    refine wpC_then (ba_payload ho (ifC_no ?_ ?_))
    · show decide (b.size + c.size > sizeLine) = false
      exact decide_eq_false (Nat.not_lt.mpr hz)
    · exact wpC_of (wpAny_bind (ba_write ho (by rw [Array.size_append]; exact hz) (wpAny_pure h)))
  by_cases hc : c.isEmpty = true
  · exact ifC_no (by rw [hc]; rfl) rest
  · refine ifC_yes (by simpa using hc) ?_
    exact ifC_no hs (wpC_bind (baC_resize ho rest))
theorem baC_inplace {Q : Value → Shared → Prop} (ho : s.heap.get? a = some (baObj b)) (hv : Bears s.heap v c) (hne : v ≠ .ref a) (hz : b.size + c.size ≤ sizeLine)
    (h : Q (.ref a) { s with heap := s.heap.update a (Obj.mapBytearray (· ++ c)) }) : wpC (model prog w) A (inplaceOp .Add (.ref a) v) Q E s := by
  unfold inplaceOp
  refine wpC_holding (wpC_then (wpAny_typeOf (baT ho) ?_))
  show wpC _ _ (fillsInplaceSlot (.type "bytearray") "add" true >>= _) _ _ _
  rw [BF.fills]
  refine wpC_bind (wpC_pure (ifC_no rfl ?_))
  show wpC _ _ (binaryOp1 "add" (.ref a) v >>= _) _ _ _
  refine wpC_then (bin1_none ho hv ?_)
  show wpC _ _ (seqSlot? (.type "bytearray") (dunderI "add") >>= _) _ _ _
  rw [seq_iadd]
  refine wpC_bind (wpC_pure (wpC_bind (wpC_of (wpAny_rule ?_))))
  exact wpC_call (baC_iadd ho hv hne hz h)
end
end Fr23

namespace Fr23
open PySem PySem.W PySem.Calls PyProof.Rows
open PySem.Sem (wp)

theorem drop_zipIdx (k : Nat) : ∀ (l : List UInt8) (n : Nat), (l.zipIdx n).filterMap (fun p => if Builtin.Bytes.selects 0 (k : Int) 1 p.2 then none else some p.1) = l.drop (k - n)
  | [], n => by simp
  | x :: l, n => by
    rw [List.zipIdx_cons, List.filterMap_cons, drop_zipIdx k l (n + 1)]
    by_cases h : n < k
    · have e : Builtin.Bytes.selects 0 (k : Int) 1 n = true := by
        unfold Builtin.Bytes.selects
        simp
        omega
      simp only [e, if_true]
      rw [show k - n = (k - (n + 1)) + 1 by omega, List.drop_succ_cons]
    · have e : Builtin.Bytes.selects 0 (k : Int) 1 n = false := by
        unfold Builtin.Bytes.selects
        simp
        omega
      simp only [e]
      rw [show k - n = 0 by omega, show k - (n + 1) = 0 by omega]
      rfl

section
variable {M : Model} {A : Around} {E : Value → Shared → Prop} {s : Shared}
theorem by_sliceParts {i : Addr} {l u : Value} {lo hi : Option Int} {Q : Value × Value × Value → Shared → Prop} (hS : s.heap.IsSliceOf i l u .none) (hl : IsPart l lo) (hu : IsPart u hi) (h : Q (rawPart lo, rawPart hi, .none) s) :
    wpAny M A (Builtin.Bytes.sliceParts (.ref i)) Q E s := by
  obtain ⟨o, ho, hc, hd⟩ := hS
  unfold Builtin.Bytes.sliceParts
  refine wpAny_bind (wpAny_field (x := .none) ho hd rfl ?_)
  refine wpAny_bind (if_yes rfl (wpAny_pure ?_))
  refine if_no rfl ?_
  have part : ∀ {v : Value} {k : Option Int} {α : Type} {f : Value → Sem α} {Q : α → Shared → Prop}, IsPart v k → wpAny M A (f (rawPart k)) Q E s → wpAny M A ((do
      if v == .none then return .none
      if (← specialOf v "__index__").isNone then
        rule "bytes.slice.part-no-index"; raiseError "TypeError" "slice indices must be integers or None or have an __index__ method"
      return rawInt (← asIndex v)) >>= f) Q E s := by
    intro v k α f Q hv hq
    refine wpAny_bind ?_
    cases hv with
    | none => exact if_yes rfl (wpAny_pure hq)
    | int i t =>
      refine if_no rfl ?_
      refine wpAny_bind (wpAny_specialOf (T := "int") (typeIs_int s i t) int_index ?_)
      exact if_no rfl (wpAny_bind (wpAny_of_eq (a := i) rfl (wpAny_pure hq)))
  refine wpAny_bind (wpAny_field (x := l) ho hd rfl ?_)
  refine part hl ?_
  refine wpAny_bind (wpAny_field (x := u) ho hd rfl ?_)
  exact part hu (wpAny_pure h)
end

theorem meets_ba_slice (a i : Addr) (b : Array UInt8) {l u : Value} {lo hi : Option Int} (hl : IsPart l lo) (hu : IsPart u hi) :
    Meets (Builtin.«bytearray.__getitem__» ⟨[.ref a, .ref i], []⟩) (fun _ R s => s.heap.get? a = some (baObj b) ∧ s.heap.IsSliceOf i l u .none ∧ (KBy.picked b lo hi).size ≤ sizeLine ∧
      R (.ok (.ret (.ref s.heap.objs.size))) { s with heap := s.heap.push (baObj (KBy.picked b lo hi)) }) := by
  refine .of_wp fun prog w A R s hS => ?_
  obtain ⟨ho, hsl, hz, h⟩ := hS
  obtain ⟨o, hoi, hc, hd⟩ := id hsl
  have hT : s.TypeIs (.ref i) "slice" := ⟨o, hoi, hc⟩
  show wpAny _ _ (Builtin.Bytes.subscript? (.ref i) >>= fun r => _) _ _ s
  refine wpAny_bind ?_
  unfold Builtin.Bytes.subscript?
  refine wpAny_bind (wpAny_specialOf hT slice_no_index (if_yes rfl (wpAny_pure ?_)))
  refine wpAny_bind (wpAny_typeOf hT (if_no rfl ?_))
  refine wpAny_bind (by_sliceParts hsl hl hu ?_)
  refine wpAny_bind (ba_payload ho ?_)
  refine wpAny_bind (wpAny_of_eq (sliceIndices_raw lo hi none b.size (fun e => nomatch e)) ?_)
  exact wpAny_bind (wpAny_newObj_type (wpAny_pure ⟨_, rfl, h⟩) hz)

section
variable {prog : Program} {w : World} {A : Around} {E : Value → Shared → Prop} {s : Shared} {a i : Addr} {b : Array UInt8} {l u : Value} {lo hi : Option Int}
theorem ba_slice {value slice : PySem.Expr} {Q : Value → Shared → Prop} (ho : s.heap.get? a = some (baObj b)) (hsl : s.heap.IsSliceOf i l u .none) (hl : IsPart l lo) (hu : IsPart u hi) (hz : b.size ≤ sizeLine)
    (h : Q (.ref s.heap.objs.size) { s with heap := s.heap.push (baObj (KBy.picked b lo hi)) })
    (hs : subscripted slice false (.ref a) (.ref i) = operate [.ref i, .ref a] (getItem (.ref a) (.ref i)) := by with_unfolding_all rfl) :
    wpAny (model prog w) A (subscriptTail value slice (.ref a) (.ref i)) Q E s :=
  tail_any (baT ho) BF.slot_getitem.lookup (getItem_meets (baT ho) (by decide) BF.slot_getitem BF.entry_getitem (BF.args_getitem _ _) (meets_ba_slice a i b hl hu) ⟨ho, hsl, Nat.le_trans (KBc.size_picked_le b lo hi) hz, h⟩) hs

/-- del b[:k] -/
theorem baC_del {k : Nat} {t : Tok} {Q : Unit → Shared → Prop} (ho : s.heap.get? a = some (baObj b)) (hsl : s.heap.IsSliceOf i .none (.int k t) .none) (hk : k ≤ b.size) (hz : b.size ≤ sizeLine)
    (h : ∀ f : Array UInt8 → Array UInt8, f b = (b.toList.drop k).toArray → Q () { s with heap := s.heap.update a (Obj.mapBytearray f) }) :
    wpC (model prog w) A (delItem (.ref a) (.ref i)) Q E s := by
  obtain ⟨o, hoi, hc, hd⟩ := id hsl
  have hT : s.TypeIs (.ref i) "slice" := ⟨o, hoi, hc⟩
  unfold delItem
  refine wpC_holding ?_
  refine wpC_then (wpAny_sequenceKey (baT ho) (by decide) ?_)
  unfold callSpecial?
  refine wpC_bind (wpC_then (wpAny_specialOf (baT ho) BF.slot_delitem.lookup ?_))
  refine wpC_holding ?_
  rw [BF.slot_delitem.bind]
  refine wpC_bind (wpC_pure (wpC_bind (wpC_call ?_)))
  refine codeC_call_builtin (lends_delitem _) BF.slot_delitem.plain BF.entry_delitem (BF.slot_delitem.check _ _ _ _ _ _ _ _ (baT ho) (BF.args_delitem _ _) ?_)
  unfold Builtin.«bytearray.__delitem__»
  refine wpC_bind (wpC_pure ?_)
  show wpC _ _ (Builtin.Bytes.subscript? (.ref i) >>= fun r => _) _ _ s
  refine wpC_bind (wpC_of ?_)
  unfold Builtin.Bytes.subscript?
  refine wpAny_bind (wpAny_specialOf hT slice_no_index (if_yes rfl (wpAny_pure ?_)))
  refine wpC_then (wpAny_typeOf hT (ifC_no rfl ?_))
  refine wpC_then (by_sliceParts hsl .none (.int _ _) ?_)
  refine wpC_then (ba_payload ho ?_)
  refine wpC_then (wpAny_of_eq (sliceIndices_raw none (some k) none b.size (fun e => nomatch e)) ?_)
  rw [sliceBounds_plain]
  simp only [Option.elim, clipAt_nat]
  rw [Nat.min_eq_left hk]
  refine wpC_bind (wpC_of (wpAny_rule ?_))
  have rest : ∀ {R : Result → Shared → Prop}, (∀ f : Array UInt8 → Array UInt8, f b = (b.toList.drop k).toArray → R (.ok (.ret .none)) { s with heap := s.heap.update a (Obj.mapBytearray f) }) →
      wpC (model prog w) A.in1 (Builtin.Bytes.write (.ref a) (fun b => (b.toList.zipIdx.filterMap fun p => if Builtin.Bytes.selects ((0 : Nat) : Int) (k : Int) 1 p.2 then none else some p.1).toArray) >>= fun _ => ret .none)
      (againC (model prog w) A R) (fun e s' => R (.error e) s') s := fun hR => by
    have e : (b.toList.zipIdx.filterMap fun p => if Builtin.Bytes.selects ((0 : Nat) : Int) (k : Int) 1 p.2 then none else some p.1) = b.toList.drop k := by have := drop_zipIdx k b.toList 0; simpa using this
    refine wpC_then (ba_write ho (by rw [e]; simp; omega) ?_)
    exact wpC_pure (hR _ (by rw [e]))
  by_cases h0 : 0 < k
  · refine ifC_yes (by simp; omega) (wpC_bind (baC_resize ho ?_))
    exact rest fun f e => wpC_pure (wpC_pure (h f e))
  · refine ifC_no (by simp; omega) ?_
    exact rest fun f e => wpC_pure (wpC_pure (h f e))
end
end Fr23

namespace Fr23
open PySem PySem.W PySem.Calls PyProof.Rows

theorem news_new {h₀ h h' : Heap} {L : Addr} {m : Str → Option Value} {news : List (Addr × Obj)} {o : Obj} (F : Fr h₀ L h m) (N : News h₀ L h news) (ho : h'.get? h.objs.size = some o) (hk : ∀ b o, h.get? b = some o → h'.get? b = some o) :
    Fr h₀ L h' m ∧ News h₀ L h' ((h.objs.size, o) :: news) ∧ (∀ p ∈ news, p.1 < h.objs.size) ∧ L < h.objs.size := by
  obtain ⟨oL, a1, a2, hL, a3⟩ := F.ns
  refine ⟨⟨⟨oL, a1, a2, hk _ _ hL, a3⟩, fun b o' e => hk _ _ (F.keep b o' e), F.above⟩, fun p hp => ?_, fun p hp => Heap.lt_size (N p hp).1, Heap.lt_size hL⟩
  rcases List.mem_cons.mp hp with rfl | hp
  · refine ⟨ho, Nat.ne_of_gt (Heap.lt_size hL), ?_⟩
    cases hq : h₀.get? h.objs.size with
    | none => rfl
    | some o' => exact absurd (Heap.lt_size (F.keep _ _ hq)) (Nat.lt_irrefl _)
  · exact ⟨hk _ _ (N p hp).1, (N p hp).2⟩

section
variable {prog : Program} {w : World} {A : Around} {E : Value → Shared → Prop} {s : Shared} {h₀ : Heap} {L a : Addr} {m : Str → Option Value} {news news' : List (Addr × Obj)} {b c : Array UInt8} {v : Value}

theorem upd_heap {f : Obj → Obj} {o o' : Obj} (F : Fr h₀ L s.heap m) (N : News h₀ L s.heap news) (U : Upd a o o' news news') (e : f o = o') (hf : o'.isFreed = false) :
    Fr h₀ L (s.heap.update a f) m ∧ News h₀ L (s.heap.update a f) news' := by
  obtain ⟨pre, post, rfl, rfl, h1, h2⟩ := U.split
  exact news_upd (f := f) F N h1 h2 e hf

theorem kba_make0 {Q : Value → Shared → Prop} (F : Fr h₀ L s.heap m) (N : News h₀ L s.heap news)
    (h : ∀ x h', Fr h₀ L h' m → News h₀ L h' ((x, baObj #[]) :: news) → (∀ p ∈ news, p.1 < x) → L < x → Q (.ref x) { s with heap := h' }) : wpC (model prog w) A (call (.type "bytearray") []) Q E s := by
  refine baC_make fun h' e => ?_
  subst e
  have hS : (s.heap.push (baObj #[])).get? s.heap.objs.size = some (baObj #[]) := Heap.get?_push_size _ rfl
  obtain ⟨F', N', o1, o2⟩ := news_new (h' := (s.heap.push (baObj #[])).update s.heap.objs.size (Obj.mapBytearray fun _ => #[])) F N (Heap.get?_update_self (Obj.mapBytearray fun _ => #[]) hS rfl)
    (fun b o e => (Heap.get?_update_other _ _ (Nat.ne_of_gt (Heap.lt_size e))).trans (Heap.get?_push_of_some _ e))
  exact h _ _ F' N' o1 o2
theorem kba_make {D : Addr} {vs : List Value} {ns : List Int} {Q : Value → Shared → Prop} (F : Fr h₀ L s.heap m) (N : News h₀ L s.heap news) (hl : s.heap.IsList D vs.toArray) (hi : IntsAre vs ns) (hr : ∀ n ∈ ns, 0 ≤ n ∧ n < 256) (hz : ns.length ≤ 16777216)
    (h : ∀ x h', Fr h₀ L h' m → News h₀ L h' ((x, baObj (byteArr ns)) :: news) → (∀ p ∈ news, p.1 < x) → L < x → Q (.ref x) { s with heap := h' }) : wpC (model prog w) A (call (.type "bytearray") [.ref D]) Q E s := by
  refine baC_make_list hl hi hr (by rw [sizeLine_eq]; exact hz) fun h' e hk => ?_
  obtain ⟨F', N', o1, o2⟩ := news_new F N e hk
  exact h _ _ F' N' o1 o2
theorem kba_inplace {Q : Value → Shared → Prop} (F : Fr h₀ L s.heap m) (N : News h₀ L s.heap news) (U : Upd a (baObj b) (baObj (b ++ c)) news news') (ha : (a, baObj b) ∈ news) (hv : Bears s.heap v c) (hne : v ≠ .ref a) (hz : b.size + c.size ≤ 16777216)
    (h : ∀ h', Fr h₀ L h' m → News h₀ L h' news' → Q (.ref a) { s with heap := h' }) : wpC (model prog w) A (inplaceOp .Add (.ref a) v) Q E s := by
  obtain ⟨F', N'⟩ := upd_heap (f := Obj.mapBytearray (· ++ c)) F N U rfl rfl
  exact baC_inplace (N _ ha).1 hv hne (by rw [sizeLine_eq]; exact hz) (h _ F' N')
theorem kba_slice {value slice : PySem.Expr} {i : Addr} {l u : Value} {lo hi : Option Int} {Q : Value → Shared → Prop} (F : Fr h₀ L s.heap m) (N : News h₀ L s.heap news) (ha : (a, baObj b) ∈ news) (hsl : s.heap.IsSliceOf i l u .none) (hl : IsPart l lo) (hu : IsPart u hi) (hz : b.size ≤ 16777216)
    (h : ∀ x h', Fr h₀ L h' m → News h₀ L h' ((x, baObj (KBy.picked b lo hi)) :: news) → (∀ p ∈ news, p.1 < x) → L < x → Q (.ref x) { s with heap := h' })
    (hs : subscripted slice false (.ref a) (.ref i) = operate [.ref i, .ref a] (getItem (.ref a) (.ref i)) := by with_unfolding_all rfl) :
    wpAny (model prog w) A (subscriptTail value slice (.ref a) (.ref i)) Q E s := by
  refine ba_slice (N _ ha).1 hsl hl hu (by rw [sizeLine_eq]; exact hz) ?_ hs
  obtain ⟨F', N', o1, o2⟩ := news_new (h' := s.heap.push (baObj (KBy.picked b lo hi))) F N (Heap.get?_push_size _ rfl) (fun b o e => Heap.get?_push_of_some _ e)
  exact h _ _ F' N' o1 o2
theorem kba_del {i : Addr} {k : Nat} {j : Int} {t : Tok} {Q : Unit → Shared → Prop} (F : Fr h₀ L s.heap m) (N : News h₀ L s.heap news) (U : Upd a (baObj b) (baObj (b.toList.drop k).toArray) news news') (ha : (a, baObj b) ∈ news) (hsl : s.heap.IsSliceOf i .none (.int j t) .none) (hj : j = (k : Int)) (hk : k ≤ b.size) (hz : b.size ≤ 16777216)
    (h : ∀ h', Fr h₀ L h' m → News h₀ L h' news' → Q () { s with heap := h' }) : wpC (model prog w) A (delItem (.ref a) (.ref i)) Q E s := by
  subst hj
  refine baC_del (N _ ha).1 hsl hk (by rw [sizeLine_eq]; exact hz) fun f e => ?_
  obtain ⟨F', N'⟩ := upd_heap (f := Obj.mapBytearray f) F N U (by show baObj (f b) = _; rw [e]) rfl
  exact h _ F' N'

theorem ba_isinstance {Q : Value → Shared → Prop} (ho : s.heap.get? a = some (baObj b)) (h : Q (.bool true) s) : wpAny (model prog w) A (call (.builtin "isinstance") [.ref a, .type "bytearray"]) Q E s := by
  refine call_isinstance (S := fun _ R s => s.heap.get? a = some (baObj b) ∧ R (.ok (.ret (.bool true))) s) (fun prog w A R s hs => isinstance_outer ?_ (fun e => nomatch e)) ⟨ho, h⟩
  unfold Builtin.«isinstance.nested»
  exact wpAny_bind (wpAny_typeOf (baT hs.1) (if_yes (by decide) (wpAny_bind (wpAny_rule (wpAny_pure hs.2)))))
theorem kba_len {Q : Value → Shared → Prop} (N : News h₀ L s.heap news) (ha : (a, baObj b) ∈ news) (hz : b.size ≤ 16777216) (h : Q (.int b.size (s.toks + 1)) { s with toks := s.toks + 1 + 1 }) : wpAny (model prog w) A (call (.builtin "len") [.ref a]) Q E s :=
  ba_len (N _ ha).1 (by omega) h
theorem kba_truthy {Q : Bool → Shared → Prop} (N : News h₀ L s.heap news) (ha : (a, baObj b) ∈ news) (hz : b.size ≤ 16777216) (h : Q ((b.size : Int) != 0) { s with toks := s.toks + 1 + 1 }) : wpAny (model prog w) A (truthy (.ref a)) Q E s :=
  ba_truthy (N _ ha).1 (by omega) h
theorem kba_bytes {Q : Value → Shared → Prop} (N : News h₀ L s.heap news) (ha : (a, baObj b) ∈ news) (hz : b.size ≤ 16777216) (h : ∀ t k, Q (.bytes b t) { s with toks := k }) : wpAny (model prog w) A (call (.type "bytes") [.ref a]) Q E s :=
  ba_bytes (N _ ha).1 (by rw [sizeLine_eq]; exact hz) h
theorem kba_isinstance {Q : Value → Shared → Prop} (N : News h₀ L s.heap news) (ha : (a, baObj b) ∈ news) (h : Q (.bool true) s) : wpAny (model prog w) A (call (.builtin "isinstance") [.ref a, .type "bytearray"]) Q E s := ba_isinstance (N _ ha).1 h
end
end Fr23

namespace Fr23
open PySem PySem.W PySem.Calls PyProof.Rows
open PySem.Sem (wp)

section
variable {M : Model} {A : Around} {E : Value → Shared → Prop} {s : Shared} {env : Env}
theorem wpC_Assign_Name {x : Str} {pos' : Pos} {value : Expr} {pos : Pos} {Q : Flow → Shared → Prop}
    (h : wpC M A (eval value env) (fun v s₁ => wpAny M A (storeName env x v) (fun _ => Q .next) E s₁) E s)
    (hs : swapsWith value (some (.Name x pos')) pos.line env = pure false := by rfl) : wpC M A (exec (.Assign [.Name x pos'] value pos) env) Q E s := by
  rw [exec_Assign_Name env x pos' value pos hs]
  refine wpC_bind (wpC_standAt (wpC_bind (wpC_mono h (fun v s₁ h₁ => ?_) fun _ _ x => x)))
  exact wpC_bind (wpC_standAt (wpC_of (wpAny_bind (wpAny_bindName (wpAny_mono h₁ (fun _ _ q => wpAny_pure q) fun _ _ x => x)))))
theorem wpC_Assign_Attribute {o : Expr} {attr : Str} {pos' : Pos} {value : Expr} {pos : Pos} {Q : Flow → Shared → Prop}
    (h : wpC M A (eval value env) (fun v s₁ => wpAny M A (eval o env) (fun ov s₂ => wpAny M A (setAttr ov attr v) (fun _ => Q .next) E s₂) E s₁) E s)
    (hs : swapsWith value (some (.Attribute o attr pos')) pos.line env = pure false := by rfl) : wpC M A (exec (.Assign [.Attribute o attr pos'] value pos) env) Q E s := by
  rw [plainObj_exec_Assign_Attribute o attr pos' value pos hs]
  refine wpC_bind (wpC_standAt (wpC_bind (wpC_mono h (fun v s₁ h₁ => wpC_of ?_) fun _ _ x => x)))
  rw [assign_Attribute]
  exact wpAny_bind (wpAny_bind (wpAny_holding (wpAny_mono h₁ (fun ov s₂ h₂ => wpAny_bind (wpAny_standAt (wpAny_bind (wpAny_holding (wpAny_mono h₂ (fun _ s₃ h₃ => wpAny_release (wpAny_pure h₃)) fun _ _ x => x))))) fun _ _ x => x)))
theorem wpC_Assign_Tuple {elts : List Expr} {k : Nat} {tpos : Pos} {value : Expr} {pos : Pos} {Q : Flow → Shared → Prop}
    (h : wpC M A (eval value env) (fun v s₁ => wpAny M A (assign (.Tuple elts k tpos) env v) (fun _ => Q .next) E s₁) E s)
    (hs : swapsWithSole [.Tuple elts k tpos] value pos.line env = pure false := by rfl)
    (hw : swappedStores [.Tuple elts k tpos] value env = pure none := by rfl) : wpC M A (exec (.Assign [.Tuple elts k tpos] value pos) env) Q E s := by
  rw [exec_Assign]
  refine wpC_bind (wpC_standAt ?_)
  rw [hs]
  refine wpC_bind (wpC_pure ?_)
  rw [if_neg (by decide)]
  refine wpC_bind (wpC_mono h (fun v s₁ h₁ => ?_) fun _ _ x => x)
  rw [hw]
  refine wpC_bind (wpC_pure (wpC_of ?_))
  exact wpAny_bind (wpAny_mono h₁ (fun _ s₂ h₂ => wpAny_pure h₂) fun _ _ x => x)
theorem wpC_Assign_Tuple_swapped {elts : List Expr} {k : Nat} {tpos : Pos} {value : Expr} {pos : Pos} {names : List Str} {Q : Flow → Shared → Prop}
    (h : wpC M A (eval value env) (fun v s₁ => wpAny M A (unpackItems v names.length none) (fun items s₂ =>
      wpAny M A (assignInOrder (names.reverse.map fun n => bindName env n) items.reverse) (fun _ => Q .next) E s₂) E s₁) E s)
    (hs : swapsWithSole [.Tuple elts k tpos] value pos.line env = pure false := by rfl)
    (hw : swappedStores [.Tuple elts k tpos] value env = pure (some names) := by rfl) : wpC M A (exec (.Assign [.Tuple elts k tpos] value pos) env) Q E s := by
  rw [exec_Assign]
  refine wpC_bind (wpC_standAt ?_)
  rw [hs]
  refine wpC_bind (wpC_pure ?_)
  rw [if_neg (by decide)]
  refine wpC_bind (wpC_mono h (fun v s₁ h₁ => ?_) fun _ _ x => x)
  rw [hw]
  refine wpC_bind (wpC_pure (wpC_of (wpAny_bind (wpAny_rule ?_))))
  exact wpAny_bind (wpAny_mono h₁ (fun items s₂ h₂ => wpAny_bind (wpAny_mono h₂ (fun _ s₃ h₃ => wpAny_pure h₃) fun _ _ x => x)) fun _ _ x => x)
theorem wpC_Return {e : Expr} {pos : Pos} {Q : Flow → Shared → Prop} (h : wpC M A (eval e env) (fun v => Q (.ret v)) E s) : wpC M A (exec (.Return (some e) pos) env) Q E s := by
  rw [exec_Return_some]
  exact wpC_bind (wpC_standAt (wpC_bind (wpC_mono h (fun _ _ q => wpC_pure q) fun _ _ x => x)))
theorem wpC_IfExp {test body orelse : Expr} {pos : Pos} {Q : Value → Shared → Prop}
    (h : wpAny M A (isTrue test env (eval test env)) (fun b s₁ => if b then wpC M A (eval body env) Q E s₁ else wpC M A (eval orelse env) Q E s₁) E s) :
    wpC M A (eval (.IfExp test body orelse pos) env) Q E s := by
  rw [arm_eval_IfExp]
  refine wpC_then (wpAny_mono h (fun b s₁ h₁ => ?_) fun _ _ x => x)
  cases b <;> exact h₁
theorem wpC_And {e₁ e₂ : Expr} {rest : List Expr} {pos : Pos} {Q : Value → Shared → Prop}
    (h : wpC M A (eval e₁ env) (fun v s₁ => wpAny M A (truthy v) (fun c s₂ => if c then wpC M A (eval (.BoolOp .And (e₂ :: rest) pos) env) Q E s₂ else Q v s₂) E s₁) E s) :
    wpC M A (eval (.BoolOp .And (e₁ :: e₂ :: rest) pos) env) Q E s := by
  show wpC M A (do
    let v ← eval e₁ env
    standAt pos
    let c ← holding [v] (truthy v)
    match BoolOp.And, c with
    | .And, false | .Or, true => pure v
    | _, _ => boolOp pos .And (eval e₂ env :: evalEach rest env)) Q E s
  refine wpC_bind (wpC_mono h (fun v s₁ h₁ => wpC_bind (wpC_standAt (wpC_then (wpAny_holding (wpAny_mono h₁ (fun c s₂ h₂ => ?_) fun _ _ x => x))))) fun _ _ x => x)
  cases c with
  | false => exact wpC_pure h₂
  | true => exact h₂
theorem wpC_BoolOp_one {op : BoolOp} {e : Expr} {pos : Pos} {Q : Value → Shared → Prop} (h : wpC M A (eval e env) Q E s) : wpC M A (eval (.BoolOp op [e] pos) env) Q E s := h
theorem wpC_Compare1 {l : Expr} {op : CmpOp} {r : Expr} {pos : Pos} {Q : Value → Shared → Prop}
    (h : wpC M A (eval l env) (fun a s₁ => wpAny M A (eval r env) (fun b s₂ => wpAny M A (compareOp op a b) Q E s₂) E s₁) E s)
    (hm : behindInMarks op r = false := by with_unfolding_all rfl) : wpC M A (eval (.Compare l [op] [r] pos) env) Q E s := by
  rw [eval_Compare1, markedBehindIn_of_false hm]
  refine wpC_bind (wpC_mono h (fun a s₁ h₁ => ?_) fun _ _ x => x)
  refine wpC_then (wpAny_holding (wpAny_mono h₁ (fun b s₂ h₂ => ?_) fun _ _ x => x))
  exact wpC_bind (wpC_standAt (wpC_operate (wpC_of h₂)))
theorem wpC_Tuple {elts : List Expr} {k : Nat} {pos : Pos} {Q : Value → Shared → Prop}
    (h : wpC M A (spliced (backTo pos (starEach elts env))) (fun vs s₁ => wpAny M A (newTuple vs) Q E s₁) E s) : wpC M A (eval (.Tuple elts k pos) env) Q E s := by
  show wpC M A (do standAt pos; newTuple (← spliced (backTo pos (starEach elts env)))) Q E s
  exact wpC_bind (wpC_standAt (wpC_bind (wpC_mono h (fun _ _ q => wpC_of q) fun _ _ x => x)))
theorem wpC_spliced_nil {Q : List Value → Shared → Prop} (h : Q [] s) : wpC M A (spliced []) Q E s := wpC_pure h
theorem wpC_spliced_cons {x : Sem Value} {rest : List (Bool × Sem Value)} {Q : List Value → Shared → Prop}
    (h : wpC M A x (fun v s₁ => wpC M A (spliced rest) (fun vs s₂ => Q (v :: vs) s₂) E s₁) E s) : wpC M A (spliced ((false, x) :: rest)) Q E s := by
  rw [spliced]
  refine wpC_bind (wpC_mono h (fun v s₁ h₁ => ?_) fun _ _ x => x)
  simp only [Bool.false_eq_true, if_false]
  exact wpC_bind (wpC_pure (wpC_bind (wpC_holding (wpC_mono h₁ (fun vs s₂ h₂ => wpC_pure h₂) fun _ _ x => x))))
theorem wpC_evalArgs {f : Value} {x : Sem Value} {rest : List (Bool × Sem Value)} {Q : Args → Shared → Prop}
    (h : wpC M A (spliced ((false, x) :: rest)) (fun vs s' => Q ⟨vs, []⟩ s') E s) : wpC M A (evalArgs f true ((false, x) :: rest) []) Q E s := by
  unfold evalArgs
  show wpC M A (spliced ((false, x) :: rest) >>= _) Q E s
  refine wpC_bind (wpC_mono h (fun vs s' h' => ?_) fun _ _ x => x)
  exact wpC_holding (wpC_bind (wpC_pure (wpC_bind (wpC_pure (wpC_pure h')))))
theorem wpC_callWithC {pos : Pos} {f : Value} {first : List Value} {args : List (Bool × Sem Value)} {P : Heap → Prop} {Q : Value → Shared → Prop} (hplain : args.any (·.1) = false)
    (hk : ∀ h, P h → ∃ k, (k = Keeper.frame ∨ k = Keeper.machine ∨ k = Keeper.boundFrame) ∧ Looks M h (keeperOf f) k)
    (h : wpC M A (evalArgs f true args []) (fun a s₁ => P s₁.heap ∧ wpC M A (call f (first ++ a.pos) a.kw) Q E s₁) E s) : wpC M A (callWith pos f first args []) Q E s := by
  unfold callWith
  refine wpC_bind (wpC_holding (wpC_mono h (fun a s₁ h₁ => ?_) fun _ _ x => x))
  refine wpC_bind (wpC_standAt ?_)
  obtain ⟨k, hk', L⟩ := hk _ h₁.1
  simp only [hplain, List.any_nil, Bool.or_false]
  refine wpC_then (L.here ?_)
  have tail : ∀ {t : Sem Value}, wpC M A t Q E s₁ → wpC M A (t >>= fun r => holding [r] point >>= fun _ => pure r) Q E s₁ :=
    fun ht => wpC_bind (wpC_mono ht (fun r s₂ hr => wpC_of (wpAny_bind (wpAny_holding (wpAny_point (wpAny_pure hr))))) fun _ _ x => x)
  have marked (mk : Value) : wpC M A (callMarked mk f (first ++ a.pos) a.kw) Q E s₁ := by unfold callMarked; exact wpC_keep h₁.2
  rcases hk' with rfl | rfl | rfl <;> dsimp only <;> first | exact tail h₁.2 | (split <;> first | exact tail h₁.2 | exact tail (marked _))
theorem wpC_Call {func : Expr} {args : List Expr} {pos : Pos} {Q : Value → Shared → Prop}
    (h : wpAny M A (eval func env) (fun f s₁ => wpC M A (callWith pos f [] (backTo pos (starEach args env)) []) Q E s₁) E s)
    (he : eval (.Call func args [] pos) env = (do callWith pos (← eval func env) [] (backTo pos (starEach args env)) []) := by rfl) :
    wpC M A (eval (.Call func args [] pos) env) Q E s := by
  rw [he]; exact wpC_then h
/-- a call of a type or a built-in of one argument, that argument walked by me -/
theorem wpC_callWith_machine {pos : Pos} {f : Value} {e : Expr} {Q : Value → Shared → Prop} (hf : ∀ M h, Looks M h (keeperOf f) .machine)
    (h : wpC M A (eval e env) (fun v s₁ => wpC M A (call f [v] []) Q E s₁) E s) (he : starEach [e] env = [(false, eval e env)] := by rfl) :
    wpC M A (callWith pos f [] (backTo pos (starEach [e] env)) []) Q E s := by
  rw [he]
  refine wpC_callWithC (P := fun _ => True) rfl (fun h _ => ⟨_, .inr (.inl rfl), hf M h⟩) ?_
  exact wpC_evalArgs (wpC_spliced_cons (wpC_mono h (fun v s₁ h₁ => wpC_spliced_nil ⟨trivial, h₁⟩) fun _ _ x => x))
theorem keeps_type (T : String) (M : Model) (h : Heap) : Looks M h (keeperOf (.type T)) .machine := Looks.of_pure rfl
theorem keeps_builtin (i : String) (M : Model) (h : Heap) : Looks M h (keeperOf (.builtin i)) .machine := Looks.of_pure rfl
end
end Fr23

namespace Fr23
open PySem PySem.W PySem.Calls PyProof.Rows
section
variable {M : Model} {A : Around} {E : Value → Shared → Prop} {s : Shared} {env : Env}
theorem wpC_spliced_e {e : Expr} {rest : List Expr} {pos : Pos} {Q : List Value → Shared → Prop}
    (h : wpC M A (eval e env) (fun v s₁ => wpC M A (spliced (backTo pos (starEach rest env))) (fun vs s₂ => Q (v :: vs) s₂) E s₁) E s)
    (he : starEach (e :: rest) env = (false, eval e env) :: starEach rest env := by rfl) : wpC M A (spliced (backTo pos (starEach (e :: rest) env))) Q E s := by
  rw [he]; exact wpC_spliced_cons h
theorem wpC_spliced_0 {pos : Pos} {Q : List Value → Shared → Prop} (h : Q [] s) : wpC M A (spliced (backTo pos (starEach [] env))) Q E s := wpC_spliced_nil h
theorem wpC_callWith_K {K : Frag} {pos : Pos} {f : Value} {first : List Value} {e : Expr} {rest : List Expr} {Q : Value → Shared → Prop} (hk : keepIn K f = true)
    (h : wpC M A (spliced (backTo pos (starEach (e :: rest) env))) (fun vs s₁ => K.In s₁.heap ∧ wpC M A (call f (first ++ vs)) Q E s₁) E s)
    (he : starEach (e :: rest) env = (false, eval e env) :: starEach rest env := by rfl) (hplain : (backTo pos (starEach rest env)).any (·.1) = false := by rfl) :
    wpC M A (callWith pos f first (backTo pos (starEach (e :: rest) env)) []) Q E s := by
  rw [he] at h ⊢
  exact wpC_callWithC (P := K.In) (by show (false || (backTo pos (starEach rest env)).any (·.1)) = false; rw [hplain]; rfl) (keeps_K hk) (wpC_evalArgs h)
theorem wpC_callWith_K0 {K : Frag} {pos : Pos} {f : Value} {first : List Value} {Q : Value → Shared → Prop} (X : K.In s.heap) (hk : keepIn K f = true) (h : wpC M A (call f (first ++ [])) Q E s) :
    wpC M A (callWith pos f first (backTo pos (starEach [] env)) []) Q E s :=
  wpC_callWithC (P := K.In) rfl (keeps_K hk) (wpC_of (evalArgs_nil3 ⟨X, h⟩))
theorem wpC_callWith_machine0 {pos : Pos} {f : Value} {Q : Value → Shared → Prop} (hf : ∀ M h, Looks M h (keeperOf f) .machine) (h : wpC M A (call f [] []) Q E s) :
    wpC M A (callWith pos f [] (backTo pos (starEach [] env)) []) Q E s :=
  wpC_callWithC (P := fun _ => True) rfl (fun h _ => ⟨_, .inr (.inl rfl), hf M h⟩) (wpC_of (evalArgs_nil3 ⟨trivial, h⟩))
end
end Fr23

namespace Fr23
open PySem
theorem wpC_gen {α : Type} {M : Model} {A : Around} {t : Sem α} {Q : α → Shared → Prop} {E : Value → Shared → Prop} {s : Shared} {h : Heap} {tk₀ : Nat} (H : ∀ tk, wpC M A t Q E { s with heap := h, toks := tk }) : wpC M A t Q E { s with heap := h, toks := tk₀ } := H tk₀
end Fr23

namespace Fr23
open PySem PySem.W PySem.Calls PyProof.Rows
open PySem.Sem (wp)

section
variable {M : Model} {A : Around} {s : Shared}
theorem codeC_loop' {c : Code} {R : Result → Shared → Prop} (hl : lends c = false) (hq : c.quiet = true) (I : Nat → Shared → Prop)
    (turn : ∀ n s, I n s → wpC M (A.under c) (M.den c)
      (fun fin s' => match fin with | .done f => R (.ok f) s' | .again c' => (c' = c ∧ ∃ m, m < n ∧ I m s') ∨ (c'.quiet = true ∧ codeC M A c' R s')) (fun e s' => R (.error e) s') s)
    (n : Nat) (h : I n s) : codeC M A c R s := by
  induction n using Nat.strongRecOn generalizing s with
  | ind n ih =>
    refine codeC_of_tree hl (wpC_mono (turn n s h) (fun fin s' hf => ?_) fun _ _ h' => h')
    cases fin with
    | done f => exact hf
    | again c' =>
      rcases hf with ⟨rfl, m, hm, hI⟩ | hf
      · exact ⟨hq, ih m hm hI⟩
      · exact hf
end

section
variable {prog : Program} {w : World} {A : Around} {s : Shared} {env : Env} {R : Result → Shared → Prop}
theorem codeC_block_nil (h : R (.ok .next) s) : codeC (model prog w) A (.block [] env) R s := by
  refine codeC_of_tree rfl ?_
  show wpC _ _ (do return Fin.done (← (execs [] env).onRaise (fun x => do noteFrame x env; theTreesLotGoes x))) _ _ s
  exact wpC_bind (wpC_onRaise0 (wpC_execs_nil (wpC_pure h)))
theorem codeC_forLoop {target : Expr} {it : Value} {body : List Stmt} (I : Nat → Shared → Prop)
    (turn : ∀ n s, I n s → wpAny (model prog w) A (pyNext it) (fun r s₁ => match r with
      | none => R (.ok .next) s₁
      | some v => wpAny (model prog w) A (assign target env v) (fun _ s₂ => wpC (model prog w) A (execs body env) (fun f s₃ => match f with
          | .next | .cont => ∃ m, m < n ∧ I m s₃
          | .brk => R (.ok .next) s₃
          | .ret v => R (.ok (.ret v)) s₃) (fun _ _ => False) s₂) (fun _ _ => False) s₁) (fun _ _ => False) s)
    (n : Nat) (h : I n s) (ht : ∀ v, letOwnedTupleGo target it v = pure () := by intro _; rfl) : codeC (model prog w) A (.forLoop target it body [] env) R s := by
  refine codeC_loop' rfl rfl I (fun n s hI => ?_) n h
  show wpC _ A ((forTurn target it body [] env).onRaise (fun x => do noteFrame x env; theTreesLotGoes x)) _ _ s
  refine wpC_onRaise0 ?_
  unfold forTurn
  refine wpC_bind (wpC_standAt (wpC_bind (wpC_onRaise0 (wpC_of (wpAny_mono (turn n s hI) (fun r s₁ h₁ => ?_) fun _ _ x => x)))))
  cases r with
  | none => exact wpC_pure (.inr ⟨rfl, codeC_block_nil h₁⟩)
  | some v =>
    refine wpC_bind (wpC_of (wpAny_of_eq (ht v) ?_))
    refine wpC_then (wpAny_mono h₁ (fun _ s₂ h₂ => wpC_bind (wpC_mono h₂ (fun f s₃ h₃ => ?_) fun _ _ x => x.elim)) fun _ _ x => x)
    cases f with
    | next => exact wpC_pure (.inl ⟨rfl, h₃⟩)
    | cont => exact wpC_pure (.inl ⟨rfl, h₃⟩)
    | brk => exact wpC_pure h₃
    | ret v => exact wpC_pure h₃
theorem wpC_For {E : Value → Shared → Prop} {target iter : Expr} {body : List Stmt} {pos : Pos} {Q : Flow → Shared → Prop}
    (h : wpAny (model prog w) A (eval iter env) (fun x s₁ => wpAny (model prog w) A (pyIter x) (fun it s₂ =>
      codeC (model prog w) A (.forLoop target it body [] env) (fun r s' => match r with | .ok f => Q f s' | .error _ => False) s₂) E s₁) E s)
    (hs : ∀ x, foldedSetIterable iter env x = pure x := by intro _; rfl) : wpC (model prog w) A (exec (.For target iter body [] pos) env) Q E s := by
  rw [exec_For]
  refine wpC_bind (wpC_standAt (wpC_then (wpAny_mono h (fun x s₁ h₁ => ?_) fun _ _ x => x)))
  rw [hs]
  refine wpC_bind (wpC_pure (wpC_bind (wpC_standAt (wpC_then (wpAny_holding (wpAny_mono h₁ (fun it s₂ h₂ => ?_) fun _ _ x => x))))))
  unfold runOwn
  refine wpC_onRaise0 (wpC_run (codeC_mono h₂ fun r s' z => ?_))
  cases r with
  | ok f => exact z
  | error e => exact z.elim

def TurnEnd (h₀ : Heap) (L I : Addr) (it : Obj) (J : (Str → Option Value) → List (Addr × Obj) → Prop) (s : Shared) (R : Result → Shared → Prop) : Flow → Shared → Prop
  | .ret v, s' => R (.ok (.ret v)) s'
  | .brk, s' => R (.ok .next) s'
  | _, s' => ∃ h' tk' m₂ news₂, s' = { s with heap := h', toks := tk' } ∧ Fr h₀ L h' m₂ ∧ News h₀ L h' ((I, it) :: news₂) ∧ (∀ p ∈ news₂, p.1 ≠ I) ∧ J m₂ news₂

theorem codeC_for_range {h₀ : Heap} {x : Str} {px : Pos} {body : List Stmt} {I : Addr} {a c : Int} {n : Nat} {m : Str → Option Value} {news : List (Addr × Obj)} (hh : A.handled = none) (hx : env.kindOf x = some .local)
    (hp : (env.scope.kind == .class || (env.scope.kind == .module && env.locals != env.globals)) = false)
    (hst : IsRangeIter s.heap I a n c) (hI : h₀.get? I = none) (hL : env.locals ≠ I) (F : Fr h₀ env.locals s.heap m) (N : News h₀ env.locals s.heap news) (hnw : ∀ p ∈ news, p.1 ≠ I)
    (J : Nat → (Str → Option Value) → List (Addr × Obj) → Prop) (h0 : J 0 m news)
    (step : ∀ i t m₁ news₁ h tk it, i < n → J i m₁ news₁ → (∀ p ∈ news₁, p.1 ≠ I) → Fr h₀ env.locals h (fun y => if y = x then some (.int (a + (i : Int) * c) t) else m₁ y) → News h₀ env.locals h ((I, it) :: news₁) → it.cls = .type "range_iterator" →
      wpC (model prog w) A (execs body env) (TurnEnd h₀ env.locals I it (J (i + 1)) s R) (fun _ _ => False) { s with heap := h, toks := tk })
    (hR : ∀ h' tk m' news', Fr h₀ env.locals h' m' → News h₀ env.locals h' news' → J n m' news' → R (.ok .next) { s with heap := h', toks := tk }) :
    codeC (model prog w) A (.forLoop (.Name x px) (.ref I) body [] env) R s := by
  have W := Walks.range (prog := prog) (w := w) hh I a c n
  refine codeC_forLoop
    (fun k s' => ∃ h' tk m' news' i, s' = { s with heap := h', toks := tk } ∧ IsRangeIter h' I (a + (i : Nat) * c) ((n : Int) - (i : Nat)) c ∧ Fr h₀ env.locals h' m' ∧ News h₀ env.locals h' news' ∧ (∀ p ∈ news', p.1 ≠ I) ∧ J i m' news' ∧ i ≤ n ∧ k = n + 1 - i) ?_ (n + 1)
    ⟨s.heap, s.toks, m, news, 0, rfl, by simpa using hst, F, N, hnw, h0, Nat.zero_le _, rfl⟩
  rintro k s' ⟨h', tk, m', news', i, rfl, hst', F', N', hnw', hJ, hi, rfl⟩
  have next : ∀ h₁ : Heap, (∀ b o, b ∉ [I] → h'.get? b = some o → h₁.get? b = some o) → Fr h₀ env.locals h₁ m' ∧ News h₀ env.locals h₁ news' := fun h₁ hk₁ =>
    ⟨⟨F'.ns.at' fun o e => hk₁ _ o (fun q => hL (List.mem_singleton.mp q)) e, fun b o e => hk₁ b o (fun q => by rw [List.mem_singleton.mp q, hI] at e; cases e) (F'.keep b o e), F'.above⟩,
      fun p hp => ⟨hk₁ _ _ (fun q => hnw' p hp (List.mem_singleton.mp q)) (N' p hp).1, (N' p hp).2⟩⟩
  by_cases hlt : i < n
  · refine W.item i _ _ _ hlt hst' fun v h₁ tk₁ hP hst₁ hk₁ => ?_
    obtain ⟨t, rfl⟩ := hP
    obtain ⟨F₁, N₁⟩ := next h₁ hk₁
    refine wpAny_assign_Name (wpAny_storeName_local hx F₁.ns (fun h₂ hn₂ hs₂ => ?_) hp)
    have F₂ := F₁.set hn₂ hs₂
    have hit : h₂.get? I = some { cls := .type "range_iterator", data := .fields #[rawInt (a + ((i + 1 : Nat) : Int) * c), rawInt ((n : Int) - ((i + 1 : Nat) : Int)), rawInt c] } := (hs₂.2 I (Ne.symm hL)).trans hst₁
    have N₂ : News h₀ env.locals h₂ ((I, { cls := .type "range_iterator", data := .fields #[rawInt (a + ((i + 1 : Nat) : Int) * c), rawInt ((n : Int) - ((i + 1 : Nat) : Int)), rawInt c] }) :: news') := fun p hp => by
      rcases List.mem_cons.mp hp with rfl | hp
      · exact ⟨hit, Ne.symm hL, hI⟩
      · exact N₁.set hs₂ p hp
    refine wpC_mono (step i t m' news' h₂ _ _ hlt hJ hnw' F₂ N₂ rfl) (fun f s₃ h₃ => ?_) fun _ _ x => x
    have fin : (∃ h' tk' m₂ news₂, s₃ = { s with heap := h', toks := tk' } ∧ Fr h₀ env.locals h' m₂ ∧ News h₀ env.locals h' ((I, { cls := .type "range_iterator", data := .fields #[rawInt (a + ((i + 1 : Nat) : Int) * c), rawInt ((n : Int) - ((i + 1 : Nat) : Int)), rawInt c] }) :: news₂) ∧ (∀ p ∈ news₂, p.1 ≠ I) ∧ J (i + 1) m₂ news₂) →
        ∃ m, m < n + 1 - i ∧ ∃ h' tk m' news' i, s₃ = { s with heap := h', toks := tk } ∧ IsRangeIter h' I (a + (i : Nat) * c) ((n : Int) - (i : Nat)) c ∧ Fr h₀ env.locals h' m' ∧ News h₀ env.locals h' news' ∧ (∀ p ∈ news', p.1 ≠ I) ∧ J i m' news' ∧ i ≤ n ∧ m = n + 1 - i := by
      rintro ⟨h₃', tk₃, m₂, news₂, rfl, F₃, N₃, hn₃, J₃⟩
      exact ⟨n + 1 - (i + 1), by omega, h₃', tk₃, m₂, news₂, i + 1, rfl, (N₃ _ (List.mem_cons_self ..)).1, F₃, fun p hp => N₃ p (List.mem_cons_of_mem _ hp), hn₃, J₃, hlt, rfl⟩
    cases f with
    | ret v => exact h₃
    | brk => exact h₃
    | next => exact fin h₃
    | cont => exact fin h₃
  · have hin : i = n := by omega
    subst hin
    refine W.done _ _ _ hst' fun h₁ tk₁ hk₁ => ?_
    obtain ⟨F₁, N₁⟩ := next h₁ hk₁
    exact hR h₁ tk₁ m' news' F₁ N₁ hJ
end
end Fr23

namespace Fr23
open PySem PySem.W PySem.Calls PyProof.Rows


def lawFn : Stmt := match PySem.Challenge.pw_fr0023_01.main.body with | [_, _, _, f] => f | _ => .Pass ⟨0, 0, 0, 0⟩
def lawBody : List Stmt := match lawFn with | .FunctionDef (body := b) .. => b | _ => []
def lawScope : Scope := match lawFn with | .FunctionDef (scope := b) .. => b | _ => { kind := .function, names := [], isGenerator := false, isCoroutine := false, more := [] }
def lawB (i : Nat) : Stmt := (lawBody[i]?).getD (.Pass ⟨0, 0, 0, 0⟩)
theorem lawBody_eq : lawBody = [lawB 0, lawB 1, lawB 2, lawB 3, lawB 4, lawB 5, lawB 6, lawB 7] := rfl
abbrev lawEnv (L fa : Addr) (cd : Value) : Env := envOfC (PySem.Str.ofString "law") lawScope L fa cd

def lawR (s : Shared) (r : Result) (s' : Shared) : Prop := r = .ok (.ret (.bool true)) ∧ ∃ h' tk, s' = { s with heap := h', toks := tk } ∧ ∀ b o, s.heap.get? b = some o → h'.get? b = some o
/-- what the law's body is to show, from any state behind it -/
def LawEnd (base : Heap) (s : Shared) (f : Flow) (s' : Shared) : Prop := f = .ret (.bool true) ∧ ∃ h' tk, s' = { s with heap := h', toks := tk } ∧ ∀ b o, base.get? b = some o → h'.get? b = some o

theorem enterC {M : Model} {A : Around} {s : Shared} {f : Value} {pos : List Value} {G : Result → Shared → Prop} (h : codeC M A (.call f ⟨pos, []⟩) (lawR s) s) (hG : ∀ h' tk, (∀ b o, s.heap.get? b = some o → h'.get? b = some o) → G (.ok (.ret (.bool true))) { s with heap := h', toks := tk }) :
    wpC M A (PySem.call f pos) (fun v s' => G (.ok (.ret v)) s') (fun e s' => G (.error e) s') s := by
  refine wpC_call (codeC_mono h fun r s' z => ?_)
  obtain ⟨rfl, h', tk, rfl, hk⟩ := z
  exact hG h' tk hk
end Fr23

namespace Fr23
open PySem PySem.W PySem.Calls PyProof.Rows

structure Stat (w : World) (mg mb : Str → Option Value) (mean : ExcName → Option Value) (base : Heap) (l : Addr) (vs : List Value) (ns : List Int) (as₁ as₂ : List Addr) : Prop where
  KX : (FrHd.hd.heap_39 w.params).In base
  T : Top FrHd.hd.view_39 (looseW FrHd.hd.view_39 []) mean mg mb base
  hl : base.IsList l vs.toArray
  hi : IntsAre vs ns
  hn : ns.length ≤ 63
  hs : Spec.Shape.int.list.has (PyData.list (List.map PyData.int ns)) = true
  hlay : (PyData.list (List.map PyData.int ns)).layable0 = true
  ra : ReadsAll base vs (List.map PyData.int ns) as₁
  r0 : Reads base (Value.ref l) (PyData.list (List.map PyData.int ns)) as₂

theorem news_sub {h₀ h : Heap} {L : Addr} {news news' : List (Addr × Obj)} (N : News h₀ L h news) (hs : ∀ p ∈ news', p ∈ news) : News h₀ L h news' := fun p hp => N p (hs p hp)
end Fr23

namespace Fr23
open PySem PySem.W PySem.Calls PyProof.Rows
theorem fill1 (w : World) : (PySem.Challenge.rw_fr0023_01, FrHd.hd.heap_39 w.params) = (PySem.Challenge.rw_fr0023_01, FrHd.hd.heap_39 w.params) := by w_top off; k_fill; rfl
local macro_rules | `(tactic| boot_fact) => `(tactic| with_reducible exact PyProof.Rows.Boot.bytearray)

/-- the dict of a Buffer: its bytearray, the number of octets taken -/
abbrev bufD (h1 : Int) (k1 : Nat) (bb : Addr) (h2 : Int) (k2 : Nat) (used : Int) (t : Nat) : Obj :=
  dictOf [⟨h1, .str (PySem.Str.ofString "buffer") k1, .ref bb⟩, ⟨h2, .str (PySem.Str.ofString "bytes_used") k2, .int used t⟩] 2

section
variable {w : World} {mg mb : Str → Option Value} {mean : ExcName → Option Value} {A₀ A : Around} {s : Shared} {base h₀ : Heap} {outer : List Env} {env : Env} {L : Addr} {m : Str → Option Value} {rest : List (Addr × Obj)}
  {x dx bb : Addr} {v : Value} {b c : Array UInt8} {h1 h2 used : Int} {k1 k2 t : Nat} {R : Result → Shared → Prop}

set_option maxHeartbeats 8000000 in
theorem feed_c (B : Below A₀ base outer h₀) (F : Fr h₀ L s.heap m) (X₀ : (FrHd.hd.heap_39 w.params).In h₀) (T : Top FrHd.hd.view_39 (looseW FrHd.hd.view_39 []) mean mg mb h₀)
    (N : News h₀ L s.heap ((x, instObj 74 dx) :: (dx, bufD h1 k1 bb h2 k2 used t) :: (bb, baObj b) :: rest)) (hA : A.frames = some (env :: outer)) (hf : env.frame = some L) (hke : env.scope.kind = .function) (hroom : A.depth < recursionLimit)
    (o1 : x ≠ dx) (o2 : x ≠ bb) (o3 : dx ≠ bb) (off : OwnOff rest [x, dx, bb]) (hv : (∃ t, v = .bytes c t) ∨ ∃ a, v = .ref a ∧ (a, baObj c) ∈ rest) (hz : b.size + c.size ≤ 16777216)
    (h : ∀ h' tk, Fr h₀ L h' m → News h₀ L h' ((x, instObj 74 dx) :: (dx, bufD h1 k1 bb h2 k2 used t) :: (bb, baObj (b ++ c)) :: rest) → R (.ok (.ret .none)) { s with heap := h', toks := tk }) :
    codeC (model PySem.Challenge.rw_fr0023_01.row.prog w) A (.call (.ref 36) ⟨[.ref x, v], []⟩) R s := by
  refine' codeC_def (K := FrHd.hd.heap_39 w.params) B F X₀ N T hA hf hke ?ho ?hcd hroom ?hbind ?hloc ?_ ?c1 ?c2 ?c3 ?c4
  case ho => k_is
  case hcd => k_is
  case hbind => exact BindsTo.of_eq rfl
  case hloc => exact locs rfl
  case c1 => exact rfl
  case c2 => exact rfl
  case c3 => exact rfl
  case c4 => decide
  intro g L' h₁ FG F' N' B' X' T'
  replace o1 := neN o1
  replace o2 := neN o2
  replace o3 := neN o3
  dsimp only
  refine wpC_execs_cons (wpC_AugAssign_Attribute ?_)
  k_steps
  rename Fr _ _ _ _ => F'
  rename News _ _ _ _ => N'
  have hv' : Bears h₁ v c ∧ v ≠ .ref bb := by
    rcases hv with ⟨t, rfl⟩ | ⟨a, rfl, ha⟩
    · exact ⟨.inl ⟨t, rfl⟩, fun e => nomatch e⟩
    · exact ⟨.inr ⟨a, rfl, (N' _ (.tail _ (.tail _ (.tail _ ha)))).1⟩, fun e => off _ ha bb (by simp) (Value.ref.inj e)⟩
  refine kba_inplace F' N' (by k_upd) (by k_mem) hv'.1 hv'.2 hz ?_
  clear N'
  intro h' F' N'
  k_steps
  refine wpC_execs_nil ?_
  rename Fr _ _ _ _ => F'
  rename News _ _ _ _ => N'
  exact leaveK_ F' N' fun kF kN => h _ _ kF kN
end
end Fr23

namespace Fr23
open PySem PySem.W PySem.Calls PyProof.Rows
theorem fill2 (w : World) : (PySem.Challenge.rw_fr0023_01, FrHd.hd.heap_39 w.params) = (PySem.Challenge.rw_fr0023_01, FrHd.hd.heap_39 w.params) := by w_top off; k_fill; rfl
local macro_rules | `(tactic| boot_fact) => `(tactic| with_reducible exact PyProof.Rows.Boot.bytearray)
local macro_rules | `(tactic| k_mem) => `(tactic| with_reducible assumption)
local macro_rules | `(tactic| walk_at "truthy ref") => `(tactic| (k_here; k_dflt (refine' kba_truthy ?N ?h ?z ?_; (case N => k_asm); (case h => k_mem); (case z => omega); k_whole)))

theorem truthy_v {prog : Program} {w : World} {A : Around} {E : Value → Shared → Prop} {s : Shared} {h₀ : Heap} {L : Addr} {news : List (Addr × Obj)} {v : Value} {c : Array UInt8} {Q : Bool → Shared → Prop} (N : News h₀ L s.heap news)
    (hv : (∃ t, v = .bytes c t) ∨ ∃ a, v = .ref a ∧ (a, baObj c) ∈ news) (hz : c.size ≤ 16777216) (h : ∀ tk, Q ((c.size : Int) != 0) { s with toks := tk }) : wpAny (model prog w) A (truthy v) Q E s := by
  rcases hv with ⟨t, rfl⟩ | ⟨a, rfl, ha⟩
  · exact truthy_bytes (by omega) (h _)
  · exact kba_truthy N ha hz (h _)

section
variable {w : World} {mg mb : Str → Option Value} {mean : ExcName → Option Value} {A₀ A : Around} {s : Shared} {base h₀ : Heap} {outer : List Env} {env : Env} {L : Addr} {m : Str → Option Value} {rest : List (Addr × Obj)}
  {x dx : Addr} {v : Value} {c : Array UInt8} {R : Result → Shared → Prop}

set_option maxHeartbeats 8000000 in
theorem init1_c (B : Below A₀ base outer h₀) (F : Fr h₀ L s.heap m) (X₀ : (FrHd.hd.heap_39 w.params).In h₀) (T : Top FrHd.hd.view_39 (looseW FrHd.hd.view_39 []) mean mg mb h₀)
    (N : News h₀ L s.heap ((x, instObj 74 dx) :: (dx, dictOf [] 0) :: rest)) (hA : A.frames = some (env :: outer)) (hf : env.frame = some L) (hke : env.scope.kind = .function) (hroom : A.depth + 2 < recursionLimit)
    (o1 : x ≠ dx) (off : OwnOff rest [x, dx]) (hv : (∃ t, v = .bytes c t) ∨ ∃ a, v = .ref a ∧ (a, baObj c) ∈ rest) (hz : c.size ≤ 16777216)
    (h : ∀ bb h1 k1 h2 k2 t h' tk, Fr h₀ L h' m → News h₀ L h' ((x, instObj 74 dx) :: (dx, bufD h1 k1 bb h2 k2 0 t) :: (bb, baObj c) :: rest) → x ≠ bb → dx ≠ bb → (∀ p ∈ rest, p.1 < bb) → R (.ok (.ret .none)) { s with heap := h', toks := tk }) :
    codeC (model PySem.Challenge.rw_fr0023_01.row.prog w) A (.call (.ref 29) ⟨[.ref x, v], []⟩) R s := by
  refine' codeC_def (K := FrHd.hd.heap_39 w.params) B F X₀ N T hA hf hke ?ho ?hcd (by omega) ?hbind ?hloc ?_ ?c1 ?c2 ?c3 ?c4
  case ho => k_is
  case hcd => k_is
  case hbind => first | exact BindsTo.of_eq rfl | exact binds_K (X₀.keeps F.keep) rfl (by k_is) rfl rfl rfl
  case hloc => exact locs rfl
  case c1 => exact rfl
  case c2 => exact rfl
  case c3 => exact rfl
  case c4 => decide
  intro g L' h₁ FG F' N' B' X' T'
  replace o1 := neN o1
  dsimp only
  refine wpC_execs_cons (wpC_Assign_Attribute (wpC_Call ?_))
  k_steps
  refine wpC_callWith_machine0 (keeps_type _) ?_
  rename Fr _ _ _ _ => F'
  rename News _ _ _ _ => N'
  refine kba_make0 F' N' ?_
  clear N'
  intro bb h' F' N' l1 l2
  obtain ⟨l1a, l1b, l1r⟩ : x < bb ∧ dx < bb ∧ ∀ p ∈ rest, p.1 < bb := ⟨l1 _ (.head _), l1 _ (.tail _ (.head _)), fun p hp => l1 p (.tail _ (.tail _ hp))⟩
  have offb : OwnOff rest [x, dx, bb] := fun p hp b hb => by
    rcases List.mem_cons.mp hb with rfl | hb
    · exact off p hp _ (by simp)
    · rcases List.mem_cons.mp hb with rfl | hb
      · exact off p hp _ (by simp)
      · rw [List.mem_singleton.mp hb]; exact Nat.ne_of_lt (l1r p hp)
  replace l1a := ltN l1a
  replace l1b := ltN l1b
  k_steps
  refine wpC_execs_leaf ?_
  k_steps
  rename Fr _ _ _ _ => F'
  rename News _ _ _ _ => N'
  obtain ⟨h1, k1, h2, k2, t, N₁⟩ : ∃ h1 k1 h2 k2 t, News g L' _ ((bb, baObj #[]) :: (x, instObj 74 dx) :: (dx, bufD h1 k1 bb h2 k2 0 t) :: rest) := ⟨_, _, _, _, _, N'⟩
  clear N'
  refine wpC_gen (fun tk => ?_)
  refine wpC_execs_cons (wpC_If ?_)
  k_steps
  have hv' : (∃ t, v = .bytes c t) ∨ ∃ a, v = .ref a ∧ (a, baObj c) ∈ (bb, baObj #[]) :: (x, instObj 74 dx) :: (dx, bufD h1 k1 bb h2 k2 0 t) :: rest := hv.imp_right fun ⟨a, e, ha⟩ => ⟨a, e, .tail _ (.tail _ (.tail _ ha))⟩
  refine truthy_v N₁ hv' hz (fun tk => ?_)
  dsimp only
  by_cases hc : c.size = 0
  · rw [if_neg (by simp [hc])]
    refine wpC_execs_nil (wpC_execs_nil ?_)
    refine leaveK_ F' N₁ fun kF kN => ?_
    have e : c = #[] := Array.eq_empty_of_size_eq_zero hc
    subst e
    exact h bb h1 k1 h2 k2 t _ _ kF (news_sub kN (by intro p hp; simp only [List.mem_cons] at hp ⊢; rcases hp with h | h | h | h <;> simp [h])) (Nat.ne_of_lt l1a) (Nat.ne_of_lt l1b) l1r
  · rw [if_pos (by rw [bne_iff_ne]; omega)]
    have N₂ : News g L' _ ((x, instObj 74 dx) :: (dx, bufD h1 k1 bb h2 k2 0 t) :: (bb, baObj #[]) :: rest) := news_sub N₁ (by intro p hp; simp only [List.mem_cons] at hp ⊢; rcases hp with h | h | h | h <;> simp [h])
    clear N₁
    refine wpC_execs_cons (wpC_Expr (wpC_Call_Attribute ?_))
    k_steps
    refine wpC_callWith_K (K := FrHd.hd.heap_39 w.params) (by k_is) (wpC_spliced_e (wpC_of ?_))
    k_steps
    refine wpC_spliced_0 ⟨by k_in, wpC_call ?_⟩
    dsimp only [List.nil_append, List.cons_append]
    refine feed_c (c := c) B' F' X' T' N₂ (Around.frames_deeper B'.stack) rfl rfl (by show A.depth + 1 < recursionLimit; omega) o1 (Nat.ne_of_lt l1a) (Nat.ne_of_lt l1b) offb hv (by simp; omega) ?_
    clear N₂
    intro h₃ tk₃ F₃ N₃
    refine wpC_execs_nil (wpC_execs_nil ?_)
    refine leaveK_ F₃ N₃ fun kF kN => ?_
    rw [Array.empty_append] at kN
    exact h bb h1 k1 h2 k2 t _ _ kF kN (Nat.ne_of_lt l1a) (Nat.ne_of_lt l1b) l1r

set_option maxHeartbeats 8000000 in
theorem init0_c (B : Below A₀ base outer h₀) (F : Fr h₀ L s.heap m) (X₀ : (FrHd.hd.heap_39 w.params).In h₀) (T : Top FrHd.hd.view_39 (looseW FrHd.hd.view_39 []) mean mg mb h₀)
    (N : News h₀ L s.heap ((x, instObj 74 dx) :: (dx, dictOf [] 0) :: rest)) (hA : A.frames = some (env :: outer)) (hf : env.frame = some L) (hke : env.scope.kind = .function) (hroom : A.depth + 2 < recursionLimit)
    (o1 : x ≠ dx) (off : OwnOff rest [x, dx])
    (h : ∀ bb h1 k1 h2 k2 t h' tk, Fr h₀ L h' m → News h₀ L h' ((x, instObj 74 dx) :: (dx, bufD h1 k1 bb h2 k2 0 t) :: (bb, baObj #[]) :: rest) → x ≠ bb → dx ≠ bb → (∀ p ∈ rest, p.1 < bb) → R (.ok (.ret .none)) { s with heap := h', toks := tk }) :
    codeC (model PySem.Challenge.rw_fr0023_01.row.prog w) A (.call (.ref 29) ⟨[.ref x], []⟩) R s := by
  refine' codeC_def (K := FrHd.hd.heap_39 w.params) B F X₀ N T hA hf hke ?ho ?hcd (by omega) ?hbind ?hloc ?_ ?c1 ?c2 ?c3 ?c4
  case ho => k_is
  case hcd => k_is
  case hbind => first | exact BindsTo.of_eq rfl | exact binds_K (X₀.keeps F.keep) rfl (by k_is) rfl rfl rfl
  case hloc => exact locs rfl
  case c1 => exact rfl
  case c2 => exact rfl
  case c3 => exact rfl
  case c4 => decide
  intro g L' h₁ FG F' N' B' X' T'
  replace o1 := neN o1
  dsimp only
  refine wpC_execs_cons (wpC_Assign_Attribute (wpC_Call ?_))
  k_steps
  refine wpC_callWith_machine0 (keeps_type _) ?_
  rename Fr _ _ _ _ => F'
  rename News _ _ _ _ => N'
  refine kba_make0 F' N' ?_
  clear N'
  intro bb h' F' N' l1 l2
  obtain ⟨l1a, l1b, l1r⟩ : x < bb ∧ dx < bb ∧ ∀ p ∈ rest, p.1 < bb := ⟨l1 _ (.head _), l1 _ (.tail _ (.head _)), fun p hp => l1 p (.tail _ (.tail _ hp))⟩
  replace l1a := ltN l1a
  replace l1b := ltN l1b
  k_steps
  refine wpC_execs_leaf ?_
  k_steps
  rename Fr _ _ _ _ => F'
  rename News _ _ _ _ => N'
  obtain ⟨h1, k1, h2, k2, t, N₁⟩ : ∃ h1 k1 h2 k2 t, News g L' _ ((bb, baObj #[]) :: (x, instObj 74 dx) :: (dx, bufD h1 k1 bb h2 k2 0 t) :: rest) := ⟨_, _, _, _, _, N'⟩
  clear N'
  refine wpC_gen (fun tk => ?_)
  refine wpC_execs_leaf ?_
  k_steps
  refine wpC_execs_nil ?_
  refine leaveK_ F' N₁ fun kF kN => ?_
  exact h bb h1 k1 h2 k2 t _ _ kF (news_sub kN (by intro p hp; simp only [List.mem_cons] at hp ⊢; rcases hp with h | h | h | h <;> simp [h])) (Nat.ne_of_lt l1a) (Nat.ne_of_lt l1b) l1r

theorem make1_c {E : Value → Shared → Prop} {Q : Value → Shared → Prop} (B : Below A₀ base outer h₀) (F : Fr h₀ L s.heap m) (X₀ : (FrHd.hd.heap_39 w.params).In h₀) (T : Top FrHd.hd.view_39 (looseW FrHd.hd.view_39 []) mean mg mb h₀)
    (N : News h₀ L s.heap rest) (hA : A.frames = some (env :: outer)) (hf : env.frame = some L) (hke : env.scope.kind = .function) (hroom : A.depth + 3 < recursionLimit)
    (hv : (∃ t, v = .bytes c t) ∨ ∃ a, v = .ref a ∧ (a, baObj c) ∈ rest) (hz : c.size ≤ 16777216)
    (h : ∀ x dx bb h1 k1 h2 k2 t h' tk, Fr h₀ L h' m → News h₀ L h' ((x, instObj 74 dx) :: (dx, bufD h1 k1 bb h2 k2 0 t) :: (bb, baObj c) :: rest) → x ≠ dx → x ≠ bb → dx ≠ bb → (∀ p ∈ rest, p.1 < x ∧ p.1 < dx ∧ p.1 < bb) → Q (.ref x) { s with heap := h', toks := tk }) :
    wpC (model PySem.Challenge.rw_fr0023_01.row.prog w) A (call (.ref 74) [v]) Q E s := by
  refine wpC_call (codeC_make F N X₀ (by k_is) (by k_is) (by k_is) fun x dx h' F' N' l1 l2 => ?_)
  refine init1_c (s := { s with heap := h' }) B F' X₀ T N' hA hf hke (by show A.depth + 1 + 2 < recursionLimit; omega) (Nat.ne_of_gt l2)
    (fun p hp b hb => by
      have := l1 p hp
      rcases List.mem_cons.mp hb with rfl | hb
      · exact Nat.ne_of_lt (Nat.lt_trans this l2)
      · rw [List.mem_singleton.mp hb]; exact Nat.ne_of_lt this) hv hz fun bb h1 k1 h2 k2 t h₃ tk F₃ N₃ o1 o2 l3 => ⟨rfl, ?_⟩
  exact h x dx bb h1 k1 h2 k2 t h₃ tk F₃ N₃ (Nat.ne_of_gt l2) o1 o2 fun p hp => ⟨Nat.lt_trans (l1 p hp) l2, l1 p hp, l3 p hp⟩
theorem make0_c {E : Value → Shared → Prop} {Q : Value → Shared → Prop} (B : Below A₀ base outer h₀) (F : Fr h₀ L s.heap m) (X₀ : (FrHd.hd.heap_39 w.params).In h₀) (T : Top FrHd.hd.view_39 (looseW FrHd.hd.view_39 []) mean mg mb h₀)
    (N : News h₀ L s.heap rest) (hA : A.frames = some (env :: outer)) (hf : env.frame = some L) (hke : env.scope.kind = .function) (hroom : A.depth + 3 < recursionLimit)
    (h : ∀ x dx bb h1 k1 h2 k2 t h' tk, Fr h₀ L h' m → News h₀ L h' ((x, instObj 74 dx) :: (dx, bufD h1 k1 bb h2 k2 0 t) :: (bb, baObj #[]) :: rest) → x ≠ dx → x ≠ bb → dx ≠ bb → (∀ p ∈ rest, p.1 < x ∧ p.1 < dx ∧ p.1 < bb) → Q (.ref x) { s with heap := h', toks := tk }) :
    wpC (model PySem.Challenge.rw_fr0023_01.row.prog w) A (call (.ref 74) []) Q E s := by
  refine wpC_call (codeC_make F N X₀ (by k_is) (by k_is) (by k_is) fun x dx h' F' N' l1 l2 => ?_)
  refine init0_c (s := { s with heap := h' }) B F' X₀ T N' hA hf hke (by show A.depth + 1 + 2 < recursionLimit; omega) (Nat.ne_of_gt l2)
    (fun p hp b hb => by
      have := l1 p hp
      rcases List.mem_cons.mp hb with rfl | hb
      · exact Nat.ne_of_lt (Nat.lt_trans this l2)
      · rw [List.mem_singleton.mp hb]; exact Nat.ne_of_lt this) fun bb h1 k1 h2 k2 t h₃ tk F₃ N₃ o1 o2 l3 => ⟨rfl, ?_⟩
  exact h x dx bb h1 k1 h2 k2 t h₃ tk F₃ N₃ (Nat.ne_of_gt l2) o1 o2 fun p hp => ⟨Nat.lt_trans (l1 p hp) l2, l1 p hp, l3 p hp⟩
end
end Fr23

namespace Fr23
open PySem PySem.W PySem.Calls PyProof.Rows
theorem fill3 (w : World) : (PySem.Challenge.rw_fr0023_01, FrHd.hd.heap_39 w.params) = (PySem.Challenge.rw_fr0023_01, FrHd.hd.heap_39 w.params) := by w_top off; k_fill; rfl
local macro_rules | `(tactic| walk_at "no such place") => `(tactic| fail "none")
local macro_rules | `(tactic| boot_fact) => `(tactic| with_reducible exact PyProof.Rows.Boot.bytearray)
local macro_rules | `(tactic| k_mem) => `(tactic| with_reducible assumption)
local macro_rules | `(tactic| walk_at "call builtin:len") => `(tactic| (k_here; (with_reducible show wpAny _ _ (call (Value.builtin "len") [Value.ref _]) _ _ _); k_dflt (refine' kba_len ?N ?h ?z ?_; (case N => k_asm); (case h => k_mem); (case z => omega); k_whole)))

theorem picked_kn (b : Array UInt8) (k n : Nat) (hk : k ≤ b.size) : KBy.picked b (some (k : Int)) (some ((k : Int) + (n : Int))) = ((b.toList.drop k).take n).toArray := by
  rw [KBc.picked_eq]
  simp only [Option.elim]
  rw [show ((k : Int) + (n : Int)) = ((k + n : Nat) : Int) by push_cast; rfl, clipAt_nat, clipAt_nat, Nat.min_eq_left hk]
  congr 1
  have hl : (b.toList.drop k).length = b.size - k := by simp
  by_cases h : k + n ≤ b.size
  · rw [Nat.min_eq_left h, Nat.add_sub_cancel_left]
  · rw [Nat.min_eq_right (by omega), List.take_of_length_le (by omega), List.take_of_length_le (by omega)]

section
variable {w : World} {mg mb : Str → Option Value} {mean : ExcName → Option Value} {A₀ A : Around} {s : Shared} {base h₀ : Heap} {outer : List Env} {env : Env} {L : Addr} {m : Str → Option Value} {rest : List (Addr × Obj)}
  {x dx bb : Addr} {b : Array UInt8} {h1 h2 : Int} {k1 k2 t k n tn : Nat} {R : Result → Shared → Prop}

set_option maxHeartbeats 8000000 in
theorem cam_c (B : Below A₀ base outer h₀) (F : Fr h₀ L s.heap m) (X₀ : (FrHd.hd.heap_39 w.params).In h₀) (T : Top FrHd.hd.view_39 (looseW FrHd.hd.view_39 []) mean mg mb h₀)
    (N : News h₀ L s.heap ((x, instObj 74 dx) :: (dx, bufD h1 k1 bb h2 k2 (k : Int) t) :: (bb, baObj b) :: rest)) (hA : A.frames = some (env :: outer)) (hf : env.frame = some L) (hke : env.scope.kind = .function) (hroom : A.depth + 2 < recursionLimit)
    (o1 : x ≠ dx) (o2 : x ≠ bb) (o3 : dx ≠ bb) (off : OwnOff rest [x, dx, bb]) (hk : k ≤ b.size) (hz : b.size ≤ 1048576) (hn : n ≤ 1048576)
    (h : ∀ r t' h' tk, Fr h₀ L h' m → News h₀ L h' ((r, baObj ((b.toList.drop k).take n).toArray) :: (x, instObj 74 dx) :: (dx, bufD h1 k1 bb h2 k2 ((k + min n (b.size - k) : Nat) : Int) t') :: (bb, baObj b) :: rest) →
      (x < r ∧ dx < r ∧ bb < r ∧ ∀ p ∈ rest, p.1 < r) → R (.ok (.ret (.ref r))) { s with heap := h', toks := tk }) :
    codeC (model PySem.Challenge.rw_fr0023_01.row.prog w) A (.call (.ref 43) ⟨[.ref x, .int n tn], []⟩) R s := by
  refine' codeC_def (K := FrHd.hd.heap_39 w.params) B F X₀ N T hA hf hke ?ho ?hcd (by omega) ?hbind ?hloc ?_ ?c1 ?c2 ?c3 ?c4
  case ho => k_is
  case hcd => k_is
  case hbind => exact BindsTo.of_eq rfl
  case hloc => exact locs rfl
  case c1 => exact rfl
  case c2 => exact rfl
  case c3 => exact rfl
  case c4 => decide
  intro g L' h₁ FG F' N' B' X' T'
  replace o1 := neN o1
  replace o2 := neN o2
  replace o3 := neN o3
  dsimp only
  refine wpC_execs_cons (wpC_If ?_)
  k_steps
  · rename ¬ (_ = _) => hn0
    refine wpC_execs_nil ?_
    refine wpC_execs_cons (wpC_Assign_Name (wpC_of ?_))
    k_steps
    rename Fr _ _ _ _ => F'
    rename News _ _ _ _ => N'
    refine kba_slice (F'.push _) (N'.pushKeep _) (.tail _ (.tail _ (.head _))) (Heap.IsSliceOf.new _ _ _ _) (.int _ _) (.int _ _) (by omega) ?_
    clear N'
    intro r h' F' N' l1 l2
    rw [picked_kn b k n hk] at N'
    obtain ⟨D, hD, hDs⟩ : ∃ D, D = ((b.toList.drop k).take n).toArray ∧ D.size = min n (b.size - k) := ⟨_, rfl, by simp⟩
    rw [← hD] at N'
    obtain ⟨l1a, l1b, l1c, l1r⟩ : x < r ∧ dx < r ∧ bb < r ∧ ∀ p ∈ rest, p.1 < r := ⟨l1 _ (.head _), l1 _ (.tail _ (.head _)), l1 _ (.tail _ (.tail _ (.head _))), fun p hp => l1 p (.tail _ (.tail _ (.tail _ hp)))⟩
    have q1 := ltN l1a
    have q2 := ltN l1b
    have q3 := ltN l1c
    k_steps
    refine wpC_execs_leaf ?_
    k_steps
    refine wpC_execs_leaf ?_
    k_steps
    rename Fr _ _ _ _ => F'
    rename News _ _ _ _ => N'
    refine leaveK_ F' N' fun kF kN => ?_
    obtain ⟨t', kN⟩ : ∃ t', News h₀ L _ ((r, baObj D) :: (x, instObj 74 dx) :: (dx, bufD h1 k1 bb h2 k2 ((k + min n (b.size - k) : Nat) : Int) t') :: (bb, baObj b) :: rest) := ⟨_, by rw [← hDs]; exact kN⟩
    subst hD
    exact h r t' _ _ kF kN ⟨l1a, l1b, l1c, l1r⟩
  · refine wpC_execs_cons (wpC_Return (wpC_Call ?_))
    k_steps
    refine wpC_callWith_machine0 (keeps_type _) ?_
    rename Fr _ _ _ _ => F'
    rename News _ _ _ _ => N'
    refine kba_make0 F' N' ?_
    clear N'
    intro r h' F' N' l1 l2
    refine leaveK_ F' N' fun kF kN => ?_
    obtain rfl : n = 0 := by omega
    exact h r t _ _ kF (by simpa using kN) ⟨l1 _ (.head _), l1 _ (.tail _ (.head _)), l1 _ (.tail _ (.tail _ (.head _))), fun p hp => l1 p (.tail _ (.tail _ (.tail _ hp)))⟩
end
end Fr23

namespace Fr23
open PySem PySem.W PySem.Calls PyProof.Rows
theorem fill4 (w : World) : (PySem.Challenge.rw_fr0023_01, FrHd.hd.heap_39 w.params) = (PySem.Challenge.rw_fr0023_01, FrHd.hd.heap_39 w.params) := by w_top off; k_fill; rfl
local macro_rules | `(tactic| boot_fact) => `(tactic| with_reducible exact PyProof.Rows.Boot.bytearray)
local macro_rules | `(tactic| k_mem) => `(tactic| with_reducible assumption)
local macro_rules | `(tactic| walk_at "call builtin:len") => `(tactic| (k_here; (with_reducible show wpAny _ _ (call (Value.builtin "len") [Value.ref _]) _ _ _); k_dflt (refine' kba_len ?N ?h ?z ?_; (case N => k_asm); (case h => k_mem); (case z => omega); k_whole)))

section
variable {w : World} {mg mb : Str → Option Value} {mean : ExcName → Option Value} {A₀ A : Around} {s : Shared} {base h₀ : Heap} {outer : List Env} {env : Env} {L : Addr} {m : Str → Option Value} {rest : List (Addr × Obj)}
  {x dx bb : Addr} {b : Array UInt8} {h1 h2 : Int} {k1 k2 t k n tn : Nat} {R : Result → Shared → Prop}

set_option maxHeartbeats 8000000 in
theorem cex_c (B : Below A₀ base outer h₀) (F : Fr h₀ L s.heap m) (X₀ : (FrHd.hd.heap_39 w.params).In h₀) (T : Top FrHd.hd.view_39 (looseW FrHd.hd.view_39 []) mean mg mb h₀)
    (N : News h₀ L s.heap ((x, instObj 74 dx) :: (dx, bufD h1 k1 bb h2 k2 (k : Int) t) :: (bb, baObj b) :: rest)) (hA : A.frames = some (env :: outer)) (hf : env.frame = some L) (hke : env.scope.kind = .function) (hroom : A.depth + 3 < recursionLimit)
    (o1 : x ≠ dx) (o2 : x ≠ bb) (o3 : dx ≠ bb) (off : OwnOff rest [x, dx, bb]) (hk : k ≤ b.size) (hz : b.size ≤ 1048576) (hn : n ≤ 1048576)
    (hN : b.size < k + n → ∀ h' tk, Fr h₀ L h' m → News h₀ L h' ((x, instObj 74 dx) :: (dx, bufD h1 k1 bb h2 k2 (k : Int) t) :: (bb, baObj b) :: rest) → R (.ok (.ret .none)) { s with heap := h', toks := tk })
    (h : k + n ≤ b.size → ∀ r t' h' tk, Fr h₀ L h' m → News h₀ L h' ((r, baObj ((b.toList.drop k).take n).toArray) :: (x, instObj 74 dx) :: (dx, bufD h1 k1 bb h2 k2 ((k + min n (b.size - k) : Nat) : Int) t') :: (bb, baObj b) :: rest) →
      (x < r ∧ dx < r ∧ bb < r ∧ ∀ p ∈ rest, p.1 < r) → R (.ok (.ret (.ref r))) { s with heap := h', toks := tk }) :
    codeC (model PySem.Challenge.rw_fr0023_01.row.prog w) A (.call (.ref 50) ⟨[.ref x, .int n tn], []⟩) R s := by
  have o1' := o1
  have o2' := o2
  have o3' := o3
  refine' codeC_def (K := FrHd.hd.heap_39 w.params) B F X₀ N T hA hf hke ?ho ?hcd (by omega) ?hbind ?hloc ?_ ?c1 ?c2 ?c3 ?c4
  case ho => k_is
  case hcd => k_is
  case hbind => exact BindsTo.of_eq rfl
  case hloc => exact locs rfl
  case c1 => exact rfl
  case c2 => exact rfl
  case c3 => exact rfl
  case c4 => decide
  intro g L' h₁ FG F' N' B' X' T'
  replace o1 := neN o1
  replace o2 := neN o2
  replace o3 := neN o3
  dsimp only
  refine wpC_execs_cons (wpC_If ?_)
  k_steps
  · rename _ < _ => hlt
    refine wpC_execs_leaf ?_
    k_steps
    rename Fr _ _ _ _ => F'
    rename News _ _ _ _ => N'
    refine leaveK_ F' N' fun kF kN => ?_
    exact hN (by omega) _ _ kF kN
  · rename ¬ (_ < _) => hlt
    refine wpC_execs_nil (wpC_execs_cons (wpC_Return (wpC_Call_Attribute ?_)))
    k_steps
    refine wpC_callWith_K (K := FrHd.hd.heap_39 w.params) (by k_is) (wpC_spliced_e (wpC_of ?_))
    k_steps
    refine wpC_spliced_0 ⟨by k_in, wpC_call ?_⟩
    dsimp only [List.nil_append, List.cons_append]
    rename Fr _ _ _ _ => F'
    rename News _ _ _ _ => N'
    refine cam_c (b := b) B' F' X' T' N' (Around.frames_deeper B'.stack) rfl rfl (by show A.depth + 1 + 2 < recursionLimit; omega) o1' o2' o3' off hk hz hn ?_
    clear N'
    intro r t' h₃ tk₃ F₃ N₃ lr
    refine leaveK_ F₃ N₃ fun kF kN => ?_
    exact h (by omega) r t' _ _ kF kN lr

set_option maxHeartbeats 8000000 in
theorem commit_c (B : Below A₀ base outer h₀) (F : Fr h₀ L s.heap m) (X₀ : (FrHd.hd.heap_39 w.params).In h₀) (T : Top FrHd.hd.view_39 (looseW FrHd.hd.view_39 []) mean mg mb h₀)
    (N : News h₀ L s.heap ((x, instObj 74 dx) :: (dx, bufD h1 k1 bb h2 k2 (k : Int) t) :: (bb, baObj b) :: rest)) (hA : A.frames = some (env :: outer)) (hf : env.frame = some L) (hke : env.scope.kind = .function) (hroom : A.depth + 2 < recursionLimit)
    (o1 : x ≠ dx) (o2 : x ≠ bb) (o3 : dx ≠ bb) (off : OwnOff rest [x, dx, bb]) (hk : k ≤ b.size) (hz : b.size ≤ 1048576)
    (h : ∀ t' h' tk, Fr h₀ L h' m → News h₀ L h' ((x, instObj 74 dx) :: (dx, bufD h1 k1 bb h2 k2 ((0 : Nat) : Int) t') :: (bb, baObj (b.toList.drop k).toArray) :: rest) → R (.ok (.ret .none)) { s with heap := h', toks := tk }) :
    codeC (model PySem.Challenge.rw_fr0023_01.row.prog w) A (.call (.ref 57) ⟨[.ref x], []⟩) R s := by
  refine' codeC_def (K := FrHd.hd.heap_39 w.params) B F X₀ N T hA hf hke ?ho ?hcd (by omega) ?hbind ?hloc ?_ ?c1 ?c2 ?c3 ?c4
  case ho => k_is
  case hcd => k_is
  case hbind => exact BindsTo.of_eq rfl
  case hloc => exact locs rfl
  case c1 => exact rfl
  case c2 => exact rfl
  case c3 => exact rfl
  case c4 => decide
  intro g L' h₁ FG F' N' B' X' T'
  replace o1 := neN o1
  replace o2 := neN o2
  replace o3 := neN o3
  dsimp only
  refine wpC_execs_cons (wpC_Delete_Subscript ?_)
  k_steps
  rename Fr _ _ _ _ => F'
  rename News _ _ _ _ => N'
  refine kba_del (k := k) (F'.push _) (N'.pushKeep _) (by k_upd) (.tail _ (.tail _ (.head _))) (Heap.IsSliceOf.new _ _ _ _) rfl hk (by omega) ?_
  clear N'
  intro h' F' N'
  k_steps
  refine wpC_execs_leaf ?_
  k_steps
  rename Fr _ _ _ _ => F'
  rename News _ _ _ _ => N'
  refine wpC_execs_nil ?_
  refine leaveK_ F' N' fun kF kN => ?_
  exact h _ _ _ kF kN

set_option maxHeartbeats 8000000 in
theorem rollback_c (B : Below A₀ base outer h₀) (F : Fr h₀ L s.heap m) (X₀ : (FrHd.hd.heap_39 w.params).In h₀) (T : Top FrHd.hd.view_39 (looseW FrHd.hd.view_39 []) mean mg mb h₀)
    (N : News h₀ L s.heap ((x, instObj 74 dx) :: (dx, bufD h1 k1 bb h2 k2 (k : Int) t) :: (bb, baObj b) :: rest)) (hA : A.frames = some (env :: outer)) (hf : env.frame = some L) (hke : env.scope.kind = .function) (hroom : A.depth + 2 < recursionLimit)
    (o1 : x ≠ dx) (o2 : x ≠ bb) (o3 : dx ≠ bb) (off : OwnOff rest [x, dx, bb])
    (h : ∀ t' h' tk, Fr h₀ L h' m → News h₀ L h' ((x, instObj 74 dx) :: (dx, bufD h1 k1 bb h2 k2 ((0 : Nat) : Int) t') :: (bb, baObj b) :: rest) → R (.ok (.ret .none)) { s with heap := h', toks := tk }) :
    codeC (model PySem.Challenge.rw_fr0023_01.row.prog w) A (.call (.ref 64) ⟨[.ref x], []⟩) R s := by
  refine' codeC_def (K := FrHd.hd.heap_39 w.params) B F X₀ N T hA hf hke ?ho ?hcd (by omega) ?hbind ?hloc ?_ ?c1 ?c2 ?c3 ?c4
  case ho => k_is
  case hcd => k_is
  case hbind => exact BindsTo.of_eq rfl
  case hloc => exact locs rfl
  case c1 => exact rfl
  case c2 => exact rfl
  case c3 => exact rfl
  case c4 => decide
  intro g L' h₁ FG F' N' B' X' T'
  replace o1 := neN o1
  replace o2 := neN o2
  replace o3 := neN o3
  dsimp only
  refine wpC_execs_leaf ?_
  k_steps
  rename Fr _ _ _ _ => F'
  rename News _ _ _ _ => N'
  refine wpC_execs_nil ?_
  refine leaveK_ F' N' fun kF kN => ?_
  exact h _ _ _ kF kN
end
end Fr23

namespace Fr23
open PySem PySem.W PySem.Calls PyProof.Rows
theorem fillt0 (w : World) : (PySem.Challenge.rw_fr0023_01, FrHd.hd.heap_39 w.params) = (PySem.Challenge.rw_fr0023_01, FrHd.hd.heap_39 w.params) := by w_top off; k_fill; rfl
local macro_rules | `(tactic| boot_fact) => `(tactic| with_reducible exact PyProof.Rows.Boot.bytearray)
local macro_rules | `(tactic| k_mem) => `(tactic| with_reducible assumption)

def forBody : List Stmt := match lawB 6 with | .For (body := b) .. => b | _ => []
def tB (i : Nat) : Stmt := (forBody[i]?).getD (.Pass ⟨0, 0, 0, 0⟩)
theorem forBody_eq : forBody = [tB 0, tB 1, tB 2, tB 3] := rfl

theorem ints_two {ws : List Value} {zs : List Int} (hI : IntsAre ws zs) (hz : zs.length = 2) : ∃ x tx y ty, ws = [.int x tx, .int y ty] := by
  cases hI with
  | nil => cases hz
  | cons x tx h₁ =>
    cases h₁ with
    | nil => cases hz
    | cons y ty h₂ =>
      cases h₂ with
      | nil => exact ⟨_, _, _, _, rfl⟩
      | cons z tz h₃ => simp at hz

end Fr23

namespace Fr23
open PySem PySem.W PySem.Calls PyProof.Rows

/-- what the names of the loop stand for -/
structure Nm (m : Str → Option Value) (l : Addr) (T Lf : Array UInt8) (kp X2 X : Addr) : Prop where
  script : m (PySem.Str.ofString "script") = some (.ref l)
  taken : ∃ t, m (PySem.Str.ofString "taken") = some (.bytes T t)
  left : ∃ t, m (PySem.Str.ofString "left") = some (.bytes Lf t)
  kept : m (PySem.Str.ofString "kept") = some (.ref kp)
  beside : m (PySem.Str.ofString "beside") = some (.ref X2)
  buffer : m (PySem.Str.ofString "buffer") = some (.ref X)

theorem Nm.reify {m : Str → Option Value} {l : Addr} {T Lf : Array UInt8} {kp X2 X : Addr} (H : Nm m l T Lf kp X2 X) : ∃ tt tl, m = fun y => if y = PySem.Str.ofString "taken" then some (.bytes T tt) else if y = PySem.Str.ofString "left" then some (.bytes Lf tl)
      else if y = PySem.Str.ofString "kept" then some (.ref kp) else if y = PySem.Str.ofString "beside" then some (.ref X2) else if y = PySem.Str.ofString "buffer" then some (.ref X) else if y = PySem.Str.ofString "script" then some (.ref l) else m y := by
  obtain ⟨h1, ⟨tt, h2⟩, ⟨tl, h3⟩, h4, h5, h6⟩ := H
  refine ⟨tt, tl, funext fun y => ?_⟩
  repeat' split
  all_goals first | (subst_vars; assumption) | rfl


theorem put2 {m m' : Str → Option Value} {x : Str} {v : Value} (h : m x = some v) (e : m = m') : m = fun y => if y = x then some v else m' y := by
  subst e
  funext y
  split
  · next q => rw [q]; exact h
  · rfl
theorem frTo {h₀ h : Heap} {L : Addr} {m m' : Str → Option Value} (F : Fr h₀ L h m) (e : m = m') : Fr h₀ L h m' := e ▸ F

theorem news_tail {h₀ h : Heap} {L : Addr} {p : Addr × Obj} {news : List (Addr × Obj)} (N : News h₀ L h (p :: news)) : News h₀ L h news := fun q hq => N q (.tail _ hq)
theorem allLt_all {d : Addr} {l : List (Addr × Obj)} (h : AllLt d l) : ∀ p ∈ l, p.1 < d := by
  induction l with
  | nil => intro p hp; cases hp
  | cons q l ih =>
    intro p hp
    rcases List.mem_cons.mp hp with e | hp
    · rw [e]; exact h.1
    · exact ih h.2 p hp

theorem OwnOff.cons {a : Addr} {o : Obj} {rest : List (Addr × Obj)} {adr : List Addr} (h1 : ∀ b ∈ adr, a ≠ b) (h : OwnOff rest adr) : OwnOff ((a, o) :: rest) adr := fun p hp => by
  rcases List.mem_cons.mp hp with rfl | hp
  · exact h1
  · exact h p hp
theorem OwnOff.sub {rest : List (Addr × Obj)} {adr adr' : List Addr} (h : OwnOff rest adr) (hs : ∀ b ∈ adr', b ∈ adr) : OwnOff rest adr' := fun p hp b hb => h p hp b (hs b hb)

theorem example_nm {l r0 kp X2 X : Addr} {T Lf : Array UInt8} {tm tt tl : Nat} {many : Int} {m : Str → Option Value} : Nm (fun y => if y = PySem.Str.ofString "told" then some (.ref r0) else if y = PySem.Str.ofString "many" then some (.int many tm) else if y = PySem.Str.ofString "taken" then some (.bytes T tt) else if y = PySem.Str.ofString "left" then some (.bytes Lf tl)
      else if y = PySem.Str.ofString "kept" then some (.ref kp) else if y = PySem.Str.ofString "beside" then some (.ref X2) else if y = PySem.Str.ofString "buffer" then some (.ref X) else if y = PySem.Str.ofString "script" then some (.ref l) else m y) l T Lf kp X2 X := by (exact ⟨rfl, ⟨_, rfl⟩, ⟨_, rfl⟩, rfl, rfl, rfl⟩)
end Fr23

namespace Fr23
open PySem PySem.W PySem.Calls PyProof.Rows
theorem filltb0 (w : World) : (PySem.Challenge.rw_fr0023_01, FrHd.hd.heap_39 w.params) = (PySem.Challenge.rw_fr0023_01, FrHd.hd.heap_39 w.params) := by w_top off; k_fill; rfl
local macro_rules | `(tactic| walk_at "no such place") => `(tactic| fail "none")
local macro_rules | `(tactic| boot_fact) => `(tactic| with_reducible exact PyProof.Rows.Boot.bytearray)
local macro_rules | `(tactic| k_mem) => `(tactic| with_reducible assumption)

local macro_rules | `(tactic| walk_at "binaryOp Add bytes bytes") => `(tactic| (k_here; (with_reducible show wpAny _ _ (binaryOp Operator.Add (Value.bytes _ _) (Value.bytes _ _)) _ _ _); (refine KBy.add_bytes (by omega) ?_); intro _ _))

def ifBody : Stmt → List Stmt | .If _ b _ _ => b | _ => []
def ifElse : Stmt → List Stmt | .If _ _ e _ => e | _ => []
def hdS (l : List Stmt) : Stmt := l.headD (.Pass ⟨0, 0, 0, 0⟩)
def b0B : List Stmt := ifBody (tB 2)
def e0S : Stmt := hdS (ifElse (tB 2))
def b12B : List Stmt := ifBody e0S
def e12S : Stmt := hdS (ifElse e0S)
def b3B : List Stmt := ifBody e12S
def b4B : List Stmt := ifElse e12S
theorem e0_eq : ifElse (tB 2) = [e0S] := rfl
theorem e12_eq : ifElse e0S = [e12S] := rfl
def sB (l : List Stmt) (i : Nat) : Stmt := (l[i]?).getD (.Pass ⟨0, 0, 0, 0⟩)
theorem b0_eq : b0B = [sB b0B 0, sB b0B 1, sB b0B 2] := rfl
theorem b12_eq : b12B = [sB b12B 0, sB b12B 1] := rfl
theorem b3_eq : b3B = [sB b3B 0, sB b3B 1] := rfl
theorem b4_eq : b4B = [sB b4B 0, sB b4B 1] := rfl

section
variable {w : World} {s : Shared} {mg mb : Str → Option Value} {mean : ExcName → Option Value} {base : Heap} {l : Addr} {vs : List Value} {ns : List Int} {as₁ as₂ : List Addr} {h : Heap} {L fa : Addr} {cd : Value} {tk : Nat}
  {m : Str → Option Value} {rest : List (Addr × Obj)} {X DX BB kp r0 X2 : Addr} {h1 h2 : Int} {k1 k2 t tt tl : Nat} {T Lf : Array UInt8}

set_option maxHeartbeats 8000000 in
theorem br0 (S : Stat w mg mb mean base l vs ns as₁ as₂) {oy : Obj} {n deed many xx yy : Int} {tn td tm tx ty : Nat}
    (F : Fr base L h (fun y => if y = PySem.Str.ofString "told" then some (.ref r0) else if y = PySem.Str.ofString "many" then some (.int many tm) else if y = PySem.Str.ofString "deed" then some (.int deed td)
      else if y = PySem.Str.ofString "x" then some (.int xx tx) else if y = PySem.Str.ofString "n" then some (.int n tn) else if y = PySem.Str.ofString "taken" then some (.bytes T tt) else if y = PySem.Str.ofString "left" then some (.bytes Lf tl)
      else if y = PySem.Str.ofString "kept" then some (.ref kp) else if y = PySem.Str.ofString "beside" then some (.ref X2) else if y = PySem.Str.ofString "buffer" then some (.ref X) else if y = PySem.Str.ofString "script" then some (.ref l) else m y))
    (N : News base L h ((L + 1 + 1, oy) :: (X, instObj 74 DX) :: (DX, bufD h1 k1 BB h2 k2 (T.size : Int) t) :: (BB, baObj (T ++ Lf)) :: rest)) (cy : oy.data = .cell (some (.int yy ty)))
    (o1 : X ≠ DX) (o2 : X ≠ BB) (o3 : DX ≠ BB) (o4 : X ≠ L + 1 + 1) (o5 : DX ≠ L + 1 + 1) (o6 : BB ≠ L + 1 + 1) (off : OwnOff rest [L + 1 + 1, X, DX, BB]) (hz : T.size + Lf.size ≤ 1000) {Q : Flow → Shared → Prop}
    (hq : ∀ (C : Array UInt8) m' h' tk', C.size ≤ 9 → Nm m' l T (Lf ++ C) kp X2 X → Fr base L h' m' → News base L h' ((X, instObj 74 DX) :: (DX, bufD h1 k1 BB h2 k2 (T.size : Int) t) :: (BB, baObj (T ++ (Lf ++ C))) :: (L + 1 + 1, oy) :: rest) → Q .next { s with heap := h', toks := tk' }) :
    wpC (model PySem.Challenge.rw_fr0023_01.row.prog w) (callerA.deeper (lawEnv L fa cd)) (execs b0B (lawEnv L fa cd)) Q (fun _ _ => False) { s with heap := h, toks := tk } := by
  have o1' := o1
  have o2' := o2
  have o3' := o3
  replace o1 := neN o1
  replace o2 := neN o2
  replace o3 := neN o3
  replace o4 := neN o4
  replace o5 := neN o5
  replace o6 := neN o6
  obtain ⟨KX, Tp, hl, hi, hn, hs, hlay, ra, _⟩ := S
  have K0 := below_caller base
  rw [b0_eq]
  refine wpC_execs_leaf ?_
  conv in (sB b0B 0) => whnf
  k_steps
  rename Fr _ _ _ _ => F'
  rename News _ _ _ _ => N'
  obtain ⟨C, eC, hC⟩ : ∃ C, C = byteArr (List.map (fun k' => (yy + 13 * k').fmod 256) (rangeKs 0 (1 + (xx.fdiv 5).fmod 9 - 0).toNat)) ∧ C.size ≤ 9 := ⟨_, rfl, by
    simp only [byteArr, List.size_toArray, List.length_map, rangeKs_length]
    omega⟩
  rw [← eC] at F'
  clear eC
  have N₁ : News base L _ ((X, instObj 74 DX) :: (DX, bufD h1 k1 BB h2 k2 (T.size : Int) t) :: (BB, baObj (T ++ Lf)) :: (L + 1 + 1, oy) :: rest) := news_sub N' (by intro p hp; simp only [List.mem_cons] at hp ⊢; rcases hp with h | h | h | h | h <;> simp [h])
  clear N'
  refine wpC_gen (fun tk => ?_)
  refine wpC_execs_cons ?_
  conv in (sB b0B 1) => whnf
  refine wpC_Expr (wpC_Call_Attribute ?_)
  k_steps
  refine wpC_callWith_K (K := FrHd.hd.heap_39 w.params) (by k_is) (wpC_spliced_e (wpC_of ?_))
  k_steps
  refine wpC_spliced_0 ⟨by k_in, wpC_call ?_⟩
  dsimp only [List.nil_append, List.cons_append]
  refine feed_c (c := C) K0 F' KX Tp N₁ (Around.frames_deeper K0.stack) rfl rfl (by show 301 + 1 < 1000; decide) o1' o2' o3' (OwnOff.cons (by intro b hb; simp only [List.mem_cons, List.not_mem_nil, or_false] at hb; rcases hb with rfl | rfl | rfl <;> k_ne) (OwnOff.sub off (by simp))) (.inl ⟨_, rfl⟩) (by simp; omega) ?_
  clear N₁ F'
  intro h₃ tk₃ F' N'
  refine wpC_execs_leaf ?_
  conv in (sB b0B 2) => whnf
  k_steps
  refine wpC_execs_nil ?_
  rename Fr _ _ _ _ => F'
  rename News _ _ _ _ => N'
  exact hq C _ _ _ hC (by (exact ⟨rfl, ⟨_, rfl⟩, ⟨_, rfl⟩, rfl, rfl, rfl⟩)) F' (by rw [← Array.append_assoc]; exact N')
end
end Fr23

namespace Fr23
open PySem PySem.W PySem.Calls PyProof.Rows
theorem filltb3 (w : World) : (PySem.Challenge.rw_fr0023_01, FrHd.hd.heap_39 w.params) = (PySem.Challenge.rw_fr0023_01, FrHd.hd.heap_39 w.params) := by w_top off; k_fill; rfl
local macro_rules | `(tactic| boot_fact) => `(tactic| with_reducible exact PyProof.Rows.Boot.bytearray)
local macro_rules | `(tactic| k_mem) => `(tactic| with_reducible assumption)
local macro_rules | `(tactic| walk_at "binaryOp Add bytes bytes") => `(tactic| (k_here; (with_reducible show wpAny _ _ (binaryOp Operator.Add (Value.bytes _ _) (Value.bytes _ _)) _ _ _); (refine KBy.add_bytes (by omega) ?_); intro _ _))

section
variable {w : World} {s : Shared} {mg mb : Str → Option Value} {mean : ExcName → Option Value} {base : Heap} {l : Addr} {vs : List Value} {ns : List Int} {as₁ as₂ : List Addr} {h : Heap} {L fa : Addr} {cd : Value} {tk : Nat}
  {m : Str → Option Value} {rest : List (Addr × Obj)} {X DX BB kp r0 X2 : Addr} {h1 h2 : Int} {k1 k2 t tt tl : Nat} {T Lf : Array UInt8}

set_option maxHeartbeats 8000000 in
theorem br3 (S : Stat w mg mb mean base l vs ns as₁ as₂) {n deed many xx : Int} {tn td tm tx : Nat}
    (F : Fr base L h (fun y => if y = PySem.Str.ofString "told" then some (.ref r0) else if y = PySem.Str.ofString "many" then some (.int many tm) else if y = PySem.Str.ofString "deed" then some (.int deed td)
      else if y = PySem.Str.ofString "x" then some (.int xx tx) else if y = PySem.Str.ofString "n" then some (.int n tn) else if y = PySem.Str.ofString "taken" then some (.bytes T tt) else if y = PySem.Str.ofString "left" then some (.bytes Lf tl)
      else if y = PySem.Str.ofString "kept" then some (.ref kp) else if y = PySem.Str.ofString "beside" then some (.ref X2) else if y = PySem.Str.ofString "buffer" then some (.ref X) else if y = PySem.Str.ofString "script" then some (.ref l) else m y))
    (N : News base L h ((X, instObj 74 DX) :: (DX, bufD h1 k1 BB h2 k2 (T.size : Int) t) :: (BB, baObj (T ++ Lf)) :: rest))
    (o1 : X ≠ DX) (o2 : X ≠ BB) (o3 : DX ≠ BB) (off : OwnOff rest [X, DX, BB]) (hz : T.size + Lf.size ≤ 1000) {Q : Flow → Shared → Prop}
    (hq : ∀ m' h' tk' t', Nm m' l #[] Lf kp X2 X → Fr base L h' m' → News base L h' ((X, instObj 74 DX) :: (DX, bufD h1 k1 BB h2 k2 ((#[] : Array UInt8).size : Int) t') :: (BB, baObj (#[] ++ Lf)) :: rest) → Q .next { s with heap := h', toks := tk' }) :
    wpC (model PySem.Challenge.rw_fr0023_01.row.prog w) (callerA.deeper (lawEnv L fa cd)) (execs b3B (lawEnv L fa cd)) Q (fun _ _ => False) { s with heap := h, toks := tk } := by
  have o1' := o1
  have o2' := o2
  have o3' := o3
  replace o1 := neN o1
  replace o2 := neN o2
  replace o3 := neN o3
  obtain ⟨KX, Tp, hl, hi, hn, hs, hlay, ra, _⟩ := S
  have K0 := below_caller base
  rw [b3_eq]
  refine wpC_execs_cons ?_
  conv in (sB b3B 0) => whnf
  refine wpC_Expr (wpC_Call_Attribute ?_)
  k_steps
  rename Fr _ _ _ _ => F'
  rename News _ _ _ _ => N'
  refine wpC_callWith_K0 (K := FrHd.hd.heap_39 w.params) (by k_in) (by k_is) (wpC_call ?_)
  dsimp only [List.nil_append, List.cons_append, List.append_nil]
  refine commit_c (b := T ++ Lf) (k := T.size) K0 F' KX Tp N' (Around.frames_deeper K0.stack) rfl rfl (by show 301 + 1 + 2 < 1000; decide) o1' o2' o3' off (by simp) (by simp; omega) ?_
  clear N' F'
  intro t' h₃ tk₃ F' N'
  rw [show List.drop T.size (T ++ Lf).toList = Lf.toList by simp] at N'
  refine wpC_execs_leaf ?_
  conv in (sB b3B 1) => whnf
  k_steps
  refine wpC_execs_nil ?_
  rename Fr _ _ _ _ => F'
  rename News _ _ _ _ => N'
  exact hq _ _ _ t' (by (exact ⟨rfl, ⟨_, rfl⟩, ⟨_, rfl⟩, rfl, rfl, rfl⟩)) F' (by rw [Array.empty_append]; exact N')

set_option maxHeartbeats 8000000 in
theorem br4 (S : Stat w mg mb mean base l vs ns as₁ as₂) {n deed many xx : Int} {tn td tm tx : Nat}
    (F : Fr base L h (fun y => if y = PySem.Str.ofString "told" then some (.ref r0) else if y = PySem.Str.ofString "many" then some (.int many tm) else if y = PySem.Str.ofString "deed" then some (.int deed td)
      else if y = PySem.Str.ofString "x" then some (.int xx tx) else if y = PySem.Str.ofString "n" then some (.int n tn) else if y = PySem.Str.ofString "taken" then some (.bytes T tt) else if y = PySem.Str.ofString "left" then some (.bytes Lf tl)
      else if y = PySem.Str.ofString "kept" then some (.ref kp) else if y = PySem.Str.ofString "beside" then some (.ref X2) else if y = PySem.Str.ofString "buffer" then some (.ref X) else if y = PySem.Str.ofString "script" then some (.ref l) else m y))
    (N : News base L h ((X, instObj 74 DX) :: (DX, bufD h1 k1 BB h2 k2 (T.size : Int) t) :: (BB, baObj (T ++ Lf)) :: rest))
    (o1 : X ≠ DX) (o2 : X ≠ BB) (o3 : DX ≠ BB) (off : OwnOff rest [X, DX, BB]) (hz : T.size + Lf.size ≤ 1000) {Q : Flow → Shared → Prop}
    (hq : ∀ m' h' tk' t', Nm m' l #[] (T ++ Lf) kp X2 X → Fr base L h' m' → News base L h' ((X, instObj 74 DX) :: (DX, bufD h1 k1 BB h2 k2 ((#[] : Array UInt8).size : Int) t') :: (BB, baObj (#[] ++ (T ++ Lf))) :: rest) → Q .next { s with heap := h', toks := tk' }) :
    wpC (model PySem.Challenge.rw_fr0023_01.row.prog w) (callerA.deeper (lawEnv L fa cd)) (execs b4B (lawEnv L fa cd)) Q (fun _ _ => False) { s with heap := h, toks := tk } := by
  have o1' := o1
  have o2' := o2
  have o3' := o3
  replace o1 := neN o1
  replace o2 := neN o2
  replace o3 := neN o3
  obtain ⟨KX, Tp, hl, hi, hn, hs, hlay, ra, _⟩ := S
  have K0 := below_caller base
  rw [b4_eq]
  refine wpC_execs_cons ?_
  conv in (sB b4B 0) => whnf
  refine wpC_Expr (wpC_Call_Attribute ?_)
  k_steps
  rename Fr _ _ _ _ => F'
  rename News _ _ _ _ => N'
  refine wpC_callWith_K0 (K := FrHd.hd.heap_39 w.params) (by k_in) (by k_is) (wpC_call ?_)
  dsimp only [List.nil_append, List.cons_append, List.append_nil]
  refine rollback_c (b := T ++ Lf) (k := T.size) K0 F' KX Tp N' (Around.frames_deeper K0.stack) rfl rfl (by show 301 + 1 + 2 < 1000; decide) o1' o2' o3' off ?_
  clear N' F'
  intro t' h₃ tk₃ F' N'
  refine wpC_execs_leaf ?_
  conv in (sB b4B 1) => whnf
  k_steps
  refine wpC_execs_nil ?_
  rename Fr _ _ _ _ => F'
  rename News _ _ _ _ => N'
  exact hq _ _ _ t' (by (exact ⟨rfl, ⟨_, rfl⟩, ⟨_, rfl⟩, rfl, rfl, rfl⟩)) F' (by rw [Array.empty_append]; exact news_sub N' (fun p hp => .tail _ hp))
end
end Fr23

namespace Fr23
open PySem PySem.W PySem.Calls PyProof.Rows
theorem filltb1 (w : World) : (PySem.Challenge.rw_fr0023_01, FrHd.hd.heap_39 w.params) = (PySem.Challenge.rw_fr0023_01, FrHd.hd.heap_39 w.params) := by w_top off; k_fill; rfl
local macro_rules | `(tactic| boot_fact) => `(tactic| with_reducible exact PyProof.Rows.Boot.bytearray)
local macro_rules | `(tactic| k_mem) => `(tactic| with_reducible assumption)
local macro_rules | `(tactic| walk_at "binaryOp Add bytes bytes") => `(tactic| (k_here; (with_reducible show wpAny _ _ (binaryOp Operator.Add (Value.bytes _ _) (Value.bytes _ _)) _ _ _); (refine KBy.add_bytes (by omega) ?_); intro _ _))
local macro_rules | `(tactic| walk_at "call type:bytes") => `(tactic| (k_here; (with_reducible show wpAny _ _ (call (Value.type "bytes") [Value.ref _]) _ _ _); k_dflt (refine' kba_bytes ?N ?h ?z ?_; (case N => k_asm); (case h => k_mem); (case z => omega); k_whole); intro _ _))
local macro_rules | `(tactic| walk_at "call builtin:isinstance") => `(tactic| (k_here; (with_reducible show wpAny _ _ (call (Value.builtin "isinstance") [Value.ref _, Value.type "bytearray"]) _ _ _); k_dflt (refine' kba_isinstance ?N ?h ?_; (case N => k_asm); (case h => k_mem); k_whole)))

theorem picked_to (b : Array UInt8) (n : Nat) : KBy.picked b none (some (n : Int)) = (b.toList.take n).toArray := by
  rw [KBc.picked_eq]
  simp only [Option.elim]
  rw [clipAt_nat]
  congr 1
  have hl : b.toList.length = b.size := by simp
  by_cases h : n ≤ b.size
  · rw [Nat.min_eq_left h]; simp
  · rw [Nat.min_eq_right (by omega)]; simp only [List.drop_zero, Nat.sub_zero]; rw [List.take_of_length_le (by omega), List.take_of_length_le (by omega)]
theorem picked_from (b : Array UInt8) (n : Nat) : KBy.picked b (some (n : Int)) none = (b.toList.drop n).toArray := by
  rw [KBc.picked_eq]
  simp only [Option.elim]
  rw [clipAt_nat]
  congr 1
  have hl : b.toList.length = b.size := by simp
  by_cases h : n ≤ b.size
  · rw [Nat.min_eq_left h, List.take_of_length_le (by simp)]
  · rw [Nat.min_eq_right (by omega), List.drop_of_length_le (by omega), List.drop_of_length_le (by omega)]; simp
section
variable {prog : Program} {w : World} {A : Around} {E : Value → Shared → Prop} {s : Shared} {value slice : PySem.Expr} {b D : Array UInt8} {t u : Tok} {h₀ : Heap} {L : Addr} {m : PySem.Str → Option Value} {news : List (Addr × Obj)} {Q : Value → Shared → Prop} {n : Nat}
theorem slice_take (hF : Fr h₀ L s.heap m) (hN : News h₀ L s.heap news) (e : D = (b.toList.take n).toArray) (hz : b.size ≤ 16777216)
    (h : ∀ h' t' k, Fr h₀ L h' m → News h₀ L h' news → Q (.bytes D t') { s with heap := h', toks := k })
    (hs : subscripted slice false (.bytes b t) (.ref s.heap.objs.size) = operate [.ref s.heap.objs.size, .bytes b t] (getItem (.bytes b t) (.ref s.heap.objs.size)) := by with_unfolding_all rfl)
    (ht : ∀ r, letTemporaryGo value (.bytes b t) r = pure () := by intro _; with_unfolding_all rfl) :
    wpAny (model prog w) A (subscriptTail value slice (.bytes b t) (.ref s.heap.objs.size)) Q E { s with heap := s.heap.push { cls := .type "slice", data := .fields #[.none, .int n u, .none] } } :=
  KBc.slice_K hF hN rfl .none (.int _ _) (by rw [KBw.ints_length]; exact hz) (fun h' t' k F' N' _ => by rw [picked_to, ← e]; exact h h' t' k F' N') hs ht
theorem slice_drop (hF : Fr h₀ L s.heap m) (hN : News h₀ L s.heap news) (e : D = (b.toList.drop n).toArray) (hz : b.size ≤ 16777216)
    (h : ∀ h' t' k, Fr h₀ L h' m → News h₀ L h' news → Q (.bytes D t') { s with heap := h', toks := k })
    (hs : subscripted slice false (.bytes b t) (.ref s.heap.objs.size) = operate [.ref s.heap.objs.size, .bytes b t] (getItem (.bytes b t) (.ref s.heap.objs.size)) := by with_unfolding_all rfl)
    (ht : ∀ r, letTemporaryGo value (.bytes b t) r = pure () := by intro _; with_unfolding_all rfl) :
    wpAny (model prog w) A (subscriptTail value slice (.bytes b t) (.ref s.heap.objs.size)) Q E { s with heap := s.heap.push { cls := .type "slice", data := .fields #[.int n u, .none, .none] } } :=
  KBc.slice_K hF hN rfl (.int _ _) .none (by rw [KBw.ints_length]; exact hz) (fun h' t' k F' N' _ => by rw [picked_from, ← e]; exact h h' t' k F' N') hs ht
theorem ne_same (h : Q (.bool false) s) : wpAny (model prog w) A (compareOp .NotEq (.bytes b t) (.bytes b u)) Q E s := ne_bytes (by rw [show (b.toList != b.toList) = false by simp]; exact h)
end
local macro_rules | `(tactic| walk_at "subscriptTail") => `(tactic| (k_here; (with_reducible show wpAny _ _ (subscriptTail _ (Expr.Slice none (some _) none _) (Value.bytes _ _) (Value.ref _)) _ _ _); (with_reducible rename Fr _ _ _ _ => F'); (with_reducible rename News _ _ _ _ => N'); (refine slice_take (s := ⟨_, _, _, _, _⟩) F' N' (by assumption) (by omega) ?_); (clear F' N'); intro _ _ _ _ _))
local macro_rules | `(tactic| walk_at "subscriptTail") => `(tactic| (k_here; (with_reducible show wpAny _ _ (subscriptTail _ (Expr.Slice (some _) none none _) (Value.bytes _ _) (Value.ref _)) _ _ _); (with_reducible rename Fr _ _ _ _ => F'); (with_reducible rename News _ _ _ _ => N'); (refine slice_drop (s := ⟨_, _, _, _, _⟩) F' N' (by assumption) (by omega) ?_); (clear F' N'); intro _ _ _ _ _))
local macro_rules | `(tactic| walk_at "compareOp NotEq bytes bytes") => `(tactic| (k_here; (with_reducible refine ne_same ?_)))

def b12E : List Stmt := ifElse (sB b12B 1)
theorem b12E_eq : b12E = [sB b12E 0, sB b12E 1, sB b12E 2] := rfl

section
variable {w : World} {s : Shared} {mg mb : Str → Option Value} {mean : ExcName → Option Value} {base : Heap} {l : Addr} {vs : List Value} {ns : List Int} {as₁ as₂ : List Addr} {h : Heap} {L fa : Addr} {cd : Value} {tk : Nat}
  {m : Str → Option Value} {rest : List (Addr × Obj)} {X kp r X2 : Addr} {T Lf : Array UInt8} {ka : Array Value} {kn : Nat}

set_option maxHeartbeats 8000000 in
theorem br12e (S : Stat w mg mb mean base l vs ns as₁ as₂) {mn tm : Nat} (F : Fr base L h m) (H : Nm m l T Lf kp X2 X) (e1 : m (PySem.Str.ofString "told") = some (.ref r)) (e2 : m (PySem.Str.ofString "many") = some (.int mn tm))
    (N : News base L h ((r, baObj (Lf.toList.take mn).toArray) :: (kp, listOf ka kn) :: rest)) (o1 : r ≠ kp) (off : OwnOff rest [r, kp]) (hz : T.size + Lf.size ≤ 1000) (hk : ka.size ≤ 100) (hm : mn ≤ 20) {Q : Flow → Shared → Prop}
    (hq : ∀ m' h' tk' ti tw, Nm m' l (T ++ (Lf.toList.take mn).toArray) (Lf.toList.drop mn).toArray kp X2 X → Fr base L h' m' → News base L h' ((ti, { cls := .type "tuple", data := .seq #[.ref r, .bytes (Lf.toList.take mn).toArray tw] }) :: (r, baObj (Lf.toList.take mn).toArray) :: (kp, listOf (ka.push (.ref ti)) (kn + 1)) :: rest) →
      r < ti → kp < ti → (∀ p ∈ rest, p.1 < ti) → Q .next { s with heap := h', toks := tk' }) :
    wpC (model PySem.Challenge.rw_fr0023_01.row.prog w) (callerA.deeper (lawEnv L fa cd)) (execs b12E (lawEnv L fa cd)) Q (fun _ _ => False) { s with heap := h, toks := tk } := by
  obtain ⟨tt, tl, e⟩ := H.reify
  replace F := frTo F (put2 e1 (put2 e2 e))
  try dsimp only at F
  clear e
  replace o1 := neN o1
  obtain ⟨KX, Tp, hl, hi, hn, hs, hlay, ra, _⟩ := S
  have K0 := below_caller base
  rw [b12E_eq]
  have hD : (Lf.toList.take mn).toArray.size ≤ 1000 := by simp; omega
  obtain ⟨D, eD⟩ : ∃ D, D = (Lf.toList.take mn).toArray := ⟨_, rfl⟩
  rw [← eD] at N hD
  obtain ⟨Z, eZ⟩ : ∃ Z, Z = (Lf.toList.drop mn).toArray := ⟨_, rfl⟩
  refine wpC_execs_leaf ?_
  conv in (sB b12E 0) => whnf
  k_steps
  refine wpC_execs_leaf ?_
  conv in (sB b12E 1) => whnf
  k_steps
  rename _ ∧ _ ∧ AllLt _ rest => ll
  rename Fr _ _ _ _ => F'
  rename News _ _ _ _ => N'
  obtain ⟨l1, l2, l3⟩ := ll
  refine wpC_execs_leaf ?_
  conv in (sB b12E 2) => whnf
  k_steps
  refine wpC_execs_nil ?_
  rename Fr _ _ _ _ => F'
  rename News _ _ _ _ => N'
  subst eD eZ
  exact hq _ _ _ _ _ (by (exact ⟨rfl, ⟨_, rfl⟩, ⟨_, rfl⟩, rfl, rfl, rfl⟩)) F' (news_tail N') l1 l2 (allLt_all l3)

set_option maxHeartbeats 8000000 in
theorem br12t (S : Stat w mg mb mean base l vs ns as₁ as₂) {dd : Int} {mn td tm : Nat} (F : Fr base L h m) (H : Nm m l T Lf kp X2 X) (e1 : m (PySem.Str.ofString "told") = some (.ref r)) (e2 : m (PySem.Str.ofString "many") = some (.int mn tm)) (e3 : m (PySem.Str.ofString "deed") = some (.int dd td))
    (N : News base L h ((r, baObj (Lf.toList.take mn).toArray) :: (kp, listOf ka kn) :: rest)) (o1 : r ≠ kp) (off : OwnOff rest [r, kp]) (hz : T.size + Lf.size ≤ 1000) (hd : ¬ (dd = 2 ∧ Lf.size < mn)) (hk : ka.size ≤ 100) (hm : mn ≤ 20) {Q : Flow → Shared → Prop}
    (hq : ∀ m' h' tk' ti tw, Nm m' l (T ++ (Lf.toList.take mn).toArray) (Lf.toList.drop mn).toArray kp X2 X → Fr base L h' m' → News base L h' ((ti, { cls := .type "tuple", data := .seq #[.ref r, .bytes (Lf.toList.take mn).toArray tw] }) :: (r, baObj (Lf.toList.take mn).toArray) :: (kp, listOf (ka.push (.ref ti)) (kn + 1)) :: rest) →
      r < ti → kp < ti → (∀ p ∈ rest, p.1 < ti) → Q .next { s with heap := h', toks := tk' }) :
    wpC (model PySem.Challenge.rw_fr0023_01.row.prog w) (callerA.deeper (lawEnv L fa cd)) (execs [sB b12B 1] (lawEnv L fa cd)) Q (fun _ _ => False) { s with heap := h, toks := tk } := by
  have S' := S
  have N₀ := N
  have o1' := o1
  obtain ⟨tt, tl, e⟩ := H.reify
  have F₀ := F
  replace F := frTo F (put2 e1 (put2 e2 (put2 e3 e)))
  try dsimp only at F
  replace o1 := neN o1
  obtain ⟨KX, Tp, hl, hi, hn, hs, hlay, ra, _⟩ := S
  have K0 := below_caller base
  refine wpC_execs_cons ?_
  conv in (sB b12B 1) => whnf
  refine wpC_If ?_
  k_steps
  all_goals
    rename Fr _ _ _ _ => F'
    refine br12e S' F' ?_ rfl rfl N₀ o1' off hz hk hm fun m' h' tk' ti tw q1 q2 q3 q4 q5 q6 => wpC_execs_nil (hq m' h' tk' ti tw q1 q2 q3 q4 q5 q6)
    (exact ⟨rfl, ⟨_, rfl⟩, ⟨_, rfl⟩, rfl, rfl, rfl⟩)
end
end Fr23

namespace Fr23
open PySem PySem.W PySem.Calls PyProof.Rows
theorem filltb2 (w : World) : (PySem.Challenge.rw_fr0023_01, FrHd.hd.heap_39 w.params) = (PySem.Challenge.rw_fr0023_01, FrHd.hd.heap_39 w.params) := by w_top off; k_fill; rfl
local macro_rules | `(tactic| boot_fact) => `(tactic| with_reducible exact PyProof.Rows.Boot.bytearray)
local macro_rules | `(tactic| k_mem) => `(tactic| with_reducible assumption)

section
variable {w : World} {s : Shared} {mg mb : Str → Option Value} {mean : ExcName → Option Value} {base : Heap} {l : Addr} {vs : List Value} {ns : List Int} {as₁ as₂ : List Addr} {h : Heap} {L fa : Addr} {cd : Value} {tk : Nat}
  {m : Str → Option Value} {rest : List (Addr × Obj)} {X DX BB kp X2 : Addr} {h1 h2 : Int} {k1 k2 t : Nat} {T Lf : Array UInt8} {ka : Array Value} {kn : Nat}

theorem drop_left (T Lf : Array UInt8) : List.drop T.size (T ++ Lf).toList = Lf.toList := by simp
theorem join_back (T Lf : Array UInt8) (n : Nat) : T ++ (Lf.toList.take n).toArray ++ (Lf.toList.drop n).toArray = T ++ Lf := by
  rw [Array.append_assoc]; congr 1; simp
theorem used_now (T Lf : Array UInt8) (n : Nat) : (T.size + min n ((T ++ Lf).size - T.size) : Nat) = (T ++ (Lf.toList.take n).toArray).size := by simp

set_option maxHeartbeats 8000000 in
theorem br12 (S : Stat w mg mb mean base l vs ns as₁ as₂) {dd : Int} {mn td tm : Nat} (F : Fr base L h m) (H : Nm m l T Lf kp X2 X) (e2 : m (PySem.Str.ofString "many") = some (.int mn tm)) (e3 : m (PySem.Str.ofString "deed") = some (.int dd td))
    (N : News base L h ((X, instObj 74 DX) :: (DX, bufD h1 k1 BB h2 k2 (T.size : Int) t) :: (BB, baObj (T ++ Lf)) :: (kp, listOf ka kn) :: rest)) (o1 : X ≠ DX) (o2 : X ≠ BB) (o3 : DX ≠ BB) (o4 : X ≠ kp) (o5 : DX ≠ kp) (o6 : BB ≠ kp) (off : OwnOff rest [X, DX, BB, kp])
    (hz : T.size + Lf.size ≤ 1000) (hd : dd = 1 ∨ dd = 2) (hk : ka.size ≤ 100) (hm : mn ≤ 20) {Q : Flow → Shared → Prop}
    (hqa : ∀ m' h' tk' t', Nm m' l T Lf kp X2 X → Fr base L h' m' → News base L h' ((X, instObj 74 DX) :: (DX, bufD h1 k1 BB h2 k2 (T.size : Int) t') :: (BB, baObj (T ++ Lf)) :: (kp, listOf ka kn) :: rest) → Q .next { s with heap := h', toks := tk' })
    (hqb : ∀ m' h' tk' t' (D Z : Array UInt8) r ti tw, T ++ D ++ Z = T ++ Lf → Nm m' l (T ++ D) Z kp X2 X → Fr base L h' m' →
      News base L h' ((ti, { cls := .type "tuple", data := .seq #[.ref r, .bytes D tw] }) :: (r, baObj D) :: (X, instObj 74 DX) :: (DX, bufD h1 k1 BB h2 k2 ((T ++ D).size : Int) t') :: (BB, baObj (T ++ D ++ Z)) :: (kp, listOf (ka.push (.ref ti)) (kn + 1)) :: rest) →
      (X < r ∧ DX < r ∧ BB < r ∧ kp < r ∧ ∀ p ∈ rest, p.1 < r) → r < ti → Q .next { s with heap := h', toks := tk' }) :
    wpC (model PySem.Challenge.rw_fr0023_01.row.prog w) (callerA.deeper (lawEnv L fa cd)) (execs b12B (lawEnv L fa cd)) Q (fun _ _ => False) { s with heap := h, toks := tk } := by
  have S' := S
  have N₀ := N
  obtain ⟨tt, tl, e⟩ := H.reify
  replace F := frTo F (put2 e2 (put2 e3 e))
  try dsimp only at F
  clear e e2 e3 H
  have o1' := o1
  have o2' := o2
  have o3' := o3
  replace o1 := neN o1
  replace o2 := neN o2
  replace o3 := neN o3
  obtain ⟨KX, Tp, hl, hi, hn, hs, hlay, ra, _⟩ := S
  have K0 := below_caller base
  have offk : OwnOff ((kp, listOf ka kn) :: rest) [X, DX, BB] := OwnOff.cons (by intro b hb; simp only [List.mem_cons, List.not_mem_nil, or_false] at hb; rcases hb with rfl | rfl | rfl <;> exact Ne.symm (by assumption)) (OwnOff.sub off (by simp))
  -- what is told is a bytearray: both ways lead here
  have fin : ∀ (r t' : Nat) (h' : Heap) (tk' : Nat) (m' : Str → Option Value), ¬ (dd = 2 ∧ Lf.size < mn) → Fr base L h' m' → Nm m' l T Lf kp X2 X → m' (PySem.Str.ofString "told") = some (.ref r) → m' (PySem.Str.ofString "many") = some (.int mn tm) → m' (PySem.Str.ofString "deed") = some (.int dd td) →
      News base L h' ((r, baObj ((List.drop T.size (T ++ Lf).toList).take mn).toArray) :: (X, instObj 74 DX) :: (DX, bufD h1 k1 BB h2 k2 ((T.size + min mn ((T ++ Lf).size - T.size) : Nat) : Int) t') :: (BB, baObj (T ++ Lf)) :: (kp, listOf ka kn) :: rest) →
      (X < r ∧ DX < r ∧ BB < r ∧ ∀ p ∈ (kp, listOf ka kn) :: rest, p.1 < r) →
      wpC (model PySem.Challenge.rw_fr0023_01.row.prog w) (callerA.deeper (lawEnv L fa cd)) (execs [sB b12B 1] (lawEnv L fa cd)) Q (fun _ _ => False) { s with heap := h', toks := tk' } := by
    intro r t' h' tk' m' hno F' H' e1 e2 e3 N' ⟨l1, l2, l3, l4⟩
    rw [drop_left, used_now] at N'
    have l5 : kp < r := l4 _ (.head _)
    have l6 : ∀ p ∈ rest, p.1 < r := fun p hp => l4 p (.tail _ hp)
    refine br12t (ka := ka) (kn := kn) (rest := (X, instObj 74 DX) :: (DX, bufD h1 k1 BB h2 k2 ((T ++ (Lf.toList.take mn).toArray).size : Int) t') :: (BB, baObj (T ++ Lf)) :: rest) S' F' H' e1 e2 e3
      (news_sub N' (by intro p hp; simp only [List.mem_cons] at hp ⊢; rcases hp with h | h | h | h | h | h <;> simp [h])) (Nat.ne_of_gt l5) ?_ hz hno hk hm fun m₂ h₂ tk₂ ti tw q1 q2 q3 q4 q5 q6 => ?_
    · have sym : ∀ {a : Addr}, a ≠ kp → a < r → ∀ b ∈ [r, kp], a ≠ b := fun h1 h2 b hb => by
        simp only [List.mem_cons, List.not_mem_nil, or_false] at hb
        rcases hb with rfl | rfl
        · exact Nat.ne_of_lt h2
        · exact h1
      exact OwnOff.cons (sym o4 l1) (OwnOff.cons (sym o5 l2) (OwnOff.cons (sym o6 l3) fun p hp => sym (off p hp kp (by simp)) (l6 p hp)))
    · refine hqb m₂ h₂ tk₂ t' _ _ r ti tw (join_back T Lf mn) q1 q2 ?_ ⟨l1, l2, l3, l5, l6⟩ q4
      rw [join_back]
      exact news_sub q3 (by intro p hp; simp only [List.mem_cons] at hp ⊢; rcases hp with h | h | h | h | h | h | h <;> simp [h])
  rw [b12_eq]
  refine wpC_execs_cons ?_
  conv in (sB b12B 0) => whnf
  refine wpC_Assign_Name (wpC_IfExp ?_)
  k_steps
  · rename dd = 1 => hd1
    refine wpC_Call_Attribute ?_
    k_steps
    refine wpC_callWith_K (K := FrHd.hd.heap_39 w.params) (by k_is) (wpC_spliced_e (wpC_of ?_))
    k_steps
    refine wpC_spliced_0 ⟨by k_in, wpC_call ?_⟩
    dsimp only [List.nil_append, List.cons_append]
    rename Fr _ _ _ _ => F'
    rename News _ _ _ _ => N'
    refine cam_c (b := T ++ Lf) (k := T.size) K0 F' KX Tp N' (Around.frames_deeper K0.stack) rfl rfl (by show 301 + 1 + 2 < 1000; decide) o1' o2' o3' offk (by simp) (by simp; omega) (by omega) ?_
    clear N' F'
    intro r t' h₃ tk₃ F₃ N₃ lr
    show wpAny _ _ _ _ _ _
    k_steps
    rename Fr _ _ _ _ => F'
    rename News _ _ _ _ => N'
    exact fin r t' _ _ _ (by omega) F' (by (exact ⟨rfl, ⟨_, rfl⟩, ⟨_, rfl⟩, rfl, rfl, rfl⟩)) rfl rfl rfl N' lr
  · rename ¬ (dd = 1) => hd1
    obtain rfl : dd = 2 := by omega
    refine wpC_Call_Attribute ?_
    k_steps
    refine wpC_callWith_K (K := FrHd.hd.heap_39 w.params) (by k_is) (wpC_spliced_e (wpC_of ?_))
    k_steps
    refine wpC_spliced_0 ⟨by k_in, wpC_call ?_⟩
    dsimp only [List.nil_append, List.cons_append]
    rename Fr _ _ _ _ => F'
    rename News _ _ _ _ => N'
    have hsz : (T ++ Lf).size = T.size + Lf.size := by simp
    refine cex_c (b := T ++ Lf) (k := T.size) K0 F' KX Tp N' (Around.frames_deeper K0.stack) rfl rfl (by show 301 + 1 + 3 < 1000; decide) o1' o2' o3' offk (by simp) (by simp; omega) (by omega) ?_ ?_
    · clear N' F'
      intro hlt h₃ tk₃ F₃ N₃
      show wpAny _ _ _ _ _ _
      k_steps
      refine wpC_execs_leaf ?_
      conv in (sB b12B 1) => whnf
      k_steps
      refine wpC_execs_nil ?_
      rename Fr _ _ _ _ => F'
      rename News _ _ _ _ => N'
      exact hqa _ _ _ t (by (exact ⟨rfl, ⟨_, rfl⟩, ⟨_, rfl⟩, rfl, rfl, rfl⟩)) F' N'
    · clear N' F'
      intro hlt r t' h₃ tk₃ F₃ N₃ lr
      show wpAny _ _ _ _ _ _
      k_steps
      rename Fr _ _ _ _ => F'
      rename News _ _ _ _ => N'
      exact fin r t' _ _ _ (by omega) F' (by (exact ⟨rfl, ⟨_, rfl⟩, ⟨_, rfl⟩, rfl, rfl, rfl⟩)) rfl rfl rfl N' lr
end
end Fr23

namespace Fr23
open PySem PySem.W PySem.Calls PyProof.Rows PyProof.Rows.LCg

section
variable {prog : Program} {w : World} {A : Around} {E : Value → Shared → Prop} {s : Shared} {env : Env} {h₀ : Heap} {L : Addr} {m : Str → Option Value} {news : List (Addr × Obj)}

/-- one pair of the list, asked: the test says no, and nothing turns -/
def SaysNo (prog : Program) (w : World) (A : Around) (h₀ : Heap) (L : Addr) (m : Str → Option Value) (env : Env) (c : PySem.Expr) (a b : Str) (scope : Scope) (cl : List (Str × Addr)) (s : Shared) (news : List (Addr × Obj)) (v : Value) : Prop :=
  ∃ (t : Addr) (ot : Obj) (v₁ v₂ : Value) (nt : Nat), v = .ref t ∧ (t, ot) ∈ news ∧ ot.cls = .type "tuple" ∧ ot.data = .seq #[v₁, v₂] nt ∧
    ∀ I oI C oC D m₂ h tk (E' : Value → Shared → Prop), NsObj oC m₂ → m₂ a = some v₁ → m₂ b = some v₂ → Fr h₀ L h m → News h₀ L h ((I, oI) :: (C, oC) :: (D, lst []) :: news) → Off3 I C D news → ((@Ne Nat I C) ∧ (@Ne Nat I D) ∧ (@Ne Nat C D)) →
      wpAny (model prog w) A (isTrue c (compEnvC scope cl C env) (eval c (compEnvC scope cl C env))) (fun ok s' => ok = false ∧ ∃ h' tk', s' = { s with heap := h', toks := tk' } ∧ Fr h₀ L h' m ∧ News h₀ L h' ((I, oI) :: (C, oC) :: (D, lst []) :: news)) E' { s with heap := h, toks := tk }

def NoneSrc (prog : Program) (w : World) (A : Around) (h₀ : Heap) (L : Addr) (m : Str → Option Value) (env : Env) (c : PySem.Expr) (a b : Str) (scope : Scope) (cl : List (Str × Addr)) (Q : Value → Shared → Prop) (x : Value) (s : Shared) : Prop :=
  ∃ news kp ka kn, x = .ref kp ∧ A.handled = none ∧ Fr h₀ L s.heap m ∧ News h₀ L s.heap news ∧ (kp, W.listOf ka kn) ∈ news ∧ (∀ v ∈ ka.toList, SaysNo prog w A h₀ L m env c a b scope cl s news v) ∧
    ∀ D h tk, Fr h₀ L h m → News h₀ L h ((D, lst []) :: news) → Off1 D news → Q (.ref D) { s with heap := h, toks := tk }

theorem comp_none {elt iter c : PySem.Expr} {a b : Str} {pa pb tp : Pos} {kk : Nat} {scope : Scope} {cl : List (Str × Addr)} {pos : Pos} {Q : Value → Shared → Prop} (F₀ : Fr h₀ L s.heap m)
    (hclos : closureFor scope env = pure cl) (hcell : ∀ y ∈ scope.names, y.2 ≠ .cell) (hkind : scope.kind = .function)
    (hnames : ∀ y ∈ scope.names, y.2 = .local → scope.names.lookup y.1 = some .local) (ha : scope.names.lookup a = some .local) (hb : scope.names.lookup b = some .local) (hab : a ≠ b)
    (h : wpAny (model prog w) A (eval iter env) (NoneSrc prog w A h₀ L m env c a b scope cl Q) E s)
    (hs : ∀ x, foldedSetIterable iter env x = pure x := by intro _; rfl) :
    wpAny (model prog w) A (eval (.ListComp elt [⟨.Tuple [.Name a pa, .Name b pb] kk tp, iter, [c], 0⟩] scope pos) env) Q E s := by
  rw [eval_ListComp]
  refine wpAny_comprehension_free (use := none) rfl hs hclos hkind hnames (wpAny_mono h (fun xv s₁ h₁ => ?_) fun _ _ e => e)
  clear h
  obtain ⟨news, kp, ka, kn, rfl, hh, F, N, hm, turns, fin⟩ := h₁
  have hl : s₁.heap.IsList kp ka := News.isList N hm
  refine wpAny_pyIter_list hl ?_
  obtain ⟨F₁, N₁, lI, LI⟩ := news_new (h' := s₁.heap.push { cls := .type "list_iterator", data := .fields #[.ref kp, .int 0 0] }) F N (Heap.get?_push_size _ rfl) (fun b o e => Heap.get?_push_of_some _ e)
  generalize hH1 : s₁.heap.push { cls := .type "list_iterator", data := .fields #[.ref kp, .int 0 0] } = H1 at F₁ N₁
  generalize hI : s₁.heap.objs.size = I at N₁ lI LI
  refine wpAny_newObj_type ?_
  obtain ⟨F₂, N₂, lD, LD⟩ := news_new (h' := H1.push { cls := .type "list", dict := none, data := .seq ([] : List Value).toArray }) F₁ N₁ (Heap.get?_push_size _ rfl) (fun b o e => Heap.get?_push_of_some _ e)
  generalize hD : H1.objs.size = D at N₂ lD LD
  refine wpAny_newFunctionEnv hcell (by intro y hy; simp at hy) (fun h₁ hns₁ hsb₁ => ?_) hkind
  dsimp only at hns₁ hsb₁ ⊢
  generalize hH2 : H1.push { cls := .type "list", dict := none, data := .seq ([] : List Value).toArray } = H2 at F₂ N₂ hns₁ hsb₁ ⊢
  obtain ⟨oC, heC, hoC⟩ := ns_obj hns₁
  obtain ⟨F₃, N₃, lC, LC⟩ := news_new (h' := h₁) F₂ N₂ heC fun b o e => hsb₁.extBut b o (Nat.ne_of_lt (Heap.lt_size e)) (Heap.get?_push_of_some _ e)
  have hC₀ := (N₃ _ (.head _)).2
  generalize hC : H2.objs.size = C at N₃ lC LC hns₁ hC₀ ⊢
  have hDC : D < C := lC _ (.head _)
  have hIC : I < C := lC _ (.tail _ (.head _))
  have hID : I < D := lD _ (.head _)
  have off₀ : Off3 I C D news := Off3.of fun p hp => ⟨Nat.ne_of_lt (lI p hp), Nat.ne_of_lt (lC p (.tail _ (.tail _ hp))), Nat.ne_of_lt (lD p (.tail _ hp))⟩
  have hkI : kp ≠ I := Nat.ne_of_lt (lI _ hm)
  have W := Walks.list (prog := prog) (w := w) hh I kp hkI ka
  have hI₀ := (N₃ _ (.tail _ (.tail _ (.head _)))).2.2
  have ne3 : (@Ne Nat I C) ∧ (@Ne Nat I D) ∧ (@Ne Nat C D) := ⟨Nat.ne_of_lt hIC, Nat.ne_of_lt hID, Nat.ne_of_gt hDC⟩
  have loop : ∀ s₃ : Shared, s₃ = { s₁ with heap := h₁, toks := s₁.toks + ([] : List (Str × Value)).length } →
      codeAny (model prog w) A (.compLoop (.ListComp elt [⟨.Tuple [.Name a pa, .Name b pb] kk tp, iter, [c], 0⟩] scope pos) 0 (.ref I) (.ref D) (compEnvC scope cl C env))
        (compPost (model prog w) A E none Q (.ref D) C) s₃ := by
    rintro s₃ rfl
    refine kct_loop
      (fun k s' => ∃ h' tk i m', s' = { s₁ with heap := h', toks := tk } ∧ i ≤ ka.size ∧ k = ka.size + 1 - i ∧ h'.IsListIter I kp i ∧ Fr h₀ L h' m ∧ h'.Ns C m' ∧ News h₀ L h' ((D, lst []) :: news)) ?_ (ka.size + 1)
      ⟨h₁, _, 0, _, rfl, Nat.zero_le _, rfl, ⟨_, (N₃ _ (.tail _ (.tail _ (.head _)))).1, rfl, rfl⟩, F₃, hns₁, fun p hp => ?_⟩
    · rintro k s' ⟨h', tk, i, m', rfl, hi, rfl, hit, F', hn', N'⟩
      have hl' : h'.IsList kp ka := News.isList N' (.tail _ hm)
      by_cases hlt : i < ka.size
      · refine W.item i _ _ _ hlt ⟨hit, hl'⟩ fun v h₂ tk₂ hPv hst₂ hk₂ => ?_
        have hv : v ∈ ka.toList := by
          obtain ⟨q, rfl⟩ := Array.getElem?_eq_some_iff.mp hPv
          exact Array.getElem_mem_toList q
        obtain ⟨t, ot, v₁, v₂, nt, rfl, hmt, hct, hdt, ask⟩ := turns v hv
        have N₂' : News h₀ L h₂ ((D, lst []) :: news) := news_but N' hk₂ fun p hp => by
          rcases List.mem_cons.mp hp with rfl | hp
          · exact Nat.ne_of_gt hID
          · exact Nat.ne_of_lt (lI p hp)
        have F₂' := fr_but F' hk₂ (Nat.ne_of_lt LI) hI₀
        have ht : IsTup h₂ t #[v₁, v₂] := ⟨ot, (N₂' _ (.tail _ hmt)).1, hct, nt, hdt⟩
        refine wpAny_letOwnedTupleGo_listiter hst₂.1 ?_
        refine assign_Tuple_tuple hh ht rfl rfl fun h₅ he => ?_
        have he' : ∀ b o, h₂.get? b = some o → h₅.get? b = some o := fun b o e => he b o (Nat.ne_of_lt (Heap.lt_size e)) e
        have hnC : h₅.Ns C m' := (hn'.at' fun o e => hk₂ _ o (by simpa using Nat.ne_of_gt hIC) e).at' fun o e => he' _ o e
        refine assignInOrder_cons (wpAny_assign_Name (wpAny_storeName_local (lookup_relabel_local ha) hnC (fun h₆ hn₆ hs₆ => ?_) (by simp [compEnvC, relabel, hkind])))
        refine assignInOrder_cons (wpAny_assign_Name (wpAny_storeName_local (lookup_relabel_local hb) hn₆ (fun h₇ hn₇ hs₇ => ?_) (by simp [compEnvC, relabel, hkind])))
        refine assignInOrder_nil ?_
        have old : ∀ b o, b ≠ C → h₂.get? b = some o → h₇.get? b = some o := fun b o hb e => hs₇.extBut b o hb (hs₆.extBut b o hb (he' b o e))
        obtain ⟨oI, heI, hcI, hdI⟩ := hst₂.1
        obtain ⟨oC, heC, hoC⟩ := ns_obj hn₇
        have F₇ : Fr h₀ L h₇ m := ((F₂'.keeps he').change hs₆ (Nat.ne_of_gt LC) hC₀.2).change hs₇ (Nat.ne_of_gt LC) hC₀.2
        have N₇ : News h₀ L h₇ ((I, oI) :: (C, oC) :: (D, lst []) :: news) := fun p hp => by
          rcases List.mem_cons.mp hp with rfl | hp
          · exact ⟨old _ _ (Nat.ne_of_lt hIC) heI, Nat.ne_of_gt LI, hI₀⟩
          · rcases List.mem_cons.mp hp with rfl | hp
            · exact ⟨heC, hC₀⟩
            · refine ⟨old _ _ ?_ (N₂' p hp).1, (N₂' p hp).2⟩
              rcases List.mem_cons.mp hp with rfl | hp
              · exact Nat.ne_of_lt hDC
              · exact Nat.ne_of_lt (lC p (.tail _ (.tail _ hp)))
        refine wpAny_mono (ask I oI C oC D _ h₇ _ _ hoC (by simp [hab]) (by simp) F₇ N₇ off₀ ne3) (fun ok s₄ z => ?_) fun _ _ e => e
        obtain ⟨rfl, h₈, tk₈, rfl, F₈, N₈⟩ := z
        rw [if_neg (by decide)]
        exact ⟨ka.size + 1 - (i + 1), by omega, h₈, tk₈, i + 1, _, rfl, hlt, rfl, ⟨oI, (N₈ _ (.head _)).1, hcI, hdI⟩, F₈, hoC.ns (N₈ _ (.tail _ (.head _))).1, fun p hp => N₈ p (.tail _ (.tail _ hp))⟩
      · obtain rfl : i = ka.size := Nat.le_antisymm hi (Nat.not_lt.mp hlt)
        refine W.done _ _ _ ⟨hit, hl'⟩ fun h₂ tk₂ hk₂ => ?_
        have N₂' : News h₀ L h₂ ((D, lst []) :: news) := news_but N' hk₂ fun p hp => by
          rcases List.mem_cons.mp hp with rfl | hp
          · exact Nat.ne_of_gt hID
          · exact Nat.ne_of_lt (lI p hp)
        have F₂' := fr_but F' hk₂ (Nat.ne_of_lt LI) hI₀
        refine ⟨m', hn'.at' fun o e => hk₂ _ o (by simpa using Nat.ne_of_gt hIC) e, fun h'' hs'' => fin D h'' _ (F₂'.change hs'' (Nat.ne_of_gt LC) hC₀.2) (fun p hp => ?_) off₀.one⟩
        refine ⟨hs''.extBut _ _ ?_ (N₂' p hp).1, (N₂' p hp).2⟩
        rcases List.mem_cons.mp hp with rfl | hp
        · exact Nat.ne_of_lt hDC
        · exact Nat.ne_of_lt (lC p (.tail _ (.tail _ hp)))
    · rcases List.mem_cons.mp hp with rfl | hp
      · exact N₃ _ (.tail _ (.head _))
      · exact N₃ _ (.tail _ (.tail _ (.tail _ hp)))
  exact codeAny_compStart_list (loop _ rfl) (W.self 0 _ _ _ ⟨⟨_, (N₃ _ (.tail _ (.tail _ (.head _)))).1, rfl, rfl⟩, News.isList N₃ (.tail _ (.tail _ (.tail _ hm)))⟩ (loop _ rfl))
end
end Fr23

namespace Fr23
open PySem PySem.W PySem.Calls PyProof.Rows PyProof.Rows.LCg
theorem fillsn (w : World) : (PySem.Challenge.rw_fr0023_01, FrHd.hd.heap_39 w.params) = (PySem.Challenge.rw_fr0023_01, FrHd.hd.heap_39 w.params) := by w_top off; k_fill; rfl
local macro_rules | `(tactic| boot_fact) => `(tactic| with_reducible exact PyProof.Rows.Boot.bytearray)
local macro_rules | `(tactic| walk_at "call type:bytes") => `(tactic| (k_here; (with_reducible show wpAny _ _ (call (Value.type "bytes") [Value.ref _]) _ _ _); k_dflt (refine' kba_bytes ?N ?h ?z ?_; (case N => k_asm); (case h => with_reducible assumption); (case z => with_reducible assumption); k_whole); intro _ _))
local macro_rules | `(tactic| walk_at "compareOp NotEq bytes bytes") => `(tactic| (k_here; (with_reducible refine ne_same ?_)))

/-- what is kept: pairs of a bytearray and the octets that it bears -/
def KeptOk (own : List (Addr × Obj)) (ka : Array Value) : Prop := ∀ v ∈ ka.toList, ∃ (ti bi : Addr) (wv : Array UInt8) (tw : Nat), v = .ref ti ∧ (ti, ({ cls := .type "tuple", data := .seq #[.ref bi, .bytes wv tw] } : Obj)) ∈ own ∧ (bi, baObj wv) ∈ own ∧ wv.size ≤ 16777216

section
variable {w : World} {s : Shared} {mg mb : Str → Option Value} {mean : ExcName → Option Value} {base : Heap} {l : Addr} {vs : List Value} {ns : List Int} {as₁ as₂ : List Addr} {L fa : Addr} {cd : Value}
  {m : Str → Option Value} {news : List (Addr × Obj)} {ka : Array Value}

abbrev cTest : PySem.Expr := ((Expr.Name (Str.ofString "bytes") { line := 66, col := 80, endLine := 66, endCol := 85 }).Call [Expr.Name (Str.ofString "told") { line := 66, col := 86, endLine := 66, endCol := 90 }]
  [] { line := 66, col := 80, endLine := 66, endCol := 91 }).Compare [CmpOp.NotEq] [Expr.Name (Str.ofString "due") { line := 66, col := 95, endLine := 66, endCol := 98 }] { line := 66, col := 80, endLine := 66, endCol := 98 }
abbrev cScope : Scope := { kind := ScopeKind.function, names := [(Str.ofString ".0", NameKind.local), (Str.ofString "told", NameKind.local), (Str.ofString "due", NameKind.local), (Str.ofString "bytes", NameKind.globalImplicit)], isGenerator := false, isCoroutine := false }

set_option maxHeartbeats 8000000 in
theorem says_no (S : Stat w mg mb mean base l vs ns as₁ as₂) (K : KeptOk news ka) : ∀ v ∈ ka.toList, SaysNo PySem.Challenge.rw_fr0023_01.row.prog w (callerA.deeper (lawEnv L fa cd)) base L m (lawEnv L fa cd) cTest (Str.ofString "told") (Str.ofString "due") cScope [] s news v := by
  intro v hv
  obtain ⟨ti, bi, wv, tw, rfl, hti, hbi, hwz⟩ := K v hv
  refine ⟨ti, _, _, _, _, rfl, hti, rfl, rfl, ?_⟩
  intro I' oI' C' oC' D' m' h' tk' E' hC' hx' hy' F' N' off' ne'
  obtain ⟨KX, Tp, hl, hi, hn, hs, hlay, ra, _⟩ := S
  have K0 := below_caller base
  have hmem : (bi, baObj wv) ∈ (I', oI') :: (C', oC') :: (D', lst []) :: news := .tail _ (.tail _ (.tail _ hbi))
  clear hti hbi hv K
  dsimp only [cTest, cScope]
  k_steps
  all_goals assumption
end
end Fr23

namespace Fr23
open PySem PySem.W PySem.Calls PyProof.Rows PyProof.Rows.LCg
theorem fillte (w : World) : (PySem.Challenge.rw_fr0023_01, FrHd.hd.heap_39 w.params) = (PySem.Challenge.rw_fr0023_01, FrHd.hd.heap_39 w.params) := by w_top off; k_fill; rfl
local macro_rules | `(tactic| walk_at "no such place") => `(tactic| fail "none")
local macro_rules | `(tactic| boot_fact) => `(tactic| with_reducible exact PyProof.Rows.Boot.bytearray)
local macro_rules | `(tactic| k_mem) => `(tactic| with_reducible assumption)
local macro_rules | `(tactic| walk_at "call builtin:len") => `(tactic| (k_here; (with_reducible show wpAny _ _ (call (Value.builtin "len") [Value.bytes _ _]) _ _ _); (refine len_bytes (by omega) ?_)))
local macro_rules | `(tactic| walk_at "call builtin:len") => `(tactic| (k_here; (with_reducible show wpAny _ _ (call (Value.builtin "len") [Value.ref _]) _ _ _); k_dflt (refine' kba_len ?N ?h ?z ?_; (case N => k_asm); (case h => (with_reducible first | assumption | exact List.mem_cons_self | exact List.mem_cons_of_mem _ (List.mem_cons_self) | exact List.mem_cons_of_mem _ (List.mem_cons_of_mem _ (List.mem_cons_self)) | exact List.mem_cons_of_mem _ (List.mem_cons_of_mem _ (List.mem_cons_of_mem _ (List.mem_cons_self))) | exact List.mem_cons_of_mem _ (List.mem_cons_of_mem _ (List.mem_cons_of_mem _ (List.mem_cons_of_mem _ (List.mem_cons_self)))) | exact List.mem_cons_of_mem _ (List.mem_cons_of_mem _ (List.mem_cons_of_mem _ (List.mem_cons_of_mem _ (List.mem_cons_of_mem _ (List.mem_cons_self))))) | exact List.mem_cons_of_mem _ (List.mem_cons_of_mem _ (List.mem_cons_of_mem _ (List.mem_cons_of_mem _ (List.mem_cons_of_mem _ (List.mem_cons_of_mem _ (List.mem_cons_self)))))) | exact List.mem_cons_of_mem _ (List.mem_cons_of_mem _ (List.mem_cons_of_mem _ (List.mem_cons_of_mem _ (List.mem_cons_of_mem _ (List.mem_cons_of_mem _ (List.mem_cons_of_mem _ (List.mem_cons_self))))))) | exact List.mem_cons_of_mem _ (List.mem_cons_of_mem _ (List.mem_cons_of_mem _ (List.mem_cons_of_mem _ (List.mem_cons_of_mem _ (List.mem_cons_of_mem _ (List.mem_cons_of_mem _ (List.mem_cons_of_mem _ (List.mem_cons_self)))))))))); (case z => first | (with_reducible assumption) | omega); k_whole)))

section
variable {w : World} {s : Shared} {mg mb : Str → Option Value} {mean : ExcName → Option Value} {base : Heap} {l : Addr} {vs : List Value} {ns : List Int} {as₁ as₂ : List Addr} {h : Heap} {L fa : Addr} {cd : Value} {tk : Nat}
  {m : Str → Option Value} {rest : List (Addr × Obj)} {X DX BB kp X2 : Addr} {h1 h2 : Int} {k1 k2 t : Nat} {T Lf : Array UInt8} {ka : Array Value} {kn : Nat}

set_option maxHeartbeats 8000000 in
theorem turnEnd (S : Stat w mg mb mean base l vs ns as₁ as₂) (F : Fr base L h m) (H : Nm m l T Lf kp X2 X)
    (N : News base L h ((X, instObj 74 DX) :: (DX, bufD h1 k1 BB h2 k2 (T.size : Int) t) :: (BB, baObj (T ++ Lf)) :: (kp, listOf ka kn) :: rest)) (o1 : X ≠ DX) (o2 : X ≠ BB) (o3 : DX ≠ BB) (o4 : X ≠ kp) (o5 : DX ≠ kp) (o6 : BB ≠ kp) (hz : T.size + Lf.size ≤ 1000) (hk : ka.size ≤ 1000) (K : KeptOk rest ka) {Q : Flow → Shared → Prop}
    (hq : ∀ m' h' tk', Nm m' l T Lf kp X2 X → Fr base L h' m' → News base L h' ((X, instObj 74 DX) :: (DX, bufD h1 k1 BB h2 k2 (T.size : Int) t) :: (BB, baObj (T ++ Lf)) :: (kp, listOf ka kn) :: rest) → Q .next { s with heap := h', toks := tk' }) :
    wpC (model PySem.Challenge.rw_fr0023_01.row.prog w) (callerA.deeper (lawEnv L fa cd)) (execs [tB 3] (lawEnv L fa cd)) Q (fun _ _ => False) { s with heap := h, toks := tk } := by
  have S' := S
  have N₀ := N
  obtain ⟨tt, tl, e⟩ := H.reify
  replace F := frTo F e
  try dsimp only at F
  clear e H
  have o1' := o1
  have o2' := o2
  have o3' := o3
  replace o1 := neN o1
  replace o2 := neN o2
  replace o3 := neN o3
  replace o4 := neN o4
  replace o5 := neN o5
  replace o6 := neN o6
  obtain ⟨KX, Tp, hl, hi, hn, hs, hlay, ra, _⟩ := S
  have K0 := below_caller base
  have hsz : (T ++ Lf).size = T.size + Lf.size := by simp
  refine wpC_execs_leaf ?_
  conv in (tB 3) => whnf
  have hsz' : (T ++ Lf).size ≤ 16777216 := by rw [hsz]; omega
  iterate 41 walk1
  clear qk ek
  iterate 2 walk1
  · rename ¬ (_ = _) => hno
    exact absurd (by rw [hsz]; rfl) hno
  iterate 2 walk1
  rename Fr _ _ _ _ => F'
  rename News _ _ _ _ => N'
  refine comp_none (h₀ := base) (L := L) (cl := []) F' (by with_unfolding_all rfl) (by decide) (by rfl) (by decide) (by rfl) (by rfl) (by decide) ?_
  iterate 1 walk1
  refine ⟨_, kp, ka, kn, rfl, rfl, F', N', by (with_reducible first | assumption | exact List.mem_cons_self | exact List.mem_cons_of_mem _ (List.mem_cons_self) | exact List.mem_cons_of_mem _ (List.mem_cons_of_mem _ (List.mem_cons_self)) | exact List.mem_cons_of_mem _ (List.mem_cons_of_mem _ (List.mem_cons_of_mem _ (List.mem_cons_self))) | exact List.mem_cons_of_mem _ (List.mem_cons_of_mem _ (List.mem_cons_of_mem _ (List.mem_cons_of_mem _ (List.mem_cons_self)))) | exact List.mem_cons_of_mem _ (List.mem_cons_of_mem _ (List.mem_cons_of_mem _ (List.mem_cons_of_mem _ (List.mem_cons_of_mem _ (List.mem_cons_self))))) | exact List.mem_cons_of_mem _ (List.mem_cons_of_mem _ (List.mem_cons_of_mem _ (List.mem_cons_of_mem _ (List.mem_cons_of_mem _ (List.mem_cons_of_mem _ (List.mem_cons_self)))))) | exact List.mem_cons_of_mem _ (List.mem_cons_of_mem _ (List.mem_cons_of_mem _ (List.mem_cons_of_mem _ (List.mem_cons_of_mem _ (List.mem_cons_of_mem _ (List.mem_cons_of_mem _ (List.mem_cons_self))))))) | exact List.mem_cons_of_mem _ (List.mem_cons_of_mem _ (List.mem_cons_of_mem _ (List.mem_cons_of_mem _ (List.mem_cons_of_mem _ (List.mem_cons_of_mem _ (List.mem_cons_of_mem _ (List.mem_cons_of_mem _ (List.mem_cons_self))))))))), says_no S' (fun v hv => ?_), ?_⟩
  · obtain ⟨ti, bi, wv, tw, e, q1, q2, q3⟩ := K v hv
    exact ⟨ti, bi, wv, tw, e, .tail _ (.tail _ (.tail _ (.tail _ q1))), .tail _ (.tail _ (.tail _ (.tail _ q2))), q3⟩
  clear F' N'
  intro D h' tk' F' N' o7
  k_steps
  rename Fr _ _ _ _ => F'
  rename News _ _ _ _ => N'
  refine wpC_execs_nil ?_
  refine hq _ _ _ (by (exact ⟨rfl, ⟨_, rfl⟩, ⟨_, rfl⟩, rfl, rfl, rfl⟩)) F' (news_sub N' fun p hp => ?_)
  simp only [List.mem_cons] at hp ⊢
  rcases hp with h | h | h | h | h <;> simp [h]
end
end Fr23

namespace Fr23
open PySem PySem.W PySem.Calls PyProof.Rows
theorem fillu0 (w : World) : (PySem.Challenge.rw_fr0023_01, FrHd.hd.heap_39 w.params) = (PySem.Challenge.rw_fr0023_01, FrHd.hd.heap_39 w.params) := by w_top off; k_fill; rfl
local macro_rules | `(tactic| boot_fact) => `(tactic| with_reducible exact PyProof.Rows.Boot.bytearray)
local macro_rules | `(tactic| k_mem) => `(tactic| with_reducible assumption)

section
variable {w : World} {s : Shared} {mg mb : Str → Option Value} {mean : ExcName → Option Value} {base : Heap} {l : Addr} {vs : List Value} {ns : List Int} {as₁ as₂ : List Addr} {h : Heap} {L fa : Addr} {cd : Value} {tk : Nat}
  {m : Str → Option Value} {rest : List (Addr × Obj)} {T Lf : Array UInt8} {kp X2 X : Addr}

set_option maxHeartbeats 8000000 in
theorem turn0 (S : Stat w mg mb mean base l vs ns as₁ as₂) {oy : Obj} {n : Nat} {tn : Nat} {c : Option Value}
    (hnn : n < ns.length) (F : Fr base L h m) (H : Nm m l T Lf kp X2 X) (e1 : m (PySem.Str.ofString "n") = some (.int n tn))
    (N : News base L h ((L + 1 + 1, oy) :: rest)) (cy : oy.data = .cell c) (off : OwnOff rest [L + 1 + 1]) {Q : Flow → Shared → Prop}
    (hq : ∀ xx tx yy ty oy' m' h' tk', Fr base L h' m' → Nm m' l T Lf kp X2 X → m' (PySem.Str.ofString "x") = some (.int xx tx) → m' (PySem.Str.ofString "n") = some (.int n tn) → News base L h' ((L + 1 + 1, oy') :: rest) → oy'.data = .cell (some (.int yy ty)) →
      wpC (model PySem.Challenge.rw_fr0023_01.row.prog w) (callerA.deeper (lawEnv L fa cd)) (execs [tB 1, tB 2, tB 3] (lawEnv L fa cd)) Q (fun _ _ => False) { s with heap := h', toks := tk' }) :
    wpC (model PySem.Challenge.rw_fr0023_01.row.prog w) (callerA.deeper (lawEnv L fa cd)) (execs [tB 0, tB 1, tB 2, tB 3] (lawEnv L fa cd)) Q (fun _ _ => False) { s with heap := h, toks := tk } := by
  obtain ⟨KX, Tp, hl, hi, hn, hs, hlay, ra, r0⟩ := S
  have K0 := below_caller base
  replace F := frTo F (put2 e1 (put2 H.script rfl))
  try dsimp only at F
  refine wpC_execs_leaf ?_
  conv in (tB 0) => whnf
  k_steps
  rename IntsAre _ (List.take 2 _) => hI2
  obtain ⟨xx, tx, yy, ty, e⟩ := ints_two hI2 (by rw [List.length_take, List.length_append, List.length_take, List.length_drop]; simp only [List.length_cons, List.length_nil]; omega)
  subst e
  clear hI2
  k_steps
  rename Fr _ _ _ _ => F'
  rename News _ _ _ _ => N'
  rename _ = Data.cell (some _) => cy'
  exact hq xx tx yy ty _ _ _ _ F' ⟨rfl, H.taken, H.left, H.kept, H.beside, H.buffer⟩ rfl rfl (news_sub N' fun p hp => .tail _ (.tail _ (.tail _ (.tail _ hp)))) cy'

set_option maxHeartbeats 8000000 in
theorem turn1 (S : Stat w mg mb mean base l vs ns as₁ as₂) {oy : Obj} {xx yy n : Int} {tx ty tn : Nat}
    (F : Fr base L h m) (H : Nm m l T Lf kp X2 X) (e1 : m (PySem.Str.ofString "x") = some (.int xx tx)) (en : m (PySem.Str.ofString "n") = some (.int n tn))
    (N : News base L h ((L + 1 + 1, oy) :: rest)) (cy : oy.data = .cell (some (.int yy ty))) (off : OwnOff rest [L + 1 + 1]) {Q : Flow → Shared → Prop}
    (hq : ∀ r0 (mn : Nat) td tm m' h' tk', mn < 12 → Fr base L h' m' → Nm m' l T Lf kp X2 X → m' (PySem.Str.ofString "told") = some (.ref r0) → m' (PySem.Str.ofString "many") = some (.int mn tm) → m' (PySem.Str.ofString "deed") = some (.int (xx.fmod 5) td) → m' (PySem.Str.ofString "x") = some (.int xx tx) → m' (PySem.Str.ofString "n") = some (.int n tn) →
      News base L h' ((L + 1 + 1, oy) :: rest) →
      wpC (model PySem.Challenge.rw_fr0023_01.row.prog w) (callerA.deeper (lawEnv L fa cd)) (execs [tB 2, tB 3] (lawEnv L fa cd)) Q (fun _ _ => False) { s with heap := h', toks := tk' }) :
    wpC (model PySem.Challenge.rw_fr0023_01.row.prog w) (callerA.deeper (lawEnv L fa cd)) (execs [tB 1, tB 2, tB 3] (lawEnv L fa cd)) Q (fun _ _ => False) { s with heap := h, toks := tk } := by
  obtain ⟨KX, Tp, hl, hi, hn, hs, hlay, ra, _⟩ := S
  have K0 := below_caller base
  replace F := frTo F (put2 e1 (put2 H.script rfl))
  try dsimp only at F
  refine wpC_execs_cons ?_
  conv in (tB 1) => whnf
  refine wpC_Assign_Tuple_swapped (wpC_Tuple (wpC_spliced_e (wpC_of ?_)))
  k_steps
  refine wpC_spliced_e (wpC_of ?_)
  k_steps
  refine wpC_spliced_e (wpC_Call ?_)
  k_steps
  refine wpC_callWith_machine0 (keeps_type _) ?_
  rename Fr _ _ _ _ => F'
  rename News _ _ _ _ => N'
  refine kba_make0 F' N' ?_
  clear N'
  intro r0 h' F' N' l1 l2
  refine wpC_spliced_0 ?_
  k_steps
  rename Fr _ _ _ _ => F'
  rename News _ _ _ _ => N'
  have b1 : 0 ≤ yy.fmod 12 := fmod_lo _ (by decide)
  have b2 : yy.fmod 12 < 12 := fmod_hi _ (by decide)
  obtain ⟨mn, hmn⟩ : ∃ mn : Nat, yy.fmod 12 = (mn : Int) := ⟨(yy.fmod 12).toNat, by omega⟩
  rw [hmn] at F'
  exact hq r0 mn _ _ _ _ _ (by omega) F' ⟨rfl, H.taken, H.left, H.kept, H.beside, H.buffer⟩ rfl rfl rfl rfl en (news_sub N' fun p hp => .tail _ (.tail _ hp))
end
end Fr23

namespace Fr23
open PySem PySem.W PySem.Calls PyProof.Rows
theorem fillu (w : World) : (PySem.Challenge.rw_fr0023_01, FrHd.hd.heap_39 w.params) = (PySem.Challenge.rw_fr0023_01, FrHd.hd.heap_39 w.params) := by w_top off; k_fill; rfl
local macro_rules | `(tactic| boot_fact) => `(tactic| with_reducible exact PyProof.Rows.Boot.bytearray)
local macro_rules | `(tactic| k_mem) => `(tactic| with_reducible assumption)

theorem KeptOk.sub {own own' : List (Addr × Obj)} {ka : Array Value} (K : KeptOk own ka) (hs : ∀ p ∈ own, p ∈ own') : KeptOk own' ka := fun v hv => by
  obtain ⟨ti, bi, wv, tw, e, q1, q2, q3⟩ := K v hv
  exact ⟨ti, bi, wv, tw, e, hs _ q1, hs _ q2, q3⟩
theorem KeptOk.push {own : List (Addr × Obj)} {ka : Array Value} {ti r : Addr} {D : Array UInt8} {tw : Nat} (K : KeptOk own ka) (hD : D.size ≤ 16777216) :
    KeptOk ([(ti, { cls := .type "tuple", data := .seq #[.ref r, .bytes D tw] }), (r, baObj D)] ++ own) (ka.push (.ref ti)) := fun v hv => by
  rw [Array.toList_push] at hv
  rcases List.mem_append.mp hv with hv | hv
  · exact K.sub (fun p hp => .tail _ (.tail _ hp)) v hv
  · rw [List.mem_singleton] at hv
    exact ⟨ti, r, D, tw, hv, .head _, .tail _ (.head _), hD⟩

section
variable {w : World} {s : Shared} {mg mb : Str → Option Value} {mean : ExcName → Option Value} {base : Heap} {l : Addr} {vs : List Value} {ns : List Int} {as₁ as₂ : List Addr} {h : Heap} {L fa : Addr} {cd : Value} {tk : Nat}
  {m : Str → Option Value} {own rest : List (Addr × Obj)} {X DX BB kp r0 X2 : Addr} {h1 h2 : Int} {k1 k2 t : Nat} {T Lf : Array UInt8} {ka : Array Value} {kn : Nat}

set_option maxHeartbeats 8000000 in
theorem turn2 (S : Stat w mg mb mean base l vs ns as₁ as₂) {oy : Obj} {xx yy n : Int} {mn td tm tx ty tn : Nat} (hmn : mn < 12)
    (F : Fr base L h m) (H : Nm m l T Lf kp X2 X) (e1 : m (PySem.Str.ofString "told") = some (.ref r0)) (e2 : m (PySem.Str.ofString "many") = some (.int mn tm)) (e3 : m (PySem.Str.ofString "deed") = some (.int (xx.fmod 5) td)) (e4 : m (PySem.Str.ofString "x") = some (.int xx tx)) (e5 : m (PySem.Str.ofString "n") = some (.int n tn))
    (N : News base L h ((L + 1 + 1, oy) :: (X, instObj 74 DX) :: (DX, bufD h1 k1 BB h2 k2 (T.size : Int) t) :: (BB, baObj (T ++ Lf)) :: (kp, listOf ka kn) :: rest)) (cy : oy.data = .cell (some (.int yy ty)))
    (o1 : X ≠ DX) (o2 : X ≠ BB) (o3 : DX ≠ BB) (o4 : X ≠ kp) (o5 : DX ≠ kp) (o6 : BB ≠ kp) (p1 : X ≠ L + 1 + 1) (p2 : DX ≠ L + 1 + 1) (p3 : BB ≠ L + 1 + 1) (p4 : kp ≠ L + 1 + 1) (off : OwnOff rest [L + 1 + 1, X, DX, BB, kp])
    (hz : T.size + Lf.size ≤ 900) (hk : ka.size ≤ 90) (hown : ∀ p ∈ own, p ∈ rest) (K : KeptOk own ka) {Q : Flow → Shared → Prop}
    (hq : ∀ T' Lf' ka' kn' ext m' h' tk' t', T'.size + Lf'.size ≤ T.size + Lf.size + 9 → ka'.size ≤ ka.size + 1 → KeptOk (ext ++ own) ka' → (∀ p ∈ ext, X < p.1 ∧ DX < p.1 ∧ BB < p.1 ∧ kp < p.1 ∧ L + 1 + 1 < p.1 ∧ ∀ q ∈ rest, q.1 < p.1) →
      Nm m' l T' Lf' kp X2 X → Fr base L h' m' → News base L h' ((L + 1 + 1, oy) :: (X, instObj 74 DX) :: (DX, bufD h1 k1 BB h2 k2 (T'.size : Int) t') :: (BB, baObj (T' ++ Lf')) :: (kp, listOf ka' kn') :: (ext ++ rest)) → Q .next { s with heap := h', toks := tk' }) :
    wpC (model PySem.Challenge.rw_fr0023_01.row.prog w) (callerA.deeper (lawEnv L fa cd)) (execs [tB 2, tB 3] (lawEnv L fa cd)) Q (fun _ _ => False) { s with heap := h, toks := tk } := by
  have S' := S
  have N₀ := N
  obtain ⟨tt, tl, e⟩ := H.reify
  replace F := frTo F (put2 e1 (put2 e2 (put2 e3 (put2 e4 (put2 e5 e)))))
  try dsimp only at F
  have F₀ := F
  clear e e1 e2 e3 e4 e5 H
  obtain ⟨KX, Tp, hl, hi, hn, hs, hlay, ra, _⟩ := S
  have K0 := below_caller base
  -- the end of the turn, from any of the ways
  have done : ∀ (T' Lf' : Array UInt8) ka' kn' ext m' h' tk' t', T'.size + Lf'.size ≤ T.size + Lf.size + 9 → ka'.size ≤ ka.size + 1 → KeptOk (ext ++ own) ka' → (∀ p ∈ ext, X < p.1 ∧ DX < p.1 ∧ BB < p.1 ∧ kp < p.1 ∧ L + 1 + 1 < p.1 ∧ ∀ q ∈ rest, q.1 < p.1) →
      Nm m' l T' Lf' kp X2 X → Fr base L h' m' → News base L h' ((X, instObj 74 DX) :: (DX, bufD h1 k1 BB h2 k2 (T'.size : Int) t') :: (BB, baObj (T' ++ Lf')) :: (kp, listOf ka' kn') :: (L + 1 + 1, oy) :: (ext ++ rest)) →
      wpC (model PySem.Challenge.rw_fr0023_01.row.prog w) (callerA.deeper (lawEnv L fa cd)) (execs [tB 3] (lawEnv L fa cd)) Q (fun _ _ => False) { s with heap := h', toks := tk' } := by
    intro T' Lf' ka' kn' ext m' h' tk' t' q1 q2 q3 q4 q5 q6 q7
    refine turnEnd S' q6 q5 q7 o1 o2 o3 o4 o5 o6 (by omega) (by omega) (q3.sub fun p hp => ?_) fun m₂ h₂ tk₂ r1 r2 r3 => ?_
    · rcases List.mem_append.mp hp with hp | hp
      · exact .tail _ (List.mem_append_left _ hp)
      · exact .tail _ (List.mem_append_right _ (hown _ hp))
    · exact hq T' Lf' ka' kn' ext m₂ h₂ tk₂ t' q1 q2 q3 q4 r1 r2 (news_sub r3 (by intro p hp; simp only [List.mem_cons] at hp ⊢; rcases hp with h | h | h | h | h | h <;> simp [h]))
  have a0 : OwnOff ((kp, listOf ka kn) :: rest) [L + 1 + 1, X, DX, BB] := OwnOff.cons (by intro b hb; simp only [List.mem_cons, List.not_mem_nil, or_false] at hb; rcases hb with rfl | rfl | rfl | rfl <;> first | assumption | (exact Ne.symm (by assumption))) (OwnOff.sub off (by simp))
  have a3 : OwnOff ((L + 1 + 1, oy) :: (kp, listOf ka kn) :: rest) [X, DX, BB] := OwnOff.cons (by intro b hb; simp only [List.mem_cons, List.not_mem_nil, or_false] at hb; rcases hb with rfl | rfl | rfl <;> exact Ne.symm (by assumption)) (OwnOff.sub a0 (by simp))
  have a12 : OwnOff ((L + 1 + 1, oy) :: rest) [X, DX, BB, kp] := OwnOff.cons (by intro b hb; simp only [List.mem_cons, List.not_mem_nil, or_false] at hb; rcases hb with rfl | rfl | rfl | rfl <;> exact Ne.symm (by assumption)) (OwnOff.sub off (by simp))
  have N3 : News base L h ((X, instObj 74 DX) :: (DX, bufD h1 k1 BB h2 k2 (T.size : Int) t) :: (BB, baObj (T ++ Lf)) :: (L + 1 + 1, oy) :: (kp, listOf ka kn) :: rest) := news_sub N₀ (by intro p hp; simp only [List.mem_cons] at hp ⊢; rcases hp with h | h | h | h | h | h <;> simp [h])
  have N12 : News base L h ((X, instObj 74 DX) :: (DX, bufD h1 k1 BB h2 k2 (T.size : Int) t) :: (BB, baObj (T ++ Lf)) :: (kp, listOf ka kn) :: (L + 1 + 1, oy) :: rest) := news_sub N₀ (by intro p hp; simp only [List.mem_cons] at hp ⊢; rcases hp with h | h | h | h | h | h <;> simp [h])
  have z5a : 0 ≤ xx.fmod 5 := fmod_lo _ (by decide)
  have z5b : xx.fmod 5 < 5 := fmod_hi _ (by decide)
  have b0 : ∀ {Q' : Flow → Shared → Prop} {tk' : Nat}, (∀ s', wpC (model PySem.Challenge.rw_fr0023_01.row.prog w) (callerA.deeper (lawEnv L fa cd)) (execs [tB 3] (lawEnv L fa cd)) Q (fun _ _ => False) s' → Q' .next s') →
      wpC (model PySem.Challenge.rw_fr0023_01.row.prog w) (callerA.deeper (lawEnv L fa cd)) (execs b0B (lawEnv L fa cd)) Q' (fun _ _ => False) { s with heap := h, toks := tk' } := fun hQ' =>
    br0 S' F₀ N₀ cy o1 o2 o3 p1 p2 p3 a0 (by omega) fun C m' h' tk' q1 q2 q3 q4 => hQ' _ (done T (Lf ++ C) ka kn [] m' h' tk' t (by simp; omega) (by omega) K (fun p hp => nomatch hp) q2 q3
      (news_sub q4 (by intro p hp; simp only [List.mem_cons, List.nil_append] at hp ⊢; rcases hp with h | h | h | h | h | h <;> simp [h])))
  have b12 : ∀ {Q' : Flow → Shared → Prop} {tk' : Nat}, xx.fmod 5 = 1 ∨ xx.fmod 5 = 2 → (∀ s', wpC (model PySem.Challenge.rw_fr0023_01.row.prog w) (callerA.deeper (lawEnv L fa cd)) (execs [tB 3] (lawEnv L fa cd)) Q (fun _ _ => False) s' → Q' .next s') →
      wpC (model PySem.Challenge.rw_fr0023_01.row.prog w) (callerA.deeper (lawEnv L fa cd)) (execs b12B (lawEnv L fa cd)) Q' (fun _ _ => False) { s with heap := h, toks := tk' } := fun hd hQ' =>
    br12 S' F₀ (by (exact ⟨rfl, ⟨_, rfl⟩, ⟨_, rfl⟩, rfl, rfl, rfl⟩)) rfl rfl N12 o1 o2 o3 o4 o5 o6 a12 (by omega) hd (by omega) (by omega) (fun m' h' tk' t' q1 q2 q3 => hQ' _ (done T Lf ka kn [] m' h' tk' t' (by omega) (by omega) K (fun p hp => nomatch hp) q1 q2 q3))
      fun m' h' tk' t' D Z r ti tw e q1 q2 q3 q4 q5 => hQ' _ (done (T ++ D) Z (ka.push (.ref ti)) (kn + 1) [(ti, { cls := .type "tuple", data := .seq #[.ref r, .bytes D tw] }), (r, baObj D)] m' h' tk' t' (by
        have := congrArg Array.size e; simp at this ⊢; omega) (by simp) (K.push (by have := congrArg Array.size e; simp at this; omega)) (by
        obtain ⟨l1, l2, l3, l4, l5⟩ := q4
        have l6 : L + 1 + 1 < r := l5 _ (.head _)
        have l7 : ∀ p ∈ rest, p.1 < r := fun p hp => l5 p (.tail _ hp)
        intro p hp
        simp only [List.mem_cons, List.not_mem_nil, or_false] at hp
        rcases hp with rfl | rfl
        · exact ⟨Nat.lt_trans l1 q5, Nat.lt_trans l2 q5, Nat.lt_trans l3 q5, Nat.lt_trans l4 q5, Nat.lt_trans l6 q5, fun q hq => Nat.lt_trans (l7 q hq) q5⟩
        · exact ⟨l1, l2, l3, l4, l6, l7⟩) q1 q2
      (news_sub q3 (by intro p hp; simp only [List.mem_cons, List.cons_append, List.nil_append] at hp ⊢; rcases hp with h | h | h | h | h | h | h | h <;> simp [h])))
  have b3 : ∀ {Q' : Flow → Shared → Prop} {tk' : Nat}, (∀ s', wpC (model PySem.Challenge.rw_fr0023_01.row.prog w) (callerA.deeper (lawEnv L fa cd)) (execs [tB 3] (lawEnv L fa cd)) Q (fun _ _ => False) s' → Q' .next s') →
      wpC (model PySem.Challenge.rw_fr0023_01.row.prog w) (callerA.deeper (lawEnv L fa cd)) (execs b3B (lawEnv L fa cd)) Q' (fun _ _ => False) { s with heap := h, toks := tk' } := fun hQ' =>
    br3 S' F₀ N3 o1 o2 o3 a3 (by omega) fun m' h' tk' t' q1 q2 q3 => hQ' _ (done #[] Lf ka kn [] m' h' tk' t' (by simp; omega) (by omega) K (fun p hp => nomatch hp) q1 q2
      (news_sub q3 (by intro p hp; simp only [List.mem_cons, List.nil_append] at hp ⊢; rcases hp with h | h | h | h | h | h <;> simp [h])))
  have b4 : ∀ {Q' : Flow → Shared → Prop} {tk' : Nat}, (∀ s', wpC (model PySem.Challenge.rw_fr0023_01.row.prog w) (callerA.deeper (lawEnv L fa cd)) (execs [tB 3] (lawEnv L fa cd)) Q (fun _ _ => False) s' → Q' .next s') →
      wpC (model PySem.Challenge.rw_fr0023_01.row.prog w) (callerA.deeper (lawEnv L fa cd)) (execs b4B (lawEnv L fa cd)) Q' (fun _ _ => False) { s with heap := h, toks := tk' } := fun hQ' =>
    br4 S' F₀ N3 o1 o2 o3 a3 (by omega) fun m' h' tk' t' q1 q2 q3 => hQ' _ (done #[] (T ++ Lf) ka kn [] m' h' tk' t' (by simp) (by omega) K (fun p hp => nomatch hp) q1 q2
      (news_sub q3 (by intro p hp; simp only [List.mem_cons, List.nil_append] at hp ⊢; rcases hp with h | h | h | h | h | h <;> simp [h])))
  clear N3 N12 a0 a3 a12 done hq
  refine wpC_execs_cons ?_
  conv in (tB 2) => whnf
  refine wpC_If ?_
  k_steps
  · exact b0 fun s' q => q
  rename ¬ (_ = _) => n0
  refine wpC_execs_cons (wpC_If ?_)
  k_steps
  · exact b12 (by omega) fun s' q => wpC_execs_nil q
  rename ¬ (_ < _) => n1
  refine wpC_execs_cons (wpC_If ?_)
  k_steps
  · exact b3 fun s' q => wpC_execs_nil (wpC_execs_nil q)
  · exact b4 fun s' q => wpC_execs_nil (wpC_execs_nil q)
end
end Fr23

namespace Fr23
open PySem PySem.W PySem.Calls PyProof.Rows
theorem fill6 (w : World) : (PySem.Challenge.rw_fr0023_01, FrHd.hd.heap_39 w.params) = (PySem.Challenge.rw_fr0023_01, FrHd.hd.heap_39 w.params) := by w_top off; k_fill; rfl
local macro_rules | `(tactic| boot_fact) => `(tactic| with_reducible exact PyProof.Rows.Boot.bytearray)
local macro_rules | `(tactic| k_mem) => `(tactic| with_reducible assumption)

/-- the other buffer, as it was made -/
def BesideOk (rest : List (Addr × Obj)) (X2 : Addr) : Prop := ∃ DX2 BB2 h1 k1 h2 k2 t, (X2, instObj 74 DX2) ∈ rest ∧ (DX2, bufD h1 k1 BB2 h2 k2 ((0 : Nat) : Int) t) ∈ rest ∧ (BB2, baObj #[122, 122]) ∈ rest ∧ X2 ≠ DX2 ∧ X2 ≠ BB2 ∧ DX2 ≠ BB2

/-- what holds ahead of each turn -/
inductive LoopJ (L l : Addr) (i : Nat) : (Str → Option Value) → List (Addr × Obj) → Prop
  | mk {m : Str → Option Value} {own : List (Addr × Obj)} {X DX BB kp X2 : Addr} {h1 h2 : Int} {k1 k2 t : Nat} {T Lf : Array UInt8} {ka : Array Value} {kn : Nat} {oy : Obj} {c : Option Value} (H : Nm m l T Lf kp X2 X) (cy : oy.data = .cell c)
    (o1 : X ≠ DX) (o2 : X ≠ BB) (o3 : DX ≠ BB) (o4 : X ≠ kp) (o5 : DX ≠ kp) (o6 : BB ≠ kp) (p1 : X ≠ L + 1 + 1) (p2 : DX ≠ L + 1 + 1) (p3 : BB ≠ L + 1 + 1) (p4 : kp ≠ L + 1 + 1) (off : OwnOff own [L + 1 + 1, X, DX, BB, kp])
    (hz : T.size + Lf.size ≤ 3 + 9 * i) (hk : ka.size ≤ i) (K : KeptOk own ka) (Bs : BesideOk own X2) :
    LoopJ L l i m ((L + 1 + 1, oy) :: (X, instObj 74 DX) :: (DX, bufD h1 k1 BB h2 k2 (T.size : Int) t) :: (BB, baObj (T ++ Lf)) :: (kp, listOf ka kn) :: own)

section
variable {w : World} {s : Shared} {mg mb : Str → Option Value} {mean : ExcName → Option Value} {base : Heap} {l : Addr} {vs : List Value} {ns : List Int} {as₁ as₂ : List Addr} {h : Heap} {L fa : Addr} {cd : Value} {tk : Nat}
  {m : Str → Option Value} {rest news : List (Addr × Obj)} {R : Result → Shared → Prop}

/-- one turn keeps it -/
theorem turnJ (S : Stat w mg mb mean base l vs ns as₁ as₂) {i n : Nat} {tn : Nat} {I : Addr} {it : Obj} (hn : n < ns.length) (hi : i ≤ 60) (J : LoopJ L l i m news) (hnI : ∀ p ∈ news, p.1 ≠ I)
    (F : Fr base L h (fun y => if y = PySem.Str.ofString "n" then some (.int n tn) else m y)) (N : News base L h ((I, it) :: news)) :
    wpC (model PySem.Challenge.rw_fr0023_01.row.prog w) (callerA.deeper (lawEnv L fa cd)) (execs forBody (lawEnv L fa cd)) (TurnEnd base L I it (LoopJ L l (i + 1)) s R) (fun _ _ => False) { s with heap := h, toks := tk } := by
  cases J with
  | @mk own X DX BB kp X2 h1 h2 k1 k2 t T Lf ka kn oy c H cy o1 o2 o3 o4 o5 o6 p1 p2 p3 p4 off hz hk K Bs =>
    have H' : Nm (fun y => if y = PySem.Str.ofString "n" then some (.int n tn) else m y) l T Lf kp X2 X := ⟨H.script, H.taken, H.left, H.kept, H.beside, H.buffer⟩
    have nI : ∀ {a : Addr} {o : Obj}, (a, o) ∈ ((L + 1 + 1, oy) :: (X, instObj 74 DX) :: (DX, bufD h1 k1 BB h2 k2 (T.size : Int) t) :: (BB, baObj (T ++ Lf)) :: (kp, listOf ka kn) :: own) → I ≠ a := fun hm e => hnI _ hm e.symm
    have offI : OwnOff ((I, it) :: own) [L + 1 + 1, X, DX, BB, kp] := OwnOff.cons (by
      intro b hb; simp only [List.mem_cons, List.not_mem_nil, or_false] at hb
      rcases hb with rfl | rfl | rfl | rfl | rfl
      · exact nI (.head _)
      · exact nI (.tail _ (.head _))
      · exact nI (.tail _ (.tail _ (.head _)))
      · exact nI (.tail _ (.tail _ (.tail _ (.head _))))
      · exact nI (.tail _ (.tail _ (.tail _ (.tail _ (.head _)))))) off
    have sw : ∀ {a b : Addr}, a ≠ b → b ≠ a := fun h => Ne.symm h
    have off0 : OwnOff ((X, instObj 74 DX) :: (DX, bufD h1 k1 BB h2 k2 (T.size : Int) t) :: (BB, baObj (T ++ Lf)) :: (kp, listOf ka kn) :: (I, it) :: own) [L + 1 + 1] := by
      have one : ∀ {a : Addr}, a ≠ L + 1 + 1 → ∀ b ∈ [L + 1 + 1], a ≠ b := fun h b hb => by rw [List.mem_singleton.mp hb]; exact h
      exact OwnOff.cons (one p1) (OwnOff.cons (one p2) (OwnOff.cons (one p3) (OwnOff.cons (one p4) (OwnOff.sub offI (by simp)))))
    rw [forBody_eq]
    refine turn0 (c := c) (n := n) S hn F H' rfl (news_sub N (by intro p hp; simp only [List.mem_cons] at hp ⊢; rcases hp with h | h | h | h | h | h | h <;> simp [h])) cy off0 ?_
    intro xx tx yy ty oy' m₁ h₁ tk₁ F₁ H₁ e1 e2 N₁ cy'
    refine turn1 S F₁ H₁ e1 e2 N₁ cy' off0 ?_
    intro r0 mn td tm m₂ h₂ tk₂ hmn F₂ H₂ g1 g2 g3 g4 g5 N₂
    clear N N₁ F F₁ H' H₁
    refine turn2 (own := own) S hmn F₂ H₂ g1 g2 g3 g4 g5 N₂ cy' o1 o2 o3 o4 o5 o6 p1 p2 p3 p4 offI (by omega) (by omega) (fun p hp => .tail _ hp) K ?_
    intro T' Lf' ka' kn' ext m₃ h₃ tk₃ t' q1 q2 q3 q4 q5 q6 q7
    refine ⟨h₃, tk₃, m₃, _, rfl, q6, news_sub (news' := (I, it) :: (L + 1 + 1, oy') :: (X, instObj 74 DX) :: (DX, bufD h1 k1 BB h2 k2 (T'.size : Int) t') :: (BB, baObj (T' ++ Lf')) :: (kp, listOf ka' kn') :: (ext ++ own)) q7 ?_, ?_, ?_⟩
    · intro p hp
      simp only [List.mem_cons, List.mem_append] at hp ⊢
      rcases hp with h | h | h | h | h | h | h | h <;> simp [h]
    · intro p hp
      have up : ∀ p ∈ ext, p.1 ≠ I := fun p hp => Nat.ne_of_gt ((q4 p hp).2.2.2.2.2 _ (.head _))
      simp only [List.mem_cons, List.mem_append] at hp
      rcases hp with rfl | rfl | rfl | rfl | rfl | h | h
      · exact Ne.symm (nI (.head _))
      · exact Ne.symm (nI (.tail _ (.head _)))
      · exact Ne.symm (nI (.tail _ (.tail _ (.head _))))
      · exact Ne.symm (nI (.tail _ (.tail _ (.tail _ (.head _)))))
      · exact Ne.symm (nI (.tail _ (.tail _ (.tail _ (.tail _ (.head _))))))
      · exact up p h
      · exact hnI p (.tail _ (.tail _ (.tail _ (.tail _ (.tail _ h)))))
    · refine LoopJ.mk q5 cy' o1 o2 o3 o4 o5 o6 p1 p2 p3 p4 ?_ (by omega) (by omega) q3 ?_
      · intro p hp b hb
        rcases List.mem_append.mp hp with hp | hp
        · obtain ⟨z1, z2, z3, z4, z5, _⟩ := q4 p hp
          simp only [List.mem_cons, List.not_mem_nil, or_false] at hb
          rcases hb with rfl | rfl | rfl | rfl | rfl <;> exact Nat.ne_of_gt (by assumption)
        · exact off p hp b hb
      · obtain ⟨DX2, BB2, a1, a2, a3, a4, a5, b1, b2, b3, b4⟩ := Bs
        exact ⟨DX2, BB2, a1, a2, a3, a4, a5, List.mem_append_right _ b1, List.mem_append_right _ b2, List.mem_append_right _ b3, b4⟩
end
end Fr23

namespace Fr23
open PySem PySem.W PySem.Calls PyProof.Rows
theorem fill7 (w : World) : (PySem.Challenge.rw_fr0023_01, FrHd.hd.heap_39 w.params) = (PySem.Challenge.rw_fr0023_01, FrHd.hd.heap_39 w.params) := by w_top off; k_fill; rfl
local macro_rules | `(tactic| boot_fact) => `(tactic| with_reducible exact PyProof.Rows.Boot.bytearray)
local macro_rules | `(tactic| k_mem) => `(tactic| with_reducible assumption)
local macro_rules | `(tactic| walk_at "call builtin:len") => `(tactic| (k_here; (with_reducible show wpAny _ _ (call (Value.builtin "len") [Value.bytes _ _]) _ _ _); (refine len_bytes (by omega) ?_)))
local macro_rules | `(tactic| walk_at "call builtin:len") => `(tactic| (k_here; (with_reducible show wpAny _ _ (call (Value.builtin "len") [Value.ref _]) _ _ _); k_dflt (refine' kba_len ?N ?h ?z ?_; (case N => k_asm); (case h => (with_reducible first | assumption | exact List.mem_cons_self | exact List.mem_cons_of_mem _ (List.mem_cons_self) | exact List.mem_cons_of_mem _ (List.mem_cons_of_mem _ (List.mem_cons_self)) | exact List.mem_cons_of_mem _ (List.mem_cons_of_mem _ (List.mem_cons_of_mem _ (List.mem_cons_self))) | exact List.mem_cons_of_mem _ (List.mem_cons_of_mem _ (List.mem_cons_of_mem _ (List.mem_cons_of_mem _ (List.mem_cons_self)))) | exact List.mem_cons_of_mem _ (List.mem_cons_of_mem _ (List.mem_cons_of_mem _ (List.mem_cons_of_mem _ (List.mem_cons_of_mem _ (List.mem_cons_self))))) | exact List.mem_cons_of_mem _ (List.mem_cons_of_mem _ (List.mem_cons_of_mem _ (List.mem_cons_of_mem _ (List.mem_cons_of_mem _ (List.mem_cons_of_mem _ (List.mem_cons_self)))))) | exact List.mem_cons_of_mem _ (List.mem_cons_of_mem _ (List.mem_cons_of_mem _ (List.mem_cons_of_mem _ (List.mem_cons_of_mem _ (List.mem_cons_of_mem _ (List.mem_cons_of_mem _ (List.mem_cons_self))))))) | exact List.mem_cons_of_mem _ (List.mem_cons_of_mem _ (List.mem_cons_of_mem _ (List.mem_cons_of_mem _ (List.mem_cons_of_mem _ (List.mem_cons_of_mem _ (List.mem_cons_of_mem _ (List.mem_cons_of_mem _ (List.mem_cons_self)))))))))); (case z => first | (with_reducible assumption) | omega); k_whole)))
theorem eq_same {prog : Program} {w : World} {A : Around} {E : Value → Shared → Prop} {s : Shared} {b : Array UInt8} {t u : Tok} {Q : Value → Shared → Prop} (h : Q (.bool true) s) : wpAny (model prog w) A (compareOp .Eq (.bytes b t) (.bytes b u)) Q E s :=
  eq_bytes (by rw [show (b.toList == b.toList) = true by simp]; exact h)
local macro_rules | `(tactic| walk_at "compareOp Eq bytes bytes") => `(tactic| (k_here; (with_reducible refine eq_same ?_)))

section
variable {w : World} {s : Shared} {mg mb : Str → Option Value} {mean : ExcName → Option Value} {base : Heap} {l : Addr} {vs : List Value} {ns : List Int} {as₁ as₂ : List Addr} {h : Heap} {L fa : Addr} {cd : Value} {tk : Nat}
  {m : Str → Option Value} {rest news : List (Addr × Obj)}

theorem take_all (Lf : Array UInt8) (T : Array UInt8) : ((List.drop T.size (T ++ Lf).toList).take (Lf.size + 1)).toArray = Lf := by
  rw [drop_left, List.take_of_length_le (by simp), Array.toArray_toList]

set_option maxHeartbeats 8000000 in
theorem law7 (S : Stat w mg mb mean base l vs ns as₁ as₂) {i : Nat} (hi : i ≤ 60) (F : Fr base L h m) (N : News base L h news) (J : LoopJ L l i m news) :
    wpC (model PySem.Challenge.rw_fr0023_01.row.prog w) (callerA.deeper (lawEnv L fa cd)) (execs [lawB 7] (lawEnv L fa cd)) (LawEnd base s) (fun _ _ => False) { s with heap := h, toks := tk } := by
  cases J with
  | @mk own X DX BB kp X2 h1 h2 k1 k2 t T Lf ka kn oy c H cy o1 o2 o3 o4 o5 o6 p1 p2 p3 p4 off hz hk K Bs =>
  have S' := S
  obtain ⟨KX, Tp, hl, hi', hn, hs, hlay, ra, _⟩ := S
  have K0 := below_caller base
  obtain ⟨DX2, BB2, h1', k1', h2', k2', t2, n1, n2, n3, u1, u2, u3⟩ := Bs
  obtain ⟨tt, tl, e⟩ := H.reify
  replace F := frTo F e
  try dsimp only at F
  clear e H
  have a3 : OwnOff ((L + 1 + 1, oy) :: (kp, listOf ka kn) :: own) [X, DX, BB] := OwnOff.cons (by intro b hb; simp only [List.mem_cons, List.not_mem_nil, or_false] at hb; rcases hb with rfl | rfl | rfl <;> exact Ne.symm (by assumption))
    (OwnOff.cons (by intro b hb; simp only [List.mem_cons, List.not_mem_nil, or_false] at hb; rcases hb with rfl | rfl | rfl <;> exact Ne.symm (by assumption)) (OwnOff.sub off (by simp)))
  have N1 : News base L h ((X, instObj 74 DX) :: (DX, bufD h1 k1 BB h2 k2 (T.size : Int) t) :: (BB, baObj (T ++ Lf)) :: (L + 1 + 1, oy) :: (kp, listOf ka kn) :: own) := news_sub N (by intro p hp; simp only [List.mem_cons] at hp ⊢; rcases hp with h | h | h | h | h | h <;> simp [h])
  clear N
  refine wpC_execs_cons ?_
  conv in (lawB 7) => whnf
  refine wpC_Return (wpC_And (wpC_Compare1 (wpC_Call ?_)))
  k_steps
  refine wpC_callWith_machine (keeps_type _) (wpC_Call_Attribute ?_)
  k_steps
  refine wpC_callWith_K (K := FrHd.hd.heap_39 w.params) (by k_is) (wpC_spliced_e (wpC_of ?_))
  k_steps
  refine wpC_spliced_0 ⟨by k_in, wpC_call ?_⟩
  dsimp only [List.nil_append, List.cons_append]
  rename Fr _ _ _ _ => F'
  refine cam_c (b := T ++ Lf) (k := T.size) (n := Lf.size + 1) K0 F' KX Tp N1 (Around.frames_deeper K0.stack) rfl rfl (by show 301 + 1 + 2 < 1000; decide) o1 o2 o3 a3 (by simp) (by simp; omega) (by omega) ?_
  clear F'
  intro r t' h₃ tk₃ F₃ N₃ lr
  rw [take_all] at N₃
  show wpC _ _ _ _ _ _
  refine wpC_of (kba_bytes N₃ (.head _) (by omega) fun t₁ k₁ => ?_)
  k_steps
  have N4 : News base L _ [(X2, instObj 74 DX2), (DX2, bufD h1' k1' BB2 h2' k2' ((0 : Nat) : Int) t2), (BB2, baObj #[122, 122])] := news_sub N₃ (by
    intro p hp
    simp only [List.mem_cons, List.not_mem_nil, or_false] at hp
    rcases hp with rfl | rfl | rfl <;> exact .tail _ (.tail _ (.tail _ (.tail _ (.tail _ (.tail _ (by assumption)))))))
  clear N₃ N1
  refine wpC_And (wpC_Compare1 (wpC_Call ?_))
  k_steps
  refine wpC_callWith_machine (keeps_type _) (wpC_Call_Attribute ?_)
  k_steps
  refine wpC_callWith_K (K := FrHd.hd.heap_39 w.params) (by k_is) (wpC_spliced_e (wpC_of ?_))
  k_steps
  refine wpC_spliced_0 ⟨by k_in, wpC_call ?_⟩
  dsimp only [List.nil_append, List.cons_append]
  rename Fr _ _ _ _ => F'
  refine cex_c (b := #[122, 122]) (k := 0) (n := 2) K0 F' KX Tp N4 (Around.frames_deeper K0.stack) rfl rfl (by show 301 + 1 + 3 < 1000; decide) u1 u2 u3 (fun p hp => nomatch hp) (by decide) (by decide) (by decide) (fun hno => absurd hno (by decide)) ?_
  clear F' N4
  intro _ r t' h₃ tk₃ F₃ N₃ lr
  show wpC _ _ _ _ _ _
  refine wpC_of (kba_bytes N₃ (.head _) (by decide) fun t₁ k₁ => ?_)
  rw [show ((List.drop 0 (#[122, 122] : Array UInt8).toList).take 2).toArray = #[122, 122] from rfl] at N₃ ⊢
  k_steps
  have hbz : (#[122, 122] : Array UInt8).size ≤ 16777216 := by decide
  refine wpC_BoolOp_one (wpC_of ?_)
  k_steps
  rename Fr _ _ _ _ => F'
  exact ⟨rfl, _, _, rfl, F'.keep⟩
end
end Fr23

namespace Fr23
open PySem PySem.W PySem.Calls PyProof.Rows
theorem fill8 (w : World) : (PySem.Challenge.rw_fr0023_01, FrHd.hd.heap_39 w.params) = (PySem.Challenge.rw_fr0023_01, FrHd.hd.heap_39 w.params) := by w_top off; k_fill; rfl
local macro_rules | `(tactic| boot_fact) => `(tactic| with_reducible exact PyProof.Rows.Boot.bytearray)
local macro_rules | `(tactic| k_mem) => `(tactic| with_reducible assumption)

theorem range_facts : ∀ z : Nat, z < 30 → Builtin.Range.small 1 (z : Int) 2 = true ∧ Builtin.Range.rangeSize 1 (z : Int) 2 = ((z / 2 : Nat) : Int) := by decide

section
variable {w : World} {s : Shared} {mg mb : Str → Option Value} {mean : ExcName → Option Value} {base : Heap} {l : Addr} {vs : List Value} {ns : List Int} {as₁ as₂ : List Addr} {h : Heap} {L fa : Addr} {cd : Value} {tk : Nat}
  {m : Str → Option Value} {rest news : List (Addr × Obj)}

set_option maxHeartbeats 8000000 in
theorem law6 (S : Stat w mg mb mean base l vs ns as₁ as₂) (F : Fr base L h m) (N : News base L h news) (J : LoopJ L l 0 m news) :
    wpC (model PySem.Challenge.rw_fr0023_01.row.prog w) (callerA.deeper (lawEnv L fa cd)) (execs [lawB 6, lawB 7] (lawEnv L fa cd)) (LawEnd base s) (fun _ _ => False) { s with heap := h, toks := tk } := by
  have S' := S
  have hm : m (PySem.Str.ofString "script") = some (.ref l) := by cases J with | mk H => exact H.script
  obtain ⟨KX, Tp, hl, hi, hn, hs, hlay, ra, _⟩ := S
  have K0 := below_caller base
  have F₀ := F
  replace F := frTo F (put2 hm rfl)
  try dsimp only at F
  refine wpC_execs_cons ?_
  conv in (lawB 6) => whnf
  refine wpC_For ?_
  k_steps
  rename Fr _ _ _ _ => F'
  rename News _ _ _ _ => N'
  rename IsRange _ _ _ _ _ _ _ _ => hr
  rename (List.take 29 ns).length = _ => hlen
  generalize hz : (List.take 29 ns).length = z at hr hlen
  have hz30 : z < 30 := by omega
  obtain ⟨rs, re⟩ := range_facts z hz30
  refine wpAny_pyIter_range hr rs ?_
  rw [re]
  replace F' := frTo F' (put2 hm rfl).symm
  replace N' := news_tail N'
  have up : ∀ (h : Heap) (ob : Obj) (b : Addr) (o : Obj), h.get? b = some o → (h.push ob).get? b = some o := fun h ob b o e => Heap.get?_push_of_some _ e
  refine codeC_for_range (h₀ := base) (a := 1) (c := 2) (n := z / 2) (m := m) (news := news) rfl rfl rfl (Heap.get?_push_size _ rfl) (next_is_new F') (Nat.ne_of_lt F'.ns.lt) (F'.keeps (up _ _)) (N'.grown (up _ _)) (fun p hp => Nat.ne_of_lt (Heap.lt_size (N' p hp).1)) (LoopJ L l) J ?_ ?_
  · intro i t m₁ news₁ h₁ tk₁ it hi J₁ hI₁ F₁ N₁ _
    rw [show (1 : Int) + (i : Int) * 2 = ((1 + i * 2 : Nat) : Int) by omega] at F₁
    exact turnJ S' (by omega) (by omega) J₁ hI₁ F₁ N₁
  · intro h₁ tk₁ m₁ news₁ F₁ N₁ J₁
    exact law7 S' (by omega) F₁ N₁ J₁
end
end Fr23

namespace Fr23
open PySem PySem.W PySem.Calls PyProof.Rows
theorem fill5 (w : World) : (PySem.Challenge.rw_fr0023_01, FrHd.hd.heap_39 w.params) = (PySem.Challenge.rw_fr0023_01, FrHd.hd.heap_39 w.params) := by w_top off; k_fill; rfl
local macro_rules | `(tactic| boot_fact) => `(tactic| with_reducible exact PyProof.Rows.Boot.bytearray)
local macro_rules | `(tactic| k_mem) => `(tactic| with_reducible assumption)

section
variable {w : World} {s : Shared} {mg mb : Str → Option Value} {mean : ExcName → Option Value} {base : Heap} {l : Addr} {vs : List Value} {ns : List Int} {as₁ as₂ : List Addr} {h : Heap} {L fa : Addr} {cd : Value} {tk : Nat}
  {m : Str → Option Value} {rest news : List (Addr × Obj)} {hb X DX BB kp X2 DX2 BB2 : Addr} {H : Array UInt8} {h1 h2 h1' h2' : Int} {k1 k2 t k1' k2' t2 : Nat} {oy oa : Obj} {a : Int} {ta : Nat}

set_option maxHeartbeats 8000000 in
theorem law5 (S : Stat w mg mb mean base l vs ns as₁ as₂) (hH : H.size ≤ 3) (F : Fr base L h m) (e : m (PySem.Str.ofString "handed") = some (.ref hb)) (N : News base L h ((hb, baObj H) :: news)) (off : OwnOff news [hb]) (J : LoopJ L l 0 m news) :
    wpC (model PySem.Challenge.rw_fr0023_01.row.prog w) (callerA.deeper (lawEnv L fa cd)) (execs [lawB 5, lawB 6, lawB 7] (lawEnv L fa cd)) (LawEnd base s) (fun _ _ => False) { s with heap := h, toks := tk } := by
  have S' := S
  obtain ⟨KX, Tp, hl, hi, hn, hs, hlay, ra, _⟩ := S
  have K0 := below_caller base
  replace F := frTo F (put2 e rfl)
  try dsimp only at F
  refine wpC_execs_cons ?_
  conv in (lawB 5) => whnf
  refine wpC_AugAssign_Name ?_
  k_steps
  rename Fr _ _ _ _ => F'
  refine kba_inplace (b := H) (c := #[9]) F' N (by k_upd) (.head _) (.inl ⟨_, rfl⟩) (fun q => nomatch q) (by simp; omega) ?_
  clear F'
  intro h' F' N'
  k_steps
  rename Fr _ _ _ _ => F'
  rename News _ _ _ _ => N'
  exact law6 S' (frTo F' (put2 e (put2 e rfl)).symm) (news_tail N') J

/-- what stands ahead of the fourth statement -/
structure At4 (base : Heap) (L l : Addr) (h : Heap) (m : Str → Option Value) (a : Int) (hb X DX BB kp X2 DX2 BB2 : Addr) (H B : Array UInt8) (h1 : Int) (k1 : Nat) (h2 : Int) (k2 t : Nat) (h1' : Int) (k1' : Nat) (h2' : Int) (k2' t2 : Nat) (oy oa : Obj) (ta : Nat) : Prop where
  F : Fr base L h m
  Hm : Nm m l #[] H kp X2 X
  e : m (PySem.Str.ofString "handed") = some (.ref hb)
  N : News base L h ((X, instObj 74 DX) :: (DX, bufD h1 k1 BB h2 k2 (0 : Int) t) :: (BB, baObj B) :: (kp, listOf #[] 0) :: (hb, baObj H) :: (X2, instObj 74 DX2) :: (DX2, bufD h1' k1' BB2 h2' k2' (0 : Int) t2) :: (BB2, baObj #[122, 122]) :: (L + 1 + 1, oy) :: (L + 1, oa) :: [])
  ca : oa.data = .cell (some (.int a ta))
  cy : oy.data = .cell none
  o1 : X ≠ DX
  o2 : X ≠ BB
  o3 : DX ≠ BB
  u1 : X2 ≠ DX2
  u2 : X2 ≠ BB2
  u3 : DX2 ≠ BB2
  lk : L + 1 + 1 < hb ∧ hb < kp ∧ kp < X2 ∧ kp < DX2 ∧ kp < BB2
  lx : X2 < X ∧ X2 < DX ∧ X2 < BB ∧ DX2 < X ∧ DX2 < DX ∧ DX2 < BB ∧ BB2 < X ∧ BB2 < DX ∧ BB2 < BB

theorem At4.toJ {B : Array UInt8} (A : At4 base L l h m a hb X DX BB kp X2 DX2 BB2 H B h1 k1 h2 k2 t h1' k1' h2' k2' t2 oy oa ta) (hH : H.size ≤ 3) : B = H → News base L h ((hb, baObj H) :: ((L + 1 + 1, oy) :: (X, instObj 74 DX) :: (DX, bufD h1 k1 BB h2 k2 ((#[] : Array UInt8).size : Int) t) :: (BB, baObj (#[] ++ H)) :: (kp, listOf #[] 0) :: [(X2, instObj 74 DX2), (DX2, bufD h1' k1' BB2 h2' k2' ((0 : Nat) : Int) t2), (BB2, baObj #[122, 122])])) ∧ OwnOff ((L + 1 + 1, oy) :: (X, instObj 74 DX) :: (DX, bufD h1 k1 BB h2 k2 ((#[] : Array UInt8).size : Int) t) :: (BB, baObj (#[] ++ H)) :: (kp, listOf #[] 0) :: [(X2, instObj 74 DX2), (DX2, bufD h1' k1' BB2 h2' k2' ((0 : Nat) : Int) t2), (BB2, baObj #[122, 122])]) [hb] ∧
    LoopJ L l 0 m ((L + 1 + 1, oy) :: (X, instObj 74 DX) :: (DX, bufD h1 k1 BB h2 k2 ((#[] : Array UInt8).size : Int) t) :: (BB, baObj (#[] ++ H)) :: (kp, listOf #[] 0) :: [(X2, instObj 74 DX2), (DX2, bufD h1' k1' BB2 h2' k2' ((0 : Nat) : Int) t2), (BB2, baObj #[122, 122])]) := by
  rintro rfl
  obtain ⟨F, Hm, e, N, ca, cy, o1, o2, o3, u1, u2, u3, ⟨l1, l2, l3, l4, l5⟩, ⟨x1, x2, x3, x4, x5, x6, x7, x8, x9⟩⟩ := A
  have lt : ∀ {a b : Addr}, @LT.lt Nat _ a b → a ≠ b := fun h => Nat.ne_of_lt h
  have gt : ∀ {a b : Addr}, @LT.lt Nat _ b a → a ≠ b := fun h => Nat.ne_of_gt h
  have tr : ∀ {a b c : Addr}, @LT.lt Nat _ a b → @LT.lt Nat _ b c → @LT.lt Nat _ a c := fun h h' => Nat.lt_trans h h'
  have y1 : @LT.lt Nat _ (L + 1 + 1) kp := tr l1 l2
  have y2 : @LT.lt Nat _ kp X := tr l3 x1
  have y3 : @LT.lt Nat _ kp DX := tr l3 x2
  have y4 : @LT.lt Nat _ kp BB := tr l3 x3
  refine ⟨?_, ?_, LoopJ.mk Hm cy o1 o2 o3 (gt y2) (gt y3) (gt y4) (gt (tr y1 y2)) (gt (tr y1 y3)) (gt (tr y1 y4)) (gt y1) ?_ (by simpa using hH) (by simp) (fun v hv => by simp at hv) ⟨DX2, BB2, h1', k1', h2', k2', t2, .head _, .tail _ (.head _), .tail _ (.tail _ (.head _)), u1, u2, u3⟩⟩
  · rw [Array.empty_append]
    refine news_sub N ?_
    intro p hp; simp only [List.mem_cons, List.not_mem_nil, or_false] at hp ⊢
    rcases hp with h | h | h | h | h | h | h | h | h <;> simp [h]
  · intro p hp b hb'
    rw [List.mem_singleton] at hb'
    subst hb'
    simp only [List.mem_cons, List.not_mem_nil, or_false] at hp
    rcases hp with rfl | rfl | rfl | rfl | rfl | rfl | rfl | rfl <;>
      first | exact lt (by assumption) | exact gt (by assumption) | exact gt (tr l2 (by assumption))
  · intro p hp b hb'
    simp only [List.mem_cons, List.not_mem_nil, or_false] at hp hb'
    rcases hp with rfl | rfl | rfl <;> rcases hb' with rfl | rfl | rfl | rfl | rfl <;>
      first | exact lt (by assumption) | exact gt (by assumption) | exact gt (tr y1 (by assumption))
end
end Fr23

namespace Fr23
open PySem PySem.W PySem.Calls PyProof.Rows
theorem fill4' (w : World) : (PySem.Challenge.rw_fr0023_01, FrHd.hd.heap_39 w.params) = (PySem.Challenge.rw_fr0023_01, FrHd.hd.heap_39 w.params) := by w_top off; k_fill; rfl
local macro_rules | `(tactic| boot_fact) => `(tactic| with_reducible exact PyProof.Rows.Boot.bytearray)
local macro_rules | `(tactic| k_mem) => `(tactic| with_reducible assumption)

section
variable {w : World} {s : Shared} {mg mb : Str → Option Value} {mean : ExcName → Option Value} {base : Heap} {l : Addr} {vs : List Value} {ns : List Int} {as₁ as₂ : List Addr} {h : Heap} {L fa : Addr} {cd : Value} {tk : Nat}
  {m : Str → Option Value} {rest news : List (Addr × Obj)} {hb X DX BB kp X2 DX2 BB2 : Addr} {H B : Array UInt8} {h1 h2 h1' h2' : Int} {k1 k2 t k1' k2' t2 : Nat} {oy oa : Obj} {a : Int} {ta : Nat}

set_option maxHeartbeats 8000000 in
theorem law4 (S : Stat w mg mb mean base l vs ns as₁ as₂) (hH : H.size ≤ 3) (A : At4 base L l h m a hb X DX BB kp X2 DX2 BB2 H B h1 k1 h2 k2 t h1' k1' h2' k2' t2 oy oa ta) (hB : ((a.fdiv 4).fmod 2 = 1 ∧ B = #[]) ∨ ((a.fdiv 4).fmod 2 = 0 ∧ B = H)) :
    wpC (model PySem.Challenge.rw_fr0023_01.row.prog w) (callerA.deeper (lawEnv L fa cd)) (execs [lawB 4, lawB 5, lawB 6, lawB 7] (lawEnv L fa cd)) (LawEnd base s) (fun _ _ => False) { s with heap := h, toks := tk } := by
  have S' := S
  have A' := A
  obtain ⟨KX, Tp, hl, hi, hn, hs, hlay, ra, _⟩ := S
  have K0 := below_caller base
  obtain ⟨F, Hm, e, N, ca, cy, o1, o2, o3, u1, u2, u3, ⟨l1, l2, l3, l4, l5⟩, ⟨x1, x2, x3, x4, x5, x6, x7, x8, x9⟩⟩ := A
  have e0 : m = fun y => if y = PySem.Str.ofString "buffer" then some (.ref X) else if y = PySem.Str.ofString "handed" then some (.ref hb) else m y := put2 Hm.buffer (put2 e rfl)
  replace F := frTo F e0
  refine wpC_execs_cons ?_
  conv in (lawB 4) => whnf
  refine wpC_If ?_
  k_steps
  · rename Int.fmod _ 2 = 1 => h1
    refine wpC_execs_cons (wpC_Expr (wpC_Call_Attribute ?_))
    k_steps
    refine wpC_callWith_K (K := FrHd.hd.heap_39 w.params) (by k_is) (wpC_spliced_e (wpC_of ?_))
    k_steps
    refine wpC_spliced_0 ⟨by k_in, wpC_call ?_⟩
    dsimp only [List.nil_append, List.cons_append]
    obtain rfl : B = #[] := by
      rcases hB with ⟨_, h⟩ | ⟨h0, _⟩
      · exact h
      · omega
    rename Fr _ _ _ _ => F'
    refine feed_c (c := H) K0 F' KX Tp N (Around.frames_deeper K0.stack) rfl rfl (by show 301 + 1 < 1000; decide) o1 o2 o3 ?_ (.inr ⟨hb, rfl, .tail _ (.head _)⟩) (by simp; omega) ?_
    · intro p hp b hb'
      have tr : ∀ {a b c : Addr}, @LT.lt Nat _ a b → @LT.lt Nat _ b c → @LT.lt Nat _ a c := fun h h' => Nat.lt_trans h h'
      have lt : ∀ {a b : Addr}, @LT.lt Nat _ a b → a ≠ b := fun h => Nat.ne_of_lt h
      have y0 : @LT.lt Nat _ (L + 1) (L + 1 + 1) := Nat.lt_succ_self _
      simp only [List.mem_cons, List.not_mem_nil, or_false] at hp hb'
      rcases hb' with rfl | rfl | rfl <;> rcases hp with rfl | rfl | rfl | rfl | rfl | rfl | rfl <;>
        first | exact lt (by assumption) | exact lt (tr l3 (by assumption)) | exact lt (tr l2 (tr l3 (by assumption))) | exact lt (tr l1 (tr l2 (tr l3 (by assumption)))) | exact lt (tr y0 (tr l1 (tr l2 (tr l3 (by assumption)))))
    clear F' N
    intro h' tk' F' N'
    refine wpC_execs_nil ?_
    have A₂ : At4 base L l h' m a hb X DX BB kp X2 DX2 BB2 H (#[] ++ H) _ k1 h2 k2 t h1' k1' h2' k2' t2 oy oa ta := ⟨frTo F' e0.symm, Hm, e, N', ca, cy, o1, o2, o3, u1, u2, u3, ⟨l1, l2, l3, l4, l5⟩, ⟨x1, x2, x3, x4, x5, x6, x7, x8, x9⟩⟩
    obtain ⟨r1, r2, r3⟩ := A₂.toJ hH (Array.empty_append)
    exact law5 S' hH A₂.F e r1 r2 r3
  · rename ¬ (Int.fmod _ 2 = 1) => h1
    refine wpC_execs_nil ?_
    obtain ⟨q0, rfl⟩ : (a.fdiv 4).fmod 2 = 0 ∧ B = H := by
      rcases hB with ⟨h, _⟩ | h
      · exact absurd h h1
      · exact h
    obtain ⟨r1, r2, r3⟩ := A'.toJ hH rfl
    exact law5 S' hH A'.F e r1 r2 r3
end
end Fr23

namespace Fr23
open PySem PySem.W PySem.Calls PyProof.Rows
theorem fill3' (w : World) : (PySem.Challenge.rw_fr0023_01, FrHd.hd.heap_39 w.params) = (PySem.Challenge.rw_fr0023_01, FrHd.hd.heap_39 w.params) := by w_top off; k_fill; rfl
local macro_rules | `(tactic| boot_fact) => `(tactic| with_reducible exact PyProof.Rows.Boot.bytearray)
local macro_rules | `(tactic| k_mem) => `(tactic| with_reducible assumption)

section
variable {w : World} {s : Shared} {mg mb : Str → Option Value} {mean : ExcName → Option Value} {base : Heap} {l : Addr} {vs : List Value} {ns : List Int} {as₁ as₂ : List Addr} {h : Heap} {L fa : Addr} {cd : Value} {tk : Nat}
  {m : Str → Option Value} {hb kp X2 DX2 BB2 : Addr} {H : Array UInt8} {h1' h2' : Int} {k1' k2' t2 tt tl : Nat} {oy oa : Obj} {a : Int} {ta : Nat}

set_option maxHeartbeats 8000000 in
theorem law3 (S : Stat w mg mb mean base l vs ns as₁ as₂) (hH : H.size ≤ 3) (F : Fr base L h m) (e1 : m (PySem.Str.ofString "script") = some (.ref l)) (e2 : m (PySem.Str.ofString "taken") = some (.bytes #[] tt)) (e3 : m (PySem.Str.ofString "left") = some (.bytes H tl))
    (e4 : m (PySem.Str.ofString "kept") = some (.ref kp)) (e5 : m (PySem.Str.ofString "beside") = some (.ref X2)) (e6 : m (PySem.Str.ofString "handed") = some (.ref hb))
    (N : News base L h ((kp, listOf #[] 0) :: (hb, baObj H) :: (X2, instObj 74 DX2) :: (DX2, bufD h1' k1' BB2 h2' k2' (0 : Int) t2) :: (BB2, baObj #[122, 122]) :: (L + 1 + 1, oy) :: (L + 1, oa) :: []))
    (ca : oa.data = .cell (some (.int a ta))) (cy : oy.data = .cell none) (u1 : X2 ≠ DX2) (u2 : X2 ≠ BB2) (u3 : DX2 ≠ BB2) (lk : L + 1 + 1 < hb ∧ hb < kp ∧ kp < X2 ∧ kp < DX2 ∧ kp < BB2) :
    wpC (model PySem.Challenge.rw_fr0023_01.row.prog w) (callerA.deeper (lawEnv L fa cd)) (execs [lawB 3, lawB 4, lawB 5, lawB 6, lawB 7] (lawEnv L fa cd)) (LawEnd base s) (fun _ _ => False) { s with heap := h, toks := tk } := by
  have S' := S
  obtain ⟨KX, Tp, hl, hi, hn, hs, hlay, ra, _⟩ := S
  have K0 := below_caller base
  have e0 : m = fun y => if y = PySem.Str.ofString "handed" then some (.ref hb) else m y := put2 e6 rfl
  replace F := frTo F e0
  -- either way the buffer is made, and its name is set
  have fin : ∀ (B : Array UInt8) x dx bb (h1 : Int) (k1 : Nat) (h2 : Int) (k2 t : Nat) h' tk' m', ((a.fdiv 4).fmod 2 = 1 ∧ B = #[]) ∨ ((a.fdiv 4).fmod 2 = 0 ∧ B = H) →
      Fr base L h' m' → m' (PySem.Str.ofString "script") = some (.ref l) → m' (PySem.Str.ofString "taken") = some (.bytes #[] tt) → m' (PySem.Str.ofString "left") = some (.bytes H tl) → m' (PySem.Str.ofString "kept") = some (.ref kp) → m' (PySem.Str.ofString "beside") = some (.ref X2) → m' (PySem.Str.ofString "handed") = some (.ref hb) → m' (PySem.Str.ofString "buffer") = some (.ref x) →
      News base L h' ((x, instObj 74 dx) :: (dx, bufD h1 k1 bb h2 k2 0 t) :: (bb, baObj B) :: (kp, listOf #[] 0) :: (hb, baObj H) :: (X2, instObj 74 DX2) :: (DX2, bufD h1' k1' BB2 h2' k2' (0 : Int) t2) :: (BB2, baObj #[122, 122]) :: (L + 1 + 1, oy) :: (L + 1, oa) :: []) → x ≠ dx → x ≠ bb → dx ≠ bb →
      (∀ p ∈ (kp, listOf #[] 0) :: (hb, baObj H) :: (X2, instObj 74 DX2) :: (DX2, bufD h1' k1' BB2 h2' k2' (0 : Int) t2) :: (BB2, baObj #[122, 122]) :: (L + 1 + 1, oy) :: (L + 1, oa) :: [], p.1 < x ∧ p.1 < dx ∧ p.1 < bb) →
      wpC (model PySem.Challenge.rw_fr0023_01.row.prog w) (callerA.deeper (lawEnv L fa cd)) (execs [lawB 4, lawB 5, lawB 6, lawB 7] (lawEnv L fa cd)) (LawEnd base s) (fun _ _ => False) { s with heap := h', toks := tk' } := by
    intro B x dx bb h1 k1 h2 k2 t h' tk' m' hB F' g1 g2 g3 g4 g5 g6 g7 N' o1 o2 o3 lt
    obtain ⟨a1, a2, a3⟩ := lt _ (.tail _ (.tail _ (.head _)))
    obtain ⟨b1, b2, b3⟩ := lt _ (.tail _ (.tail _ (.tail _ (.head _))))
    obtain ⟨c1, c2, c3⟩ := lt _ (.tail _ (.tail _ (.tail _ (.tail _ (.head _)))))
    exact law4 S' hH ⟨F', ⟨g1, ⟨_, g2⟩, ⟨_, g3⟩, g4, g5, g7⟩, g6, N', ca, cy, o1, o2, o3, u1, u2, u3, lk, ⟨a1, a2, a3, b1, b2, b3, c1, c2, c3⟩⟩ hB
  refine wpC_execs_cons ?_
  conv in (lawB 3) => whnf
  refine wpC_Assign_Name (wpC_IfExp ?_)
  k_steps
  · rename Int.fmod _ 2 = 0 => hq
    refine wpC_Call ?_
    k_steps
    refine wpC_callWith_K (K := FrHd.hd.heap_39 w.params) (by k_is) (wpC_spliced_e (wpC_of ?_))
    k_steps
    refine wpC_spliced_0 ⟨by k_in, ?_⟩
    dsimp only [List.nil_append]
    rename Fr _ _ _ _ => F'
    refine make1_c (c := H) K0 F' KX Tp N (Around.frames_deeper K0.stack) rfl rfl (by show 301 + 1 + 3 < 1000; decide) (.inr ⟨hb, rfl, .tail _ (.head _)⟩) (by omega) ?_
    clear F' N
    intro x dx bb h1 k1 h2 k2 t h' tk' F' N' o1 o2 o3 lt
    k_steps
    rename Fr _ _ _ _ => F'
    rename News _ _ _ _ => N'
    exact fin H x dx bb h1 k1 h2 k2 t _ _ _ (.inr ⟨hq, rfl⟩) F' e1 e2 e3 e4 e5 rfl rfl N' o1 o2 o3 lt
  · rename ¬ (Int.fmod _ 2 = 0) => hq
    have z1 : 0 ≤ (a.fdiv 4).fmod 2 := fmod_lo _ (by decide)
    have z2 : (a.fdiv 4).fmod 2 < 2 := fmod_hi _ (by decide)
    refine wpC_Call ?_
    k_steps
    rename Fr _ _ _ _ => F'
    refine wpC_callWith_K0 (K := FrHd.hd.heap_39 w.params) (by k_in) (by k_is) ?_
    dsimp only [List.nil_append]
    refine make0_c K0 F' KX Tp N (Around.frames_deeper K0.stack) rfl rfl (by show 301 + 1 + 3 < 1000; decide) ?_
    clear F' N
    intro x dx bb h1 k1 h2 k2 t h' tk' F' N' o1 o2 o3 lt
    k_steps
    rename Fr _ _ _ _ => F'
    rename News _ _ _ _ => N'
    exact fin #[] x dx bb h1 k1 h2 k2 t _ _ _ (.inl ⟨by omega, rfl⟩) F' e1 e2 e3 e4 e5 rfl rfl N' o1 o2 o3 lt
end
end Fr23

namespace Fr23
open PySem PySem.W PySem.Calls PyProof.Rows
theorem fill2' (w : World) : (PySem.Challenge.rw_fr0023_01, FrHd.hd.heap_39 w.params) = (PySem.Challenge.rw_fr0023_01, FrHd.hd.heap_39 w.params) := by w_top off; k_fill; rfl
local macro_rules | `(tactic| boot_fact) => `(tactic| with_reducible exact PyProof.Rows.Boot.bytearray)
local macro_rules | `(tactic| k_mem) => `(tactic| with_reducible assumption)
local macro_rules | `(tactic| walk_at "call type:bytes") => `(tactic| (k_here; (with_reducible show wpAny _ _ (call (Value.type "bytes") [Value.ref _]) _ _ _); k_dflt (refine' kba_bytes ?N ?h ?z ?_; (case N => k_asm); (case h => (with_reducible first | assumption | exact List.mem_cons_self | exact List.mem_cons_of_mem _ (List.mem_cons_self) | exact List.mem_cons_of_mem _ (List.mem_cons_of_mem _ (List.mem_cons_self)) | exact List.mem_cons_of_mem _ (List.mem_cons_of_mem _ (List.mem_cons_of_mem _ (List.mem_cons_self))) | exact List.mem_cons_of_mem _ (List.mem_cons_of_mem _ (List.mem_cons_of_mem _ (List.mem_cons_of_mem _ (List.mem_cons_self)))) | exact List.mem_cons_of_mem _ (List.mem_cons_of_mem _ (List.mem_cons_of_mem _ (List.mem_cons_of_mem _ (List.mem_cons_of_mem _ (List.mem_cons_self))))) | exact List.mem_cons_of_mem _ (List.mem_cons_of_mem _ (List.mem_cons_of_mem _ (List.mem_cons_of_mem _ (List.mem_cons_of_mem _ (List.mem_cons_of_mem _ (List.mem_cons_self)))))) | exact List.mem_cons_of_mem _ (List.mem_cons_of_mem _ (List.mem_cons_of_mem _ (List.mem_cons_of_mem _ (List.mem_cons_of_mem _ (List.mem_cons_of_mem _ (List.mem_cons_of_mem _ (List.mem_cons_self))))))) | exact List.mem_cons_of_mem _ (List.mem_cons_of_mem _ (List.mem_cons_of_mem _ (List.mem_cons_of_mem _ (List.mem_cons_of_mem _ (List.mem_cons_of_mem _ (List.mem_cons_of_mem _ (List.mem_cons_of_mem _ (List.mem_cons_self)))))))))); (case z => omega); k_whole); intro _ _))

section
variable {w : World} {s : Shared} {mg mb : Str → Option Value} {mean : ExcName → Option Value} {base : Heap} {l : Addr} {vs : List Value} {ns : List Int} {as₁ as₂ : List Addr} {h : Heap} {L fa : Addr} {cd : Value} {tk : Nat}
  {m : Str → Option Value} {hb : Addr} {H : Array UInt8} {oy oa : Obj} {a : Int} {ta : Nat}

set_option maxHeartbeats 8000000 in
theorem law2 (S : Stat w mg mb mean base l vs ns as₁ as₂) (hH : H.size ≤ 3)
    (F : Fr base L h (fun y => if y = PySem.Str.ofString "handed" then some (.ref hb) else if y = PySem.Str.ofString "script" then some (.ref l) else none))
    (N : News base L h [(hb, baObj H), (L + 1 + 1, oy), (L + 1, oa)]) (o1 : L + 1 + 1 < hb) (ca : oa.data = .cell (some (.int a ta))) (cy : oy.data = .cell none) :
    wpC (model PySem.Challenge.rw_fr0023_01.row.prog w) (callerA.deeper (lawEnv L fa cd)) (execs [lawB 2, lawB 3, lawB 4, lawB 5, lawB 6, lawB 7] (lawEnv L fa cd)) (LawEnd base s) (fun _ _ => False) { s with heap := h, toks := tk } := by
  have S' := S
  obtain ⟨KX, Tp, hl, hi, hn, hs, hlay, ra, _⟩ := S
  have K0 := below_caller base
  refine wpC_execs_cons ?_
  conv in (lawB 2) => whnf
  refine wpC_Assign_Tuple (wpC_Tuple (wpC_spliced_e (wpC_of ?_)))
  k_steps
  refine wpC_spliced_e (wpC_of ?_)
  k_steps
  refine wpC_spliced_e (wpC_of ?_)
  k_steps
  refine wpC_spliced_e (wpC_Call ?_)
  k_steps
  refine wpC_callWith_K (K := FrHd.hd.heap_39 w.params) (by k_is) (wpC_spliced_e (wpC_of ?_))
  k_steps
  refine wpC_spliced_0 ⟨by k_in, ?_⟩
  dsimp only [List.nil_append]
  rename Fr _ _ _ _ => F'
  rename News _ _ _ _ => N'
  refine make1_c (c := #[122, 122]) K0 F' KX Tp N' (Around.frames_deeper K0.stack) rfl rfl (by show 301 + 1 + 3 < 1000; decide) (.inl ⟨_, rfl⟩) (by decide) ?_
  clear F' N'
  rename hb < _ ∧ _ => l1
  intro x dx bb h1 k1 h2 k2 t h' tk' F' N' u1 u2 u3 lt
  refine wpC_spliced_0 ?_
  obtain ⟨a1, a2, a3⟩ := lt _ (.head _)
  k_steps
  rename Fr _ _ _ _ => F'
  rename News _ _ _ _ => N'
  refine law3 (h1' := h1) (k1' := k1) (h2' := h2) (k2' := k2) (t2 := t) S' hH F' rfl rfl rfl rfl rfl rfl (news_sub N' ?_) ca cy u1 u2 u3 ⟨o1, l1.1, a1, a2, a3⟩
  intro p hp
  simp only [List.mem_cons, List.not_mem_nil, or_false] at hp ⊢
  rcases hp with h | h | h | h | h | h | h <;> simp [h]
end
end Fr23

namespace Fr23
open PySem PySem.W PySem.Calls PyProof.Rows
theorem fill1' (w : World) : (PySem.Challenge.rw_fr0023_01, FrHd.hd.heap_39 w.params) = (PySem.Challenge.rw_fr0023_01, FrHd.hd.heap_39 w.params) := by w_top off; k_fill; rfl
local macro_rules | `(tactic| boot_fact) => `(tactic| with_reducible exact PyProof.Rows.Boot.bytearray)

theorem byteArr_size (zs : List Int) : (byteArr zs).size = zs.length := by simp [byteArr]

section
variable {w : World} {s : Shared} {mg mb : Str → Option Value} {mean : ExcName → Option Value} {base : Heap} {l : Addr} {vs : List Value} {ns : List Int} {as₁ as₂ : List Addr} {h : Heap} {L fa : Addr} {cd : Value} {tk : Nat}

set_option maxHeartbeats 8000000 in
theorem law1 (S : Stat w mg mb mean base l vs ns as₁ as₂) {ta : Nat} {oa oy : Obj} {a : Int}
    (F : Fr base L h (fun y => if y = PySem.Str.ofString "script" then some (.ref l) else none))
    (N : News base L h [(L + 1 + 1, oy), (L + 1, oa)]) (cy : oy.data = .cell none) (ca : oa.data = .cell (some (.int a ta))) :
    wpC (model PySem.Challenge.rw_fr0023_01.row.prog w) (callerA.deeper (lawEnv L fa cd)) (execs [lawB 1, lawB 2, lawB 3, lawB 4, lawB 5, lawB 6, lawB 7] (lawEnv L fa cd)) (LawEnd base s) (fun _ _ => False) { s with heap := h, toks := tk } := by
  have S' := S
  obtain ⟨KX, T, hl, hi, hn, hs, hlay, ra, r0⟩ := S'
  have K0 := below_caller base
  refine wpC_execs_cons ?_
  conv in (lawB 1) => whnf
  refine wpC_Assign_Name (wpC_Call ?_)
  k_steps
  refine wpC_callWith_machine (keeps_type _) (wpC_of ?_)
  k_steps
  rename Fr _ _ _ _ => F'
  rename News _ _ _ _ => N'
  rename IntsAre _ _ => hI'
  have hsz : (List.map (fun k' => (a + 7 * k').fmod 256) (rangeKs 0 (a.fmod 4 - 0).toNat)).length ≤ 3 := by
    rw [List.length_map, rangeKs_length]; omega
  refine kba_make F' N' (News.isList N' (.head _)) hI' (fun n hn => ?_) (by omega) ?_
  · obtain ⟨k, _, rfl⟩ := List.mem_map.mp hn
    exact ⟨fmod_lo _ (by decide), fmod_hi _ (by decide)⟩
  intro x h' F' N' l1 l2
  have l3 : L + 1 + 1 < x := l1 _ (.tail _ (.head _))
  clear l1
  k_steps
  rename Fr _ _ _ _ => F'
  rename News _ _ _ _ => N'
  refine law2 S (Nat.le_trans (Nat.le_of_eq (byteArr_size _)) hsz) F' (news_sub N' ?_) l3 ca cy
  intro p hp
  simp only [List.mem_cons, List.not_mem_nil, or_false] at hp ⊢
  rcases hp with h | h | h <;> simp [h]
end
end Fr23

namespace Fr23
open PySem PySem.W PySem.Calls PyProof.Rows
theorem fill0' (w : World) : (PySem.Challenge.rw_fr0023_01, FrHd.hd.heap_39 w.params) = (PySem.Challenge.rw_fr0023_01, FrHd.hd.heap_39 w.params) := by w_top off; k_fill; rfl
local macro_rules | `(tactic| boot_fact) => `(tactic| with_reducible exact PyProof.Rows.Boot.bytearray)

section
variable {w : World} {s : Shared} {mg mb : Str → Option Value} {mean : ExcName → Option Value} {base : Heap} {l : Addr} {vs : List Value} {ns : List Int} {as₁ as₂ : List Addr} {h : Heap} {L fa : Addr} {cd : Value} {tk : Nat}

set_option maxHeartbeats 8000000 in
theorem law0 (S : Stat w mg mb mean base l vs ns as₁ as₂) {oa oy : Obj}
    (F : Fr base L h (fun y => if y = PySem.Str.ofString "script" then some (.ref l) else none))
    (N : News base L h [(L + 1 + 1, oy), (L + 1, oa)]) (cy : oy.data = .cell none) (ca : oa.data = .cell none) :
    wpC (model PySem.Challenge.rw_fr0023_01.row.prog w) (callerA.deeper (lawEnv L fa cd)) (execs [lawB 0, lawB 1, lawB 2, lawB 3, lawB 4, lawB 5, lawB 6, lawB 7] (lawEnv L fa cd)) (LawEnd base s) (fun _ _ => False) { s with heap := h, toks := tk } := by
  have S' := S
  obtain ⟨KX, T, hl, hi, hn, hs, hlay, ra, r0⟩ := S'
  have K0 := below_caller base
  refine wpC_execs_leaf ?_
  conv in (lawB 0) => whnf
  k_steps
  · rename Fr _ _ _ _ => F'
    rename News _ _ _ _ => N'
    rename _ = Data.cell (some _) => ca'
    exact law1 S F' (news_tail N') cy ca'
  · exfalso
    rename decide (ns = []) = false => h1
    rename _ ∨ _ => h2
    have h3 : ns ≠ [] := of_decide_eq_false h1
    have h4 := List.length_pos_iff.mpr h3
    omega
  · rename Fr _ _ _ _ => F'
    rename News _ _ _ _ => N'
    rename _ = Data.cell (some _) => ca'
    exact law1 S F' (news_tail N') cy ca'
end
end Fr23

namespace Fr23
open PySem PySem.W PySem.Calls PyProof.Rows

set_option maxHeartbeats 8000000 in
theorem top : PySem.Challenge.rw_fr0023_01.Holds := FrHd.hd (by
  intro w s₀ s₁ mg mb G Y fa o pm cd doc dV kV ho hd hcd hD hmg hg args vals as hpre hlay hrd hwl hlo
  have KX := kIn_of Y
  refine Ground.open G ?_
  intro T B D TE TW
  try (refine guard_noD D (by decide +kernel) ?_; clear D)
  wrow_args hpre hlay hrd hwl hlo
  all_goals (refine enterC ?_ ?_)
  case refine_2 =>
    intro h' tk hk
    exact GoodW.toG ⟨.inl ⟨_, _, [], rfl, raisesW_false (by wrow_none_raised), .bool true, postW_of (by wrow_shape) (by wtm_val) (by w_fin), unshared_nil⟩, hk, rfl, hg⟩
  have he := Dflts.none hD rfl; subst he; have he := Dflts.noKw hD; subst he
  refine codeC_cells (by decide) ho (fd_plain hd) (Top.nolimit T) hcd rfl (kinds_of (by kinds_ok)) (by decide) fun h₁ tk₁ cells F N0 X0 => ?_
  cells_open X0
  rename Heap.IsList _ _ _ => hlist
  rename IntsAre _ _ => hints
  rename ¬ (_ < _) => hlen
  rename_i left right
  refine wpC_mono (law0 (w := w) (s := s₁) (mg := mg) (mb := mb) (fa := fa) (cd := cd) (tk := tk₁) (S := ⟨KX, T, hlist, hints, by omega, by assumption, by assumption, by assumption, by assumption⟩) F N0 left right) (fun f s' z => ?_) fun _ _ x => x
  obtain ⟨rfl, h', tk, rfl, hk⟩ := z
  exact ⟨rfl, h', tk, rfl, hk⟩)
end Fr23

theorem PySem.Challenge.cw_fr0023_01_holds : PySem.Challenge.rw_fr0023_01.Holds :=
  Fr23.top
