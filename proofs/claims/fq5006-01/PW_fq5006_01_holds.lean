import PyProof.Rows.All
import Wide.All
import OpenK.AllK
import Wide.FinOn
import PySem.Challenge.RW_fq5006_01
set_option Elab.async false
set_option maxRecDepth 100000
/-! A finer weakest precondition: the stack beneath bears no code that could hold a bytearray's buffer. -/
namespace Mine
open PySem PySem.W PyProof.Rows PySem.Calls PySem.Spec
open Sem (wp)

def decIds : List String := ["bytearray.__contains__", "bytearray.__mod__", "bytearray.__rmod__", "_struct.pack_into.held", "bytearray.find.held"] ++ Builtin.Bytes.decodersThatHold
def cleanC : PySem.Code → Bool
  | .builtin id _ => !decIds.contains id
  | _ => true
def Clean (Γ : PySem.Ctx) : Prop := ∀ x ∈ Γ.below, cleanC x.1 = true

def wpF {α : Type} (M : Model) (A : Around) (t : Sem α) (Q : α → Shared → Prop) (E : Value → Shared → Prop) (s : Shared) : Prop :=
  ∀ Γ p, PySem.Ctx.In Γ A → Clean Γ → cleanC Γ.code = true → wp M Γ t (fun a _ s' => Q a s') (fun e _ s' => E e s') p s
def codeF (M : Model) (A : Around) (c : PySem.Code) (R : Result → Shared → Prop) (s : Shared) : Prop :=
  ∀ Γ p, Γ.code = c → PySem.Ctx.Below Γ A → Clean Γ → wpCode M Γ R p s

section
variable {α β : Type} {M : Model} {A : Around} {E : Value → Shared → Prop} {s : Shared} {env : Env}

theorem wpF_of_any {t : Sem α} {Q : α → Shared → Prop} (h : wpAny M A t Q E s) : wpF M A t Q E s := fun Γ p hΓ _ _ => h Γ p hΓ
theorem codeF_of_any {c : PySem.Code} {R : Result → Shared → Prop} (h : codeAny M A c R s) : codeF M A c R s := fun Γ p hc hΓ _ => h Γ p hc hΓ
theorem wpF_pure {a : α} {Q : α → Shared → Prop} (h : Q a s) : wpF M A (pure a) Q E s := fun _ _ _ _ _ => h
theorem wpF_mono {t : Sem α} {Q Q' : α → Shared → Prop} {E' : Value → Shared → Prop} (h : wpF M A t Q E s)
    (hQ : ∀ a s, Q a s → Q' a s) (hE : ∀ e s, E e s → E' e s) : wpF M A t Q' E' s :=
  fun Γ p hΓ hc hk => Sem.wp_mono M Γ t (fun a _ s => hQ a s) (fun e _ s => hE e s) p s (h Γ p hΓ hc hk)
theorem codeF_mono {c : PySem.Code} {R R' : Result → Shared → Prop} (h : codeF M A c R s) (hR : ∀ r s, R r s → R' r s) : codeF M A c R' s :=
  fun Γ p hc hΓ hk => wpCode_mono hR (h Γ p hc hΓ hk)
theorem wpF_bind {m : Sem α} {f : α → Sem β} {Q : β → Shared → Prop} (h : wpF M A m (fun a s' => wpF M A (f a) Q E s') E s) : wpF M A (m >>= f) Q E s := fun Γ p hΓ hc hk => by
  rw [Sem.wp_bind']
  exact Sem.wp_mono M Γ m (fun a p' s' h' => h' Γ p' hΓ hc hk) (fun _ _ _ h' => h') p s (h Γ p hΓ hc hk)
/-- a first part that walks by the coarse rules -/
theorem wpF_bindA {m : Sem α} {f : α → Sem β} {Q : β → Shared → Prop} (h : wpAny M A m (fun a s' => wpF M A (f a) Q E s') E s) : wpF M A (m >>= f) Q E s := wpF_bind (wpF_of_any h)
theorem wpF_tryCatch {m : Sem α} {k : Value → Sem α} {Q : α → Shared → Prop} (h : wpF M A m Q (fun e s' => wpF M A (k e) Q E s') s) : wpF M A (tryCatch m k) Q E s := fun Γ p hΓ hc hk => by
  rw [Sem.wp_tryCatch']
  exact Sem.wp_mono M Γ m (fun _ _ _ h' => h') (fun e p' s' h' => h' Γ p' hΓ hc hk) p s (h Γ p hΓ hc hk)
theorem wpF_onRaise {m : Sem α} {k : Value → Sem Unit} {Q : α → Shared → Prop} (h : wpF M A m Q (fun e s' => wpAny M A (k e) (fun _ s'' => E e s'') E s') s) : wpF M A (m.onRaise k) Q E s := fun Γ p hΓ hc hk => by
  rw [Sem.wp_onRaise]
  exact Sem.wp_mono M Γ m (fun _ _ _ h' => h') (fun e p' s' h' => h' Γ p' hΓ) p s (h Γ p hΓ hc hk)
theorem wpF_attempt {m : Sem α} {Q : Except Value α → Shared → Prop} (h : wpF M A m (fun a => Q (.ok a)) (fun e => Q (.error e)) s) : wpF M A m.attempt Q E s := fun Γ p hΓ hc hk => by rw [Sem.wp_attempt]; exact h Γ p hΓ hc hk
theorem wpF_holding {vs : List Value} {m : Sem α} {Q : α → Shared → Prop} (h : wpF M A m Q E s) : wpF M A (holding vs m) Q E s :=
  fun Γ p hΓ hc hk => by rw [Sem.wp_holding]; exact h Γ p hΓ hc hk
theorem wpF_keep {vs : List Value} {m : Sem α} {Q : α → Shared → Prop} (h : wpF M A m Q E s) : wpF M A (m.keep vs) Q E s :=
  fun Γ p hΓ hc hk => by rw [Sem.wp_keep]; exact h Γ p hΓ hc hk

theorem wpF_of_in1 {t : Sem α} {Q : α → Shared → Prop} (h : wpF M A.in1 t Q E s) : wpF M A t Q E s :=
  fun Γ p hΓ => h Γ p ⟨hΓ.1, hΓ.2.1, hΓ.2.2.1, hΓ.2.2.2.1, Nat.le_succ_of_le hΓ.2.2.2.2⟩

theorem clean_enter {Γ : PySem.Ctx} {c : PySem.Code} {h : Option Value} {p : Pos} (hc : Clean Γ) (hk : cleanC Γ.code = true) : Clean (Γ.enter c h p) := fun x hx => by
  rcases List.mem_cons.mp hx with rfl | hx
  · exact hk
  · exact hc x hx
theorem wpF_run {c : PySem.Code} {h : Option Value} {Q : Flow → Shared → Prop}
    (hc : codeF M (A.mark h) c (fun r s' => match r with | .ok f => Q f s' | .error e => E e s') s) (hnb : h ≠ some byPass := by intro x; cases x) :
    wpF M A (run c h) Q E s :=
  fun Γ p hΓ hcl hk => by rw [Sem.wp_run]; exact hc _ p rfl (hΓ.enter c h p hnb) (clean_enter hcl hk)
theorem wpF_runValue {c : PySem.Code} {Q : Value → Shared → Prop}
    (hc : codeF M A c (fun r s' => match r with | .ok (.ret v) => Q v s' | .ok _ => False | .error e => E e s') s) :
    wpF M A (runValue c) Q E s := fun Γ p hΓ hcl hk => by rw [Sem.wp_runValue]; exact hc _ p rfl (hΓ.enter c none p (by intro x; cases x)) (clean_enter hcl hk)
theorem wpF_call {f : Value} {pos : List Value} {kw : List (Str × Value)} {Q : Value → Shared → Prop}
    (hc : codeF M A (.call f ⟨pos, kw⟩) (fun r s' => match r with | .ok (.ret v) => Q v s' | .ok _ => False | .error e => E e s') s) :
    wpF M A (call f pos kw) Q E s := wpF_runValue hc
theorem codeF_of_tree {c : PySem.Code} {R : Result → Shared → Prop} (hk : cleanC c = true)
    (h : wpF M (A.under c) (M.den c) (fun fin s' => match fin with | .done f => R (.ok f) s' | .again c' => c'.quiet = true ∧ codeF M A c' R s')
      (fun e s' => R (.error e) s') s) : codeF M A c R s := fun Γ p hc hΓ hcl => by
  rw [wpCode_iff_wp, hc]
  refine Sem.wp_mono M Γ _ (fun fin p' s' h' => ?_) (fun _ _ _ h' => h') p s (h Γ p (hc ▸ hΓ.in) hcl (by rw [hc]; exact hk))
  cases fin with
  | done f => exact h'
  | again c' => exact ⟨h'.1, h'.2 (Γ.goto c') p' rfl (hΓ.goto c') hcl⟩
theorem codeF_loop' {c : PySem.Code} {R : Result → Shared → Prop} (hk : cleanC c = true) (hq : c.quiet = true) (I : Nat → Shared → Prop)
    (turn : ∀ n s, I n s → wpF M (A.under c) (M.den c)
      (fun fin s' => match fin with
        | .done f => R (.ok f) s'
        | .again c' => (c' = c ∧ ∃ m, m < n ∧ I m s') ∨ (c'.quiet = true ∧ codeF M A c' R s')) (fun e s' => R (.error e) s') s)
    (n : Nat) (h : I n s) : codeF M A c R s := by
  induction n using Nat.strongRecOn generalizing s with
  | ind n ih =>
    refine codeF_of_tree hk (wpF_mono (turn n s h) (fun fin s' hf => ?_) fun _ _ h' => h')
    cases fin with
    | done f => exact hf
    | again c' =>
      rcases hf with ⟨rfl, m, hm, hI⟩ | hf
      · exact ⟨hq, ih m hm hI⟩
      · exact hf

theorem codeF_le {c : PySem.Code} {R : Result → Shared → Prop} {A' : Around} (h : codeF M A c R s) (hin : ∀ Γ : PySem.Ctx, Γ.Below A' → Γ.Below A) : codeF M A' c R s :=
  fun Γ p hc hΓ => h Γ p hc (hin Γ hΓ)

theorem wpF_noted {m : Sem α} {Q : α → Shared → Prop} (h : wpF M A m Q (notedBy M A env E) s) : wpF M A (m.onRaise fun x => do noteFrame x env; theTreesLotGoes x) Q E s :=
  wpF_onRaise (wpF_mono h (fun _ _ q => q) fun _ _ hx => wpAny_bind (wpAny_mono hx (fun _ _ e => wpAny_theTreesLotGoes e) fun _ _ e => e))
theorem wpF_runOwn {c : PySem.Code} {h : Option Value} {Q : Flow → Shared → Prop}
    (hc : codeF M (A.mark h) c (fun r s' => match r with | .ok f => Q f s' | .error e => cameBackBy M A env E e s') s) (hnb : h ≠ some byPass := by intro x; cases x) :
    wpF M A (runOwn c env h) Q E s := by
  unfold runOwn
  exact wpF_onRaise (wpF_run hc hnb)

/-- no buffer is held -/
theorem wpF_stackAny {f : PySem.Code × Pos → Bool} {Q : Bool → Shared → Prop} (hf : ∀ c p, cleanC c = true → f (c, p) = false) (h : Q false s) : wpF M A (do return (← stack).any f) Q E s := fun Γ p _ hcl hk => by
  show Q (((Γ.code, p) :: Γ.below).any f) s
  have e : ((Γ.code, p) :: Γ.below).any f = false := List.any_eq_false.mpr fun x hx => by
    rcases List.mem_cons.mp hx with rfl | hx
    · rw [hf _ _ hk]; exact Bool.false_ne_true
    · obtain ⟨c, q⟩ := x
      rw [hf c q (hcl _ hx)]; exact Bool.false_ne_true
  rw [e]; exact h
theorem exported_off (self : Value) (c : PySem.Code) (p : Pos) (hk : cleanC c = true) :
    (match (c, p) with
    | (.builtin "bytearray.__contains__" ⟨v :: _, _⟩, _) | (.builtin "bytearray.__mod__" ⟨v :: _, _⟩, _)
    | (.builtin "bytearray.__rmod__" ⟨_ :: v :: _, _⟩, _) | (.builtin "_struct.pack_into.held" ⟨v :: _, _⟩, _) => Builtin.Bytes.sameRef v self
    | (.builtin "bytearray.find.held" ⟨_ :: _ :: held, _⟩, _) => held.any (Builtin.Bytes.sameRef self)
    | (.builtin id ⟨v :: _, _⟩, _) => Builtin.Bytes.sameRef v self && Builtin.Bytes.decodersThatHold.contains id
    | _ => false) = false := by
  have no : ∀ id args, c = .builtin id args → id ∈ decIds → False := fun id args e m => by
    subst e
    have : decIds.contains id = true := List.contains_iff_mem.mpr m
    simp [cleanC, m] at hk
  split
  all_goals first
    | rfl
    | (rename_i heq
       injection heq with e1 e2
       first
         | exact (no _ _ e1 (by decide +kernel)).elim
         | (rename_i id v _ _ _ _ _ _ _ _
            cases q : Builtin.Bytes.decodersThatHold.contains id with
            | false => exact Bool.and_false _
            | true => exact (no _ _ e1 (List.mem_append_right _ (List.contains_iff_mem.mp q))).elim))
end
end Mine
/-! The head over the finer logic: the law's call is asked of the very stack that the claim names (no code beneath holds a buffer). -/
namespace MineHead
open Mine (wpF wpF_mono wpF_bind wpF_bindA wpF_pure)
open _root_.PySem _root_.PySem.W PyProof.Rows PySem.Calls PySem.Spec

theorem threadF {prog : Program} {w : World} {t : Sem Fin} {s : Shared} {R : Result → Shared → Prop} (hreg : s.asleep)
    (h : wpF (model prog w) callerA t (fun fin s' => ∃ f, fin = .done f ∧ (R (.ok f) s' ∧ leftWithCleanup s'.gens = false)) (fun e s' => R (.error e) s' ∧ leftWithCleanup s'.gens = false) s) :
    ∃ n r s' s'', runN (denote table) prog w n s ⟨t, .builtin "claim.caller" {}, default, []⟩ = .halted (outcomeOf r) s' ∧
      schedN (denote table) prog w n (.single s ⟨t, .builtin "claim.caller" {}, default, []⟩) = .halted (outcomeOf r) s' ∧ s'.forget = s''.forget ∧ R r s'' := by
  obtain ⟨n, r, s₁, s₂, hs, hn, hfo, hR⟩ := wp_halts_full (M := model prog w) (R := R) (c := .builtin "claim.caller" {}) (p := default) hreg
    (Sem.wp_mono _ _ t (fun fin p' s' h' => by obtain ⟨f, rfl, hf⟩ := h'; exact hf) (fun _ _ _ h' => h') default s (h _ default caller_in (fun _ hx => nomatch hx) (by decide +kernel)))
  exact ⟨n, r, s₂, s₁, hn, hs, hfo, hR⟩

theorem specF {c : ClaimW} {tree : List Value → Sem Fin} {w : World} {s : Shared} {free : Addr → Prop} {gens : Prop} {kept : Heap → Prop} (hz : s.asleep) (hgens : s.gens = #[])
    (hspec : ∀ args, c.pre args = true → WData.layableAll args = true →
      ∀ ord : List DictEntry → List DictEntry, (∀ l, (ord l).Perm l) →
      ∃ vs s₁, layAllW c.records (classAt s.heap) w.params ord args s = some (vs, s₁) ∧
        wpF (model c.prog w) callerA (tree vs) (fun fin s' => ∃ f, fin = .done f ∧ (c.Ends s args vs s₁ (.ok f) s' ∧ s'.os = s.os ∧ AllBare s'.gens ∧ kept s'.heap))
          (fun e s' => c.Ends s args vs s₁ (.error e) s' ∧ s'.os = s.os ∧ AllBare s'.gens ∧ kept s'.heap) s₁) :
    c.CallFrom (fun vs => ⟨tree vs, .builtin "claim.caller" {}, default, []⟩) w free gens kept s := by
  intro args hpre hlay ord hord
  obtain ⟨vs, s₁, hlaid, hcode⟩ := hspec args hpre hlay ord hord
  have hal := layAllW_rest _ _ _ hlaid
  obtain ⟨k, r, s', s'', hrun, hsched, hfo, hcase, hos, hkp⟩ := threadF (prog := c.prog) (w := w) (t := tree vs) (s := s₁)
    (R := fun r s' => c.Ends s args vs s₁ r s' ∧ s'.os = s.os ∧ kept s'.heap)
    (Shared.asleep_of_life hal.2.2.2 hz)
    (wpF_mono hcode (by
      rintro fin s' ⟨f, e, h1, h2, h3, h4⟩
      exact ⟨f, e, ⟨h1, h2, h4⟩, leftWithCleanup_false_of_bare h3⟩) (by
      rintro e s' ⟨h1, h2, h3, h4⟩
      exact ⟨⟨h1, h2, h4⟩, leftWithCleanup_false_of_bare h3⟩))
  obtain ⟨eh, _, _, eo, _⟩ := Shared.forget_eq hfo
  have hcase := hcase.congr eh
  have hkp : kept s'.heap := by first | exact eh ▸ hkp | (rw [eh] at hkp; exact hkp) | (rw [← eh] at hkp; exact hkp)
  rw [← eo] at hos
  have hlife : s'.heap.life = s.heap.life := (runN_life _ _ _ hrun).trans hal.2.2.2
  refine ⟨vs, s₁, hlaid, k, _, s', hsched, ?_, (fun _ i x hx => by rw [hgens] at hx; simp at hx), hkp, by rw [hlife], Shared.rest_eq hos⟩
  rcases hcase with ⟨v, rfl, d1, d2, d3, d4, d5⟩ | ⟨e, ob, cls, rfl, d1, d2, d3, d4, d5⟩
  · exact .inl ⟨v, rfl, d1, d2, d3, fun b o y _ => d4 b o y, d5⟩
  · exact .inr ⟨e, ob, cls, rfl, d1, d2, d3, d4, fun b o y _ => d5 b o y⟩

theorem openF {r : RowW} {run : Value → List Value → Sem Value} {tree : List Value → Sem Fin} {q : Program} {loose defs kps : List Str} {writes : Bool} {Xt : Shared → Bool} {XP : (Str → Option Value) → Heap → Prop} {α : Type} {Yf : Shared → α} {Ya : World → α} {YP : World → Heap → Prop} {N : Nat}
    (left : LeftO r.prog q loose Xt Yf Ya N) (hY : ∀ w s, Yf s = Ya w → YP w s.heap) (hYk : ∀ w h h', YP w h → (∀ b o, h.get? b = some o → h'.get? b = some o) → YP w h') (hX : ∀ s, Xt s = true → XP (s.heap.nsMap mainGlobals) s.heap) (hXk : ∀ mg h h', XP mg h → (∀ b o, h.get? b = some o → h'.get? b = some o) → XP mg h')
    (hRf : ∀ s, Xt s = true → RecFacts r.records s.heap) (hwr : (!writes || r.records.isEmpty) = true) (ok : (chainsOk q && opensWell r.prog && (frees r && r.within.isEmpty)) = true) (hb : r.prog.bare) (hw : r.promised)
    (ht : ∀ vs (w : World) (s : Shared) mg f (Q : Fin → Shared → Prop) (E : Value → Shared → Prop), s.heap.Ns mainGlobals mg → mg r.name = some f → wpF (model r.prog w) callerA (run f vs) (fun v s' => Q (.done (.ret v)) s') E s → wpF (model r.prog w) callerA (tree vs) Q E s)
    (pin : ∀ w s, s.heap.isNs mainGlobals = true → Ground q loose [] XP w s (s.heap.nsMap mainGlobals) (s.heap.nsMap builtinsNs) s.heap → ∀ n ∈ defs, isTheDefsW r.prog s.heap n)
    (call : ∀ (w : World) (s₀ s₁ : Shared) (mg mb : Str → Option Value), Ground q loose r.records XP w s₀ mg mb s₁.heap → YP w s₁.heap → ∀ (args : List WData) (vs : List Value) (as : List Addr),
      r.claim.pre args = true → WData.layableAll args = true → Laid r.records w s₀ s₁ args vs as → sysModules < s₀.heap.objs.size → ∃ f, mg r.name = some f ∧
        wpF (model r.prog w) callerA (run f vs) (fun v s' => GoodWG r.claim (classAt s₀.heap) (ExcName.means s₀.heap) args s₁ (.ok (.ret v)) s')
          (fun e s' => GoodWG r.claim (classAt s₀.heap) (ExcName.means s₀.heap) args s₁ (.error e) s') s₁) : r.claim.HoldsOpenBy (fun vs => ⟨tree vs, .builtin "claim.caller" {}, default, []⟩) defs kps writes := by
  obtain ⟨ok, k5⟩ := Bool.and_eq_true_iff.mp ok
  obtain ⟨hch, o1⟩ := Bool.and_eq_true_iff.mp ok
  obtain ⟨k5, k6⟩ := Bool.and_eq_true_iff.mp k5
  obtain ⟨hsame, hu, ha, hap, hm⟩ := frees_parts k5
  refine ⟨⟨hb, o1, by show r.makers.map _ = []; rw [hm]; rfl⟩, hw.witness, fun w => ⟨(left.behind hX hch w).1, fun s' hs' => ?_⟩⟩
  obtain ⟨s₀, hf, hg0, s, hT, hz, hgens, hg, G00, y⟩ := (left.behind (XP := fun mg h => XP mg h ∧ RecFacts r.records h) (fun s hs => ⟨hX s hs, hRf s hs⟩) hch w).2 s' hs'
  have G0 : Ground q loose [] XP w s (s.heap.nsMap mainGlobals) (s.heap.nsMap builtinsNs) s.heap := ⟨G00.T, G00.B, G00.D, G00.TE, G00.TD, G00.W, G00.X.1, G00.cls, G00.has, G00.apart, G00.once, G00.K⟩
  have RF := G00.X.2
  have hT' := hT
  refine ⟨s₀, hf, hg0, s, hT, pin w s hg G0, RF.1, RF.2.1, ?_⟩
  have hgens : s.gens = #[] := Array.eq_empty_of_size_eq_zero (beq_iff_eq.mp hgens)
  have G : Ground q loose r.records XP w s _ _ s.heap := RF.ground G0
  refine specF (c := r.claim) hz hgens fun args hpre hlay ord hord => ?_
  obtain ⟨⟨vs, s₁⟩, hlaid⟩ := Option.isSome_iff_exists.mp (layAllW_isSome (P := w.params) (ord := ord) G.has args r.args s (pre_splitW hpre).1)
  have keeps := layAllW_keeps _ _ _ hlaid
  have hal := layAllW_rest _ _ _ hlaid
  obtain ⟨as, hrd, hin, hold⟩ := reads_layAllW hord _ _ _ hlaid hlay s₁.heap (fun _ _ e => e)
  have L : Laid r.records w s s₁ args vs as := ⟨⟨ord, hord, hlaid⟩, hrd, hin, hold, keeps, hal.1.trans hgens, hal.2.2.1⟩
  have G₁ := G.keeps hXk keeps
  obtain ⟨f, hf, h⟩ := call w s s₁ _ _ G₁ (hYk _ _ _ (hY w s y) keeps) args vs as hpre hlay L G.low
  have hi := ident_freeW hu ha hap
  have hwi : r.claim.within = [] := List.isEmpty_iff.mp k6
  exact ⟨vs, s₁, hlaid, ht vs w s₁ _ f _ _ G₁.T.g hf (wpF_mono h (fun v s' g => ⟨_, rfl, have z := g.laid (c := r.claim) hsame hwi hi L; ⟨z.1, z.2.1, z.2.2, fun q => ⟨namesKept_of hT' hg kps keeps g.2.1.old, noTable hwr q⟩⟩⟩) fun e s' g => have z := g.laid (c := r.claim) hsame hwi hi L; ⟨z.1, z.2.1, z.2.2, fun q => ⟨namesKept_of hT' hg kps keeps g.2.1.old, noTable hwr q⟩⟩)⟩

abbrev WalkF (q : Program) (loose : List Str) (XP : (Str → Option Value) → Heap → Prop) (YP : World → Heap → Prop) (r : RowW) (d : DefRec) (kwd : List (Str × Expr)) (run : Value → List Value → Sem Value) : Prop :=
  ∀ (w : World) (s₀ s₁ : Shared) (mg mb : Str → Option Value), Ground q loose r.records XP w s₀ mg mb s₁.heap → YP w s₁.heap → ∀ (a : Addr) (o : Obj) (pm cd doc dV kV : Value), s₁.heap.get? a = some o →
    o.data = .func { docDef d.name d.params d.body d.scope pm cd doc with defaults := dV, kwdefaults := kV } → s₁.heap.CodeRec cd d.name → Dflts mg s₁.heap d.params kwd dV kV → mg d.name = some (.ref a) → s₁.gens = #[] →
    ∀ (args : List WData) (vals : List Value) (as : List Addr), r.claim.pre args = true → WData.layableAll args = true → ReadsAllW r.records (classAt s₀.heap) s₁.heap vals args as → WellAll w.params s₁.heap vals args → (∀ a ∈ as, (a == sysModules) = false) →
      wpF (model r.prog w) callerA (run (.ref a) vals) (fun v s' => GoodWG r.claim (classAt s₀.heap) (ExcName.means s₀.heap) args s₁ (.ok (.ret v)) s')
        (fun e s' => GoodWG r.claim (classAt s₀.heap) (ExcName.means s₀.heap) args s₁ (.error e) s') s₁

/-- the head's theorem in this namespace: the finer one -/
theorem PySem.W.holds_open {r : OpenRow} {q : Program} {loose : List Str} {Xt : Shared → Bool} {XP : (Str → Option Value) → Heap → Prop} {α : Type} {Yf : Shared → α} {Ya : World → α} {YP : World → Heap → Prop} {d : DefRec} {kwd : List (Str × Expr)} {N : Nat}
    (left : LeftO r.prog q loose Xt Yf Ya N) (hY : ∀ w s, Yf s = Ya w → YP w s.heap) (hYk : ∀ w h h', YP w h → (∀ b o, h.get? b = some o → h'.get? b = some o) → YP w h')
    (hX : ∀ s, Xt s = true → XP (s.heap.nsMap mainGlobals) s.heap) (hXk : ∀ mg h h', XP mg h → (∀ b o, h.get? b = some o → h'.get? b = some o) → XP mg h')
    (hdef : defOf q r.name = some (d, kwd)) (hp : r.prog.theDef r.name = some (d.params, d.body, d.scope)) (hk : kwWritten? d.params.kwonlyargs d.params.kw_defaults = some kwd) (hRf : ∀ s, Xt s = true → RecFacts r.records s.heap) (hwr : (!r.writes || r.records.isEmpty) = true)
    (k1 : r.wellSaid = true) (ok : (chainsOk q && opensWell r.prog && (frees r.toRowW && r.within.isEmpty)) = true) (hb : r.prog.bare) (hw : r.toRowW.promised)
    (call : WalkF q loose XP YP r.toRowW d kwd fun f vs => PySem.call f vs) : r.Holds := by
  refine ⟨k1, hw, openF (r := r.toRowW) (run := fun f vs => PySem.call f vs) (tree := fun vs => do match ← nsGet mainNs r.name with
      | some f => do ret (← PySem.call f vs)
      | none => unsupported "claim.caller:no-such-global") left hY hYk hX hXk hRf hwr ok hb hw
    (fun vs w s mg f Q E hg hf h => wpF_bindA (wpAny_nsGet hg (by rw [hf]; exact wpF_bind (wpF_mono h (fun _ _ x => wpF_pure x) fun _ _ x => x))))
    (fun w s hg G n hn => ?_) fun w s₀ s₁ mg mb G Y args vs as hpre hlay L low => ?_⟩
  · obtain rfl : n = r.name := by split at hn <;> simp_all
    exact pinned_of_view hg G hdef hp hk
  · obtain ⟨a, o, pm, cd, doc, dV, kV, h1, h2, h3, h4, h5⟩ := G.fn hdef
    exact ⟨.ref a, h1, call w s₀ s₁ mg mb G Y a o pm cd doc dV kV h2 h3 h4 h5 (defOf_name hdef ▸ h1) L.gens args vs as hpre hlay L.reads L.well (L.low low)⟩

set_option maxHeartbeats 8000000 in
open_top hd for _root_.PySem.Challenge.rw_fq5006_01
end MineHead
namespace Mine
open PySem PySem.W PyProof.Rows PySem.Calls PySem.Spec
open Sem (wp)

section
variable {prog : Program} {w : World} {A : Around} {E : Value → Shared → Prop} {s : Shared} {env : Env}

theorem wpF_execs_nil {Q : Flow → Shared → Prop} (h : Q .next s) : wpF (model prog w) A (execs [] env) Q E s := wpF_of_any (wpAny_execs_nil h)
theorem wpF_execs_cons {st : Stmt} {rest : List Stmt} {Q : Flow → Shared → Prop}
    (h : wpF (model prog w) A (exec st env) (fun f s' => match f with | .next => wpF (model prog w) A (execs rest env) Q E s' | f => Q f s') E s) :
    wpF (model prog w) A (execs (st :: rest) env) Q E s := fun Γ p hΓ hc hk => by
  rw [execs_cons, Sem.wp_bind']
  refine Sem.wp_mono _ Γ _ (fun f p' s' h' => ?_) (fun _ _ _ h' => h') _ _ (h Γ p hΓ hc hk)
  cases f <;> first | exact h' Γ p' hΓ hc hk | exact h'
theorem wpF_execs_consA {st : Stmt} {rest : List Stmt} {Q : Flow → Shared → Prop}
    (h : wpAny (model prog w) A (exec st env) (fun f s' => match f with | .next => wpF (model prog w) A (execs rest env) Q E s' | f => Q f s') E s) :
    wpF (model prog w) A (execs (st :: rest) env) Q E s := wpF_execs_cons (wpF_of_any h)

theorem wpF_If {test : Expr} {body orelse : List Stmt} {pos : Pos} {Q : Flow → Shared → Prop}
    (h : wpAny (model prog w) A (isTrue test env (eval test env))
      (fun b s₂ => if b then wpF (model prog w) A (execs body env) Q E s₂ else wpF (model prog w) A (execs orelse env) Q E s₂) E s) :
    wpF (model prog w) A (exec (.If test body orelse pos) env) Q E s := by
  rw [exec_If]
  refine wpF_bindA (wpAny_standAt (wpF_bindA (wpAny_mono h (fun b s₂ h₂ => ?_) fun _ _ x => x)))
  cases b <;> exact h₂

theorem wpF_Expr {e : Expr} {pos : Pos} {Q : Flow → Shared → Prop} (h : wpF (model prog w) A (eval e env) (fun _ => Q .next) E s)
    (hi : interactive env = false := by rfl) (hs : swapsWith e none pos.line env = pure false := by rfl) :
    wpF (model prog w) A (exec (.Expr e pos) env) Q E s := by
  rw [exec_Expr env e pos hi hs]
  exact wpF_bindA (wpAny_standAt (wpF_bind (wpF_mono h (fun v s' h' => wpF_of_any (wpAny_dropValue h')) fun _ _ x => x)))

theorem CallF_ {func : Expr} {args : List Expr} {pos : Pos} {Q : Value → Shared → Prop}
    (h : wpAny (model prog w) A (eval func env) (fun f s₁ => wpF (model prog w) A (callWith pos f [] (backTo pos (starEach args env)) []) Q E s₁) E s)
    (he : eval (.Call func args [] pos) env = (do callWith pos (← eval func env) [] (backTo pos (starEach args env)) (backToKw pos (keywordEach [] env))) := by rfl) :
    wpF (model prog w) A (eval (.Call func args [] pos) env) Q E s := by
  rw [he]; exact wpF_bindA h

theorem MethF_ {o : Expr} {name : Str} {apos pos : Pos} {args : List Expr} {pl : Sem Bool} {Q : Value → Shared → Prop}
    (h : wpAny (model prog w) A (eval o env) (fun ov s₁ => wpAny (model prog w) A (getMethod ov name pl) (fun fx s₂ => wpF (model prog w) A (callWith pos fx.1 fx.2 (backTo pos (starEach args env)) []) Q E s₂) E s₁) E s)
    (he : eval (.Call (.Attribute o name apos) args [] pos) env = (do
      let ov ← eval o env
      standAt apos.atName
      let (f, first) ← holding [ov] (getMethod ov name pl)
      callWith pos f first (backTo pos (starEach args env)) []) := by rfl) :
    wpF (model prog w) A (eval (.Call (.Attribute o name apos) args [] pos) env) Q E s := by
  rw [he]
  refine wpF_bindA (wpAny_mono h (fun ov s₁ h₁ => wpF_bindA (wpAny_standAt (wpF_bindA (wpAny_holding (wpAny_mono h₁ (fun fx s₂ h₂ => ?_) fun _ _ x => x))))) fun _ _ x => x)
  exact h₂

theorem callWithF_of {P : Heap → Prop} {pos : Pos} {f : Value} {first : List Value} {args : List (Bool × Sem Value)} {Q : Value → Shared → Prop} (hplain : (args.any (·.1) || false) = false)
    (hk : ∀ h, P h → ∃ k, (k = Keeper.frame ∨ k = Keeper.machine ∨ k = Keeper.boundFrame) ∧ Looks (model prog w) h (keeperOf f) k)
    (h : wpAny (model prog w) A (evalArgs f true args []) (fun a s₁ => P s₁.heap ∧ wpF (model prog w) A (call f (first ++ a.pos) a.kw) Q E s₁) E s) : wpF (model prog w) A (callWith pos f first args []) Q E s := by
  unfold callWith
  refine wpF_bindA (wpAny_holding (wpAny_mono h (fun a s₁ h₁ => wpF_bindA (wpAny_standAt ?_)) fun _ _ x => x))
  obtain ⟨k, hk', L⟩ := hk _ h₁.1
  have hpl : (args.any (·.1) || ([] : List (Option Str × Sem Value)).any (·.1.isNone)) = false := hplain
  simp only [hpl]
  refine wpF_bindA (L.here ?_)
  have tail : ∀ {t : Sem Value}, wpF (model prog w) A t Q E s₁ → wpF (model prog w) A (t >>= fun r => holding [r] point >>= fun _ => pure r) Q E s₁ :=
    fun ht => wpF_bind (wpF_mono ht (fun r s₂ hr => wpF_of_any (wpAny_bind (wpAny_holding (wpAny_point (wpAny_pure hr))))) fun _ _ x => x)
  have marked (mk : Value) : wpF (model prog w) A (callMarked mk f (first ++ a.pos) a.kw) Q E s₁ := by unfold callMarked; exact wpF_keep h₁.2
  rcases hk' with rfl | rfl | rfl <;> dsimp only <;> first | exact tail h₁.2 | (split <;> first | exact tail h₁.2 | exact tail (marked _))

theorem callWithF_K {K : Frag} {h₀ : Heap} {pos : Pos} {f : Value} {first : List Value} {e : Expr} {rest : List Expr} {Q : Value → Shared → Prop} (_X : K.In h₀) (hk : keepIn K f = true)
    (h : wpAny (model prog w) A (spliced (backTo pos (starEach (e :: rest) env))) (fun vs s₁ => K.In s₁.heap ∧ wpF (model prog w) A (call f (first ++ vs)) Q E s₁) E s)
    (he : starEach (e :: rest) env = (false, eval e env) :: starEach rest env := by rfl) (hplain : (backTo pos (starEach rest env)).any (·.1) = false := by rfl) :
    wpF (model prog w) A (callWith pos f first (backTo pos (starEach (e :: rest) env)) []) Q E s := by
  rw [he] at h ⊢
  exact callWithF_of (by show ((false || (backTo pos (starEach rest env)).any (·.1)) || false) = false; rw [hplain]; rfl) (keeps_K hk) (evalArgs_plain h)

/-- the call of a def -/
theorem codeF_func {body : List Stmt} {R : Result → Shared → Prop}
    (h : wpF (model prog w) (A.deeper env) (execs body env) (fun f s' => R (.ok (.ret (match f with | .ret v => v | _ => .none))) s')
      (fun e s' => wpAny (model prog w) (A.deeper env) (leaving env e) (fun _ s'' => R (.error e) s'') (fun e' s'' => R (.error e') s'') s') s) :
    codeF (model prog w) A (.func body env) R s := by
  refine codeF_of_tree rfl ?_
  show wpF _ (A.deeper env) (do point; match ← (execs body env).onRaise (leaving env) with | .ret v => ret v | _ => ret .none) _ _ s
  refine wpF_bindA (wpAny_point (wpF_bind (wpF_onRaise (wpF_mono h (fun f s' h' => ?_) fun _ _ h' => h'))))
  cases f <;> exact wpF_pure h'

theorem codeF_call_function {a : Addr} {args : Args} {o : Obj} {fd : FuncData} {body : List Stmt} {R : Result → Shared → Prop} (hroom : A.depth < recursionLimit)
    (ho : s.heap.get? a = some o)
    (hd' : o.data = .func fd) (hco : fd.scope.isCoroutine = false) (hgen : fd.scope.isGenerator = false) (hbody : fd.body = .stmts body) (hcd : s.heap.CodeRec fd.code fd.qualname)
    (h : wpAny (model prog w) A.in1 (bindArgs fd args) (fun binds s₁ =>
      wpAny (model prog w) A.in1 (newFunctionEnv fd.scope fd.globals fd.closure binds (fd.qualname ++ ".<locals>.") (some a) fd.code none fd.builtins)
        (fun env s₂ => s₂.heap.NoLimit ∧ codeF (model prog w) A (.func body env) R s₂) (fun e s' => R (.error e) s') s₁) (fun e s' => R (.error e) s') s) :
    codeF (model prog w) A (.call (.ref a) args) R s := by
  refine codeF_of_tree rfl ?_
  show wpF _ A.in1 (callAny (.ref a) args) _ _ s
  simp only [callAny]
  refine wpF_bindA (wpAny_load ho ?_)
  obtain ⟨c, oc, vs, tq, hc, hoc, hdc, hq⟩ := hcd
  simp only [hd', callFunction, hco, hgen, hbody, hc]
  rw [hc] at h
  refine wpF_bindA (m := field (.ref c) 1) (wpAny_field hoc hdc hq (wpF_bindA (wpAny_pure ?_)))
  exact wpF_bindA (wpAny_mono h (fun binds s₁ h₁ => wpF_bindA (wpAny_mono h₁ (fun env s₂ h₂ => wpF_bindA (wpAny_enterFrame h₂.1 hroom
    (wpF_pure (And.intro rfl h₂.2)))) fun _ _ h' => h')) fun _ _ h' => h')

theorem codeF_call_def {R : Result → Shared → Prop} {a : Addr} {o : Obj} {fd : FuncData} {body : List Stmt} {args : Args} {binds : List (Str × Value)}
    (hroom : A.depth < recursionLimit) (ho : s.heap.get? a = some o) (hdata : o.data = .func fd) (hlim : s.heap.NoLimit) (hcd : s.heap.CodeRec fd.code fd.qualname)
    (hbody : fd.body = .stmts body) (hbind : BindsTo s fd args binds)
    (hcell : ∀ x ∈ fd.scope.names, x.2 ≠ .cell) (hloc : ∀ x ∈ binds, fd.scope.names.lookup x.1 = some .local)
    (h : ∀ h₀, h₀.Ns s.heap.objs.size (fun x => binds.reverse.lookup x) → (∀ b o, s.heap.get? b = some o → h₀.get? b = some o) →
      wpF (model prog w) (A.deeper (callEnv fd s.heap.objs.size a)) (execs body (callEnv fd s.heap.objs.size a)) (fun f s' => R (.ok (.ret (match f with | .ret v => v | _ => .none))) s')
        (fun e s' => wpAny (model prog w) (A.deeper (callEnv fd s.heap.objs.size a)) (leaving (callEnv fd s.heap.objs.size a) e) (fun _ s'' => R (.error e) s'') (fun e' s'' => R (.error e') s'') s')
        { s with heap := h₀, toks := s.toks + binds.length })
    (hco : fd.scope.isCoroutine = false := by rfl) (hgen : fd.scope.isGenerator = false := by rfl) (hk : fd.scope.kind = .function := by rfl) :
    codeF (model prog w) A (.call (.ref a) args) R s := by
  refine codeF_call_function hroom ho hdata hco hgen hbody hcd (hbind _ _ _ _ ?_)
  refine wpAny_newFunctionEnv hcell hloc (fun h₀ hns₀ hsb₀ => ⟨hlim.fresh _ hsb₀, codeF_func (h h₀ hns₀ fun b o e => ?_)⟩) hk
  exact hsb₀.extBut b o (Nat.ne_of_lt (Heap.lt_size e)) (Heap.get?_push_of_some _ e)

/-- the turns of a for -/
theorem codeF_block {stmts : List Stmt} {R : Result → Shared → Prop}
    (h : wpF (model prog w) A (execs stmts env) (fun f s' => R (.ok f) s') (notedBy (model prog w) A env fun e s' => R (.error e) s') s) : codeF (model prog w) A (.block stmts env) R s := by
  refine codeF_of_tree rfl ?_
  show wpF _ _ (do return Fin.done (← (execs stmts env).onRaise (fun x => do noteFrame x env; theTreesLotGoes x))) _ _ s
  exact wpF_bind (wpF_noted (wpF_mono h (fun f s' h' => wpF_pure h') fun _ _ h' => h'))
theorem codeF_forLoop {R : Result → Shared → Prop} {target : Expr} {it : Value} {body orelse : List Stmt} (I : Nat → Shared → Prop)
    (turn : ∀ n s, I n s → wpAny (model prog w) A (pyNext it) (fun r s₁ => match r with
      | none => wpF (model prog w) A (execs orelse env) (fun f s₃ => R (.ok f) s₃) (notedBy (model prog w) A env fun e s' => R (.error e) s') s₁
      | some v => wpAny (model prog w) A (letOwnedTupleGo target it v) (fun _ s₁' =>
          wpAny (model prog w) A (assign target env v) (fun _ s₂ => wpF (model prog w) A (execs body env) (fun f s₃ => match f with
            | .next | .cont => ∃ m, m < n ∧ I m s₃
            | .brk => R (.ok .next) s₃
            | .ret v => R (.ok (.ret v)) s₃) (notedBy (model prog w) A env fun e s' => R (.error e) s') s₂) (notedBy (model prog w) A env fun e s' => R (.error e) s') s₁') (notedBy (model prog w) A env fun e s' => R (.error e) s') s₁) (notedBy (model prog w) A env fun e s' => R (.error e) s') s)
    (n : Nat) (h : I n s) : codeF (model prog w) A (.forLoop target it body orelse env) R s := by
  refine codeF_loop' rfl rfl I (fun n s hI => ?_) n h
  show wpF _ A ((forTurn target it body orelse env).onRaise (fun x => do noteFrame x env; theTreesLotGoes x)) _ _ s
  refine wpF_noted ?_
  simp only [forTurn]
  refine wpF_bindA (wpAny_standAt (wpF_bindA (wpAny_onRaise (wpAny_mono (turn n s hI) (fun r s₁ h₁ => ?_) fun _ _ h' => wpAny_standAt h'))))
  cases r with
  | none => exact wpF_pure (.inr ⟨rfl, codeF_block h₁⟩)
  | some v =>
    refine wpF_bindA (wpAny_mono h₁ (fun _ s₁' h₁' => ?_) fun _ _ h' => h')
    refine wpF_bindA (wpAny_mono h₁' (fun _ s₂ h₂ => wpF_bind (wpF_mono h₂ (fun f s₃ h₃ => ?_) fun _ _ h' => h')) fun _ _ h' => h')
    cases f with
    | next => exact wpF_pure (.inl ⟨rfl, h₃⟩)
    | cont => exact wpF_pure (.inl ⟨rfl, h₃⟩)
    | brk => exact wpF_pure h₃
    | ret v => exact wpF_pure h₃
theorem wpF_For {target iter : Expr} {body orelse : List Stmt} {pos : Pos} {Q : Flow → Shared → Prop}
    (h : wpAny (model prog w) A (eval iter env) (fun x s₁ => wpAny (model prog w) A (pyIter x) (fun it s₂ =>
      codeF (model prog w) A (.forLoop target it body orelse env) (fun r s' => match r with | .ok f => Q f s' | .error e => cameBackBy (model prog w) A env E e s') s₂) E s₁) E s)
    (hs : ∀ x, foldedSetIterable iter env x = pure x := by intro _; rfl) :
    wpF (model prog w) A (exec (.For target iter body orelse pos) env) Q E s := by
  rw [exec_For]
  exact wpF_bindA (wpAny_standAt (wpF_bindA (wpAny_mono h (fun x s₁ h₁ => wpF_bindA (wpAny_of_eq (hs x) (wpF_bindA (wpAny_standAt (wpF_bindA (wpAny_holding
    (wpAny_mono h₁ (fun it s₂ h₂ => wpF_runOwn h₂) fun _ _ h' => h'))))))) fun _ _ h' => h')))

theorem wpF_Try {body orelse : List Stmt} {h₀ : ExceptHandler} {hs : List ExceptHandler} {pos : Pos} {Q : Flow → Shared → Prop}
    (h : wpF (model prog w) A (execs body env) (fun f s₁ => match f with | .next => wpAny (model prog w) A (execs orelse env) Q E s₁ | f => Q f s₁)
      (fun e s₁ => wpAny (model prog w) A (noteFrame e env) (fun _ s₂ => wpAny (model prog w) A (setFlight e none) (fun _ s₃ => wpAny (model prog w) A (handleBy e env (h₀ :: hs)) Q E s₃) E s₂) E s₁) s) :
    wpF (model prog w) A (exec (.Try body (h₀ :: hs) orelse [] pos) env) Q E s := by
  rw [arm_exec_Try]
  refine wpF_bindA (wpAny_standAt ?_)
  unfold tryStmt
  simp only [List.isEmpty_nil, if_true, List.isEmpty_cons, Bool.false_and, Bool.false_eq_true, if_false]
  refine wpF_bind (wpF_attempt (wpF_mono h (fun f s₁ h₁ => ?_) fun e s₁ h₁ => ?_))
  · cases f <;> first | exact wpF_of_any h₁ | exact wpF_pure h₁
  · exact wpF_of_any (wpAny_bind (wpAny_mono h₁ (fun _ _ h₂ => wpAny_bind h₂) fun _ _ x => x))
end
end Mine
namespace Mine
open PySem PySem.W PyProof.Rows PySem.Calls PySem.Spec
section
variable {prog : Program} {w : World} {A : Around} {E : Value → Shared → Prop} {s : Shared} {R : Result → Shared → Prop}

theorem codeF_builtin {id : String} {args : Args} {b : Builtin} (hk : cleanC (.builtin id args) = true) (hb : entryFor table id = some b)
    (h : wpF (model prog w) (A.under (.builtin id args)) (b args)
      (fun fin s' => match fin with | .done f => R (.ok f) s' | .again c' => c'.quiet = true ∧ codeF (model prog w) A c' R s') (fun e s' => R (.error e) s') s) :
    codeF (model prog w) A (.builtin id args) R s := by
  refine codeF_of_tree hk ?_
  show wpF _ _ (match entryFor table id with | some b => b args | none => unsupported ((withoutEnding? id "#data").getD id)) _ _ s
  rw [hb]; exact h
theorem codeF_call_builtin {id : String} {args : Args} {b : Builtin} (hk : cleanC (.builtin id args) = true) (hq : plainId id = true) (hb : entryFor table id = some b)
    (h : wpAny (model prog w) A.in1 (checkBuiltinCall id args) (fun _ s₁ => wpF (model prog w) A.in1 (b args)
      (fun fin s' => match fin with | .done f => R (.ok f) s' | .again c' => c'.quiet = true ∧ codeF (model prog w) A c' R s') (fun e s' => R (.error e) s') s₁)
      (fun e s' => R (.error e) s') s) : codeF (model prog w) A (.call (.builtin id) args) R s := by
  refine codeF_of_tree rfl ?_
  show wpF _ A.in1 (do checkBuiltinCall id args; again (.builtin id args)) _ _ s
  refine wpF_bindA (wpAny_mono h (fun _ s₁ h₁ => wpF_pure (And.intro (plainId_quiet hq args) (codeF_builtin hk hb ?_))) fun _ _ h' => h')
  rw [Around.under_plainId hq args]
  exact h₁
theorem callF_slot {T : String} {name : Str} {id : String} {b : Builtin} {self : Value} {rest : List Value} {Q : Value → Shared → Prop} (hk : cleanC (.builtin id ⟨self :: rest, []⟩) = true) (slot : Slot T name id) (hT : s.TypeIs self T)
    (entry : entryFor table id = some b) (args : argsOk id ⟨self :: rest, []⟩)
    (h : wpF (model prog w) A.in1 (b ⟨self :: rest, []⟩) (fun fin s' => ∃ v, fin = .done (.ret v) ∧ Q v s') E s) :
    wpF (model prog w) A (call (.builtin id) (self :: rest)) Q E s := by
  refine wpF_call (codeF_call_builtin hk slot.plain entry (slot.check _ _ _ _ _ _ _ _ hT args (wpF_mono h (fun fin s' q => ?_) fun _ _ x => x)))
  obtain ⟨v, rfl, q⟩ := q
  exact q
theorem callSpecialF {self : Value} {T : String} {name : Str} {id : String} {args : List Value} {Q : Option Value → Shared → Prop} (hT : s.TypeIs self T) (h : Slot T name id)
    (hc : wpF (model prog w) A (call (.builtin id) (self :: args)) (fun v => Q (some v)) E s) : wpF (model prog w) A (callSpecial? self name args) Q E s := by
  simp only [callSpecial?]
  refine wpF_bindA (wpAny_specialOf hT h.lookup ?_)
  simp only [h.bind]
  exact wpF_holding (wpF_bindA (wpAny_pure (wpF_bind (wpF_mono hc (fun v s' h' => wpF_pure h') fun _ _ h' => h'))))

theorem typeCall_tree {T newId initId : String} {args : List Value} (ft : TypeCalled T newId initId) (hct : checkTypeCall T ⟨args, []⟩ = pure ()) :
    Builtin.«type.__call__» ⟨.type T :: args, []⟩ = (do
      let obj ← holding [.builtin newId] (call (.builtin newId) (.type T :: args))
      if !(← isInstance obj (.type T)) then rule "type.call.new-gave-other-type"; return ← ret obj
      match ← holding [obj] (callSpecial? obj "__init__" args []) with
      | none => ret obj
      | some r =>
        if r != .none then
          rule "type.call.init-returned-value"
          raiseError "TypeError" s!"__init__() should return None, not '{← typeNameOf r}'"
        ret obj) := by
  obtain ⟨c, tl, hmro⟩ := ft.mro
  have hmade := ft.made
  have h1 := ft.notType
  have h2 := ft.canCreate
  unfold Builtin.«type.__call__»
  simp only [h1, h2, hct, hmro, hmade, pure_bind, List.isEmpty_cons, Bool.false_eq_true, if_false]
  rfl
theorem callTypeF {T newId initId : String} {Bi : Builtin} {args : List Value} {Q Q₁ : Value → Shared → Prop} (ft : TypeCalled T newId initId)
    (hct : checkTypeCall T ⟨args, []⟩ = pure ()) (entryI : entryFor table initId = some Bi) (hk : ∀ obj, cleanC (.builtin initId ⟨obj :: args, []⟩) = true)
    (hnew : codeAny (model prog w) A.in1 (.call (.builtin newId) ⟨.type T :: args, []⟩) (wants Q₁ E) s)
    (hnext : ∀ obj s₁, Q₁ obj s₁ → s₁.TypeIs obj T ∧ argsOk initId ⟨obj :: args, []⟩ ∧
      wpF (model prog w) A.in1.in1 (Bi ⟨obj :: args, []⟩) (fun fin s' => fin = .done (.ret .none) ∧ Q obj s') E s₁) :
    wpF (model prog w) A (call (.type T) args) Q E s := by
  refine wpF_call (codeF_of_tree rfl ?_)
  show wpF _ _ (callAny (.type T) _) _ _ _
  refine wpF_pure ⟨Code.quiet_builtin _ (by decide +kernel), codeF_builtin (by show (!decIds.contains "type.__call__") = true; decide +kernel) F.entry_type_call ?_⟩
  rw [Around.under_plain (weight_type_call_type T args []) rfl, typeCall_tree ft hct]
  refine wpF_bindA (wpAny_holding (wpAny_call (codeAny_mono hnew fun r s₁ hr => ?_)))
  cases r with
  | error e => exact hr
  | ok fl =>
    cases fl with
    | ret obj =>
      obtain ⟨hT, hok, hI⟩ := hnext _ _ hr
      refine wpF_bindA (wpAny_isInstance hT ft.sub ?_)
      show wpF _ _ (holding [obj] (callSpecial? obj "__init__" args []) >>= _) _ _ _
      refine wpF_bind (wpF_holding (callSpecialF hT ft.init (callF_slot (hk obj) ft.init hT entryI hok (wpF_mono hI (fun fin s' q => ?_) fun _ _ x => x))))
      obtain ⟨rfl, q⟩ := q
      exact ⟨_, rfl, wpF_pure q⟩
    | _ => exact hr.elim
end
end Mine
namespace Mine
open PySem PySem.W PyProof.Rows PySem.Calls PySem.Spec

noncomputable abbrev LS : List Str := looseW MineHead.hd.view_39 [Str.ofString "_MessageType", Str.ofString "StartupMessage", Str.ofString "AuthResponseMessage", Str.ofString "OptionsMessage", Str.ofString "RegisterMessage", Str.ofString "UnsupportedOperation", Str.ofString "IOBase", Str.ofString "BufferedIOBase", Str.ofString "TextIOBase", Str.ofString "BytesIO", Str.ofString "StringIO"]

/-- the surroundings of a call: nothing handled, no guards -/
abbrev Ar (dp un : Nat) (outer : List Env) : Around := { handled := none, depth := dp, frames := some outer, guards := some [], units := un }

theorem below_le {Γ : PySem.Ctx} {dp un dp' un' : Nat} {outer : List Env} (h : Γ.Below (Ar dp' un' outer)) (hd : dp' ≤ dp) (hu : un' ≤ un) : Γ.Below (Ar dp un outer) :=
  ⟨h.1, Nat.le_trans h.2.1 hd, h.2.2.1, h.2.2.2.1, Nat.le_trans h.2.2.2.2 hu⟩
theorem codeAny_le {M : Model} {c : PySem.Code} {R : Result → Shared → Prop} {s : Shared} {dp un dp' un' : Nat} {outer : List Env} (h : codeAny M (Ar dp un outer) c R s) (hd : dp' ≤ dp) (hu : un' ≤ un) : codeAny M (Ar dp' un' outer) c R s :=
  fun Γ p hc hΓ => h Γ p hc (below_le hΓ hd hu)

/-- what a walk wants of the ground that stays -/
structure At (w : World) (A : Around) (base : Heap) (outer : List Env) (h : Heap) : Prop where
  B : Below A base outer h
  X : (MineHead.hd.heap_39 w.params).In h
  T : ∃ mean mg mb, Top MineHead.hd.view_39 LS mean mg mb h

section
variable {w : World} {base : Heap} {outer : List Env} {s : Shared} {R : Result → Shared → Prop} {name qual : Str} {params : Arguments} {body : List Stmt} {scope : Scope} {dV kV doc pm cdv ct oc : Value} {an od : Option Addr} {osl : Array (Option Value)} {f : Addr} {args : Args} {binds : List (Str × Value)} {dp un : Nat} {news : List (Addr × Obj)}

theorem enter (C : At w (Ar dp un outer) base outer (hideAll s.heap (news.map (·.1)))) (N : ∀ p ∈ news, s.heap.get? p.1 = some p.2)
    (ho : (MineHead.hd.heap_39 w.params).lookup f = some ⟨oc, od, .func (fnOf name qual params body scope dV kV doc pm an cdv ct), osl⟩) (hcd : codeIn (MineHead.hd.heap_39 w.params) cdv qual = true) (hroom : dp < recursionLimit)
    (hbind : BindsTo s (fnOf name qual params body scope dV kV doc pm an cdv ct) args binds) (hloc : ∀ y ∈ binds, scope.names.lookup y.1 = some .local)
    (hco : scope.isCoroutine = false) (hgen : scope.isGenerator = false) (hk : scope.kind = .function)
    (hcell : ∀ x ∈ scope.names, x.2 ≠ .cell)
    (h : ∀ g L' h₁ mean mg mb, g = hideAll s.heap (news.map (·.1)) → Fr g L' h₁ (fun y => binds.reverse.lookup y) → News g L' h₁ news → Below (Ar dp un outer) base outer g → (MineHead.hd.heap_39 w.params).In g → Top MineHead.hd.view_39 LS mean mg mb g →
      wpAny (model PySem.Challenge.rw_fq5006_01.row.prog w) ((Ar dp un outer).deeper (envOf qual scope L' f cdv)) (execs body (envOf qual scope L' f cdv))
        (fun fl s' => R (.ok (.ret (match fl with | .ret v => v | _ => .none))) s')
        (fun e s' => wpAny (model PySem.Challenge.rw_fq5006_01.row.prog w) ((Ar dp un outer).deeper (envOf qual scope L' f cdv)) (leaving (envOf qual scope L' f cdv) e) (fun _ s'' => R (.error e) s'') (fun e' s'' => R (.error e') s'') s')
        { s with heap := h₁, toks := s.toks + binds.length }) :
    codeAny (model PySem.Challenge.rw_fq5006_01.row.prog w) (Ar dp un outer) (.call (.ref f) args) R s := by
  obtain ⟨B, X, mean, mg, mb, T⟩ := C
  have up : ∀ b o, (hideAll s.heap (news.map (·.1))).get? b = some o → s.heap.get? b = some o := fun b o e => of_hideAll _ e
  refine codeAny_call_def (fd := fnOf name qual params body scope dV kV doc pm an cdv ct) (body := body) (binds := binds) hroom (up _ _ (X _ _ ho)) rfl (T.nolimit.keeps up) (codeRec_of (fun a o e => up a o (X a o e)) hcd) rfl hbind hcell hloc (fun h₁ hns hk₁ => ?_) hco hgen hk
  exact h _ s.heap.objs.size h₁ mean mg mb rfl ⟨hns, fun b o e => hk₁ b o (of_hideAll _ e), Nat.le_of_eq (hideAll_size _ _)⟩
    (fun p hp => ⟨hk₁ _ _ (N p hp), Nat.ne_of_lt (Heap.lt_size (N p hp)), hideAll_none _ (List.mem_map_of_mem hp)⟩) B X T

theorem enterF (C : At w (Ar dp un outer) base outer (hideAll s.heap (news.map (·.1)))) (N : ∀ p ∈ news, s.heap.get? p.1 = some p.2)
    (ho : (MineHead.hd.heap_39 w.params).lookup f = some ⟨oc, od, .func (fnOf name qual params body scope dV kV doc pm an cdv ct), osl⟩) (hcd : codeIn (MineHead.hd.heap_39 w.params) cdv qual = true) (hroom : dp < recursionLimit)
    (hbind : BindsTo s (fnOf name qual params body scope dV kV doc pm an cdv ct) args binds) (hloc : ∀ y ∈ binds, scope.names.lookup y.1 = some .local)
    (hco : scope.isCoroutine = false) (hgen : scope.isGenerator = false) (hk : scope.kind = .function)
    (hcell : ∀ x ∈ scope.names, x.2 ≠ .cell)
    (h : ∀ g L' h₁ mean mg mb, g = hideAll s.heap (news.map (·.1)) → Fr g L' h₁ (fun y => binds.reverse.lookup y) → News g L' h₁ news → Below (Ar dp un outer) base outer g → (MineHead.hd.heap_39 w.params).In g → Top MineHead.hd.view_39 LS mean mg mb g →
      wpF (model PySem.Challenge.rw_fq5006_01.row.prog w) ((Ar dp un outer).deeper (envOf qual scope L' f cdv)) (execs body (envOf qual scope L' f cdv))
        (fun fl s' => R (.ok (.ret (match fl with | .ret v => v | _ => .none))) s')
        (fun e s' => wpAny (model PySem.Challenge.rw_fq5006_01.row.prog w) ((Ar dp un outer).deeper (envOf qual scope L' f cdv)) (leaving (envOf qual scope L' f cdv) e) (fun _ s'' => R (.error e) s'') (fun e' s'' => R (.error e') s'') s')
        { s with heap := h₁, toks := s.toks + binds.length }) :
    codeF (model PySem.Challenge.rw_fq5006_01.row.prog w) (Ar dp un outer) (.call (.ref f) args) R s := by
  obtain ⟨B, X, mean, mg, mb, T⟩ := C
  have up : ∀ b o, (hideAll s.heap (news.map (·.1))).get? b = some o → s.heap.get? b = some o := fun b o e => of_hideAll _ e
  refine codeF_call_def (fd := fnOf name qual params body scope dV kV doc pm an cdv ct) (body := body) (binds := binds) hroom (up _ _ (X _ _ ho)) rfl (T.nolimit.keeps up) (codeRec_of (fun a o e => up a o (X a o e)) hcd) rfl hbind hcell hloc (fun h₁ hns hk₁ => ?_) hco hgen hk
  exact h _ s.heap.objs.size h₁ mean mg mb rfl ⟨hns, fun b o e => hk₁ b o (of_hideAll _ e), Nat.le_of_eq (hideAll_size _ _)⟩
    (fun p hp => ⟨hk₁ _ _ (N p hp), Nat.ne_of_lt (Heap.lt_size (N p hp)), hideAll_none _ (List.mem_map_of_mem hp)⟩) B X T
theorem codeF_leA {M : Model} {c : PySem.Code} {R : Result → Shared → Prop} {s : Shared} {dp un dp' un' : Nat} {outer : List Env} (h : codeF M (Ar dp un outer) c R s) (hd : dp' ≤ dp) (hu : un' ≤ un) : codeF M (Ar dp' un' outer) c R s :=
  codeF_le h fun _ hΓ => below_le hΓ hd hu
end
end Mine
namespace Mine
open PySem PySem.W PyProof.Rows PySem.Calls PySem.Spec

section
variable {w : World} {base g h h' : Heap} {outer : List Env} {L a : Addr} {m : Str → Option Value} {cn : Str} {cs : Scope} {ccd : Value} {news : List (Addr × Obj)} {S : List Addr} {dp un dp' un' : Nat}

/-- what hides: fresh addresses, none of them the frame's -/
abbrev Off (g : Heap) (L : Addr) (S : List Addr) : Prop := ∀ b ∈ S, b ≠ L ∧ g.get? b = none
theorem off_news (N : News g L h news) (hS : ∀ b ∈ S, b ∈ news.map (·.1)) : Off g L S := fun b hb => by
  obtain ⟨p, hp, rfl⟩ := List.mem_map.mp (hS b hb)
  exact ⟨(N p hp).2.1, (N p hp).2.2⟩
theorem off_nil : Off g L [] := fun _ h => nomatch h
theorem fr_hide (F : Fr g L h m) (hS : Off g L S) : Fr g L (hideAll h S) m := by
  obtain ⟨oL, es, ep, hL, r⟩ := F.ns
  exact ⟨⟨oL, es, ep, hideAll_get _ hL fun q => (hS _ q).1 rfl, r⟩, fun b o e => hideAll_get _ (F.keep b o e) (fun q => by have z := (hS b q).2; rw [z] at e; exact nomatch e), F.above⟩
theorem siteOf (B : Below (Ar dp un outer) base outer g) (X : (MineHead.hd.heap_39 w.params).In g) (T : ∃ mean mg mb, Top MineHead.hd.view_39 LS mean mg mb g) (F : Fr g L h m) (hS : Off g L S) (hk : cs.kind = .function := by rfl) :
    At w (Ar dp' un' (envOf cn cs L a ccd :: outer)) base (envOf cn cs L a ccd :: outer) (hideAll h S) := by
  have F' := fr_hide F hS
  have B' := B.push (name := cn) (scope := cs) (a := a) (cd := ccd) F' hk
  obtain ⟨mean, mg, mb, T⟩ := T
  exact ⟨⟨rfl, B'.stays, B'.frames⟩, fun b o e => F'.keep b o (X b o e), mean, mg, mb, T.keeps F'.keep⟩
theorem fr_after (F : Fr g L h m) (hS : Off g L S) (k : (hideAll h S).StaysIn h') : Fr g L h' m := by
  have F' := fr_hide F hS
  obtain ⟨oL, es, ep, hL, r⟩ := F'.ns
  exact ⟨⟨oL, es, ep, k _ _ hL, r⟩, fun b o e => k _ _ (F'.keep b o e), F.above⟩
theorem news_after (N : News g L h news) (k : (hideAll h S).StaysIn h') (hn : ∀ p ∈ news, p.1 ∉ S) : News g L h' news :=
  fun p hp => ⟨k _ _ (hideAll_get _ (N p hp).1 (hn p hp)), (N p hp).2⟩
theorem news_cons {b : Addr} {o : Obj} (h1 : h.get? b = some o) (h2 : b ≠ L ∧ g.get? b = none) (N : News g L h news) : News g L h ((b, o) :: news) := fun p hp => by
  rcases List.mem_cons.mp hp with rfl | hp
  · exact ⟨h1, h2⟩
  · exact N p hp
theorem stays_of_fr (F : Fr g L h m) : g.StaysIn h := F.keep
/-- the ground of a contract stays when the walk's does -/
theorem stays_hide {g0 : Heap} (e : g = hideAll g0 S) (F : Fr g L h m) : (hideAll g0 S).StaysIn h := e ▸ F.keep
theorem hideAll_nil : hideAll h [] = h := rfl

/-- split a suite -/
theorem wp_split {M : Model} {Γ : PySem.Ctx} {env : Env} {rest : List Stmt} {Q : Flow → Pos → Shared → Prop} {E : Value → Pos → Shared → Prop} : ∀ {pre : List Stmt} {p : Pos} {s : Shared},
    Sem.wp M Γ (execs pre env) (fun f p' s' => match f with | .next => Sem.wp M Γ (execs rest env) Q E p' s' | f => Q f p' s') E p s → Sem.wp M Γ (execs (pre ++ rest) env) Q E p s
  | [], _, _, hx => hx
  | st :: pre, p, s, hx => by
    rw [execs_cons, Sem.wp_bind'] at hx
    show Sem.wp M Γ (execs (st :: (pre ++ rest)) env) Q E p s
    rw [execs_cons, Sem.wp_bind']
    refine Sem.wp_mono M Γ _ (fun f p' s' h' => ?_) (fun _ _ _ h' => h') _ _ hx
    cases f <;> first | exact wp_split h' | exact h'
theorem wpF_split {prog : Program} {A : Around} {E : Value → Shared → Prop} {s : Shared} {env : Env} (pre rest : List Stmt) {Q : Flow → Shared → Prop}
    (h : wpAny (model prog w) A (execs pre env) (fun f s' => match f with | .next => wpF (model prog w) A (execs rest env) Q E s' | f => Q f s') E s) :
    wpF (model prog w) A (execs (pre ++ rest) env) Q E s := fun Γ p hΓ hc hk =>
  wp_split (Sem.wp_mono _ Γ _ (fun f p' s' h' => by cases f <;> first | exact h' Γ p' hΓ hc hk | exact h') (fun _ _ _ h' => h') p s (h Γ p hΓ))
end
end Mine
namespace Mine
open PySem PySem.W PyProof.Rows PySem.Calls PySem.Spec
section
variable {w : World} {base : Heap} {outer : List Env} {s : Shared} {R : Result → Shared → Prop} {name qual : Str} {params : Arguments} {body : List Stmt} {scope : Scope} {dV kV doc pm cdv ct oc : Value} {an od : Option Addr} {osl : Array (Option Value)} {f : Addr} {args : Args} {binds : List (Str × Value)} {dp un : Nat} {news : List (Addr × Obj)}

theorem cellsNews {scope : Scope} {binds : List (Str × Value)} {f : Addr} {cdv : Value} {qual : Str} (hnd : ((cellsFrom 0 scope.names []).map (·.1)).Nodup) {s s' : Shared}
    (x : InCallC s s.heap.objs.size (bindL (envOfC qual scope s.heap.objs.size f cdv).kindOf binds fun _ => none) (cellsFrom (s.heap.objs.size + 1) scope.names []) (bindC (envOfC qual scope s.heap.objs.size f cdv).kindOf binds fun _ => none) s')
    (N : ∀ p ∈ news, s.heap.get? p.1 = some p.2) :
    ∃ h₁ tk cells, s' = { s with heap := h₁, toks := tk } ∧ Fr (hideAll s.heap (news.map (·.1))) s.heap.objs.size h₁ (bindL (envOfC qual scope s.heap.objs.size f cdv).kindOf binds fun _ => none) ∧
      News (hideAll s.heap (news.map (·.1))) s.heap.objs.size h₁ (cells ++ news) ∧ CellsAre (bindC (envOfC qual scope s.heap.objs.size f cdv).kindOf binds fun _ => none) (cellsFrom (s.heap.objs.size + 1) scope.names []) cells := by
  obtain ⟨h₁, tk, rfl, _⟩ := x.done
  have hk₁ := x.toInCall.keep
  obtain ⟨cells, NC, Y⟩ := Cl.news (h₀ := s.heap) (Nat.le_refl _) fun n c hm => ⟨x.cell n c (lookup_of_mem_nodup (cellsFrom_names scope.names 0 (s.heap.objs.size + 1) [] [] rfl ▸ hnd) hm), x.above n c hm⟩
  refine ⟨h₁, tk, cells, rfl, ⟨x.toInCall.ns, fun b o e => hk₁ b o (of_hideAll _ e), Nat.le_of_eq (hideAll_size _ _)⟩, fun p hp => ?_, Y⟩
  rcases List.mem_append.mp hp with hp | hp
  · refine ⟨(NC p hp).1, (NC p hp).2.1, ?_⟩
    cases q : (hideAll s.heap (news.map (·.1))).get? p.1 with
    | none => rfl
    | some o => have := of_hideAll _ q; rw [(NC p hp).2.2] at this; cases this
  · exact ⟨hk₁ _ _ (N p hp), Nat.ne_of_lt (Heap.lt_size (N p hp)), hideAll_none _ (List.mem_map_of_mem hp)⟩

theorem enterC (C : At w (Ar dp un outer) base outer (hideAll s.heap (news.map (·.1)))) (N : ∀ p ∈ news, s.heap.get? p.1 = some p.2)
    (ho : (MineHead.hd.heap_39 w.params).lookup f = some ⟨oc, od, .func (fnOf name qual params body scope dV kV doc pm an cdv ct), osl⟩) (hcd : codeIn (MineHead.hd.heap_39 w.params) cdv qual = true) (hroom : dp < recursionLimit)
    (hbind : BindsTo s (fnOf name qual params body scope dV kV doc pm an cdv ct) args binds) (hkind : (binds.all fun y => scope.names.lookup y.1 == some .local || scope.names.lookup y.1 == some .cell) = true)
    (hnd : ((cellsFrom 0 scope.names []).map (·.1)).Nodup)
    (hco : scope.isCoroutine = false) (hgen : scope.isGenerator = false) (hk : scope.kind = .function)
    (h : ∀ g L' h₁ tk cells mean mg mb, g = hideAll s.heap (news.map (·.1)) → Fr g L' h₁ (bindL (envOfC qual scope L' f cdv).kindOf binds fun _ => none) → News g L' h₁ (cells ++ news) →
      CellsAre (bindC (envOfC qual scope L' f cdv).kindOf binds fun _ => none) (cellsFrom (L' + 1) scope.names []) cells → Below (Ar dp un outer) base outer g → (MineHead.hd.heap_39 w.params).In g → Top MineHead.hd.view_39 LS mean mg mb g →
      wpAny (model PySem.Challenge.rw_fq5006_01.row.prog w) ((Ar dp un outer).deeper (envOfC qual scope L' f cdv)) (execs body (envOfC qual scope L' f cdv))
        (fun fl s' => R (.ok (.ret (match fl with | .ret v => v | _ => .none))) s')
        (fun e s' => wpAny (model PySem.Challenge.rw_fq5006_01.row.prog w) ((Ar dp un outer).deeper (envOfC qual scope L' f cdv)) (leaving (envOfC qual scope L' f cdv) e) (fun _ s'' => R (.error e) s'') (fun e' s'' => R (.error e') s'') s')
        { s with heap := h₁, toks := tk }) :
    codeAny (model PySem.Challenge.rw_fq5006_01.row.prog w) (Ar dp un outer) (.call (.ref f) args) R s := by
  obtain ⟨B, X, mean, mg, mb, T⟩ := C
  have up : ∀ b o, (hideAll s.heap (news.map (·.1))).get? b = some o → s.heap.get? b = some o := fun b o e => of_hideAll _ e
  refine codeAny_call_function hroom (up _ _ (X _ _ ho)) rfl hco hgen rfl (codeRec_of (fun a o e => up a o (X a o e)) hcd) (hbind _ _ _ _ ?_)
  refine wpAny_newFunctionEnv_cells hk (kindsX hkind _) fun env' he s' x => ?_
  subst he
  refine ⟨(T.nolimit.keeps up).keeps x.toInCall.keep, codeAny_func ?_⟩
  obtain ⟨h₁, tk, cells, rfl, F, N', Y⟩ := cellsNews hnd x N
  exact h _ s.heap.objs.size h₁ tk cells mean mg mb rfl F N' Y B X T

theorem enterCF (C : At w (Ar dp un outer) base outer (hideAll s.heap (news.map (·.1)))) (N : ∀ p ∈ news, s.heap.get? p.1 = some p.2)
    (ho : (MineHead.hd.heap_39 w.params).lookup f = some ⟨oc, od, .func (fnOf name qual params body scope dV kV doc pm an cdv ct), osl⟩) (hcd : codeIn (MineHead.hd.heap_39 w.params) cdv qual = true) (hroom : dp < recursionLimit)
    (hbind : BindsTo s (fnOf name qual params body scope dV kV doc pm an cdv ct) args binds) (hkind : (binds.all fun y => scope.names.lookup y.1 == some .local || scope.names.lookup y.1 == some .cell) = true)
    (hnd : ((cellsFrom 0 scope.names []).map (·.1)).Nodup)
    (hco : scope.isCoroutine = false) (hgen : scope.isGenerator = false) (hk : scope.kind = .function)
    (h : ∀ g L' h₁ tk cells mean mg mb, g = hideAll s.heap (news.map (·.1)) → Fr g L' h₁ (bindL (envOfC qual scope L' f cdv).kindOf binds fun _ => none) → News g L' h₁ (cells ++ news) →
      CellsAre (bindC (envOfC qual scope L' f cdv).kindOf binds fun _ => none) (cellsFrom (L' + 1) scope.names []) cells → Below (Ar dp un outer) base outer g → (MineHead.hd.heap_39 w.params).In g → Top MineHead.hd.view_39 LS mean mg mb g →
      wpF (model PySem.Challenge.rw_fq5006_01.row.prog w) ((Ar dp un outer).deeper (envOfC qual scope L' f cdv)) (execs body (envOfC qual scope L' f cdv))
        (fun fl s' => R (.ok (.ret (match fl with | .ret v => v | _ => .none))) s')
        (fun e s' => wpAny (model PySem.Challenge.rw_fq5006_01.row.prog w) ((Ar dp un outer).deeper (envOfC qual scope L' f cdv)) (leaving (envOfC qual scope L' f cdv) e) (fun _ s'' => R (.error e) s'') (fun e' s'' => R (.error e') s'') s')
        { s with heap := h₁, toks := tk }) :
    codeF (model PySem.Challenge.rw_fq5006_01.row.prog w) (Ar dp un outer) (.call (.ref f) args) R s := by
  obtain ⟨B, X, mean, mg, mb, T⟩ := C
  have up : ∀ b o, (hideAll s.heap (news.map (·.1))).get? b = some o → s.heap.get? b = some o := fun b o e => of_hideAll _ e
  refine codeF_call_function hroom (up _ _ (X _ _ ho)) rfl hco hgen rfl (codeRec_of (fun a o e => up a o (X a o e)) hcd) (hbind _ _ _ _ ?_)
  refine wpAny_newFunctionEnv_cells hk (kindsX hkind _) fun env' he s' x => ?_
  subst he
  refine ⟨(T.nolimit.keeps up).keeps x.toInCall.keep, codeF_func ?_⟩
  obtain ⟨h₁, tk, cells, rfl, F, N', Y⟩ := cellsNews hnd x N
  exact h _ s.heap.objs.size h₁ tk cells mean mg mb rfl F N' Y B X T
end
theorem wpF_splitAt {prog : Program} {w : World} {A : Around} {E : Value → Shared → Prop} {s : Shared} {env : Env} {body : List Stmt} {Q : Flow → Shared → Prop} (k : Nat)
    (h : wpAny (model prog w) A (execs (body.take k) env) (fun f s' => match f with | .next => wpF (model prog w) A (execs (body.drop k) env) Q E s' | f => Q f s') E s) :
    wpF (model prog w) A (execs body env) Q E s := by
  rw [← List.take_append_drop k body]; exact wpF_split _ _ h
section
variable {w : World} {base g h h' : Heap} {outer : List Env} {L a : Addr} {m : Str → Option Value} {news : List (Addr × Obj)} {S : List Addr} {dp un dp' un' : Nat} {env : Env} {mean : ExcName → Option Value} {mg mb : Str → Option Value}
theorem siteX (B : Below (Ar dp un outer) base outer g) (X : (MineHead.hd.heap_39 w.params).In g) (T : Top MineHead.hd.view_39 LS mean mg mb g) (F : Fr g L h m) (hS : Off g L S) (hf : env.frame = some L := by rfl) (hk : env.scope.kind = .function := by rfl) :
    At w (Ar dp' un' (env :: outer)) base (env :: outer) (hideAll h S) := by
  have F' := fr_hide F hS
  have B' := pushX (env := env) B F' hf hk
  exact ⟨⟨rfl, B'.stays, B'.frames⟩, fun b o e => F'.keep b o (X b o e), mean, mg, mb, T.keeps F'.keep⟩
theorem news_new {D : Addr} {o : Obj} (F : Fr g L h m) (N : News g L h' news) (hd : h'.get? D = some o) (hz : h.objs.size ≤ D) : News g L h' ((D, o) :: news) := by
  obtain ⟨oL, _, _, hL, _⟩ := F.ns
  refine news_cons hd ⟨fun e => ?_, ?_⟩ N
  · exact absurd (Heap.lt_size hL) (Nat.not_lt.mpr (e ▸ hz))
  · cases q : g.get? D with
    | none => rfl
    | some o => exact absurd (Heap.lt_size (F.keep _ _ q)) (Nat.not_lt.mpr hz)
theorem lt_new {D : Addr} (N : News g L h news) (hz : h.objs.size ≤ D) : ∀ p ∈ news, p.1 < D := fun p hp => Nat.lt_of_lt_of_le (Heap.lt_size (N p hp).1) hz
end
end Mine
namespace Mine
open PySem PySem.W PyProof.Rows PySem.Calls PySem.Spec
theorem hideAll_sub {S S' : List Addr} {h : Heap} {b : Addr} {o : Obj} (e : (hideAll h S').get? b = some o) (hs : ∀ x ∈ S, x ∈ S') : (hideAll h S).get? b = some o :=
  hideAll_get _ (of_hideAll _ e) fun q => by rw [hideAll_none S' (hs _ q)] at e; cases e
theorem funFrames_rebase {h base base' : Heap} : ∀ {l : List Env}, h.FunFrames base l → (∀ env ∈ l, ∀ L, env.frame = some L → base'.get? L = none) → h.FunFrames base' l
  | [], _, _ => trivial
  | _ :: _, ⟨hk, ⟨L, o, hf, _, ho, hd⟩, hr⟩, hb => ⟨hk, ⟨L, o, hf, hb _ (.head _) L hf, ho, hd⟩, funFrames_rebase hr fun e he => hb e (.tail _ he)⟩
theorem base_frame {h base : Heap} {l : List Env} (H : h.FunFrames base l) : ∀ env ∈ l, ∀ L, env.frame = some L → base.get? L = none := by
  induction l with
  | nil => exact fun _ he => nomatch he
  | cons x r ih =>
    intro env he L' hf'
    obtain ⟨_, hx, hr⟩ := H
    obtain ⟨L, _, hf, hn, _⟩ := hx
    rcases List.mem_cons.mp he with rfl | he
    · rw [hf] at hf'
      cases hf'
      exact hn
    · exact ih hr env he L' hf'
section
variable {w : World} {base g h h' : Heap} {outer : List Env} {L a : Addr} {m : Str → Option Value} {news : List (Addr × Obj)} {S : List Addr} {dp un dp' un' : Nat} {env : Env} {mean : ExcName → Option Value} {mg mb : Str → Option Value}
/-- a call's ground of which all stands that is neither hidden nor a frame -/
theorem siteBig (B : Below (Ar dp un outer) base outer g) (X : (MineHead.hd.heap_39 w.params).In g) (T : Top MineHead.hd.view_39 LS mean mg mb g) (F : Fr g L h m) (hS : Off g L S) (hf : env.frame = some L) (hk : env.scope.kind = .function) :
    ∃ base', At w (Ar dp' un' (env :: outer)) base' (env :: outer) (hideAll h S) ∧ base.StaysIn base' ∧ (∀ b o, g.get? b = some o → (∀ e ∈ outer, e.frame ≠ some b) → base'.get? b = some o) ∧
      (∀ b o, h.get? b = some o → b ∉ S → b ≠ L → (∀ e ∈ outer, e.frame ≠ some b) → base'.get? b = some o) := by
  have C := siteX (env := env) (dp' := dp') (un' := un') B X T F hS hf hk
  have fr : ∀ e ∈ env :: outer, ∀ b, e.frame = some b → b ∈ S ++ (env :: outer).filterMap (·.frame) := fun e he b hb => List.mem_append_right _ (List.mem_filterMap.mpr ⟨e, he, hb⟩)
  have nf : ∀ b, (∀ e ∈ env :: outer, e.frame ≠ some b) → b ∉ S → b ∉ S ++ (env :: outer).filterMap (·.frame) := fun b h1 h2 hm => by
    rcases List.mem_append.mp hm with hm | hm
    · exact h2 hm
    · obtain ⟨e, he, hb⟩ := List.mem_filterMap.mp hm
      exact h1 e he hb
  have F' := fr_hide F hS
  have hgS : ∀ b o, g.get? b = some o → b ∉ S := fun b o e q => by rw [(hS b q).2] at e; cases e
  have hgL : ∀ b o, g.get? b = some o → b ≠ L := fun b o e q => absurd (Heap.lt_size e) (Nat.not_lt.mpr (q ▸ F.above))
  refine ⟨hideAll h (S ++ (env :: outer).filterMap (·.frame)), ⟨⟨C.B.stack, fun b o e => hideAll_sub e fun x hx => List.mem_append_left _ hx, ?_⟩, C.X, C.T⟩, fun b o e => ?_, fun b o e hn => ?_, fun b o e h1 h2 h3 => ?_⟩
  · exact funFrames_rebase C.B.frames fun e he b hb => hideAll_none _ (fr e he b hb)
  · have eg := B.stays b o e
    refine hideAll_get _ (F.keep b o eg) (nf b (fun e' he' hb => ?_) (hgS b o eg))
    have := base_frame C.B.frames e' he' b hb
    rw [this] at e; cases e
  · refine hideAll_get _ (F.keep b o e) (nf b (fun e' he' hb => ?_) (hgS b o e))
    cases he' with
    | head => rw [hf] at hb; cases hb; exact hgL _ _ e rfl
    | tail _ he' => exact hn e' he' hb
  · refine hideAll_get _ e (nf b (fun e' he' hb => ?_) h1)
    cases he' with
    | head => rw [hf] at hb; cases hb; exact h2 rfl
    | tail _ he' => exact h3 e' he' hb
theorem callBig {prog : Program} {α : Type} {t : Sem α} {Q : α → Shared → Prop} {E : Value → Shared → Prop} {s' : Shared} (dp' un' : Nat) (B : Below (Ar dp un outer) base outer g) (X : (MineHead.hd.heap_39 w.params).In g) (T : Top MineHead.hd.view_39 LS mean mg mb g) (F : Fr g L s'.heap m) (hS : Off g L S) (hf : env.frame = some L) (hk : env.scope.kind = .function)
    (k : ∀ base', At w (Ar dp' un' (env :: outer)) base' (env :: outer) (hideAll s'.heap S) → base.StaysIn base' → (∀ b o, g.get? b = some o → (∀ e ∈ outer, e.frame ≠ some b) → base'.get? b = some o) →
      (∀ b o, s'.heap.get? b = some o → b ∉ S → b ≠ L → (∀ e ∈ outer, e.frame ≠ some b) → base'.get? b = some o) → wpF (model prog w) ((Ar dp un outer).deeper env) t Q E s') : wpF (model prog w) ((Ar dp un outer).deeper env) t Q E s' := by
  obtain ⟨base', C, h1, h2, h3⟩ := siteBig (dp' := dp') (un' := un') B X T F hS hf hk
  exact k base' C h1 h2 h3
theorem raised_more {base' : Heap} {l : List Env} {e : Addr} {cls : Value} {n1 n2 : List (Addr × Obj)} (R : RaisedN base' l e cls n1 h) (hb : base.StaysIn base') (h2 : ∀ q ∈ n2, base'.get? q.1 = some q.2 ∧ base.get? q.1 = none) : RaisedN base l e cls (n1 ++ n2) h := by
  obtain ⟨Bh, a0, hB, hl, hfl⟩ := R
  refine ⟨Bh, a0, fun b o q => hB b o (hb b o q), fun q hq => ?_, hfl⟩
  rcases List.mem_append.mp hq with hq | hq
  · exact ⟨(hl q hq).1, fresh_of_stays hb (hl q hq).2⟩
  · exact ⟨hB _ _ (h2 q hq).1, (h2 q hq).2⟩
/-- no frame of those beneath is a news' -/
theorem news_noframe (B : Below (Ar dp un outer) base outer g) (N : News g L h news) : ∀ p ∈ news, ∀ e ∈ outer, e.frame ≠ some p.1 := fun p hp e he hf => by
  obtain ⟨L₁, o₁, hf₁, ho₁⟩ := funFrames_in B.frames e he
  rw [hf₁] at hf; cases hf
  rw [(N p hp).2.2] at ho₁; cases ho₁
end
end Mine
namespace Mine
open PySem PySem.W PyProof.Rows PySem.Calls PySem.Spec
open Builtin Builtin._codecs

/-- the texts that the law lays: fifteen words and the four keys -/
def texts : List Str := (["aé€b", "aé€bx", "aé€bxx", "é€b", "é€bx", "é€bxx", "€b", "€bx", "€bxx", "b", "bx", "bxx", "", "x", "xx", "CQL_VERSION", "COMPRESSION", "DRIVER_NAME", "DRIVER_VERSION"] : List String).map Str.ofString
/-- a text's octets -/
def u8 (x : Str) : Array UInt8 := x.cps.foldl (fun acc y => acc ++ (utf8Codec.bytesOf y).toArray) #[]

theorem narrow_texts : ∀ x ∈ texts, ∀ self, encodeNarrow "str.encode" utf8Codec none self x = pure (u8 x) := by
  intro x hx self
  simp only [texts, List.map_cons, List.map_nil, List.mem_cons, List.not_mem_nil, or_false] at hx
  rcases hx with rfl | rfl | rfl | rfl | rfl | rfl | rfl | rfl | rfl | rfl | rfl | rfl | rfl | rfl | rfl | rfl | rfl | rfl | rfl <;> kernel_rfl
theorem u8_texts : ∀ x ∈ texts, (u8 x).size ≤ 16 := by decide +kernel
theorem text_len : ∀ x ∈ texts, x.length ≤ 16 := by decide +kernel
theorem encode_is (x : Str) (t u : Tok) : Builtin.«str.encode» ⟨[.str x t, .str (Str.ofString "utf8") u], []⟩ = (do ret (← (do mkBytes (← encodeNarrow "str.encode" utf8Codec none (.str x t) x)))) := by kernel_rfl
theorem meets_encode {x : Str} {t u : Tok} (hx : x ∈ texts) : Meets (Builtin.«str.encode» ⟨[.str x t, .str (Str.ofString "utf8") u], []⟩) (fun _ R s => R (.ok (.ret (.bytes (u8 x) s.toks))) { s with toks := s.toks + 1 }) := by
  refine .of_wp fun prog w A R s hS => ?_
  rw [encode_is, narrow_texts x hx]
  refine wpAny_bind ?_
  refine wpAny_bind (wpAny_pure ?_)
  unfold mkBytes
  rw [if_neg (by have := u8_texts x hx; rw [sizeLine_eq]; omega)]
  exact wpAny_bind (wpAny_fresh (wpAny_pure (wpAny_pure ⟨_, rfl, hS⟩)))
section
variable {prog : Program} {w : World} {A : Around} {E : Value → Shared → Prop} {s : Shared}
theorem encode_call {x : Str} {t u : Tok} {Q : Value → Shared → Prop} (hx : x ∈ texts) (h : Q (.bytes (u8 x) s.toks) { s with toks := s.toks + 1 }) :
    wpAny (model prog w) A (call (.builtin "str.encode") [.str x t, .str (Str.ofString "utf8") u]) Q E s :=
  call_meets PySem.F.slot_str_encode (typeIs_str _ _ _) PySem.F.entry_str_encode (PySem.F.args_str_encode_2 _ _) (meets_encode hx) h
theorem encode_method {x : Str} {t : Tok} {pl : Sem Bool} {M : Model} {Q : Value × List Value → Shared → Prop} (h : Q (.builtin "str.encode", [.str x t]) s) : wpAny M A (getMethod (.str x t) "encode" pl) Q E s :=
  getMethod_builtin (typeIs_str _ _ _) PySem.F.plainAttrs_str PySem.F.slot_str_encode PySem.F.type_str_encode (fun _ e => nomatch e) h
end
end Mine
namespace Mine
open PySem PySem.W PyProof.Rows PySem.Calls PySem.Spec
/-- a bytearray that no one holds -/
abbrev baObj (b : Array UInt8) : Obj := { cls := .type "bytearray", data := .bytearray b 0 }

theorem ba_mro : mroOf (.type "bytearray") = pure [.type "bytearray", .type "object"] := by rw [mroOf_type]; kernel_rfl
theorem ba_lookup_new : typeLookup (.type "bytearray") "__new__" = pure (some (.builtin "bytearray.__new__")) := by rw [typeLookup_type, builtinLookup_eq_fast]; kernel_rfl
theorem ba_owner : Manifest.owners.lookup (String.ofList ['y', 'a', 'r', 'r', 'a', 'e', 't', 'y', 'b'].reverse) = some Manifest.sig_bytearray := by kernel_rfl
theorem ba_slot_init : Slot "bytearray" "__init__" "bytearray.__init__" :=
  .of (owner := "bytearray") (n := "__init__") (by rw [typeLookup_type, builtinLookup_eq_fast]; kernel_rfl) (by decide +kernel) (by decide +kernel) (by decide +kernel)
    (by first | exact .inl (by decide +kernel) | exact .inr (by decide +kernel)) (by rw [isSubtype_type]; kernel_rfl)
theorem ba_slot_len : Slot "bytearray" "__len__" "bytearray.__len__" :=
  .of (owner := "bytearray") (n := "__len__") (by rw [typeLookup_type, builtinLookup_eq_fast]; kernel_rfl) (by decide +kernel) (by decide +kernel) (by decide +kernel)
    (by first | exact .inl (by decide +kernel) | exact .inr (by decide +kernel)) (by rw [isSubtype_type]; kernel_rfl)
theorem ba_slot_setitem : Slot "bytearray" "__setitem__" "bytearray.__setitem__" :=
  .of (owner := "bytearray") (n := "__setitem__") (by rw [typeLookup_type, builtinLookup_eq_fast]; kernel_rfl) (by decide +kernel) (by decide +kernel) (by decide +kernel)
    (by first | exact .inl (by decide +kernel) | exact .inr (by decide +kernel)) (by rw [isSubtype_type]; kernel_rfl)
theorem ba_called : TypeCalled "bytearray" "bytearray.__new__" "bytearray.__init__" :=
  ⟨by decide +kernel, by decide +kernel, ⟨_, _, ba_mro⟩, madeBy_type ba_mro ba_lookup_new (by decide +kernel), by decide +kernel, by rw [isSubtype_type]; kernel_rfl, ba_slot_init⟩
theorem ba_typeCall_0 : checkTypeCall "bytearray" ⟨[], []⟩ = pure () := by kernel_rfl
theorem ba_typeCall_1 (a : Value) : checkTypeCall "bytearray" ⟨[a], []⟩ = pure () := by kernel_rfl
theorem ba_newCall_0 : checkBuiltinCall "bytearray.__new__" ⟨[.type "bytearray"], []⟩ = pure () := by kernel_rfl
theorem ba_newCall_1 (a : Value) : checkBuiltinCall "bytearray.__new__" ⟨[.type "bytearray", a], []⟩ = pure () := by kernel_rfl
theorem ba_entry_new : entryFor table "bytearray.__new__" = some Builtin.«list.__new__» := entryFor_alias (id' := "list.__new__") (by kernel_rfl) (by first | rfl | decide +kernel) (by decide +kernel) (by kernel_rfl)
theorem ba_entry_init : entryFor table "bytearray.__init__" = some Builtin.«bytearray.__init__» := entryFor_of_tree (by kernel_rfl)
theorem ba_entry_len : entryFor table "bytearray.__len__" = some Builtin.«bytearray.__len__» := entryFor_of_tree (by kernel_rfl)
theorem ba_entry_setitem : entryFor table "bytearray.__setitem__" = some Builtin.«bytearray.__setitem__» := entryFor_of_tree (by kernel_rfl)
theorem ba_plain_new : plainId "bytearray.__new__" = true := by decide +kernel
theorem ba_args_init_1 (a : Value) : argsOk "bytearray.__init__" ⟨[a], []⟩ := by unfold argsOk; kernel_rfl
theorem ba_args_init_2 (a b : Value) : argsOk "bytearray.__init__" ⟨[a, b], []⟩ := by unfold argsOk; kernel_rfl
theorem ba_args_len (a : Value) : argsOk "bytearray.__len__" ⟨[a], []⟩ := by unfold argsOk; kernel_rfl
theorem ba_args_setitem (a b c : Value) : argsOk "bytearray.__setitem__" ⟨[a, b, c], []⟩ := by unfold argsOk; kernel_rfl
theorem ba_sub : isSubtype (.type "bytearray") (.type "bytearray") = pure true := by rw [isSubtype_type]; kernel_rfl
theorem ba_look_release : typeLookup (.type "bytearray") "__release_buffer__" = pure (some (.builtin "bytearray.__release_buffer__")) := by rw [typeLookup_type, builtinLookup_eq_fast]; kernel_rfl

set_option maxRecDepth 1000000 in
set_option maxHeartbeats 4000000 in
theorem ba_owner_new : ("bytearray.__new__".splitOn ".__new__").headD "" = "bytearray" := by simp +decide [String.splitOn, String.splitOnAux]
section
variable {prog : Program} {w : World} {A : Around} {E : Value → Shared → Prop} {s : Shared}
theorem ba_new {rest : List Value} {Q₁ : Value → Shared → Prop} (hc : checkBuiltinCall "bytearray.__new__" ⟨.type "bytearray" :: rest, []⟩ = pure ())
    (h : Q₁ (.ref s.heap.objs.size) { s with heap := s.heap.push (baObj #[]) }) :
    codeAny (model prog w) A (.call (.builtin "bytearray.__new__") ⟨.type "bytearray" :: rest, []⟩) (wants Q₁ E) s := by
  refine codeAny_of_tree ?_
  show wpAny _ A.in1 (do checkBuiltinCall "bytearray.__new__" ⟨.type "bytearray" :: rest, []⟩; again (.builtin "bytearray.__new__" ⟨.type "bytearray" :: rest, []⟩)) _ _ s
  refine wpAny_bind (wpAny_of_eq hc (wpAny_pure ⟨plainId_quiet ba_plain_new _, codeAny_builtin_stack ba_entry_new rfl fun p st => ?_⟩))
  rw [Around.under_plainId ba_plain_new _]
  have hsub := ba_sub
  have hown := ba_owner_new
  obtain ⟨hp, g, d, tk, os⟩ := s
  simp only [hown]
  wp_walk
  exact h

end
end Mine
namespace Mine
open PySem PySem.W PyProof.Rows PySem.Calls PySem.Spec
section
variable {prog : Program} {w : World} {A : Around} {E : Value → Shared → Prop} {s : Shared}
theorem ba_exported {a : Addr} {Q : Bool → Shared → Prop} (h : Q false s) : wpF (model prog w) A (Builtin.Bytes.exported (.ref a)) Q E s := by
  unfold Builtin.Bytes.exported
  exact wpF_stackAny (exported_off (.ref a)) h
theorem ba_typeIs {a : Addr} {b : Array UInt8} (ho : s.heap.get? a = some (baObj b)) : s.TypeIs (.ref a) "bytearray" := ⟨_, ho, rfl⟩
theorem ba_payload {a : Addr} {b : Array UInt8} {Q : Array UInt8 → Shared → Prop} (ho : s.heap.get? a = some (baObj b)) (h : Q b s) : wpAny (model prog w) A (Builtin.Bytes.payload (.ref a)) Q E s := by
  unfold Builtin.Bytes.payload Builtin.Bytes.payload?
  exact wpAny_bind (wpAny_bind (wpAny_load ho (wpAny_pure (wpAny_pure h))))
theorem ba_exports {a : Addr} {b : Array UInt8} {Q : Nat → Shared → Prop} (ho : s.heap.get? a = some (baObj b)) (h : Q 0 s) : wpAny (model prog w) A (Builtin.Bytes.exportsOf (.ref a)) Q E s := by
  unfold Builtin.Bytes.exportsOf
  exact wpAny_bind (wpAny_load ho (wpAny_pure h))
theorem ba_release {a : Addr} {b : Array UInt8} {Q : Bool → Shared → Prop} (ho : s.heap.get? a = some (baObj b)) (h : Q false s) : wpAny (model prog w) A (Builtin.Bytes.ownRelease (.ref a)) Q E s := by
  have hT := ba_typeIs ho
  unfold Builtin.Bytes.ownRelease Builtin.Bytes.slotIsOwn
  refine wpAny_bind (wpAny_bind (wpAny_specialOf hT ba_look_release ?_))
  dsimp only
  rw [show ("bytearray.__release_buffer__".endsWith ("." ++ "__release_buffer__")) = true from by decide +kernel, show ("bytearray.__release_buffer__".dropRight ("__release_buffer__".length + 1)) = "bytearray" from by decide +kernel]
  rw [if_neg (by decide)]
  exact wpAny_isInstance hT ba_sub (wpAny_pure h)
theorem ba_write {a : Addr} {b : Array UInt8} {f : Array UInt8 → Array UInt8} {Q : Unit → Shared → Prop} (ho : s.heap.get? a = some (baObj b)) (hz : (f b).size ≤ sizeLine)
    (h : ∀ h', Heap.SameBut a s.heap h' → h'.get? a = some (baObj (f b)) → Q () { s with heap := h' }) : wpAny (model prog w) A (Builtin.Bytes.write (.ref a) f) Q E s := by
  show wpAny _ _ (updateBytearray a f) _ _ s
  unfold updateBytearray
  refine wpAny_bind (wpAny_load ho ?_)
  have hg : (s.heap.update a (Obj.mapBytearray f)).get? a = some (baObj (f b)) := Heap.get?_update_self _ ho rfl
  refine wpAny_bind (wpAny_update ho ?_)
  refine wpAny_lookBehind hg ?_ (h _ (Heap.SameBut.update ..) hg)
  show Data.pastItsLine (.bytearray (f b) 0) = none
  exact if_neg (Nat.not_lt.mpr hz)


theorem ba_heldNot {a : Addr} {b : Array UInt8} {Q : Bool → Shared → Prop} (ho : s.heap.get? a = some (baObj b)) (h : Q false s) :
    wpF (model prog w) A (Builtin.Bytes.exported (.ref a) <||> do return (← Builtin.Bytes.exportsOf (.ref a)) > 0) Q E s := by
  refine wpF_bind (ba_exported ?_)
  exact wpF_bindA (ba_exports ho (wpF_pure h))
/-- bytearray() -/
theorem ba_init0 {a : Addr} {Q : Fin → Shared → Prop} (ho : s.heap.get? a = some (baObj #[]))
    (h : ∀ h', Heap.SameBut a s.heap h' → h'.get? a = some (baObj #[]) → Q (.done (.ret .none)) { s with heap := h' }) :
    wpF (model prog w) A (Builtin.«bytearray.__init__» ⟨[.ref a], []⟩) Q E s := by
  unfold Builtin.«bytearray.__init__»
  dsimp only
  refine wpF_bindA (ba_release ho ?_)
  rw [if_neg (by decide)]
  refine wpF_bindA (wpAny_of_eq (a := [none, none, none]) (by kernel_rfl) ?_)
  dsimp only
  refine wpF_bindA (wpAny_of_eq (a := ()) (by rfl) ?_)
  refine wpF_bindA (wpAny_of_eq (a := ()) (by rfl) ?_)
  refine wpF_bind (ba_heldNot ho ?_)
  rw [if_neg (by decide)]
  refine wpF_bindA (ba_write ho (Nat.zero_le _) fun h' hs hg => ?_)
  exact wpF_bindA (wpAny_pure (wpF_pure (h h' hs hg)))
/-- bytearray(b), b bytes -/
theorem ba_init1 {a : Addr} {v : Array UInt8} {t : Tok} {Q : Fin → Shared → Prop} (ho : s.heap.get? a = some (baObj #[])) (hz : v.size ≤ sizeLine)
    (h : ∀ h', Heap.SameBut a s.heap h' → h'.get? a = some (baObj v) → Q (.done (.ret .none)) { s with heap := h' }) :
    wpF (model prog w) A (Builtin.«bytearray.__init__» ⟨[.ref a, .bytes v t], []⟩) Q E s := by
  unfold Builtin.«bytearray.__init__»
  dsimp only
  refine wpF_bindA (ba_release ho ?_)
  rw [if_neg (by decide)]
  refine wpF_bindA (wpAny_of_eq (a := [some (.bytes v t), none, none]) (by kernel_rfl) ?_)
  dsimp only
  refine wpF_bindA (wpAny_of_eq (a := ()) (by rfl) ?_)
  refine wpF_bindA (wpAny_of_eq (a := ()) (by rfl) ?_)
  refine wpF_bind (ba_heldNot ho ?_)
  rw [if_neg (by decide)]
  refine wpF_bindA (ba_write ho (Nat.zero_le _) fun h' hs hg => ?_)
  refine wpF_bindA (wpAny_of_eq (a := none) (by rfl) ?_)
  rw [if_neg (by decide)]
  refine wpF_bindA (wpAny_pure ?_)
  refine wpF_bindA (wpAny_of_eq (a := none) (by unfold specialOf; kernel_rfl) ?_)
  rw [if_neg (by decide)]
  refine wpF_bindA (wpAny_of_eq (a := some v) (by kernel_rfl) ?_)
  dsimp only
  refine wpF_bindA (wpAny_rule ?_)
  refine wpF_bindA (ba_write (s := { s with heap := h' }) hg hz fun h'' hs' hg' => ?_)
  exact wpF_pure (h h'' (hs.trans hs') hg')

theorem ba_call0 {Q : Value → Shared → Prop} (h : ∀ h', (∀ b o, s.heap.get? b = some o → h'.get? b = some o) → h'.get? s.heap.objs.size = some (baObj #[]) → Q (.ref s.heap.objs.size) { s with heap := h' }) :
    wpF (model prog w) A (call (.type "bytearray") []) Q E s := by
  refine callTypeF (Q₁ := fun obj s₁ => obj = .ref s.heap.objs.size ∧ s₁ = { s with heap := s.heap.push (baObj #[]) }) ba_called ba_typeCall_0 ba_entry_init (fun _ => by show (!decIds.contains "bytearray.__init__") = true; decide +kernel) (ba_new ba_newCall_0 ⟨rfl, rfl⟩) ?_
  rintro obj s₁ ⟨rfl, rfl⟩
  have hg : (s.heap.push (baObj #[])).get? s.heap.objs.size = some (baObj #[]) := Heap.get?_push_size _ rfl
  refine ⟨ba_typeIs (s := { s with heap := s.heap.push (baObj #[]) }) hg, ba_args_init_1 _, ba_init0 (s := { s with heap := s.heap.push (baObj #[]) }) hg fun h' hs hg' => ⟨rfl, h h' (fun b o e => ?_) hg'⟩⟩
  exact (hs.2 b (Nat.ne_of_lt (Heap.lt_size e))).trans (Heap.get?_push_of_some _ e)
theorem ba_call1 {v : Array UInt8} {t : Tok} {Q : Value → Shared → Prop} (hz : v.size ≤ sizeLine) (h : ∀ h', (∀ b o, s.heap.get? b = some o → h'.get? b = some o) → h'.get? s.heap.objs.size = some (baObj v) → Q (.ref s.heap.objs.size) { s with heap := h' }) :
    wpF (model prog w) A (call (.type "bytearray") [.bytes v t]) Q E s := by
  refine callTypeF (Q₁ := fun obj s₁ => obj = .ref s.heap.objs.size ∧ s₁ = { s with heap := s.heap.push (baObj #[]) }) ba_called (ba_typeCall_1 _) ba_entry_init (fun _ => by show (!decIds.contains "bytearray.__init__") = true; decide +kernel) (ba_new (ba_newCall_1 _) ⟨rfl, rfl⟩) ?_
  rintro obj s₁ ⟨rfl, rfl⟩
  have hg : (s.heap.push (baObj #[])).get? s.heap.objs.size = some (baObj #[]) := Heap.get?_push_size _ rfl
  refine ⟨ba_typeIs (s := { s with heap := s.heap.push (baObj #[]) }) hg, ba_args_init_2 _ _, ba_init1 (s := { s with heap := s.heap.push (baObj #[]) }) hg hz fun h' hs hg' => ⟨rfl, h h' (fun b o e => ?_) hg'⟩⟩
  exact (hs.2 b (Nat.ne_of_lt (Heap.lt_size e))).trans (Heap.get?_push_of_some _ e)

abbrev slObj (l u st : Value) : Obj := { cls := .type "slice", data := .fields #[l, u, st] }

theorem int_look_index : typeLookup (.type "int") "__index__" = pure (some (.builtin "int.__index__")) := by rw [typeLookup_type, builtinLookup_eq_fast]; kernel_rfl
theorem int_has_index (i : Int) (t : Tok) {Q : Option Value → Shared → Prop} (h : Q (some (.builtin "int.__index__")) s) : wpAny (model prog w) A (specialOf (.int i t) "__index__") Q E s :=
  wpAny_specialOf (typeIs_int _ _ _) int_look_index h
theorem ba_sliceParts {sl : Addr} {t1 t2 : Tok} {n k : Int} {Q : Value × Value × Value → Shared → Prop} (hsl : s.heap.get? sl = some (slObj (.int n t1) (.int k t2) .none))
    (h : Q (rawInt n, rawInt k, .none) s) : wpAny (model prog w) A (Builtin.Bytes.sliceParts (.ref sl)) Q E s := by
  unfold Builtin.Bytes.sliceParts
  refine wpAny_bind (wpAny_field hsl rfl (x := .none) rfl ?_)
  refine wpAny_bind (wpAny_of_eq (a := .none) (by rfl) ?_)
  rw [if_neg (by decide)]
  refine wpAny_bind (wpAny_field hsl rfl (x := .int n t1) rfl ?_)
  refine wpAny_bind (wpAny_of_eq (a := rawInt n) (by kernel_rfl) ?_)
  refine wpAny_bind (wpAny_field hsl rfl (x := .int k t2) rfl ?_)
  refine wpAny_bind (wpAny_of_eq (a := rawInt k) (by kernel_rfl) ?_)
  exact wpAny_pure h
theorem ba_indices {n k : Int} {b : Nat} (hn : n = b) (hk : n ≤ k) : sliceIndices (rawInt n) (rawInt k) .none b = pure ((b : Int), (b : Int), 1) := by
  have e := PySem.sliceIndices_raw (some n) (some k) none b (by simp)
  have e2 : PySem.sliceBounds (some n) (some k) none b = ((b : Int), (b : Int), 1) := by
    subst hn
    have h1 : ¬ ((b : Int) < 0) := by omega
    have h2 : ¬ (k < 0) := by omega
    have h3 : (1 : Int) > 0 := by decide
    simp only [PySem.sliceBounds, Option.getD_none, h1, h2, h3, if_true, if_false, Prod.mk.injEq]
    refine ⟨?_, ?_, trivial⟩ <;> omega
  rw [e2] at e
  exact e
/-- a[n : n + k] = v at the end of a -/
theorem ba_setitem {a sl : Addr} {b v : Array UInt8} {t t1 t2 : Tok} {n k : Int} {Q : Fin → Shared → Prop} (ho : s.heap.get? a = some (baObj b)) (hsl : s.heap.get? sl = some (slObj (.int n t1) (.int k t2) .none))
    (hn : n = b.size) (hk : n ≤ k) (hv : v.size ≠ 0) (hz : b.size + v.size ≤ sizeLine)
    (h : ∀ h', (∀ c o, c ≠ a → s.heap.get? c = some o → h'.get? c = some o) → h'.get? a = some (baObj (b ++ v)) → Q (.done (.ret .none)) { s with heap := h' }) :
    wpF (model prog w) A (Builtin.«bytearray.__setitem__» ⟨[.ref a, .ref sl, .bytes v t], []⟩) Q E s := by
  have hT : s.TypeIs (.ref sl) "slice" := ⟨_, hsl, rfl⟩
  have hvz : v.size ≤ sizeLine := by omega
  unfold Builtin.«bytearray.__setitem__»
  dsimp only
  rw [if_neg (by decide)]
  refine wpF_bindA ?_
  unfold Builtin.Bytes.subscript?
  refine wpAny_bind (wpAny_specialOf (r := none) hT (by rw [typeLookup_type, builtinLookup_eq_fast]; kernel_rfl) ?_)
  rw [if_pos (by decide)]
  refine wpAny_pure ?_
  dsimp only
  refine wpF_bindA (wpAny_typeOf hT ?_)
  rw [if_neg (by decide)]
  refine wpF_bindA (ba_sliceParts hsl ?_)
  rw [if_neg (by simp [Builtin.Bytes.sameRef])]
  refine wpF_bindA (wpAny_of_eq (a := false) (by kernel_rfl) ?_)
  rw [if_pos (by decide)]
  refine wpF_bindA (wpAny_of_eq (a := false) (by kernel_rfl) ?_)
  refine wpF_bindA (wpAny_of_eq (a := none) (by rfl) ?_)
  rw [if_neg (by decide)]
  refine wpF_bindA (wpAny_rule ?_)
  refine wpF_bind (ba_call1 hvz fun h₁ hk₁ hg₁ => ?_)
  refine wpF_bindA (wpAny_holding (ba_sliceParts (s := { s with heap := h₁ }) (hk₁ _ _ hsl) ?_))
  refine wpF_bindA (ba_payload (s := { s with heap := h₁ }) hg₁ ?_)
  refine wpF_bindA (ba_payload (s := { s with heap := h₁ }) (hk₁ _ _ ho) ?_)
  refine wpF_bindA (wpAny_of_eq (ba_indices hn hk) ?_)
  dsimp only
  rw [if_pos (by decide)]
  refine wpF_bindA (wpAny_rule ?_)
  rw [if_pos (by show ((v.size : Int) != max (b.size : Int) (b.size : Int) - (b.size : Int)) = true; rw [bne_iff_ne]; omega)]
  have hcr : ∀ {Q : Unit → Shared → Prop}, Q () { s with heap := h₁ } → wpF (model prog w) A (Builtin.Bytes.checkResize (.ref a)) Q E { s with heap := h₁ } := fun hq => by
    unfold Builtin.Bytes.checkResize
    refine wpF_bind (ba_heldNot (s := { s with heap := h₁ }) (hk₁ _ _ ho) ?_)
    rw [if_neg (by decide)]
    exact wpF_pure hq
  refine wpF_bind (hcr ?_)
  have e : (b.extract 0 (b.size : Int).toNat ++ v ++ b.extract (max (b.size : Int) (b.size : Int)).toNat b.size) = b ++ v := by
    simp
  refine wpF_bindA (ba_write (s := { s with heap := h₁ }) (b := b) (hk₁ _ _ ho) (by rw [e, Array.size_append]; exact hz) fun h' hs hg => ?_)
  rw [e] at hg
  exact wpF_pure (h h' (fun c o hc q => (hs.2 c hc).trans (hk₁ _ _ q)) hg)
end
end Mine
namespace Mine
open PySem PySem.W PyProof.Rows PySem.Calls PySem.Spec
section
variable {prog : Program} {w : World} {A : Around} {E : Value → Shared → Prop} {s : Shared} {env : Env}
theorem wpF_Assign_Subscript {o i : Expr} {pos' : Pos} {value : Expr} {pos : Pos} {Q : Flow → Shared → Prop}
    (h : wpAny (model prog w) A (eval value env) (fun v s₁ => wpAny (model prog w) A (eval o env) (fun ov s₂ => wpAny (model prog w) A (eval i env) (fun iv s₃ =>
      wpF (model prog w) A (setItem ov iv v) (fun _ => Q .next) E s₃) E s₂) E s₁) E s)
    (hs : swapsWith value (some (.Subscript o i pos')) pos.line env = pure false := by rfl) :
    wpF (model prog w) A (exec (.Assign [.Subscript o i pos'] value pos) env) Q E s := by
  rw [exec_Assign_Subscript o i pos' value pos hs]
  simp only [assign_Subscript]
  refine wpF_bindA (wpAny_standAt (wpF_bindA (wpAny_mono h (fun v s₁ h₁ => ?_) fun _ _ x => x)))
  refine wpF_bind ?_
  refine wpF_bindA (wpAny_holding (wpAny_mono h₁ (fun ov s₂ h₂ => ?_) fun _ _ x => x))
  refine wpF_bindA (wpAny_holding (wpAny_mono h₂ (fun iv s₃ h₃ => ?_) fun _ _ x => x))
  refine wpF_bindA (wpAny_standAt ?_)
  refine wpF_bind (wpF_holding (wpF_mono h₃ (fun _ s₄ h₄ => ?_) fun _ _ x => x))
  exact wpF_of_any (wpAny_release (wpF_pure h₄))
theorem ba_seq : seqItemTypes.contains "bytearray" = false := by decide
theorem setItem_ba {a sl : Addr} {b v : Array UInt8} {t t1 t2 : Tok} {n k : Int} {Q : Unit → Shared → Prop} (ho : s.heap.get? a = some (baObj b)) (hsl : s.heap.get? sl = some (slObj (.int n t1) (.int k t2) .none))
    (hn : n = b.size) (hk : n ≤ k) (hv : v.size ≠ 0) (hz : b.size + v.size ≤ sizeLine)
    (h : ∀ h', (∀ c o, c ≠ a → s.heap.get? c = some o → h'.get? c = some o) → h'.get? a = some (baObj (b ++ v)) → Q () { s with heap := h' }) :
    wpF (model prog w) A (setItem (.ref a) (.ref sl) (.bytes v t)) Q E s := by
  unfold setItem
  refine wpF_holding (wpF_bindA (wpAny_sequenceKey (ba_typeIs ho) ba_seq ?_))
  refine wpF_bind ?_
  refine callSpecialF (name := "__setitem__") (ba_typeIs ho) ba_slot_setitem (callF_slot (by show (!decIds.contains "bytearray.__setitem__") = true; decide +kernel) ba_slot_setitem (ba_typeIs ho) ba_entry_setitem (ba_args_setitem _ _ _) ?_)
  exact ba_setitem ho hsl hn hk hv hz fun h' h1 h2 => ⟨_, rfl, wpF_pure (h h' h1 h2)⟩
end
end Mine
namespace Mine
open PySem PySem.W PyProof.Rows PySem.Calls PySem.Spec
theorem ba_no_bytes : typeLookup (.type "bytearray") "__bytes__" = pure none := by rw [typeLookup_type, builtinLookup_eq_fast]; kernel_rfl
theorem ba_no_index : typeLookup (.type "bytearray") "__index__" = pure none := by rw [typeLookup_type, builtinLookup_eq_fast]; kernel_rfl
theorem ba_look_buffer : typeLookup (.type "bytearray") "__buffer__" = pure (some (.builtin "bytearray.__buffer__")) := by rw [typeLookup_type, builtinLookup_eq_fast]; kernel_rfl
theorem none_no_len : typeLookup (.type "NoneType") "__len__" = pure none := by rw [typeLookup_type, builtinLookup_eq_fast]; kernel_rfl
theorem int_no_len : typeLookup (.type "int") "__len__" = pure none := by rw [typeLookup_type, builtinLookup_eq_fast]; kernel_rfl
theorem intsAre_eq {vs : List Value} {ns ms : List Int} (h : IntsAre vs ns) (e : ns = ms) : IntsAre vs ms := e ▸ h
theorem intsAre_of_at : ∀ {vs : List Value} {ns : List Int}, vs.length = ns.length → (∀ (j : Nat) (x : Value), vs[j]? = some x → ∃ (n : Int) (u : Tok), x = Value.int n u ∧ ns[j]? = some n) → IntsAre vs ns
  | [], [], _, _ => .nil
  | x :: vs, n :: ns, hl, h => by
    obtain ⟨m, u, rfl, hm⟩ := h 0 x rfl
    cases (Option.some.inj hm : n = m)
    exact .cons _ _ (intsAre_of_at (Nat.succ.inj hl) fun j x hj => h (j + 1) x hj)
  | [], _ :: _, hl, _ => by cases hl
  | _ :: _, [], hl, _ => by cases hl
section
variable {prog : Program} {w : World} {A : Around} {E : Value → Shared → Prop} {s : Shared}
theorem ba_len_gives {a : Addr} {b : Array UInt8} {Q : Value → Shared → Prop} (ho : s.heap.get? a = some (baObj b)) (hfit : (b.size : Int) < 2 ^ 63)
    (h : Q (.int (b.size : Nat) (s.toks + 1)) { s with toks := s.toks + 1 + 1 }) : wpAny (model prog w) A (call (.builtin "len") [.ref a]) Q E s := by
  refine call_len_slot (ba_typeIs ho) ba_slot_len (fun Q' hq => ?_) (by omega) (by omega) h
  refine wpAny_call_entry ba_slot_len (ba_typeIs ho) ba_entry_len ?_ (ba_args_len _)
  show wpAny _ _ (do retInt (← Builtin.Bytes.payload (.ref a)).size) _ _ s
  refine wpAny_bind (ba_payload ho ?_)
  exact wpAny_bind (wpAny_mkInt (wpAny_pure ⟨_, rfl, hq⟩))
theorem ba_own_buffer {a : Addr} {b : Array UInt8} {Q : Bool → Shared → Prop} (ho : s.heap.get? a = some (baObj b)) (h : Q true s) : wpAny (model prog w) A (Builtin.Bytes.slotIsOwn (.ref a) "__buffer__") Q E s := by
  have hT := ba_typeIs ho
  unfold Builtin.Bytes.slotIsOwn
  refine wpAny_bind (wpAny_specialOf hT ba_look_buffer ?_)
  dsimp only
  rw [show ("bytearray.__buffer__".endsWith ("." ++ "__buffer__")) = true from by decide +kernel, show ("bytearray.__buffer__".dropRight ("__buffer__".length + 1)) = "bytearray" from by decide +kernel]
  rw [if_neg (by decide)]
  exact wpAny_isInstance hT ba_sub h
theorem ba_buffer {a : Addr} {b : Array UInt8} {id : String} {Q : Option (Array UInt8) → Shared → Prop} (ho : s.heap.get? a = some (baObj b)) (h : Q (some b) s) : wpAny (model prog w) A (Builtin.Bytes.buffer? id (.ref a) true) Q E s := by
  have hT := ba_typeIs ho
  unfold Builtin.Bytes.buffer?
  refine wpAny_bind (wpAny_specialOf hT ba_look_buffer ?_)
  dsimp only
  refine wpAny_bind (ba_own_buffer ho ?_)
  rw [if_neg (by decide)]
  refine wpAny_bind (wpAny_specialOf hT ba_look_buffer ?_)
  refine wpAny_bind (ba_release ho ?_)
  rw [if_neg (by decide)]
  exact wpAny_bind (ba_payload ho (wpAny_pure h))
/-- bytes(a) -/
theorem ba_bytes_new {a : Addr} {b : Array UInt8} {Q : Value → Shared → Prop} (ho : s.heap.get? a = some (baObj b)) (hz : b.size ≤ sizeLine)
    (hQ : ∀ t k, Q (.bytes b t) { s with toks := k }) :
    codeAny (model prog w) A (.call (.builtin "bytes.__new__") ⟨[.type "bytes", .ref a], []⟩) (wants Q E) s := by
  refine codeAny_of_tree ?_
  show wpAny _ A.in1 (do checkBuiltinCall "bytes.__new__" ⟨[.type "bytes", .ref a], []⟩; again (.builtin "bytes.__new__" ⟨[.type "bytes", .ref a], []⟩)) _ _ s
  refine wpAny_bind (wpAny_of_eq (F.bm_newCall _) (wpAny_pure ⟨plainId_quiet F.bm_plain _, codeAny_builtin F.bm_entry ?_⟩))
  rw [Around.under_plainId F.bm_plain _]
  have hT := ba_typeIs ho
  unfold Builtin.«bytes.__new__»
  refine wpAny_bind (wpAny_of_eq (a := true) rfl ?_)
  refine bm_if_false rfl ?_
  refine wpAny_bind (wpAny_of_eq F.bm_sub ?_)
  refine bm_if_false rfl ?_
  refine wpAny_bind (wpAny_of_eq (F.bm_bind _) ?_)
  refine wpAny_bind (wpAny_of_eq (a := ()) rfl ?_)
  refine wpAny_bind (wpAny_of_eq (a := ()) rfl ?_)
  refine bm_if_false rfl ?_
  refine wpAny_bind (wpAny_specialOf hT ba_no_bytes ?_)
  refine wpAny_bind (wpAny_bind ?_)
  show wpAny _ _ (load a >>= _) _ _ _
  refine wpAny_bind (wpAny_load ho ?_)
  refine wpAny_pure (wpAny_pure ?_)
  refine bm_if_false rfl ?_
  refine wpAny_bind (wpAny_specialOf hT ba_no_index ?_)
  refine bm_if_true rfl ?_
  first
    | show wpAny _ _ (Builtin.Bytes.buffer? "bytes.__new__" (.ref a) true >>= _) _ _ _
    | (refine wpAny_bind ?_; show wpAny _ _ (Builtin.Bytes.buffer? "bytes.__new__" (.ref a) true >>= _) _ _ _)
  refine wpAny_bind (ba_buffer ho ?_)
  refine wpAny_bind (wpAny_rule ?_)
  refine wpAny_bind (wpAny_mkBytes ?_ hz)
  show wpAny _ _ (if (Value.type "bytes" == Value.type "bytes") = true then _ else _) _ _ _
  refine bm_if_true (by decide) ?_
  first
    | exact wpAny_pure (hQ _ _)
    | exact wpAny_bind (wpAny_pure (wpAny_pure (hQ _ _)))
    | exact wpAny_bind (wpAny_pure (wpAny_pure (wpAny_pure (hQ _ _))))
theorem ba_bytes {a : Addr} {b : Array UInt8} {Q : Value → Shared → Prop} (ho : s.heap.get? a = some (baObj b)) (hz : b.size ≤ sizeLine)
    (hQ : ∀ t k, Q (.bytes b t) { s with toks := k }) : wpAny (model prog w) A (call (.type "bytes") [.ref a]) Q E s := by
  refine callType_codes (Q₁ := fun obj s₁ => s₁.TypeIs obj "bytes" ∧ Q obj s₁) F.bm_called (F.bm_typeCall _) F.entry_object_init
    (ba_bytes_new ho hz fun t k => ⟨PySem.W.typeIs_bytes _ _ _, hQ t k⟩) fun obj s₁ h₁ => ?_
  exact ⟨h₁.1, F.args_object_init_2 obj _, object_init_meets F.bm_called.init.lookup F.bm_called.made (by decide) prog w A.in1 _ s₁ ⟨h₁.1, rfl, h₁.2⟩⟩

/-- len of what has none -/
theorem len_raises {T : String} {v : Value} {Q : Value → Shared → Prop} (hT : s.TypeIs v T) (hn : typeLookup (.type T) "__len__" = pure none) (hw : typeNameOf v = pure T) (hz : (("object of type '" ++ T ++ "' has no len()" : String) : Str).length ≤ sizeLine) (hh : A.handled = none)
    (hE : ∀ h' e, Heap.NewExc s.heap h' e "TypeError" → ∀ k, E (.ref e) { s with heap := h', toks := k }) : wpAny (model prog w) A (call (.builtin "len") [v]) Q E s := by
  refine Calls.call_function_entry kind_len plain_len entry_len (args_len1 _) ?_
  unfold Builtin.«len»
  refine wpAny_bind (m := oneArg "len" _) (wpAny_pure ?_)
  refine wpAny_bind (m := callSpecial? v (Str.ofString "__len__")) ?_
  simp only [callSpecial?]
  refine wpAny_bind (wpAny_specialOf hT hn ?_)
  refine wpAny_pure ?_
  refine wpAny_bind (wpAny_rule ?_)
  refine wpAny_bind (wpAny_of_eq hw ?_)
  exact wpAny_raiseErrorMade plainExc_TypeError hh (fun h' tk e hx => hE h' e hx tk) hz
theorem len_none {Q : Value → Shared → Prop} (hh : A.handled = none) (hE : ∀ h' e, Heap.NewExc s.heap h' e "TypeError" → ∀ k, E (.ref e) { s with heap := h', toks := k }) : wpAny (model prog w) A (call (.builtin "len") [.none]) Q E s :=
  len_raises (T := "NoneType") (v := .none) (by show typeOf _ = _; kernel_rfl) none_no_len (by kernel_rfl) (by decide +kernel) hh hE
theorem len_int {n : Int} {t : Tok} {Q : Value → Shared → Prop} (hh : A.handled = none) (hE : ∀ h' e, Heap.NewExc s.heap h' e "TypeError" → ∀ k, E (.ref e) { s with heap := h', toks := k }) : wpAny (model prog w) A (call (.builtin "len") [.int n t]) Q E s :=
  len_raises (T := "int") (v := .int n t) (by show typeOf _ = _; kernel_rfl) int_no_len (by kernel_rfl) (by decide +kernel) hh hE

/-- list(b), b bytes -/
theorem list_init_bytes {v : Array UInt8} {t : Tok} {R : Result → Shared → Prop} (hh : A.handled = none) (hz : v.size ≤ sizeLine) (S : Addr) (hS : s.heap.get? S = some { cls := .type "list", data := .seq #[] })
    (hR : ∀ h' tk acc' c', (∀ b o, b ≠ S → s.heap.get? b = some o → h'.get? b = some o) → h'.get? S = some { cls := .type "list", dict := none, data := .seq acc' c', slots := #[] } → ItemsOf (fun i x => ∃ c u, v[i]? = some c ∧ x = .int (c.toNat : Int) u) acc' v.size → R (.ok (.ret .none)) { s with heap := h', toks := tk }) :
    wpAny (model prog w) A.in1 (Builtin.«list.__init__» ⟨[.ref S, .bytes v t], []⟩)
      (fun fin s' => match fin with | .done f => R (.ok f) s' | .again c' => c'.quiet = true ∧ codeAny (model prog w) A c' R s') (fun e s' => R (.error e) s') s := by
  show wpAny _ _ (do let old ← Builtin.List.listItems (.ref S); Builtin.List.listUpdate (.ref S) (fun _ => #[]); letGo old.toList.reverse; Builtin.List.listExtendWith (.ref S) (.bytes v t) .none) _ _ s
  refine wpAny_bind ?_
  unfold Builtin.List.listItems
  refine wpAny_bind (wpAny_seqItems hS rfl (wpAny_pure ?_))
  show wpAny _ _ (updateSeq S (fun _ => #[]) >>= fun _ => letGo (#[] : Array Value).toList.reverse >>= fun _ => Builtin.List.listExtendWith (.ref S) (.bytes v t) .none) _ _ s
  refine wpAny_bind (wpAny_updateSeq hS rfl ?_)
  have hS₂ := Heap.get?_update_self (Obj.mapSeq (fun _ => (#[] : Array Value))) hS rfl
  have oth : ∀ b o, b ≠ S → s.heap.get? b = some o → (s.heap.update S (Obj.mapSeq (fun _ => (#[] : Array Value)))).get? b = some o :=
    fun b o hb e => (Heap.get?_update_other _ _ (Ne.symm hb)).trans e
  refine wpAny_bind (wpAny_letGo ?_)
  unfold Builtin.List.listExtendWith
  refine wpAny_bind (wpAny_typeOf (T := "bytes") (PySem.W.typeIs_bytes _ _ _) ?_)
  rw [if_neg (by rw [show Builtin.List.listSameRef (.ref S) (.bytes v t) = false from rfl]; decide)]
  refine wpAny_bind (KBw.pyIter_bytes ?_)
  refine wpAny_bind (wpAny_holding ?_)
  have hint : ∀ {Q : Bool → Shared → Prop} {s' : Shared}, Q false s' → wpAny (model prog w) A.in1 (Builtin.List.listLengthHint (.bytes v t)) Q (fun e s' => R (.error e) s') s' := fun {Q s'} hq => by
    unfold Builtin.List.listLengthHint
    refine wpAny_bind (wpAny_specialOf (PySem.W.typeIs_bytes _ _ _) FB.slot_bytes_len.lookup ?_)
    dsimp only
    rw [show splitId "bytes.__len__" = some ("bytes", "__len__") from by decide +kernel]
    dsimp only
    refine wpAny_bind (wpAny_isInstance (PySem.W.typeIs_bytes _ _ _) F.bm_sub ?_)
    refine bm_if_false rfl ?_
    refine bm_if_true (by decide +kernel) ?_
    exact wpAny_bind (wpAny_typeOf (T := "bytes") (PySem.W.typeIs_bytes _ _ _) (wpAny_pure hq))
  refine wpAny_bind (m := Builtin.List.listLengthHint (.bytes v t)) (hint ?_)
  dsimp only
  refine wpAny_pure ?_
  rw [if_neg (by decide)]
  have W := KBw.walks (prog := prog) (w := w) (A := A.in1) hh s.heap.objs.size v t
  refine wpAny_pure ⟨plainId_quiet PySem.F.plain_extend_loop _, ?_⟩
  have hsz : (s.heap.update S (Obj.mapSeq fun _ => (#[] : Array Value))).objs.size = s.heap.objs.size := by simp
  have hSlt : S < s.heap.objs.size := Heap.lt_size hS
  simp only [hsz]
  refine codeAny_extend_loopS W.toS hz S (by simp; exact Nat.ne_of_lt hSlt) .none v.size 0 _ #[] _ rfl (Nat.zero_le _) ⟨_, by rw [← hsz]; exact Heap.get?_push_size _ rfl, rfl, rfl⟩ (Heap.get?_push_of_some _ hS₂) (ItemsOf.nil _) fun s' acc' c' hm hS' hacc => ?_
  rw [Moved.eq_with hm]
  refine hR s'.heap s'.toks acc' c' (fun b o hb e => hm.heap b o (fun hmem => ?_) (Heap.get?_push_of_some _ (oth b o hb e))) hS' hacc
  rcases List.mem_cons.mp hmem with e' | hmem
  · exact hb e'
  · exact absurd (Heap.lt_size e) (by rw [List.mem_singleton.mp hmem]; exact Nat.lt_irrefl _)
theorem list_bytes {v : Array UInt8} {t : Tok} {Q : Value → Shared → Prop} (hh : A.handled = none) (hz : v.size ≤ sizeLine)
    (hQ : ∀ h' tk vs c, (∀ b o, s.heap.get? b = some o → h'.get? b = some o) → h'.get? s.heap.objs.size = some (listOf (List.toArray vs) c) → IntsAre vs (KBw.bInts v) → Q (.ref s.heap.objs.size) { s with heap := h', toks := tk }) :
    wpAny (model prog w) A (call (.type "list") [.bytes v t]) Q E s := by
  refine callType_codes (Q₁ := fun obj s₁ => obj = .ref s.heap.objs.size ∧ s₁ = { s with heap := s.heap.push { cls := .type "list", data := .seq #[] } }) PySem.F.called_list (PySem.F.typeCall_list_1 _) PySem.F.entry_list_init
    (code_list_new _ ⟨rfl, rfl⟩) fun obj s₁ h₁ => ?_
  obtain ⟨rfl, rfl⟩ := h₁
  have hS : (s.heap.push { cls := .type "list", data := .seq #[] }).get? s.heap.objs.size = some { cls := .type "list", data := .seq #[] } := Heap.get?_push_size _ rfl
  refine ⟨⟨_, hS, rfl⟩, PySem.F.args_list_init_2 _ _, list_init_bytes (A := A.in1) hh hz _ hS (fun h' tk acc' c' hk hS' hacc => ?_)⟩
  refine ⟨rfl, hQ h' tk acc'.toList c' (fun b o e => hk b o (Nat.ne_of_lt (Heap.lt_size e)) (Heap.get?_push_of_some _ e)) (by rw [Array.toArray_toList]; exact hS') ?_⟩
  obtain ⟨h1, h2⟩ := hacc
  have hlen : acc'.toList.length = v.size := by rw [Array.length_toList]; exact h1
  refine intsAre_of_at (by rw [hlen, KBw.ints_length]) fun j x hj => ?_
  rw [Array.getElem?_toList] at hj
  obtain ⟨c, u, hc, rfl⟩ := h2 j x hj
  exact ⟨_, u, rfl, KBw.ints_get hc⟩
end
end Mine
namespace Mine
open PySem PySem.W PyProof.Rows PySem.Calls PySem.Spec
theorem pack_entry : entryFor table "_struct.pack" = some Builtin.«_struct.pack» := entryFor_of_tree (by kernel_rfl)
theorem pack_kind : builtinKind "_struct.pack" = none := by first | decide +kernel | kernel_rfl
theorem pack_plain : plainId "_struct.pack" = true := by decide +kernel
theorem pack_args (a b : Value) : argsOk "_struct.pack" ⟨[a, b], []⟩ := by unfold argsOk; kernel_rfl
theorem pack_H (n : Nat) (hn : n ≤ 16) (t u : Tok) : Builtin.«_struct.pack» ⟨[.str (Str.ofString ">H") t, .int n u], []⟩ = (do ret (← mkBytes #[0, n.toUInt8])) := by
  have h : n = 0 ∨ n = 1 ∨ n = 2 ∨ n = 3 ∨ n = 4 ∨ n = 5 ∨ n = 6 ∨ n = 7 ∨ n = 8 ∨ n = 9 ∨ n = 10 ∨ n = 11 ∨ n = 12 ∨ n = 13 ∨ n = 14 ∨ n = 15 ∨ n = 16 := by omega
  rcases h with rfl | rfl | rfl | rfl | rfl | rfl | rfl | rfl | rfl | rfl | rfl | rfl | rfl | rfl | rfl | rfl | rfl <;> kernel_rfl
theorem pack_i (n : Nat) (hn : n ≤ 16) (t u : Tok) : Builtin.«_struct.pack» ⟨[.str (Str.ofString ">i") t, .int n u], []⟩ = (do ret (← mkBytes #[0, 0, 0, n.toUInt8])) := by
  have h : n = 0 ∨ n = 1 ∨ n = 2 ∨ n = 3 ∨ n = 4 ∨ n = 5 ∨ n = 6 ∨ n = 7 ∨ n = 8 ∨ n = 9 ∨ n = 10 ∨ n = 11 ∨ n = 12 ∨ n = 13 ∨ n = 14 ∨ n = 15 ∨ n = 16 := by omega
  rcases h with rfl | rfl | rfl | rfl | rfl | rfl | rfl | rfl | rfl | rfl | rfl | rfl | rfl | rfl | rfl | rfl | rfl <;> kernel_rfl
section
variable {prog : Program} {w : World} {A : Around} {E : Value → Shared → Prop} {s : Shared}
theorem call_pack {fm v : Value} {b : Array UInt8} {Q : Value → Shared → Prop} (he : Builtin.«_struct.pack» ⟨[fm, v], []⟩ = (do ret (← mkBytes b))) (hz : b.size ≤ sizeLine)
    (h : Q (.bytes b s.toks) { s with toks := s.toks + 1 }) : wpAny (model prog w) A (call (.builtin "_struct.pack") [fm, v]) Q E s := by
  refine Calls.call_function_entry pack_kind pack_plain pack_entry (pack_args _ _) ?_
  rw [he]
  refine wpAny_bind (wpAny_mkBytes ?_ hz)
  exact wpAny_pure ⟨_, rfl, h⟩
end
theorem words (n : Int) : ∃ x ∈ texts, Txt.slice (Str.ofString "aé€b") (some (n.fmod 5)) none ++ Txt.mul (Str.ofString "x") ((n.fdiv 5).fmod 3) = x := by
  have h1 : 0 ≤ n.fmod 5 ∧ n.fmod 5 < 5 := ⟨Int.fmod_nonneg_of_pos _ (by decide), Int.fmod_lt_of_pos _ (by decide)⟩
  have h2 : 0 ≤ (n.fdiv 5).fmod 3 ∧ (n.fdiv 5).fmod 3 < 3 := ⟨Int.fmod_nonneg_of_pos _ (by decide), Int.fmod_lt_of_pos _ (by decide)⟩
  generalize n.fmod 5 = a at h1
  generalize (n.fdiv 5).fmod 3 = b at h2
  have ha : a = 0 ∨ a = 1 ∨ a = 2 ∨ a = 3 ∨ a = 4 := by omega
  have hb : b = 0 ∨ b = 1 ∨ b = 2 := by omega
  rcases ha with rfl | rfl | rfl | rfl | rfl <;> rcases hb with rfl | rfl | rfl <;> exact ⟨_, by decide +kernel, rfl⟩
end Mine
namespace Mine
open PySem PySem.W PyProof.Rows PySem.Calls PySem.Spec
section
variable {prog : Program} {w : World} {A : Around} {E : Value → Shared → Prop} {s : Shared} {h₀ : Heap} {L : Addr} {m : Str → Option Value} {env : Env}
/-- the items of a comprehension run down a range -/
def SrcD (prog : Program) (w : World) (A : Around) (h₀ : Heap) (L : Addr) (m : Str → Option Value) (env : Env) (elt : Expr) (x : Str) (scope : Scope) (cl : List (Str × Addr)) (Fin : Shared → List Value → List (Addr × Obj) → Prop) (xv : Value) (s₁ : Shared) : Prop :=
  ∃ r a b c t u v n news, xv = .ref r ∧ A.handled = none ∧ Fr h₀ L s₁.heap m ∧ News h₀ L s₁.heap news ∧ IsRange s₁.heap r a b c t u v ∧ Builtin.Range.small a b c = true ∧ Builtin.Range.rangeSize a b c = ((n : Nat) : Int) ∧ n ≤ sizeLine ∧
    ∀ s₂ : Shared, (∃ h, s₂ = { s₁ with heap := h }) → LCg.CompRest prog w A h₀ L m env elt x scope cl s₂ (fun _ => True) (fun i v => ∃ t, v = .int (a + (i : Int) * c) t) (Fin s₂) n 0 [] news
theorem range_walksD {I : Addr} (hh : A.handled = none) (a c : Int) (n : Nat) : Walks prog w A I [I] [I] n (fun i v => ∃ t, v = .int (a + (i : Int) * c) t) (fun i h => IsRangeIter h I (a + (i : Nat) * c) ((n : Int) - (i : Nat)) c) := Walks.range hh I a c n
theorem range_stD {I : Addr} {a c : Int} {n : Nat} : ∀ i (h h' : Heap) (o : Obj) (nw : List (Addr × Obj)), IsRangeIter h I (a + (i : Nat) * c) ((n : Int) - (i : Nat)) c → h.get? I = some o → h'.get? I = some o → (∀ b o, h₀.get? b = some o → h'.get? b = some o) → News h₀ L h' nw → True → IsRangeIter h' I (a + (i : Nat) * c) ((n : Int) - (i : Nat)) c :=
  fun i h h' o nw st e e' _ _ _ => by
    have st' : h.get? I = some _ := st
    show h'.get? I = some _
    rw [e', ← e]; exact st'
theorem ListComp_D {elt iter : Expr} {x : Str} {px : Pos} {scope : Scope} {cl : List (Str × Addr)} {pos : Pos} {Q : Value → Shared → Prop} (F₀ : Fr h₀ L s.heap m)
    (hclos : closureFor scope env = pure cl) (hcell : ∀ y ∈ scope.names, y.2 ≠ .cell) (hkind : scope.kind = .function)
    (hnames : ∀ y ∈ scope.names, y.2 = .local → scope.names.lookup y.1 = some .local) (hx : scope.names.lookup x = some .local)
    (h : wpAny (model prog w) A (eval iter env) (SrcD prog w A h₀ L m env elt x scope cl (fun s₂ => LCg.FinE h₀ L m s₂ Q)) E s)
    (hs : ∀ x, foldedSetIterable iter env x = pure x := by intro _; rfl) :
    wpAny (model prog w) A (eval (.ListComp elt [⟨.Name x px, iter, [], 0⟩] scope pos) env) Q E s := by
  rw [eval_ListComp]
  refine wpAny_comprehension_free (use := none) rfl hs hclos hkind hnames (wpAny_mono h (fun xv s₁ h₁ => ?_) fun _ _ e => e)
  obtain ⟨r, a, b, c, t, u, v, n, news, rfl, hh, F, N, hr, hsm, hn, hsz, R⟩ := h₁
  refine wpAny_pyIter_range hr hsm ?_
  refine LCg.block_U (range_walksD hh a c n) hsz (fun i h st => ⟨_, st⟩) range_stD hcell hkind hx (by show IsRangeIter _ _ _ _ _; rw [hn]; simpa using Heap.get?_push_size _ rfl) (fun b hb => ?_)
    (F.keeps fun _ _ e => Heap.get?_push_of_some _ e) (N.grown fun _ _ e => Heap.get?_push_of_some _ e) (Nat.ne_of_lt F.ns.lt) (next_is_new F) (fun p hp => Nat.ne_of_lt (Heap.lt_size (N p hp).1)) trivial (R _ ⟨_, rfl⟩) ?_
  · rw [List.mem_singleton.mp hb]
    show s₁.heap.objs.size < (s₁.heap.push _).objs.size
    rw [Heap.size_push]; exact Nat.lt_succ_self _
  · intro D C h tk m' ys news' F' N' o1 hn hC₀ hD₀ hCL hDL hCD offC fin
    refine ⟨m', hn, fun h'' hs'' => fin D h'' tk (F'.change hs'' hCL hC₀) (fun p hp => ?_) o1⟩
    refine ⟨hs''.extBut _ _ ?_ (N' p hp).1, (N' p hp).2⟩
    rcases List.mem_cons.mp hp with rfl | hp
    · exact Ne.symm hCD
    · exact offC p hp
theorem SrcD.mk {elt : Expr} {x : Str} {scope : Scope} {cl : List (Str × Addr)} {Fin : Shared → List Value → List (Addr × Obj) → Prop} {r : Addr} {a b c : Int} {t u v : Tok} (n : Nat) {news : List (Addr × Obj)} {s₁ : Shared}
    (hh : A.handled = none) (F : Fr h₀ L s₁.heap m) (N : News h₀ L s₁.heap news) (hr : IsRange s₁.heap r a b c t u v) (hsm : Builtin.Range.small a b c = true) (hn : Builtin.Range.rangeSize a b c = ((n : Nat) : Int)) (hsz : n ≤ sizeLine)
    (h : ∀ g, LCg.CompRest prog w A h₀ L m env elt x scope cl { s₁ with heap := g } (fun _ => True) (fun i v => ∃ t, v = .int (a + (i : Int) * c) t) (Fin { s₁ with heap := g }) n 0 [] news) :
    SrcD prog w A h₀ L m env elt x scope cl Fin (.ref r) s₁ := ⟨r, a, b, c, t, u, v, n, news, rfl, hh, F, N, hr, hsm, hn, hsz, fun _ ⟨g, e⟩ => e ▸ h g⟩
theorem ld_freeC {M : Model} {C c : Addr} {x : Str} {pos : Pos} {v : Value} {o : Obj} {scope : Scope} {cl : List (Str × Addr)} {news : List (Addr × Obj)} {Q : Value → Shared → Prop} (N : News h₀ L s.heap news) (hc : cl.lookup x = some c) (hm : (c, o) ∈ news) (hd : o.data = .cell (some v)) (h : Q v s)
    (hk : (compEnvC scope cl C env).scope.kind = .function := by rfl) (hx : (compEnvC scope cl C env).kindOf x = some .free := by rfl) (hb : (x == ("__debug__" : Str)) = false := by decide) (hn : (x == ("__classdict__" : Str)) = false := by decide) :
    wpAny M A (eval (.Name x pos) (compEnvC scope cl C env)) Q E s := wpAny_Name (wpAny_loadName_free hk hx hc ⟨o, N.get hm, hd⟩ h hn) hb
end
end Mine
namespace Mine
open PySem PySem.W PyProof.Rows PySem.Calls PySem.Spec
section
variable {prog : Program} {w : World} {A : Around} {E : Value → Shared → Prop} {s : Shared} {g : Heap} {L T : Addr} {news : List (Addr × Obj)} {Q : Value → Shared → Prop}
abbrev sbTup : Obj := { cls := .type "tuple", data := .seq #[.type "str", .type "bytes"] }
/-- isinstance(v, (str, bytes)) -/
theorem isb_str {x : Str} {t : Tok} (N : News g L s.heap news) (hm : (T, sbTup) ∈ news) (h : ∀ tk, Q (.bool true) { s with toks := tk }) : wpAny (model prog w) A (call (.builtin "isinstance") [.str x t, .ref T]) Q E s :=
  kia_tup (K := []) kitx_str (fun _ _ e => nomatch e) trivial (N _ hm).1 (by kernel_rfl) (by simp) h
theorem isb_bytes {x : Array UInt8} {t : Tok} (N : News g L s.heap news) (hm : (T, sbTup) ∈ news) (h : ∀ tk, Q (.bool true) { s with toks := tk }) : wpAny (model prog w) A (call (.builtin "isinstance") [.bytes x t, .ref T]) Q E s :=
  kia_tup (K := []) kitx_bytes (fun _ _ e => nomatch e) trivial (N _ hm).1 (by kernel_rfl) (by simp) h
theorem isb_none (N : News g L s.heap news) (hm : (T, sbTup) ∈ news) (h : ∀ tk, Q (.bool false) { s with toks := tk }) : wpAny (model prog w) A (call (.builtin "isinstance") [.none, .ref T]) Q E s :=
  kia_tup (K := []) kitx_none (fun _ _ e => nomatch e) trivial (N _ hm).1 (by kernel_rfl) (by simp) h
theorem isb_int {x : Int} {t : Tok} (N : News g L s.heap news) (hm : (T, sbTup) ∈ news) (h : ∀ tk, Q (.bool false) { s with toks := tk }) : wpAny (model prog w) A (call (.builtin "isinstance") [.int x t, .ref T]) Q E s :=
  kia_tup (K := []) kitx_int (fun _ _ e => nomatch e) trivial (N _ hm).1 (by kernel_rfl) (by simp) h
end
end Mine
set_option maxHeartbeats 8000000
namespace Mine
open PySem PySem.W PyProof.Rows PySem.Calls PySem.Spec
open Sem (wp)
local macro_rules | `(tactic| walk_at "m_ent") => `(tactic| ((case k6 => k_is); (case k7 => k_is); (case k8 => decide); (case k9 => exact BindsTo.of_eq rfl); (case kB => exact locs rfl); (case c2 => exact rfl); (case c3 => exact rfl); (case c4 => exact rfl); (case c5 => decide)))
local macro_rules | `(tactic| walk_at "m_entC") => `(tactic| ((case k6 => k_is); (case k7 => k_is); (case k8 => decide); (case k9 => exact BindsTo.of_eq rfl); (case kB => exact rfl); (case kD => decide +kernel); (case c2 => exact rfl); (case c3 => exact rfl); (case c4 => exact rfl)))
local macro_rules | `(tactic| walk_at "getMethod str") => `(tactic| (refine' encode_method ?_))
local macro_rules | `(tactic| walk_at "wpF") => `(tactic| (k_here; (with_reducible show wpF _ _ (execs (_ :: _) _) _ _ _); refine wpF_execs_consA ?_))
local macro_rules | `(tactic| walk_at "wpF") => `(tactic| (k_here; (with_reducible show wpF _ _ (execs [] _) _ _ _); refine wpF_execs_nil ?_))
local macro_rules | `(tactic| walk_at "wpF") => `(tactic| (k_here; (with_reducible show wpF _ _ (execs (Stmt.Expr (Expr.Call (Expr.Attribute _ _ _) _ [] _) _ :: _) _) _ _ _); k_dflt (refine wpF_execs_cons (wpF_Expr (MethF_ ?_)))))
local macro_rules | `(tactic| walk_at "wpF") => `(tactic| (k_here; (with_reducible show wpF _ _ (execs (Stmt.Expr (Expr.Call (Expr.Name _ _) _ [] _) _ :: _) _) _ _ _); k_dflt (refine wpF_execs_cons (wpF_Expr (CallF_ ?_)))))
local macro_rules | `(tactic| walk_at "wpF") => `(tactic| (k_here; (with_reducible show wpF _ _ (callWith _ _ _ _ _) _ _ _); k_dflt (refine' callWithF_K ?k1 ?k2 ?_; (case k1 => k_asm); (case k2 => k_is); k_whole)))
local macro_rules | `(tactic| walk_at "wpF") => `(tactic| (k_here; (with_reducible show wpF _ _ (execs (Stmt.For _ _ _ [] _ :: _) _) _ _ _); k_dflt (refine wpF_execs_cons (wpF_For ?_))))
section
local macro_rules | `(tactic| walk_at "eval ListComp") => `(tactic| (k_here; k_dflt (refine ListComp_D (F₀ := by k_asm) (by rfl) (by decide) (by rfl) (by decide) (by rfl) ?_)))
local macro_rules | `(tactic| walk_at "eval Name") => `(tactic| (k_here; (with_reducible show wpAny _ _ (eval (Expr.Name _ _) (compEnvC _ _ _ _)) _ _ _); k_dflt (refine' ld_freeC ?N ?hc ?hm ?hd ?_; (case N => k_asm); (case hc => exact rfl); (case hm => k_mem); (case hd => assumption))))
abbrev bioEs (b : Addr) (p : Int) (h1 h2 : Int) (t1 t2 tp : Tok) : List DictEntry := [⟨h1, .str (Str.ofString "_BytesIO__buf") t1, .ref b⟩, ⟨h2, .str (Str.ofString "_BytesIO__pos") t2, .int p tp⟩]
/-- the three objects of the stream -/
abbrev bioObjs (f d b : Addr) (h1 h2 : Int) (t1 t2 tp : Tok) (buf : Array UInt8) : List (Addr × Obj) := [(f, instObj 510 d), (d, dictOf (bioEs b buf.size h1 h2 t1 t2 tp) 2), (b, baObj buf)]
theorem num2 {n : Nat} (hn : n ≤ 16) : [Builtin.bitAnd ((n : Int).fdiv (2 ^ (8 * (2 - 1 + (((0 : Nat)) : Int) * -1)).toNat)) 255, Builtin.bitAnd ((n : Int).fdiv (2 ^ (8 * (2 - 1 + (((0+1 : Nat)) : Int) * -1)).toNat)) 255] = [0, (n : Int)] := by
  have hc : n = 0 ∨ n = 1 ∨ n = 2 ∨ n = 3 ∨ n = 4 ∨ n = 5 ∨ n = 6 ∨ n = 7 ∨ n = 8 ∨ n = 9 ∨ n = 10 ∨ n = 11 ∨ n = 12 ∨ n = 13 ∨ n = 14 ∨ n = 15 ∨ n = 16 := by omega
  rcases hc with rfl | rfl | rfl | rfl | rfl | rfl | rfl | rfl | rfl | rfl | rfl | rfl | rfl | rfl | rfl | rfl | rfl <;> decide +kernel
theorem num4 {n : Nat} (hn : n ≤ 16) : [Builtin.bitAnd ((n : Int).fdiv (2 ^ (8 * (4 - 1 + (((0 : Nat)) : Int) * -1)).toNat)) 255, Builtin.bitAnd ((n : Int).fdiv (2 ^ (8 * (4 - 1 + (((0+1 : Nat)) : Int) * -1)).toNat)) 255, Builtin.bitAnd ((n : Int).fdiv (2 ^ (8 * (4 - 1 + (((0+1+1 : Nat)) : Int) * -1)).toNat)) 255, Builtin.bitAnd ((n : Int).fdiv (2 ^ (8 * (4 - 1 + (((0+1+1+1 : Nat)) : Int) * -1)).toNat)) 255] = [0, 0, 0, (n : Int)] := by
  have hc : n = 0 ∨ n = 1 ∨ n = 2 ∨ n = 3 ∨ n = 4 ∨ n = 5 ∨ n = 6 ∨ n = 7 ∨ n = 8 ∨ n = 9 ∨ n = 10 ∨ n = 11 ∨ n = 12 ∨ n = 13 ∨ n = 14 ∨ n = 15 ∨ n = 16 := by omega
  rcases hc with rfl | rfl | rfl | rfl | rfl | rfl | rfl | rfl | rfl | rfl | rfl | rfl | rfl | rfl | rfl | rfl | rfl <;> decide +kernel
def Held1 (P : Prop) : Prop := P
theorem held1 {P : Prop} (h : Held1 P) : P := h
local macro_rules | `(tactic| walk_at "binaryOp Add str str") => `(tactic| (refine held1 ?_))
theorem fresh_nil {h g : Heap} {D : Addr} (hg : g = hideAll h []) (e : g.get? D = none) : h.get? D = none := by subst hg; exact e

theorem getvalue {w : World} {base : Heap} {outer : List Env} {s : Shared} {R : Result → Shared → Prop} {f d b : Addr} {h1 h2 : Int} {t1 t2 tp : Tok} {buf : Array UInt8}
    (C : At w (Ar 900 5000 outer) base outer (hideAll s.heap [f, d, b]))
    (H : ∀ p ∈ bioObjs f d b h1 h2 t1 t2 tp buf, s.heap.get? p.1 = some p.2) (hz : buf.size ≤ sizeLine)
    (hR : ∀ t h' tk, (hideAll s.heap [f, d, b]).StaysIn h' → (∀ p ∈ bioObjs f d b h1 h2 t1 t2 tp buf, h'.get? p.1 = some p.2) → R (.ok (.ret (.bytes buf t))) { s with heap := h', toks := tk }) :
    codeAny (model PySem.Challenge.rw_fq5006_01.row.prog w) (Ar 900 5000 outer) (.call (.ref 396) ⟨[.ref f], []⟩) R s := by
  w_top off
  (have hK := C.X; revert hK; k_fill; intro hK)
  k_dflt (refine' enter (binds := [(Str.ofString "self", .ref f)]) (news := bioObjs f d b h1 h2 t1 t2 tp buf) C ?k2 ?k6 ?k7 ?k8 ?k9 ?kB ?c2 ?c3 ?c4 ?c5 ?_; walk_at "m_ent")
  · exact H
  intro g L' h₁ mean mg mb hg F N B X T
  (try dsimp only)
  with_reducible show wpAny _ _ _ _ _ _
  k_fold
  k_steps
  refine' ba_bytes (News.get (o := baObj buf) (a := b) ?N ?hm) hz ?_
  case N => k_asm
  case hm => simp
  intro t k
  k_steps
  refine' hR _ _ _ (stays_hide hg ?F) (fun p hp => ((?N : News g _ _ _) p hp).1)
  case F => k_asm
  case N => k_asm
theorem law_word {w : World} {base : Heap} {outer : List Env} {s : Shared} {R : Result → Shared → Prop} {n : Int} {t : Tok}
    (C : At w (Ar 900 5000 outer) base outer (hideAll s.heap []))
    (hR : ∀ x t h' tk, x ∈ texts → s.heap.StaysIn h' → R (.ok (.ret (.str x t))) { s with heap := h', toks := tk }) :
    codeAny (model PySem.Challenge.rw_fq5006_01.row.prog w) (Ar 900 5000 outer) (.call (.ref 771) ⟨[.int n t], []⟩) R s := by
  (have hK := C.X; revert hK; k_fill; intro hK)
  k_dflt (refine' enter (binds := [(Str.ofString "n", .int n t)]) (news := []) C ?k2 ?k6 ?k7 ?k8 ?k9 ?kB ?c2 ?c3 ?c4 ?c5 ?_; walk_at "m_ent")
  · exact fun _ h => nomatch h
  intro g L' h₁ mean mg mb hg F N B X T
  (try dsimp only)
  with_reducible show wpAny _ _ _ _ _ _
  k_fold
  k_steps
  with_reducible show Held1 _
  unfold Held1
  obtain ⟨x, hx, ex⟩ := words n
  refine SB.add (fun t' k => ?_) ?_
  · rw [ex]
    k_steps
    refine' hR _ _ _ _ hx (stays_hide (S := []) hg ?F)
    case F => k_asm
  · have := congrArg PySem.Str.length ex
    have h2 := text_len x hx
    rw [size_cat] at this
    rw [this, sizeLine_eq]
    exact Nat.le_trans h2 (by decide)
theorem law_number2 {w : World} {base : Heap} {outer : List Env} {s : Shared} {R : Result → Shared → Prop} {n : Nat} {t u : Tok} (hn : n ≤ 16)
    (C : At w (Ar 900 5000 outer) base outer (hideAll s.heap []))
    (hR : ∀ D c vs h' tk, s.heap.StaysIn h' → h'.get? D = some (listOf (List.toArray vs) c) → s.heap.get? D = none → IntsAre vs ([0, (n : Int)]) → R (.ok (.ret (.ref D))) { s with heap := h', toks := tk }) :
    codeAny (model PySem.Challenge.rw_fq5006_01.row.prog w) (Ar 900 5000 outer) (.call (.ref 764) ⟨[.int n t, .int 2 u], []⟩) R s := by
  (have hK := C.X; revert hK; k_fill; intro hK)
  k_dflt (refine' enterC (binds := [(Str.ofString "number", .int n t), (Str.ofString "many", .int 2 u)]) (news := []) C ?k2 ?k6 ?k7 ?k8 ?k9 ?kB ?kD ?c2 ?c3 ?c4 ?_; walk_at "m_entC")
  · exact fun _ h => nomatch h
  intro g L' h₁ tk cells mean mg mb hg F N Y B X T
  k_cells Y
  (try simp only [List.cons_append, List.nil_append] at N)
  (try dsimp only)
  with_reducible show wpAny _ _ _ _ _ _
  k_fold
  k_steps
  refine SrcD.mk 2 rfl (by k_asm) (by k_asm) (by assumption) (by decide) (by decide) (by decide) ?_
  intro g'
  k_steps
  refine' hR _ _ _ _ _ (stays_hide (S := []) hg ?F) (News.get ?N (List.Mem.head _)) (fresh_nil hg (News.fresh ?N (List.Mem.head _))) ?I
  case F => k_asm
  case N => k_asm
  exact intsAre_eq (.cons _ _ (.cons _ _ (.nil))) (num2 hn)
theorem law_number4 {w : World} {base : Heap} {outer : List Env} {s : Shared} {R : Result → Shared → Prop} {n : Nat} {t u : Tok} (hn : n ≤ 16)
    (C : At w (Ar 900 5000 outer) base outer (hideAll s.heap []))
    (hR : ∀ D c vs h' tk, s.heap.StaysIn h' → h'.get? D = some (listOf (List.toArray vs) c) → s.heap.get? D = none → IntsAre vs ([0, 0, 0, (n : Int)]) → R (.ok (.ret (.ref D))) { s with heap := h', toks := tk }) :
    codeAny (model PySem.Challenge.rw_fq5006_01.row.prog w) (Ar 900 5000 outer) (.call (.ref 764) ⟨[.int n t, .int 4 u], []⟩) R s := by
  (have hK := C.X; revert hK; k_fill; intro hK)
  k_dflt (refine' enterC (binds := [(Str.ofString "number", .int n t), (Str.ofString "many", .int 4 u)]) (news := []) C ?k2 ?k6 ?k7 ?k8 ?k9 ?kB ?kD ?c2 ?c3 ?c4 ?_; walk_at "m_entC")
  · exact fun _ h => nomatch h
  intro g L' h₁ tk cells mean mg mb hg F N Y B X T
  k_cells Y
  (try simp only [List.cons_append, List.nil_append] at N)
  (try dsimp only)
  with_reducible show wpAny _ _ _ _ _ _
  k_fold
  k_steps
  refine SrcD.mk 4 rfl (by k_asm) (by k_asm) (by assumption) (by decide) (by decide) (by decide) ?_
  intro g'
  k_steps
  refine' hR _ _ _ _ _ (stays_hide (S := []) hg ?F) (News.get ?N (List.Mem.head _)) (fresh_nil hg (News.fresh ?N (List.Mem.head _))) ?I
  case F => k_asm
  case N => k_asm
  exact intsAre_eq (.cons _ _ (.cons _ _ (.cons _ _ (.cons _ _ (.nil))))) (num4 hn)
theorem law_octetsS {w : World} {base : Heap} {outer : List Env} {s : Shared} {R : Result → Shared → Prop} {x : Str} {t : Tok} (hx : x ∈ texts)
    (C : At w (Ar 890 4900 outer) base outer (hideAll s.heap []))
    (hR : ∀ D c vs h' tk, s.heap.StaysIn h' → h'.get? D = some (listOf (List.toArray vs) c) → s.heap.get? D = none → IntsAre vs (KBw.bInts (u8 x)) → R (.ok (.ret (.ref D))) { s with heap := h', toks := tk }) :
    codeAny (model PySem.Challenge.rw_fq5006_01.row.prog w) (Ar 890 4900 outer) (.call (.ref 785) ⟨[.str x t], []⟩) R s := by
  (have hK := C.X; revert hK; k_fill; intro hK)
  k_dflt (refine' enter (binds := [(Str.ofString "thing", .str x t)]) (news := []) C ?k2 ?k6 ?k7 ?k8 ?k9 ?kB ?c2 ?c3 ?c4 ?c5 ?_; walk_at "m_ent")
  · exact fun _ h => nomatch h
  intro g L' h₁ mean mg mb hg F N B X T
  (try dsimp only)
  with_reducible show wpAny _ _ _ _ _ _
  k_fold
  k_steps
  refine' encode_call hx ?_
  k_steps
  refine' list_bytes rfl (Nat.le_trans (u8_texts x hx) (by decide)) ?_
  intro h2 tk2 vs c hk hD hI
  k_steps
  refine' hR _ c vs h2 tk2 (fun b o e => hk b o ((stays_hide (S := []) hg ?F) b o e)) hD ?hz hI
  case F => k_asm
  · cases q : s.heap.get? h₁.objs.size with
    | none => rfl
    | some o => exact absurd (Heap.lt_size ((stays_hide (S := []) hg (by k_asm : Fr g L' h₁ _)) _ _ q)) (Nat.lt_irrefl _)
theorem law_octetsB {w : World} {base : Heap} {outer : List Env} {s : Shared} {R : Result → Shared → Prop} {x : Str} {t : Tok} (hx : x ∈ texts)
    (C : At w (Ar 890 4900 outer) base outer (hideAll s.heap []))
    (hR : ∀ D c vs h' tk, s.heap.StaysIn h' → h'.get? D = some (listOf (List.toArray vs) c) → s.heap.get? D = none → IntsAre vs (KBw.bInts (u8 x)) → R (.ok (.ret (.ref D))) { s with heap := h', toks := tk }) :
    codeAny (model PySem.Challenge.rw_fq5006_01.row.prog w) (Ar 890 4900 outer) (.call (.ref 785) ⟨[.bytes (u8 x) t], []⟩) R s := by
  (have hK := C.X; revert hK; k_fill; intro hK)
  k_dflt (refine' enter (binds := [(Str.ofString "thing", .bytes (u8 x) t)]) (news := []) C ?k2 ?k6 ?k7 ?k8 ?k9 ?kB ?c2 ?c3 ?c4 ?c5 ?_; walk_at "m_ent")
  · exact fun _ h => nomatch h
  intro g L' h₁ mean mg mb hg F N B X T
  (try dsimp only)
  with_reducible show wpAny _ _ _ _ _ _
  k_fold
  k_steps
  refine' list_bytes rfl (Nat.le_trans (u8_texts x hx) (by decide)) ?_
  intro h2 tk2 vs c hk hD hI
  k_steps
  refine' hR _ c vs h2 tk2 (fun b o e => hk b o ((stays_hide (S := []) hg ?F) b o e)) hD ?hz hI
  case F => k_asm
  · cases q : s.heap.get? h₁.objs.size with
    | none => rfl
    | some o => exact absurd (Heap.lt_size ((stays_hide (S := []) hg (by k_asm : Fr g L' h₁ _)) _ _ q)) (Nat.lt_irrefl _)
theorem law_thing {w : World} {base : Heap} {outer : List Env} {s : Shared} {R : Result → Shared → Prop} {n : Int} {x : Str} {t u : Tok} (hx : x ∈ texts)
    (C : At w (Ar 890 4900 outer) base outer (hideAll s.heap []))
    (hR : ∀ v h' tk, ((∃ t, v = .str x t) ∨ (∃ t, v = .bytes (u8 x) t)) → s.heap.StaysIn h' → R (.ok (.ret v)) { s with heap := h', toks := tk }) :
    codeAny (model PySem.Challenge.rw_fq5006_01.row.prog w) (Ar 890 4900 outer) (.call (.ref 778) ⟨[.int n u, .str x t], []⟩) R s := by
  (have hK := C.X; revert hK; k_fill; intro hK)
  k_dflt (refine' enter (binds := [(Str.ofString "n", .int n u), (Str.ofString "word", .str x t)]) (news := []) C ?k2 ?k6 ?k7 ?k8 ?k9 ?kB ?c2 ?c3 ?c4 ?c5 ?_; walk_at "m_ent")
  · exact fun _ h => nomatch h
  intro g L' h₁ mean mg mb hg F N B X T
  (try dsimp only)
  with_reducible show wpAny _ _ _ _ _ _
  k_fold
  k_steps
  · refine' encode_call hx ?_
    k_steps
    refine' hR _ _ _ (.inr ⟨_, rfl⟩) (stays_hide (S := []) hg ?F)
    case F => k_asm
  · k_steps
    refine' hR _ _ _ (.inl ⟨_, rfl⟩) (stays_hide (S := []) hg ?F)
    case F => k_asm
end
section
local macro_rules | `(tactic| walk_at "pad0") => `(tactic| skip)
/-- a text of the law's, or its octets -/
def Thing (x : Str) (v : Value) : Prop := (∃ t, v = .str x t) ∨ (∃ t, v = .bytes (u8 x) t)
theorem ne_get {h : Heap} {L : Addr} {g : Heap} {D : Addr} {news : List (Addr × Obj)} (N : News g L h news) (e : h.get? D = none) : ∀ p ∈ news, p.1 ≠ D := fun p hp q => by
  have := (N p hp).1; rw [q, e] at this; cases this
theorem u8_size {x : Str} (hx : x ∈ texts) : (KBw.bInts (u8 x)).length ≤ 16 := by rw [KBw.ints_length]; exact u8_texts x hx
theorem news_new' {h h' g : Heap} {L D : Addr} {m : Str → Option Value} {news : List (Addr × Obj)} {o : Obj} (F : Fr g L h m) (N : News g L h' news) (hd : h'.get? D = some o) (hz : h.get? D = none) : News g L h' ((D, o) :: news) := by
  obtain ⟨oL, _, _, hL, _⟩ := F.ns
  refine news_cons hd ⟨fun e => ?_, ?_⟩ N
  · rw [e, hL] at hz; cases hz
  · cases q : g.get? D with
    | none => rfl
    | some o => have := F.keep _ _ q; rw [hz] at this; cases this
def AllNe (D : Addr) : List (Addr × Obj) → Prop
  | [] => True
  | p :: r => @Ne Nat p.1 D ∧ AllNe D r
theorem allNe_of {D : Addr} : ∀ {l : List (Addr × Obj)}, (∀ p ∈ l, p.1 ≠ D) → AllNe D l
  | [], _ => trivial
  | p :: _, h => ⟨h p (.head _), allNe_of fun q hq => h q (.tail _ hq)⟩
theorem law_octets {w : World} {base : Heap} {outer : List Env} {s : Shared} {R : Result → Shared → Prop} {x : Str} {v : Value} (hx : x ∈ texts) (hv : Thing x v)
    (C : At w (Ar 890 4900 outer) base outer (hideAll s.heap []))
    (hR : ∀ D c vs h' tk, s.heap.StaysIn h' → h'.get? D = some (listOf (List.toArray vs) c) → s.heap.get? D = none → IntsAre vs (KBw.bInts (u8 x)) → R (.ok (.ret (.ref D))) { s with heap := h', toks := tk }) :
    codeAny (model PySem.Challenge.rw_fq5006_01.row.prog w) (Ar 890 4900 outer) (.call (.ref 785) ⟨[v], []⟩) R s := by
  rcases hv with ⟨t, rfl⟩ | ⟨t, rfl⟩
  · exact law_octetsS hx C hR
  · exact law_octetsB hx C hR
local macro_rules | `(tactic| walk_at "call ref") => `(tactic| (k_here; (with_reducible show wpAny _ _ (call (Value.ref 785) _) _ _ _); k_dflt ((refine' wpAny_call (codeAny_le (law_octets (by assumption) (by assumption) (siteX (by k_asm) (by k_asm) (by k_asm) (by k_asm) off_nil) ?_) (Nat.le_of_ble_eq_true rfl) (Nat.le_of_ble_eq_true rfl))); intro D c vs h' tk hk hD hfr hI; have F' := fr_after (S := []) (by k_asm) off_nil hk; have N' := news_new' (by k_asm) (news_after (S := []) (by k_asm) hk (fun _ _ h => nomatch h)) hD hfr; (have l1 := allNe_of (ne_get (by k_asm) hfr)); (simp only [AllNe, and_true] at l1); k_sweep; (try dsimp only))))
local macro_rules | `(tactic| walk_at "call ref") => `(tactic| (k_here; (with_reducible show wpAny _ _ (call (Value.ref 764) _) _ _ _); k_dflt ((refine' wpAny_call (codeAny_le (law_number2 (by assumption) (siteX (by k_asm) (by k_asm) (by k_asm) (by k_asm) off_nil) ?_) (Nat.le_of_ble_eq_true rfl) (Nat.le_of_ble_eq_true rfl))); intro D c vs h' tk hk hD hfr hI; have F' := fr_after (S := []) (by k_asm) off_nil hk; have N' := news_new' (by k_asm) (news_after (S := []) (by k_asm) hk (fun _ _ h => nomatch h)) hD hfr; (have l1 := allNe_of (ne_get (by k_asm) hfr)); (simp only [AllNe, and_true] at l1); k_sweep; (try dsimp only))))
local macro_rules | `(tactic| walk_at "call ref") => `(tactic| (k_here; (with_reducible show wpAny _ _ (call (Value.ref 764) _) _ _ _); k_dflt ((refine' wpAny_call (codeAny_le (law_number4 (by assumption) (siteX (by k_asm) (by k_asm) (by k_asm) (by k_asm) off_nil) ?_) (Nat.le_of_ble_eq_true rfl) (Nat.le_of_ble_eq_true rfl))); intro D c vs h' tk hk hD hfr hI; have F' := fr_after (S := []) (by k_asm) off_nil hk; have N' := news_new' (by k_asm) (news_after (S := []) (by k_asm) hk (fun _ _ h => nomatch h)) hD hfr; (have l1 := allNe_of (ne_get (by k_asm) hfr)); (simp only [AllNe, and_true] at l1); k_sweep; (try dsimp only))))
theorem law_short {w : World} {base : Heap} {outer : List Env} {s : Shared} {R : Result → Shared → Prop} {x : Str} {v : Value} (hx : x ∈ texts) (hv : Thing x v)
    (C : At w (Ar 880 4800 outer) base outer (hideAll s.heap []))
    (hR : ∀ D c vs h' tk, s.heap.StaysIn h' → h'.get? D = some (listOf (List.toArray vs) c) → s.heap.get? D = none → IntsAre vs ([0, ((KBw.bInts (u8 x)).length : Int)] ++ KBw.bInts (u8 x)) → R (.ok (.ret (.ref D))) { s with heap := h', toks := tk }) :
    codeAny (model PySem.Challenge.rw_fq5006_01.row.prog w) (Ar 880 4800 outer) (.call (.ref 792) ⟨[v], []⟩) R s := by
  w_top off
  have hsz := u8_size hx
  (have hK := C.X; revert hK; k_fill; intro hK)
  k_dflt (refine' enter (binds := [(Str.ofString "thing", v)]) (news := []) C ?k2 ?k6 ?k7 ?k8 ?k9 ?kB ?c2 ?c3 ?c4 ?c5 ?_; walk_at "m_ent")
  · exact fun _ h => nomatch h
  intro g L' h₁ mean mg mb hg F N B X T
  (try dsimp only)
  with_reducible show wpAny _ _ _ _ _ _
  k_fold
  k_steps
  refine' hR _ _ _ _ _ (stays_hide (S := []) hg ?F) (News.get ?N (List.Mem.head _)) (fresh_nil hg (News.fresh ?N (List.Mem.head _))) ?I
  case F => k_asm
  case N => k_asm
  case I => assumption
theorem law_long {w : World} {base : Heap} {outer : List Env} {s : Shared} {R : Result → Shared → Prop} {x : Str} {v : Value} (hx : x ∈ texts) (hv : Thing x v)
    (C : At w (Ar 880 4800 outer) base outer (hideAll s.heap []))
    (hR : ∀ D c vs h' tk, s.heap.StaysIn h' → h'.get? D = some (listOf (List.toArray vs) c) → s.heap.get? D = none → IntsAre vs ([0, 0, 0, ((KBw.bInts (u8 x)).length : Int)] ++ KBw.bInts (u8 x)) → R (.ok (.ret (.ref D))) { s with heap := h', toks := tk }) :
    codeAny (model PySem.Challenge.rw_fq5006_01.row.prog w) (Ar 880 4800 outer) (.call (.ref 799) ⟨[v], []⟩) R s := by
  have hsz := u8_size hx
  (have hK := C.X; revert hK; k_fill; intro hK)
  k_dflt (refine' enter (binds := [(Str.ofString "thing", v)]) (news := []) C ?k2 ?k6 ?k7 ?k8 ?k9 ?kB ?c2 ?c3 ?c4 ?c5 ?_; walk_at "m_ent")
  · exact fun _ h => nomatch h
  intro g L' h₁ mean mg mb hg F N B X T
  (try dsimp only)
  with_reducible show wpAny _ _ _ _ _ _
  k_fold
  k_steps
  refine' hR _ _ _ _ _ (stays_hide (S := []) hg ?F) (News.get ?N (List.Mem.head _)) (fresh_nil hg (News.fresh ?N (List.Mem.head _))) ?I
  case F => k_asm
  case N => k_asm
  case I => assumption
end
section
local macro_rules | `(tactic| walk_at "call builtin:len") => `(tactic| (k_here; k_dflt (refine' ba_len_gives (News.get (o := baObj _) ?N ?hm) ?hf ?_; (case N => k_asm); (case hm => k_mem); (case hf => omega))))
theorem type_bytes {prog : Program} {w : World} {A : Around} {E : Value → Shared → Prop} {s : Shared} {v : Array UInt8} {t : Tok} {Q : Value → Shared → Prop} (h : Q (.type "bytes") s) : wpAny (model prog w) A (call (.type "type") [.bytes v t]) Q E s := by
  exact call_type_of (PySem.W.typeIs_bytes _ _ _) (by decide +kernel) h
local macro_rules | `(tactic| walk_at "call type:type") => `(tactic| (refine' type_bytes ?_))
theorem Slice2 {M : Model} {A : Around} {E : Value → Shared → Prop} {s : Shared} {env : Env} {lo up : Expr} {p : Pos} {Q : Value → Shared → Prop}
    (h : wpAny M A (eval lo env) (fun l s₁ => wpAny M A (eval up env) (fun u s₂ => Q (.ref s₂.heap.objs.size) { s₂ with heap := s₂.heap.push (slObj l u .none) }) E s₁) E s) : wpAny M A (eval (.Slice (some lo) (some up) none p) env) Q E s :=
  wpAny_Slice (wpAny_mono h (fun _ _ h₁ => wpAny_mono h₁ (fun _ _ h₂ => wpAny_pure h₂) fun _ _ x => x) fun _ _ x => x)
theorem after_set {g h h' : Heap} {L f d b : Addr} {m : Str → Option Value} {of od ob ob' sl : Obj} (F : Fr g L h m) (N : News g L h [(f, of), (d, od), (b, ob)]) (ne2 : @Ne Nat f b) (ne3 : @Ne Nat d b)
    (k : ∀ c o, c ≠ b → (h.push sl).get? c = some o → h'.get? c = some o) (hb : h'.get? b = some ob') : Fr g L h' m ∧ News g L h' [(f, of), (d, od), (b, ob')] := by
  have Nf := N (f, of) (by simp)
  have Nd := N (d, od) (by simp)
  have Nb := N (b, ob) (by simp)
  have up : ∀ c o, c ≠ b → h.get? c = some o → h'.get? c = some o := fun c o hc e => k c o hc (Heap.get?_push_of_some _ e)
  obtain ⟨oL, es, ep, hL, r⟩ := F.ns
  refine ⟨⟨⟨oL, es, ep, up _ _ (Ne.symm Nb.2.1) hL, r⟩, fun c o e => up c o (fun q => ?_) (F.keep c o e), F.above⟩, ?_⟩
  · rw [q, Nb.2.2] at e; cases e
  · intro p hp
    simp only [List.mem_cons, List.not_mem_nil, or_false] at hp
    rcases hp with rfl | rfl | rfl
    · exact ⟨up _ _ ne2 Nf.1, Nf.2⟩
    · exact ⟨up _ _ ne3 Nd.1, Nd.2⟩
    · exact ⟨hb, Nb.2⟩
local macro_rules | `(tactic| walk_at "eval Slice") => `(tactic| (refine' Slice2 ?_))
theorem bio_back {g h : Heap} {L f d b : Addr} {h1 h2 : Int} {t1 t2 tp : Tok} {buf v : Array UInt8}
    (N : News g L h [(f, instObj 510 d), (d, dictOf [⟨h1, .str (Str.ofString "_BytesIO__buf") t1, .ref b⟩, ⟨h2, .str (Str.ofString "_BytesIO__pos") t2, .int (buf.size + v.size) tp⟩] 2), (b, baObj (buf ++ v))]) :
    ∀ p ∈ bioObjs f d b h1 h2 t1 t2 tp (buf ++ v), h.get? p.1 = some p.2 := fun p hp => by
  have e : (((buf ++ v).size : Nat) : Int) = buf.size + v.size := by rw [Array.size_append]; omega
  simp only [bioObjs, bioEs, e] at hp
  exact (N p hp).1
theorem bio_write {w : World} {base : Heap} {outer : List Env} {s : Shared} {R : Result → Shared → Prop} {f d b : Addr} {h1 h2 : Int} {t1 t2 tp t : Tok} {buf v : Array UInt8}
    (C : At w (Ar 870 4700 outer) base outer (hideAll s.heap [f, d, b]))
    (H : ∀ p ∈ bioObjs f d b h1 h2 t1 t2 tp buf, s.heap.get? p.1 = some p.2) (hne : @Ne Nat f d ∧ @Ne Nat f b ∧ @Ne Nat d b) (hz : buf.size ≤ 100000) (hv : v.size ≤ 100)
    (hR : ∀ r h' tk tp', (hideAll s.heap [f, d, b]).StaysIn h' → (∀ p ∈ bioObjs f d b h1 h2 t1 t2 tp' (buf ++ v), h'.get? p.1 = some p.2) → R (.ok (.ret r)) { s with heap := h', toks := tk }) :
    codeF (model PySem.Challenge.rw_fq5006_01.row.prog w) (Ar 870 4700 outer) (.call (.ref 493) ⟨[.ref f, .bytes v t], []⟩) R s := by
  w_top off
  (have hK := C.X; revert hK; k_fill; intro hK)
  k_dflt (refine' enterF (binds := [(Str.ofString "self", .ref f), (Str.ofString "b", .bytes v t)]) (news := bioObjs f d b h1 h2 t1 t2 tp buf) C ?k2 ?k6 ?k7 ?k8 ?k9 ?kB ?c2 ?c3 ?c4 ?c5 ?_; walk_at "m_ent")
  · exact H
  intro g L' h₁ mean mg mb hg F N B X T
  clear H
  obtain ⟨ne1, ne2, ne3⟩ := hne
  refine wpF_splitAt 7 ?_
  dsimp only [List.take_succ_cons, List.take_zero, List.drop_succ_cons, List.drop_zero]
  with_reducible show wpAny _ _ _ _ _ _
  k_fold
  k_steps
  · dsimp only
    have hv0 : v = #[] := Array.eq_empty_of_size_eq_zero (by omega)
    refine' hR _ _ _ tp (stays_hide hg ?F) (fun p hp => ((?N : News g _ _ _) p ?_).1)
    case F => k_asm
    case N => k_asm
    rw [hv0, Array.append_empty] at hp
    exact hp
  · show wpF _ _ (execs [_, _, _] _) _ _ _
    refine wpF_execs_cons (wpF_Assign_Subscript ?_)
    k_steps
    refine' setItem_ba (b := buf) (Heap.get?_push_of_some _ (News.get (o := baObj buf) (a := b) ?N ?hm)) (Heap.get?_push_size _ rfl) rfl ?hk ?hv ?hz ?_
    case N => k_asm
    case hm => simp
    case hk => omega
    case hv => omega
    case hz => rw [sizeLine_eq]; omega
    intro h9 hk9 hb9
    obtain ⟨F9, N9⟩ := after_set (by k_asm) (by k_asm) ne2 ne3 hk9 hb9
    k_sweep
    dsimp only
    refine wpF_of_any ?_
    with_reducible show wpAny _ _ _ _ _ _
    k_fold
    k_steps
    dsimp only
    refine' hR _ _ _ _ (stays_hide hg ?F) (bio_back (g := g) ?N)
    case F => k_asm
    case N => k_asm
end
section
local macro_rules | `(tactic| walk_at "pad0") => `(tactic| skip)
theorem bio_news {g h h' : Heap} {L f d b : Addr} {h1 h2 : Int} {t1 t2 tp tp' : Tok} {buf buf' : Array UInt8} (N : News g L h (bioObjs f d b h1 h2 t1 t2 tp buf))
    (hP : ∀ p ∈ bioObjs f d b h1 h2 t1 t2 tp' buf', h'.get? p.1 = some p.2) : News g L h' (bioObjs f d b h1 h2 t1 t2 tp' buf') := fun p hp => by
  refine ⟨hP p hp, ?_⟩
  have n1 := (N (f, instObj 510 d) (by simp)).2
  have n2 := (N (d, _) (List.mem_cons_of_mem _ (List.mem_cons_self))).2
  have n3 := (N (b, baObj buf) (by simp)).2
  simp only [List.mem_cons, List.not_mem_nil, or_false] at hp
  rcases hp with rfl | rfl | rfl
  · exact n1
  · exact n2
  · exact n3
theorem bio_off {g h : Heap} {L f d b : Addr} {h1 h2 : Int} {t1 t2 tp : Tok} {buf : Array UInt8} (N : News g L h (bioObjs f d b h1 h2 t1 t2 tp buf)) : Off g L [f, d, b] := off_news N fun x hx => by simpa using hx
theorem bio_at {g h : Heap} {L f d b : Addr} {h1 h2 : Int} {t1 t2 tp : Tok} {buf : Array UInt8} (N : News g L h (bioObjs f d b h1 h2 t1 t2 tp buf)) : ∀ p ∈ bioObjs f d b h1 h2 t1 t2 tp buf, h.get? p.1 = some p.2 := fun p hp => (N p hp).1
theorem pack_K2 {prog : Program} {w : World} {A : Around} {E : Value → Shared → Prop} {s : Shared} {n : Nat} {t u : Tok} {Q : Value → Shared → Prop} (hn : n ≤ 16) (h : Q (.bytes #[0, n.toUInt8] s.toks) { s with toks := s.toks + 1 }) : wpAny (model prog w) A (call (.builtin "_struct.pack") [.str (Str.ofString ">H") t, .int n u]) Q E s :=
  call_pack (pack_H n hn t u) (by show (2 : Nat) ≤ sizeLine; decide) h
theorem pack_K4 {prog : Program} {w : World} {A : Around} {E : Value → Shared → Prop} {s : Shared} {n : Nat} {t u : Tok} {Q : Value → Shared → Prop} (hn : n ≤ 16) (h : Q (.bytes #[0, 0, 0, n.toUInt8] s.toks) { s with toks := s.toks + 1 }) : wpAny (model prog w) A (call (.builtin "_struct.pack") [.str (Str.ofString ">i") t, .int n u]) Q E s :=
  call_pack (pack_i n hn t u) (by show (4 : Nat) ≤ sizeLine; decide) h
local macro_rules | `(tactic| walk_at "call builtin:_struct.pack") => `(tactic| (k_dflt (refine' pack_K2 (by assumption) ?_)))
local macro_rules | `(tactic| walk_at "call builtin:_struct.pack") => `(tactic| (k_dflt (refine' pack_K4 (by assumption) ?_)))
local macro_rules | `(tactic| walk_at "wpF") => `(tactic| (k_here; (with_reducible show wpF _ _ (call (Value.ref 493) _) _ _ _); k_dflt ((refine' wpF_call (codeF_leA (bio_write (siteX (by k_asm) (by k_asm) (by k_asm) (by k_asm) (bio_off (by k_asm))) (bio_at (by k_asm)) (by assumption) ?hz ?hv ?_) (Nat.le_of_ble_eq_true rfl) (Nat.le_of_ble_eq_true rfl))); (case hz => first | omega | (simp only [Array.size_append, List.size_toArray, List.length_cons, List.length_nil]; omega)); (case hv => (first | omega | (simp only [Array.size_append, List.size_toArray, List.length_cons, List.length_nil]; omega))); intro r h' tk tp' hk hP; have F' := fr_after (S := [_, _, _]) (by k_asm) (bio_off (by k_asm)) hk; have N' := bio_news (by k_asm) hP; k_sweep; (try dsimp only))))
theorem write_short {w : World} {base : Heap} {outer : List Env} {s : Shared} {R : Result → Shared → Prop} {f d b : Addr} {h1 h2 : Int} {t1 t2 tp : Tok} {buf : Array UInt8} {n : Nat} {t : Tok}
    (C : At w (Ar 860 4600 outer) base outer (hideAll s.heap [f, d, b]))
    (H : ∀ p ∈ bioObjs f d b h1 h2 t1 t2 tp buf, s.heap.get? p.1 = some p.2) (hne : @Ne Nat f d ∧ @Ne Nat f b ∧ @Ne Nat d b) (hz : buf.size ≤ 99000) (hn : n ≤ 16)
    (hR : ∀ r h' tk tp', (hideAll s.heap [f, d, b]).StaysIn h' → (∀ p ∈ bioObjs f d b h1 h2 t1 t2 tp' (buf ++ #[0, n.toUInt8]), h'.get? p.1 = some p.2) → R (.ok (.ret r)) { s with heap := h', toks := tk }) :
    codeF (model PySem.Challenge.rw_fq5006_01.row.prog w) (Ar 860 4600 outer) (.call (.ref 181) ⟨[.ref f, .int n t], []⟩) R s := by
  w_top off
  (have hK := C.X; revert hK; k_fill; intro hK)
  k_dflt (refine' enterF (binds := [(Str.ofString "f", .ref f), (Str.ofString "s", .int n t)]) (news := bioObjs f d b h1 h2 t1 t2 tp buf) C ?k2 ?k6 ?k7 ?k8 ?k9 ?kB ?c2 ?c3 ?c4 ?c5 ?_; walk_at "m_ent")
  · exact H
  intro g L' h₁ mean mg mb hg F N B X T
  clear H
  (try dsimp only)
  with_reducible show wpF _ _ _ _ _ _
  k_steps
  refine' hR _ _ _ _ (stays_hide hg ?F) (bio_at (g := g) ?N)
  case F => k_asm
  case N => k_asm
theorem write_int {w : World} {base : Heap} {outer : List Env} {s : Shared} {R : Result → Shared → Prop} {f d b : Addr} {h1 h2 : Int} {t1 t2 tp : Tok} {buf : Array UInt8} {n : Nat} {t : Tok}
    (C : At w (Ar 860 4600 outer) base outer (hideAll s.heap [f, d, b]))
    (H : ∀ p ∈ bioObjs f d b h1 h2 t1 t2 tp buf, s.heap.get? p.1 = some p.2) (hne : @Ne Nat f d ∧ @Ne Nat f b ∧ @Ne Nat d b) (hz : buf.size ≤ 99000) (hn : n ≤ 16)
    (hR : ∀ r h' tk tp', (hideAll s.heap [f, d, b]).StaysIn h' → (∀ p ∈ bioObjs f d b h1 h2 t1 t2 tp' (buf ++ #[0, 0, 0, n.toUInt8]), h'.get? p.1 = some p.2) → R (.ok (.ret r)) { s with heap := h', toks := tk }) :
    codeF (model PySem.Challenge.rw_fq5006_01.row.prog w) (Ar 860 4600 outer) (.call (.ref 174) ⟨[.ref f, .int n t], []⟩) R s := by
  (have hK := C.X; revert hK; k_fill; intro hK)
  k_dflt (refine' enterF (binds := [(Str.ofString "f", .ref f), (Str.ofString "i", .int n t)]) (news := bioObjs f d b h1 h2 t1 t2 tp buf) C ?k2 ?k6 ?k7 ?k8 ?k9 ?kB ?c2 ?c3 ?c4 ?c5 ?_; walk_at "m_ent")
  · exact H
  intro g L' h₁ mean mg mb hg F N B X T
  clear H
  (try dsimp only)
  with_reducible show wpF _ _ _ _ _ _
  k_steps
  refine' hR _ _ _ _ (stays_hide hg ?F) (bio_at (g := g) ?N)
  case F => k_asm
  case N => k_asm
end
section
local macro_rules | `(tactic| walk_at "pad0") => `(tactic| skip)
local macro_rules | `(tactic| walk_at "call builtin:str.encode") => `(tactic| (k_dflt (refine' encode_call (by assumption) ?_)))
local macro_rules | `(tactic| walk_at "wpF") => `(tactic| (k_here; (with_reducible show wpF _ _ (call (Value.ref 493) _) _ _ _); k_dflt ((refine' wpF_call (codeF_leA (bio_write (siteX (by k_asm) (by k_asm) (by k_asm) (by k_asm) (bio_off (by k_asm))) (bio_at (by k_asm)) (by assumption) ?hz ?hv ?_) (Nat.le_of_ble_eq_true rfl) (Nat.le_of_ble_eq_true rfl))); (case hz => first | omega | (simp only [Array.size_append, List.size_toArray, List.length_cons, List.length_nil]; omega)); (case hv => (first | omega | (simp only [Array.size_append, List.size_toArray, List.length_cons, List.length_nil]; omega))); intro r h' tk tp' hk hP; have F' := fr_after (S := [_, _, _]) (by k_asm) (bio_off (by k_asm)) hk; have N' := bio_news (by k_asm) hP; k_sweep; (try dsimp only))))
local macro_rules | `(tactic| walk_at "wpF") => `(tactic| (k_here; (with_reducible show wpF _ _ (call (Value.ref 181) _) _ _ _); k_dflt ((refine' wpF_call (codeF_leA (write_short (siteX (by k_asm) (by k_asm) (by k_asm) (by k_asm) (bio_off (by k_asm))) (bio_at (by k_asm)) (by assumption) ?hz ?hn ?_) (Nat.le_of_ble_eq_true rfl) (Nat.le_of_ble_eq_true rfl))); (case hz => first | omega | (simp only [Array.size_append, List.size_toArray, List.length_cons, List.length_nil]; omega)); (case hn => (first | omega | (simp only [Array.size_append, List.size_toArray, List.length_cons, List.length_nil]; omega))); intro r h' tk tp' hk hP; have F' := fr_after (S := [_, _, _]) (by k_asm) (bio_off (by k_asm)) hk; have N' := bio_news (by k_asm) hP; k_sweep; (try dsimp only))))
local macro_rules | `(tactic| walk_at "wpF") => `(tactic| (k_here; (with_reducible show wpF _ _ (call (Value.ref 174) _) _ _ _); k_dflt ((refine' wpF_call (codeF_leA (write_int (siteX (by k_asm) (by k_asm) (by k_asm) (by k_asm) (bio_off (by k_asm))) (bio_at (by k_asm)) (by assumption) ?hz ?hn ?_) (Nat.le_of_ble_eq_true rfl) (Nat.le_of_ble_eq_true rfl))); (case hz => first | omega | (simp only [Array.size_append, List.size_toArray, List.length_cons, List.length_nil]; omega)); (case hn => (first | omega | (simp only [Array.size_append, List.size_toArray, List.length_cons, List.length_nil]; omega))); intro r h' tk tp' hk hP; have F' := fr_after (S := [_, _, _]) (by k_asm) (bio_off (by k_asm)) hk; have N' := bio_news (by k_asm) hP; k_sweep; (try dsimp only))))
theorem write_stringS {w : World} {base : Heap} {outer : List Env} {s : Shared} {R : Result → Shared → Prop} {f d b : Addr} {h1 h2 : Int} {t1 t2 tp : Tok} {buf : Array UInt8} {x : Str} {t : Tok}
    (C : At w (Ar 850 4500 outer) base outer (hideAll s.heap [f, d, b]))
    (H : ∀ p ∈ bioObjs f d b h1 h2 t1 t2 tp buf, s.heap.get? p.1 = some p.2) (hne : @Ne Nat f d ∧ @Ne Nat f b ∧ @Ne Nat d b) (hz : buf.size ≤ 98000) (hx : x ∈ texts)
    (hR : ∀ r h' tk tp', (hideAll s.heap [f, d, b]).StaysIn h' → (∀ p ∈ bioObjs f d b h1 h2 t1 t2 tp' (buf ++ #[0, (u8 x).size.toUInt8] ++ u8 x), h'.get? p.1 = some p.2) → R (.ok (.ret r)) { s with heap := h', toks := tk }) :
    codeF (model PySem.Challenge.rw_fq5006_01.row.prog w) (Ar 850 4500 outer) (.call (.ref 188) ⟨[.ref f, .str x t], []⟩) R s := by
  w_top off
  (have hK := C.X; revert hK; k_fill; intro hK)
  k_dflt (refine' enterF (binds := [(Str.ofString "f", .ref f), (Str.ofString "s", .str x t)]) (news := bioObjs f d b h1 h2 t1 t2 tp buf) C ?k2 ?k6 ?k7 ?k8 ?k9 ?kB ?c2 ?c3 ?c4 ?c5 ?_; walk_at "m_ent")
  · exact H
  intro g L' h₁ mean mg mb hg F N B X T
  clear H
  (try dsimp only)
  with_reducible show wpF _ _ _ _ _ _
  have hu := u8_texts x hx
  k_steps
  refine' hR _ _ _ _ (stays_hide hg ?F) (bio_at (g := g) ?N)
  case F => k_asm
  case N => k_asm
theorem write_stringB {w : World} {base : Heap} {outer : List Env} {s : Shared} {R : Result → Shared → Prop} {f d b : Addr} {h1 h2 : Int} {t1 t2 tp : Tok} {buf : Array UInt8} {x : Str} {t : Tok}
    (C : At w (Ar 850 4500 outer) base outer (hideAll s.heap [f, d, b]))
    (H : ∀ p ∈ bioObjs f d b h1 h2 t1 t2 tp buf, s.heap.get? p.1 = some p.2) (hne : @Ne Nat f d ∧ @Ne Nat f b ∧ @Ne Nat d b) (hz : buf.size ≤ 98000) (hx : x ∈ texts)
    (hR : ∀ r h' tk tp', (hideAll s.heap [f, d, b]).StaysIn h' → (∀ p ∈ bioObjs f d b h1 h2 t1 t2 tp' (buf ++ #[0, (u8 x).size.toUInt8] ++ u8 x), h'.get? p.1 = some p.2) → R (.ok (.ret r)) { s with heap := h', toks := tk }) :
    codeF (model PySem.Challenge.rw_fq5006_01.row.prog w) (Ar 850 4500 outer) (.call (.ref 188) ⟨[.ref f, .bytes (u8 x) t], []⟩) R s := by
  (have hK := C.X; revert hK; k_fill; intro hK)
  k_dflt (refine' enterF (binds := [(Str.ofString "f", .ref f), (Str.ofString "s", .bytes (u8 x) t)]) (news := bioObjs f d b h1 h2 t1 t2 tp buf) C ?k2 ?k6 ?k7 ?k8 ?k9 ?kB ?c2 ?c3 ?c4 ?c5 ?_; walk_at "m_ent")
  · exact H
  intro g L' h₁ mean mg mb hg F N B X T
  clear H
  (try dsimp only)
  with_reducible show wpF _ _ _ _ _ _
  have hu := u8_texts x hx
  k_steps
  refine' hR _ _ _ _ (stays_hide hg ?F) (bio_at (g := g) ?N)
  case F => k_asm
  case N => k_asm
theorem write_string {w : World} {base : Heap} {outer : List Env} {s : Shared} {R : Result → Shared → Prop} {f d b : Addr} {h1 h2 : Int} {t1 t2 tp : Tok} {buf : Array UInt8} {x : Str} {v : Value}
    (C : At w (Ar 850 4500 outer) base outer (hideAll s.heap [f, d, b]))
    (H : ∀ p ∈ bioObjs f d b h1 h2 t1 t2 tp buf, s.heap.get? p.1 = some p.2) (hne : @Ne Nat f d ∧ @Ne Nat f b ∧ @Ne Nat d b) (hz : buf.size ≤ 98000) (hx : x ∈ texts) (hv : Thing x v)
    (hR : ∀ r h' tk tp', (hideAll s.heap [f, d, b]).StaysIn h' → (∀ p ∈ bioObjs f d b h1 h2 t1 t2 tp' (buf ++ #[0, (u8 x).size.toUInt8] ++ u8 x), h'.get? p.1 = some p.2) → R (.ok (.ret r)) { s with heap := h', toks := tk }) :
    codeF (model PySem.Challenge.rw_fq5006_01.row.prog w) (Ar 850 4500 outer) (.call (.ref 188) ⟨[.ref f, v], []⟩) R s := by
  rcases hv with ⟨t, rfl⟩ | ⟨t, rfl⟩
  · exact write_stringS C H hne hz hx hR
  · exact write_stringB C H hne hz hx hR
theorem write_longstringS {w : World} {base : Heap} {outer : List Env} {s : Shared} {R : Result → Shared → Prop} {f d b : Addr} {h1 h2 : Int} {t1 t2 tp : Tok} {buf : Array UInt8} {x : Str} {t : Tok}
    (C : At w (Ar 850 4500 outer) base outer (hideAll s.heap [f, d, b]))
    (H : ∀ p ∈ bioObjs f d b h1 h2 t1 t2 tp buf, s.heap.get? p.1 = some p.2) (hne : @Ne Nat f d ∧ @Ne Nat f b ∧ @Ne Nat d b) (hz : buf.size ≤ 98000) (hx : x ∈ texts)
    (hR : ∀ r h' tk tp', (hideAll s.heap [f, d, b]).StaysIn h' → (∀ p ∈ bioObjs f d b h1 h2 t1 t2 tp' (buf ++ #[0, 0, 0, (u8 x).size.toUInt8] ++ u8 x), h'.get? p.1 = some p.2) → R (.ok (.ret r)) { s with heap := h', toks := tk }) :
    codeF (model PySem.Challenge.rw_fq5006_01.row.prog w) (Ar 850 4500 outer) (.call (.ref 195) ⟨[.ref f, .str x t], []⟩) R s := by
  (have hK := C.X; revert hK; k_fill; intro hK)
  k_dflt (refine' enterF (binds := [(Str.ofString "f", .ref f), (Str.ofString "s", .str x t)]) (news := bioObjs f d b h1 h2 t1 t2 tp buf) C ?k2 ?k6 ?k7 ?k8 ?k9 ?kB ?c2 ?c3 ?c4 ?c5 ?_; walk_at "m_ent")
  · exact H
  intro g L' h₁ mean mg mb hg F N B X T
  clear H
  (try dsimp only)
  with_reducible show wpF _ _ _ _ _ _
  have hu := u8_texts x hx
  k_steps
  refine' hR _ _ _ _ (stays_hide hg ?F) (bio_at (g := g) ?N)
  case F => k_asm
  case N => k_asm
theorem write_longstringB {w : World} {base : Heap} {outer : List Env} {s : Shared} {R : Result → Shared → Prop} {f d b : Addr} {h1 h2 : Int} {t1 t2 tp : Tok} {buf : Array UInt8} {x : Str} {t : Tok}
    (C : At w (Ar 850 4500 outer) base outer (hideAll s.heap [f, d, b]))
    (H : ∀ p ∈ bioObjs f d b h1 h2 t1 t2 tp buf, s.heap.get? p.1 = some p.2) (hne : @Ne Nat f d ∧ @Ne Nat f b ∧ @Ne Nat d b) (hz : buf.size ≤ 98000) (hx : x ∈ texts)
    (hR : ∀ r h' tk tp', (hideAll s.heap [f, d, b]).StaysIn h' → (∀ p ∈ bioObjs f d b h1 h2 t1 t2 tp' (buf ++ #[0, 0, 0, (u8 x).size.toUInt8] ++ u8 x), h'.get? p.1 = some p.2) → R (.ok (.ret r)) { s with heap := h', toks := tk }) :
    codeF (model PySem.Challenge.rw_fq5006_01.row.prog w) (Ar 850 4500 outer) (.call (.ref 195) ⟨[.ref f, .bytes (u8 x) t], []⟩) R s := by
  (have hK := C.X; revert hK; k_fill; intro hK)
  k_dflt (refine' enterF (binds := [(Str.ofString "f", .ref f), (Str.ofString "s", .bytes (u8 x) t)]) (news := bioObjs f d b h1 h2 t1 t2 tp buf) C ?k2 ?k6 ?k7 ?k8 ?k9 ?kB ?c2 ?c3 ?c4 ?c5 ?_; walk_at "m_ent")
  · exact H
  intro g L' h₁ mean mg mb hg F N B X T
  clear H
  (try dsimp only)
  with_reducible show wpF _ _ _ _ _ _
  have hu := u8_texts x hx
  k_steps
  refine' hR _ _ _ _ (stays_hide hg ?F) (bio_at (g := g) ?N)
  case F => k_asm
  case N => k_asm
theorem write_longstring {w : World} {base : Heap} {outer : List Env} {s : Shared} {R : Result → Shared → Prop} {f d b : Addr} {h1 h2 : Int} {t1 t2 tp : Tok} {buf : Array UInt8} {x : Str} {v : Value}
    (C : At w (Ar 850 4500 outer) base outer (hideAll s.heap [f, d, b]))
    (H : ∀ p ∈ bioObjs f d b h1 h2 t1 t2 tp buf, s.heap.get? p.1 = some p.2) (hne : @Ne Nat f d ∧ @Ne Nat f b ∧ @Ne Nat d b) (hz : buf.size ≤ 98000) (hx : x ∈ texts) (hv : Thing x v)
    (hR : ∀ r h' tk tp', (hideAll s.heap [f, d, b]).StaysIn h' → (∀ p ∈ bioObjs f d b h1 h2 t1 t2 tp' (buf ++ #[0, 0, 0, (u8 x).size.toUInt8] ++ u8 x), h'.get? p.1 = some p.2) → R (.ok (.ret r)) { s with heap := h', toks := tk }) :
    codeF (model PySem.Challenge.rw_fq5006_01.row.prog w) (Ar 850 4500 outer) (.call (.ref 195) ⟨[.ref f, v], []⟩) R s := by
  rcases hv with ⟨t, rfl⟩ | ⟨t, rfl⟩
  · exact write_longstringS C H hne hz hx hR
  · exact write_longstringB C H hne hz hx hR
theorem up_hide {h g h' : Heap} {S : List Addr} (e : g = hideAll h S) (u : g.UpToSlots h') : (hideAll h S).UpToSlots h' := e ▸ u
local macro_rules | `(tactic| walk_at "call builtin:len") => `(tactic| (k_dflt ((refine' len_none rfl ?_); intro h' e hx k; with_reducible show _)))
local macro_rules | `(tactic| walk_at "call builtin:len") => `(tactic| (k_dflt ((refine' len_int rfl ?_); intro h' e hx k)))
/-- what no writing lays -/
def Bad (v : Value) : Prop := v = .none ∨ ∃ n t, v = .int n t
theorem write_stringRN {w : World} {base : Heap} {outer : List Env} {s : Shared} {R : Result → Shared → Prop} {f d b : Addr} {h1 h2 : Int} {t1 t2 tp : Tok} {buf : Array UInt8} 
    (C : At w (Ar 850 4500 outer) base outer (hideAll s.heap [f, d, b]))
    (H : ∀ p ∈ bioObjs f d b h1 h2 t1 t2 tp buf, s.heap.get? p.1 = some p.2)
    (hR : ∀ e h' tk, RaisedN base outer e (.type "TypeError") (bioObjs f d b h1 h2 t1 t2 tp buf) h' → (hideAll s.heap [f, d, b]).UpToSlots h' → R (.error (.ref e)) { s with heap := h', toks := tk }) :
    codeF (model PySem.Challenge.rw_fq5006_01.row.prog w) (Ar 850 4500 outer) (.call (.ref 188) ⟨[.ref f, .none], []⟩) R s := by
  (have hK := C.X; revert hK; k_fill; intro hK)
  k_dflt (refine' enterF (binds := [(Str.ofString "f", .ref f), (Str.ofString "s", .none)]) (news := bioObjs f d b h1 h2 t1 t2 tp buf) C ?k2 ?k6 ?k7 ?k8 ?k9 ?kB ?c2 ?c3 ?c4 ?c5 ?_; walk_at "m_ent")
  · exact H
  intro g L' h₁ mean mg mb hg F N B X T
  clear H
  (try dsimp only)
  with_reducible show wpF _ _ _ _ _ _
  k_steps
  exact hR _ _ _ (by assumption) (up_hide hg (by assumption))
theorem write_stringRI {w : World} {base : Heap} {outer : List Env} {s : Shared} {R : Result → Shared → Prop} {f d b : Addr} {h1 h2 : Int} {t1 t2 tp : Tok} {buf : Array UInt8} {n : Int} {t : Tok}
    (C : At w (Ar 850 4500 outer) base outer (hideAll s.heap [f, d, b]))
    (H : ∀ p ∈ bioObjs f d b h1 h2 t1 t2 tp buf, s.heap.get? p.1 = some p.2)
    (hR : ∀ e h' tk, RaisedN base outer e (.type "TypeError") (bioObjs f d b h1 h2 t1 t2 tp buf) h' → (hideAll s.heap [f, d, b]).UpToSlots h' → R (.error (.ref e)) { s with heap := h', toks := tk }) :
    codeF (model PySem.Challenge.rw_fq5006_01.row.prog w) (Ar 850 4500 outer) (.call (.ref 188) ⟨[.ref f, .int n t], []⟩) R s := by
  (have hK := C.X; revert hK; k_fill; intro hK)
  k_dflt (refine' enterF (binds := [(Str.ofString "f", .ref f), (Str.ofString "s", .int n t)]) (news := bioObjs f d b h1 h2 t1 t2 tp buf) C ?k2 ?k6 ?k7 ?k8 ?k9 ?kB ?c2 ?c3 ?c4 ?c5 ?_; walk_at "m_ent")
  · exact H
  intro g L' h₁ mean mg mb hg F N B X T
  clear H
  (try dsimp only)
  with_reducible show wpF _ _ _ _ _ _
  k_steps
  exact hR _ _ _ (by assumption) (up_hide hg (by assumption))
theorem write_stringR {w : World} {base : Heap} {outer : List Env} {s : Shared} {R : Result → Shared → Prop} {f d b : Addr} {h1 h2 : Int} {t1 t2 tp : Tok} {buf : Array UInt8} {v : Value}
    (C : At w (Ar 850 4500 outer) base outer (hideAll s.heap [f, d, b]))
    (H : ∀ p ∈ bioObjs f d b h1 h2 t1 t2 tp buf, s.heap.get? p.1 = some p.2) (hv : Bad v)
    (hR : ∀ e h' tk, RaisedN base outer e (.type "TypeError") (bioObjs f d b h1 h2 t1 t2 tp buf) h' → (hideAll s.heap [f, d, b]).UpToSlots h' → R (.error (.ref e)) { s with heap := h', toks := tk }) :
    codeF (model PySem.Challenge.rw_fq5006_01.row.prog w) (Ar 850 4500 outer) (.call (.ref 188) ⟨[.ref f, v], []⟩) R s := by
  rcases hv with rfl | ⟨n, t, rfl⟩
  · exact write_stringRN C H hR
  · exact write_stringRI C H hR
end
section
section
variable {prog : Program} {w : World} {A : Around} {E : Value → Shared → Prop} {s : Shared} {env : Env}
theorem codeF_forW {R : Result → Shared → Prop} {target : Expr} {body : List Stmt} {I : Addr} {fp : List Addr} {n : Nat} {P : Nat → Value → Prop} {St : Nat → Heap → Prop} (W : Walks prog w A I fp [I] n P St)
    (Inv : Nat → Shared → Prop) (hSt : ∀ i s, Inv i s → St i s.heap)
    (turn : ∀ i s v h' tk, i < n → Inv i s → P i v → St (i + 1) h' → (∀ b o, b ∉ [I] → s.heap.get? b = some o → h'.get? b = some o) →
      wpAny (model prog w) A (letOwnedTupleGo target (.ref I) v) (fun _ s₁ => wpAny (model prog w) A (assign target env v) (fun _ s₂ => wpF (model prog w) A (execs body env)
        (fun f s₃ => match f with | .next | .cont => Inv (i + 1) s₃ | .brk => R (.ok .next) s₃ | .ret v => R (.ok (.ret v)) s₃)
        (notedBy (model prog w) A env fun e s' => R (.error e) s') s₂) (notedBy (model prog w) A env fun e s' => R (.error e) s') s₁) (notedBy (model prog w) A env fun e s' => R (.error e) s') { s with heap := h', toks := tk })
    (done : ∀ s h' tk, Inv n s → (∀ b o, b ∉ [I] → s.heap.get? b = some o → h'.get? b = some o) → R (.ok .next) { s with heap := h', toks := tk })
    (h : Inv 0 s) : codeF (model prog w) A (.forLoop target (.ref I) body [] env) R s := by
  refine codeF_forLoop (fun k s' => ∃ i, i ≤ n ∧ k = n - i ∧ Inv i s') ?_ n ⟨0, Nat.zero_le _, rfl, h⟩
  rintro k s' ⟨i, hi, rfl, hI⟩
  by_cases hlt : i < n
  · refine W.item i s' _ _ hlt (hSt _ _ hI) fun v h' tk hP hst hk => ?_
    refine wpAny_mono (turn i s' v h' tk hlt hI hP hst hk) (fun _ s₁ h₁ => wpAny_mono h₁ (fun _ s₂ h₂ => wpF_mono h₂ (fun f s₃ h₃ => ?_) fun _ _ x => x) fun _ _ x => x) fun _ _ x => x
    cases f with
    | next => exact ⟨n - (i + 1), by omega, i + 1, hlt, rfl, h₃⟩
    | cont => exact ⟨n - (i + 1), by omega, i + 1, hlt, rfl, h₃⟩
    | brk => exact h₃
    | ret v => exact h₃
  · obtain rfl : i = n := Nat.le_antisymm hi (Nat.not_lt.mp hlt)
    refine W.done s' _ _ (hSt _ _ hI) fun h' tk hk => ?_
    exact wpF_execs_nil (done s' h' tk hI hk)
end

section
variable {M : Model} {A A₀ : Around} {s : Shared} {base g : Heap} {outer : List Env} {L a e : Addr} {name : Str} {scope : Scope} {cd cls a0 : Value} {news : List (Addr × Obj)} {Q : Unit → Shared → Prop} {E : Value → Shared → Prop}
theorem setFlight_held {l : List Env} (hh : Heap.HeldW base l e cls a0 L s.heap) (hQ : ∀ h', Heap.HeldW base l e cls a0 L h' → s.heap.UpToSlots h' → Q () { s with heap := h' }) : wpAny M A (setFlight (.ref e) (some L)) Q E s := by
  obtain ⟨f1, f2, f3, oe, vs, T, oT, ts, he, hcls, hd, h1, hnT, hTe, hT, hdT, h3⟩ := hh
  have hsz3 : 3 < ts.size := (Array.getElem?_eq_some_iff.mp h3).1
  have other : ∀ b, b ≠ T → (s.heap.update T (Obj.mapFields (·.setIfInBounds 3 (rawInt L)))).get? b = s.heap.get? b := fun b hb => Heap.get?_update_other _ _ (Ne.symm hb)
  have rec_ : ∀ b o, s.heap.get? b = some o → (∀ vs, o.data ≠ .fields vs) → b ≠ T := fun b o hb hnf q => by
    rw [q, hT] at hb; injection hb with hb; subst hb; exact hnf ts hdT
  unfold setFlight
  refine wpAny_bind (wpAny_field he hd h1 ?_)
  rw [if_pos (show (Value.ref T != Value.none) = true from by simp)]
  refine wpAny_setField hT hdT hsz3 (hQ _ ⟨fun b o hbo => (other b fun q => by rw [q, hnT] at hbo; cases hbo).trans (f1 b o hbo), f2,
    f3.of_keeps fun b o hb hnf => ⟨o, (other b (rec_ b o hb hnf)).trans hb, rfl⟩, ?_⟩ fun b o hb hnf => ⟨o.slots, (other b (rec_ b o hb hnf)).trans hb⟩)
  exact ⟨oe, vs, T, _, _, (other e (Ne.symm hTe)).trans he, hcls, hd, h1, hnT, hTe, Heap.get?_update_self _ hT (Obj.isFreed_of_fields (Obj.data_mapFields hdT _)), Obj.data_mapFields hdT _, by simp [hsz3]⟩
theorem cameBack_held {env : Env} {l : List Env} (hf : env.frame = some L) (hh : Heap.HeldW base l e cls a0 L s.heap) (hE : ∀ h', Heap.HeldW base l e cls a0 L h' → s.heap.UpToSlots h' → E (.ref e) { s with heap := h' }) : cameBackBy M A env E (.ref e) s := by
  obtain ⟨oe, vs, T, oT, ts, he, hcls, hd, h1, _⟩ := id hh.2.2.2
  unfold cameBackBy
  refine wpAny_bind (wpAny_field he hd h1 ?_)
  rw [if_neg (show ¬ ((Value.ref T == Value.none) = true) from by simp)]
  rw [hf]
  exact setFlight_held hh hE
theorem leaves_held {env : Env} (hf : env.frame = some L) (hh : Heap.HeldW base (env :: outer) e cls a0 L s.heap) (hQ : ∀ h', Heap.FlyingW base outer e cls a0 h' → s.heap.UpToSlots h' → Q () { s with heap := h' }) : wpAny M A (leaving env (.ref e)) Q E s := by
  unfold leaving
  refine wpAny_bind (wpAny_noteFrame_againW hf hh.2.2.2 ?_)
  refine wpAny_landsW hh fun h' hfl hu => ?_
  obtain ⟨k1, k2, ⟨_, _, k3⟩, k4⟩ := hfl
  exact hQ h' ⟨k1, k2, k3, k4⟩ hu
/-- an exception that flies in from a call in a for's suite, and out of the def -/
theorem raise_out {env : Env} {QQ : Value → Unit → Shared → Prop} {EE : Value → Value → Shared → Prop} (hfr : A.frames = some (env :: outer)) (hf : env.frame = some L) (R : RaisedN base (env :: outer) e cls news s.heap)
    (hQ : ∀ h', RaisedN base outer e cls news h' → s.heap.UpToSlots h' → QQ (.ref e) () { s with heap := h' }) :
    notedBy M A env (fun e s' => cameBackBy M A env (fun e s' => wpAny M A (leaving env e) (QQ e) (EE e) s') e s') (.ref e) s := by
  obtain ⟨B, a0, hB, hl, hfl⟩ := R
  unfold notedBy
  refine wpAny_looks_onW hfr hf hfl fun h₁ hh₁ u₁ => ?_
  refine cameBack_held hf hh₁ fun h₂ hh₂ u₂ => ?_
  refine leaves_held hf hh₂ fun h₃ hh₃ u₃ => ?_
  exact hQ h₃ ⟨B, a0, hB, hl, hh₃⟩ ((u₁.trans u₂).trans u₃)
end
end
section
local macro_rules | `(tactic| walk_at "wpF") => `(tactic| (k_here; (with_reducible show wpF _ _ (call (Value.ref 181) _) _ _ _); k_dflt ((refine' wpF_call (codeF_leA (write_short (siteX (by k_asm) (by k_asm) (by k_asm) (by k_asm) (bio_off (by k_asm))) (bio_at (by k_asm)) (by assumption) ?hz ?hn ?_) (Nat.le_of_ble_eq_true rfl) (Nat.le_of_ble_eq_true rfl))); (case hz => first | omega | (simp only [Array.size_append, List.size_toArray, List.length_cons, List.length_nil]; omega)); (case hn => (first | omega | (simp only [Array.size_append, List.size_toArray, List.length_cons, List.length_nil]; omega))); intro r h' tk tp' hk hP; have F' := fr_after (S := [_, _, _]) (by k_asm) (bio_off (by k_asm)) hk; have N' := bio_news (by k_asm) hP; k_sweep; (try dsimp only))))

/-- an item: a text's name, or none for what can't be laid -/
def Item (v : Value) : Option Str → Prop
  | some x => x ∈ texts ∧ Thing x v
  | none => Bad v
inductive Items : List Value → List (Option Str) → Prop
  | nil : Items [] []
  | cons {v : Value} {o : Option Str} {vs : List Value} {os : List (Option Str)} : Item v o → Items vs os → Items (v :: vs) (o :: os)
theorem Items.length : ∀ {vs : List Value} {os : List (Option Str)}, Items vs os → vs.length = os.length
  | _, _, .nil => rfl
  | _, _, .cons _ h => congrArg Nat.succ h.length
theorem Items.at : ∀ {vs : List Value} {os : List (Option Str)}, Items vs os → ∀ {i : Nat} {v : Value}, vs[i]? = some v → ∃ o, os[i]? = some o ∧ Item v o
  | _, _, .nil, i, v, h => by simp at h
  | _, _, .cons hv _, 0, v, h => by cases h; exact ⟨_, rfl, hv⟩
  | _, _, .cons _ hr, i + 1, v, h => hr.at (i := i) (v := v) (by simpa using h)
/-- what a run of items lays behind a buffer -/
def lay (buf : Array UInt8) : List (Option Str) → Array UInt8
  | [] => buf
  | none :: _ => buf
  | some x :: r => lay (buf ++ #[0, (u8 x).size.toUInt8] ++ u8 x) r
theorem drop_at {α : Type} {l : List α} {i : Nat} {a : α} (h : l[i]? = some a) : l.drop i = a :: l.drop (i + 1) := by
  obtain ⟨hi, rfl⟩ := List.getElem?_eq_some_iff.mp h
  exact List.drop_eq_getElem_cons hi
theorem take_at {α : Type} {l : List α} {i : Nat} {a : α} (h : l[i]? = some a) : l.take (i + 1) = l.take i ++ [a] := by
  rw [List.take_add_one, h]; rfl
theorem lay_drop {buf : Array UInt8} {os : List (Option Str)} {i : Nat} {x : Str} (h : os[i]? = some (some x)) : lay buf (os.drop i) = lay (buf ++ #[0, (u8 x).size.toUInt8] ++ u8 x) (os.drop (i + 1)) := by
  rw [drop_at h]; rfl
theorem lay_bad {buf : Array UInt8} {os : List (Option Str)} {i : Nat} (h : os[i]? = some none) : lay buf (os.drop i) = buf := by rw [drop_at h]; rfl
theorem fr_fact {g h : Heap} {L : Addr} {m : Str → Option Value} {x : Str} {v : Option Value} (F : Fr g L h m) (e : m x = v) : Fr g L h (fun y => if y = x then v else m y) := by
  have : (fun y => if y = x then v else m y) = m := by
    funext y
    by_cases h : y = x
    · rw [if_pos h, h, e]
    · rw [if_neg h]
  rw [this]; exact F
theorem len_listK {prog : Program} {w : World} {A : Around} {E : Value → Shared → Prop} {s : Shared} {g : Heap} {L l : Addr} {m : Str → Option Value} {vs : List Value} {n : Nat} {Q : Value → Shared → Prop} (F : Fr g L s.heap m) (hl : g.IsList l vs.toArray) (hn : vs.length = n) (hf : n ≤ 100)
    (h : ∀ t k, Q (.int (n : Nat) t) { s with toks := k }) : wpAny (model prog w) A (call (.builtin "len") [.ref l]) Q E s := by
  subst hn
  refine call_len_list (hl.at fun o e => F.keep l o e) (by rw [List.size_toArray]; omega) ?_
  rw [List.size_toArray]
  exact h _ _
theorem bio_lt {g h : Heap} {L f d b : Addr} {h1 h2 : Int} {t1 t2 tp : Tok} {buf : Array UInt8} (N : News g L h (bioObjs f d b h1 h2 t1 t2 tp buf)) : f < h.objs.size ∧ d < h.objs.size ∧ b < h.objs.size :=
  ⟨Heap.lt_size (N (f, instObj 510 d) (by simp)).1, Heap.lt_size (N (d, _) (List.mem_cons_of_mem _ (List.mem_cons_self))).1, Heap.lt_size (N (b, baObj buf) (by simp)).1⟩
theorem bio_ne {I f d b : Addr} {h1 h2 : Int} {t1 t2 tp : Tok} {buf : Array UInt8} (n1 : f ≠ I) (n2 : d ≠ I) (n3 : b ≠ I) : ∀ p ∈ bioObjs f d b h1 h2 t1 t2 tp buf, p.1 ≠ I := fun p hp => by
  simp only [List.mem_cons, List.not_mem_nil, or_false] at hp
  rcases hp with rfl | rfl | rfl
  · exact n1
  · exact n2
  · exact n3
theorem stN2 {M : Model} {A : Around} {E : Value → Shared → Prop} {s : Shared} {name : Str} {scope : Scope} {L a : Addr} {cd : Value} {h₀ : Heap} {m : Str → Option Value} {n1 n2 : List (Addr × Obj)} {x : Str} {v : Value} {Q : Unit → Shared → Prop} (F : Fr h₀ L s.heap m) (N : News h₀ L s.heap n1) (N2 : News h₀ L s.heap n2)
    (h : ∀ h', Fr h₀ L h' (fun y => if y = x then some v else m y) → News h₀ L h' n1 → News h₀ L h' n2 → Q () { s with heap := h', toks := s.toks + 1 })
    (hk : scope.kind = .function := by rfl) (hl : (envOf name scope L a cd).kindOf x = some .local := by rfl) : wpAny M A (storeName (envOf name scope L a cd) x v) Q E s :=
  wpAny_storeName_local hl F.ns (fun h' hn hs => h h' (F.set hn hs) (N.set hs) (N2.set hs))
    (by show (scope.kind == .class || (scope.kind == .module && L != mainGlobals)) = false; rw [hk]; rfl)
abbrev itObj (l : Addr) (i : Nat) : Obj := { cls := .type "list_iterator", data := .fields #[.ref l, .int i 0] }
local macro_rules | `(tactic| walk_at "call builtin:len") => `(tactic| (k_here; k_dflt ((refine' len_listK ?F ?l ?n ?f ?_; (case F => k_asm); (case l => assumption); (case n => assumption); (case f => omega)); intro t k)))
theorem write_stringlist {w : World} {base : Heap} {outer : List Env} {s : Shared} {R : Result → Shared → Prop} {f d b l : Addr} {h1 h2 : Int} {t1 t2 tp : Tok} {buf : Array UInt8} {vs : List Value} {os : List (Option Str)}
    (C : At w (Ar 840 4400 outer) base outer (hideAll s.heap [f, d, b]))
    (H : ∀ p ∈ bioObjs f d b h1 h2 t1 t2 tp buf, s.heap.get? p.1 = some p.2) (hne : @Ne Nat f d ∧ @Ne Nat f b ∧ @Ne Nat d b) (hz : buf.size ≤ 90000) (hl : (hideAll s.heap [f, d, b]).IsList l vs.toArray) (hItems : Items vs os) (h3 : os.length ≤ 4)
    (hR : none ∉ os → ∀ r h' tk tp', (hideAll s.heap [f, d, b]).StaysIn h' → (∀ p ∈ bioObjs f d b h1 h2 t1 t2 tp' (lay (buf ++ #[0, os.length.toUInt8]) os), h'.get? p.1 = some p.2) → R (.ok (.ret r)) { s with heap := h', toks := tk })
    (hE : none ∈ os → ∀ e h' tk tp', RaisedN base outer e (.type "TypeError") (bioObjs f d b h1 h2 t1 t2 tp' (lay (buf ++ #[0, os.length.toUInt8]) os)) h' → (hideAll s.heap [f, d, b]).UpToSlots h' → R (.error (.ref e)) { s with heap := h', toks := tk }) :
    codeF (model PySem.Challenge.rw_fq5006_01.row.prog w) (Ar 840 4400 outer) (.call (.ref 202) ⟨[.ref f, .ref l], []⟩) R s := by
  w_top off
  (have hK := C.X; revert hK; k_fill; intro hK)
  k_dflt (refine' enterF (binds := [(Str.ofString "f", .ref f), (Str.ofString "stringlist", .ref l)]) (news := bioObjs f d b h1 h2 t1 t2 tp buf) C ?k2 ?k6 ?k7 ?k8 ?k9 ?kB ?c2 ?c3 ?c4 ?c5 ?_; walk_at "m_ent")
  · exact H
  intro g L' h₁ mean mg mb hg F N B X T
  have hlg : g.IsList l vs.toArray := by rw [hg]; exact hl
  clear H hl
  (try dsimp only)
  have hlen := hItems.length
  with_reducible show wpF _ _ _ _ _ _
  k_steps
  rename Fr _ _ _ _ => F0
  rename News _ _ _ _ => N0
  rename_i tP hS0 _
  obtain ⟨l1, l2, l3⟩ := bio_lt N0
  have hI0 := next_is_new F0
  have hIL := F0.ns.lt
  have hlI := Heap.lt_size (hlg.at fun o e => F0.keep l o e).choose_spec.1
  refine wpAny_pyIter_list (hlg.at fun o e => F0.keep l o e) ?_
  dsimp only at hI0 hIL l1 l2 l3 hlI ⊢
  generalize hI : (_ : Heap).objs.size = I at hI0 hIL l1 l2 l3 hlI ⊢
  have n1 : f ≠ I := Nat.ne_of_lt l1
  have n2 : d ≠ I := Nat.ne_of_lt l2
  have n3 : b ≠ I := Nat.ne_of_lt l3
  have n4 : L' ≠ I := Nat.ne_of_lt hIL
  refine codeF_forW (Walks.list rfl I l (Nat.ne_of_lt hlI) vs.toArray) (fun i s' => ∃ (h' : Heap) (tk' : Nat) (tp' : Tok) (bf : Array UInt8) (m : Str → Option Value) (oI : Obj), s' = { s with heap := h', toks := tk' } ∧ Fr g L' h' (fun y => if y = Str.ofString "f" then some (.ref f) else m y) ∧ News g L' h' (bioObjs f d b h1 h2 t1 t2 tp' bf) ∧
    News g L' h' [(I, oI)] ∧ oI.cls = .type "list_iterator" ∧ oI.data = .fields #[.ref l, .int i 0] ∧ lay bf (os.drop i) = lay (buf ++ #[0, os.length.toUInt8]) os ∧ none ∉ os.take i ∧ bf.size ≤ 91000 + 20 * i) ?hSt ?turn ?done ?h
  case hSt =>
    rintro i s' ⟨h', tk', tp', bf, m, oI, rfl, F1, N1, NI, c1, c2, _⟩
    exact ⟨⟨oI, (NI (I, oI) (.head _)).1, c1, c2⟩, hlg.at fun o e => F1.keep l o e⟩
  case h =>
    refine ⟨_, _, tP, _, _, itObj l 0, rfl, (fr_fact (F0.push _) (x := Str.ofString "f") (v := some (.ref f)) rfl), N0.grown fun _ _ e => Heap.get?_push_of_some _ e, ?_, rfl, rfl, rfl, by simp, by simp; omega⟩
    intro p hp
    rw [List.mem_singleton.mp hp]
    exact ⟨by rw [← hI]; exact Heap.get?_push_size _ rfl, Ne.symm n4, hI0⟩
  case done =>
    rintro s' h3 tk3 ⟨h', tk', tp', bf, m, oI, rfl, F1, N1, NI, c1, c2, hL, hT, _⟩ hk
    have hn : vs.toArray.size = os.length := by simp [hlen]
    rw [hn] at hL hT
    rw [List.take_length] at hT
    rw [List.drop_length] at hL
    have F2 := LCg.fr_but F1 hk n4 hI0
    have N2 := LCg.news_but N1 hk (bio_ne n1 n2 n3)
    have hL' : bf = lay (buf ++ #[0, os.length.toUInt8]) os := hL
    subst hL'
    dsimp only
    refine wpF_execs_nil ?_
    exact hR hT _ _ _ _ (stays_hide hg F2) (bio_at N2)
  case turn =>
    rintro i s' v h3 tk3 hi ⟨h', tk', tp', bf, m, oI, rfl, F1, N1, NI, c1, c2, hL, hT, hB⟩ hP ⟨⟨oJ, e1, e2, e3⟩, _⟩ hk
    have hn : vs.toArray.size = os.length := by simp [hlen]
    have hv : vs[i]? = some v := by simpa using hP
    obtain ⟨o, ho, hio⟩ := hItems.at hv
    have F2 := LCg.fr_but F1 hk n4 hI0
    have N2 := LCg.news_but N1 hk (bio_ne n1 n2 n3)
    have NJ : News g L' h3 [(I, oJ)] := fun p hp => by
      rw [List.mem_singleton.mp hp]; exact ⟨e1, Ne.symm n4, hI0⟩
    clear F1 N1 NI F0 N0 hk
    refine wpAny_of_eq rfl ?_
    refine wpAny_assign_Name (stN2 F2 N2 NJ (fun h4 F3 N3 NK => ?_))
    clear F2 N2 NJ
    dsimp only
    have off := bio_off N3
    cases o with
    | some x =>
      obtain ⟨hx, hth⟩ := hio
      have hu := u8_texts x hx
      have hi3 : i < 4 := by omega
      k_steps
      k_dflt (refine' wpF_call (codeF_leA (write_string (siteX B X T F3 off) (bio_at N3) hne ?hz hx hth ?_) (Nat.le_of_ble_eq_true rfl) (Nat.le_of_ble_eq_true rfl)))
      case hz => omega
      intro r h5 tk5 tp5 hk5 hP5
      have F5 := fr_after F3 off hk5
      have N5 := bio_news N3 hP5
      have NI5 := news_after NK hk5 (fun p hp => by rw [List.mem_singleton.mp hp]; simp [Ne.symm n1, Ne.symm n2, Ne.symm n3])
      dsimp only
      refine wpF_execs_nil ?_
      refine ⟨h5, tk5, tp5, _, _, oJ, rfl, fr_fact F5 (x := Str.ofString "f") (v := some (.ref f)) rfl, N5, NI5, e2, e3, ?_, ?_, ?_⟩
      · rw [← hL, lay_drop ho]
      · rw [take_at ho]; simp [hT]
      · simp only [Array.size_append, List.size_toArray, List.length_cons, List.length_nil]; omega
    | none =>
      k_steps
      k_dflt (refine' wpF_call (codeF_leA (write_stringR (siteX B X T F3 off) (bio_at N3) hio ?_) (Nat.le_of_ble_eq_true rfl) (Nat.le_of_ble_eq_true rfl)))
      intro e h5 tk5 hR5 hU5
      rw [lay_bad ho] at hL
      dsimp only
      refine' raise_out (outer := outer) (L := L') ?h1 ?h2 ?hR ?_
      case h1 => exact rfl
      case h2 => exact rfl
      case hR => exact hR5
      intro h6 hR6 hU6
      rw [hL] at hR6
      refine hE (List.mem_of_getElem? ho) e h6 tk5 _ hR6 (up_hide hg ?_)
      exact ((Heap.UpToSlots.of_keeps (fr_hide F3 off).keep).trans hU5).trans hU6
end
section
section
variable {prog : Program} {w : World} {A : Around} {E : Value → Shared → Prop} {s : Shared} {env : Env} {K : Type} [DecidableEq K] {knd : KeyKind prog w K}
/-- the turns over a dict's items -/
theorem codeF_forItems {R : Result → Shared → Prop} {xk xv : Str} {pk pv pt : Pos} {x1} {body : List Stmt} {it d : Addr} {kvs : List (K × Value)} {ep : Nat}
    (hh : A.handled = none) (hxk : env.kindOf xk = some .local) (hxv : env.kindOf xv = some .local)
    (hp : (env.scope.kind == .class || (env.scope.kind == .module && env.locals != env.globals)) = false)
    (hiL : it ≠ env.locals) (hdL : d ≠ env.locals) (hdi : d ≠ it) (Inv : Nat → Shared → Prop)
    (hSt : ∀ i s', Inv i s' → (∃ ok ov, IsItemIter s'.heap it d i kvs.length ep ok ov) ∧ s'.heap.DictAt knd d kvs ep ∧ ∃ m, s'.heap.Ns env.locals m)
    (turn : ∀ i k v key s' h' tk m, kvs[i]? = some (k, v) → knd.is k key = true → Inv i s' → s'.heap.Ns env.locals m → h'.Ns env.locals (fun y => if y = xv then some v else if y = xk then some key else m y) →
      (∃ ok ov, IsItemIter h' it d (i + 1) kvs.length ep ok ov) → (∀ b o, b ≠ env.locals → b ≠ it → s'.heap.get? b = some o → h'.get? b = some o) →
      wpF (model prog w) A (execs body env) (fun f s₃ => match f with | .next | .cont => Inv (i + 1) s₃ | .brk => R (.ok .next) s₃ | .ret v => R (.ok (.ret v)) s₃)
        (notedBy (model prog w) A env fun e s' => R (.error e) s') { s' with heap := h', toks := tk })
    (done : ∀ s' h' tk, Inv kvs.length s' → (∀ b o, b ≠ it → s'.heap.get? b = some o → h'.get? b = some o) → R (.ok .next) { s' with heap := h', toks := tk })
    (h : Inv 0 s) : codeF (model prog w) A (.forLoop (.Tuple [.Name xk pk, .Name xv pv] x1 pt) (.ref it) body [] env) R s := by
  refine codeF_forLoop (fun n s' => ∃ i, i ≤ kvs.length ∧ n = kvs.length - i ∧ Inv i s') ?_ kvs.length ⟨0, Nat.zero_le _, rfl, h⟩
  rintro n s' ⟨i, hi, rfl, hI⟩
  obtain ⟨⟨ok, ov, hit'⟩, hm', m', hn'⟩ := hSt _ _ hI
  cases hv : kvs[i]? with
  | none =>
    have hsz : i = kvs.length := Nat.le_antisymm hi (by simpa using hv)
    subst hsz
    refine wpAny_pyNext_items_end hh hit' hm' hv fun h₁ he₁ => wpF_execs_nil ?_
    exact done s' h₁ s'.toks hI fun b o hb x => he₁ b o hb x
  | some kv =>
    obtain ⟨k, v⟩ := kv
    have hlt : i < kvs.length := (List.getElem?_eq_some_iff.mp hv).1
    have hiH : it < s'.heap.objs.size := Heap.lt_size hit'
    have hLH : env.locals < s'.heap.objs.size := hn'.lt
    refine wpAny_pyNext_items_item hit' hm' hv fun key h₁ hkey heo ht₁ hz₁ hk₁ => ?_
    refine wpAny_letOwnedTupleGo_items heo fun h₂ he₂ hs₂ => ?_
    replace hs₂ : Heap.SameBut it h₁ h₂ := hs₂
    have ht₂ : h₂.IsTuple s'.heap.objs.size #[key, v] := ⟨_, (hs₂.2 _ (Nat.ne_of_gt hiH)).trans ht₁, rfl, _, rfl⟩
    have hz₂ : h₂.objs.size = s'.heap.objs.size + 1 := hs₂.1.trans hz₁
    refine wpAny_assign_Tuple hh ht₂ rfl rfl fun h₃ hx₃ => ?_
    replace hx₃ : Heap.ExtBut h₂.objs.size h₂ h₃ := hx₃
    have old₃ : ∀ b o, b < s'.heap.objs.size → h₂.get? b = some o → h₃.get? b = some o := fun b o hb x => hx₃ b o (by rw [hz₂]; exact Nat.ne_of_lt (Nat.lt_succ_of_lt hb)) x
    have hn₃ : h₃.Ns env.locals m' := (hn'.at fun o x => hk₁ _ o (Ne.symm hiL) x).sameBut hs₂ (Ne.symm hiL) |>.at fun o x => old₃ _ o hLH x
    show wpAny _ _ (do holding [v] (assign (.Name xk pk) env key); do holding [] (assign (.Name xv pv) env v); pure ()) _ _ _
    refine wpAny_bind (wpAny_holding (wpAny_assign_Name (wpAny_storeName_local hxk hn₃ (fun h₄ hn₄ hs₄ => ?_) hp)))
    replace hs₄ : Heap.SameBut env.locals h₃ h₄ := hs₄
    refine wpAny_bind (wpAny_holding (wpAny_assign_Name (wpAny_storeName_local hxv hn₄ (fun h₅ hn₅ hs₅ => wpAny_pure ?_) hp)))
    replace hs₅ : Heap.SameBut env.locals h₄ h₅ := hs₅
    have up₅ : ∀ b o, b ≠ env.locals → b < s'.heap.objs.size → h₂.get? b = some o → h₅.get? b = some o := fun b o hbL hb x => hs₅.extBut b o hbL (hs₄.extBut b o hbL (old₃ b o hb x))
    refine wpF_mono (turn i k v key s' h₅ _ m' hv hkey hI hn' hn₅ ⟨key, v, up₅ it _ hiL hiH he₂⟩ fun b o hbL hbi x => up₅ b o hbL (Heap.lt_size x) (hs₂.extBut b o hbi (hk₁ b o hbi x))) (fun f s₃ h₆ => ?_) fun _ _ x => x
    cases f with
    | next => exact ⟨kvs.length - (i + 1), by omega, i + 1, hlt, rfl, h₆⟩
    | cont => exact ⟨kvs.length - (i + 1), by omega, i + 1, hlt, rfl, h₆⟩
    | brk => exact h₆
    | ret v => exact h₆
end
end
section
local macro_rules | `(tactic| walk_at "wpF") => `(tactic| (k_here; (with_reducible show wpF _ _ (call (Value.ref 181) _) _ _ _); k_dflt ((refine' wpF_call (codeF_leA (write_short (siteX (by k_asm) (by k_asm) (by k_asm) (by k_asm) (bio_off (by k_asm))) (bio_at (by k_asm)) (by assumption) ?hz ?hn ?_) (Nat.le_of_ble_eq_true rfl) (Nat.le_of_ble_eq_true rfl))); (case hz => first | omega | (simp only [Array.size_append, List.size_toArray, List.length_cons, List.length_nil]; omega)); (case hn => (first | omega | (simp only [Array.size_append, List.size_toArray, List.length_cons, List.length_nil]; omega))); intro r h' tk tp' hk hP; have F' := fr_after (S := [_, _, _]) (by k_asm) (bio_off (by k_asm)) hk; have N' := bio_news (by k_asm) hP; k_sweep; (try dsimp only))))

/-- the options of a map: a key's text, and what its value is -/
inductive Opts : List (Str × Value) → List (Str × Option Str) → Prop
  | nil : Opts [] []
  | cons {k : Str} {v : Value} {o : Option Str} {kvs : List (Str × Value)} {os : List (Str × Option Str)} : k ∈ texts → Item v o → Opts kvs os → Opts ((k, v) :: kvs) ((k, o) :: os)
theorem Opts.length : ∀ {kvs : List (Str × Value)} {os : List (Str × Option Str)}, Opts kvs os → kvs.length = os.length
  | _, _, .nil => rfl
  | _, _, .cons _ _ h => congrArg Nat.succ h.length
theorem Opts.at : ∀ {kvs : List (Str × Value)} {os : List (Str × Option Str)}, Opts kvs os → ∀ {i : Nat} {k : Str} {v : Value}, kvs[i]? = some (k, v) → k ∈ texts ∧ ∃ o, os[i]? = some (k, o) ∧ Item v o
  | _, _, .nil, i, _, _, h => by simp at h
  | _, _, .cons hk hv _, 0, _, _, h => by cases h; exact ⟨hk, _, rfl, hv⟩
  | _, _, .cons _ _ hr, i + 1, k, v, h => hr.at (i := i) (by simpa using h)
/-- keys and values, the one behind the other -/
def flat : List (Str × Option Str) → List (Option Str)
  | [] => []
  | (k, o) :: r => some k :: o :: flat r
theorem flat_at {os : List (Str × Option Str)} {i : Nat} {k : Str} {o : Option Str} (h : os[i]? = some (k, o)) : flat (os.drop i) = some k :: o :: flat (os.drop (i + 1)) := by rw [drop_at h]; rfl
theorem flat_app : ∀ (a b : List (Str × Option Str)), flat (a ++ b) = flat a ++ flat b
  | [], _ => rfl
  | (k, o) :: r, b => by simp [flat, flat_app r b]
theorem none_flat {os : List (Str × Option Str)} {i : Nat} {k : Str} (h : os[i]? = some (k, none)) : none ∈ flat os := by
  rw [← List.take_append_drop i os, flat_app, flat_at h]; simp
abbrev iiObj (o : Addr) (i n ep : Nat) (ok ov : Value) : Obj := { cls := .type "dict_itemiterator", dict := none, data := .fields #[.none, .bool false, .ref o, .int i 0, .int n 0, .int ep 0, ok, ov], slots := #[] }
theorem dictAt_of {prog : Program} {w : World} {h : Heap} {o : Addr} {kvs : List (Str × Value)} (x : h.DictOf (PySem.strKind prog w) o kvs) : ∃ ep, h.DictAt (PySem.strKind prog w) o kvs ep :=
  let ⟨ob, es, ep, h1, h2, h3, r⟩ := x; ⟨ep, ob, es, h1, h2, h3, r⟩
local macro_rules | `(tactic| walk_at "call builtin:len") => `(tactic| (k_here; k_dflt ((refine' call_len_dict ?lo (Heap.DictOf.keep (by assumption) (Fr.keep (by k_asm))) ?f ?_; (case lo => assumption); (case f => omega)))))
local macro_rules | `(tactic| walk_at "eval Call Attribute") => `(tactic| (k_here; k_dflt ((refine' wpAny_Call_items ?lo (Heap.DictOf.keep (by assumption) (Fr.keep (by k_asm))) rfl rfl ?ho ?_; (case lo => assumption); (case ho => exact fun _ h => ld (by k_asm) rfl h)))))
theorem write_stringmap {w : World} {base : Heap} {outer : List Env} {s : Shared} {R : Result → Shared → Prop} {f d b o : Addr} {h1 h2 : Int} {t1 t2 tp : Tok} {buf : Array UInt8} {kvs : List (Str × Value)} {os : List (Str × Option Str)}
    (C : At w (Ar 840 4400 outer) base outer (hideAll s.heap [f, d, b]))
    (H : ∀ p ∈ bioObjs f d b h1 h2 t1 t2 tp buf, s.heap.get? p.1 = some p.2) (hne : @Ne Nat f d ∧ @Ne Nat f b ∧ @Ne Nat d b) (hz : buf.size ≤ 90000) (hm : (hideAll s.heap [f, d, b]).DictOf (PySem.strKind PySem.Challenge.rw_fq5006_01.row.prog w) o kvs) (lo : (o == sysModules) = false) (hO : Opts kvs os) (h3 : os.length ≤ 5)
    (hR : none ∉ flat os → ∀ r h' tk tp', (hideAll s.heap [f, d, b]).StaysIn h' → (∀ p ∈ bioObjs f d b h1 h2 t1 t2 tp' (lay (buf ++ #[0, os.length.toUInt8]) (flat os)), h'.get? p.1 = some p.2) → R (.ok (.ret r)) { s with heap := h', toks := tk })
    (hE : none ∈ flat os → ∀ e h' tk tp', RaisedN base outer e (.type "TypeError") (bioObjs f d b h1 h2 t1 t2 tp' (lay (buf ++ #[0, os.length.toUInt8]) (flat os))) h' → (hideAll s.heap [f, d, b]).UpToSlots h' → R (.error (.ref e)) { s with heap := h', toks := tk }) :
    codeF (model PySem.Challenge.rw_fq5006_01.row.prog w) (Ar 840 4400 outer) (.call (.ref 209) ⟨[.ref f, .ref o], []⟩) R s := by
  w_top off
  (have hK := C.X; revert hK; k_fill; intro hK)
  k_dflt (refine' enterF (binds := [(Str.ofString "f", .ref f), (Str.ofString "strmap", .ref o)]) (news := bioObjs f d b h1 h2 t1 t2 tp buf) C ?k2 ?k6 ?k7 ?k8 ?k9 ?kB ?c2 ?c3 ?c4 ?c5 ?_; walk_at "m_ent")
  · exact H
  intro g L' h₁ mean mg mb hg F N B X T
  have hmg : g.DictOf (PySem.strKind PySem.Challenge.rw_fq5006_01.row.prog w) o kvs := by rw [hg]; exact hm
  clear H hm
  (try dsimp only)
  have hlen := hO.length
  with_reducible show wpF _ _ _ _ _ _
  k_steps
  rename Fr _ _ _ _ => F0
  rename News _ _ _ _ => N0
  rename_i hh tkk tP hS0 _
  rw [← hlen] at hR hE
  obtain ⟨l1, l2, l3⟩ := bio_lt N0
  have hI0 := next_is_new F0
  have hIL := F0.ns.lt
  obtain ⟨ep, hma⟩ := dictAt_of hmg
  have hoI := (hma.at fun x e => F0.keep o x e).lt_size
  have hma0 := hma.at fun x e => F0.keep o x e
  refine wpAny_pyIter_items (knd := PySem.strKind PySem.Challenge.rw_fq5006_01.row.prog w) (d := o) (kvs := kvs) (ep := ep) ⟨_, Heap.get?_push_size _ rfl, rfl, rfl⟩ (hma0.push _) ?_
  dsimp only
  have hI : (hh.push { cls := Value.type "dict_items", data := Data.fields #[Value.ref o] }).objs.size = hh.objs.size + 1 := Heap.size_push ..
  have hI1 : g.get? (hh.objs.size + 1) = none := Heap.get?_none_of_le (Nat.le_succ_of_le (Nat.le_of_lt (Nat.lt_of_le_of_lt F0.above F0.ns.lt)))
  have hII : ((hh.push { cls := Value.type "dict_items", data := Data.fields #[Value.ref o] }).push (iiObj o 0 kvs.length ep .none .none)).get? (hh.objs.size + 1) = some (iiObj o 0 kvs.length ep .none .none) := by rw [← hI]; exact Heap.get?_push_size _ rfl
  rw [hI]
  have n1 : f ≠ hh.objs.size + 1 := Nat.ne_of_lt (Nat.lt_succ_of_lt l1)
  have n2 : d ≠ hh.objs.size + 1 := Nat.ne_of_lt (Nat.lt_succ_of_lt l2)
  have n3 : b ≠ hh.objs.size + 1 := Nat.ne_of_lt (Nat.lt_succ_of_lt l3)
  have n4 : L' ≠ hh.objs.size + 1 := Nat.ne_of_lt (Nat.lt_succ_of_lt hIL)
  have n5 : o ≠ hh.objs.size + 1 := Nat.ne_of_lt (Nat.lt_succ_of_lt hoI)
  have n6 : o ≠ L' := fun e => by
    obtain ⟨ob, _, hob, _⟩ := hma
    exact absurd (Heap.lt_size hob) (Nat.not_lt.mpr (e ▸ F0.above))
  generalize hh.objs.size + 1 = I at n1 n2 n3 n4 n5 hI1 hII ⊢
  refine codeF_forItems (knd := PySem.strKind PySem.Challenge.rw_fq5006_01.row.prog w) (d := o) (kvs := kvs) (ep := ep) rfl rfl rfl rfl (Ne.symm n4) n6 n5 (fun i s' => ∃ (h' : Heap) (tk' : Nat) (tp' : Tok) (bf : Array UInt8) (m : Str → Option Value) (ok ov : Value), s' = { s with heap := h', toks := tk' } ∧ Fr g L' h' (fun y => if y = Str.ofString "f" then some (.ref f) else m y) ∧ News g L' h' (bioObjs f d b h1 h2 t1 t2 tp' bf) ∧
    News g L' h' [(I, iiObj o i kvs.length ep ok ov)] ∧ lay bf (flat (os.drop i)) = lay (buf ++ #[0, kvs.length.toUInt8]) (flat os) ∧ none ∉ flat (os.take i) ∧ bf.size ≤ 91000 + 40 * i) ?hSt ?turn ?done ?h
  case hSt =>
    rintro i s' ⟨h', tk', tp', bf, m, ok, ov, rfl, F1, N1, NI, _⟩
    exact ⟨⟨ok, ov, (NI (I, _) (.head _)).1⟩, hma.at fun x e => F1.keep o x e, _, F1.ns⟩
  case h =>
    refine ⟨_, _, tP, _, _, .none, .none, rfl, (fr_fact ((F0.push _).push _) (x := Str.ofString "f") (v := some (.ref f)) rfl), (N0.grown fun _ _ e => Heap.get?_push_of_some _ e).grown fun _ _ e => Heap.get?_push_of_some _ e, ?_, rfl, by simp [flat], by simp; omega⟩
    intro p hp
    rw [List.mem_singleton.mp hp]
    exact ⟨hII, Ne.symm n4, hI1⟩
  case done =>
    rintro s' h3 tk3 ⟨h', tk', tp', bf, m, ok, ov, rfl, F1, N1, NI, hL, hT, _⟩ hk
    rw [hlen] at hL hT
    rw [List.take_length] at hT
    rw [List.drop_length] at hL
    have hk' : ∀ b o, b ∉ [I] → h'.get? b = some o → h3.get? b = some o := fun b o hb e => hk b o (by simpa using hb) e
    have F2 := LCg.fr_but F1 hk' n4 hI1
    have N2 := LCg.news_but N1 hk' (bio_ne n1 n2 n3)
    rw [← hlen] at hL
    have hL' : bf = lay (buf ++ #[0, kvs.length.toUInt8]) (flat os) := hL
    subst hL'
    dsimp only
    refine wpF_execs_nil ?_
    exact hR hT _ _ _ _ (stays_hide hg F2) (bio_at N2)
  case turn =>
    rintro i k v key s' h3 tk3 m3 hkv hkey ⟨h', tk', tp', bf, m, ok, ov, rfl, F1, N1, NI, hL, hT, hB⟩ hm3 hns ⟨ok', ov', hit⟩ hk
    obtain ⟨hkt, o', ho, hio⟩ := hO.at hkv
    obtain ⟨tk, rfl⟩ := Value.isStrOf_shape hkey
    obtain rfl : m3 = fun y => if y = Str.ofString "f" then some (.ref f) else m y := hm3.eq_nsMap.trans F1.ns.eq_nsMap.symm
    have F3 : Fr g L' h3 (fun y => if y = Str.ofString "v" then some v else if y = Str.ofString "k" then some (.str k tk) else if y = Str.ofString "f" then some (.ref f) else m y) := by
      exact ⟨hns, fun b o e => hk b o (fun q => absurd (Heap.lt_size e) (Nat.not_lt.mpr (q ▸ F1.above))) (fun q => by rw [q, hI1] at e; cases e) (F1.keep b o e), F1.above⟩
    have N3 : News g L' h3 (bioObjs f d b h1 h2 t1 t2 tp' bf) := fun p hp => ⟨hk _ _ (N1 p hp).2.1 (bio_ne n1 n2 n3 p hp) (N1 p hp).1, (N1 p hp).2⟩
    have NK : News g L' h3 [(I, iiObj o (i + 1) kvs.length ep ok' ov')] := fun p hp => by
      rw [List.mem_singleton.mp hp]; exact ⟨hit, Ne.symm n4, hI1⟩
    clear F1 N1 NI F0 N0 hk hns hm3 hit
    dsimp only
    have off := bio_off N3
    have hu := u8_texts k hkt
    have hi5 : i < 5 := by have := (List.getElem?_eq_some_iff.mp hkv).1; omega
    k_steps
    k_dflt (refine' wpF_call (codeF_leA (write_string (siteX B X T F3 off) (bio_at N3) hne ?hz hkt (.inl ⟨_, rfl⟩) ?_) (Nat.le_of_ble_eq_true rfl) (Nat.le_of_ble_eq_true rfl)))
    case hz => omega
    intro r h5 tk5 tp5 hk5 hP5
    have F5 := fr_after F3 off hk5
    have N5 := bio_news N3 hP5
    have NI5 := news_after NK hk5 (fun p hp => by rw [List.mem_singleton.mp hp]; simp [Ne.symm n1, Ne.symm n2, Ne.symm n3])
    clear F3 N3 NK off
    dsimp only
    have off := bio_off N5
    rw [flat_at ho] at hL
    cases o' with
    | some x =>
      obtain ⟨hx, hth⟩ := hio
      have hux := u8_texts x hx
      k_steps
      k_dflt (refine' wpF_call (codeF_leA (write_string (siteX B X T F5 off) (bio_at N5) hne ?hz hx hth ?_) (Nat.le_of_ble_eq_true rfl) (Nat.le_of_ble_eq_true rfl)))
      case hz => simp only [Array.size_append, List.size_toArray, List.length_cons, List.length_nil]; omega
      intro r h6 tk6 tp6 hk6 hP6
      have F6 := fr_after F5 off hk6
      have N6 := bio_news N5 hP6
      have NI6 := news_after NI5 hk6 (fun p hp => by rw [List.mem_singleton.mp hp]; simp [Ne.symm n1, Ne.symm n2, Ne.symm n3])
      dsimp only
      refine wpF_execs_nil ?_
      refine ⟨h6, tk6, tp6, _, _, _, _, rfl, fr_fact F6 (x := Str.ofString "f") (v := some (.ref f)) rfl, N6, NI6, ?_, ?_, ?_⟩
      · rw [← hL]; rfl
      · rw [take_at ho, flat_app]; simp [hT, flat]
      · simp only [Array.size_append, List.size_toArray, List.length_cons, List.length_nil]; omega
    | none =>
      k_steps
      k_dflt (refine' wpF_call (codeF_leA (write_stringR (siteX B X T F5 off) (bio_at N5) hio ?_) (Nat.le_of_ble_eq_true rfl) (Nat.le_of_ble_eq_true rfl)))
      intro e h6 tk6 hR6 hU6
      dsimp only
      refine' raise_out (outer := outer) (L := L') ?h1 ?h2 ?hR ?_
      case h1 => exact rfl
      case h2 => exact rfl
      case hR => exact hR6
      intro h7 hR7 hU7
      have hL' : (bf ++ #[0, (u8 k).size.toUInt8] ++ u8 k) = lay (buf ++ #[0, kvs.length.toUInt8]) (flat os) := hL
      rw [hL'] at hR7
      refine hE (none_flat ho) e h7 _ _ hR7 (up_hide hg ?_)
      exact ((Heap.UpToSlots.of_keeps (fr_hide F5 off).keep).trans hU6).trans hU7
end
section

theorem two_off {f d b x y : Addr} {o1 o2 : Obj} (h : (@Ne Nat x f ∧ @Ne Nat x d ∧ @Ne Nat x b) ∧ (@Ne Nat y f ∧ @Ne Nat y d ∧ @Ne Nat y b)) : ∀ p ∈ [(x, o1), (y, o2)], p.1 ∉ [f, d, b] := fun p hp hm => by
  obtain ⟨⟨a1, a2, a3⟩, a4, a5, a6⟩ := h
  simp only [List.mem_cons, List.not_mem_nil, or_false] at hp hm
  rcases hp with rfl | rfl
  · rcases hm with hm | hm | hm
    · exact a1 hm
    · exact a2 hm
    · exact a3 hm
  · rcases hm with hm | hm | hm
    · exact a4 hm
    · exact a5 hm
    · exact a6 hm
theorem news_left {g h : Heap} {L : Addr} {n1 n2 : List (Addr × Obj)} (N : News g L h (n1 ++ n2)) : News g L h n1 := fun p hp => N p (List.mem_append_left _ hp)
theorem news_right {g h : Heap} {L : Addr} {n1 n2 : List (Addr × Obj)} (N : News g L h (n1 ++ n2)) : News g L h n2 := fun p hp => N p (List.mem_append_right _ hp)
theorem news_both {g h : Heap} {L : Addr} {n1 n2 : List (Addr × Obj)} (N : News g L h n1) (N2 : News g L h n2) : News g L h (n1 ++ n2) := fun p hp => by
  rcases List.mem_append.mp hp with hp | hp
  · exact N p hp
  · exact N2 p hp
theorem auth_sendS {w : World} {base : Heap} {outer : List Env} {s : Shared} {R : Result → Shared → Prop} {f d b ms dm : Addr} {h1 h2 : Int} {t1 t2 tp : Tok} {buf : Array UInt8} {ha : Int} {ta : Tok} {vv : Value} {x : Str} {t : Tok}
    (C : At w (Ar 830 4300 outer) base outer (hideAll s.heap [f, d, b, ms, dm]))
    (H : ∀ p ∈ bioObjs f d b h1 h2 t1 t2 tp buf ++ [(ms, instObj 120 dm), (dm, dictOf [⟨ha, .str (Str.ofString "response") ta, .str x t⟩] 1)], s.heap.get? p.1 = some p.2) (hne : @Ne Nat f d ∧ @Ne Nat f b ∧ @Ne Nat d b) (hmn : (@Ne Nat ms f ∧ @Ne Nat ms d ∧ @Ne Nat ms b) ∧ (@Ne Nat dm f ∧ @Ne Nat dm d ∧ @Ne Nat dm b)) (hz : buf.size ≤ 80000) (hx : x ∈ texts)
    (hR :  ∀ r h' tk tp', (hideAll s.heap [f, d, b, ms, dm]).StaysIn h' → (∀ p ∈ bioObjs f d b h1 h2 t1 t2 tp' (buf ++ #[0, 0, 0, (u8 x).size.toUInt8] ++ u8 x) ++ [(ms, instObj 120 dm), (dm, dictOf [⟨ha, .str (Str.ofString "response") ta, .str x t⟩] 1)], h'.get? p.1 = some p.2) → R (.ok (.ret r)) { s with heap := h', toks := tk })
    : codeF (model PySem.Challenge.rw_fq5006_01.row.prog w) (Ar 830 4300 outer) (.call (.ref 117) ⟨[.ref ms, .ref f, vv], []⟩) R s := by
  w_top off
  (have hK := C.X; revert hK; k_fill; intro hK)
  k_dflt (refine' enterF (binds := [(Str.ofString "self", .ref ms), (Str.ofString "f", .ref f), (Str.ofString "protocol_version", vv)]) (news := bioObjs f d b h1 h2 t1 t2 tp buf ++ [(ms, instObj 120 dm), (dm, dictOf [⟨ha, .str (Str.ofString "response") ta, .str x t⟩] 1)]) C ?k2 ?k6 ?k7 ?k8 ?k9 ?kB ?c2 ?c3 ?c4 ?c5 ?_; walk_at "m_ent")
  · exact H
  intro g L' h₁ mean mg mb hg F N B X T
  clear H
  (try dsimp only)
  have hmn' := hmn
  obtain ⟨⟨k1, k2, k3⟩, k4, k5, k6⟩ := hmn
  with_reducible show wpF _ _ _ _ _ _
  (try simp only [List.cons_append, List.nil_append] at N)
  k_steps
  rename Fr _ _ _ _ => F0
  rename News _ _ _ _ => N0
  have N1 := news_left (n1 := bioObjs f d b h1 h2 t1 t2 tp buf) N0
  have N2 := news_right (n1 := bioObjs f d b h1 h2 t1 t2 tp buf) N0
  have off := bio_off N1
  k_dflt (refine' wpF_call (codeF_leA (write_longstring (siteX B X T F0 off) (bio_at N1) hne ?hz hx ?hv ?_) (Nat.le_of_ble_eq_true rfl) (Nat.le_of_ble_eq_true rfl)))
  case hz => omega
  case hv => exact .inl ⟨_, rfl⟩
  intro r h5 tk5 tp5 hk5 hP5
  have F5 := fr_after F0 off hk5
  have N5 := news_both (bio_news N1 hP5) (news_after N2 hk5 (two_off hmn'))
  dsimp only
  refine wpF_execs_nil ?_
  exact hR _ _ _ _ (stays_hide hg F5) (fun p hp => (N5 p hp).1)
theorem auth_sendB {w : World} {base : Heap} {outer : List Env} {s : Shared} {R : Result → Shared → Prop} {f d b ms dm : Addr} {h1 h2 : Int} {t1 t2 tp : Tok} {buf : Array UInt8} {ha : Int} {ta : Tok} {vv : Value} {x : Str} {t : Tok}
    (C : At w (Ar 830 4300 outer) base outer (hideAll s.heap [f, d, b, ms, dm]))
    (H : ∀ p ∈ bioObjs f d b h1 h2 t1 t2 tp buf ++ [(ms, instObj 120 dm), (dm, dictOf [⟨ha, .str (Str.ofString "response") ta, .bytes (u8 x) t⟩] 1)], s.heap.get? p.1 = some p.2) (hne : @Ne Nat f d ∧ @Ne Nat f b ∧ @Ne Nat d b) (hmn : (@Ne Nat ms f ∧ @Ne Nat ms d ∧ @Ne Nat ms b) ∧ (@Ne Nat dm f ∧ @Ne Nat dm d ∧ @Ne Nat dm b)) (hz : buf.size ≤ 80000) (hx : x ∈ texts)
    (hR :  ∀ r h' tk tp', (hideAll s.heap [f, d, b, ms, dm]).StaysIn h' → (∀ p ∈ bioObjs f d b h1 h2 t1 t2 tp' (buf ++ #[0, 0, 0, (u8 x).size.toUInt8] ++ u8 x) ++ [(ms, instObj 120 dm), (dm, dictOf [⟨ha, .str (Str.ofString "response") ta, .bytes (u8 x) t⟩] 1)], h'.get? p.1 = some p.2) → R (.ok (.ret r)) { s with heap := h', toks := tk })
    : codeF (model PySem.Challenge.rw_fq5006_01.row.prog w) (Ar 830 4300 outer) (.call (.ref 117) ⟨[.ref ms, .ref f, vv], []⟩) R s := by
  (have hK := C.X; revert hK; k_fill; intro hK)
  k_dflt (refine' enterF (binds := [(Str.ofString "self", .ref ms), (Str.ofString "f", .ref f), (Str.ofString "protocol_version", vv)]) (news := bioObjs f d b h1 h2 t1 t2 tp buf ++ [(ms, instObj 120 dm), (dm, dictOf [⟨ha, .str (Str.ofString "response") ta, .bytes (u8 x) t⟩] 1)]) C ?k2 ?k6 ?k7 ?k8 ?k9 ?kB ?c2 ?c3 ?c4 ?c5 ?_; walk_at "m_ent")
  · exact H
  intro g L' h₁ mean mg mb hg F N B X T
  clear H
  (try dsimp only)
  have hmn' := hmn
  obtain ⟨⟨k1, k2, k3⟩, k4, k5, k6⟩ := hmn
  with_reducible show wpF _ _ _ _ _ _
  (try simp only [List.cons_append, List.nil_append] at N)
  k_steps
  rename Fr _ _ _ _ => F0
  rename News _ _ _ _ => N0
  have N1 := news_left (n1 := bioObjs f d b h1 h2 t1 t2 tp buf) N0
  have N2 := news_right (n1 := bioObjs f d b h1 h2 t1 t2 tp buf) N0
  have off := bio_off N1
  k_dflt (refine' wpF_call (codeF_leA (write_longstring (siteX B X T F0 off) (bio_at N1) hne ?hz hx ?hv ?_) (Nat.le_of_ble_eq_true rfl) (Nat.le_of_ble_eq_true rfl)))
  case hz => omega
  case hv => exact .inr ⟨_, rfl⟩
  intro r h5 tk5 tp5 hk5 hP5
  have F5 := fr_after F0 off hk5
  have N5 := news_both (bio_news N1 hP5) (news_after N2 hk5 (two_off hmn'))
  dsimp only
  refine wpF_execs_nil ?_
  exact hR _ _ _ _ (stays_hide hg F5) (fun p hp => (N5 p hp).1)
theorem reg_send {w : World} {base : Heap} {outer : List Env} {s : Shared} {R : Result → Shared → Prop} {f d b ms dm : Addr} {h1 h2 : Int} {t1 t2 tp : Tok} {buf : Array UInt8} {ha : Int} {ta : Tok} {vv : Value} {el : Addr} {vs : List Value} {os : List (Option Str)}
    (C : At w (Ar 830 4300 outer) base outer (hideAll s.heap [f, d, b, ms, dm]))
    (H : ∀ p ∈ bioObjs f d b h1 h2 t1 t2 tp buf ++ [(ms, instObj 165 dm), (dm, dictOf [⟨ha, .str (Str.ofString "event_list") ta, .ref el⟩] 1)], s.heap.get? p.1 = some p.2) (hne : @Ne Nat f d ∧ @Ne Nat f b ∧ @Ne Nat d b) (hmn : (@Ne Nat ms f ∧ @Ne Nat ms d ∧ @Ne Nat ms b) ∧ (@Ne Nat dm f ∧ @Ne Nat dm d ∧ @Ne Nat dm b)) (hz : buf.size ≤ 80000) (hl : (hideAll s.heap [f, d, b, ms, dm]).IsList el vs.toArray) (hI : Items vs os) (h3 : os.length ≤ 4)
    (hR : none ∉ os → ∀ r h' tk tp', (hideAll s.heap [f, d, b, ms, dm]).StaysIn h' → (∀ p ∈ bioObjs f d b h1 h2 t1 t2 tp' (lay (buf ++ #[0, os.length.toUInt8]) os) ++ [(ms, instObj 165 dm), (dm, dictOf [⟨ha, .str (Str.ofString "event_list") ta, .ref el⟩] 1)], h'.get? p.1 = some p.2) → R (.ok (.ret r)) { s with heap := h', toks := tk })
    (hE : none ∈ os → ∀ e h' tk tp', RaisedN base outer e (.type "TypeError") (bioObjs f d b h1 h2 t1 t2 tp' (lay (buf ++ #[0, os.length.toUInt8]) os) ++ [(ms, instObj 165 dm), (dm, dictOf [⟨ha, .str (Str.ofString "event_list") ta, .ref el⟩] 1)]) h' → (hideAll s.heap [f, d, b, ms, dm]).UpToSlots h' → R (.error (.ref e)) { s with heap := h', toks := tk })
    : codeF (model PySem.Challenge.rw_fq5006_01.row.prog w) (Ar 830 4300 outer) (.call (.ref 162) ⟨[.ref ms, .ref f, vv], []⟩) R s := by
  (have hK := C.X; revert hK; k_fill; intro hK)
  k_dflt (refine' enterF (binds := [(Str.ofString "self", .ref ms), (Str.ofString "f", .ref f), (Str.ofString "protocol_version", vv)]) (news := bioObjs f d b h1 h2 t1 t2 tp buf ++ [(ms, instObj 165 dm), (dm, dictOf [⟨ha, .str (Str.ofString "event_list") ta, .ref el⟩] 1)]) C ?k2 ?k6 ?k7 ?k8 ?k9 ?kB ?c2 ?c3 ?c4 ?c5 ?_; walk_at "m_ent")
  · exact H
  intro g L' h₁ mean mg mb hg F N B X T
  have hlg : g.IsList el vs.toArray := by rw [hg]; exact hl
  clear H hl
  (try dsimp only)
  have hmn' := hmn
  obtain ⟨⟨k1, k2, k3⟩, k4, k5, k6⟩ := hmn
  with_reducible show wpF _ _ _ _ _ _
  (try simp only [List.cons_append, List.nil_append] at N)
  k_steps
  rename Fr _ _ _ _ => F0
  rename News _ _ _ _ => N0
  have N1 := news_left (n1 := bioObjs f d b h1 h2 t1 t2 tp buf) N0
  have N2 := news_right (n1 := bioObjs f d b h1 h2 t1 t2 tp buf) N0
  have off := bio_off N1
  k_dflt (refine' callBig 840 4400 B X T F0 off ?hf ?hk ?_)
  case hf => exact rfl
  case hk => exact rfl
  intro base' CB hb1 hb2 hb3
  k_dflt (refine' wpF_call (codeF_leA (write_stringlist CB (bio_at N1) hne ?hz ?hl hI h3 ?_ ?_) (Nat.le_of_ble_eq_true rfl) (Nat.le_of_ble_eq_true rfl)))
  case hz => omega
  case hl => exact hlg.at fun o e => (fr_hide F0 off).keep el o e
  · intro hno
    intro r h5 tk5 tp5 hk5 hP5
    have F5 := fr_after F0 off hk5
    have N5 := news_both (bio_news N1 hP5) (news_after N2 hk5 (two_off hmn'))
    dsimp only
    refine wpF_execs_nil ?_
    exact hR hno _ _ _ _ (stays_hide hg F5) (fun p hp => (N5 p hp).1)
  · intro hno e h5 tk5 tp5 hR5 hU5
    dsimp only
    have Nf := news_noframe B N2
    have hR6 := raised_more (n2 := [(ms, instObj 165 dm), (dm, dictOf [⟨ha, .str (Str.ofString "event_list") ta, .ref el⟩] 1)]) hR5 hb1 (fun p hp => ⟨hb3 _ _ (N2 p hp).1 (two_off hmn' p hp) (N2 p hp).2.1 (Nf p hp), fresh_of_stays B.stays (N2 p hp).2.2⟩)
    refine leave_onN B (fr_hide F0 off) hR6 hU5 fun h7 hR7 hU7 => ?_
    exact hE hno e h7 _ _ hR7 (up_hide hg hU7)
end
section

def cqlV : Str := Str.ofString "CQL_VERSION"
def setO (os : List (Str × Option Str)) (k : Str) (x : Option Str) : List (Str × Option Str) :=
  if os.any (fun p => p.1 = k) then os.map (fun p => if p.1 = k then (p.1, x) else p) else os ++ [(k, x)]
theorem opts_any {kvs : List (Str × Value)} {os : List (Str × Option Str)} (k : Str) (h : Opts kvs os) : kvs.any (fun p => p.1 = k) = os.any (fun p => p.1 = k) := by
  induction h with
  | nil => rfl
  | cons _ _ _ ih => simp only [List.any_cons, ih]
theorem opts_map {kvs : List (Str × Value)} {os : List (Str × Option Str)} {k : Str} {v : Value} {x : Option Str} (h : Opts kvs os) (hv : Item v x) :
    Opts (kvs.map (fun p => if p.1 = k then (p.1, v) else p)) (os.map (fun p => if p.1 = k then (p.1, x) else p)) := by
  induction h with
  | nil => exact .nil
  | @cons k' v' o' kvs os hk hv' _ ih =>
    simp only [List.map_cons]
    by_cases e : k' = k
    · rw [if_pos e, if_pos e]; exact .cons hk hv ih
    · rw [if_neg e, if_neg e]; exact .cons hk hv' ih
theorem opts_snoc {kvs : List (Str × Value)} {os : List (Str × Option Str)} {k : Str} {v : Value} {x : Option Str} (h : Opts kvs os) (hk : k ∈ texts) (hv : Item v x) : Opts (kvs ++ [(k, v)]) (os ++ [(k, x)]) := by
  induction h with
  | nil => exact .cons hk hv .nil
  | cons hk' hv' _ ih => exact .cons hk' hv' ih
theorem opts_set {kvs : List (Str × Value)} {os : List (Str × Option Str)} {k : Str} {v : Value} {x : Option Str} (h : Opts kvs os) (hk : k ∈ texts) (hv : Item v x) : Opts (stored kvs k v) (setO os k x) := by
  unfold stored setO
  rw [opts_any k h]
  by_cases e : os.any (fun p => p.1 = k) = true
  · rw [if_pos e, if_pos e]; exact opts_map h hv
  · rw [if_neg e, if_neg e]; exact opts_snoc h hk hv
theorem setO_len (os : List (Str × Option Str)) (k : Str) (x : Option Str) : (setO os k x).length ≤ os.length + 1 := by
  unfold setO
  split
  · simp
  · simp
section
variable {prog : Program} {w : World} {A : Around} {E : Value → Shared → Prop} {s : Shared} {g : Heap} {L o : Addr} {m : Str → Option Value} {news : List (Addr × Obj)} {kvs : List (Str × Value)}
theorem copy_K {Q : Value → Shared → Prop} (F : Fr g L s.heap m) (N : News g L s.heap news) (hb : g.NoLimit) (hm : g.DictOf (PySem.strKind prog w) o kvs) (lo : (o == sysModules) = false) (hsz : kvs.length ≤ sizeLine)
    (h : ∀ c oc h', Fr g L h' m → News g L h' ((c, oc) :: news) → (∀ p ∈ news, p.1 < c) → (c == sysModules) = false → oc.IsDictOf (PySem.strKind prog w) kvs → Q (.ref c) { s with heap := h' }) : wpAny (model prog w) A (call (.builtin "dict.copy") [.ref o]) Q E s := by
  have hD : s.heap.DictOf (PySem.strKind prog w) o kvs := hm.keep F.keep
  refine call_meetsIn PySem.F.slot_dict_copy hD.typeIs PySem.F.entry_dict_copy (PySem.F.args_dict_copy_1 _) (meets_dict_copy (PySem.strKind prog w) o lo) ⟨kvs, hD, hsz, fun h' h1 _ hk => ?_⟩
  obtain ⟨oc, hoc, hd⟩ := Heap.dictOf_iff.mp h1
  exact h _ oc h' (F.keeps hk) (news_new' F (N.grown hk) hoc (Heap.get?_none_of_le (Nat.le_refl _))) (fun p hp => Heap.lt_size (N p hp).1) (F.notModules (modules_low hb)) hd
theorem copyM_K {pl : Sem Bool} {Q : Value × List Value → Shared → Prop} (F : Fr g L s.heap m) (hm : g.DictOf (PySem.strKind prog w) o kvs) (h : Q (.builtin "dict.copy", [.ref o]) s) : wpAny (model prog w) A (getMethod (.ref o) "copy" pl) Q E s :=
  have hD : s.heap.DictOf (PySem.strKind prog w) o kvs := hm.keep F.keep
  getMethod_builtin hD.typeIs PySem.F.plainAttrs_dict PySem.F.slot_dict_copy PySem.F.type_dict_copy hD.mapOf.noDict h
end
local macro_rules | `(tactic| walk_at "getMethod ref") => `(tactic| (k_here; k_dflt (refine' copyM_K ?F ?m ?_; (case F => k_asm); (case m => with_reducible assumption))))
local macro_rules | `(tactic| walk_at "call builtin:dict.copy") => `(tactic| (k_here; k_dflt ((refine' copy_K ?F ?N ?b ?m ?lo ?z ?_; (case F => k_asm); (case N => k_asm); (case b => exact Top.nolimit (by k_asm)); (case m => with_reducible assumption); (case lo => with_reducible assumption); (case z => rw [sizeLine_eq]; omega)); intro c oc h' F' N' l1 lo' hd'; k_lt l1; k_sweep)))
local macro_rules | `(tactic| walk_at "setItem ref str") => `(tactic| (k_here; k_dflt ((refine' kda_set (knd := PySem.strKind _ _) ?F ?N ?U ?hd (strKind_is _ _ _ _) ?z ?_; (case F => with_reducible assumption); (case N => with_reducible assumption); (case U => k_updF); (case hd => with_reducible assumption); (case z => rw [sizeLine_eq]; omega)); intro h8 oc2 F8 N8 hd8; (try dsimp only [List.nil_append, List.cons_append] at N8); k_sweep; (try dsimp only))))
theorem start_send {w : World} {base : Heap} {outer : List Env} {s : Shared} {R : Result → Shared → Prop} {f d b ms dm : Addr} {h1 h2 : Int} {t1 t2 tp : Tok} {buf : Array UInt8} {ha : Int} {ta : Tok} {vv : Value} {ver : Str} {tv ta2 : Tok} {ha2 : Int} {od : Addr} {kvs : List (Str × Value)} {os : List (Str × Option Str)}
    (C : At w (Ar 830 4300 outer) base outer (hideAll s.heap [f, d, b, ms, dm]))
    (H : ∀ p ∈ bioObjs f d b h1 h2 t1 t2 tp buf ++ [(ms, instObj 94 dm), (dm, dictOf [⟨ha, .str (Str.ofString "cqlversion") ta, .str ver tv⟩, ⟨ha2, .str (Str.ofString "options") ta2, .ref od⟩] 2)], s.heap.get? p.1 = some p.2) (hne : @Ne Nat f d ∧ @Ne Nat f b ∧ @Ne Nat d b) (hmn : (@Ne Nat ms f ∧ @Ne Nat ms d ∧ @Ne Nat ms b) ∧ (@Ne Nat dm f ∧ @Ne Nat dm d ∧ @Ne Nat dm b)) (hz : buf.size ≤ 80000) (hv : ver ∈ texts) (hm : (hideAll s.heap [f, d, b, ms, dm]).DictOf (PySem.strKind PySem.Challenge.rw_fq5006_01.row.prog w) od kvs) (lo : (od == sysModules) = false) (hO : Opts kvs os) (h3 : os.length ≤ 4)
    (hR : none ∉ flat (setO os cqlV (some ver)) → ∀ r h' tk tp', (hideAll s.heap [f, d, b, ms, dm]).StaysIn h' → (∀ p ∈ bioObjs f d b h1 h2 t1 t2 tp' (lay (buf ++ #[0, (setO os cqlV (some ver)).length.toUInt8]) (flat (setO os cqlV (some ver)))) ++ [(ms, instObj 94 dm), (dm, dictOf [⟨ha, .str (Str.ofString "cqlversion") ta, .str ver tv⟩, ⟨ha2, .str (Str.ofString "options") ta2, .ref od⟩] 2)], h'.get? p.1 = some p.2) → R (.ok (.ret r)) { s with heap := h', toks := tk })
    (hE : none ∈ flat (setO os cqlV (some ver)) → ∀ e h' tk tp', RaisedN base outer e (.type "TypeError") (bioObjs f d b h1 h2 t1 t2 tp' (lay (buf ++ #[0, (setO os cqlV (some ver)).length.toUInt8]) (flat (setO os cqlV (some ver)))) ++ [(ms, instObj 94 dm), (dm, dictOf [⟨ha, .str (Str.ofString "cqlversion") ta, .str ver tv⟩, ⟨ha2, .str (Str.ofString "options") ta2, .ref od⟩] 2)]) h' → (hideAll s.heap [f, d, b, ms, dm]).UpToSlots h' → R (.error (.ref e)) { s with heap := h', toks := tk })
    : codeF (model PySem.Challenge.rw_fq5006_01.row.prog w) (Ar 830 4300 outer) (.call (.ref 91) ⟨[.ref ms, .ref f, vv], []⟩) R s := by
  w_top off
  (have hK := C.X; revert hK; k_fill; intro hK)
  k_dflt (refine' enterF (binds := [(Str.ofString "self", .ref ms), (Str.ofString "f", .ref f), (Str.ofString "protocol_version", vv)]) (news := bioObjs f d b h1 h2 t1 t2 tp buf ++ [(ms, instObj 94 dm), (dm, dictOf [⟨ha, .str (Str.ofString "cqlversion") ta, .str ver tv⟩, ⟨ha2, .str (Str.ofString "options") ta2, .ref od⟩] 2)]) C ?k2 ?k6 ?k7 ?k8 ?k9 ?kB ?c2 ?c3 ?c4 ?c5 ?_; walk_at "m_ent")
  · exact H
  intro g L' h₁ mean mg mb hg F N B X T
  have hmg : g.DictOf (PySem.strKind PySem.Challenge.rw_fq5006_01.row.prog w) od kvs := by rw [hg]; exact hm
  have hlen := hO.length
  have hk4 : kvs.length ≤ 4 := by omega
  clear H hm
  (try dsimp only)
  have hmn' := hmn
  obtain ⟨⟨k1, k2, k3⟩, k4, k5, k6⟩ := hmn
  with_reducible show wpF _ _ _ _ _ _
  (try simp only [List.cons_append, List.nil_append] at N)
  k_steps
  rename Fr _ _ _ _ => F0
  rename News _ _ _ _ => N0
  rename Obj.IsDictOf _ _ _ => hd9
  rename (_ == sysModules) = false => lc
  rename _ < _ ∧ _ => l1
  obtain ⟨m1, m2, m3, _, _⟩ := l1
  have Nt : News g L' _ (bioObjs f d b h1 h2 t1 t2 tp buf ++ [(ms, instObj 94 dm), (dm, dictOf [⟨ha, .str (Str.ofString "cqlversion") ta, .str ver tv⟩, ⟨ha2, .str (Str.ofString "options") ta2, .ref od⟩] 2)]) := fun p hp => N0 p (List.mem_cons_of_mem _ hp)
  have N1 := news_left (n1 := bioObjs f d b h1 h2 t1 t2 tp buf) Nt
  have N2 := news_right (n1 := bioObjs f d b h1 h2 t1 t2 tp buf) Nt
  have off := bio_off N1
  have Nc := (N0 _ List.mem_cons_self).1
  have hO' : Opts (stored kvs cqlV (.str ver tv)) (setO os cqlV (some ver)) := opts_set (x := some ver) hO (by decide +kernel) (show Item (.str ver tv) (some ver) from And.intro hv (Or.inl ⟨_, rfl⟩))
  have h3' : (setO os cqlV (some ver)).length ≤ 5 := Nat.le_trans (setO_len os cqlV (some ver)) (by omega)
  k_dflt (refine' callBig 840 4400 B X T F0 off ?hf ?hk ?_)
  case hf => exact rfl
  case hk => exact rfl
  intro base' CB hb1 hb2 hb3
  k_dflt (refine' wpF_call (codeF_leA (write_stringmap CB (bio_at N1) hne ?hz ?hm lc hO' h3' ?_ ?_) (Nat.le_of_ble_eq_true rfl) (Nat.le_of_ble_eq_true rfl)))
  case hz => omega
  case hm =>
    refine Heap.dictOf_iff.mpr ⟨_, hideAll_get _ Nc (fun hm => ?_), hd9⟩
    simp only [List.mem_cons, List.not_mem_nil, or_false] at hm
    rcases hm with hm | hm | hm
    · exact absurd m1 (Nat.not_lt.mpr (Nat.le_of_eq hm))
    · exact absurd m2 (Nat.not_lt.mpr (Nat.le_of_eq hm))
    · exact absurd m3 (Nat.not_lt.mpr (Nat.le_of_eq hm))
  · intro hno r h5 tk5 tp5 hk5 hP5
    have F5 := fr_after F0 off hk5
    have N5 := news_both (bio_news N1 hP5) (news_after N2 hk5 (two_off hmn'))
    dsimp only
    refine wpF_execs_nil ?_
    exact hR hno _ _ _ _ (stays_hide hg F5) (fun p hp => (N5 p hp).1)
  · intro hno e h5 tk5 tp5 hR5 hU5
    dsimp only
    have Nf := news_noframe B N2
    have hR6 := raised_more (n2 := [(ms, instObj 94 dm), (dm, dictOf [⟨ha, .str (Str.ofString "cqlversion") ta, .str ver tv⟩, ⟨ha2, .str (Str.ofString "options") ta2, .ref od⟩] 2)]) hR5 hb1 (fun p hp => ⟨hb3 _ _ (N2 p hp).1 (two_off hmn' p hp) (N2 p hp).2.1 (Nf p hp), fresh_of_stays B.stays (N2 p hp).2.2⟩)
    refine leave_onN B (fr_hide F0 off) hR6 hU5 fun h7 hR7 hU7 => ?_
    exact hE hno e h7 _ _ hR7 (up_hide hg hU7)
end
section
local macro_rules | `(tactic| walk_at "wpF") => `(tactic| (k_here; (with_reducible show wpF _ _ (execs (Stmt.If _ _ _ _ :: _) _) _ _ _); refine wpF_execs_cons (wpF_If ?_)))
local macro_rules | `(tactic| walk_at "getMethod ref") => `(tactic| (k_here; (with_reducible show wpAny _ _ (getMethod (Value.ref 94) _ _) _ _ _); k_dflt (refine' method_of_cls ?k1 ?k2 ?k3 ?_; (case k1 => k_asm); (case k2 => k_asm); (case k3 => k_is); k_whole)))
local macro_rules | `(tactic| walk_at "getMethod ref") => `(tactic| (k_here; (with_reducible show wpAny _ _ (getMethod (Value.ref 120) _ _) _ _ _); k_dflt (refine' method_of_cls ?k1 ?k2 ?k3 ?_; (case k1 => k_asm); (case k2 => k_asm); (case k3 => k_is); k_whole)))
local macro_rules | `(tactic| walk_at "getMethod ref") => `(tactic| (k_here; (with_reducible show wpAny _ _ (getMethod (Value.ref 139) _ _) _ _ _); k_dflt (refine' method_of_cls ?k1 ?k2 ?k3 ?_; (case k1 => k_asm); (case k2 => k_asm); (case k3 => k_is); k_whole)))
local macro_rules | `(tactic| walk_at "getMethod ref") => `(tactic| (k_here; (with_reducible show wpAny _ _ (getMethod (Value.ref 165) _ _) _ _ _); k_dflt (refine' method_of_cls ?k1 ?k2 ?k3 ?_; (case k1 => k_asm); (case k2 => k_asm); (case k3 => k_is); k_whole)))
local macro_rules | `(tactic| walk_at "getAttr ref") => `(tactic| (k_here; (with_reducible show wpAny _ _ (getAttr (Value.ref 94) _ _) _ _ _); k_dflt (refine' cls_val ?k1 ?k2 ?k3 ?k4 ?k5 ?k6 ?_; (case k1 => k_asm); (case k2 => k_asm); (case k3 => k_is); (case k4 => k_is); (case k5 => k_is); (case k6 => k_handed); k_whole)))
local macro_rules | `(tactic| walk_at "getAttr ref") => `(tactic| (k_here; (with_reducible show wpAny _ _ (getAttr (Value.ref 120) _ _) _ _ _); k_dflt (refine' cls_val ?k1 ?k2 ?k3 ?k4 ?k5 ?k6 ?_; (case k1 => k_asm); (case k2 => k_asm); (case k3 => k_is); (case k4 => k_is); (case k5 => k_is); (case k6 => k_handed); k_whole)))
local macro_rules | `(tactic| walk_at "getAttr ref") => `(tactic| (k_here; (with_reducible show wpAny _ _ (getAttr (Value.ref 139) _ _) _ _ _); k_dflt (refine' cls_val ?k1 ?k2 ?k3 ?k4 ?k5 ?k6 ?_; (case k1 => k_asm); (case k2 => k_asm); (case k3 => k_is); (case k4 => k_is); (case k5 => k_is); (case k6 => k_handed); k_whole)))
local macro_rules | `(tactic| walk_at "getAttr ref") => `(tactic| (k_here; (with_reducible show wpAny _ _ (getAttr (Value.ref 165) _ _) _ _ _); k_dflt (refine' cls_val ?k1 ?k2 ?k3 ?k4 ?k5 ?k6 ?_; (case k1 => k_asm); (case k2 => k_asm); (case k3 => k_is); (case k4 => k_is); (case k5 => k_is); (case k6 => k_handed); k_whole)))
theorem lay_reg {w : World} {base : Heap} {outer : List Env} {s : Shared} {R : Result → Shared → Prop} {f d b ms dm : Addr} {h1 h2 : Int} {t1 t2 tp tk0 tv0 : Tok} {vn : Int} {buf : Array UInt8} {ha : Int} {ta : Tok} {el : Addr} {vs : List Value} {os : List (Option Str)}
    (C : At w (Ar 820 4200 outer) base outer (hideAll s.heap [f, d, b, ms, dm]))
    (H : ∀ p ∈ bioObjs f d b h1 h2 t1 t2 tp buf ++ [(ms, instObj 165 dm), (dm, dictOf [⟨ha, .str (Str.ofString "event_list") ta, .ref el⟩] 1)], s.heap.get? p.1 = some p.2) (hne : @Ne Nat f d ∧ @Ne Nat f b ∧ @Ne Nat d b) (hmn : (@Ne Nat ms f ∧ @Ne Nat ms d ∧ @Ne Nat ms b) ∧ (@Ne Nat dm f ∧ @Ne Nat dm d ∧ @Ne Nat dm b)) (hz : buf.size ≤ 80000) (hl : (hideAll s.heap [f, d, b, ms, dm]).IsList el vs.toArray) (hI : Items vs os) (h3 : os.length ≤ 4)
    (hR : none ∉ os → ∀ r h' tk tp', (hideAll s.heap [f, d, b, ms, dm]).StaysIn h' → (∀ p ∈ bioObjs f d b h1 h2 t1 t2 tp' (lay (buf ++ #[0, os.length.toUInt8]) os) ++ [(ms, instObj 165 dm), (dm, dictOf [⟨ha, .str (Str.ofString "event_list") ta, .ref el⟩] 1)], h'.get? p.1 = some p.2) → R (.ok (.ret r)) { s with heap := h', toks := tk })
    (hE : none ∈ os → ∀ e h' tk tp', RaisedN base outer e (.type "TypeError") (bioObjs f d b h1 h2 t1 t2 tp' (lay (buf ++ #[0, os.length.toUInt8]) os) ++ [(ms, instObj 165 dm), (dm, dictOf [⟨ha, .str (Str.ofString "event_list") ta, .ref el⟩] 1)]) h' → (hideAll s.heap [f, d, b, ms, dm]).UpToSlots h' → R (.error (.ref e)) { s with heap := h', toks := tk })
    : codeF (model PySem.Challenge.rw_fq5006_01.row.prog w) (Ar 820 4200 outer) (.call (.ref 818) ⟨[.int 3 tk0, .ref ms, .ref f, .int vn tv0], []⟩) R s := by
  w_top off
  (have hK := C.X; revert hK; k_fill; intro hK)
  k_dflt (refine' enterF (binds := [(Str.ofString "kind", .int 3 tk0), (Str.ofString "message", .ref ms), (Str.ofString "f", .ref f), (Str.ofString "version", .int vn tv0)]) (news := bioObjs f d b h1 h2 t1 t2 tp buf ++ [(ms, instObj 165 dm), (dm, dictOf [⟨ha, .str (Str.ofString "event_list") ta, .ref el⟩] 1)]) C ?k2 ?k6 ?k7 ?k8 ?k9 ?kB ?c2 ?c3 ?c4 ?c5 ?_; walk_at "m_ent")
  · exact H
  intro g L' h₁ mean mg mb hg F N B X T
  have hlg : g.IsList el vs.toArray := by rw [hg]; exact hl
  clear H
  (try dsimp only)
  with_reducible show wpF _ _ _ _ _ _
  k_steps
  rename Fr _ _ _ _ => F0
  rename News _ _ _ _ => N0
  have off : Off g L' [f, d, b, ms, dm] := off_news N0 (fun x hx => by simpa using hx)
  k_dflt (refine' wpF_call (codeF_leA (reg_send (siteX B X T F0 off) (fun p hp => (N0 p hp).1) hne hmn ?hz (hlg.at fun o e => (fr_hide F0 off).keep el o e) hI h3 ?_ ?_) (Nat.le_of_ble_eq_true rfl) (Nat.le_of_ble_eq_true rfl)))
  case hz => omega
  · intro hno r h5 tk5 tp5 hk5 hP5
    have F5 := fr_after F0 off hk5
    have N5 : News g L' h5 (bioObjs f d b h1 h2 t1 t2 tp5 (lay (buf ++ #[0, os.length.toUInt8]) os) ++ [(ms, instObj 165 dm), (dm, dictOf [⟨ha, .str (Str.ofString "event_list") ta, .ref el⟩] 1)]) := news_both (bio_news (news_left N0) (fun p hp => hP5 p (List.mem_append_left _ hp))) (fun p hp => ⟨hP5 p (List.mem_append_right _ hp), (news_right (n1 := bioObjs f d b h1 h2 t1 t2 tp buf) N0 p hp).2⟩)
    (try dsimp only)
    k_steps
    exact hR hno _ _ _ _ (stays_hide hg F5) (fun p hp => (N5 p hp).1)
  · intro hno e h5 tk5 tp5 hR5 hU5
    (try dsimp only)
    refine leave_onN B (fr_hide F0 off) hR5 hU5 fun h7 hR7 hU7 => ?_
    exact hE hno e h7 _ _ hR7 (up_hide hg hU7)
theorem lay_authS {w : World} {base : Heap} {outer : List Env} {s : Shared} {R : Result → Shared → Prop} {f d b ms dm : Addr} {h1 h2 : Int} {t1 t2 tp tk0 tv0 : Tok} {vn : Int} {buf : Array UInt8} {ha : Int} {ta : Tok} {x : Str} {t : Tok}
    (C : At w (Ar 820 4200 outer) base outer (hideAll s.heap [f, d, b, ms, dm]))
    (H : ∀ p ∈ bioObjs f d b h1 h2 t1 t2 tp buf ++ [(ms, instObj 120 dm), (dm, dictOf [⟨ha, .str (Str.ofString "response") ta, .str x t⟩] 1)], s.heap.get? p.1 = some p.2) (hne : @Ne Nat f d ∧ @Ne Nat f b ∧ @Ne Nat d b) (hmn : (@Ne Nat ms f ∧ @Ne Nat ms d ∧ @Ne Nat ms b) ∧ (@Ne Nat dm f ∧ @Ne Nat dm d ∧ @Ne Nat dm b)) (hz : buf.size ≤ 80000) (hx : x ∈ texts)
    (hR :  ∀ r h' tk tp', (hideAll s.heap [f, d, b, ms, dm]).StaysIn h' → (∀ p ∈ bioObjs f d b h1 h2 t1 t2 tp' (buf ++ #[0, 0, 0, (u8 x).size.toUInt8] ++ u8 x) ++ [(ms, instObj 120 dm), (dm, dictOf [⟨ha, .str (Str.ofString "response") ta, .str x t⟩] 1)], h'.get? p.1 = some p.2) → R (.ok (.ret r)) { s with heap := h', toks := tk })
    : codeF (model PySem.Challenge.rw_fq5006_01.row.prog w) (Ar 820 4200 outer) (.call (.ref 818) ⟨[.int 2 tk0, .ref ms, .ref f, .int vn tv0], []⟩) R s := by
  (have hK := C.X; revert hK; k_fill; intro hK)
  k_dflt (refine' enterF (binds := [(Str.ofString "kind", .int 2 tk0), (Str.ofString "message", .ref ms), (Str.ofString "f", .ref f), (Str.ofString "version", .int vn tv0)]) (news := bioObjs f d b h1 h2 t1 t2 tp buf ++ [(ms, instObj 120 dm), (dm, dictOf [⟨ha, .str (Str.ofString "response") ta, .str x t⟩] 1)]) C ?k2 ?k6 ?k7 ?k8 ?k9 ?kB ?c2 ?c3 ?c4 ?c5 ?_; walk_at "m_ent")
  · exact H
  intro g L' h₁ mean mg mb hg F N B X T
  skip
  clear H
  (try dsimp only)
  with_reducible show wpF _ _ _ _ _ _
  k_steps
  rename Fr _ _ _ _ => F0
  rename News _ _ _ _ => N0
  have off : Off g L' [f, d, b, ms, dm] := off_news N0 (fun x hx => by simpa using hx)
  k_dflt (refine' wpF_call (codeF_leA (auth_sendS (siteX B X T F0 off) (fun p hp => (N0 p hp).1) hne hmn ?hz hx ?_) (Nat.le_of_ble_eq_true rfl) (Nat.le_of_ble_eq_true rfl)))
  case hz => omega
  · intro r h5 tk5 tp5 hk5 hP5
    have F5 := fr_after F0 off hk5
    have N5 : News g L' h5 (bioObjs f d b h1 h2 t1 t2 tp5 (buf ++ #[0, 0, 0, (u8 x).size.toUInt8] ++ u8 x) ++ [(ms, instObj 120 dm), (dm, dictOf [⟨ha, .str (Str.ofString "response") ta, .str x t⟩] 1)]) := news_both (bio_news (news_left N0) (fun p hp => hP5 p (List.mem_append_left _ hp))) (fun p hp => ⟨hP5 p (List.mem_append_right _ hp), (news_right (n1 := bioObjs f d b h1 h2 t1 t2 tp buf) N0 p hp).2⟩)
    (try dsimp only)
    k_steps
    exact hR _ _ _ _ (stays_hide hg F5) (fun p hp => (N5 p hp).1)
theorem lay_authB {w : World} {base : Heap} {outer : List Env} {s : Shared} {R : Result → Shared → Prop} {f d b ms dm : Addr} {h1 h2 : Int} {t1 t2 tp tk0 tv0 : Tok} {vn : Int} {buf : Array UInt8} {ha : Int} {ta : Tok} {x : Str} {t : Tok}
    (C : At w (Ar 820 4200 outer) base outer (hideAll s.heap [f, d, b, ms, dm]))
    (H : ∀ p ∈ bioObjs f d b h1 h2 t1 t2 tp buf ++ [(ms, instObj 120 dm), (dm, dictOf [⟨ha, .str (Str.ofString "response") ta, .bytes (u8 x) t⟩] 1)], s.heap.get? p.1 = some p.2) (hne : @Ne Nat f d ∧ @Ne Nat f b ∧ @Ne Nat d b) (hmn : (@Ne Nat ms f ∧ @Ne Nat ms d ∧ @Ne Nat ms b) ∧ (@Ne Nat dm f ∧ @Ne Nat dm d ∧ @Ne Nat dm b)) (hz : buf.size ≤ 80000) (hx : x ∈ texts)
    (hR :  ∀ r h' tk tp', (hideAll s.heap [f, d, b, ms, dm]).StaysIn h' → (∀ p ∈ bioObjs f d b h1 h2 t1 t2 tp' (buf ++ #[0, 0, 0, (u8 x).size.toUInt8] ++ u8 x) ++ [(ms, instObj 120 dm), (dm, dictOf [⟨ha, .str (Str.ofString "response") ta, .bytes (u8 x) t⟩] 1)], h'.get? p.1 = some p.2) → R (.ok (.ret r)) { s with heap := h', toks := tk })
    : codeF (model PySem.Challenge.rw_fq5006_01.row.prog w) (Ar 820 4200 outer) (.call (.ref 818) ⟨[.int 2 tk0, .ref ms, .ref f, .int vn tv0], []⟩) R s := by
  (have hK := C.X; revert hK; k_fill; intro hK)
  k_dflt (refine' enterF (binds := [(Str.ofString "kind", .int 2 tk0), (Str.ofString "message", .ref ms), (Str.ofString "f", .ref f), (Str.ofString "version", .int vn tv0)]) (news := bioObjs f d b h1 h2 t1 t2 tp buf ++ [(ms, instObj 120 dm), (dm, dictOf [⟨ha, .str (Str.ofString "response") ta, .bytes (u8 x) t⟩] 1)]) C ?k2 ?k6 ?k7 ?k8 ?k9 ?kB ?c2 ?c3 ?c4 ?c5 ?_; walk_at "m_ent")
  · exact H
  intro g L' h₁ mean mg mb hg F N B X T
  skip
  clear H
  (try dsimp only)
  with_reducible show wpF _ _ _ _ _ _
  k_steps
  rename Fr _ _ _ _ => F0
  rename News _ _ _ _ => N0
  have off : Off g L' [f, d, b, ms, dm] := off_news N0 (fun x hx => by simpa using hx)
  k_dflt (refine' wpF_call (codeF_leA (auth_sendB (siteX B X T F0 off) (fun p hp => (N0 p hp).1) hne hmn ?hz hx ?_) (Nat.le_of_ble_eq_true rfl) (Nat.le_of_ble_eq_true rfl)))
  case hz => omega
  · intro r h5 tk5 tp5 hk5 hP5
    have F5 := fr_after F0 off hk5
    have N5 : News g L' h5 (bioObjs f d b h1 h2 t1 t2 tp5 (buf ++ #[0, 0, 0, (u8 x).size.toUInt8] ++ u8 x) ++ [(ms, instObj 120 dm), (dm, dictOf [⟨ha, .str (Str.ofString "response") ta, .bytes (u8 x) t⟩] 1)]) := news_both (bio_news (news_left N0) (fun p hp => hP5 p (List.mem_append_left _ hp))) (fun p hp => ⟨hP5 p (List.mem_append_right _ hp), (news_right (n1 := bioObjs f d b h1 h2 t1 t2 tp buf) N0 p hp).2⟩)
    (try dsimp only)
    k_steps
    exact hR _ _ _ _ (stays_hide hg F5) (fun p hp => (N5 p hp).1)
theorem lay_start {w : World} {base : Heap} {outer : List Env} {s : Shared} {R : Result → Shared → Prop} {f d b ms dm : Addr} {h1 h2 : Int} {t1 t2 tp tk0 tv0 : Tok} {vn : Int} {buf : Array UInt8} {ha : Int} {ta : Tok} {ver : Str} {tv ta2 : Tok} {ha2 : Int} {od : Addr} {kvs : List (Str × Value)} {os : List (Str × Option Str)}
    (C : At w (Ar 820 4200 outer) base outer (hideAll s.heap [f, d, b, ms, dm]))
    (H : ∀ p ∈ bioObjs f d b h1 h2 t1 t2 tp buf ++ [(ms, instObj 94 dm), (dm, dictOf [⟨ha, .str (Str.ofString "cqlversion") ta, .str ver tv⟩, ⟨ha2, .str (Str.ofString "options") ta2, .ref od⟩] 2)], s.heap.get? p.1 = some p.2) (hne : @Ne Nat f d ∧ @Ne Nat f b ∧ @Ne Nat d b) (hmn : (@Ne Nat ms f ∧ @Ne Nat ms d ∧ @Ne Nat ms b) ∧ (@Ne Nat dm f ∧ @Ne Nat dm d ∧ @Ne Nat dm b)) (hz : buf.size ≤ 80000) (hv : ver ∈ texts) (hm : (hideAll s.heap [f, d, b, ms, dm]).DictOf (PySem.strKind PySem.Challenge.rw_fq5006_01.row.prog w) od kvs) (lo : (od == sysModules) = false) (hO : Opts kvs os) (h3 : os.length ≤ 4)
    (hR : none ∉ flat (setO os cqlV (some ver)) → ∀ r h' tk tp', (hideAll s.heap [f, d, b, ms, dm]).StaysIn h' → (∀ p ∈ bioObjs f d b h1 h2 t1 t2 tp' (lay (buf ++ #[0, (setO os cqlV (some ver)).length.toUInt8]) (flat (setO os cqlV (some ver)))) ++ [(ms, instObj 94 dm), (dm, dictOf [⟨ha, .str (Str.ofString "cqlversion") ta, .str ver tv⟩, ⟨ha2, .str (Str.ofString "options") ta2, .ref od⟩] 2)], h'.get? p.1 = some p.2) → R (.ok (.ret r)) { s with heap := h', toks := tk })
    (hE : none ∈ flat (setO os cqlV (some ver)) → ∀ e h' tk tp', RaisedN base outer e (.type "TypeError") (bioObjs f d b h1 h2 t1 t2 tp' (lay (buf ++ #[0, (setO os cqlV (some ver)).length.toUInt8]) (flat (setO os cqlV (some ver)))) ++ [(ms, instObj 94 dm), (dm, dictOf [⟨ha, .str (Str.ofString "cqlversion") ta, .str ver tv⟩, ⟨ha2, .str (Str.ofString "options") ta2, .ref od⟩] 2)]) h' → (hideAll s.heap [f, d, b, ms, dm]).UpToSlots h' → R (.error (.ref e)) { s with heap := h', toks := tk })
    : codeF (model PySem.Challenge.rw_fq5006_01.row.prog w) (Ar 820 4200 outer) (.call (.ref 818) ⟨[.int 0 tk0, .ref ms, .ref f, .int vn tv0], []⟩) R s := by
  (have hK := C.X; revert hK; k_fill; intro hK)
  k_dflt (refine' enterF (binds := [(Str.ofString "kind", .int 0 tk0), (Str.ofString "message", .ref ms), (Str.ofString "f", .ref f), (Str.ofString "version", .int vn tv0)]) (news := bioObjs f d b h1 h2 t1 t2 tp buf ++ [(ms, instObj 94 dm), (dm, dictOf [⟨ha, .str (Str.ofString "cqlversion") ta, .str ver tv⟩, ⟨ha2, .str (Str.ofString "options") ta2, .ref od⟩] 2)]) C ?k2 ?k6 ?k7 ?k8 ?k9 ?kB ?c2 ?c3 ?c4 ?c5 ?_; walk_at "m_ent")
  · exact H
  intro g L' h₁ mean mg mb hg F N B X T
  have hmg : g.DictOf (PySem.strKind PySem.Challenge.rw_fq5006_01.row.prog w) od kvs := by rw [hg]; exact hm
  clear H
  (try dsimp only)
  with_reducible show wpF _ _ _ _ _ _
  k_steps
  rename Fr _ _ _ _ => F0
  rename News _ _ _ _ => N0
  have off : Off g L' [f, d, b, ms, dm] := off_news N0 (fun x hx => by simpa using hx)
  k_dflt (refine' wpF_call (codeF_leA (start_send (siteX B X T F0 off) (fun p hp => (N0 p hp).1) hne hmn ?hz hv (hmg.keep (fr_hide F0 off).keep) lo hO h3 ?_ ?_) (Nat.le_of_ble_eq_true rfl) (Nat.le_of_ble_eq_true rfl)))
  case hz => omega
  · intro hno r h5 tk5 tp5 hk5 hP5
    have F5 := fr_after F0 off hk5
    have N5 : News g L' h5 (bioObjs f d b h1 h2 t1 t2 tp5 (lay (buf ++ #[0, (setO os cqlV (some ver)).length.toUInt8]) (flat (setO os cqlV (some ver)))) ++ [(ms, instObj 94 dm), (dm, dictOf [⟨ha, .str (Str.ofString "cqlversion") ta, .str ver tv⟩, ⟨ha2, .str (Str.ofString "options") ta2, .ref od⟩] 2)]) := news_both (bio_news (news_left N0) (fun p hp => hP5 p (List.mem_append_left _ hp))) (fun p hp => ⟨hP5 p (List.mem_append_right _ hp), (news_right (n1 := bioObjs f d b h1 h2 t1 t2 tp buf) N0 p hp).2⟩)
    (try dsimp only)
    k_steps
    exact hR hno _ _ _ _ (stays_hide hg F5) (fun p hp => (N5 p hp).1)
  · intro hno e h5 tk5 tp5 hR5 hU5
    (try dsimp only)
    refine leave_onN B (fr_hide F0 off) hR5 hU5 fun h7 hR7 hU7 => ?_
    exact hE hno e h7 _ _ hR7 (up_hide hg hU7)
theorem lay_opt {w : World} {base : Heap} {outer : List Env} {s : Shared} {R : Result → Shared → Prop} {f ms : Addr} {tk0 tv0 : Tok} {vn : Int}
    (C : At w (Ar 820 4200 outer) base outer (hideAll s.heap []))
    (hR : ∀ r h' tk, s.heap.StaysIn h' → R (.ok (.ret r)) { s with heap := h', toks := tk }) :
    codeAny (model PySem.Challenge.rw_fq5006_01.row.prog w) (Ar 820 4200 outer) (.call (.ref 818) ⟨[.int 1 tk0, .ref ms, .ref f, .int vn tv0], []⟩) R s := by
  (have hK := C.X; revert hK; k_fill; intro hK)
  k_dflt (refine' enter (binds := [(Str.ofString "kind", .int 1 tk0), (Str.ofString "message", .ref ms), (Str.ofString "f", .ref f), (Str.ofString "version", .int vn tv0)]) (news := []) C ?k2 ?k6 ?k7 ?k8 ?k9 ?kB ?c2 ?c3 ?c4 ?c5 ?_; walk_at "m_ent")
  · exact fun _ h => nomatch h
  intro g L' h₁ mean mg mb hg F N B X T
  (try dsimp only)
  with_reducible show wpAny _ _ _ _ _ _
  k_fold
  k_steps
  refine' hR _ _ _ (stays_hide (S := []) hg ?F)
  case F => k_asm
end
section
local macro_rules | `(tactic| walk_at "eval Name") => `(tactic| (k_here; (with_reducible show wpAny _ _ (eval (Expr.Name _ _) (compEnvC _ _ _ _)) _ _ _); k_dflt (refine' ld_freeC ?N ?hc ?hm ?hd ?_; (case N => k_asm); (case hc => exact rfl); (case hm => k_mem); (case hd => assumption))))
local macro_rules | `(tactic| walk_at "call builtin:isinstance") => `(tactic| (k_here; (with_reducible show wpAny _ _ (call _ [Value.str _ _, Value.ref _]) _ _ _); k_dflt ((refine' isb_str ?N ?m ?_; (case N => k_asm); (case m => k_mem)); intro tk)))
local macro_rules | `(tactic| walk_at "call builtin:isinstance") => `(tactic| (k_here; (with_reducible show wpAny _ _ (call _ [Value.bytes _ _, Value.ref _]) _ _ _); k_dflt ((refine' isb_bytes ?N ?m ?_; (case N => k_asm); (case m => k_mem)); intro tk)))
local macro_rules | `(tactic| walk_at "call builtin:isinstance") => `(tactic| (k_here; (with_reducible show wpAny _ _ (call _ [Value.none, Value.ref _]) _ _ _); k_dflt ((refine' isb_none ?N ?m ?_; (case N => k_asm); (case m => k_mem)); intro tk)))
local macro_rules | `(tactic| walk_at "call builtin:isinstance") => `(tactic| (k_here; (with_reducible show wpAny _ _ (call _ [Value.int _ _, Value.ref _]) _ _ _); k_dflt ((refine' isb_int ?N ?m ?_; (case N => k_asm); (case m => k_mem)); intro tk)))
local macro_rules | `(tactic| walk_at "call ref") => `(tactic| (k_here; (with_reducible show wpAny _ _ (call (Value.ref 771) _) _ _ _); k_dflt ((refine' wpAny_call (codeAny_le (law_word (siteX (by k_asm) (by k_asm) (by k_asm) (by k_asm) off_nil) ?_) (Nat.le_of_ble_eq_true rfl) (Nat.le_of_ble_eq_true rfl))); intro x t h' tk hx hk; have F' := fr_after (S := []) (by k_asm) off_nil hk; have N' := news_after (S := []) (by k_asm) hk (fun _ _ h => nomatch h); k_sweep; (try dsimp only))))
local macro_rules | `(tactic| walk_at "call ref") => `(tactic| (k_here; (with_reducible show wpAny _ _ (call (Value.ref 778) _) _ _ _); k_dflt ((refine' wpAny_call (codeAny_le (law_thing (by assumption) (siteX (by k_asm) (by k_asm) (by k_asm) (by k_asm) off_nil) ?_) (Nat.le_of_ble_eq_true rfl) (Nat.le_of_ble_eq_true rfl))); intro v h' tk hv hk; have F' := fr_after (S := []) (by k_asm) off_nil hk; have N' := news_after (S := []) (by k_asm) hk (fun _ _ h => nomatch h); k_sweep; (try dsimp only))))
local macro_rules | `(tactic| walk_at "call ref") => `(tactic| (k_here; (with_reducible show wpAny _ _ (call (Value.ref 764) _) _ _ _); k_dflt ((refine' wpAny_call (codeAny_le (law_number2 (by omega) (siteX (by k_asm) (by k_asm) (by k_asm) (by k_asm) off_nil) ?_) (Nat.le_of_ble_eq_true rfl) (Nat.le_of_ble_eq_true rfl))); intro D c vs h' tk hk hD hfr hI; have F' := fr_after (S := []) (by k_asm) off_nil hk; have N' := news_new' (by k_asm) (news_after (S := []) (by k_asm) hk (fun _ _ h => nomatch h)) hD hfr; (have l1 := allNe_of (ne_get (by k_asm) hfr)); (simp only [AllNe, and_true] at l1); k_sweep; (try dsimp only))))
local macro_rules | `(tactic| walk_at "call ref") => `(tactic| (k_here; (with_reducible show wpAny _ _ (call (Value.ref 792) _) _ _ _); k_dflt ((refine' wpAny_call (codeAny_le (law_short (by assumption) (by assumption) (siteX (by k_asm) (by k_asm) (by k_asm) (by k_asm) off_nil) ?_) (Nat.le_of_ble_eq_true rfl) (Nat.le_of_ble_eq_true rfl))); intro D c vs h' tk hk hD hfr hI; have F' := fr_after (S := []) (by k_asm) off_nil hk; have N' := news_new' (by k_asm) (news_after (S := []) (by k_asm) hk (fun _ _ h => nomatch h)) hD hfr; (have l1 := allNe_of (ne_get (by k_asm) hfr)); (simp only [AllNe, and_true] at l1); k_sweep; (try dsimp only))))
theorem modK {prog : Program} {w : World} {A : Around} {E : Value → Shared → Prop} {s : Shared} {a b c : Int} {t u : Tok} {Q : Value → Shared → Prop} (h : a.fmod b = c) (hb : b ≠ 0) (hq : Q (.int c s.toks) { s with toks := s.toks + 1 }) : wpAny (model prog w) A (binaryOp .Mod (.int a t) (.int b u)) Q E s := by
  subst h
  exact mod_int' hb hq
local macro_rules | `(tactic| walk_at "binaryOp Mod int int") => `(tactic| (k_dflt (refine' modK (by assumption) (by decide) ?_)))
local macro_rules | `(tactic| walk_at "CompSrc") => `(tactic| (k_here; k_dflt (refine LCg.CompSrc.range (by rfl) (by k_asm) (by k_asm) (by assumption) (by decide) (by rfl) (by decide) ?_; intro g'; lcg_lit)))
def RegEv (s : Shared) (g : Heap) (L' pl : Addr) (n : Int) (fl : Flow) (s' : Shared) : Prop :=
  fl = .next ∧ ∃ (h' : Heap) (tk' : Nat) (E : Addr) (c : Nat) (vs : List Value) (os : List (Option Str)) (oc : Obj) (m : Str → Option Value), s' = { s with heap := h', toks := tk' } ∧ os.length = n.toNat ∧ Items vs os ∧
    Fr g L' h' (fun y => if y = Str.ofString "events" then some (.ref E) else m y) ∧ News g L' h' [(E, listOf (List.toArray vs) c), (L' + 1, oc)] ∧ @Ne Nat (L' + 1) E ∧ oc.data = .cell (some (.ref pl))
theorem regEv {s : Shared} {g h' : Heap} {L' pl E : Addr} {n : Int} {tk' c : Nat} {vs : List Value} {oc : Obj} {m : Str → Option Value} (os : List (Option Str)) (F : Fr g L' h' (fun y => if y = Str.ofString "events" then some (.ref E) else m y)) (N : News g L' h' [(E, listOf (List.toArray vs) c), (L' + 1, oc)])
    (ne : @Ne Nat (L' + 1) E) (hd : oc.data = .cell (some (.ref pl))) (hn : os.length = n.toNat) (hI : Items vs os) : RegEv s g L' pl n .next { s with heap := h', toks := tk' } :=
  ⟨rfl, h', tk', E, c, vs, os, oc, m, rfl, hn, hI, F, N, ne, hd⟩
theorem items_some {x : Str} {v : Value} {vs : List Value} {os : List (Option Str)} (hv : Thing x v) (hx : x ∈ texts) (h : Items vs os) : Items (v :: vs) (some x :: os) := .cons (o := some x) (And.intro hx hv) h
theorem items_five {n : Int} {t : Tok} : Items [.int n t] [none] := .cons (o := none) (Or.inr ⟨n, t, rfl⟩) .nil
/-- one piece: an int list's ref, or the word 'type' -/
def PieceIs (pcs : List (Addr × Obj)) (v : Value) : Option (List Int) → Prop
  | some ns => ∃ D vs c, v = .ref D ∧ (D, listOf (List.toArray vs) c) ∈ pcs ∧ IntsAre vs ns
  | none => ∃ t, v = .str (Str.ofString "type") t
inductive Pieces (pcs : List (Addr × Obj)) : List Value → List (Option (List Int)) → Prop
  | nil : Pieces pcs [] []
  | cons {v : Value} {p : Option (List Int)} {vs : List Value} {ps : List (Option (List Int))} : PieceIs pcs v p → Pieces pcs vs ps → Pieces pcs (v :: vs) (p :: ps)
theorem PieceIs.mono {pcs pcs' : List (Addr × Obj)} {v : Value} (hs : ∀ q ∈ pcs, q ∈ pcs') : ∀ {p : Option (List Int)}, PieceIs pcs v p → PieceIs pcs' v p
  | some _, ⟨D, vs, c, h1, h2, h3⟩ => ⟨D, vs, c, h1, hs _ h2, h3⟩
  | none, h => h
theorem Pieces.mono {pcs pcs' : List (Addr × Obj)} (hs : ∀ q ∈ pcs, q ∈ pcs') : ∀ {vs : List Value} {ps : List (Option (List Int))}, Pieces pcs vs ps → Pieces pcs' vs ps
  | _, _, .nil => .nil
  | _, _, .cons h r => .cons (h.mono hs) (r.mono hs)
theorem Pieces.snoc {pcs : List (Addr × Obj)} {v : Value} {p : Option (List Int)} : ∀ {vs : List Value} {ps : List (Option (List Int))}, Pieces pcs vs ps → PieceIs pcs v p → Pieces pcs (vs ++ [v]) (ps ++ [p])
  | _, _, .nil, h => .cons h .nil
  | _, _, .cons h0 r, h => .cons h0 (r.snoc h)
theorem Pieces.length {pcs : List (Addr × Obj)} : ∀ {vs : List Value} {ps : List (Option (List Int))}, Pieces pcs vs ps → vs.length = ps.length
  | _, _, .nil => rfl
  | _, _, .cons _ r => congrArg Nat.succ r.length
/-- a short text's octets -/
def short (x : Str) : List Int := [0, ((KBw.bInts (u8 x)).length : Int)] ++ KBw.bInts (u8 x)
theorem len_listN {prog : Program} {w : World} {A : Around} {E : Value → Shared → Prop} {s : Shared} {g : Heap} {L l : Addr} {news : List (Addr × Obj)} {vs : List Value} {c n : Nat} {Q : Value → Shared → Prop} (N : News g L s.heap news) (hm : (l, listOf (List.toArray vs) c) ∈ news) (hn : vs.length = n) (hf : n ≤ 100)
    (h : ∀ t k, Q (.int (n : Nat) t) { s with toks := k }) : wpAny (model prog w) A (call (.builtin "len") [.ref l]) Q E s := by
  subst hn
  refine call_len_list (items := vs.toArray) ⟨_, (N _ hm).1, rfl, _, rfl⟩ (by rw [List.size_toArray]; omega) ?_
  rw [List.size_toArray]
  exact h _ _
local macro_rules | `(tactic| walk_at "call builtin:len") => `(tactic| (k_here; k_dflt ((refine' len_listN (by k_asm) ?m ?n ?f ?_; (case m => k_mem); (case n => assumption); (case f => omega)); intro t k)))
def Held (P : Prop) : Prop := P
theorem held {P : Prop} (h : Held P) : P := h
local macro_rules | `(tactic| walk_at "call builtin:list.append") => `(tactic| (refine held ?_))
theorem post_ne {Pl I E L' : Addr} {oJ oE oc : Obj} {pcs : List (Addr × Obj)} (n1 : @Ne Nat Pl I) (q2 : E < Pl) (q3 : @LT.lt Nat _ (L' + 1) Pl) (hq : ∀ q ∈ pcs, q.1 ≠ Pl ∧ q.1 ≠ I) : ∀ p ∈ (I, oJ) :: (E, oE) :: (L' + 1, oc) :: pcs, p.1 ≠ Pl := fun p hp => by
  rcases List.mem_cons.mp hp with rfl | hp
  · exact Ne.symm n1
  · rcases List.mem_cons.mp hp with rfl | hp
    · exact Nat.ne_of_lt q2
    · rcases List.mem_cons.mp hp with rfl | hp
      · exact Nat.ne_of_lt q3
      · exact (hq p hp).1
theorem appendN {prog : Program} {w : World} {A : Around} {E : Value → Shared → Prop} {s : Shared} {g : Heap} {L P : Addr} {m : Str → Option Value} {pre post : List (Addr × Obj)} {pvs : List Value} {c : Nat} {x : Value} {Q : Value → Shared → Prop} (F : Fr g L s.heap m) (N : News g L s.heap (pre ++ (P, listOf (List.toArray pvs) c) :: post))
    (h1 : ∀ p ∈ pre, p.1 ≠ P) (h2 : ∀ p ∈ post, p.1 ≠ P) (hz : pvs.length ≤ sizeLine) (h : ∀ h', Fr g L h' m → News g L h' (pre ++ (P, listOf (List.toArray (pvs ++ [x])) (c + 1)) :: post) → Q .none { s with heap := h' }) : wpAny (model prog w) A (call (.builtin "list.append") [.ref P, x]) Q E s := by
  have hm := N (P, _) (List.mem_append_right _ List.mem_cons_self)
  refine append_at hm.1 (fun h' hs hg => ?_) (by rw [List.size_toArray]; exact hz)
  refine h h' ⟨F.ns.sameBut hs (Ne.symm hm.2.1), fun b o e => (hs.2 b fun q => ?_).trans (F.keep b o e), F.above⟩ fun p hp => ?_
  · rw [q, hm.2.2] at e; cases e
  · rcases List.mem_append.mp hp with hp | hp
    · have := N p (List.mem_append_left _ hp)
      exact ⟨(hs.2 _ (h1 p hp)).trans this.1, this.2⟩
    · rcases List.mem_cons.mp hp with rfl | hp
      · refine ⟨?_, hm.2⟩
        rw [hg, List.push_toArray]
      · have := N p (List.mem_append_right _ (List.mem_cons_of_mem _ hp))
        exact ⟨(hs.2 _ (h2 p hp)).trans this.1, this.2⟩
def RegInv (s : Shared) (g : Heap) (L' E I Pl : Addr) (oc : Obj) (vs : List Value) (c : Nat) (os : List (Option Str)) (i : Nat) (s' : Shared) : Prop :=
  ∃ (h' : Heap) (tk' : Nat) (m : Str → Option Value) (c' : Nat) (pw : List Value) (pcs : List (Addr × Obj)) (oI : Obj), s' = { s with heap := h', toks := tk' } ∧ Fr g L' h' (fun y => if y = Str.ofString "pieces" then some (.ref Pl) else if y = Str.ofString "events" then some (.ref E) else m y) ∧
      News g L' h' ((Pl, listOf (List.toArray pw) c') :: (I, oI) :: (E, listOf (List.toArray vs) c) :: (L' + 1, oc) :: pcs) ∧ oI.cls = .type "list_iterator" ∧ oI.data = .fields #[.ref E, .int i 0] ∧ Pieces pcs pw (some [0, (os.length : Int)] :: (os.take i).map (Option.map short)) ∧ (∀ q ∈ pcs, q.1 ≠ Pl ∧ q.1 ≠ I)
abbrev tupOf (vs : List Value) : Obj := { cls := .type "tuple", data := .seq vs.toArray }
/-- what _law_register hands back -/
def RegOut (h0 h' : Heap) (T : Addr) (os : List (Option Str)) : Prop :=
  ∃ (ms dm el Pl : Addr) (ha : Int) (ta : Tok) (vs : List Value) (cv : Nat) (pw : List Value) (cp : Nat) (pcs : List (Addr × Obj)),
    (∀ q ∈ (T, tupOf [.ref ms, .ref Pl]) :: (ms, instObj 165 dm) :: (dm, dictOf [⟨ha, .str (Str.ofString "event_list") ta, .ref el⟩] 1) :: (el, listOf (List.toArray vs) cv) :: (Pl, listOf (List.toArray pw) cp) :: pcs, h'.get? q.1 = some q.2 ∧ h0.get? q.1 = none) ∧
    Items vs os ∧ os.length ≤ 4 ∧ Pieces pcs pw (some [0, (os.length : Int)] :: os.map (Option.map short))
theorem regOut {h0 g h' : Heap} {L T ms dm el Pl : Addr} {ha : Int} {ta : Tok} {vs pw : List Value} {cv cp : Nat} {os : List (Option Str)} {pcs mid : List (Addr × Obj)} (hg : g = hideAll h0 [])
    (N : News g L h' ((T, tupOf [.ref ms, .ref Pl]) :: (ms, instObj 165 dm) :: (dm, dictOf [⟨ha, .str (Str.ofString "event_list") ta, .ref el⟩] 1) :: (el, listOf (List.toArray vs) cv) :: (Pl, listOf (List.toArray pw) cp) :: (mid ++ pcs)))
    (hI : Items vs os) (h4 : os.length ≤ 4) (hP : Pieces pcs pw (some [0, (os.length : Int)] :: os.map (Option.map short))) : RegOut h0 h' T os := by
  refine ⟨ms, dm, el, Pl, ha, ta, vs, cv, pw, cp, pcs, fun q hq => ?_, hI, h4, hP⟩
  have : q ∈ (T, tupOf [.ref ms, .ref Pl]) :: (ms, instObj 165 dm) :: (dm, dictOf [⟨ha, .str (Str.ofString "event_list") ta, .ref el⟩] 1) :: (el, listOf (List.toArray vs) cv) :: (Pl, listOf (List.toArray pw) cp) :: (mid ++ pcs) := by
    simp only [List.mem_cons, List.mem_append] at hq ⊢
    rcases hq with h | h | h | h | h | h
    · exact .inl h
    · exact .inr (.inl h)
    · exact .inr (.inr (.inl h))
    · exact .inr (.inr (.inr (.inl h)))
    · exact .inr (.inr (.inr (.inr (.inl h))))
    · exact .inr (.inr (.inr (.inr (.inr (.inr h)))))
  exact ⟨(N q this).1, by subst hg; exact (N q this).2.2⟩
theorem reg_step {s : Shared} {g h6 : Heap} {L' E I Pl : Addr} {oc oJ : Obj} {vs pw : List Value} {c c' i tk : Nat} {os : List (Option Str)} {o : Option Str} {m : Str → Option Value} {pre pcs ex : List (Addr × Obj)} {v v₀ : Value}
    (F : Fr g L' h6 (fun y => if y = Str.ofString "event" then some v₀ else if y = Str.ofString "pieces" then some (.ref Pl) else if y = Str.ofString "events" then some (.ref E) else m y))
    (N : News g L' h6 (pre ++ (Pl, listOf (List.toArray (pw ++ [v])) c') :: (I, oJ) :: (E, listOf (List.toArray vs) c) :: (L' + 1, oc) :: pcs)) (e2 : oJ.cls = .type "list_iterator") (e3 : oJ.data = .fields #[.ref E, .int (i + 1 : Nat) 0])
    (hP : Pieces pcs pw (some [0, (os.length : Int)] :: (os.take i).map (Option.map short))) (ho : os[i]? = some o) (hx : ∀ q ∈ ex, q ∈ pre) (hv : PieceIs (ex ++ pcs) v (o.map short)) (hq : ∀ q ∈ ex ++ pcs, q.1 ≠ Pl ∧ q.1 ≠ I) :
    RegInv s g L' E I Pl oc vs c os (i + 1) { s with heap := h6, toks := tk } := by
  unfold RegInv
  refine ⟨h6, tk, _, c', pw ++ [v], ex ++ pcs, oJ, rfl, fr_fact (fr_fact F (x := Str.ofString "events") (v := some (.ref E)) rfl) (x := Str.ofString "pieces") (v := some (.ref Pl)) rfl, fun p hp => N p ?_, e2, e3, ?_, hq⟩
  · rcases List.mem_cons.mp hp with rfl | hp
    · exact List.mem_append_right _ List.mem_cons_self
    rcases List.mem_cons.mp hp with rfl | hp
    · exact List.mem_append_right _ (List.mem_cons_of_mem _ List.mem_cons_self)
    rcases List.mem_cons.mp hp with rfl | hp
    · exact List.mem_append_right _ (List.mem_cons_of_mem _ (List.mem_cons_of_mem _ List.mem_cons_self))
    rcases List.mem_cons.mp hp with rfl | hp
    · exact List.mem_append_right _ (List.mem_cons_of_mem _ (List.mem_cons_of_mem _ (List.mem_cons_of_mem _ List.mem_cons_self)))
    rcases List.mem_append.mp hp with hp | hp
    · exact List.mem_append_left _ (hx p hp)
    · exact List.mem_append_right _ (List.mem_cons_of_mem _ (List.mem_cons_of_mem _ (List.mem_cons_of_mem _ (List.mem_cons_of_mem _ hp))))
  · rw [take_at ho, List.map_append, ← List.cons_append]
    exact (hP.mono fun q h => List.mem_append_right _ h).snoc hv

theorem law_register {w : World} {base : Heap} {outer : List Env} {s : Shared} {R : Result → Shared → Prop} {pl : Addr} {pvs : List Value} {p0 p1 p2 p3 p4 p5 p6 : Int}
    (C : At w (Ar 870 4700 outer) base outer (hideAll s.heap [])) (hp : s.heap.IsList pl pvs.toArray) (hpi : IntsAre pvs [p0, p1, p2, p3, p4, p5, p6])
    (hR : ∀ T os h' tk, s.heap.StaysIn h' → RegOut s.heap h' T os → R (.ok (.ret (.ref T))) { s with heap := h', toks := tk }) :
    codeF (model PySem.Challenge.rw_fq5006_01.row.prog w) (Ar 870 4700 outer) (.call (.ref 811) ⟨[.ref pl], []⟩) R s := by
  w_top off
  (have hK := C.X; revert hK; k_fill; intro hK)
  k_dflt (refine' enterCF (binds := [(Str.ofString "p", .ref pl)]) (news := []) C ?k2 ?k6 ?k7 ?k8 ?k9 ?kB ?kD ?c2 ?c3 ?c4 ?_; walk_at "m_entC")
  · exact fun _ h => nomatch h
  intro g L' h₁ tk cells mean mg mb hg F N Y B X T
  k_cells Y
  (try simp only [List.cons_append, List.nil_append] at N)
  have hpg : g.IsList pl pvs.toArray := by rw [hg]; exact hp
  clear hp
  (try dsimp only)
  with_reducible show wpF _ _ _ _ _ _
  have hn : p2.fmod 4 = 0 ∨ p2.fmod 4 = 1 ∨ p2.fmod 4 = 2 ∨ p2.fmod 4 = 3 := by
    have h1 : 0 ≤ p2.fmod 4 ∧ p2.fmod 4 < 4 := ⟨Int.fmod_nonneg_of_pos _ (by decide), Int.fmod_lt_of_pos _ (by decide)⟩
    omega
  refine wpF_splitAt 2 ?_
  refine wpAny_mono (Q := RegEv s g L' pl (p2.fmod 4)) ?comp ?rest (fun _ _ x => x)
  case comp =>
    show wpAny _ _ (execs [_, _] _) _ _ _
    rcases hn with hn | hn | hn | hn
    all_goals (rw [hn]; k_steps)
    all_goals first
    | exact regEv [] (by assumption) (by assumption) (by assumption) (by assumption) rfl .nil
    | exact regEv [none] (by assumption) (by assumption) (by assumption) (by assumption) rfl items_five
    | exact regEv [some _] (by assumption) (by assumption) (by assumption) (by assumption) rfl (items_some (by assumption) (by assumption) .nil)
    | exact regEv [some _, none] (by assumption) (by assumption) (by assumption) (by assumption) rfl (items_some (by assumption) (by assumption) items_five)
    | exact regEv [some _, some _] (by assumption) (by assumption) (by assumption) (by assumption) rfl (items_some (by assumption) (by assumption) (items_some (by assumption) (by assumption) .nil))
    | exact regEv [some _, some _, none] (by assumption) (by assumption) (by assumption) (by assumption) rfl (items_some (by assumption) (by assumption) (items_some (by assumption) (by assumption) items_five))
    | exact regEv [some _, some _, some _] (by assumption) (by assumption) (by assumption) (by assumption) rfl (items_some (by assumption) (by assumption) (items_some (by assumption) (by assumption) (items_some (by assumption) (by assumption) .nil)))
  case rest =>
    rintro fl s' ⟨rfl, h', tk', E, c, vs, os, oc, m, rfl, hlen, hI, F, N, ne, hd⟩
    have h4 : os.length ≤ 4 := by omega
    clear hn
    have hvl := hI.length
    show wpF _ _ (execs [_, _, _] _) _ _ _
    k_steps
    rename Fr _ _ _ _ => F0
    rename News _ _ _ _ => N0
    rename_i Dn cn vn hA tkn hk1 hD1 hfr1 hIn l1a Pl hB l1b hC
    obtain ⟨q1, q2, q3⟩ := l1b
    have hPI := Heap.lt_size (N0 _ List.mem_cons_self).1
    have hLI := F0.ns.lt
    have hI0 := next_is_new F0
    refine wpAny_pyIter_list (l := E) (items := vs.toArray) ⟨_, (N0 (E, listOf (List.toArray vs) c) (by simp)).1, rfl, _, rfl⟩ ?_
    dsimp only
    have n1 : @Ne Nat Pl hC.objs.size := Nat.ne_of_lt hPI
    have n2 : @Ne Nat L' hC.objs.size := Nat.ne_of_lt hLI
    have n3 : @Ne Nat E hC.objs.size := Nat.ne_of_lt (Nat.lt_trans q2 hPI)
    have n4 : @Ne Nat (L' + 1) hC.objs.size := Nat.ne_of_lt (Nat.lt_trans q3 hPI)
    have n5 : @Ne Nat Dn hC.objs.size := Nat.ne_of_lt (Nat.lt_trans q1 hPI)
    have hgt : (hC.push (itObj E 0)).get? hC.objs.size = some (itObj E 0) := Heap.get?_push_size _ rfl
    have NP := N0.grown (h' := hC.push (itObj E 0)) fun _ _ e => Heap.get?_push_of_some _ e
    have FP := F0.push (itObj E 0)
    generalize hC.objs.size = I at n1 n2 n3 n4 n5 hI0 hgt NP FP ⊢
    refine codeF_forW (Walks.list rfl I E n3 vs.toArray) (RegInv s g L' E I Pl oc vs c os) ?hSt ?turn ?done ?h
    case hSt =>
      rintro i s' ⟨h', tk', m', c', pw, pcs, oI, rfl, F1, N1, c1, c2, _⟩
      exact ⟨⟨oI, (N1 (I, oI) (by simp)).1, c1, c2⟩, ⟨_, (N1 (E, listOf (List.toArray vs) c) (by simp)).1, rfl, _, rfl⟩⟩
    case h =>
      unfold RegInv
      refine ⟨_, _, _, 0, _, [(Dn, listOf (List.toArray vn) cn)], itObj E 0, rfl, fr_fact (fr_fact FP (x := Str.ofString "events") (v := some (.ref E)) rfl) (x := Str.ofString "pieces") (v := some (.ref Pl)) rfl, ?_, rfl, rfl, .cons ⟨Dn, vn, cn, rfl, by simp, hIn⟩ .nil, fun q hq => ?_⟩
      · intro p hp
        simp only [List.mem_cons, List.not_mem_nil, or_false] at hp
        rcases hp with rfl | rfl | rfl | rfl | rfl
        · exact NP _ (by simp)
        · exact ⟨hgt, Ne.symm n2, hI0⟩
        · exact NP _ (by simp)
        · exact NP _ (by simp)
        · exact NP _ (by simp)
      · rw [List.mem_singleton.mp hq]; exact ⟨Nat.ne_of_lt q1, n5⟩
    case turn =>
      rintro i s' v h3 tk3 hi ⟨h', tk', m', c', pw, pcs, oI, rfl, F1, N1, c1, c2, hP, hq⟩ hv' ⟨⟨oJ, e1, e2, e3⟩, _⟩ hk
      have hv : vs[i]? = some v := by simpa using hv'
      obtain ⟨o, ho, hio⟩ := hI.at hv
      have F2 := LCg.fr_but F1 hk n2 hI0
      have N2 : News g L' h3 ((Pl, listOf (List.toArray pw) c') :: (I, oJ) :: (E, listOf (List.toArray vs) c) :: (L' + 1, oc) :: pcs) := fun p hp => by
        rcases List.mem_cons.mp hp with rfl | hp
        · exact LCg.news_but (news := [_]) (fun q hq => N1 q (by rw [List.mem_singleton.mp hq]; exact List.mem_cons_self)) hk (fun q hq => by rw [List.mem_singleton.mp hq]; exact n1) _ List.mem_cons_self
        rcases List.mem_cons.mp hp with rfl | hp
        · exact ⟨e1, Ne.symm n2, hI0⟩
        · have z := N1 p (List.mem_cons_of_mem _ (List.mem_cons_of_mem _ hp))
          refine ⟨hk _ _ (fun hm => ?_) z.1, z.2⟩
          rw [List.mem_singleton] at hm
          rcases List.mem_cons.mp hp with rfl | hp
          · exact n3 hm
          · rcases List.mem_cons.mp hp with rfl | hp
            · exact n4 hm
            · exact (hq p hp).2 hm
      clear F1 N1 F0 N0 FP NP hk hgt
      refine wpAny_of_eq rfl ?_
      refine wpAny_assign_Name (storeX_L F2 N2 (fun h4 F3 N3 => ?_))
      clear F2 N2
      dsimp only
      refine wpF_of_any ?_
      cases o with
      | some x =>
        obtain ⟨hx, hth⟩ := hio
        have hth' := hth
        rcases hth with ⟨t, rfl⟩ | ⟨t, rfl⟩
        all_goals (
          k_steps
          rename Fr _ _ _ _ => F5
          rename News _ _ _ _ => N5
          rename IntsAre _ _ => hIs
          with_reducible show Held _
          unfold Held
          rename _ ≠ _ ∧ _ => lb
          rename _ < _ ∧ _ => la
          refine' appendN (pre := [_, _]) (P := Pl) (c := c') F5 N5 ?h1 ?h2 ?hz ?_
          case h1 =>
            intro p hp
            simp only [List.mem_cons, List.not_mem_nil, or_false] at hp
            rcases hp with rfl | rfl
            · exact Ne.symm lb.2.1
            · exact Ne.symm (Nat.ne_of_lt la.1)
          case h2 => exact post_ne n1 q2 q3 hq
          case hz => have := hP.length; simp at this; rw [sizeLine_eq]; omega
          intro h6 F6 N6
          clear F5 N5
          (try dsimp only)
          k_steps
          (try dsimp only)
          refine reg_step (ex := [_]) F6 N6 e2 e3 hP ho (fun q hq => by rw [List.mem_singleton.mp hq]; exact List.mem_cons_self) ⟨_, _, _, rfl, List.mem_cons_self, hIs⟩ (fun q hm => ?_)
          rcases List.mem_cons.mp hm with rfl | hm
          · exact ⟨Ne.symm lb.2.1, Ne.symm lb.2.2.1⟩
          · exact hq q hm)
      | none =>
        rcases hio with rfl | ⟨n9, t9, rfl⟩
        all_goals (
          k_steps
          rename Fr _ _ _ _ => F5
          rename News _ _ _ _ => N5
          with_reducible show Held _
          unfold Held
          rename _ < _ ∧ _ => la
          refine' appendN (pre := [_]) (P := Pl) (c := c') F5 N5 ?h1 ?h2 ?hz ?_
          case h1 =>
            intro p hp
            rw [List.mem_singleton.mp hp]
            exact Ne.symm (Nat.ne_of_lt la.1)
          case h2 => exact post_ne n1 q2 q3 hq
          case hz => have := hP.length; simp at this; rw [sizeLine_eq]; omega
          intro h6 F6 N6
          clear F5 N5
          (try dsimp only)
          k_steps
          (try dsimp only)
          refine reg_step (ex := []) F6 N6 e2 e3 hP ho (fun q hq => nomatch hq) ⟨_, rfl⟩ hq)
    case done =>
      rintro s' h3 tk3 ⟨h', tk', m', c', pw, pcs, oI, rfl, F1, N1, c1, c2, hP, hq⟩ hk
      have hn9 : vs.toArray.size = os.length := by simp [hvl]
      rw [hn9, List.take_length] at hP
      have F2 := LCg.fr_but F1 hk n2 hI0
      have N2 : News g L' h3 ((Pl, listOf (List.toArray pw) c') :: (E, listOf (List.toArray vs) c) :: (L' + 1, oc) :: pcs) := fun p hp => by
        have up : ∀ q ∈ (Pl, listOf (List.toArray pw) c') :: (I, oI) :: (E, listOf (List.toArray vs) c) :: (L' + 1, oc) :: pcs, q.1 ≠ I → News g L' h3 [q] := fun q hq' hne => LCg.news_but (news := [q]) (fun r hr => N1 r (by rw [List.mem_singleton.mp hr]; exact hq')) hk (fun r hr => by rw [List.mem_singleton.mp hr]; exact hne)
        rcases List.mem_cons.mp hp with rfl | hp
        · exact up _ (by simp) n1 _ List.mem_cons_self
        rcases List.mem_cons.mp hp with rfl | hp
        · exact up _ (by simp) n3 _ List.mem_cons_self
        rcases List.mem_cons.mp hp with rfl | hp
        · exact up _ (by simp) n4 _ List.mem_cons_self
        · exact up _ (by simp [hp]) (hq p hp).2 _ List.mem_cons_self
      have hq2 : ∀ q ∈ pcs, q.1 ≠ Pl := fun q h => (hq q h).1
      clear F1 N1 F0 N0 FP NP hk hgt hq
      (try dsimp only)
      k_steps
      (try dsimp only)
      rename News _ _ _ _ => N9
      rename Fr _ _ _ _ => F9
      exact hR _ os _ _ (stays_hide (S := []) hg F9) (regOut (mid := [_, _]) hg N9 hI h4 hP)
end
section
local macro_rules | `(tactic| walk_at "eval Name") => `(tactic| (k_here; (with_reducible show wpAny _ _ (eval (Expr.Name _ _) (compEnvC _ _ _ _)) _ _ _); k_dflt (refine' ld_freeC ?N ?hc ?hm ?hd ?_; (case N => k_asm); (case hc => exact rfl); (case hm => k_mem); (case hd => assumption))))
local macro_rules | `(tactic| walk_at "call builtin:isinstance") => `(tactic| (k_here; (with_reducible show wpAny _ _ (call _ [Value.str _ _, Value.ref _]) _ _ _); k_dflt ((refine' isb_str ?N ?m ?_; (case N => k_asm); (case m => k_mem)); intro tk)))
local macro_rules | `(tactic| walk_at "call builtin:isinstance") => `(tactic| (k_here; (with_reducible show wpAny _ _ (call _ [Value.bytes _ _, Value.ref _]) _ _ _); k_dflt ((refine' isb_bytes ?N ?m ?_; (case N => k_asm); (case m => k_mem)); intro tk)))
local macro_rules | `(tactic| walk_at "call builtin:isinstance") => `(tactic| (k_here; (with_reducible show wpAny _ _ (call _ [Value.none, Value.ref _]) _ _ _); k_dflt ((refine' isb_none ?N ?m ?_; (case N => k_asm); (case m => k_mem)); intro tk)))
local macro_rules | `(tactic| walk_at "call builtin:isinstance") => `(tactic| (k_here; (with_reducible show wpAny _ _ (call _ [Value.int _ _, Value.ref _]) _ _ _); k_dflt ((refine' isb_int ?N ?m ?_; (case N => k_asm); (case m => k_mem)); intro tk)))
local macro_rules | `(tactic| walk_at "call ref") => `(tactic| (k_here; (with_reducible show wpAny _ _ (call (Value.ref 771) _) _ _ _); k_dflt ((refine' wpAny_call (codeAny_le (law_word (siteX (by k_asm) (by k_asm) (by k_asm) (by k_asm) off_nil) ?_) (Nat.le_of_ble_eq_true rfl) (Nat.le_of_ble_eq_true rfl))); intro x t h' tk hx hk; have F' := fr_after (S := []) (by k_asm) off_nil hk; have N' := news_after (S := []) (by k_asm) hk (fun _ _ h => nomatch h); k_sweep; (try dsimp only))))
local macro_rules | `(tactic| walk_at "call ref") => `(tactic| (k_here; (with_reducible show wpAny _ _ (call (Value.ref 778) _) _ _ _); k_dflt ((refine' wpAny_call (codeAny_le (law_thing (by assumption) (siteX (by k_asm) (by k_asm) (by k_asm) (by k_asm) off_nil) ?_) (Nat.le_of_ble_eq_true rfl) (Nat.le_of_ble_eq_true rfl))); intro v h' tk hv hk; have F' := fr_after (S := []) (by k_asm) off_nil hk; have N' := news_after (S := []) (by k_asm) hk (fun _ _ h => nomatch h); k_sweep; (try dsimp only))))
theorem law_shortV {w : World} {base : Heap} {outer : List Env} {s : Shared} {R : Result → Shared → Prop} {x : Str} {v : Value} (hv : Thing x v) (hx : x ∈ texts)
    (C : At w (Ar 880 4800 outer) base outer (hideAll s.heap []))
    (hR : ∀ D c vs h' tk, s.heap.StaysIn h' → h'.get? D = some (listOf (List.toArray vs) c) → s.heap.get? D = none → IntsAre vs ([0, ((KBw.bInts (u8 x)).length : Int)] ++ KBw.bInts (u8 x)) → R (.ok (.ret (.ref D))) { s with heap := h', toks := tk }) :
    codeAny (model PySem.Challenge.rw_fq5006_01.row.prog w) (Ar 880 4800 outer) (.call (.ref 792) ⟨[v], []⟩) R s := law_short hx hv C hR
local macro_rules | `(tactic| walk_at "call ref") => `(tactic| (k_here; (with_reducible show wpAny _ _ (call (Value.ref 792) _) _ _ _); k_dflt ((refine' wpAny_call (codeAny_le (law_shortV (by assumption) (by assumption) (siteX (by k_asm) (by k_asm) (by k_asm) (by k_asm) off_nil) ?_) (Nat.le_of_ble_eq_true rfl) (Nat.le_of_ble_eq_true rfl))); intro D c vs h' tk hk hD hfr hI; have F' := fr_after (S := []) (by k_asm) off_nil hk; have N' := news_new' (by k_asm) (news_after (S := []) (by k_asm) hk (fun _ _ h => nomatch h)) hD hfr; (have l1 := allNe_of (ne_get (by k_asm) hfr)); (simp only [AllNe, and_true] at l1); k_sweep; (try dsimp only))))
theorem law_shortS {w : World} {base : Heap} {outer : List Env} {s : Shared} {R : Result → Shared → Prop} {x : Str} {t : Tok} (hx : x ∈ texts)
    (C : At w (Ar 880 4800 outer) base outer (hideAll s.heap []))
    (hR : ∀ D c vs h' tk, s.heap.StaysIn h' → h'.get? D = some (listOf (List.toArray vs) c) → s.heap.get? D = none → IntsAre vs ([0, ((KBw.bInts (u8 x)).length : Int)] ++ KBw.bInts (u8 x)) → R (.ok (.ret (.ref D))) { s with heap := h', toks := tk }) :
    codeAny (model PySem.Challenge.rw_fq5006_01.row.prog w) (Ar 880 4800 outer) (.call (.ref 792) ⟨[.str x t], []⟩) R s := law_short hx (.inl ⟨_, rfl⟩) C hR
local macro_rules | `(tactic| walk_at "call ref") => `(tactic| (k_here; (with_reducible show wpAny _ _ (call (Value.ref 792) _) _ _ _); k_dflt ((refine' wpAny_call (codeAny_le (law_shortS (by first | assumption | decide +kernel) (siteX (by k_asm) (by k_asm) (by k_asm) (by k_asm) off_nil) ?_) (Nat.le_of_ble_eq_true rfl) (Nat.le_of_ble_eq_true rfl))); intro D c vs h' tk hk hD hfr hI; have F' := fr_after (S := []) (by k_asm) off_nil hk; have N' := news_new' (by k_asm) (news_after (S := []) (by k_asm) hk (fun _ _ h => nomatch h)) hD hfr; (have l1 := allNe_of (ne_get (by k_asm) hfr)); (simp only [AllNe, and_true] at l1); k_sweep; (try dsimp only))))
local macro_rules | `(tactic| walk_at "call builtin:list.append") => `(tactic| (refine held ?_))
theorem law_number2z {w : World} {base : Heap} {outer : List Env} {s : Shared} {R : Result → Shared → Prop} {z : Int} {t u : Tok} (h0 : 0 ≤ z ∧ z ≤ 16)
    (C : At w (Ar 900 5000 outer) base outer (hideAll s.heap []))
    (hR : ∀ D c vs h' tk, s.heap.StaysIn h' → h'.get? D = some (listOf (List.toArray vs) c) → s.heap.get? D = none → IntsAre vs ([0, z]) → R (.ok (.ret (.ref D))) { s with heap := h', toks := tk }) :
    codeAny (model PySem.Challenge.rw_fq5006_01.row.prog w) (Ar 900 5000 outer) (.call (.ref 764) ⟨[.int z t, .int 2 u], []⟩) R s := by
  obtain ⟨n, rfl⟩ := Int.eq_ofNat_of_zero_le h0.1
  exact law_number2 (by omega) C hR
local macro_rules | `(tactic| walk_at "call ref") => `(tactic| (k_here; (with_reducible show wpAny _ _ (call (Value.ref 764) _) _ _ _); k_dflt ((refine' wpAny_call (codeAny_le (law_number2z (by omega) (siteX (by k_asm) (by k_asm) (by k_asm) (by k_asm) off_nil) ?_) (Nat.le_of_ble_eq_true rfl) (Nat.le_of_ble_eq_true rfl))); intro D c vs h' tk hk hD hfr hI; have F' := fr_after (S := []) (by k_asm) off_nil hk; have N' := news_new' (by k_asm) (news_after (S := []) (by k_asm) hk (fun _ _ h => nomatch h)) hD hfr; (have l1 := allNe_of (ne_get (by k_asm) hfr)); (simp only [AllNe, and_true] at l1); k_sweep; (try dsimp only))))
theorem rangeSize_n {n : Nat} : Builtin.Range.rangeSize 0 (n : Int) 1 = (n : Int) := by
  unfold Builtin.Range.rangeSize
  rw [if_pos (by decide)]
  split
  · omega
  · omega
theorem upd_get {g h h' : Heap} {L d : Addr} {m : Str → Option Value} {o : Obj} {news : List (Addr × Obj)} (N : News g L h ((d, o) :: news)) : h.get? d = some o := (N _ List.mem_cons_self).1
abbrev keysObj (k1 k2 k3 k4 : Tok) : Obj := listOf #[.str (Str.ofString "CQL_VERSION") k1, .str (Str.ofString "COMPRESSION") k2, .str (Str.ofString "DRIVER_NAME") k3, .str (Str.ofString "DRIVER_VERSION") k4] 0
def StartInv (prog : Program) (w : World) (s : Shared) (g : Heap) (L' l d : Addr) (k1 k2 k3 k4 : Tok) (many : Int) (pl : Addr) (ver : Str) (tv : Tok) (I n : Nat) (i : Nat) (s' : Shared) : Prop :=
  ∃ (tm : Tok) (h' : Heap) (tk' : Nat) (m : Str → Option Value) (oo oI : Obj) (kvs : List (Str × Value)) (os : List (Str × Option Str)), s' = { s with heap := h', toks := tk' } ∧
    Fr g L' h' (fun y => if y = Str.ofString "many" then some (.int many tm) else if y = Str.ofString "options" then some (.ref d) else if y = Str.ofString "keys" then some (.ref l) else if y = Str.ofString "version" then some (.str ver tv) else if y = Str.ofString "p" then some (.ref pl) else m y) ∧
    News g L' h' [(d, oo), (l, keysObj k1 k2 k3 k4), (I, oI)] ∧ oI = { cls := .type "range_iterator", data := .fields #[rawInt (0 + (i : Nat) * 1), rawInt ((n : Int) - (i : Nat)), rawInt 1] } ∧ oo.IsDictOf (PySem.strKind prog w) kvs ∧ Opts kvs os ∧ os.length ≤ i
theorem keys_at {prog : Program} {w : World} {A : Around} {E : Value → Shared → Prop} {s : Shared} {g : Heap} {L l : Addr} {news : List (Addr × Obj)} {k1 k2 k3 k4 : Tok} {j : Int} {u : Tok} {value slice : PySem.Expr} {Q : Value → Shared → Prop} (N : News g L s.heap news) (hm : (l, keysObj k1 k2 k3 k4) ∈ news) (hj : j.fmod 4 = j)
    (h : ∀ x t, x ∈ texts → Q (.str x t) s) (hs : subscripted slice false (.ref l) (.int j u) = operate [.ref l, .int j u] (getItem (.ref l) (.int j u)) := by with_unfolding_all rfl) : wpAny (model prog w) A (subscriptTail value slice (.ref l) (.int j u)) Q E s := by
  have hl : s.heap.IsList l #[.str (Str.ofString "CQL_VERSION") k1, .str (Str.ofString "COMPRESSION") k2, .str (Str.ofString "DRIVER_NAME") k3, .str (Str.ofString "DRIVER_VERSION") k4] := ⟨_, (N _ hm).1, rfl, _, rfl⟩
  have hj4 : 0 ≤ j ∧ j < 4 := by
    rw [← hj]
    exact ⟨Int.fmod_nonneg_of_pos _ (by decide), Int.fmod_lt_of_pos _ (by decide)⟩
  have hc : j = 0 ∨ j = 1 ∨ j = 2 ∨ j = 3 := by omega
  refine tail_any hl.typeIs slot_list_getitem.lookup ?_ hs
  rcases hc with rfl | rfl | rfl | rfl
  · exact wpAny_getItem_list hl (by decide) (by decide) rfl (h _ _ (by decide +kernel))
  · exact wpAny_getItem_list hl (by decide) (by decide) rfl (h _ _ (by decide +kernel))
  · exact wpAny_getItem_list hl (by decide) (by decide) rfl (h _ _ (by decide +kernel))
  · exact wpAny_getItem_list hl (by decide) (by decide) rfl (h _ _ (by decide +kernel))
theorem fmod_fmod4 (a : Int) : (a.fmod 4).fmod 4 = a.fmod 4 := by
  have h1 : 0 ≤ a.fmod 4 ∧ a.fmod 4 < 4 := ⟨Int.fmod_nonneg_of_pos _ (by decide), Int.fmod_lt_of_pos _ (by decide)⟩
  rw [Int.fmod_eq_emod_of_nonneg (a := a.fmod 4) (by decide)]
  omega
local macro_rules | `(tactic| walk_at "subscriptTail Name BinOp ref int") => `(tactic| (k_here; k_dflt ((refine' keys_at ?N ?m (fmod_fmod4 _) ?_; (case N => k_asm); (case m => k_mem)); intro x t hx)))
local macro_rules | `(tactic| walk_at "subscriptTail") => `(tactic| (k_here; k_dflt ((refine' keys_at ?N ?m (fmod_fmod4 _) ?_; (case N => k_asm); (case m => k_mem)); intro x t hx)))
local macro_rules | `(tactic| walk_at "subscriptTail") => `(tactic| (k_here; (with_reducible show wpAny _ _ (subscriptTail _ _ (Value.ref _) (Value.str _ _)) _ _ _); k_dflt ((refine' kda_item (knd := PySem.strKind _ _) ?N ?m ?d (strKind_is _ _ _ _) ?v ?_; (case N => k_asm); (case m => k_mem); (case d => with_reducible assumption); (case v => with_reducible assumption)))))
local macro_rules | `(tactic| walk_at "setItem ref str") => `(tactic| (k_here; k_dflt ((refine' kda_set (knd := PySem.strKind _ _) ?F ?N ?U ?hd (strKind_is _ _ _ _) ?z ?_; (case F => with_reducible assumption); (case N => with_reducible assumption); (case U => k_updF); (case hd => with_reducible assumption); (case z => rw [sizeLine_eq]; omega)); intro h8 oc2 F8 N8 hd8; (try dsimp only [List.nil_append, List.cons_append] at N8); k_sweep; (try dsimp only))))
local macro_rules | `(tactic| walk_at "setItem ref") => `(tactic| (k_here; k_dflt ((refine' kda_set (knd := PySem.strKind _ _) ?F ?N ?U ?hd (strKind_is _ _ _ _) ?z ?_; (case F => with_reducible assumption); (case N => with_reducible assumption); (case U => k_updF); (case hd => with_reducible assumption); (case z => rw [sizeLine_eq]; omega)); intro h8 oc2 F8 N8 hd8; (try dsimp only [List.nil_append, List.cons_append] at N8); k_sweep; (try dsimp only))))
local macro_rules | `(tactic| walk_at "call builtin:len") => `(tactic| (k_here; k_dflt ((refine' kda_len (knd := PySem.strKind _ _) ?N ?m ?d ?lo ?f ?_; (case N => k_asm); (case m => k_mem); (case d => with_reducible assumption); (case lo => with_reducible assumption); (case f => omega)))))
local macro_rules | `(tactic| walk_at "compareOp In str ref") => `(tactic| (k_here; k_dflt ((refine' kda_in (knd := PySem.strKind _ _) ?N ?m ?d ?lo (strKind_is _ _ _ _) _ rfl ?_; (case N => k_asm); (case m => k_mem); (case d => with_reducible assumption); (case lo => with_reducible assumption)))))
theorem add_pieces {prog : Program} {w : World} {A : Around} {E : Value → Shared → Prop} {s : Shared} {g : Heap} {L a b : Addr} {m : Str → Option Value} {news : List (Addr × Obj)} {vs us : List Value} {c c' : Nat} {Q : Value → Shared → Prop} (F : Fr g L s.heap m) (N : News g L s.heap news)
    (ha : (a, listOf (List.toArray vs) c) ∈ news) (hb : (b, listOf (List.toArray us) c') ∈ news) (hz : vs.length + us.length ≤ sizeLine)
    (h : ∀ D h', Fr g L h' m → News g L h' ((D, listOf (List.toArray (vs ++ us)) 0) :: news) → (∀ p ∈ news, p.1 < D) → Q (.ref D) { s with heap := h' }) : wpAny (model prog w) A (binaryOp .Add (.ref a) (.ref b)) Q E s :=
  add_lists (vs := vs) (ws := us) (hsz := hz) F N ⟨_, (N _ ha).1, rfl, _, rfl⟩ ⟨_, (N _ hb).1, rfl, _, rfl⟩ fun h' F' N' => h _ h' F' N' fun p hp => Heap.lt_size (N p hp).1
local macro_rules | `(tactic| walk_at "binaryOp Add ref ref") => `(tactic| (k_here; k_dflt ((refine' add_pieces ?F ?N ?a ?b ?z ?_; (case F => k_asm); (case N => k_asm); (case a => k_mem); (case b => k_mem); (case z => rw [sizeLine_eq]; simp only [List.length_cons, List.length_nil]; omega)); intro D h' F' N' l1; k_lt l1; k_sweep; (try dsimp only))))
local macro_rules | `(tactic| walk_at "compareOp NotIn str ref") => `(tactic| (k_here; k_dflt ((refine' kdg_notin (knd := PySem.strKind _ _) ?N ?m ?d ?lo (strKind_is _ _ _ _) _ rfl ?_; (case N => k_asm); (case m => k_mem); (case d => with_reducible assumption); (case lo => with_reducible assumption)))))
/-- after the pieces' first statement -/
def StartP (prog : Program) (w : World) (s : Shared) (g : Heap) (L' l d pl : Addr) (k1 k2 k3 k4 : Tok) (ver : Str) (tv : Tok) (oo : Obj) (z : Int) (fl : Flow) (s' : Shared) : Prop :=
  fl = .next ∧ ∃ (h' : Heap) (tk' : Nat) (m : Str → Option Value) (Pl Dn : Addr) (vn : List Value) (cn : Nat), s' = { s with heap := h', toks := tk' } ∧
    Fr g L' h' (fun y => if y = Str.ofString "pieces" then some (.ref Pl) else if y = Str.ofString "options" then some (.ref d) else if y = Str.ofString "version" then some (.str ver tv) else m y) ∧
    News g L' h' [(Pl, listOf (List.toArray [.ref Dn]) 0), (Dn, listOf (List.toArray vn) cn), (d, oo), (l, keysObj k1 k2 k3 k4)] ∧ IntsAre vn [0, z] ∧ @LT.lt Nat _ Dn Pl ∧ @LT.lt Nat _ d Pl ∧ @LT.lt Nat _ l Pl ∧ @Ne Nat d Dn ∧ @Ne Nat l Dn
theorem va_any (kvs : List (Str × Value)) (k : Str) : (valueAt kvs k).isSome = kvs.any (fun p => p.1 = k) := by
  unfold valueAt
  rw [Option.isSome_map, Bool.eq_iff_iff, List.find?_isSome, List.any_eq_true]
theorem setO_in {kvs : List (Str × Value)} {os : List (Str × Option Str)} {k : Str} {x : Option Str} (hO : Opts kvs os) (h : (valueAt kvs k).isSome = true) : ((setO os k x).length : Int) = kvs.length + 0 := by
  rw [va_any, opts_any k hO] at h
  unfold setO
  rw [if_pos h, List.length_map, hO.length]; omega
theorem setO_out {kvs : List (Str × Value)} {os : List (Str × Option Str)} {k : Str} {x : Option Str} (hO : Opts kvs os) (h : ¬ (valueAt kvs k).isSome = true) : ((setO os k x).length : Int) = kvs.length + 1 := by
  rw [va_any, opts_any k hO] at h
  unfold setO
  rw [if_neg h, List.length_append, hO.length]; simp
theorem setO_none {kvs : List (Str × Value)} {os : List (Str × Option Str)} {k : Str} {x : Option Str} (hO : Opts kvs os) (h : valueAt kvs k = none) : ((setO os k x).length : Int) = kvs.length + 1 :=
  setO_out hO (by rw [h]; simp)
theorem setO_false {kvs : List (Str × Value)} {os : List (Str × Option Str)} {k : Str} {x : Option Str} (hO : Opts kvs os) (h : (valueAt kvs k).isSome = false) : ((setO os k x).length : Int) = kvs.length + 1 :=
  setO_out hO (by rw [h]; exact Bool.false_ne_true)
/-- the pieces of the options, one behind the other -/
def flatP (ver : Str) : List (Str × Option Str) → List (Option (List Int))
  | [] => []
  | (k, o) :: r => some (short k) :: (if k = cqlV then some (short ver) else o.map short) :: flatP ver r
theorem flatP_app (ver : Str) : ∀ (a b : List (Str × Option Str)), flatP ver (a ++ b) = flatP ver a ++ flatP ver b
  | [], _ => rfl
  | (k, o) :: r, b => by simp [flatP, flatP_app ver r b]
theorem dictAt_obj {h h' : Heap} {prog : Program} {w : World} {d : Addr} {oo : Obj} {kvs : List (Str × Value)} {ep : Nat} (x : h.DictAt (PySem.strKind prog w) d kvs ep) (e : h.get? d = some oo) (e' : h'.get? d = some oo) : h'.DictAt (PySem.strKind prog w) d kvs ep := by
  refine x.at' fun o eo => ?_
  rw [e] at eo
  rw [e']; exact eo
theorem valueAt_of : ∀ {kvs : List (Str × Value)} {i : Nat} {k : Str} {v : Value}, (kvs.map (·.1)).Nodup → kvs[i]? = some (k, v) → valueAt kvs k = some v
  | [], i, k, v, _, h => by simp at h
  | (k', v') :: r, 0, k, v, _, h => by
    simp only [List.getElem?_cons_zero, Option.some.injEq, Prod.mk.injEq] at h
    obtain ⟨rfl, rfl⟩ := h
    simp [valueAt]
  | (k', v') :: r, i + 1, k, v, hn, h => by
    simp only [List.map_cons, List.nodup_cons] at hn
    simp only [List.getElem?_cons_succ] at h
    have ih := valueAt_of hn.2 h
    have hne : k' ≠ k := fun e => hn.1 (e ▸ List.mem_map.mpr ⟨(k, v), List.mem_of_getElem? h, rfl⟩)
    unfold valueAt at ih ⊢
    rw [List.find?_cons_of_neg (by simpa using hne)]
    exact ih
abbrev kiObj (d : Addr) (i n ep : Nat) : Obj := { cls := .type "dict_keyiterator", data := .fields #[.ref d, .int i 0, .int n 0, .int ep 0] }
def StartK (prog : Program) (w : World) (s : Shared) (g : Heap) (L' d I Pl : Addr) (oo : Obj) (kvs : List (Str × Value)) (os : List (Str × Option Str)) (ver : Str) (tv : Tok) (ep : Nat) (z : Int) (i : Nat) (s' : Shared) : Prop :=
  ∃ (h' : Heap) (tk' : Nat) (m : Str → Option Value) (c' : Nat) (pw : List Value) (pcs : List (Addr × Obj)) (oI : Obj), s' = { s with heap := h', toks := tk' } ∧
    Fr g L' h' (fun y => if y = Str.ofString "pieces" then some (.ref Pl) else if y = Str.ofString "options" then some (.ref d) else if y = Str.ofString "version" then some (.str ver tv) else m y) ∧
    News g L' h' ((Pl, listOf (List.toArray pw) c') :: (I, oI) :: (d, oo) :: pcs) ∧ oI.cls = .type "dict_keyiterator" ∧ oI.data = .fields #[.ref d, .int i 0, .int kvs.length 0, .int ep 0] ∧
    Pieces pcs pw (some [0, z] :: flatP ver (os.take i)) ∧ (∀ q ∈ pcs, q.1 ≠ Pl ∧ q.1 ≠ I ∧ q.1 ≠ d)
theorem flatP_len (ver : Str) : ∀ (a : List (Str × Option Str)), (flatP ver a).length = 2 * a.length
  | [] => rfl
  | (k, o) :: r => by simp [flatP, flatP_len ver r]; omega
theorem post2_ne {P I d : Addr} {x y : Obj} {pcs : List (Addr × Obj)} (a : P ≠ I) (b : @LT.lt Nat _ d P) (hq : ∀ q ∈ pcs, q.1 ≠ P ∧ q.1 ≠ I ∧ q.1 ≠ d) : ∀ p ∈ (I, x) :: (d, y) :: pcs, p.1 ≠ P := fun p hp => by
  rcases List.mem_cons.mp hp with rfl | hp
  · exact Ne.symm a
  rcases List.mem_cons.mp hp with rfl | hp
  · exact Nat.ne_of_lt b
  · exact (hq p hp).1
theorem startk_step {prog : Program} {w : World} {s : Shared} {g h6 : Heap} {L' d I Pl : Addr} {oo oJ : Obj} {kvs : List (Str × Value)} {os : List (Str × Option Str)} {ver k : Str} {tv : Tok} {ep i tk c' : Nat} {z : Int} {m6 : Str → Option Value} {pw : List Value} {pre pcs : List (Addr × Obj)} {a b : Value} {o : Option Str}
    (F : Fr g L' h6 m6) (f1 : m6 (Str.ofString "pieces") = some (.ref Pl)) (f2 : m6 (Str.ofString "options") = some (.ref d)) (f3 : m6 (Str.ofString "version") = some (.str ver tv))
    (N : News g L' h6 (pre ++ (Pl, listOf (List.toArray (pw ++ [a] ++ [b])) c') :: (I, oJ) :: (d, oo) :: pcs)) (e2 : oJ.cls = .type "dict_keyiterator") (e3 : oJ.data = .fields #[.ref d, .int (i + 1 : Nat) 0, .int kvs.length 0, .int ep 0])
    (hP : Pieces pcs pw (some [0, z] :: flatP ver (os.take i))) (ho : os[i]? = some (k, o)) (ha : PieceIs (pre ++ pcs) a (some (short k))) (hb : PieceIs (pre ++ pcs) b (if k = cqlV then some (short ver) else o.map short))
    (hq0 : ∀ q ∈ pre, q.1 ≠ Pl ∧ q.1 ≠ I ∧ q.1 ≠ d) (hq : ∀ q ∈ pcs, q.1 ≠ Pl ∧ q.1 ≠ I ∧ q.1 ≠ d) :
    StartK prog w s g L' d I Pl oo kvs os ver tv ep z (i + 1) { s with heap := h6, toks := tk } := by
  unfold StartK
  refine ⟨h6, tk, _, c', pw ++ [a] ++ [b], pre ++ pcs, oJ, rfl, fr_fact (fr_fact (fr_fact F f3) f2) f1, fun p hp => N p ?_, e2, e3, ?_, fun q h => ?_⟩
  · rcases List.mem_cons.mp hp with rfl | hp
    · exact List.mem_append_right _ List.mem_cons_self
    rcases List.mem_cons.mp hp with rfl | hp
    · exact List.mem_append_right _ (List.mem_cons_of_mem _ List.mem_cons_self)
    rcases List.mem_cons.mp hp with rfl | hp
    · exact List.mem_append_right _ (List.mem_cons_of_mem _ (List.mem_cons_of_mem _ List.mem_cons_self))
    rcases List.mem_append.mp hp with hp | hp
    · exact List.mem_append_left _ hp
    · exact List.mem_append_right _ (List.mem_cons_of_mem _ (List.mem_cons_of_mem _ (List.mem_cons_of_mem _ hp)))
  · rw [take_at ho, flatP_app, ← List.cons_append]
    have := ((hP.mono fun q h => List.mem_append_right pre h).snoc ha).snoc hb
    rw [List.append_assoc (some [0, z] :: flatP ver (os.take i))] at this
    exact this
  · rcases List.mem_append.mp h with h | h
    · exact hq0 q h
    · exact hq q h
/-- all the pieces of a STARTUP -/
def startPs (ver : Str) (os : List (Str × Option Str)) : List (Option (List Int)) :=
  some [0, ((setO os cqlV (some ver)).length : Int)] :: flatP ver os ++ (if os.any (fun p => p.1 = cqlV) then [] else [some (short cqlV), some (short ver)])
/-- what _law_startup hands back -/
def StartOut (prog : Program) (w : World) (h0 h' : Heap) (T : Addr) (ver : Str) (os : List (Str × Option Str)) : Prop :=
  ∃ (ms dm od Pl : Addr) (ha ha2 : Int) (ta ta2 tv : Tok) (oo : Obj) (kvs : List (Str × Value)) (pw : List Value) (cp : Nat) (pcs : List (Addr × Obj)),
    (∀ q ∈ (T, tupOf [.ref ms, .ref Pl, .ref od]) :: (ms, instObj 94 dm) :: (dm, dictOf [⟨ha, .str (Str.ofString "cqlversion") ta, .str ver tv⟩, ⟨ha2, .str (Str.ofString "options") ta2, .ref od⟩] 2) :: (Pl, listOf (List.toArray pw) cp) :: (od, oo) :: pcs, h'.get? q.1 = some q.2 ∧ h0.get? q.1 = none) ∧
    oo.IsDictOf (PySem.strKind prog w) kvs ∧ (od == sysModules) = false ∧ Opts kvs os ∧ os.length ≤ 4 ∧ ver ∈ texts ∧ @LT.lt Nat _ od dm ∧ @LT.lt Nat _ dm ms ∧ Pieces pcs pw (startPs ver os)
theorem startOut {prog : Program} {w : World} {h0 g h' : Heap} {L T ms dm od Pl : Addr} {ha ha2 : Int} {ta ta2 tv : Tok} {oo : Obj} {kvs : List (Str × Value)} {pw : List Value} {cp : Nat} {pcs all : List (Addr × Obj)} {ver : Str} {os : List (Str × Option Str)} (hg : g = hideAll h0 [])
    (N : News g L h' all) (hs : ∀ q ∈ (T, tupOf [.ref ms, .ref Pl, .ref od]) :: (ms, instObj 94 dm) :: (dm, dictOf [⟨ha, .str (Str.ofString "cqlversion") ta, .str ver tv⟩, ⟨ha2, .str (Str.ofString "options") ta2, .ref od⟩] 2) :: (Pl, listOf (List.toArray pw) cp) :: (od, oo) :: pcs, q ∈ all)
    (hd : oo.IsDictOf (PySem.strKind prog w) kvs) (lo : (od == sysModules) = false) (hO : Opts kvs os) (h4 : os.length ≤ 4) (hv : ver ∈ texts) (l1 : @LT.lt Nat _ od dm) (l2 : @LT.lt Nat _ dm ms) (hP : Pieces pcs pw (startPs ver os)) : StartOut prog w h0 h' T ver os :=
  ⟨ms, dm, od, Pl, ha, ha2, ta, ta2, tv, oo, kvs, pw, cp, pcs, fun q hq => ⟨(N q (hs q hq)).1, by subst hg; exact (N q (hs q hq)).2.2⟩, hd, lo, hO, h4, hv, l1, l2, hP⟩
theorem startOut2 {prog : Program} {w : World} {h0 g h' : Heap} {L T ms dm od Pl : Addr} {ha ha2 : Int} {ta ta2 tv : Tok} {oo : Obj} {kvs : List (Str × Value)} {pw : List Value} {cp : Nat} {pcs : List (Addr × Obj)} {x y p1 p2 : Addr × Obj} {ver : Str} {os : List (Str × Option Str)} (hg : g = hideAll h0 [])
    (N : News g L h' ((T, tupOf [.ref ms, .ref Pl, .ref od]) :: (ms, instObj 94 dm) :: (dm, dictOf [⟨ha, .str (Str.ofString "cqlversion") ta, .str ver tv⟩, ⟨ha2, .str (Str.ofString "options") ta2, .ref od⟩] 2) :: (Pl, listOf (List.toArray pw) cp) :: x :: p1 :: p2 :: y :: (od, oo) :: pcs))
    (hd : oo.IsDictOf (PySem.strKind prog w) kvs) (lo : (od == sysModules) = false) (hO : Opts kvs os) (h4 : os.length ≤ 4) (hv : ver ∈ texts) (l1 : @LT.lt Nat _ od dm) (l2 : @LT.lt Nat _ dm ms) (hP : Pieces (p1 :: p2 :: pcs) pw (startPs ver os)) : StartOut prog w h0 h' T ver os :=
  startOut (pcs := p1 :: p2 :: pcs) hg N (fun q hq => by
    rcases List.mem_cons.mp hq with rfl | hq
    · exact List.mem_cons_self
    refine List.mem_cons_of_mem _ ?_
    rcases List.mem_cons.mp hq with rfl | hq
    · exact List.mem_cons_self
    refine List.mem_cons_of_mem _ ?_
    rcases List.mem_cons.mp hq with rfl | hq
    · exact List.mem_cons_self
    refine List.mem_cons_of_mem _ ?_
    rcases List.mem_cons.mp hq with rfl | hq
    · exact List.mem_cons_self
    refine List.mem_cons_of_mem _ (List.mem_cons_of_mem _ ?_)
    rcases List.mem_cons.mp hq with rfl | hq
    · exact List.mem_cons_of_mem _ (List.mem_cons_of_mem _ (List.mem_cons_of_mem _ List.mem_cons_self))
    rcases List.mem_cons.mp hq with rfl | hq
    · exact List.mem_cons_self
    refine List.mem_cons_of_mem _ ?_
    rcases List.mem_cons.mp hq with rfl | hq
    · exact List.mem_cons_self
    exact List.mem_cons_of_mem _ (List.mem_cons_of_mem _ (List.mem_cons_of_mem _ hq))) hd lo hO h4 hv l1 l2 hP
theorem pieces_two {pcs : List (Addr × Obj)} {D1 D2 : Addr} {v1 v2 pw : List Value} {c1 c2 : Nat} {ps : List (Option (List Int))} {a b : List Int} (hP : Pieces pcs pw ps) (h1 : IntsAre v1 a) (h2 : IntsAre v2 b) :
    Pieces ((D2, listOf (List.toArray v2) c2) :: (D1, listOf (List.toArray v1) c1) :: pcs) (pw ++ [.ref D1, .ref D2]) (ps ++ [some a] ++ [some b]) := by
  have q1 := ((hP.mono (pcs' := (D2, listOf (List.toArray v2) c2) :: (D1, listOf (List.toArray v1) c1) :: pcs) fun q h => List.mem_cons_of_mem _ (List.mem_cons_of_mem _ h)).snoc (v := .ref D1) (p := some a) ⟨D1, v1, c1, rfl, List.mem_cons_of_mem _ List.mem_cons_self, h1⟩).snoc (v := .ref D2) (p := some b) ⟨D2, v2, c2, rfl, List.mem_cons_self, h2⟩
  rw [List.append_assoc pw] at q1
  exact q1
theorem startPs_in {ver : Str} {kvs : List (Str × Value)} {os : List (Str × Option Str)} (hO : Opts kvs os) (h : (valueAt kvs cqlV).isSome = true) : startPs ver os = some [0, ((setO os cqlV (some ver)).length : Int)] :: flatP ver os := by
  rw [va_any, opts_any cqlV hO] at h
  unfold startPs
  rw [if_pos h, List.append_nil]
theorem startPs_out {ver : Str} {kvs : List (Str × Value)} {os : List (Str × Option Str)} (hO : Opts kvs os) (h : (valueAt kvs cqlV).isSome = false) : startPs ver os = some [0, ((setO os cqlV (some ver)).length : Int)] :: flatP ver os ++ [some (short cqlV)] ++ [some (short ver)] := by
  rw [va_any, opts_any cqlV hO] at h
  unfold startPs
  rw [h, if_neg Bool.false_ne_true, List.append_assoc]
  rfl
theorem start_step {prog : Program} {w : World} {s : Shared} {g h8 : Heap} {L' l d I pl : Addr} {k1 k2 k3 k4 tv tm : Tok} {many : Int} {ver x : Str} {n i tk : Nat} {m8 : Str → Option Value} {news8 : List (Addr × Obj)} {oc2 : Obj} {kvs : List (Str × Value)} {os : List (Str × Option Str)} {v : Value} {o : Option Str}
    (hd8 : oc2.IsDictOf (PySem.strKind prog w) (stored kvs x v)) (F : Fr g L' h8 m8) (N : News g L' h8 news8) (hs : ∀ p ∈ [(d, oc2), (l, keysObj k1 k2 k3 k4), (I, ({ cls := .type "range_iterator", data := .fields #[rawInt (0 + ((i + 1 : Nat) : Int) * 1), rawInt ((n : Int) - ((i + 1 : Nat) : Int)), rawInt 1] } : Obj))], p ∈ news8)
    (e1 : m8 (Str.ofString "p") = some (.ref pl)) (e2 : m8 (Str.ofString "version") = some (.str ver tv)) (e3 : m8 (Str.ofString "keys") = some (.ref l)) (e4 : m8 (Str.ofString "options") = some (.ref d)) (e5 : m8 (Str.ofString "many") = some (.int many tm))
    (hO : Opts kvs os) (hl : os.length ≤ i) (hx : x ∈ texts) (hv : Item v o) : StartInv prog w s g L' l d k1 k2 k3 k4 many pl ver tv I n (i + 1) { s with heap := h8, toks := tk } := by
  unfold StartInv
  exact ⟨tm, h8, tk, _, oc2, _, _, setO os x o, rfl, fr_fact (fr_fact (fr_fact (fr_fact (fr_fact F e1) e2) e3) e4) e5, fun p hp => N p (hs p hp), rfl, hd8, opts_set hO hx hv, Nat.le_trans (setO_len _ _ _) (Nat.succ_le_succ hl)⟩

theorem law_startup {w : World} {base : Heap} {outer : List Env} {s : Shared} {R : Result → Shared → Prop} {pl : Addr} {pvs : List Value} {p0 p1 p2 p3 p4 p5 p6 : Int}
    (C : At w (Ar 870 4700 outer) base outer (hideAll s.heap [])) (hp : s.heap.IsList pl pvs.toArray) (hpi : IntsAre pvs [p0, p1, p2, p3, p4, p5, p6])
    (hR : ∀ T ver os h' tk, s.heap.StaysIn h' → StartOut PySem.Challenge.rw_fq5006_01.row.prog w s.heap h' T ver os → R (.ok (.ret (.ref T))) { s with heap := h', toks := tk }) :
    codeF (model PySem.Challenge.rw_fq5006_01.row.prog w) (Ar 870 4700 outer) (.call (.ref 806) ⟨[.ref pl], []⟩) R s := by
  w_top off
  (have hK := C.X; revert hK; k_fill; intro hK)
  k_dflt (refine' enterF (binds := [(Str.ofString "p", .ref pl)]) (news := []) C ?k2 ?k6 ?k7 ?k8 ?k9 ?kB ?c2 ?c3 ?c4 ?c5 ?_; walk_at "m_ent")
  · exact fun _ h => nomatch h
  intro g L' h₁ mean mg mb hg F N B X T
  have hpg : g.IsList pl pvs.toArray := by rw [hg]; exact hp
  clear hp
  (try dsimp only)
  with_reducible show wpF _ _ _ _ _ _
  have h1 : 0 ≤ p2.fmod 4 ∧ p2.fmod 4 < 4 := ⟨Int.fmod_nonneg_of_pos _ (by decide), Int.fmod_lt_of_pos _ (by decide)⟩
  k_steps
  rename IsRange _ _ _ _ _ _ _ _ => hr
  rename Fr _ _ _ _ => F0
  rename News _ _ _ _ => N0
  rename (_ == sysModules) = false => lo
  rename Obj.IsDictOf (PySem.strKind _ _) _ _ => hd
  rename _ ∈ texts => hver
  rename _ < _ => lt
  have em : (([p0, p1, p2, p3, p4, p5, p6].getD (Int.toNat 2) 0).fmod 4) = ((p2.fmod 4).toNat : Int) := by
    show p2.fmod 4 = _
    omega
  have hn3 : (p2.fmod 4).toNat ≤ 3 := by omega
  generalize (p2.fmod 4).toNat = n at em hn3
  rw [em] at hr F0
  refine wpAny_pyIter_range hr ?hsm ?_
  case hsm =>
    have hc : n = 0 ∨ n = 1 ∨ n = 2 ∨ n = 3 := by omega
    rcases hc with rfl | rfl | rfl | rfl <;> decide
  dsimp only
  rename_i ta ver tv hA tkA hkA hB l hC l1 hD d hE oo fs hi fi hF tB hG F1 N1 hH tkH tr ur vr hkeep
  clear F1 N1 fs hi fi hkA hkeep
  have hI0 := next_is_new F0
  have hLI := F0.ns.lt
  have n1 : @Ne Nat L' hH.objs.size := Nat.ne_of_lt hLI
  have n2 : @Ne Nat d hH.objs.size := Nat.ne_of_lt (Heap.lt_size (N0 _ List.mem_cons_self).1)
  have n3 : @Ne Nat l hH.objs.size := Nat.ne_of_lt (Heap.lt_size (N0 _ (List.mem_cons_of_mem _ List.mem_cons_self)).1)
  have hgt : (hH.push { cls := .type "range_iterator", data := .fields #[rawInt 0, rawInt (Builtin.Range.rangeSize 0 (n : Int) 1), rawInt 1] }).get? hH.objs.size = some _ := Heap.get?_push_size _ rfl
  have NP := N0.grown (h' := hH.push { cls := .type "range_iterator", data := .fields #[rawInt 0, rawInt (Builtin.Range.rangeSize 0 (n : Int) 1), rawInt 1] }) fun _ _ e => Heap.get?_push_of_some _ e
  have FP := F0.push { cls := .type "range_iterator", data := .fields #[rawInt 0, rawInt (Builtin.Range.rangeSize 0 (n : Int) 1), rawInt 1] }
  rw [rangeSize_n] at hgt NP FP ⊢
  generalize hH.objs.size = I at n1 n2 n3 hI0 hgt NP FP ⊢
  refine codeF_forW (Walks.range rfl I 0 1 n) (StartInv PySem.Challenge.rw_fq5006_01.row.prog w s g L' l d (tkA + 1) (tkA + 1 + 1) (tkA + 1 + 1 + 1) (tkA + 1 + 1 + 1 + 1) n pl ver tv I n) ?hSt ?turn ?done ?h
  case h =>
    unfold StartInv
    refine ⟨_, _, _, _, oo, _, [], [], rfl, fr_fact (fr_fact (fr_fact (fr_fact (fr_fact FP (x := Str.ofString "p") (v := some (.ref pl)) rfl) (x := Str.ofString "version") (v := some (.str ver tv)) rfl) (x := Str.ofString "keys") (v := some (.ref l)) rfl) (x := Str.ofString "options") (v := some (.ref d)) rfl) (x := Str.ofString "many") (v := some (.int n _)) rfl, ?_, rfl, hd, .nil, Nat.le_refl _⟩
    intro p hp
    simp only [List.mem_cons, List.not_mem_nil, or_false] at hp
    rcases hp with rfl | rfl | rfl
    · exact NP _ List.mem_cons_self
    · exact NP _ (List.mem_cons_of_mem _ List.mem_cons_self)
    · exact ⟨by rw [hgt]; simp, Ne.symm n1, hI0⟩
  case hSt =>
    rintro i s' ⟨tm, h', tk', m, oo', oI, kvs, os, rfl, F1, N1, rfl, _⟩
    exact (N1 (I, _) (by simp)).1
  case turn =>
    rintro i s' v h3 tk3 hi ⟨tm, h', tk', m, oo', oI, kvs, os, rfl, F1, N1, rfl, hd', hO, hl⟩ ⟨tk5, rfl⟩ st hk
    have F2 := LCg.fr_but F1 hk n1 hI0
    have N2 : News g L' h3 [(d, oo'), (l, keysObj (tkA + 1) (tkA + 1 + 1) (tkA + 1 + 1 + 1) (tkA + 1 + 1 + 1 + 1)), (I, _)] := fun p hp => by
      have up : ∀ q ∈ [(d, oo'), (l, keysObj (tkA + 1) (tkA + 1 + 1) (tkA + 1 + 1 + 1) (tkA + 1 + 1 + 1 + 1))], q.1 ≠ I → News g L' h3 [q] := fun q hq' hne => LCg.news_but (news := [q]) (fun r hr => N1 r (by rw [List.mem_singleton.mp hr]; exact List.mem_append_left [_] hq')) hk (fun r hr => by rw [List.mem_singleton.mp hr]; exact hne)
      simp only [List.mem_cons, List.not_mem_nil, or_false] at hp
      rcases hp with rfl | rfl | rfl
      · exact up _ List.mem_cons_self n2 _ List.mem_cons_self
      · exact up _ (List.mem_cons_of_mem _ List.mem_cons_self) n3 _ List.mem_cons_self
      · exact ⟨st, Ne.symm n1, hI0⟩
    clear F1 N1 F0 N0 FP NP hk hgt hd
    refine wpAny_of_eq rfl ?_
    refine wpAny_assign_Name (stN F2 N2 (fun h4 F3 N3 => ?_))
    clear F2 N2
    dsimp only
    refine wpF_of_any ?_
    have hl3 := hO.length
    have hi3 : i < 3 := by omega
    k_steps
    all_goals (
      (try dsimp only)
      rename Obj.IsDictOf _ _ (stored _ _ _) => hdz
      rename News _ _ _ _ => Nz
      rename Fr _ _ _ _ => Fz
      first
        | exact start_step (o := none) hdz Fz Nz (fun p hp => by first | exact hp | exact List.mem_cons_of_mem _ hp) rfl rfl rfl rfl rfl hO hl (by assumption) (Or.inl rfl)
        | exact start_step (o := none) hdz Fz Nz (fun p hp => by first | exact hp | exact List.mem_cons_of_mem _ hp) rfl rfl rfl rfl rfl hO hl (by assumption) (Or.inr ⟨_, _, rfl⟩)
        | exact start_step (o := some _) hdz Fz Nz (fun p hp => by first | exact hp | exact List.mem_cons_of_mem _ hp) rfl rfl rfl rfl rfl hO hl (by assumption) (And.intro (by assumption) (by assumption)))
  case done =>
    rintro s' h3 tk3 ⟨tm, h', tk', m, oo', oI, kvs, os, rfl, F1, N1, rfl, hd', hO, hl⟩ hk
    have F2 := LCg.fr_but F1 hk n1 hI0
    have N2 : News g L' h3 [(d, oo'), (l, keysObj (tkA + 1) (tkA + 1 + 1) (tkA + 1 + 1 + 1) (tkA + 1 + 1 + 1 + 1))] := fun p hp => by
      have up : ∀ q ∈ [(d, oo'), (l, keysObj (tkA + 1) (tkA + 1 + 1) (tkA + 1 + 1 + 1) (tkA + 1 + 1 + 1 + 1))], q.1 ≠ I → News g L' h3 [q] := fun q hq' hne => LCg.news_but (news := [q]) (fun r hr => N1 r (by rw [List.mem_singleton.mp hr]; exact List.mem_append_left [_] hq')) hk (fun r hr => by rw [List.mem_singleton.mp hr]; exact hne)
      simp only [List.mem_cons, List.not_mem_nil, or_false] at hp
      rcases hp with rfl | rfl
      · exact up _ List.mem_cons_self n2 _ List.mem_cons_self
      · exact up _ (List.mem_cons_of_mem _ List.mem_cons_self) n3 _ List.mem_cons_self
    clear F1 N1 F0 N0 FP NP hk hgt hd
    have hl3 := hO.length
    (try dsimp only)
    refine wpF_splitAt 1 ?_
    refine wpAny_mono (Q := StartP PySem.Challenge.rw_fq5006_01.row.prog w s g L' l d pl (tkA + 1) (tkA + 1 + 1) (tkA + 1 + 1 + 1) (tkA + 1 + 1 + 1 + 1) ver tv oo' ((setO os cqlV (some ver)).length : Nat)) ?pc ?rest (fun _ _ x => x)
    case pc =>
      show wpAny _ _ (execs [_] _) _ _ _
      k_steps
      all_goals (
        rename News _ _ _ _ => Nz
        rename Fr _ _ _ _ => Fz
        rename IntsAre _ _ => hIz
        rename _ < _ ∧ _ => la
        rename _ ≠ _ ∧ _ => lb
        unfold StartP
        refine ⟨rfl, _, _, _, _, _, _, _, rfl, fr_fact (fr_fact (fr_fact Fz (x := Str.ofString "version") (v := some (.str ver tv)) rfl) (x := Str.ofString "options") (v := some (.ref d)) rfl) (x := Str.ofString "pieces") (v := some (.ref _)) rfl, Nz, ?_, la.1, la.2.1, la.2.2, lb.1, lb.2⟩
        first
          | exact intsAre_eq hIz (by rw [setO_in (k := cqlV) (x := some ver) hO (by assumption)])
          | exact intsAre_eq hIz (by rw [setO_out (k := cqlV) (x := some ver) hO (by assumption)])
          | exact intsAre_eq hIz (by rw [setO_none (k := cqlV) (x := some ver) hO (by assumption)])
          | exact intsAre_eq hIz (by have hq := setO_in (k := Str.ofString "CQL_VERSION") (x := some ver) hO (by assumption); rw [show cqlV = Str.ofString "CQL_VERSION" from rfl, hq])
          | exact intsAre_eq hIz (by rw [setO_false (k := cqlV) (x := some ver) hO (by assumption)])
)
    case rest =>
      rintro fl s' ⟨rfl, h4, tk4, m4, Pl, Dn, vn, cn, rfl, F4, N4, hI4, q1, q2, q3, q4, q5⟩
      clear F2 N2
      show wpF _ _ (execs [_, _, _] _) _ _ _
      k_steps
      obtain ⟨ep, hat⟩ := (kda_dict (s := { s with heap := h4, toks := tk4 }) (d := d) (o := oo') N4 (by simp) hd').dictAt
      refine wpAny_pyIter_dict lo hat ?_
      replace hat : h4.DictAt (PySem.strKind PySem.Challenge.rw_fq5006_01.row.prog w) d kvs ep := hat
      dsimp only
      have hI1 := next_is_new F4
      have w1 : @Ne Nat L' h4.objs.size := Nat.ne_of_lt F4.ns.lt
      have w2 : @Ne Nat d h4.objs.size := Nat.ne_of_lt (Heap.lt_size (N4 (d, oo') (by simp)).1)
      have w3 : @Ne Nat Pl h4.objs.size := Nat.ne_of_lt (Heap.lt_size (N4 (Pl, _) List.mem_cons_self).1)
      have w4 : @Ne Nat Dn h4.objs.size := Nat.ne_of_lt (Nat.lt_trans q1 (Heap.lt_size (N4 (Pl, _) List.mem_cons_self).1))
      have hgt : (h4.push (kiObj d 0 kvs.length ep)).get? h4.objs.size = some (kiObj d 0 kvs.length ep) := Heap.get?_push_size _ rfl
      have NP := N4.grown (h' := h4.push (kiObj d 0 kvs.length ep)) fun _ _ e => Heap.get?_push_of_some _ e
      have FP := F4.push (kiObj d 0 kvs.length ep)
      have hod := (N4 (d, oo') (by simp)).1
      generalize h4.objs.size = I2 at w1 w2 w3 w4 hI1 hgt NP FP ⊢
      refine codeF_forW (Walks.dictKeys (knd := PySem.strKind PySem.Challenge.rw_fq5006_01.row.prog w) rfl I2 d w2 kvs ep) (StartK PySem.Challenge.rw_fq5006_01.row.prog w s g L' d I2 Pl oo' kvs os ver tv ep ((setO os cqlV (some ver)).length : Nat)) ?kSt ?kturn ?kdone ?kh
      case kh =>
        unfold StartK
        refine ⟨_, _, _, 0, _, [(Dn, listOf (List.toArray vn) cn)], kiObj d 0 kvs.length ep, rfl, FP, ?_, rfl, rfl, .cons ⟨Dn, vn, cn, rfl, by simp, hI4⟩ .nil, fun q hq => ?_⟩
        · intro p hp
          simp only [List.mem_cons, List.not_mem_nil, or_false] at hp
          rcases hp with rfl | rfl | rfl | rfl
          · exact NP _ (by simp)
          · exact ⟨hgt, Ne.symm w1, hI1⟩
          · exact NP _ (by simp)
          · exact NP _ (by simp)
        · rw [List.mem_singleton.mp hq]; exact ⟨Nat.ne_of_lt q1, w4, Ne.symm q4⟩
      case kSt =>
        rintro i s' ⟨h', tk', m', c', pw, pcs, oI, rfl, F1, N1, c1, c2, _⟩
        exact ⟨⟨oI, (N1 (I2, oI) (by simp)).1, c1, c2⟩, dictAt_obj hat hod (N1 (d, oo') (by simp)).1⟩
      case kturn =>
        rintro i s' v h3 tk3 hi ⟨h', tk', m', c', pw, pcs, oI, rfl, F1, N1, c1, c2, hP, hq⟩ ⟨k, x, hkv, hkey⟩ ⟨⟨oJ, e1, e2, e3⟩, _⟩ hk
        obtain ⟨tk5, rfl⟩ := Value.isStrOf_shape hkey
        obtain ⟨hkt, o', ho, hio⟩ := hO.at hkv
        have hva := valueAt_of hat.nodup hkv
        have F2 := LCg.fr_but F1 hk w1 hI1
        have N2 : News g L' h3 ((Pl, listOf (List.toArray pw) c') :: (I2, oJ) :: (d, oo') :: pcs) := fun p hp => by
          rcases List.mem_cons.mp hp with rfl | hp
          · exact LCg.news_but (news := [_]) (fun q hq => N1 q (by rw [List.mem_singleton.mp hq]; exact List.mem_cons_self)) hk (fun q hq => by rw [List.mem_singleton.mp hq]; exact w3) _ List.mem_cons_self
          rcases List.mem_cons.mp hp with rfl | hp
          · exact ⟨e1, Ne.symm w1, hI1⟩
          · have z := N1 p (List.mem_cons_of_mem _ (List.mem_cons_of_mem _ hp))
            refine ⟨hk _ _ (fun hm => ?_) z.1, z.2⟩
            rw [List.mem_singleton] at hm
            rcases List.mem_cons.mp hp with rfl | hp
            · exact w2 hm
            · exact (hq p hp).2.1 hm
        clear F1 N1 F4 N4 FP NP hk hgt hat
        refine wpAny_of_eq rfl ?_
        refine wpAny_assign_Name (stN F2 N2 (fun h4 F3 N3 => ?_))
        clear F2 N2
        dsimp only
        refine wpF_of_any ?_
        have hthk : Thing k (.str k tk5) := .inl ⟨_, rfl⟩
        have hthv : Thing ver (.str ver tv) := .inl ⟨_, rfl⟩
        have hi4 : i < 4 := by omega
        cases hkc : (k == Str.ofString "CQL_VERSION") with
        | true =>
          k_steps
          rename Fr _ _ _ _ => F5
          rename News _ _ _ _ => N5
          rename IntsAre _ _ => hIs1
          with_reducible show Held _
          unfold Held
          rename _ ≠ _ ∧ _ => lb1
          refine' appendN (pre := [_]) (P := Pl) (c := c') F5 N5 ?mm1 ?mm2 ?mmz ?_
          case mm1 =>
            intro p hp
            rw [List.mem_singleton.mp hp]
            exact Ne.symm lb1.1
          case mm2 => exact post2_ne w3 q2 hq
          case mmz => have e1 := hP.length; have e2 := flatP_len ver (os.take i); simp at e1 e2; rw [sizeLine_eq]; omega
          intro h6 F6 N6
          simp only [List.cons_append, List.nil_append] at N6
          clear F5 N5
          (try dsimp only)
          k_steps
          rename Fr _ _ _ _ => F5
          rename News _ _ _ _ => N5
          rename _ < _ ∧ _ => la2
          rename IntsAre _ _ => hIs2
          with_reducible show Held _
          unfold Held
          rename _ ≠ _ ∧ _ => lb2
          refine' appendN (pre := [_, _, _]) (P := Pl) (c := c' + 1) F5 N5 ?oo1 ?oo2 ?ooz ?_
          case oo1 =>
            intro p hp
            simp only [List.mem_cons, List.not_mem_nil, or_false] at hp
            rcases hp with rfl | rfl | rfl
            · exact Ne.symm lb2.2.2.1
            · exact Ne.symm (Nat.ne_of_lt la2.2.1)
            · exact Ne.symm lb1.1
          case oo2 => exact post2_ne w3 q2 hq
          case ooz => have e1 := hP.length; have e2 := flatP_len ver (os.take i); simp at e1 e2; rw [sizeLine_eq]; simp; omega
          intro h8 F8 N8
          clear F5 N5
          (try dsimp only)
          k_steps
          (try dsimp only)
          refine startk_step (pre := [_, _, _]) F8 rfl rfl rfl N8 e2 e3 hP ho ⟨_, _, _, rfl, List.mem_append_left _ (List.mem_cons_of_mem _ (List.mem_cons_of_mem _ List.mem_cons_self)), hIs1⟩ ?_ (fun q hm => ?_) hq
          · rw [if_pos (show k = cqlV from eq_of_beq hkc)]
            exact ⟨_, _, _, rfl, List.mem_append_left _ List.mem_cons_self, hIs2⟩
          · simp only [List.mem_cons, List.not_mem_nil, or_false] at hm
            rcases hm with rfl | rfl | rfl
            · exact ⟨Ne.symm lb2.2.2.1, Ne.symm lb2.2.2.2.1, Ne.symm lb2.2.2.2.2.1⟩
            · exact ⟨Ne.symm (Nat.ne_of_lt la2.2.1), Ne.symm (Nat.ne_of_lt la2.2.2.1), Ne.symm (Nat.ne_of_lt la2.2.2.2.1)⟩
            · exact ⟨Ne.symm lb1.1, Ne.symm lb1.2.1, Ne.symm lb1.2.2.1⟩
        | false =>
          have hkn : ¬ k = cqlV := fun e => by rw [e] at hkc; exact absurd hkc (by decide)
          cases o' with
          | some y =>
            obtain ⟨hyt, hth⟩ := hio
            have hth' := hth
            rcases hth with ⟨t, rfl⟩ | ⟨t, rfl⟩
            all_goals (
              k_steps
              rename Fr _ _ _ _ => F5
              rename News _ _ _ _ => N5
              rename IntsAre _ _ => hIs1
              with_reducible show Held _
              unfold Held
              rename _ ≠ _ ∧ _ => lb1
              refine' appendN (pre := [_]) (P := Pl) (c := c') F5 N5 ?mm1 ?mm2 ?mmz ?_
              case mm1 =>
                intro p hp
                rw [List.mem_singleton.mp hp]
                exact Ne.symm lb1.1
              case mm2 => exact post2_ne w3 q2 hq
              case mmz => have e1 := hP.length; have e2 := flatP_len ver (os.take i); simp at e1 e2; rw [sizeLine_eq]; omega
              intro h6 F6 N6
              simp only [List.cons_append, List.nil_append] at N6
              clear F5 N5
              (try dsimp only)
              k_steps
              rename Fr _ _ _ _ => F5
              rename News _ _ _ _ => N5
              rename _ < _ ∧ _ => la2
              rename IntsAre _ _ => hIs2
              with_reducible show Held _
              unfold Held
              rename _ ≠ _ ∧ _ => lb2
              refine' appendN (pre := [_, _, _]) (P := Pl) (c := c' + 1) F5 N5 ?oo1 ?oo2 ?ooz ?_
              case oo1 =>
                intro p hp
                simp only [List.mem_cons, List.not_mem_nil, or_false] at hp
                rcases hp with rfl | rfl | rfl
                · exact Ne.symm lb2.2.2.1
                · exact Ne.symm (Nat.ne_of_lt la2.2.1)
                · exact Ne.symm lb1.1
              case oo2 => exact post2_ne w3 q2 hq
              case ooz => have e1 := hP.length; have e2 := flatP_len ver (os.take i); simp at e1 e2; rw [sizeLine_eq]; simp; omega
              intro h8 F8 N8
              clear F5 N5
              (try dsimp only)
              k_steps
              (try dsimp only)
              refine startk_step (pre := [_, _, _]) F8 rfl rfl rfl N8 e2 e3 hP ho ⟨_, _, _, rfl, List.mem_append_left _ (List.mem_cons_of_mem _ (List.mem_cons_of_mem _ List.mem_cons_self)), hIs1⟩ ?_ (fun q hm => ?_) hq
              · rw [if_neg hkn]
                exact ⟨_, _, _, rfl, List.mem_append_left _ List.mem_cons_self, hIs2⟩
              · simp only [List.mem_cons, List.not_mem_nil, or_false] at hm
                rcases hm with rfl | rfl | rfl
                · exact ⟨Ne.symm lb2.2.2.1, Ne.symm lb2.2.2.2.1, Ne.symm lb2.2.2.2.2.1⟩
                · exact ⟨Ne.symm (Nat.ne_of_lt la2.2.1), Ne.symm (Nat.ne_of_lt la2.2.2.1), Ne.symm (Nat.ne_of_lt la2.2.2.2.1)⟩
                · exact ⟨Ne.symm lb1.1, Ne.symm lb1.2.1, Ne.symm lb1.2.2.1⟩)
          | none =>
            rcases hio with rfl | ⟨n9, t9, rfl⟩
            all_goals (
              k_steps
              rename Fr _ _ _ _ => F5
              rename News _ _ _ _ => N5
              rename IntsAre _ _ => hIs1
              with_reducible show Held _
              unfold Held
              rename _ ≠ _ ∧ _ => lb1
              refine' appendN (pre := [_]) (P := Pl) (c := c') F5 N5 ?mm1 ?mm2 ?mmz ?_
              case mm1 =>
                intro p hp
                rw [List.mem_singleton.mp hp]
                exact Ne.symm lb1.1
              case mm2 => exact post2_ne w3 q2 hq
              case mmz => have e1 := hP.length; have e2 := flatP_len ver (os.take i); simp at e1 e2; rw [sizeLine_eq]; omega
              intro h6 F6 N6
              simp only [List.cons_append, List.nil_append] at N6
              clear F5 N5
              (try dsimp only)
              k_steps
              rename Fr _ _ _ _ => F5
              rename News _ _ _ _ => N5
              rename _ < _ ∧ _ => la2
              with_reducible show Held _
              unfold Held
              refine' appendN (pre := [_, _]) (P := Pl) (c := c' + 1) F5 N5 ?oo1 ?oo2 ?ooz ?_
              case oo1 =>
                intro p hp
                simp only [List.mem_cons, List.not_mem_nil, or_false] at hp
                rcases hp with rfl | rfl
                · exact Ne.symm (Nat.ne_of_lt la2.2.1)
                · exact Ne.symm lb1.1
              case oo2 => exact post2_ne w3 q2 hq
              case ooz => have e1 := hP.length; have e2 := flatP_len ver (os.take i); simp at e1 e2; rw [sizeLine_eq]; simp; omega
              intro h8 F8 N8
              clear F5 N5
              (try dsimp only)
              k_steps
              (try dsimp only)
              refine startk_step (pre := [_, _]) F8 rfl rfl rfl N8 e2 e3 hP ho ⟨_, _, _, rfl, List.mem_append_left _ (List.mem_cons_of_mem _ List.mem_cons_self), hIs1⟩ ?_ (fun q hm => ?_) hq
              · rw [if_neg hkn]
                exact ⟨_, rfl⟩
              · simp only [List.mem_cons, List.not_mem_nil, or_false] at hm
                rcases hm with rfl | rfl
                · exact ⟨Ne.symm (Nat.ne_of_lt la2.2.1), Ne.symm (Nat.ne_of_lt la2.2.2.1), Ne.symm (Nat.ne_of_lt la2.2.2.2.1)⟩
                · exact ⟨Ne.symm lb1.1, Ne.symm lb1.2.1, Ne.symm lb1.2.2.1⟩)
      case kdone =>
        rintro s' h3 tk3 ⟨h', tk', m', c', pw, pcs, oI, rfl, F1, N1, c1, c2, hP, hq⟩ hk
        rw [hl3, List.take_length] at hP
        have F2 := LCg.fr_but F1 hk w1 hI1
        have N2 : News g L' h3 ((Pl, listOf (List.toArray pw) c') :: (d, oo') :: pcs) := fun p hp => by
          have up : ∀ q ∈ (Pl, listOf (List.toArray pw) c') :: (I2, oI) :: (d, oo') :: pcs, q.1 ≠ I2 → News g L' h3 [q] := fun q hq' hne => LCg.news_but (news := [q]) (fun r hr => N1 r (by rw [List.mem_singleton.mp hr]; exact hq')) hk (fun r hr => by rw [List.mem_singleton.mp hr]; exact hne)
          rcases List.mem_cons.mp hp with rfl | hp
          · exact up _ (by simp) w3 _ List.mem_cons_self
          rcases List.mem_cons.mp hp with rfl | hp
          · exact up _ (by simp) w2 _ List.mem_cons_self
          · exact up _ (by simp [hp]) (hq p hp).2.1 _ List.mem_cons_self
        have hq2 : ∀ q ∈ pcs, q.1 ≠ Pl := fun q h => (hq q h).1
        clear F1 N1 F4 N4 FP NP hk hgt hq
        have hthv : Thing ver (.str ver tv) := .inl ⟨_, rfl⟩
        have hthc : Thing cqlV (.str (Str.ofString "CQL_VERSION") 0) := .inl ⟨_, rfl⟩
        have hpl := hP.length
        have hpz : pw.length ≤ 20 := by have e2 := flatP_len ver os; simp at hpl; omega
        (try dsimp only)
        k_steps
        · rename News _ _ _ _ => N9
          rename Fr _ _ _ _ => F9
          rename _ < _ => l22
          rename (valueAt _ _).isSome = true => hvs
          (try dsimp only at N9 F9)
          refine hR _ ver os _ _ (stays_hide (S := []) hg F9) (startOut (pcs := pcs) hg N9 (fun q hq => hq) hd' lo hO (by omega) hver ?_ l22 ?_)
          · rename _ < _ ∧ _ => z1
            clear z1
            rename _ < _ ∧ _ => z2
            exact z2.2.1
          · rw [startPs_in hO hvs]; exact hP
        · rename News _ _ _ _ => N9
          rename Fr _ _ _ _ => F9
          rename _ < _ => l22
          rename (valueAt _ _).isSome = false => hvs
          (try dsimp only at N9 F9)
          rename IntsAre _ ([0, ((KBw.bInts (u8 ver)).length : Int)] ++ KBw.bInts (u8 ver)) => hIv
          rename IntsAre _ ([0, ((KBw.bInts (u8 (Str.ofString "CQL_VERSION"))).length : Int)] ++ KBw.bInts (u8 (Str.ofString "CQL_VERSION"))) => hIc
          refine hR _ ver os _ _ (stays_hide (S := []) hg F9) (startOut2 hg N9 hd' lo hO (by omega) hver ?_ l22 ?_)
          · rename _ < _ ∧ _ => z1
            clear z1
            rename _ < _ ∧ _ => z2
            exact z2.2.2.2.2.2.1
          · rw [startPs_out hO hvs]
            exact pieces_two hP hIc hIv
end
/-! Assignments over the finer logic; a raise that is caught in a frame with cells -/
section
section
variable {prog : Program} {w : World} {A : Around} {E : Value → Shared → Prop} {s : Shared} {env : Env}
theorem wpF_Assign_Name {x : Str} {pos' : Pos} {value : Expr} {pos : Pos} {Q : Flow → Shared → Prop}
    (h : wpF (model prog w) A (eval value env) (fun v s₁ => wpAny (model prog w) A (storeName env x v) (fun _ => Q .next) E s₁) E s)
    (hs : swapsWith value (some (.Name x pos')) pos.line env = pure false := by rfl) :
    wpF (model prog w) A (exec (.Assign [.Name x pos'] value pos) env) Q E s := by
  rw [exec_Assign_Name env x pos' value pos hs]
  refine wpF_bindA (wpAny_standAt (wpF_bind (wpF_mono h (fun v s₁ h₁ => ?_) fun _ _ x => x)))
  exact wpF_of_any (wpAny_bind (wpAny_standAt (wpAny_bind (wpAny_bindName (wpAny_mono h₁ (fun _ _ x => wpAny_pure x) fun _ _ x => x)))))
theorem wpF_Assign_Tuple {elts : List Expr} {k} {tpos : Pos} {value : Expr} {pos : Pos} {Q : Flow → Shared → Prop}
    (h : wpF (model prog w) A (eval value env) (fun v s₁ => wpAny (model prog w) A (assign (.Tuple elts k tpos) env v) (fun _ => Q .next) E s₁) E s)
    (hs : swapsWithSole [.Tuple elts k tpos] value pos.line env = pure false := by rfl)
    (hw : swappedStores [.Tuple elts k tpos] value env = pure none := by rfl) :
    wpF (model prog w) A (exec (.Assign [.Tuple elts k tpos] value pos) env) Q E s := by
  rw [exec_Assign]
  refine wpF_bindA (wpAny_standAt ?_)
  rw [hs]
  refine wpF_bindA (wpAny_pure ?_)
  rw [if_neg (by decide)]
  refine wpF_bind (wpF_mono h (fun v s₁ h₁ => ?_) fun _ _ x => x)
  rw [hw]
  refine wpF_bindA (wpAny_pure ?_)
  show wpF (model prog w) A (do assignAll v [assign (.Tuple elts k tpos) env]; pure .next) Q E s₁
  exact wpF_bindA (wpAny_mono h₁ (fun _ _ x => wpF_pure x) fun _ _ x => x)
theorem wpF_Assign_Attribute {o : Expr} {attr : Str} {pos' : Pos} {value : Expr} {pos : Pos} {Q : Flow → Shared → Prop}
    (h : wpF (model prog w) A (eval value env) (fun v s₁ => wpAny (model prog w) A (eval o env) (fun ov s₂ => wpAny (model prog w) A (setAttr ov attr v) (fun _ => Q .next) E s₂) E s₁) E s)
    (hs : swapsWith value (some (.Attribute o attr pos')) pos.line env = pure false := by rfl) :
    wpF (model prog w) A (exec (.Assign [.Attribute o attr pos'] value pos) env) Q E s := by
  rw [plainObj_exec_Assign_Attribute o attr pos' value pos hs]
  refine wpF_bindA (wpAny_standAt (wpF_bind (wpF_mono h (fun v s₁ h₁ => ?_) fun _ _ x => x)))
  refine wpF_of_any (wpAny_bind ?_)
  rw [arm_assign_Attribute]
  refine wpAny_bind (wpAny_holding (wpAny_mono h₁ (fun ov s₂ h₂ => ?_) fun _ _ x => x))
  refine wpAny_bind (wpAny_standAt (wpAny_bind (wpAny_holding (wpAny_mono h₂ (fun _ s₃ h₃ => ?_) fun _ _ x => x))))
  exact wpAny_release (wpAny_pure h₃)
theorem wpF_IfExp {test body orelse : Expr} {pos : Pos} {Q : Value → Shared → Prop}
    (h : wpAny (model prog w) A (isTrue test env (eval test env)) (fun b s₁ => if b then wpF (model prog w) A (eval body env) Q E s₁ else wpF (model prog w) A (eval orelse env) Q E s₁) E s) :
    wpF (model prog w) A (eval (.IfExp test body orelse pos) env) Q E s := by
  rw [arm_eval_IfExp]
  refine wpF_bindA (wpAny_mono h (fun b s₁ h₁ => ?_) fun _ _ x => x)
  cases b <;> exact h₁
theorem callWithF_K0 {K : Frag} {pos : Pos} {f : Value} {first : List Value} {Q : Value → Shared → Prop} (X : K.In s.heap) (hk : keepIn K f = true)
    (h : wpF (model prog w) A (call f (first ++ [])) Q E s) :
    wpF (model prog w) A (callWith pos f first (backTo pos (starEach [] env)) []) Q E s :=
  callWithF_of (P := K.In) (by rfl) (keeps_K hk) (by
    show wpAny _ _ (evalArgs f true [] []) _ _ _
    unfold evalArgs
    exact wpAny_pure ⟨X, h⟩)
theorem callWithF_T0 {pos : Pos} {T : String} {first : List Value} {Q : Value → Shared → Prop}
    (h : wpF (model prog w) A (call (.type T) (first ++ [])) Q E s) :
    wpF (model prog w) A (callWith pos (.type T) first (backTo pos (starEach [] env)) []) Q E s :=
  callWithF_of (P := fun _ => True) (by rfl) (fun _ _ => ⟨.machine, .inr (.inl rfl), Looks.of_pure rfl⟩) (by
    show wpAny _ _ (evalArgs (.type T) true [] []) _ _ _
    unfold evalArgs
    exact wpAny_pure ⟨trivial, h⟩)
end
section
variable {prog : Program} {w : World} {A₀ : Around} {E : Value → Shared → Prop} {s' : Shared} {h₀ h : Heap} {outer : List Env} {L e : Addr} {m : Str → Option Value} {env : Env}
  {b₀ : Stmt} {suite : List Stmt} {pos np : Pos} {rest : List ExceptHandler} {Q : Flow → Shared → Prop} {news : List (Addr × Obj)}
  {p : Program} {loose : List Str} {mean : ExcName → Option Value} {mg mb : Str → Option Value} {x : Str} {X T' : String}
/-- the library's caught_N0, in a frame of any kind of names -/
theorem caught_X0 (K : Below A₀ h₀ outer h₀) (F : Fr h₀ L h m) (hsm : h.UpToSlots s'.heap) (R : RaisedN h₀ (env :: outer) e (.type X) news s'.heap)
    (T : TopRead p loose mg mb h₀) (hv : bootBuiltins x = some (.type T'))
    (hexc : isSubtype (.type T') (.type "BaseException") = pure true) (hnt : isSubtype (.type ((Manifest.find? T').elim "type" fun y => y.metatype)) (.type "tuple") = pure false) (hsub : isSubtype (.type X) (.type T') = pure true)
    (hf : env.frame = some L) (hk : env.scope.kind = .function) (hx : env.kindOf x = some .globalImplicit) (hgl : env.globals = mainGlobals) (hgb : env.builtins = builtinsNs)
    (k : ∀ h', Fr h₀ L h' m → News h₀ L h' news → wpAny (model prog w) ((A₀.deeper env).mark (some (.ref e))) (execs (b₀ :: suite) env) Q (fun _ _ => False) { s' with heap := h' })
    (h1 : x ∉ startupNames := by decide +kernel) (h2 : x ∉ loose := by decide +kernel) (h3 : x ∉ (recsOf p).map (·.name) := by decide +kernel) (h4 : x ∉ (litsOf p).map (·.1) := by decide +kernel) (h4c : x ∉ (clssOf p loose).map (·.name) := by decide +kernel) (hn : x ≠ "__name__" := by decide +kernel)
    (hd : (x == ("__debug__" : Str)) = false := by decide) :
    wpAny (model prog w) (A₀.deeper env) (noteFrame (.ref e) env)
      (fun _ s₂ => wpAny (model prog w) (A₀.deeper env) (setFlight (.ref e) none) (fun _ s₃ =>
        wpAny (model prog w) (A₀.deeper env) (handleBy (.ref e) env (.ExceptHandler (some (.Name x np)) none (b₀ :: suite) pos :: rest)) Q E s₃) E s₂) E s' := by
  obtain ⟨B, a0, hB, hl, hfl⟩ := R
  have hL : B.get? L = none := by
    obtain ⟨_, ⟨L', _, hf', hn', _⟩, _⟩ := hfl.2.2.1
    rw [hf] at hf'
    obtain rfl : L = L' := Option.some.inj hf'
    exact hn'
  refine wpAny_looks_onW (Around.frames_deeper K.stack) hf hfl fun h₄ hheld₄ hsm₄ => ?_
  refine wpAny_landsW hheld₄ fun h₅ hheld hsm₅' => ?_
  have hsm₅ := hsm₄.trans hsm₅'
  have hheld' := flyingW_base hB hheld
  have F₅ := F.of_stays hheld'.1 (hsm.trans hsm₅)
  obtain ⟨ob, hob, hobc⟩ := hheld'.there
  refine wpAny_handleBy_builtin (X := X) (T := T') (b := true) hexc hnt hsub ?_
  refine Calls.Name_function_global hk hx (Calls.loadGlobal_builtin (hgl ▸ T.g.keeps F₅.keep) (T.free x h1 h2 h3 h4 h4c) (hgb ▸ T.b.keeps F₅.keep) ((T.builtins x hn).trans hv) ⟨rfl, ⟨ob, hob, hobc⟩, ?_⟩) hd
  refine lands_againW hheld fun h₆ hfl₆ hsm₆ => ?_
  have F₆ := F.of_stays (flyingW_base hB hfl₆).1 ((hsm.trans hsm₅).trans hsm₆)
  exact wpAny_noRaise (k h₆ F₆ fun q hq => ⟨hfl₆.1 _ _ (hl q hq).1, (fun z => by have := (hl q hq).1; rw [z, hL] at this; cases this), (hl q hq).2⟩)
end
end
section
section
variable {w : World} {h : Heap}
theorem io_made (X : (MineHead.hd.heap_39 w.params).In h) : Looks (model PySem.Challenge.rw_fq5006_01.row.prog w) h (Bind.madeBy (.ref 510)) none := Looks.of_peek X (by kernel_rfl)
theorem io_mro (X : (MineHead.hd.heap_39 w.params).In h) : Looks (model PySem.Challenge.rw_fq5006_01.row.prog w) h (mroOf (.ref 510)) [.ref 510, .ref 268, .ref 253, .type "object"] := Looks.of_peek X (by kernel_rfl)
theorem io_base1 (X : (MineHead.hd.heap_39 w.params).In h) : Looks (model PySem.Challenge.rw_fq5006_01.row.prog w) h (Builtin.Slots.bestBase [.ref 268]) (.ref 268) := Looks.of_peek X (by kernel_rfl)
theorem io_static (X : (MineHead.hd.heap_39 w.params).In h) : Looks (model PySem.Challenge.rw_fq5006_01.row.prog w) h (Bind.staticBase (.ref 510)) (.type "object") := Looks.of_peek X (by kernel_rfl)
theorem io_madeO (X : (MineHead.hd.heap_39 w.params).In h) : Looks (model PySem.Challenge.rw_fq5006_01.row.prog w) h (Bind.madeBy (.type "object")) (some "object.__new__") := Looks.of_peek X (by kernel_rfl)
theorem io_call (X : (MineHead.hd.heap_39 w.params).In h) : Looks (model PySem.Challenge.rw_fq5006_01.row.prog w) h (specialOf (.ref 510) "__call__") (some (.builtin "type.__call__")) := Looks.of_peek X (by kernel_rfl)
theorem io_typ (X : (MineHead.hd.heap_39 w.params).In h) : Looks (model PySem.Challenge.rw_fq5006_01.row.prog w) h (isInstance (.ref 510) (.type "type")) true := Looks.of_peek X (by kernel_rfl)
theorem io_self (X : (MineHead.hd.heap_39 w.params).In h) : Looks (model PySem.Challenge.rw_fq5006_01.row.prog w) h (isSubtype (.ref 510) (.ref 510)) true := Looks.of_peek X (by kernel_rfl)
theorem io_top (X : (MineHead.hd.heap_39 w.params).In h) : Looks (model PySem.Challenge.rw_fq5006_01.row.prog w) h (isSubtype (.ref 510) (.type "object")) true := Looks.of_peek X (by kernel_rfl)
theorem io_isType (X : (MineHead.hd.heap_39 w.params).In h) : Looks (model PySem.Challenge.rw_fq5006_01.row.prog w) h (isType (.ref 510)) true := Looks.of_peek X (by kernel_rfl)
theorem io_init (X : (MineHead.hd.heap_39 w.params).In h) : Looks (model PySem.Challenge.rw_fq5006_01.row.prog w) h (typeLookup (.ref 510) "__init__") (some (.ref 297)) := Looks.of_peek X (by kernel_rfl)
theorem io_here (X : (MineHead.hd.heap_39 w.params).In h) : Looks (model PySem.Challenge.rw_fq5006_01.row.prog w) h (Bind.madeHere "object.__new__" (.ref 510)) () := Looks.of_peek X (by kernel_rfl)
theorem io_newAttr {A : Around} {E : Value → Shared → Prop} {s : Shared} {Q : Value → Shared → Prop} {expr : Bool} (X : (MineHead.hd.heap_39 w.params).In s.heap) (h : Q (.ref 250) { s with toks := s.toks + 1 }) : wpAny (model PySem.Challenge.rw_fq5006_01.row.prog w) A (getAttr (.ref 510) "__new__" expr) Q E s :=
  cls_bind (mc := .type "type") (g := .builtin "staticmethod.__get__") (a := .ref 254) (obj := .none) (tp := .ref 510) X (by kernel_rfl) (by kernel_rfl) (wpAny_call (sm_get (s := { s with toks := s.toks + 1 }) (f := .ref 250) (rest := []) X (by kernel_rfl) (handed_on (by rfl) h)))
theorem io_obj (X : (MineHead.hd.heap_39 w.params).In h) : ∃ oc od cd sl, h.get? 510 = some ⟨oc, od, .cls cd, sl⟩ ∧ cd.abstract = false ∧ cd.hasDel = false := by
  have e : (match (MineHead.hd.heap_39 w.params).lookup 510 with | some ⟨_, _, .cls cd, _⟩ => !cd.abstract && !cd.hasDel | _ => false) = true := by kernel_rfl
  split at e
  · rename_i oc od cd sl ho
    simp only [Bool.and_eq_true, Bool.not_eq_true'] at e
    exact ⟨oc, od, cd, sl, X _ _ ho, e.1, e.2⟩
  · cases e
/-- object.__new__ of a class whose own __new__ is IOBase's -/
theorem io_objnew {A : Around} {s : Shared} {R : Result → Shared → Prop} (X : (MineHead.hd.heap_39 w.params).In s.heap)
    (hq : R (.ok (.ret (.ref (s.heap.objs.size + 1)))) { s with heap := (s.heap.push emptyDict).push (instObj 510 s.heap.objs.size) }) :
    codeAny (model PySem.Challenge.rw_fq5006_01.row.prog w) A (.call (.builtin "object.__new__") ⟨[.ref 510], []⟩) R s := by
  obtain ⟨h, g, d, t, os⟩ := s
  have F := PySem.F.objNew
  obtain ⟨oc, od, cd, sl, hC, e1, e2⟩ := io_obj X
  have here := io_here (w := w) X
  have typ := io_isType (w := w) X
  have top := io_top (w := w) X
  have typ2 := io_typ (w := w) X
  have base := io_static (w := w) X
  have made := io_madeO (w := w) X
  refine codeAny_call_builtin_code (Code.quiet_builtin _ F.quiet) ?_
  simp only [checkBuiltinCall, F.kind, F.split, F.row]
  have args : Bind.checkArgs "object.__new__" ⟨.hand, "object.__new__", "__new__", .cls, []⟩ ⟨[.ref 510], []⟩ = pure () := by kernel_rfl
  rw [args]
  repeat (first | simp only [bne_self_eq_false, Bool.false_eq_true, if_false] | lk)
  refine codeAny_builtin F.entry ?_
  unfold Builtin.«object.__new__»
  have fin : ∀ A', wpAny (model PySem.Challenge.rw_fq5006_01.row.prog w) A' (do
      let d ← if typeHasDict (.ref 510) then some <$> alloc { cls := .type "dict", data := .dict #[] } else pure none
      ret (← newObj (.ref 510) .plain d)) (fun fin s' => match fin with | .done f => R (.ok f) s' | .again c' => c'.quiet = true ∧ codeAny (model PySem.Challenge.rw_fq5006_01.row.prog w) A c' R s') (fun e s' => R (.error e) s') ⟨h, g, d, t, os⟩ := by
    intro A'
    show wpAny _ _ ((alloc emptyDict >>= fun x => pure (some x)) >>= _) _ _ _
    refine wpAny_bind (wpAny_bind (wpAny_alloc (wpAny_pure (wpAny_bind ?_))))
    show wpAny _ _ (newObjAsIs _ _ _) _ _ _
    unfold newObjAsIs classHasDel
    refine wpAny_bind (wpAny_alloc (wpAny_bind (wpAny_bind (wpAny_load (Heap.get?_push_of_some _ (Heap.get?_push_of_some _ hC)) (wpAny_pure ?_)))))
    rw [e2]
    refine wpAny_pure (wpAny_pure ?_)
    show R _ _
    rw [Heap.size_push]
    exact hq
  repeat (first | simp only [e1, Bool.false_eq_true, if_false] | exact fin _ | lk)
end
section
variable {w : World} {base : Heap} {outer : List Env} {s : Shared} {R : Result → Shared → Prop} {name qual : Str} {params : Arguments} {body : List Stmt} {scope : Scope} {dV kV doc pm cdv ct oc : Value} {an od : Option Addr} {osl : Array (Option Value)} {f : Addr} {args : Args} {bs : Value → Addr → List (Str × Value)} {dp un : Nat}
/-- a def with *args and **kwargs, called with neither -/
theorem enterStar (C : At w (Ar dp un outer) base outer s.heap)
    (ho : (MineHead.hd.heap_39 w.params).lookup f = some ⟨oc, od, .func (fnOf name qual params body scope dV kV doc pm an cdv ct), osl⟩) (hcd : codeIn (MineHead.hd.heap_39 w.params) cdv qual = true) (hroom : dp < recursionLimit)
    (hbind : bindArgs (fnOf name qual params body scope dV kV doc pm an cdv ct) args = (newTuple [] >>= fun t => alloc emptyDict >>= fun d => pure (bs t d))) (hloc : ∀ t d, ∀ y ∈ bs t d, scope.names.lookup y.1 = some .local)
    (hco : scope.isCoroutine = false) (hgen : scope.isGenerator = false) (hk : scope.kind = .function)
    (hcell : ∀ x ∈ scope.names, x.2 ≠ .cell)
    (h : ∀ g L' h₁ mean mg mb tA dA tk, g = hideAll s.heap [] → Fr g L' h₁ (fun y => (bs (.ref tA) dA).reverse.lookup y) → News g L' h₁ [(dA, emptyDict), (tA, { cls := .type "tuple", data := .seq #[] })] → Below (Ar dp un outer) base outer g → (MineHead.hd.heap_39 w.params).In g → Top MineHead.hd.view_39 LS mean mg mb g →
      wpAny (model PySem.Challenge.rw_fq5006_01.row.prog w) ((Ar dp un outer).deeper (envOf qual scope L' f cdv)) (execs body (envOf qual scope L' f cdv))
        (fun fl s' => R (.ok (.ret (match fl with | .ret v => v | _ => .none))) s')
        (fun e s' => wpAny (model PySem.Challenge.rw_fq5006_01.row.prog w) ((Ar dp un outer).deeper (envOf qual scope L' f cdv)) (leaving (envOf qual scope L' f cdv) e) (fun _ s'' => R (.error e) s'') (fun e' s'' => R (.error e') s'') s')
        { s with heap := h₁, toks := tk }) :
    codeAny (model PySem.Challenge.rw_fq5006_01.row.prog w) (Ar dp un outer) (.call (.ref f) args) R s := by
  obtain ⟨B, X, mean, mg, mb, T⟩ := C
  obtain ⟨hh, gs, dr, tk, os⟩ := s
  dsimp only at B X T h ⊢
  refine codeAny_call_function hroom (X _ _ ho) rfl hco hgen rfl (codeRec_of (fun a o e => X a o e) hcd) ?_
  rw [hbind]
  refine wpAny_bind (wpAny_newTuple (wpAny_bind (wpAny_alloc (wpAny_pure ?_))) (by simp))
  have up : ∀ b o, hh.get? b = some o → ((hh.push { cls := .type "tuple", data := .seq #[] }).push emptyDict).get? b = some o := fun b o e => Heap.get?_push_of_some _ (Heap.get?_push_of_some _ e)
  have hz : ((hh.push { cls := .type "tuple", data := .seq #[] }).push emptyDict).objs.size = hh.objs.size + 1 + 1 := by rw [Heap.size_push, Heap.size_push]
  refine wpAny_newFunctionEnv hcell (hloc _ _) (fun h₀ hns₀ hsb₀ => ?_) hk
  replace hsb₀ : Heap.SameBut ((hh.push { cls := .type "tuple", data := .seq #[] }).push emptyDict).objs.size (((hh.push { cls := .type "tuple", data := .seq #[] }).push emptyDict).push _) h₀ := hsb₀
  have ku : ∀ b o, ((hh.push { cls := .type "tuple", data := .seq #[] }).push emptyDict).get? b = some o → h₀.get? b = some o := fun b o e => hsb₀.extBut b o (Nat.ne_of_lt (Heap.lt_size e)) (Heap.get?_push_of_some _ e)
  have hnoL : h₀.NoLimit := (T.nolimit.keeps up).fresh _ hsb₀
  refine ⟨hnoL, codeAny_func ?_⟩
  refine h _ _ h₀ mean mg mb _ _ _ rfl ⟨hns₀, fun b o e => ku b o (up b o e), ?_⟩ (fun p hp => ?_) B X T
  · show hh.objs.size ≤ _
    rw [hz]; omega
  · simp only [List.mem_cons, List.not_mem_nil, or_false] at hp
    rcases hp with rfl | rfl
    · refine ⟨ku _ _ (Heap.get?_push_size _ rfl), ?_, Heap.get?_none_of_le (by rw [Heap.size_push]; exact Nat.le_succ _)⟩
      rw [hz, Heap.size_push]; exact Nat.ne_of_lt (Nat.lt_succ_self _)
    · refine ⟨ku _ _ (Heap.get?_push_of_some _ (Heap.get?_push_size _ rfl)), ?_, Heap.get?_none_of_le (Nat.le_refl _)⟩
      rw [hz]; exact Nat.ne_of_lt (by omega)
end
end
section
local macro_rules | `(tactic| walk_at "call builtin:object.__new__") => `(tactic| (k_here; k_dflt (refine' wpAny_call (io_objnew ?X ?_); (case X => k_asm))))
theorem io_new250 {w : World} {base : Heap} {outer : List Env} {s : Shared} {R : Result → Shared → Prop}
    (C : At w (Ar 880 4800 outer) base outer s.heap)
    (hR : ∀ x dx h' tk, s.heap.StaysIn h' → h'.get? x = some (instObj 510 dx) → h'.get? dx = some emptyDict → s.heap.get? x = none → s.heap.get? dx = none → @LT.lt Nat _ dx x → R (.ok (.ret (.ref x))) { s with heap := h', toks := tk }) :
    codeAny (model PySem.Challenge.rw_fq5006_01.row.prog w) (Ar 880 4800 outer) (.call (.ref 250) ⟨[.ref 510], []⟩) R s := by
  w_top off
  (have hK := C.X; revert hK; k_fill; intro hK)
  k_dflt (refine' enterStar (bs := fun t d => [(Str.ofString "cls", .ref 510), (Str.ofString "args", t), (Str.ofString "kwargs", .ref d)]) C ?k6 ?k7 ?k8 ?k9 ?kB ?c2 ?c3 ?c4 ?c5 ?_; (case k6 => k_is); (case k7 => k_is); (case k8 => decide); (case k9 => exact rfl); (case kB => intro t d; exact locs rfl); (case c2 => exact rfl); (case c3 => exact rfl); (case c4 => exact rfl); (case c5 => decide))
  intro g L' h₁ mean mg mb tA dA tk hg F N B X T
  (try dsimp only)
  with_reducible show wpAny _ _ _ _ _ _
  k_fold
  k_steps
  refine' wpAny_call (io_objnew (X.keeps F.keep) ?_)
  (try dsimp only)
  have hx : ((h₁.push emptyDict).push (instObj 510 h₁.objs.size)).get? (h₁.objs.size + 1) = some (instObj 510 h₁.objs.size) := by rw [← Heap.size_push h₁ emptyDict]; exact Heap.get?_push_size _ rfl
  have hdx : ((h₁.push emptyDict).push (instObj 510 h₁.objs.size)).get? h₁.objs.size = some emptyDict := Heap.get?_push_of_some _ (Heap.get?_push_size _ rfl)
  have F' : Fr g L' ((h₁.push emptyDict).push (instObj 510 h₁.objs.size)) _ := (F.push emptyDict).push (instObj 510 h₁.objs.size)
  have hz : g.objs.size ≤ h₁.objs.size := Nat.le_of_lt (Nat.lt_of_le_of_lt F.above F.ns.lt)
  have n1 : s.heap.get? h₁.objs.size = none := Heap.get?_none_of_le (by subst hg; exact hz)
  have n2 : s.heap.get? (h₁.objs.size + 1) = none := Heap.get?_none_of_le (by subst hg; exact Nat.le_succ_of_le hz)
  k_steps
  exact hR _ _ _ _ (stays_hide (S := []) hg F') hx hdx n2 n1 (Nat.lt_succ_self _)

local macro_rules | `(tactic| walk_at "wpF") => `(tactic| (k_here; (with_reducible show wpF _ _ (execs (Stmt.Assign [Expr.Attribute _ _ _] (Expr.IfExp _ _ _ _) _ :: _) _) _ _ _); k_dflt (refine wpF_execs_cons (wpF_Assign_Attribute (wpF_IfExp ?_)))))
local macro_rules | `(tactic| walk_at "wpF") => `(tactic| (k_here; (with_reducible show wpF _ _ (eval (Expr.Call (Expr.Name _ _) _ [] _) _) _ _ _); k_dflt (refine CallF_ ?_)))
local macro_rules | `(tactic| walk_at "wpF") => `(tactic| (k_here; (with_reducible show wpF _ _ (callWith _ _ _ (backTo _ (starEach [] _)) _) _ _ _); k_dflt (refine' callWithF_K0 (K := MineHead.hd.heap_39 _) ?k1 ?k2 ?_; (case k1 => k_asm); (case k2 => k_is); k_whole)))
theorem bio_of3 {g h : Heap} {L x dx b : Addr} {h1 h2 : Int} {t1 t2 tp : Tok} (N : News g L h [(b, baObj #[]), (x, instObj 510 dx), (dx, dictOf (bioEs b 0 h1 h2 t1 t2 tp) 2)]) : ∀ p ∈ bioObjs x dx b h1 h2 t1 t2 tp #[], h.get? p.1 = some p.2 := fun p hp => by
  refine (N p ?_).1
  simp only [List.mem_cons, List.not_mem_nil, or_false] at hp ⊢
  rcases hp with rfl | rfl | rfl
  · exact .inr (.inl rfl)
  · exact .inr (.inr rfl)
  · exact .inl rfl
theorem bio_init {w : World} {base : Heap} {outer : List Env} {s : Shared} {R : Result → Shared → Prop} {x dx : Addr} (hxd : @LT.lt Nat _ dx x)
    (C : At w (Ar 880 4800 outer) base outer (hideAll s.heap [x, dx])) (H : ∀ p ∈ [(x, instObj 510 dx), (dx, emptyDict)], s.heap.get? p.1 = some p.2)
    (hR : ∀ b h1 h2 t1 t2 tp h' tk, (hideAll s.heap [x, dx]).StaysIn h' → (∀ p ∈ bioObjs x dx b h1 h2 t1 t2 tp #[], h'.get? p.1 = some p.2) → s.heap.get? b = none → R (.ok (.ret .none)) { s with heap := h', toks := tk }) :
    codeF (model PySem.Challenge.rw_fq5006_01.row.prog w) (Ar 880 4800 outer) (.call (.ref 297) ⟨[.ref x], []⟩) R s := by
  (have hK := C.X; revert hK; k_fill; intro hK)
  have hKs : (MineHead.hd.heap_39 w.params).In s.heap := hK.keeps fun b o e => of_hideAll _ e
  k_dflt (refine' enterF (binds := [(Str.ofString "self", .ref x), (Str.ofString "initial_bytes", .none)]) (news := [(x, instObj 510 dx), (dx, emptyDict)]) C ?k2 ?k6 ?k7 ?k8 ?k9 ?kB ?c2 ?c3 ?c4 ?c5 ?_; (case k6 => k_is); (case k7 => k_is); (case k8 => decide); (case k9 => exact fun _ _ _ _ h => (Looks.of_peek hKs (by kernel_rfl)).here h); (case kB => exact locs rfl); (case c2 => exact rfl); (case c3 => exact rfl); (case c4 => exact rfl); (case c5 => decide))
  · exact H
  intro g L' h₁ mean mg mb hg F N B X T
  (try dsimp only)
  with_reducible show wpF _ _ _ _ _ _
  k_steps
  rename Fr _ _ _ _ => F
  refine callWithF_T0 ?_
  refine ba_call0 fun h2 hk2 hb2 => ?_
  (try dsimp only at hk2 hb2 ⊢)
  have F2 : Fr g L' h2 _ := F.keeps hk2
  have nb : h₁.get? h₁.objs.size = none := Heap.get?_none_of_le (Nat.le_refl _)
  have N2 := news_new' F (N.grown hk2) hb2 nb
  have lb : x < h₁.objs.size ∧ dx < h₁.objs.size := ⟨Heap.lt_size (N (x, _) List.mem_cons_self).1, Heap.lt_size (N (dx, _) (List.mem_cons_of_mem _ List.mem_cons_self)).1⟩
  have nbs : s.heap.get? h₁.objs.size = none := by
    cases q : s.heap.get? h₁.objs.size with
    | none => rfl
    | some o =>
      have : (hideAll s.heap [x, dx]).get? h₁.objs.size = some o := hideAll_get _ q (fun hm => by
        simp only [List.mem_cons, List.not_mem_nil, or_false] at hm
        rcases hm with hm | hm
        · exact absurd lb.1 (Nat.not_lt.mpr (Nat.le_of_eq hm))
        · exact absurd lb.2 (Nat.not_lt.mpr (Nat.le_of_eq hm)))
      exact absurd (Heap.lt_size (stays_hide hg F _ _ this)) (Nat.lt_irrefl _)
  clear F N hk2 hb2 nb
  generalize h₁.objs.size = b at F2 N2 lb nbs ⊢
  have k1 : @Ne Nat dx x := Nat.ne_of_lt hxd
  have k2 : @Ne Nat x b := Nat.ne_of_lt lb.1
  have k3 : @Ne Nat dx b := Nat.ne_of_lt lb.2
  k_steps
  (try dsimp only)
  rename News _ _ _ _ => N9
  rename Fr _ _ _ _ => F9
  exact hR b _ _ _ _ _ _ _ (stays_hide hg F9) (bio_of3 N9) nbs
end
section
theorem at_low {w : World} {dp un dp' un' : Nat} {outer : List Env} {base h : Heap} (C : At w (Ar dp un outer) base outer h) : At w (Ar dp' un' outer) base outer h := ⟨⟨rfl, C.B.stays, C.B.frames⟩, C.X, C.T⟩
theorem bytesio {w : World} {base : Heap} {outer : List Env} {s : Shared} {R : Result → Shared → Prop}
    (C : At w (Ar 860 4600 outer) base outer s.heap)
    (hR : ∀ f d b h1 h2 t1 t2 tp h' tk, s.heap.StaysIn h' → (∀ p ∈ bioObjs f d b h1 h2 t1 t2 tp #[], h'.get? p.1 = some p.2 ∧ s.heap.get? p.1 = none) → (@Ne Nat f d ∧ @Ne Nat f b ∧ @Ne Nat d b) → R (.ok (.ret (.ref f))) { s with heap := h', toks := tk }) :
    codeF (model PySem.Challenge.rw_fq5006_01.row.prog w) (Ar 860 4600 outer) (.call (.ref 510) ⟨[], []⟩) R s := by
  have X := C.X
  obtain ⟨oc, od, cd, sl, hC, _, _⟩ := io_obj X
  refine codeF_of_tree rfl ?_
  show wpF _ _ (callAny (.ref 510) ⟨[], []⟩) _ _ s
  simp only [callAny]
  refine wpF_bindA (wpAny_load hC ?_)
  show wpF _ _ (callAny.viaDunder (.ref 510) ⟨[], []⟩) _ _ s
  unfold callAny.viaDunder
  refine wpF_bindA ((io_call X).here ?_)
  dsimp only
  rw [tc_bind]
  refine wpF_bindA (wpAny_pure (wpF_bindA (wpAny_pure ?_)))
  refine wpF_pure (a := Fin.again (.call (.builtin "type.__call__") ⟨[.ref 510], []⟩)) (And.intro rfl ?_)
  refine codeF_of_tree rfl ?_
  show wpF _ (Ar 860 4600 outer).in1 (do checkBuiltinCall "type.__call__" ⟨[.ref 510], []⟩; again (.builtin "type.__call__" ⟨[.ref 510], []⟩)) _ _ s
  refine wpF_bindA (check_slot tc_kind tc_split (io_typ X) (tc_args _ _ _) ?_)
  refine wpF_pure ⟨Code.quiet_builtin _ (by decide +kernel), codeF_builtin (by show (!decIds.contains "type.__call__") = true; decide +kernel) entry_typeCall ?_⟩
  rw [show (Ar 860 4600 outer).under (.builtin "type.__call__" ⟨[.ref 510], []⟩) = Ar 861 4601 outer from rfl]
  have e : Builtin.«type.__call__» ⟨[.ref 510], []⟩ = (do
      if (← mroOf (.ref 510)).isEmpty then rule "type.call.half-made"; raiseError "TypeError" s!"cannot create '{← typeName (.ref 510)}' instances"
      let new ← match ← Bind.madeBy (.ref 510) with
        | some id => pure (.builtin id)
        | none => getAttr (.ref 510) "__new__"
      let obj ← holding [new] (call new [.ref 510] [])
      if !(← isInstance obj (.ref 510)) then rule "type.call.new-gave-other-type"; return ← ret obj
      match ← holding [obj] (callSpecial? obj "__init__" [] []) with
      | none => ret obj
      | some r =>
        if r != .none then
          rule "type.call.init-returned-value"
          raiseError "TypeError" s!"__init__() should return None, not '{← typeNameOf r}'"
        ret obj) := by rfl
  rw [e]
  refine wpF_bindA ((io_mro X).here ?_)
  simp only [List.isEmpty_cons, Bool.false_eq_true, if_false]
  refine wpF_bindA ((io_made X).here ?_)
  dsimp only
  refine wpF_bindA (io_newAttr X ?_)
  refine wpF_bindA (wpAny_holding (wpAny_call (codeAny_le (io_new250 (at_low C) ?_) (Nat.le_of_ble_eq_true rfl) (Nat.le_of_ble_eq_true rfl))))
  intro x dx h1 tk1 hk1 hx1 hdx1 hxn hdn hlt
  dsimp only
  have X1 : (MineHead.hd.heap_39 w.params).In h1 := X.keeps hk1
  have t1 : Looks (model PySem.Challenge.rw_fq5006_01.row.prog w) h1 (isInstance (.ref x) (.ref 510)) true := ((Looks.ld hx1).andThen .now).andThen (io_self X1)
  refine wpF_bindA (t1.at ?_)
  simp only [Bool.not_true, Bool.false_eq_true, if_false]
  have i1 : Looks (model PySem.Challenge.rw_fq5006_01.row.prog w) h1 (specialOf (.ref x) "__init__") (some (.ref 297)) := ((Looks.ld hx1).andThen .now).andThen (io_init X1)
  have b1 : Looks (model PySem.Challenge.rw_fq5006_01.row.prog w) h1 (bindSpecial (.ref 297) (.ref x)) (.ref 297, [.ref x]) := bind_fn X1 _ (by kernel_rfl)
  have off : ∀ c o, s.heap.get? c = some o → c ∉ [x, dx] := fun c o e hm => by
    simp only [List.mem_cons, List.not_mem_nil, or_false] at hm
    rcases hm with rfl | rfl
    · rw [hxn] at e; cases e
    · rw [hdn] at e; cases e
  have C1 : At w (Ar 880 4800 outer) base outer (hideAll h1 [x, dx]) := by
    obtain ⟨B, X0, mean, mg, mb, T⟩ := C
    have k : ∀ c o, s.heap.get? c = some o → (hideAll h1 [x, dx]).get? c = some o := fun c o e => hideAll_get _ (hk1 c o e) (off c o e)
    exact ⟨⟨rfl, fun c o e => k c o (B.stays c o e), B.frames.of_keeps fun c o e _ => ⟨o, k c o e, rfl⟩⟩, fun c o e => k c o (X0 c o e), mean, mg, mb, T.keeps k⟩
  refine wpF_bind (wpF_holding ?_)
  unfold callSpecial?
  refine wpF_bindA (i1.at ?_)
  dsimp only
  refine wpF_holding (wpF_bindA (b1.at ?_))
  dsimp only
  refine wpF_bind (wpF_call (codeF_leA (bio_init hlt C1 ?H ?_) (Nat.le_of_ble_eq_true rfl) (Nat.le_of_ble_eq_true rfl)))
  case H =>
    intro p hp
    simp only [List.mem_cons, List.not_mem_nil, or_false] at hp
    rcases hp with rfl | rfl
    · exact hx1
    · exact hdx1
  intro b a1 a2 t1 t2 tp h2 tk2 hk2 hP2 hbn
  dsimp only
  refine wpF_pure (wpF_pure ?_)
  have k2 : ∀ c o, s.heap.get? c = some o → h2.get? c = some o := fun c o e => hk2 c o (hideAll_get _ (hk1 c o e) (off c o e))
  have bn : s.heap.get? b = none := by
    cases q : s.heap.get? b with
    | none => rfl
    | some o => rw [hk1 _ _ q] at hbn; cases hbn
  refine hR x dx b a1 a2 t1 t2 tp h2 tk2 k2 (fun p hp => ⟨hP2 p hp, ?_⟩) ⟨Ne.symm (Nat.ne_of_lt hlt), fun e => ?_, fun e => ?_⟩
  · simp only [List.mem_cons, List.not_mem_nil, or_false] at hp
    rcases hp with rfl | rfl | rfl
    · exact hxn
    · exact hdn
    · exact bn
  · rw [← e, hx1] at hbn; cases hbn
  · rw [← e, hdx1] at hbn; cases hbn
end
/-! The plain law: what is laid is what the pieces tell. -/
section
def toldP : List (Option (List Int)) → List Int
  | [] => []
  | none :: _ => []
  | some a :: r => a ++ toldP r
def badP : List (Option (List Int)) → Bool
  | [] => false
  | none :: _ => true
  | some _ :: r => badP r
theorem bInts_app (a b : Array UInt8) : KBw.bInts (a ++ b) = KBw.bInts a ++ KBw.bInts b := KBw.ints_app rfl rfl
theorem u8_nat {n : Nat} (hn : n ≤ 16) : ((n.toUInt8).toNat : Int) = n := by
  have : n.toUInt8.toNat = n := by
    show n % 256 = n
    omega
  rw [this]
theorem bInts_two {n : Nat} (hn : n ≤ 16) : KBw.bInts #[0, n.toUInt8] = [0, (n : Int)] := by
  show [((0 : UInt8).toNat : Int), ((n.toUInt8).toNat : Int)] = _
  rw [u8_nat hn]; rfl
theorem bInts_four {n : Nat} (hn : n ≤ 16) : KBw.bInts #[0, 0, 0, n.toUInt8] = [0, 0, 0, (n : Int)] := by
  show [((0 : UInt8).toNat : Int), ((0 : UInt8).toNat : Int), ((0 : UInt8).toNat : Int), ((n.toUInt8).toNat : Int)] = _
  rw [u8_nat hn]; rfl
theorem short_eq {x : Str} (hx : x ∈ texts) : KBw.bInts (#[0, (u8 x).size.toUInt8] ++ u8 x) = short x := by
  rw [bInts_app, bInts_two (u8_texts x hx)]
  unfold short
  rw [KBw.ints_length]
def long (x : Str) : List Int := [0, 0, 0, ((KBw.bInts (u8 x)).length : Int)] ++ KBw.bInts (u8 x)
theorem long_eq {x : Str} (hx : x ∈ texts) : KBw.bInts (#[0, 0, 0, (u8 x).size.toUInt8] ++ u8 x) = long x := by
  rw [bInts_app, bInts_four (u8_texts x hx)]
  unfold long
  rw [KBw.ints_length]
theorem lay_app : ∀ (os : List (Option Str)) (a b : Array UInt8), lay (a ++ b) os = a ++ lay b os
  | [], _, _ => rfl
  | none :: _, _, _ => rfl
  | some x :: r, a, b => by
    show lay (a ++ b ++ #[0, (u8 x).size.toUInt8] ++ u8 x) r = a ++ lay (b ++ #[0, (u8 x).size.toUInt8] ++ u8 x) r
    rw [← lay_app r a]
    simp only [Array.append_assoc]
theorem lay_told : ∀ (os : List (Option Str)) (b : Array UInt8), (∀ x, some x ∈ os → x ∈ texts) → KBw.bInts (lay b os) = KBw.bInts b ++ toldP (os.map (Option.map short))
  | [], b, _ => by simp [lay, toldP]
  | none :: _, b, _ => by simp [lay, toldP]
  | some x :: r, b, h => by
    show KBw.bInts (lay (b ++ #[0, (u8 x).size.toUInt8] ++ u8 x) r) = KBw.bInts b ++ (short x ++ toldP (r.map (Option.map short)))
    rw [lay_told r _ fun y hy => h y (List.mem_cons_of_mem _ hy), Array.append_assoc, bInts_app, short_eq (h x List.mem_cons_self), List.append_assoc]
theorem lay_size : ∀ (os : List (Option Str)) (b : Array UInt8), (∀ x, some x ∈ os → x ∈ texts) → (lay b os).size ≤ b.size + 18 * os.length
  | [], b, _ => by simp [lay]
  | none :: _, b, _ => by simp [lay]
  | some x :: r, b, h => by
    have := lay_size r (b ++ #[0, (u8 x).size.toUInt8] ++ u8 x) fun y hy => h y (List.mem_cons_of_mem _ hy)
    have hx := u8_texts x (h x List.mem_cons_self)
    simp only [Array.size_append, List.size_toArray, List.length_cons, List.length_nil] at this
    show (lay (b ++ #[0, (u8 x).size.toUInt8] ++ u8 x) r).size ≤ _
    simp only [List.length_cons]
    omega
theorem badP_map : ∀ (os : List (Option Str)), badP (os.map (Option.map short)) = true ↔ none ∈ os
  | [] => by simp [badP]
  | none :: r => by simp [badP]
  | some x :: r => by
    show badP (r.map (Option.map short)) = true ↔ _
    rw [badP_map r]; simp
theorem flat_in (ver : Str) : ∀ (os : List (Str × Option Str)), (flat (os.map (fun p => if p.1 = cqlV then (p.1, some ver) else p))).map (Option.map short) = flatP ver os
  | [] => rfl
  | (k, o) :: r => by
    have ih := flat_in ver r
    rw [List.map_cons]
    by_cases e : k = cqlV
    · show (flat ((if k = cqlV then (k, some ver) else (k, o)) :: _)).map _ = some (short k) :: (if k = cqlV then some (short ver) else o.map short) :: flatP ver r
      rw [if_pos e, if_pos e, ← ih]; rfl
    · show (flat ((if k = cqlV then (k, some ver) else (k, o)) :: _)).map _ = some (short k) :: (if k = cqlV then some (short ver) else o.map short) :: flatP ver r
      rw [if_neg e, if_neg e, ← ih]; rfl
theorem flat_out (ver : Str) : ∀ (os : List (Str × Option Str)), (∀ p ∈ os, p.1 ≠ cqlV) → (flat os).map (Option.map short) = flatP ver os
  | [], _ => rfl
  | (k, o) :: r, h => by
    have ih := flat_out ver r fun p hp => h p (List.mem_cons_of_mem _ hp)
    show some (short k) :: o.map short :: (flat r).map (Option.map short) = some (short k) :: (if k = cqlV then some (short ver) else o.map short) :: flatP ver r
    rw [if_neg (h (k, o) List.mem_cons_self), ih]
theorem startPs_eq (ver : Str) (os : List (Str × Option Str)) : startPs ver os = some [0, ((setO os cqlV (some ver)).length : Int)] :: (flat (setO os cqlV (some ver))).map (Option.map short) := by
  unfold startPs
  rw [List.cons_append]
  congr 1
  unfold setO
  by_cases e : os.any (fun p => p.1 = cqlV) = true
  · rw [if_pos e, if_pos e, flat_in, List.append_nil]
  · rw [if_neg e, if_neg e, flat_app, List.map_append, flat_out ver os]
    · rfl
    · intro p hp q
      exact e (List.any_eq_true.mpr ⟨p, hp, by simpa using q⟩)
theorem items_texts : ∀ {vs : List Value} {os : List (Option Str)}, Items vs os → ∀ x, some x ∈ os → x ∈ texts
  | _, _, .nil, x, h => nomatch h
  | _, _, .cons hv hr, x, h => by
    rcases List.mem_cons.mp h with rfl | h
    · exact hv.1
    · exact items_texts hr x h
theorem opts_texts : ∀ {kvs : List (Str × Value)} {os : List (Str × Option Str)}, Opts kvs os → ∀ x, some x ∈ flat os → x ∈ texts
  | _, _, .nil, x, h => nomatch h
  | _, _, .cons hk hv hr, x, h => by
    rcases List.mem_cons.mp h with h | h
    · cases h; exact hk
    rcases List.mem_cons.mp h with rfl | h
    · exact hv.1
    · exact opts_texts hr x h
theorem flat_len : ∀ (os : List (Str × Option Str)), (flat os).length = 2 * os.length
  | [] => rfl
  | (k, o) :: r => by simp [flat, flat_len r]; omega
def regPs (os : List (Option Str)) : List (Option (List Int)) := some [0, (os.length : Int)] :: os.map (Option.map short)
end
section
/-- a message as it lies in the heap, what it must lay, and the map beside its copy -/
inductive MsgIs (prog : Program) (w : World) : Int → Addr → List (Addr × Obj) → List (Option (List Int)) → Value → Value → Prop
  | start {ms dm od bd : Addr} {ha ha2 : Int} {ta ta2 tv : Tok} {oo ob : Obj} {kvs : List (Str × Value)} {os : List (Str × Option Str)} {ver : Str} : oo.IsDictOf (PySem.strKind prog w) kvs → ob.IsDictOf (PySem.strKind prog w) kvs → (od == sysModules) = false → (bd == sysModules) = false → Opts kvs os → os.length ≤ 4 → ver ∈ texts →
      @LT.lt Nat _ od dm → @LT.lt Nat _ dm ms →
      MsgIs prog w 0 ms [(ms, instObj 94 dm), (dm, dictOf [⟨ha, .str (Str.ofString "cqlversion") ta, .str ver tv⟩, ⟨ha2, .str (Str.ofString "options") ta2, .ref od⟩] 2), (od, oo), (bd, ob)] (startPs ver os) (.ref od) (.ref bd)
  | opt {ms : Addr} : MsgIs prog w 1 ms [] [] .none .none
  | auth {ms dm : Addr} {ha : Int} {ta : Tok} {x : Str} {v : Value} : x ∈ texts → Thing x v → MsgIs prog w 2 ms [(ms, instObj 120 dm), (dm, dictOf [⟨ha, .str (Str.ofString "response") ta, v⟩] 1)] [some (long x)] .none .none
  | reg {ms dm el : Addr} {ha : Int} {ta : Tok} {vs : List Value} {cv : Nat} {os : List (Option Str)} : Items vs os → os.length ≤ 4 →
      MsgIs prog w 3 ms [(ms, instObj 165 dm), (dm, dictOf [⟨ha, .str (Str.ofString "event_list") ta, .ref el⟩] 1), (el, listOf (List.toArray vs) cv)] (regPs os) .none .none
theorem raised_sub {base h : Heap} {l : List Env} {e : Addr} {cls : Value} {n1 n2 : List (Addr × Obj)} (R : RaisedN base l e cls n1 h) (hs : ∀ q ∈ n2, q ∈ n1) : RaisedN base l e cls n2 h := by
  obtain ⟨B, a0, hB, hl, hf⟩ := R
  exact ⟨B, a0, hB, fun q hq => hl q (hs q hq), hf⟩
section
variable {w : World} {g : Heap} {L f d b : Addr} {env : Env} {m : Str → Option Value} {s : Shared} {h1 h2 : Int} {t1 t2 tp t0 t3 : Tok} {vn : Int} {buf : Array UInt8} {rest mo : List (Addr × Obj)} {mean : ExcName → Option Value} {mg mb : Str → Option Value} {base : Heap}
theorem news_fun {h : Heap} {news : List (Addr × Obj)} (N : News g L h news) {p q : Addr × Obj} (hp : p ∈ news) (hq : q ∈ news) (e : p.1 = q.1) : p = q := by
  have a := (N p hp).1
  have c := (N q hq).1
  rw [e] at a
  rw [a] at c
  exact Prod.ext e (Option.some.inj c)
theorem bio_offR (hoff : ∀ p ∈ rest, p.1 ∉ [f, d, b]) {x : Addr} {o : Obj} (hm : (x, o) ∈ rest) : @Ne Nat x f ∧ @Ne Nat x d ∧ @Ne Nat x b := by
  have := hoff _ hm
  simp only [List.mem_cons, List.not_mem_nil, or_false, not_or] at this
  exact this
/-- what stays behind a call that hides the stream and two objects of the message, and hands them back -/
theorem rest_after {h h' : Heap} {x y : Addr} {ox oy : Obj} (N : News g L h (bioObjs f d b h1 h2 t1 t2 tp buf ++ rest)) (hoff : ∀ p ∈ rest, p.1 ∉ [f, d, b]) (hx : (x, ox) ∈ rest) (hy : (y, oy) ∈ rest)
    (hk : (hideAll h [f, d, b, x, y]).StaysIn h') (ex : h'.get? x = some ox) (ey : h'.get? y = some oy) : News g L h' rest := fun p hp => by
  have z := N p (List.mem_append_right _ hp)
  refine ⟨?_, z.2⟩
  by_cases e1 : p.1 = x
  · have := news_fun (news_right N) hp hx e1
    rw [this]; exact ex
  by_cases e2 : p.1 = y
  · have := news_fun (news_right N) hp hy e2
    rw [this]; exact ey
  refine hk _ _ (hideAll_get _ z.1 fun hm => ?_)
  have := hoff p hp
  simp only [List.mem_cons, List.not_mem_nil, or_false, not_or] at hm this
  rcases hm with hm | hm | hm | hm | hm
  · exact this.1 hm
  · exact this.2.1 hm
  · exact this.2.2 hm
  · exact e1 hm
  · exact e2 hm
theorem rest_raised {base' h h' : Heap} {e x y : Addr} {ox oy : Obj} {buf' : Array UInt8} {tp' : Tok} (N : News g L h (bioObjs f d b h1 h2 t1 t2 tp buf ++ rest)) (hoff : ∀ p ∈ rest, p.1 ∉ [f, d, b]) (hx : (x, ox) ∈ rest) (hy : (y, oy) ∈ rest)
    (R : RaisedN base' [env] e (.type "TypeError") (bioObjs f d b h1 h2 t1 t2 tp' buf' ++ [(x, ox), (y, oy)]) h') (hb : g.StaysIn base') (hb3 : ∀ c o, h.get? c = some o → c ∉ [f, d, b, x, y] → c ≠ L → base'.get? c = some o) :
    RaisedN g [env] e (.type "TypeError") (bioObjs f d b h1 h2 t1 t2 tp' buf' ++ rest) h' := by
  have R2 := raised_more (n2 := rest.filter fun p => p.1 ≠ x ∧ p.1 ≠ y) R hb (fun p hp => by
    obtain ⟨hp, hne⟩ := List.mem_filter.mp hp
    have hne : p.1 ≠ x ∧ p.1 ≠ y := by simpa using hne
    have z := N p (List.mem_append_right _ hp)
    have := hoff p hp
    simp only [List.mem_cons, List.not_mem_nil, or_false, not_or] at this
    refine ⟨hb3 _ _ z.1 (fun hm => ?_) z.2.1, z.2.2⟩
    simp only [List.mem_cons, List.not_mem_nil, or_false] at hm
    rcases hm with hm | hm | hm | hm | hm
    · exact this.1 hm
    · exact this.2.1 hm
    · exact this.2.2 hm
    · exact hne.1 hm
    · exact hne.2 hm)
  refine raised_sub R2 fun q hq => ?_
  rcases List.mem_append.mp hq with hq | hq
  · exact List.mem_append_left _ (List.mem_append_left _ hq)
  by_cases e1 : q.1 = x
  · rw [news_fun (news_right N) hq hx e1]
    exact List.mem_append_left _ (List.mem_append_right _ (by simp))
  by_cases e2 : q.1 = y
  · rw [news_fun (news_right N) hq hy e2]
    exact List.mem_append_left _ (List.mem_append_right _ (by simp))
  exact List.mem_append_right _ (List.mem_filter.mpr ⟨hq, by simpa using ⟨e1, e2⟩⟩)
theorem el_off (N : News g L s.heap (bioObjs f d b h1 h2 t1 t2 tp buf ++ rest)) (hoff : ∀ p ∈ rest, p.1 ∉ [f, d, b]) {x y z : Addr} {ox oy oz : Obj} (hx : (x, ox) ∈ rest) (hy : (y, oy) ∈ rest) (hz : (z, oz) ∈ rest) (e1 : x ≠ y) (e2 : x ≠ z) : x ∉ [f, d, b, y, z] := fun hm => by
  have := hoff _ hx
  simp only [List.mem_cons, List.not_mem_nil, or_false, not_or] at hm this
  rcases hm with hm | hm | hm | hm | hm
  · exact this.1 hm
  · exact this.2.1 hm
  · exact this.2.2 hm
  · exact e1 hm
  · exact e2 hm
theorem lay_call {kind : Int} {ms : Addr} {ps : List (Option (List Int))} {plain before : Value} {Q : Value → Shared → Prop} {E : Value → Shared → Prop} (M : MsgIs PySem.Challenge.rw_fq5006_01.row.prog w kind ms mo ps plain before)
    (hmo : ∀ p ∈ mo, p ∈ rest) (hoff : ∀ p ∈ rest, p.1 ∉ [f, d, b]) (hne : @Ne Nat f d ∧ @Ne Nat f b ∧ @Ne Nat d b) (hz : buf.size ≤ 70000)
    (B : Below (Ar 800 4000 []) base [] g) (X : (MineHead.hd.heap_39 w.params).In g) (T : Top MineHead.hd.view_39 LS mean mg mb g) (F : Fr g L s.heap m) (N : News g L s.heap (bioObjs f d b h1 h2 t1 t2 tp buf ++ rest)) (hf : env.frame = some L) (hk : env.scope.kind = .function)
    (hR : badP ps = false → ∀ (out : Array UInt8) r h' tk tp', KBw.bInts out = toldP ps → out.size ≤ 200 → Fr g L h' m → News g L h' (bioObjs f d b h1 h2 t1 t2 tp' (buf ++ out) ++ rest) → Q r { s with heap := h', toks := tk })
    (hE : badP ps = true → ∀ (out : Array UInt8) e hh h' tk tp', KBw.bInts out = toldP ps → out.size ≤ 200 → RaisedN g [env] e (.type "TypeError") (bioObjs f d b h1 h2 t1 t2 tp' (buf ++ out) ++ rest) h' → Fr g L hh m → hh.UpToSlots h' → E (.ref e) { s with heap := h', toks := tk }) :
    wpF (model PySem.Challenge.rw_fq5006_01.row.prog w) ((Ar 800 4000 []).deeper env) (call (.ref 818) [.int kind t0, .ref ms, .ref f, .int vn t3]) Q E s := by
  cases M with
  | @reg _ dm el ha ta vs cv os hI h4 =>
    have m1 := hmo _ List.mem_cons_self
    have m2 := hmo _ (List.mem_cons_of_mem _ List.mem_cons_self)
    have m3 := hmo _ (List.mem_cons_of_mem _ (List.mem_cons_of_mem _ List.mem_cons_self))
    have H : ∀ p ∈ bioObjs f d b h1 h2 t1 t2 tp buf ++ [(ms, instObj 165 dm), (dm, dictOf [⟨ha, .str (Str.ofString "event_list") ta, .ref el⟩] 1)], p ∈ bioObjs f d b h1 h2 t1 t2 tp buf ++ rest := fun p hp => by
      rcases List.mem_append.mp hp with hp | hp
      · exact List.mem_append_left _ hp
      simp only [List.mem_cons, List.not_mem_nil, or_false] at hp
      rcases hp with rfl | rfl
      · exact List.mem_append_right _ m1
      · exact List.mem_append_right _ m2
    have NH : News g L s.heap (bioObjs f d b h1 h2 t1 t2 tp buf ++ [(ms, instObj 165 dm), (dm, dictOf [⟨ha, .str (Str.ofString "event_list") ta, .ref el⟩] 1)]) := fun p hp => N p (H p hp)
    have off : Off g L [f, d, b, ms, dm] := off_news NH (fun x hx => by simpa using hx)
    have e1 : el ≠ ms := fun e => by
      have := congrArg (fun p : Addr × Obj => p.2.cls) (news_fun (news_right N) m3 m1 e)
      exact absurd this (by simp)
    have e2 : el ≠ dm := fun e => by
      have := congrArg (fun p : Addr × Obj => p.2.cls) (news_fun (news_right N) m3 m2 e)
      exact absurd this (by simp)
    have hl : (hideAll s.heap [f, d, b, ms, dm]).IsList el vs.toArray := ⟨_, hideAll_get _ (N _ (List.mem_append_right _ m3)).1 (el_off N hoff m3 m1 m2 e1 e2), rfl, _, rfl⟩
    have ht := items_texts hI
    have hsz := lay_size os #[0, os.length.toUInt8] ht
    have htold : KBw.bInts (lay #[0, os.length.toUInt8] os) = toldP (regPs os) := by
      rw [lay_told os _ ht, bInts_two (by omega)]; rfl
    simp only [List.size_toArray, List.length_cons, List.length_nil] at hsz
    k_dflt (refine' callBig 820 4200 B X T F off hf hk ?_)
    intro base' CB hb1 hb2 hb3
    k_dflt (refine' wpF_call (codeF_leA (lay_reg CB (fun p hp => (NH p hp).1) hne ⟨bio_offR hoff m1, bio_offR hoff m2⟩ ?hz hl hI h4 ?_ ?_) (Nat.le_of_ble_eq_true rfl) (Nat.le_of_ble_eq_true rfl)))
    case hz => omega
    · intro hno r h' tk tp' hk' hP'
      rw [lay_app] at hP'
      have F' := fr_after F off hk'
      have N1 := bio_news (news_left N) (fun p hp => hP' p (List.mem_append_left _ hp))
      have N2 := rest_after N hoff m1 m2 hk' (hP' (ms, _) (by simp)) (hP' (dm, _) (by simp))
      exact hR (by cases q : badP (regPs os) with | false => rfl | true => exact absurd ((badP_map os).mp q) hno) _ r h' tk tp' htold (by omega) F' (news_both N1 N2)
    · intro hno e h' tk tp' hR' hU'
      rw [lay_app] at hR'
      exact hE ((badP_map os).mpr hno) _ e _ h' tk tp' htold (by omega) (rest_raised N hoff m1 m2 hR' (fun c o e => hb2 c o e (fun _ h => nomatch h)) (fun c o e1 e2 e3 => hb3 c o e1 e2 e3 (fun _ h => nomatch h))) (fr_hide F off) hU'
  | opt =>
    k_dflt (refine' wpF_call (codeF_of_any (codeAny_le (lay_opt (siteX B X T F off_nil hf hk) ?_) (Nat.le_of_ble_eq_true rfl) (Nat.le_of_ble_eq_true rfl))))
    intro r h' tk hk'
    exact hR rfl #[] r h' tk tp rfl (Nat.zero_le _) (fr_after (S := []) F off_nil hk') (by rw [Array.append_empty]; exact N.grown hk')
  | @auth _ dm ha ta x v hx hv =>
    have m1 := hmo _ List.mem_cons_self
    have m2 := hmo _ (List.mem_cons_of_mem _ List.mem_cons_self)
    have H : ∀ p ∈ bioObjs f d b h1 h2 t1 t2 tp buf ++ [(ms, instObj 120 dm), (dm, dictOf [⟨ha, .str (Str.ofString "response") ta, v⟩] 1)], p ∈ bioObjs f d b h1 h2 t1 t2 tp buf ++ rest := fun p hp => by
      rcases List.mem_append.mp hp with hp | hp
      · exact List.mem_append_left _ hp
      simp only [List.mem_cons, List.not_mem_nil, or_false] at hp
      rcases hp with rfl | rfl
      · exact List.mem_append_right _ m1
      · exact List.mem_append_right _ m2
    have NH : News g L s.heap (bioObjs f d b h1 h2 t1 t2 tp buf ++ [(ms, instObj 120 dm), (dm, dictOf [⟨ha, .str (Str.ofString "response") ta, v⟩] 1)]) := fun p hp => N p (H p hp)
    have off : Off g L [f, d, b, ms, dm] := off_news NH (fun x hx => by simpa using hx)
    have hxz := u8_texts x hx
    have htold : KBw.bInts (#[0, 0, 0, (u8 x).size.toUInt8] ++ u8 x) = toldP [some (long x)] := by
      rw [long_eq hx]; simp [toldP]
    rcases hv with ⟨t, rfl⟩ | ⟨t, rfl⟩
    · k_dflt (refine' callBig 820 4200 B X T F off hf hk ?_)
      intro base' CB hb1 hb2 hb3
      k_dflt (refine' wpF_call (codeF_leA (lay_authS CB (fun p hp => (NH p hp).1) hne ⟨bio_offR hoff m1, bio_offR hoff m2⟩ ?hz hx ?_) (Nat.le_of_ble_eq_true rfl) (Nat.le_of_ble_eq_true rfl)))
      case hz => omega
      intro r h' tk tp' hk' hP'
      rw [Array.append_assoc] at hP'
      have F' := fr_after F off hk'
      have N1 := bio_news (news_left N) (fun p hp => hP' p (List.mem_append_left _ hp))
      have N2 := rest_after N hoff m1 m2 hk' (hP' (ms, _) (by simp)) (hP' (dm, _) (by simp))
      exact hR rfl _ r h' tk tp' htold (by simp only [Array.size_append, List.size_toArray, List.length_cons, List.length_nil]; omega) F' (news_both N1 N2)
    · k_dflt (refine' callBig 820 4200 B X T F off hf hk ?_)
      intro base' CB hb1 hb2 hb3
      k_dflt (refine' wpF_call (codeF_leA (lay_authB CB (fun p hp => (NH p hp).1) hne ⟨bio_offR hoff m1, bio_offR hoff m2⟩ ?hz hx ?_) (Nat.le_of_ble_eq_true rfl) (Nat.le_of_ble_eq_true rfl)))
      case hz => omega
      intro r h' tk tp' hk' hP'
      rw [Array.append_assoc] at hP'
      have F' := fr_after F off hk'
      have N1 := bio_news (news_left N) (fun p hp => hP' p (List.mem_append_left _ hp))
      have N2 := rest_after N hoff m1 m2 hk' (hP' (ms, _) (by simp)) (hP' (dm, _) (by simp))
      exact hR rfl _ r h' tk tp' htold (by simp only [Array.size_append, List.size_toArray, List.length_cons, List.length_nil]; omega) F' (news_both N1 N2)
  | @start _ dm od bd ha ha2 ta ta2 tv oo ob kvs os ver hd hd2 lo lo2 hO h4 hv l1 l2 =>
    have m1 := hmo _ List.mem_cons_self
    have m2 := hmo _ (List.mem_cons_of_mem _ List.mem_cons_self)
    have m3 := hmo _ (List.mem_cons_of_mem _ (List.mem_cons_of_mem _ List.mem_cons_self))
    have H : ∀ p ∈ bioObjs f d b h1 h2 t1 t2 tp buf ++ [(ms, instObj 94 dm), (dm, dictOf [⟨ha, .str (Str.ofString "cqlversion") ta, .str ver tv⟩, ⟨ha2, .str (Str.ofString "options") ta2, .ref od⟩] 2)], p ∈ bioObjs f d b h1 h2 t1 t2 tp buf ++ rest := fun p hp => by
      rcases List.mem_append.mp hp with hp | hp
      · exact List.mem_append_left _ hp
      simp only [List.mem_cons, List.not_mem_nil, or_false] at hp
      rcases hp with rfl | rfl
      · exact List.mem_append_right _ m1
      · exact List.mem_append_right _ m2
    have NH : News g L s.heap (bioObjs f d b h1 h2 t1 t2 tp buf ++ [(ms, instObj 94 dm), (dm, dictOf [⟨ha, .str (Str.ofString "cqlversion") ta, .str ver tv⟩, ⟨ha2, .str (Str.ofString "options") ta2, .ref od⟩] 2)]) := fun p hp => N p (H p hp)
    have off : Off g L [f, d, b, ms, dm] := off_news NH (fun x hx => by simpa using hx)
    have e1 : od ≠ ms := Nat.ne_of_lt (Nat.lt_trans l1 l2)
    have e2 : od ≠ dm := Nat.ne_of_lt l1
    have hm : (hideAll s.heap [f, d, b, ms, dm]).DictOf (PySem.strKind PySem.Challenge.rw_fq5006_01.row.prog w) od kvs := Heap.dictOf_iff.mpr ⟨oo, hideAll_get _ (N _ (List.mem_append_right _ m3)).1 (el_off N hoff m3 m1 m2 e1 e2), hd⟩
    have hO' : Opts (stored kvs cqlV (.str ver tv)) (setO os cqlV (some ver)) := opts_set (x := some ver) hO (by decide +kernel) (show Item (.str ver tv) (some ver) from And.intro hv (Or.inl ⟨_, rfl⟩))
    have ht := opts_texts hO'
    have h5 : (setO os cqlV (some ver)).length ≤ 5 := Nat.le_trans (setO_len os cqlV (some ver)) (by omega)
    have hsz := lay_size (flat (setO os cqlV (some ver))) #[0, (setO os cqlV (some ver)).length.toUInt8] ht
    have htold : KBw.bInts (lay #[0, (setO os cqlV (some ver)).length.toUInt8] (flat (setO os cqlV (some ver)))) = toldP (startPs ver os) := by
      rw [lay_told _ _ ht, bInts_two (by omega), startPs_eq]; rfl
    have hbad : badP (startPs ver os) = badP ((flat (setO os cqlV (some ver))).map (Option.map short)) := by rw [startPs_eq]; rfl
    rw [flat_len] at hsz
    simp only [List.size_toArray, List.length_cons, List.length_nil] at hsz
    k_dflt (refine' callBig 820 4200 B X T F off hf hk ?_)
    intro base' CB hb1 hb2 hb3
    k_dflt (refine' wpF_call (codeF_leA (lay_start CB (fun p hp => (NH p hp).1) hne ⟨bio_offR hoff m1, bio_offR hoff m2⟩ ?hz hv hm lo hO h4 ?_ ?_) (Nat.le_of_ble_eq_true rfl) (Nat.le_of_ble_eq_true rfl)))
    case hz => omega
    · intro hno r h' tk tp' hk' hP'
      rw [lay_app] at hP'
      have F' := fr_after F off hk'
      have N1 := bio_news (news_left N) (fun p hp => hP' p (List.mem_append_left _ hp))
      have N2 := rest_after N hoff m1 m2 hk' (hP' (ms, _) (by simp)) (hP' (dm, _) (by simp))
      exact hR (by rw [hbad]; cases q : badP ((flat (setO os cqlV (some ver))).map (Option.map short)) with | false => rfl | true => exact absurd ((badP_map _).mp q) hno) _ r h' tk tp' htold (by omega) F' (news_both N1 N2)
    · intro hno e h' tk tp' hR' hU'
      rw [lay_app] at hR'
      exact hE (by rw [hbad]; exact (badP_map _).mpr hno) _ e _ h' tk tp' htold (by omega) (rest_raised N hoff m1 m2 hR' (fun c o e => hb2 c o e (fun _ h => nomatch h)) (fun c o e1 e2 e3 => hb3 c o e1 e2 e3 (fun _ h => nomatch h))) (fr_hide F off) hU'
end
end
section
local macro_rules | `(tactic| walk_at "eval Name") => `(tactic| (k_here; (with_reducible show wpAny _ _ (eval (Expr.Name _ _) (compEnvC _ _ _ _)) _ _ _); k_dflt (refine' ld_freeC ?N ?hc ?hm ?hd ?_; (case N => k_asm); (case hc => exact rfl); (case hm => k_mem); (case hd => assumption))))
/-- behind the script's list -/
def LawN (s : Shared) (g : Heap) (L' : Addr) (fl : Flow) (s' : Shared) : Prop :=
  fl = .next ∧ ∃ (h' : Heap) (tk' : Nat) (m : Str → Option Value) (nl : Addr) (c : Nat) (ys : List Value) (nn : List Int), s' = { s with heap := h', toks := tk' } ∧
    Fr g L' h' (fun y => if y = Str.ofString "n" then some (.ref nl) else m y) ∧ News g L' h' [(nl, listOf (List.toArray ys) c)] ∧ IntsAre ys nn ∧ nn.length = 36
theorem news_fresh {g h h' : Heap} {L : Addr} {m : Str → Option Value} {objs : List (Addr × Obj)} (F : Fr g L h m) (H : ∀ p ∈ objs, h'.get? p.1 = some p.2 ∧ h.get? p.1 = none) : News g L h' objs := fun p hp => by
  obtain ⟨oL, _, _, hL, _⟩ := F.ns
  refine ⟨(H p hp).1, fun e => ?_, ?_⟩
  · have := (H p hp).2; rw [e, hL] at this; cases this
  · cases q : g.get? p.1 with
    | none => rfl
    | some o => have := F.keep _ _ q; rw [(H p hp).2] at this; cases this
abbrev riObj (n i : Nat) : Obj := { cls := .type "range_iterator", data := .fields #[rawInt (0 + ((i : Nat) : Int) * 1), rawInt ((n : Int) - ((i : Nat) : Int)), rawInt 1] }
theorem push_new {g h : Heap} {L : Addr} {m : Str → Option Value} {news : List (Addr × Obj)} {o : Obj} (F : Fr g L h m) (N : News g L h news) (hf : o.isFreed = false) :
    Fr g L (h.push o) m ∧ News g L (h.push o) ((h.objs.size, o) :: news) ∧ (∀ p ∈ news, p.1 < h.objs.size) ∧ L ≠ h.objs.size ∧ g.get? h.objs.size = none := by
  refine ⟨F.push o, fun p hp => ?_, fun p hp => Heap.lt_size (N p hp).1, Nat.ne_of_lt F.ns.lt, next_is_new F⟩
  rcases List.mem_cons.mp hp with rfl | hp
  · exact ⟨Heap.get?_push_size _ hf, Ne.symm (Nat.ne_of_lt F.ns.lt), next_is_new F⟩
  · exact ⟨Heap.get?_push_of_some _ (N p hp).1, (N p hp).2⟩
theorem iter_range_F {prog : Program} {w : World} {A : Around} {E : Value → Shared → Prop} {s : Shared} {g : Heap} {L r : Addr} {m : Str → Option Value} {news : List (Addr × Obj)} {n : Nat} {t u v : Tok} {Q : Value → Shared → Prop} (F : Fr g L s.heap m) (N : News g L s.heap news)
    (hr : IsRange s.heap r 0 (n : Int) 1 t u v) (hs : Builtin.Range.small 0 (n : Int) 1 = true)
    (k : ∀ I h', Fr g L h' m → News g L h' ((I, riObj n 0) :: news) → (∀ p ∈ news, p.1 < I) → L ≠ I → g.get? I = none → Q (.ref I) { s with heap := h' }) : wpAny (model prog w) A (pyIter (.ref r)) Q E s := by
  refine wpAny_pyIter_range hr hs ?_
  obtain ⟨F', N', h1, h2, h3⟩ := push_new F N (o := riObj n 0) rfl
  rw [rangeSize_n]
  have e : (riObj n 0) = { cls := .type "range_iterator", data := .fields #[rawInt 0, rawInt (n : Int), rawInt 1] } := by
    simp
  have := k _ _ F' N' h1 h2 h3
  rw [e] at this
  exact this
theorem iter_list_F {prog : Program} {w : World} {A : Around} {E : Value → Shared → Prop} {s : Shared} {g : Heap} {L l : Addr} {m : Str → Option Value} {news : List (Addr × Obj)} {vs : List Value} {c : Nat} {Q : Value → Shared → Prop} (F : Fr g L s.heap m) (N : News g L s.heap news)
    (hm : (l, listOf (List.toArray vs) c) ∈ news)
    (k : ∀ I h', Fr g L h' m → News g L h' ((I, itObj l 0) :: news) → (∀ p ∈ news, p.1 < I) → L ≠ I → g.get? I = none → Q (.ref I) { s with heap := h' }) : wpAny (model prog w) A (pyIter (.ref l)) Q E s := by
  refine wpAny_pyIter_list (items := vs.toArray) ⟨_, (N _ hm).1, rfl, _, rfl⟩ ?_
  obtain ⟨F', N', h1, h2, h3⟩ := push_new F N (o := itObj l 0) rfl
  exact k _ _ F' N' h1 h2 h3
/-- ahead of the requests, or behind some of them -/
def LawInv (s : Shared) (g : Heap) (L' I nl f d b : Addr) (h1 h2 : Int) (t1 t2 : Tok) (no : Obj) (n i : Nat) (s' : Shared) : Prop :=
  ∃ (h' : Heap) (tk' : Nat) (m : Str → Option Value) (tp : Tok) (buf : Array UInt8) (st : Addr) (sv : List Value) (sc : Nat) (oI : Obj), s' = { s with heap := h', toks := tk' } ∧
    Fr g L' h' (fun y => if y = Str.ofString "stream" then some (.ref st) else if y = Str.ofString "f" then some (.ref f) else if y = Str.ofString "n" then some (.ref nl) else m y) ∧
    News g L' h' (bioObjs f d b h1 h2 t1 t2 tp buf ++ [(st, listOf (List.toArray sv) sc), (nl, no), (I, oI)]) ∧
    oI = riObj n i ∧
    IntsAre sv (KBw.bInts buf) ∧ buf.size ≤ 400 * i
theorem bio_first {g h : Heap} {L I st f d b nl : Addr} {h1 h2 : Int} {t1 t2 tp : Tok} {oI os on : Obj} (N : News g L h [(I, oI), (st, os), (f, instObj 510 d), (d, dictOf (bioEs b (#[] : Array UInt8).size h1 h2 t1 t2 tp) 2), (b, baObj #[]), (nl, on)]) :
    News g L h (bioObjs f d b h1 h2 t1 t2 tp #[] ++ [(st, os), (nl, on), (I, oI)]) := fun p hp => by
  refine N p ?_
  simp only [List.cons_append, List.nil_append, List.mem_cons, List.not_mem_nil, or_false] at hp ⊢
  rcases hp with h | h | h | h | h | h
  · exact .inr (.inr (.inl h))
  · exact .inr (.inr (.inr (.inl h)))
  · exact .inr (.inr (.inr (.inr (.inl h))))
  · exact .inr (.inl h)
  · exact .inr (.inr (.inr (.inr (.inr h))))
  · exact .inl h
theorem getvalue_F {w : World} {g : Heap} {L f d b : Addr} {env : Env} {m : Str → Option Value} {s : Shared} {h1 h2 : Int} {t1 t2 tp : Tok} {buf : Array UInt8} {rest : List (Addr × Obj)} {mean : ExcName → Option Value} {mg mb : Str → Option Value} {base : Heap} {Q : Value → Shared → Prop} {E : Value → Shared → Prop}
    (B : Below (Ar 800 4000 []) base [] g) (X : (MineHead.hd.heap_39 w.params).In g) (T : Top MineHead.hd.view_39 LS mean mg mb g) (F : Fr g L s.heap m) (N : News g L s.heap (bioObjs f d b h1 h2 t1 t2 tp buf ++ rest)) (hoff : ∀ p ∈ rest, p.1 ∉ [f, d, b]) (hz : buf.size ≤ sizeLine) (hf : env.frame = some L) (hk : env.scope.kind = .function)
    (k : ∀ t h' tk, Fr g L h' m → News g L h' (bioObjs f d b h1 h2 t1 t2 tp buf ++ rest) → Q (.bytes buf t) { s with heap := h', toks := tk }) : wpAny (model PySem.Challenge.rw_fq5006_01.row.prog w) ((Ar 800 4000 []).deeper env) (call (.ref 396) [.ref f]) Q E s := by
  have N1 := news_left N
  have off := bio_off N1
  k_dflt (refine' wpAny_call (codeAny_le (getvalue (siteX B X T F off hf hk) (bio_at N1) hz ?_) (Nat.le_of_ble_eq_true rfl) (Nat.le_of_ble_eq_true rfl)))
  intro t h' tk hk' hP'
  exact k t h' tk (fr_after F off hk') (news_both (bio_news N1 hP') (news_after (news_right N) hk' hoff))
local macro_rules | `(tactic| walk_at "call ref") => `(tactic| (k_here; (with_reducible show wpAny _ _ (call (Value.ref 396) _) _ _ _); refine held ?_))
theorem bio_news_but {g h h' : Heap} {L I f d b : Addr} {h1 h2 : Int} {t1 t2 tp : Tok} {buf : Array UInt8} {rest : List (Addr × Obj)} (N : News g L h (bioObjs f d b h1 h2 t1 t2 tp buf ++ rest)) (hk : ∀ b o, b ∉ [I] → h.get? b = some o → h'.get? b = some o) (iI : @Ne Nat f I ∧ @Ne Nat d I ∧ @Ne Nat b I) (hr : ∀ p ∈ rest, p.1 ≠ I) : News g L h' (bioObjs f d b h1 h2 t1 t2 tp buf ++ rest) :=
  news_both (LCg.news_but (news_left N) hk (bio_ne iI.1 iI.2.1 iI.2.2)) (LCg.news_but (news_right N) hk hr)
theorem st_off {g h : Heap} {L st f d b : Addr} {h1 h2 : Int} {t1 t2 tp : Tok} {buf : Array UInt8} {sv : List Value} {sc : Nat} {rest : List (Addr × Obj)} (N : News g L h (bioObjs f d b h1 h2 t1 t2 tp buf ++ (st, listOf (List.toArray sv) sc) :: rest)) : @Ne Nat st f ∧ @Ne Nat st d ∧ @Ne Nat st b := by
  have m : (st, listOf (List.toArray sv) sc) ∈ bioObjs f d b h1 h2 t1 t2 tp buf ++ (st, listOf (List.toArray sv) sc) :: rest := List.mem_append_right _ List.mem_cons_self
  have no : ∀ x o, (x, o) ∈ bioObjs f d b h1 h2 t1 t2 tp buf → o.cls ≠ .type "list" → @Ne Nat st x := fun x o hx hc e => by
    have := congrArg (fun p : Addr × Obj => p.2.cls) (news_fun N m (List.mem_append_left _ hx) e)
    exact hc this.symm
  exact ⟨no f _ List.mem_cons_self (by simp), no d _ (List.mem_cons_of_mem _ List.mem_cons_self) (by simp), no b _ (List.mem_cons_of_mem _ (List.mem_cons_of_mem _ List.mem_cons_self)) (by simp)⟩
theorem st_ne {g h : Heap} {L st nl I f d b : Addr} {h1 h2 : Int} {t1 t2 tp : Tok} {buf : Array UInt8} {sv : List Value} {sc n i : Nat} {no : Obj} (N : News g L h (bioObjs f d b h1 h2 t1 t2 tp buf ++ [(st, listOf (List.toArray sv) sc), (nl, no), (I, riObj n i)])) : st ≠ I := fun e => by
  have := congrArg (fun p : Addr × Obj => p.2.cls) (news_fun N (p := (st, listOf (List.toArray sv) sc)) (q := (I, riObj n i)) (List.mem_append_right _ List.mem_cons_self) (List.mem_append_right _ (by simp)) e)
  exact absurd this (by simp)
theorem len_listB {prog : Program} {w : World} {A : Around} {E : Value → Shared → Prop} {s : Shared} {g : Heap} {L l : Addr} {news : List (Addr × Obj)} {vs : List Value} {c n : Nat} {Q : Value → Shared → Prop} (N : News g L s.heap news) (hm : (l, listOf (List.toArray vs) c) ∈ news) (hn : vs.length = n) (hf : n ≤ 100000)
    (h : ∀ t k, Q (.int (n : Nat) t) { s with toks := k }) : wpAny (model prog w) A (call (.builtin "len") [.ref l]) Q E s := by
  subst hn
  refine call_len_list (items := vs.toArray) ⟨_, (N _ hm).1, rfl, _, rfl⟩ (by rw [List.size_toArray]; omega) ?_
  rw [List.size_toArray]
  exact h _ _
local macro_rules | `(tactic| walk_at "call builtin:len") => `(tactic| (k_here; (with_reducible show wpAny _ _ (call _ [Value.ref _]) _ _ _); k_dflt ((refine' len_listB (by k_asm) ?m ?n ?f ?_; (case m => k_mem); (case n => assumption); (case f => omega)); intro t k)))
theorem rest_off2 {st nl f d b : Addr} {o1 o2 : Obj} (hst : @Ne Nat st f ∧ @Ne Nat st d ∧ @Ne Nat st b) (hnl : @Ne Nat nl f ∧ @Ne Nat nl d ∧ @Ne Nat nl b) : ∀ p ∈ [(st, o1), (nl, o2)], p.1 ∉ [f, d, b] := fun p hp hm => by
  simp only [List.mem_cons, List.not_mem_nil, or_false] at hp hm
  rcases hp with rfl | rfl
  · rcases hm with hm | hm | hm
    · exact hst.1 hm
    · exact hst.2.1 hm
    · exact hst.2.2 hm
  · rcases hm with hm | hm | hm
    · exact hnl.1 hm
    · exact hnl.2.1 hm
    · exact hnl.2.2 hm
theorem news_turn {g h h' : Heap} {L I st nl f d b : Addr} {h1 h2 : Int} {t1 t2 tp : Tok} {buf : Array UInt8} {sv : List Value} {sc : Nat} {no oI oJ : Obj} (N : News g L h (bioObjs f d b h1 h2 t1 t2 tp buf ++ [(st, listOf (List.toArray sv) sc), (nl, no), (I, oI)])) (hk : ∀ b o, b ∉ [I] → h.get? b = some o → h'.get? b = some o) (iI : @Ne Nat f I ∧ @Ne Nat d I ∧ @Ne Nat b I) (e1 : @Ne Nat st I) (e2 : @Ne Nat nl I) (z : h'.get? I = some oJ ∧ I ≠ L ∧ g.get? I = none) :
    News g L h' (bioObjs f d b h1 h2 t1 t2 tp buf ++ [(st, listOf (List.toArray sv) sc), (nl, no), (I, oJ)]) := by
  refine news_both (LCg.news_but (news_left N) hk (bio_ne iI.1 iI.2.1 iI.2.2)) fun p hp => ?_
  have N2 := news_right N
  simp only [List.mem_cons, List.not_mem_nil, or_false] at hp
  rcases hp with rfl | rfl | rfl
  · exact ⟨hk _ _ (by simpa using e1) (N2 _ List.mem_cons_self).1, (N2 _ List.mem_cons_self).2⟩
  · exact ⟨hk _ _ (by simpa using e2) (N2 _ (List.mem_cons_of_mem _ List.mem_cons_self)).1, (N2 _ (List.mem_cons_of_mem _ List.mem_cons_self)).2⟩
  · exact z
/-- a request's seven ints -/
def LawP (s : Shared) (g : Heap) (L' : Addr) (i : Nat) (st nl f d b I : Addr) (h1 h2 : Int) (t1 t2 tp : Tok) (buf : Array UInt8) (sv : List Value) (sc : Nat) (no : Obj) (n : Nat) (fl : Flow) (s' : Shared) : Prop :=
  fl = .next ∧ ∃ (h' : Heap) (tk' : Nat) (m : Str → Option Value) (pl : Addr) (pc : Nat) (pv : List Value) (p0 p1 p2 p3 p4 p5 p6 : Int), s' = { s with heap := h', toks := tk' } ∧
    Fr g L' h' (fun y => if y = Str.ofString "p" then some (.ref pl) else if y = Str.ofString "stream" then some (.ref st) else if y = Str.ofString "f" then some (.ref f) else if y = Str.ofString "n" then some (.ref nl) else m y) ∧
    News g L' h' ((pl, listOf (List.toArray pv) pc) :: (bioObjs f d b h1 h2 t1 t2 tp buf ++ [(st, listOf (List.toArray sv) sc), (nl, no), (I, riObj n (i + 1))])) ∧
    IntsAre pv [p0, p1, p2, p3, p4, p5, p6] ∧ (@LT.lt Nat _ f pl ∧ @LT.lt Nat _ d pl ∧ @LT.lt Nat _ b pl ∧ @LT.lt Nat _ st pl ∧ @LT.lt Nat _ nl pl ∧ @LT.lt Nat _ I pl)
theorem seven_of {xs : List Int} (h : xs.length = 7) : ∃ p0 p1 p2 p3 p4 p5 p6, xs = [p0, p1, p2, p3, p4, p5, p6] := by
  match xs, h with
  | [p0, p1, p2, p3, p4, p5, p6], _ => exact ⟨p0, p1, p2, p3, p4, p5, p6, rfl⟩
theorem slice7 {prog : Program} {w : World} {A : Around} {E : Value → Shared → Prop} {s : Shared} {g : Heap} {L nl : Addr} {m : Str → Option Value} {news : List (Addr × Obj)} {ys : List Value} {nn : List Int} {c i : Nat} {t u : Tok} {value slice : Expr} {Q : Value → Shared → Prop} (F : Fr g L s.heap m) (N : News g L s.heap news)
    (hm : (nl, listOf (List.toArray ys) c) ∈ news) (hI : IntsAre ys nn) (h36 : nn.length = 36) (hi5 : i < 5)
    (h : ∀ D pv h' p0 p1 p2 p3 p4 p5 p6, Fr g L h' m → News g L h' ((D, listOf (List.toArray pv) 0) :: news) → (∀ p ∈ news, p.1 < D) → IntsAre pv [p0, p1, p2, p3, p4, p5, p6] → Q (.ref D) { s with heap := h' })
    (hs : subscripted slice false (.ref nl) (.ref s.heap.objs.size) = operate [.ref s.heap.objs.size, .ref nl] (getItem (.ref nl) (.ref s.heap.objs.size))) (ht : ∀ r, letTemporaryGo value (.ref nl) r = pure ()) :
    wpAny (model prog w) A (subscriptTail value slice (.ref nl) (.ref s.heap.objs.size)) Q E { s with heap := s.heap.push { cls := .type "slice", data := .fields #[.int (1 + 7 * (i : Int)) t, .int (8 + 7 * (i : Int)) u, .none] } } := by
  have hy : ys.length = 36 := by rw [hI.length, h36]
  have e : slicePick ys.toArray (some (1 + 7 * (i : Int))) (some (8 + 7 * (i : Int))) none = ((ys.toArray.toList.drop (1 + 7 * i)).take ((8 + 7 * i) - (1 + 7 * i))).toArray := by
    refine kmk_pick_nat _ ?_
    rw [List.size_toArray, hy]
    have hc : i = 0 ∨ i = 1 ∨ i = 2 ∨ i = 3 ∨ i = 4 := by omega
    rcases hc with rfl | rfl | rfl | rfl | rfl <;> decide
  have hl : ((nn.drop (1 + 7 * i)).take ((8 + 7 * i) - (1 + 7 * i))).length = 7 := by
    rw [List.length_take, List.length_drop, h36]; omega
  have hp : IntsAre (slicePick ys.toArray (some (1 + 7 * (i : Int))) (some (8 + 7 * (i : Int))) none).toList ((nn.drop (1 + 7 * i)).take ((8 + 7 * i) - (1 + 7 * i))) := by
    rw [e]
    exact (hI.drop _).take _
  obtain ⟨p0, p1, p2, p3, p4, p5, p6, e7⟩ := seven_of hl
  refine kmk_slice_ints F N ⟨_, (N _ hm).1, rfl, _, rfl⟩ (IsPart.int _ _) (IsPart.int _ _) hI hp hl (fun D ws h' F' N' l1 hI' _ _ => h D ws h' p0 p1 p2 p3 p4 p5 p6 F' N' l1 (e7 ▸ hI')) hs ht ?_
  rw [List.size_toArray, hy, sizeLine_eq]; decide
local macro_rules | `(tactic| walk_at "subscriptTail Name Slice ref ref") => `(tactic| (k_here; k_dflt ((refine' slice7 ?F ?N ?m ?i ?l ?z ?_ ?s ?t; (case F => k_asm); (case N => k_asm); (case m => k_mem); (case i => assumption); (case l => assumption); (case z => assumption); (case s => with_unfolding_all rfl); (case t => (intro _; with_unfolding_all rfl))); intro D pv h' p0 p1 p2 p3 p4 p5 p6 F' N' l1 hI'; k_lt l1; k_sweep)))
local macro_rules | `(tactic| walk_at "subscriptTail") => `(tactic| (k_here; (with_reducible show wpAny _ _ (subscriptTail _ _ (Value.ref _) (Value.ref _)) _ _ _); k_dflt ((refine' slice7 ?F ?N ?m ?i ?l ?z ?_ ?s ?t; (case F => k_asm); (case N => k_asm); (case m => k_mem); (case i => assumption); (case l => assumption); (case z => assumption); (case s => with_unfolding_all rfl); (case t => (intro _; with_unfolding_all rfl))); intro D pv h' p0 p1 p2 p3 p4 p5 p6 F' N' l1 hI'; k_lt l1; k_sweep)))
/-- its kind and version drawn -/
def LawK (s : Shared) (g : Heap) (L' : Addr) (i : Nat) (st nl f d b I : Addr) (h1 h2 : Int) (t1 t2 tp : Tok) (buf : Array UInt8) (sv : List Value) (sc : Nat) (no : Obj) (n : Nat) (p0 p1 p2 p3 p4 p5 p6 : Int) (fl : Flow) (s' : Shared) : Prop :=
  fl = .next ∧ ∃ (h' : Heap) (tk' : Nat) (m : Str → Option Value) (pl : Addr) (pc : Nat) (pv : List Value) (vn : Int) (tv tk0 : Tok), s' = { s with heap := h', toks := tk' } ∧
    Fr g L' h' (fun y => if y = Str.ofString "before" then some .none else if y = Str.ofString "plain" then some .none else if y = Str.ofString "version" then some (.int vn tv) else if y = Str.ofString "kind" then some (.int (p0.fmod 4) tk0) else if y = Str.ofString "p" then some (.ref pl) else if y = Str.ofString "stream" then some (.ref st) else if y = Str.ofString "f" then some (.ref f) else if y = Str.ofString "n" then some (.ref nl) else m y) ∧
    News g L' h' ((pl, listOf (List.toArray pv) pc) :: (bioObjs f d b h1 h2 t1 t2 tp buf ++ [(st, listOf (List.toArray sv) sc), (nl, no), (I, riObj n (i + 1))])) ∧
    IntsAre pv [p0, p1, p2, p3, p4, p5, p6]
/-- the message is made -/
def Ready (prog : Program) (w : World) (s : Shared) (g : Heap) (L' : Addr) (i : Nat) (st nl f d b I : Addr) (h1 h2 : Int) (t1 t2 tp : Tok) (buf : Array UInt8) (sv : List Value) (sc : Nat) (no : Obj) (n : Nat) (fl : Flow) (s' : Shared) : Prop :=
  fl = .next ∧ ∃ (h' : Heap) (tk' : Nat) (m : Str → Option Value) (kind vn : Int) (tv tk0 : Tok) (ms Pl : Addr) (pw : List Value) (cp : Nat) (pcs mo : List (Addr × Obj)) (ps : List (Option (List Int))) (plain before : Value), s' = { s with heap := h', toks := tk' } ∧
    Fr g L' h' (fun y => if y = Str.ofString "before" then some before else if y = Str.ofString "plain" then some plain else if y = Str.ofString "pieces" then some (.ref Pl) else if y = Str.ofString "message" then some (.ref ms) else if y = Str.ofString "version" then some (.int vn tv) else if y = Str.ofString "kind" then some (.int kind tk0) else if y = Str.ofString "stream" then some (.ref st) else if y = Str.ofString "f" then some (.ref f) else if y = Str.ofString "n" then some (.ref nl) else m y) ∧
    News g L' h' (bioObjs f d b h1 h2 t1 t2 tp buf ++ (st, listOf (List.toArray sv) sc) :: (nl, no) :: (I, riObj n (i + 1)) :: (Pl, listOf (List.toArray pw) cp) :: (mo ++ pcs)) ∧
    MsgIs prog w kind ms mo ps plain before ∧ Pieces pcs pw ps ∧ ps.length ≤ 11 ∧ (∀ p ∈ (Pl, listOf (List.toArray pw) cp) :: (mo ++ pcs), (@Ne Nat p.1 f ∧ @Ne Nat p.1 d ∧ @Ne Nat p.1 b) ∧ @Ne Nat p.1 I)
local macro_rules | `(tactic| walk_at "wpF") => `(tactic| (k_here; (with_reducible show wpF _ _ (exec (Stmt.If _ _ _ _) _) _ _ _); refine wpF_If ?_))
local macro_rules | `(tactic| walk_at "wpF") => `(tactic| (k_here; (with_reducible show wpF _ _ (execs (Stmt.If _ _ _ _ :: _) _) _ _ _); refine wpF_execs_cons (wpF_If ?_)))
local macro_rules | `(tactic| walk_at "wpF") => `(tactic| (k_here; (with_reducible show wpF _ _ (execs (Stmt.Assign [Expr.Tuple _ _ _] (Expr.Call (Expr.Name _ _) _ [] _) _ :: _) _) _ _ _); k_dflt (refine wpF_execs_cons (wpF_Assign_Tuple (CallF_ ?_)))))
theorem start_news {g h h' : Heap} {L : Addr} {m : Str → Option Value} {a1 a2 a3 a4 a5 : Addr × Obj} {pcs old : List (Addr × Obj)} (F : Fr g L h m) (N : News g L h old) (hk : h.StaysIn h') (hall : ∀ q ∈ a1 :: a2 :: a3 :: a4 :: a5 :: pcs, h'.get? q.1 = some q.2 ∧ h.get? q.1 = none) :
    News g L h' (a1 :: a2 :: a3 :: a4 :: a5 :: (old ++ pcs)) := fun p hp => by
  have N1 := news_fresh F hall
  have N2 : News g L h' old := N.grown hk
  have : p ∈ (a1 :: a2 :: a3 :: a4 :: a5 :: pcs) ∨ p ∈ old := by
    simp only [List.mem_cons, List.mem_append] at hp ⊢
    rcases hp with h | h | h | h | h | h | h
    · exact .inl (.inl h)
    · exact .inl (.inr (.inl h))
    · exact .inl (.inr (.inr (.inl h)))
    · exact .inl (.inr (.inr (.inr (.inl h))))
    · exact .inl (.inr (.inr (.inr (.inr (.inl h)))))
    · exact .inr h
    · exact .inl (.inr (.inr (.inr (.inr (.inr h)))))
  rcases this with h | h
  · exact N1 p h
  · exact N2 p h
/-- what is new stands apart from what was -/
theorem fresh_off {g h h' : Heap} {L pl f d b st nl I : Addr} {op ost on oI : Obj} {h1 h2 : Int} {t1 t2 tp : Tok} {buf : Array UInt8} {all : List (Addr × Obj)} (N : News g L h ((pl, op) :: (bioObjs f d b h1 h2 t1 t2 tp buf ++ [(st, ost), (nl, on), (I, oI)]))) (hall : ∀ q ∈ all, h'.get? q.1 = some q.2 ∧ h.get? q.1 = none) :
    ∀ p ∈ all, (@Ne Nat p.1 f ∧ @Ne Nat p.1 d ∧ @Ne Nat p.1 b) ∧ @Ne Nat p.1 I := fun p hp => by
  have no : ∀ x o, h.get? x = some o → @Ne Nat p.1 x := fun x o hx e => by
    have := (hall p hp).2
    rw [show p.1 = x from e, hx] at this; cases this
  refine ⟨⟨no f _ (N (f, instObj 510 d) (by simp)).1, no d _ (N _ (List.mem_cons_of_mem _ (List.mem_append_left _ (List.mem_cons_of_mem _ List.mem_cons_self)))).1, no b _ (N (b, baObj buf) (by simp)).1⟩, no I _ (N (I, oI) (by simp)).1⟩
theorem dict_F {prog : Program} {w : World} {A : Around} {E : Value → Shared → Prop} {s : Shared} {g : Heap} {L od : Addr} {m : Str → Option Value} {news : List (Addr × Obj)} {oo : Obj} {kvs : List (Str × Value)} {Q : Value → Shared → Prop} (F : Fr g L s.heap m) (N : News g L s.heap news) (hb : g.NoLimit) (hm : (od, oo) ∈ news)
    (hd : oo.IsDictOf (PySem.strKind prog w) kvs) (lo : (od == sysModules) = false) (hz : kvs.length ≤ sizeLine)
    (k : ∀ c oc h', Fr g L h' m → News g L h' ((c, oc) :: news) → (∀ p ∈ news, p.1 < c) → (c == sysModules) = false → oc.IsDictOf (PySem.strKind prog w) kvs → Q (.ref c) { s with heap := h' }) : wpAny (model prog w) A (call (.type "dict") [.ref od]) Q E s := by
  refine kt_call_dict lo (kda_dict N hm hd) hz fun h' hm' hs => ?_
  obtain ⟨o', ho', hd'⟩ := Heap.dictOf_iff.mp hm'
  have N1 := News.push F N { cls := .type "dict", data := .dict #[] }
  exact k _ o' h' ((F.push _).change hs (N1 _ (.head _)).2.1 (N1.fresh (.head _))) (N1.setHead N.apart hs ho') (fun p hp => Heap.lt_size (N p hp).1) (F.notModules (modules_low hb)) hd'
local macro_rules | `(tactic| walk_at "call type:dict") => `(tactic| (k_here; k_dflt ((refine' dict_F ?F ?N ?b ?m ?d ?lo ?z ?_; (case F => k_asm); (case N => k_asm); (case b => exact Top.nolimit (by k_asm)); (case m => k_mem); (case d => with_reducible assumption); (case lo => with_reducible assumption); (case z => rw [sizeLine_eq]; omega)); intro c oc h' F' N' l1 lo' hd'; k_lt l1; k_sweep)))
theorem ready_mk {prog : Program} {w : World} {s : Shared} {g h' : Heap} {L' : Addr} {i : Nat} {st nl f d b I : Addr} {h1 h2 : Int} {t1 t2 tp : Tok} {buf : Array UInt8} {sv : List Value} {sc : Nat} {no : Obj} {n tk' : Nat} {m : Str → Option Value} {kind vn : Int} {tv tk0 : Tok} {ms Pl : Addr} {pw : List Value} {cp : Nat} {pcs mo all : List (Addr × Obj)} {ps : List (Option (List Int))} {plain before : Value}
    (F : Fr g L' h' m) (e1 : m (Str.ofString "before") = some before) (e2 : m (Str.ofString "plain") = some plain) (e3 : m (Str.ofString "pieces") = some (.ref Pl)) (e4 : m (Str.ofString "message") = some (.ref ms)) (e5 : m (Str.ofString "version") = some (.int vn tv)) (e6 : m (Str.ofString "kind") = some (.int kind tk0)) (e7 : m (Str.ofString "stream") = some (.ref st)) (e8 : m (Str.ofString "f") = some (.ref f)) (e9 : m (Str.ofString "n") = some (.ref nl))
    (N : News g L' h' all) (hs : ∀ p ∈ bioObjs f d b h1 h2 t1 t2 tp buf ++ (st, listOf (List.toArray sv) sc) :: (nl, no) :: (I, riObj n (i + 1)) :: (Pl, listOf (List.toArray pw) cp) :: (mo ++ pcs), p ∈ all) (M : MsgIs prog w kind ms mo ps plain before) (P : Pieces pcs pw ps) (hl : ps.length ≤ 11)
    (ho : ∀ p ∈ (Pl, listOf (List.toArray pw) cp) :: (mo ++ pcs), (@Ne Nat p.1 f ∧ @Ne Nat p.1 d ∧ @Ne Nat p.1 b) ∧ @Ne Nat p.1 I) : Ready prog w s g L' i st nl f d b I h1 h2 t1 t2 tp buf sv sc no n .next { s with heap := h', toks := tk' } :=
  ⟨rfl, h', tk', m, kind, vn, tv, tk0, ms, Pl, pw, cp, pcs, mo, ps, plain, before, rfl, fr_fact (fr_fact (fr_fact (fr_fact (fr_fact (fr_fact (fr_fact (fr_fact (fr_fact F e9) e8) e7) e6) e5) e4) e3) e2) e1, fun p hp => N p (hs p hp), M, P, hl, ho⟩
theorem mem_start {cc t ms dm P od pl f d b st nl I : Addr × Obj} {pcs : List (Addr × Obj)} : ∀ p ∈ [f, d, b] ++ st :: nl :: I :: P :: ([ms, dm, od, cc] ++ pcs), p ∈ cc :: t :: ms :: dm :: P :: od :: pl :: f :: d :: b :: st :: nl :: I :: pcs := by
  intro p hp
  simp only [List.cons_append, List.nil_append, List.mem_cons] at hp ⊢
  rcases hp with h | h | h | h | h | h | h | h | h | h | h | h <;> simp [h]
theorem ho_start {t ms dm P od cc : Addr × Obj} {pcs : List (Addr × Obj)} {G : Addr × Obj → Prop} (hfr : ∀ p ∈ t :: ms :: dm :: P :: od :: pcs, G p) (hc : G cc) : ∀ p ∈ P :: ([ms, dm, od, cc] ++ pcs), G p := by
  intro p hp
  simp only [List.cons_append, List.nil_append, List.mem_cons] at hp hfr
  rcases hp with h | h | h | h | h | h
  · exact hfr p (.inr (.inr (.inr (.inl h))))
  · exact hfr p (.inr (.inl h))
  · exact hfr p (.inr (.inr (.inl h)))
  · exact hfr p (.inr (.inr (.inr (.inr (.inl h)))))
  · exact h ▸ hc
  · exact hfr p (.inr (.inr (.inr (.inr (.inr h)))))
theorem startPs_len (ver : Str) (os : List (Str × Option Str)) : (startPs ver os).length ≤ 2 * os.length + 3 := by
  unfold startPs
  rw [List.length_append, List.length_cons, flatP_len]
  split
  · simp
  · simp
theorem mem_opt {t P x y pl f d b st nl I : Addr × Obj} : ∀ p ∈ [f, d, b] ++ st :: nl :: I :: P :: ([] ++ []), p ∈ [t, P, x, y, pl, f, d, b, st, nl, I] := by
  intro p hp
  simp only [List.cons_append, List.nil_append, List.mem_cons, List.not_mem_nil, or_false] at hp ⊢
  rcases hp with h | h | h | h | h | h | h <;> simp [h]
theorem mem_auth {t P D x y pl f d b st nl I : Addr × Obj} : ∀ p ∈ [f, d, b] ++ st :: nl :: I :: P :: ([x, y] ++ [D]), p ∈ [t, P, D, x, y, pl, f, d, b, st, nl, I] := by
  intro p hp
  simp only [List.cons_append, List.nil_append, List.mem_cons, List.not_mem_nil, or_false] at hp ⊢
  rcases hp with h | h | h | h | h | h | h | h | h | h <;> simp [h]
theorem ho_one {P : Addr × Obj} {G : Addr × Obj → Prop} (h : G P) : ∀ p ∈ P :: ([] ++ []), G p := by
  intro p hp
  rw [List.mem_singleton.mp hp]; exact h
theorem ho_four {P x y D : Addr × Obj} {G : Addr × Obj → Prop} (h1 : G P) (h2 : G x) (h3 : G y) (h4 : G D) : ∀ p ∈ P :: ([x, y] ++ [D]), G p := by
  intro p hp
  simp only [List.cons_append, List.nil_append, List.mem_cons, List.not_mem_nil, or_false] at hp
  rcases hp with rfl | rfl | rfl | rfl
  · exact h1
  · exact h2
  · exact h3
  · exact h4
theorem gt4 {x f d b I : Addr} (h1 : @LT.lt Nat _ f x) (h2 : @LT.lt Nat _ d x) (h3 : @LT.lt Nat _ b x) (h4 : @LT.lt Nat _ I x) : (@Ne Nat x f ∧ @Ne Nat x d ∧ @Ne Nat x b) ∧ @Ne Nat x I :=
  ⟨⟨Ne.symm (Nat.ne_of_lt h1), Ne.symm (Nat.ne_of_lt h2), Ne.symm (Nat.ne_of_lt h3)⟩, Ne.symm (Nat.ne_of_lt h4)⟩
theorem auth_pieces {D : Addr} {vs : List Value} {c : Nat} {x : Str} (h : IntsAre vs ([0, 0, 0, ((KBw.bInts (u8 x)).length : Int)] ++ KBw.bInts (u8 x))) : Pieces [(D, listOf (List.toArray vs) c)] [.ref D] [some (long x)] :=
  .cons ⟨D, vs, c, rfl, List.mem_cons_self, h⟩ .nil
theorem mem_reg {t ms dm el P pl f d b st nl I : Addr × Obj} {pcs : List (Addr × Obj)} : ∀ p ∈ [f, d, b] ++ st :: nl :: I :: P :: ([ms, dm, el] ++ pcs), p ∈ t :: ms :: dm :: el :: P :: pl :: f :: d :: b :: st :: nl :: I :: pcs := by
  intro p hp
  simp only [List.cons_append, List.nil_append, List.mem_cons] at hp ⊢
  rcases hp with h | h | h | h | h | h | h | h | h | h | h <;> simp [h]
theorem ho_reg {t ms dm el P : Addr × Obj} {pcs : List (Addr × Obj)} {G : Addr × Obj → Prop} (hfr : ∀ p ∈ t :: ms :: dm :: el :: P :: pcs, G p) : ∀ p ∈ P :: ([ms, dm, el] ++ pcs), G p := by
  intro p hp
  simp only [List.cons_append, List.nil_append, List.mem_cons] at hp hfr
  rcases hp with h | h | h | h | h
  · exact hfr p (.inr (.inr (.inr (.inr (.inl h)))))
  · exact hfr p (.inr (.inl h))
  · exact hfr p (.inr (.inr (.inl h)))
  · exact hfr p (.inr (.inr (.inr (.inl h))))
  · exact hfr p (.inr (.inr (.inr (.inr (.inr h)))))
theorem regPs_len (os : List (Option Str)) : (regPs os).length ≤ os.length + 1 := by
  unfold regPs
  simp
theorem toldP_snoc (a : Option (List Int)) : ∀ (ps : List (Option (List Int))), toldP (ps ++ [a]) = toldP ps ++ (if badP ps then [] else a.getD [])
  | [] => by cases a <;> simp [toldP, badP]
  | none :: r => by simp [toldP, badP]
  | some x :: r => by
    show x ++ toldP (r ++ [a]) = x ++ toldP r ++ (if badP r then [] else a.getD [])
    rw [toldP_snoc a r, List.append_assoc]
theorem badP_snoc (a : Option (List Int)) : ∀ (ps : List (Option (List Int))), badP (ps ++ [a]) = (badP ps || a.isNone)
  | [] => by cases a <;> rfl
  | none :: r => by simp [badP]
  | some x :: r => by
    show badP (r ++ [a]) = (badP r || a.isNone)
    exact badP_snoc a r
/-- the two layings of a message -/
def TimesInv (s : Shared) (g : Heap) (L' nl f d b I I2 Pl ms : Addr) (h1 h2 : Int) (t1 t2 tv tk0 : Tok) (vn kind : Int) (before plain : Value) (no oI : Obj) (pw : List Value) (cp : Nat) (tl : List (Addr × Obj)) (B0 t : Nat) (s' : Shared) : Prop :=
  ∃ (h' : Heap) (tk' : Nat) (m : Str → Option Value) (tp : Tok) (buf : Array UInt8) (st : Addr) (sv : List Value) (sc : Nat), s' = { s with heap := h', toks := tk' } ∧
    Fr g L' h' (fun y => if y = Str.ofString "before" then some before else if y = Str.ofString "plain" then some plain else if y = Str.ofString "pieces" then some (.ref Pl) else if y = Str.ofString "message" then some (.ref ms) else if y = Str.ofString "version" then some (.int vn tv) else if y = Str.ofString "kind" then some (.int kind tk0) else if y = Str.ofString "stream" then some (.ref st) else if y = Str.ofString "f" then some (.ref f) else if y = Str.ofString "n" then some (.ref nl) else m y) ∧
    News g L' h' (bioObjs f d b h1 h2 t1 t2 tp buf ++ (st, listOf (List.toArray sv) sc) :: (I2, riObj 2 t) :: (nl, no) :: (I, oI) :: (Pl, listOf (List.toArray pw) cp) :: tl) ∧
    IntsAre sv (KBw.bInts buf) ∧ buf.size ≤ B0 + 200 * t
/-- the pieces told so far -/
def PieceInv (s : Shared) (g : Heap) (L' nl f d b I I2 I3 Pl ms : Addr) (h1 h2 : Int) (t1 t2 tp tv tk0 : Tok) (vn kind : Int) (before plain : Value) (no oI oI2 : Obj) (buf : Array UInt8) (pw : List Value) (cp : Nat) (tl : List (Addr × Obj)) (ps : List (Option (List Int))) (k : Nat) (s' : Shared) : Prop :=
  ∃ (h' : Heap) (tk' : Nat) (m : Str → Option Value) (st : Addr) (sv : List Value) (sc : Nat) (oI3 : Obj), s' = { s with heap := h', toks := tk' } ∧
    Fr g L' h' (fun y => if y = Str.ofString "refused" then some (.bool (badP (ps.take k))) else if y = Str.ofString "before" then some before else if y = Str.ofString "plain" then some plain else if y = Str.ofString "pieces" then some (.ref Pl) else if y = Str.ofString "message" then some (.ref ms) else if y = Str.ofString "version" then some (.int vn tv) else if y = Str.ofString "kind" then some (.int kind tk0) else if y = Str.ofString "stream" then some (.ref st) else if y = Str.ofString "f" then some (.ref f) else if y = Str.ofString "n" then some (.ref nl) else m y) ∧
    News g L' h' (bioObjs f d b h1 h2 t1 t2 tp buf ++ (st, listOf (List.toArray sv) sc) :: (I3, oI3) :: (I2, oI2) :: (nl, no) :: (I, oI) :: (Pl, listOf (List.toArray pw) cp) :: tl) ∧ oI3.cls = .type "list_iterator" ∧ oI3.data = .fields #[.ref Pl, .int k 0] ∧
    IntsAre sv (KBw.bInts buf ++ toldP (ps.take k))
/-- behind the try -/
def AfterTry (s : Shared) (g : Heap) (L' nl f d b st Pl ms : Addr) (h1 h2 : Int) (t1 t2 tv tk0 : Tok) (vn kind : Int) (before plain : Value) (buf : Array UInt8) (rest : List (Addr × Obj)) (ps : List (Option (List Int))) (fl : Flow) (s' : Shared) : Prop :=
  fl = .next ∧ ∃ (h' : Heap) (tk' : Nat) (m : Str → Option Value) (tp : Tok) (out : Array UInt8), s' = { s with heap := h', toks := tk' } ∧
    Fr g L' h' (fun y => if y = Str.ofString "word" then some (.bool (badP ps)) else if y = Str.ofString "refused" then some (.bool (badP ps)) else if y = Str.ofString "before" then some before else if y = Str.ofString "plain" then some plain else if y = Str.ofString "pieces" then some (.ref Pl) else if y = Str.ofString "message" then some (.ref ms) else if y = Str.ofString "version" then some (.int vn tv) else if y = Str.ofString "kind" then some (.int kind tk0) else if y = Str.ofString "stream" then some (.ref st) else if y = Str.ofString "f" then some (.ref f) else if y = Str.ofString "n" then some (.ref nl) else m y) ∧
    News g L' h' (bioObjs f d b h1 h2 t1 t2 tp (buf ++ out) ++ rest) ∧ KBw.bInts out = toldP ps ∧ out.size ≤ 200
theorem perm1 {g h : Heap} {L : Addr} {x f d b st nl I P : Addr × Obj} {tl : List (Addr × Obj)} (N : News g L h (x :: f :: d :: b :: st :: nl :: I :: P :: tl)) : News g L h ([f, d, b] ++ st :: x :: nl :: I :: P :: tl) := fun p hp => by
  refine N p ?_
  simp only [List.cons_append, List.nil_append, List.mem_cons] at hp ⊢
  rcases hp with h | h | h | h | h | h | h | h | h <;> simp [h]
theorem list_ne_iter {g h : Heap} {L st I : Addr} {news : List (Addr × Obj)} {sv : List Value} {sc : Nat} {oI : Obj} (N : News g L h news) (h1 : (st, listOf (List.toArray sv) sc) ∈ news) (h2 : (I, oI) ∈ news) (hc : oI.cls ≠ .type "list") : @Ne Nat st I := fun e => by
  have := congrArg (fun p : Addr × Obj => p.2.cls) (news_fun N h1 h2 e)
  exact hc this.symm
theorem news_turnG {g h h' : Heap} {L I f d b : Addr} {h1 h2 : Int} {t1 t2 tp : Tok} {buf : Array UInt8} {st : Addr × Obj} {rest : List (Addr × Obj)} {oI oJ : Obj} (N : News g L h (bioObjs f d b h1 h2 t1 t2 tp buf ++ st :: (I, oI) :: rest)) (hk : ∀ b o, b ∉ [I] → h.get? b = some o → h'.get? b = some o) (iI : @Ne Nat f I ∧ @Ne Nat d I ∧ @Ne Nat b I) (e1 : @Ne Nat st.1 I) (hr : ∀ p ∈ rest, p.1 ≠ I) (z : h'.get? I = some oJ ∧ I ≠ L ∧ g.get? I = none) :
    News g L h' (bioObjs f d b h1 h2 t1 t2 tp buf ++ st :: (I, oJ) :: rest) := by
  refine news_both (LCg.news_but (news_left N) hk (bio_ne iI.1 iI.2.1 iI.2.2)) fun p hp => ?_
  have N2 := news_right N
  rcases List.mem_cons.mp hp with rfl | hp
  · exact ⟨hk _ _ (by simpa using e1) (N2 _ List.mem_cons_self).1, (N2 _ List.mem_cons_self).2⟩
  rcases List.mem_cons.mp hp with rfl | hp
  · exact z
  · have := N2 p (List.mem_cons_of_mem _ (List.mem_cons_of_mem _ hp))
    exact ⟨hk _ _ (by simpa using hr p hp) this.1, this.2⟩
theorem Pieces.at {pcs : List (Addr × Obj)} : ∀ {vs : List Value} {ps : List (Option (List Int))}, Pieces pcs vs ps → ∀ {i : Nat} {v : Value}, vs[i]? = some v → ∃ p, ps[i]? = some p ∧ PieceIs pcs v p
  | _, _, .nil, i, v, h => by simp at h
  | _, _, .cons hv _, 0, v, h => by cases h; exact ⟨_, rfl, hv⟩
  | _, _, .cons _ hr, i + 1, v, h => hr.at (i := i) (v := v) (by simpa using h)
theorem short_len {x : Str} (hx : x ∈ texts) : (short x).length ≤ 20 := by
  have := u8_size hx
  unfold short
  rw [List.length_append]
  show 2 + _ ≤ 20
  omega
theorem told_small (n : Nat) : ∀ (ps : List (Option (List Int))), (∀ a, some a ∈ ps → a.length ≤ n) → (toldP ps).length ≤ n * ps.length
  | [], _ => by simp [toldP]
  | none :: r, _ => by simp [toldP]
  | some a :: r, h => by
    have ih := told_small n r fun b hb => h b (List.mem_cons_of_mem _ hb)
    have ha := h a List.mem_cons_self
    show (a ++ toldP r).length ≤ _
    rw [List.length_append, List.length_cons, Nat.mul_succ]
    omega
theorem small_map {os : List (Option Str)} (ht : ∀ x, some x ∈ os → x ∈ texts) {k : List Int} (hk : k.length ≤ 20) : ∀ a, some a ∈ some k :: os.map (Option.map short) → a.length ≤ 20 := fun a ha => by
  rcases List.mem_cons.mp ha with h | h
  · cases h; exact hk
  · obtain ⟨o, ho, e⟩ := List.mem_map.mp h
    cases o with
    | none => cases e
    | some x =>
      cases e
      exact short_len (ht x ho)
theorem msg_small {prog : Program} {w : World} {kind : Int} {ms : Addr} {mo : List (Addr × Obj)} {ps : List (Option (List Int))} {plain before : Value} (M : MsgIs prog w kind ms mo ps plain before) : ∀ a, some a ∈ ps → a.length ≤ 20 := by
  cases M with
  | opt => exact fun a h => nomatch h
  | auth hx _ =>
    intro a ha
    rw [List.mem_singleton] at ha
    cases ha
    have := u8_size hx
    unfold long
    rw [List.length_append]
    show 4 + _ ≤ 20
    omega
  | reg hI _ => exact small_map (items_texts hI) (by simp)
  | @start _ _ _ _ _ _ _ _ tv _ _ kvs os ver _ _ _ _ hO _ hv _ _ =>
    rw [startPs_eq]
    have hO' : Opts (stored kvs cqlV (.str ver tv)) (setO os cqlV (some ver)) := opts_set (x := some ver) hO (by decide +kernel) (show Item (.str ver tv) (some ver) from And.intro hv (Or.inl ⟨_, rfl⟩))
    exact small_map (opts_texts hO') (by simp)
theorem piece_step {s : Shared} {g h' : Heap} {L' nl f d b I I2 I3 Pl ms st : Addr} {h1 h2 : Int} {t1 t2 tp tv tk0 : Tok} {vn kind : Int} {before plain : Value} {no oI oI2 oI3 : Obj} {buf : Array UInt8} {pw sv : List Value} {cp sc tk' k : Nat} {tl all : List (Addr × Obj)} {ps : List (Option (List Int))} {p : Option (List Int)} {m : Str → Option Value} {z : Bool} {ns : List Int}
    (F : Fr g L' h' m) (e0 : m (Str.ofString "refused") = some (.bool z)) (e1 : m (Str.ofString "before") = some before) (e2 : m (Str.ofString "plain") = some plain) (e3 : m (Str.ofString "pieces") = some (.ref Pl)) (e4 : m (Str.ofString "message") = some (.ref ms)) (e5 : m (Str.ofString "version") = some (.int vn tv)) (e6 : m (Str.ofString "kind") = some (.int kind tk0)) (e7 : m (Str.ofString "stream") = some (.ref st)) (e8 : m (Str.ofString "f") = some (.ref f)) (e9 : m (Str.ofString "n") = some (.ref nl))
    (N : News g L' h' all) (hs : ∀ q ∈ bioObjs f d b h1 h2 t1 t2 tp buf ++ (st, listOf (List.toArray sv) sc) :: (I3, oI3) :: (I2, oI2) :: (nl, no) :: (I, oI) :: (Pl, listOf (List.toArray pw) cp) :: tl, q ∈ all) (c1 : oI3.cls = .type "list_iterator") (c2 : oI3.data = .fields #[.ref Pl, .int (k + 1 : Nat) 0])
    (hp : ps[k]? = some p) (hz : (badP (ps.take k) || p.isNone) = z) (hns : ns = toldP (ps.take k) ++ (if badP (ps.take k) then [] else p.getD [])) (hI : IntsAre sv (KBw.bInts buf ++ ns)) :
    PieceInv s g L' nl f d b I I2 I3 Pl ms h1 h2 t1 t2 tp tv tk0 vn kind before plain no oI oI2 buf pw cp tl ps (k + 1) { s with heap := h', toks := tk' } := by
  unfold PieceInv
  refine ⟨h', tk', m, st, sv, sc, oI3, rfl, fr_fact (fr_fact (fr_fact (fr_fact (fr_fact (fr_fact (fr_fact (fr_fact (fr_fact (fr_fact F e9) e8) e7) e6) e5) e4) e3) e2) e1) ?_, fun q hq => N q (hs q hq), c1, c2, ?_⟩
  · rw [take_at hp, badP_snoc, hz]; exact e0
  · rw [take_at hp, toldP_snoc, ← hns]; exact hI
local macro_rules | `(tactic| walk_at "binaryOp Add ref ref") => `(tactic| (k_here; k_dflt ((refine' add_pieces ?F ?N ?a ?b ?z ?_; (case F => k_asm); (case N => k_asm); (case a => k_mem); (case b => k_mem); (case z => rw [sizeLine_eq]; omega)); intro D h' F' N' l1; k_sweep; (try dsimp only))))
local macro_rules | `(tactic| walk_at "wpF") => `(tactic| (k_here; (with_reducible show wpF _ _ (execs (Stmt.Try _ _ _ _ _ :: _) _) _ _ _); refine held ?_))
theorem mem_add {x D f d b st : Addr × Obj} {tl : List (Addr × Obj)} : ∀ p ∈ [f, d, b] ++ x :: tl, p ∈ x :: D :: f :: d :: b :: st :: tl := by
  intro p hp
  simp only [List.cons_append, List.nil_append, List.mem_cons] at hp ⊢
  rcases hp with h | h | h | h | h <;> simp [h]
theorem mem_same {D f d b : Addr × Obj} {tl : List (Addr × Obj)} : ∀ p ∈ [f, d, b] ++ tl, p ∈ D :: f :: d :: b :: tl := fun p hp => List.mem_cons_of_mem _ hp
theorem news_drop {g h h' : Heap} {L I f d b : Addr} {h1 h2 : Int} {t1 t2 tp : Tok} {buf : Array UInt8} {st : Addr × Obj} {rest : List (Addr × Obj)} {oI : Obj} (N : News g L h (bioObjs f d b h1 h2 t1 t2 tp buf ++ st :: (I, oI) :: rest)) (hk : ∀ b o, b ∉ [I] → h.get? b = some o → h'.get? b = some o) (iI : @Ne Nat f I ∧ @Ne Nat d I ∧ @Ne Nat b I) (e1 : @Ne Nat st.1 I) (hr : ∀ p ∈ rest, p.1 ≠ I) :
    News g L h' (bioObjs f d b h1 h2 t1 t2 tp buf ++ st :: rest) := by
  refine news_both (LCg.news_but (news_left N) hk (bio_ne iI.1 iI.2.1 iI.2.2)) fun p hp => ?_
  have N2 := news_right N
  rcases List.mem_cons.mp hp with rfl | hp
  · exact ⟨hk _ _ (by simpa using e1) (N2 _ List.mem_cons_self).1, (N2 _ List.mem_cons_self).2⟩
  · have := N2 p (List.mem_cons_of_mem _ (List.mem_cons_of_mem _ hp))
    exact ⟨hk _ _ (by simpa using hr p hp) this.1, this.2⟩
theorem off_all {f d b st I : Addr} {o1 o2 : Obj} {rest : List (Addr × Obj)} (hst : @Ne Nat st f ∧ @Ne Nat st d ∧ @Ne Nat st b) (jI : @Ne Nat f I ∧ @Ne Nat d I ∧ @Ne Nat b I) (hr : ∀ p ∈ rest, @Ne Nat p.1 f ∧ @Ne Nat p.1 d ∧ @Ne Nat p.1 b) : ∀ p ∈ (st, o1) :: (I, o2) :: rest, p.1 ∉ [f, d, b] := fun p hp hm => by
  have q : @Ne Nat p.1 f ∧ @Ne Nat p.1 d ∧ @Ne Nat p.1 b := by
    rcases List.mem_cons.mp hp with rfl | hp
    · exact hst
    rcases List.mem_cons.mp hp with rfl | hp
    · exact ⟨Ne.symm jI.1, Ne.symm jI.2.1, Ne.symm jI.2.2⟩
    · exact hr p hp
  simp only [List.mem_cons, List.not_mem_nil, or_false] at hm
  rcases hm with hm | hm | hm
  · exact q.1 hm
  · exact q.2.1 hm
  · exact q.2.2 hm
theorem after_try {s : Shared} {g h' : Heap} {L' nl f d b st Pl ms : Addr} {h1 h2 : Int} {t1 t2 tv tk0 tp : Tok} {vn kind : Int} {before plain : Value} {buf out : Array UInt8} {rest : List (Addr × Obj)} {ps : List (Option (List Int))} {tk' : Nat} {m : Str → Option Value}
    (F : Fr g L' h' m) (e0 : m (Str.ofString "word") = some (.bool (badP ps))) (e00 : m (Str.ofString "refused") = some (.bool (badP ps))) (e1 : m (Str.ofString "before") = some before) (e2 : m (Str.ofString "plain") = some plain) (e3 : m (Str.ofString "pieces") = some (.ref Pl)) (e4 : m (Str.ofString "message") = some (.ref ms)) (e5 : m (Str.ofString "version") = some (.int vn tv)) (e6 : m (Str.ofString "kind") = some (.int kind tk0)) (e7 : m (Str.ofString "stream") = some (.ref st)) (e8 : m (Str.ofString "f") = some (.ref f)) (e9 : m (Str.ofString "n") = some (.ref nl))
    (N : News g L' h' (bioObjs f d b h1 h2 t1 t2 tp (buf ++ out) ++ rest)) (ho : KBw.bInts out = toldP ps) (hz : out.size ≤ 200) : AfterTry s g L' nl f d b st Pl ms h1 h2 t1 t2 tv tk0 vn kind before plain buf rest ps .next { s with heap := h', toks := tk' } :=
  ⟨rfl, h', tk', m, tp, out, rfl, fr_fact (fr_fact (fr_fact (fr_fact (fr_fact (fr_fact (fr_fact (fr_fact (fr_fact (fr_fact (fr_fact F e9) e8) e7) e6) e5) e4) e3) e2) e1) e00) e0, N, ho, hz⟩
theorem ne_ints_N {prog : Program} {w : World} {A : Around} {E : Value → Shared → Prop} {s : Shared} {g : Heap} {L a b : Addr} {news : List (Addr × Obj)} {xs zs : List Value} {ns : List Int} {c c' : Nat} {Q : Value → Shared → Prop} (N : News g L s.heap news) (ha : (a, listOf (List.toArray xs) c) ∈ news) (hb : (b, listOf (List.toArray zs) c') ∈ news)
    (hi : IntsAre xs ns) (hj : IntsAre zs ns) (hu : A.units + 64 < cLine) (h : Q (.bool false) s) : wpAny (model prog w) A (compareOp .NotEq (.ref a) (.ref b)) Q E s :=
  ke_ne_ints ⟨_, (N _ ha).1, rfl, _, rfl⟩ ⟨_, (N _ hb).1, rfl, _, rfl⟩ hi hj hu (by simpa using h)
local macro_rules | `(tactic| walk_at "compareOp NotEq ref ref") => `(tactic| (k_here; k_dflt (refine' ne_ints_N ?N ?a ?b ?i ?j ?u ?_; (case N => k_asm); (case a => k_mem); (case b => k_mem); (case i => assumption); (case j => assumption); (case u => exact Nat.le_of_ble_eq_true rfl))))
theorem hits_sub {A : Around} {s : Shared} {kvs : List (Str × Value)} : ∀ (l : List (Str × Value)), (∀ p ∈ l, valueAt kvs p.1 = some p.2) → KeqHits A s kvs l true
  | [], _ => .nil
  | (k, v) :: r, h => KeqHits.hit (e := true) (b := true) (h _ List.mem_cons_self) (SeqAt.EqAt.same v) (hits_sub r fun p hp => h p (List.mem_cons_of_mem _ hp))
theorem ne_dict_N {prog : Program} {w : World} {A : Around} {E : Value → Shared → Prop} {s : Shared} {g : Heap} {L a b : Addr} {news : List (Addr × Obj)} {oa ob : Obj} {kvs : List (Str × Value)} {Q : Value → Shared → Prop} (N : News g L s.heap news) (ha : (a, oa) ∈ news) (hb : (b, ob) ∈ news)
    (da : oa.IsDictOf (PySem.strKind prog w) kvs) (db : ob.IsDictOf (PySem.strKind prog w) kvs) (la : (a == sysModules) = false) (lb : (b == sysModules) = false) (hu : A.units < cLine) (h : Q (.bool false) s) : wpAny (model prog w) A (compareOp .NotEq (.ref a) (.ref b)) Q E s := by
  obtain ⟨ep, hat⟩ := (kda_dict N ha da).dictAt
  refine keq_ne (r := true) la lb (kda_dict N ha da) (kda_dict N hb db) hu (fun _ => hits_sub kvs fun p hp => ?_) (by simpa using h)
  obtain ⟨i, hi, e⟩ := List.mem_iff_getElem.mp hp
  exact valueAt_of hat.nodup (by rw [List.getElem?_eq_getElem hi, e])
local macro_rules | `(tactic| walk_at "compareOp NotEq ref ref") => `(tactic| (k_here; k_dflt (refine' ne_dict_N ?N ?a ?b ?d ?e ?l ?m ?u ?_; (case N => k_asm); (case a => k_mem); (case b => k_mem); (case d => with_reducible assumption); (case e => with_reducible assumption); (case l => with_reducible assumption); (case m => with_reducible assumption); (case u => exact Nat.le_of_ble_eq_true rfl))))
theorem msg_plain {prog : Program} {w : World} {kind : Int} {ms : Addr} {mo : List (Addr × Obj)} {ps : List (Option (List Int))} {plain before : Value} (M : MsgIs prog w kind ms mo ps plain before) :
    plain = .none ∨ ∃ od bd oo ob kvs, plain = .ref od ∧ before = .ref bd ∧ (od, oo) ∈ mo ∧ (bd, ob) ∈ mo ∧ Obj.IsDictOf (PySem.strKind prog w) oo kvs ∧ Obj.IsDictOf (PySem.strKind prog w) ob kvs ∧ (od == sysModules) = false ∧ (bd == sysModules) = false := by
  cases M with
  | opt => exact .inl rfl
  | auth _ _ => exact .inl rfl
  | reg _ _ => exact .inl rfl
  | start hd hd2 lo lo2 _ _ _ _ _ => exact .inr ⟨_, _, _, _, _, rfl, rfl, by simp, by simp, hd, hd2, lo, lo2⟩
theorem mem_end1 {f d b st nl I : Addr × Obj} {tl : List (Addr × Obj)} : ∀ p ∈ [f, d, b] ++ [st, nl, I], p ∈ f :: d :: b :: st :: nl :: I :: tl := by
  intro p hp
  simp only [List.cons_append, List.nil_append, List.mem_cons, List.not_mem_nil, or_false] at hp ⊢
  rcases hp with h | h | h | h | h | h <;> simp [h]
theorem law_end {s : Shared} {g h' : Heap} {L' I nl f d b st : Addr} {h1 h2 : Int} {t1 t2 tp : Tok} {no : Obj} {n i tk' sc : Nat} {m : Str → Option Value} {buf : Array UInt8} {sv : List Value} {all : List (Addr × Obj)}
    (F : Fr g L' h' m) (e7 : m (Str.ofString "stream") = some (.ref st)) (e8 : m (Str.ofString "f") = some (.ref f)) (e9 : m (Str.ofString "n") = some (.ref nl)) (N : News g L' h' all) (hs : ∀ p ∈ bioObjs f d b h1 h2 t1 t2 tp buf ++ [(st, listOf (List.toArray sv) sc), (nl, no), (I, riObj n i)], p ∈ all)
    (hI : IntsAre sv (KBw.bInts buf)) (hz : buf.size ≤ 400 * i) : LawInv s g L' I nl f d b h1 h2 t1 t2 no n i { s with heap := h', toks := tk' } :=
  ⟨h', tk', m, tp, buf, st, sv, sc, riObj n i, rfl, fr_fact (fr_fact (fr_fact F e9) e8) e7, fun p hp => N p (hs p hp), rfl, hI, hz⟩
theorem isi_list_N {prog : Program} {w : World} {A : Around} {E : Value → Shared → Prop} {s : Shared} {g : Heap} {L a : Addr} {news : List (Addr × Obj)} {its : Array Value} {c : Nat} {Q : Value → Shared → Prop} (N : News g L s.heap news) (hm : (a, listOf its c) ∈ news) (h : Q (.bool true) s) : wpAny (model prog w) A (call (.builtin "isinstance") [.ref a, .type "list"]) Q E s :=
  PySem.IsiPair.list_list (N _ hm).1 rfl h
local macro_rules | `(tactic| walk_at "call builtin:isinstance") => `(tactic| (k_here; (with_reducible show wpAny _ _ (call _ [Value.ref _, Value.type _]) _ _ _); k_dflt (refine' isi_list_N ?N ?m ?_; (case N => k_asm); (case m => k_mem))))
local macro_rules | `(tactic| walk_at "call ref") => `(tactic| (k_here; (with_reducible show wpAny _ _ (call (Value.ref 771) _) _ _ _); k_dflt ((refine' wpAny_call (codeAny_le (law_word (siteX (by k_asm) (by k_asm) (by k_asm) (by k_asm) off_nil) ?_) (Nat.le_of_ble_eq_true rfl) (Nat.le_of_ble_eq_true rfl))); intro x t h' tk hx hk; have F' := fr_after (S := []) (by k_asm) off_nil hk; have N' := news_after (S := []) (by k_asm) hk (fun _ _ h => nomatch h); k_sweep; (try dsimp only))))
local macro_rules | `(tactic| walk_at "call ref") => `(tactic| (k_here; (with_reducible show wpAny _ _ (call (Value.ref 778) _) _ _ _); k_dflt ((refine' wpAny_call (codeAny_le (law_thing (by assumption) (siteX (by k_asm) (by k_asm) (by k_asm) (by k_asm) off_nil) ?_) (Nat.le_of_ble_eq_true rfl) (Nat.le_of_ble_eq_true rfl))); intro v h' tk hv hk; have F' := fr_after (S := []) (by k_asm) off_nil hk; have N' := news_after (S := []) (by k_asm) hk (fun _ _ h => nomatch h); k_sweep; (try dsimp only))))
local macro_rules | `(tactic| walk_at "call ref") => `(tactic| (k_here; (with_reducible show wpAny _ _ (call (Value.ref 799) _) _ _ _); k_dflt ((refine' wpAny_call (codeAny_le (law_long (by assumption) (by assumption) (siteX (by k_asm) (by k_asm) (by k_asm) (by k_asm) off_nil) ?_) (Nat.le_of_ble_eq_true rfl) (Nat.le_of_ble_eq_true rfl))); intro D c vs h' tk hk hD hfr hI; have F' := fr_after (S := []) (by k_asm) off_nil hk; have N' := news_new' (by k_asm) (news_after (S := []) (by k_asm) hk (fun _ _ h => nomatch h)) hD hfr; (have l1 := allNe_of (ne_get (by k_asm) hfr)); (simp only [AllNe, and_true] at l1); k_sweep; (try dsimp only))))
theorem law_main {w : World} {base : Heap} {s : Shared} {R : Result → Shared → Prop} {sl : Addr} {svs : List Value} {ns : List Int}
    (C : At w (Ar 800 4000 []) base [] (hideAll s.heap [])) (hsl : s.heap.IsList sl svs.toArray) (hsi : IntsAre svs ns) (hsz : ns.length ≤ 63)
    (hR : ∀ h' tk, s.heap.StaysIn h' → R (.ok (.ret (.bool true))) { s with heap := h', toks := tk }) : codeF (model PySem.Challenge.rw_fq5006_01.row.prog w) (Ar 800 4000 []) (.call (.ref 823) ⟨[.ref sl], []⟩) R s := by
  w_top off
  (have hK := C.X; revert hK; k_fill; intro hK)
  k_dflt (refine' enterCF (binds := [(Str.ofString "script", .ref sl)]) (news := []) C ?k2 ?k6 ?k7 ?k8 ?k9 ?kB ?kD ?c2 ?c3 ?c4 ?_; walk_at "m_entC")
  · exact fun _ h => nomatch h
  intro g L' h₁ tk cells mean mg mb hg F N Y B X T
  k_cells Y
  (try simp only [List.cons_append, List.nil_append] at N)
  have hpg : g.IsList sl svs.toArray := by rw [hg]; exact hsl
  clear hsl
  (try dsimp only)
  with_reducible show wpF _ _ _ _ _ _
  refine wpF_splitAt 1 ?_
  refine wpAny_mono (Q := LawN s g L') ?kn ?kr (fun _ _ x => x)
  case kn =>
    show wpAny _ _ (execs [_] _) _ _ _
    k_steps
    rename Fr _ _ _ _ => F9
    rename News _ _ _ _ => N9
    rename IntsAre _ (List.map _ _) => hI9
    exact ⟨rfl, _, _, _, _, _, _, _, rfl, F9, fun p hp => N9 p (by rw [List.mem_singleton.mp hp]; exact List.mem_cons_self), hI9, by simp [rangeKs]⟩
  case kr =>
    rintro fl s' ⟨rfl, h2, tk2, m2, nl, c, ys, nn, rfl, F2, N2, hI, h36⟩
    clear hsi hpg F N
    show wpF _ _ (execs [_, _, _, _] _) _ _ _
    refine wpF_execs_cons (wpF_Assign_Name (CallF_ ?_))
    k_steps
    refine callWithF_K0 (K := MineHead.hd.heap_39 w.params) (X.keeps F2.keep) (by k_is) ?_
    k_dflt (refine' wpF_call (codeF_leA (bytesio (siteX B X T F2 off_nil) ?_) (Nat.le_of_ble_eq_true rfl) (Nat.le_of_ble_eq_true rfl)))
    intro f d b h1 h2' t1 t2 tp h3 tk3 hk3 hP3 hne
    have F3 := fr_after (S := []) F2 off_nil hk3
    have N3 : News g L' h3 ((f, instObj 510 d) :: (d, dictOf (bioEs b (#[] : Array UInt8).size h1 h2' t1 t2 tp) 2) :: (b, baObj #[]) :: [(nl, listOf (List.toArray ys) c)]) :=
      news_both (n1 := bioObjs f d b h1 h2' t1 t2 tp #[]) (news_fresh F2 hP3) (news_after (S := []) N2 hk3 (fun _ _ h => nomatch h))
    have hnl : @Ne Nat nl f ∧ @Ne Nat nl d ∧ @Ne Nat nl b := by
      have q : ∀ p ∈ bioObjs f d b h1 h2' t1 t2 tp #[], nl ≠ p.1 := fun p hp e => by
        have a := (hP3 p hp).2
        have c := (N2 _ List.mem_cons_self).1
        rw [← e] at a
        rw [a] at c; cases c
      exact ⟨q (f, instObj 510 d) List.mem_cons_self, q _ (List.mem_cons_of_mem _ List.mem_cons_self), q (b, baObj #[]) (List.mem_cons_of_mem _ (List.mem_cons_of_mem _ List.mem_cons_self))⟩
    clear F2 N2 hk3 hP3
    (try dsimp only)
    k_steps
    rename IsRange _ _ _ _ _ _ _ _ => hr
    rename Fr _ _ _ _ => F0
    rename News _ _ _ _ => N0
    rename _ < _ ∧ _ => lst
    have hm5 : 0 ≤ (nn.getD (Int.toNat 0) 0).fmod 5 ∧ (nn.getD (Int.toNat 0) 0).fmod 5 < 5 := ⟨Int.fmod_nonneg_of_pos _ (by decide), Int.fmod_lt_of_pos _ (by decide)⟩
    obtain ⟨n, en⟩ := Int.eq_ofNat_of_zero_le (a := 1 + (nn.getD (Int.toNat 0) 0).fmod 5) (by omega)
    have hn5 : n ≤ 5 := by omega
    rw [en] at hr
    refine iter_range_F F0 N0 hr ?ism ?_
    case ism =>
      have hc : n = 0 ∨ n = 1 ∨ n = 2 ∨ n = 3 ∨ n = 4 ∨ n = 5 := by omega
      rcases hc with rfl | rfl | rfl | rfl | rfl | rfl <;> decide
    clear F0 N0 hr
    intro I h4 F4 N4 hI1 hI2 hI3
    dsimp only
    have iI : @Ne Nat f I ∧ @Ne Nat d I ∧ @Ne Nat b I ∧ @Ne Nat nl I := ⟨Nat.ne_of_lt (hI1 (f, instObj 510 d) (by simp)), Nat.ne_of_lt (hI1 _ (List.mem_cons_of_mem _ (List.mem_cons_of_mem _ List.mem_cons_self))), Nat.ne_of_lt (hI1 (b, baObj #[]) (by simp)), Nat.ne_of_lt (hI1 (nl, _) (List.mem_cons_of_mem _ (List.mem_cons_of_mem _ (List.mem_cons_of_mem _ (List.mem_cons_of_mem _ List.mem_cons_self)))))⟩
    refine codeF_forW (Walks.range rfl I 0 1 n) (LawInv s g L' I nl f d b h1 h2' t1 t2 (listOf (List.toArray ys) c) n) ?oSt ?oturn ?odone ?oh
    case oh =>
      unfold LawInv
      refine ⟨_, _, _, tp, #[], _, [], 0, _, rfl, F4, ?_, rfl, .nil, Nat.zero_le _⟩
      exact bio_first N4
    case oSt =>
      rintro i s' ⟨h', tk', m, tp, buf, st, sv, sc, oI, rfl, F1, N1, rfl, _⟩
      exact (N1 (I, _) (by simp)).1
    case oturn =>
      rintro i s' v h5 tk5 hi ⟨h', tk', m, tp, buf, st, sv, sc, oI, rfl, F1, N1, rfl, hI5, hz5⟩ ⟨tk6, rfl⟩ sI hk
      have hst := st_off (rest := [(nl, listOf (List.toArray ys) c), (I, riObj n i)]) N1
      have sI' : h5.get? I = some (riObj n (i + 1)) := sI
      have F2 := LCg.fr_but F1 hk hI2 hI3
      have N2 : News g L' h5 (bioObjs f d b h1 h2' t1 t2 tp buf ++ [(st, listOf (List.toArray sv) sc), (nl, listOf (List.toArray ys) c), (I, riObj n (i + 1))]) :=
        news_turn N1 hk ⟨iI.1, iI.2.1, iI.2.2.1⟩ (st_ne N1) iI.2.2.2 ⟨sI', Ne.symm hI2, hI3⟩
      clear F1 N1 hk F4 N4 sI sI'
      rw [show (0 + (i : Int) * 1) = (i : Int) from by omega]
      simp only [List.cons_append, List.nil_append] at N2
      refine wpAny_of_eq rfl ?_
      refine wpAny_assign_Name (storeX_L F2 N2 (fun h6 F3 N3 => ?_))
      clear F2 N2
      dsimp only
      have hi5 : i < 5 := by omega
      refine wpF_splitAt 1 ?_
      refine wpAny_mono (Q := LawP s g L' i st nl f d b I h1 h2' t1 t2 tp buf sv sc (listOf (List.toArray ys) c) n) ?pn ?pr (fun _ _ x => x)
      case pn =>
        show wpAny _ _ (execs [_] _) _ _ _
        k_steps
        rename Fr _ _ _ _ => F9
        rename News _ _ _ _ => N9
        rename IntsAre _ [_, _, _, _, _, _, _] => hI9
        rename _ < _ ∧ _ => l9
        exact ⟨rfl, _, _, _, _, _, _, _, _, _, _, _, _, _, rfl, fr_fact (fr_fact (fr_fact (fr_fact F9 (x := Str.ofString "n") (v := some (.ref nl)) rfl) (x := Str.ofString "f") (v := some (.ref f)) rfl) (x := Str.ofString "stream") (v := some (.ref st)) rfl) (x := Str.ofString "p") (v := some (.ref _)) rfl, N9, hI9, l9⟩
      case pr =>
        rintro fl s' ⟨rfl, h7, tk7, m7, pl, pc, pv, p0, p1, p2, p3, p4, p5, p6, rfl, F7, N7, hI7, l7⟩
        clear F3 N3
        simp only [List.cons_append, List.nil_append] at N7
        have h4 : p0.fmod 4 = 0 ∨ p0.fmod 4 = 1 ∨ p0.fmod 4 = 2 ∨ p0.fmod 4 = 3 := by
          have h1 : 0 ≤ p0.fmod 4 ∧ p0.fmod 4 < 4 := ⟨Int.fmod_nonneg_of_pos _ (by decide), Int.fmod_lt_of_pos _ (by decide)⟩
          omega
        show wpF _ _ (execs [_, _, _, _, _] _) _ _ _
        refine wpF_splitAt 2 ?_
        refine wpAny_mono (Q := LawK s g L' i st nl f d b I h1 h2' t1 t2 tp buf sv sc (listOf (List.toArray ys) c) n p0 p1 p2 p3 p4 p5 p6) ?qn ?qr (fun _ _ x => x)
        case qn =>
          show wpAny _ _ (execs [_, _] _) _ _ _
          k_steps
          rename Fr _ _ _ _ => F9
          rename News _ _ _ _ => N9
          exact ⟨rfl, _, _, _, pl, pc, pv, _, _, _, rfl, fr_fact (fr_fact (fr_fact (fr_fact (fr_fact (fr_fact (fr_fact (fr_fact F9 (x := Str.ofString "n") (v := some (.ref nl)) rfl) (x := Str.ofString "f") (v := some (.ref f)) rfl) (x := Str.ofString "stream") (v := some (.ref st)) rfl) (x := Str.ofString "p") (v := some (.ref pl)) rfl) (x := Str.ofString "kind") (v := some (.int (p0.fmod 4) _)) rfl) (x := Str.ofString "version") (v := some (.int _ _)) rfl) (x := Str.ofString "plain") (v := some .none) rfl) (x := Str.ofString "before") (v := some .none) rfl, fun p hp => N9 p (List.mem_cons_of_mem _ (List.mem_cons_of_mem _ hp)), hI7⟩
        case qr =>
          rintro fl s' ⟨rfl, h8, tk8, m8, pl, pc, pv, vn, tv, tk0, rfl, F8, N8, hI8⟩
          clear F7 N7
          show wpF _ _ (execs [_, _, _] _) _ _ _
          refine wpF_execs_cons (wpF_mono (Q := Ready PySem.Challenge.rw_fq5006_01.row.prog w s g L' i st nl f d b I h1 h2' t1 t2 tp buf sv sc (listOf (List.toArray ys) c) n) ?tn ?tr (fun _ _ x => x))
          case tn =>
            rcases h4 with h4 | h4 | h4 | h4
            all_goals rw [h4] at F8
            · k_steps
              k_dflt (refine' wpF_call (codeF_leA (law_startup (siteX B X T F8 off_nil) ?lp hI8 ?_) (Nat.le_of_ble_eq_true rfl) (Nat.le_of_ble_eq_true rfl)))
              case lp => exact ⟨_, (N8 _ List.mem_cons_self).1, rfl, _, rfl⟩
              intro T9 ver os h9 tk9 hk9 hO9
              obtain ⟨ms, dm, od, Pl, ha, ha2, ta, ta2, tv', oo, kvs, pw, cp, pcs, hall, hd, lo, hO, hos4, hver, q1, q2, hP⟩ := hO9
              have F9 := fr_after (S := []) F8 off_nil hk9
              have N9 : News g L' h9 ((T9, tupOf [.ref ms, .ref Pl, .ref od]) :: (ms, instObj 94 dm) :: (dm, dictOf [⟨ha, .str (Str.ofString "cqlversion") ta, .str ver tv'⟩, ⟨ha2, .str (Str.ofString "options") ta2, .ref od⟩] 2) :: (Pl, listOf (List.toArray pw) cp) :: (od, oo) :: (pl, listOf (List.toArray pv) pc) :: (f, instObj 510 d) :: (d, dictOf (bioEs b buf.size h1 h2' t1 t2 tp) 2) :: (b, baObj buf) :: (st, listOf (List.toArray sv) sc) :: (nl, listOf (List.toArray ys) c) :: (I, riObj n (i + 1)) :: pcs) :=
                start_news F8 N8 hk9 hall
              have hfr := fresh_off N8 hall
              have hkl := hO.length
              clear F8 N8 hk9 hall
              (try dsimp only)
              k_steps
              rename Fr _ _ _ _ => F9
              rename News _ _ _ _ => N9
              rename Obj.IsDictOf _ _ _ => hd9
              rename (_ == sysModules) = false => lo9
              rename _ < _ ∧ _ => z9
              exact ready_mk F9 rfl rfl rfl rfl rfl rfl rfl rfl rfl N9 mem_start (.start hd hd9 lo lo9 hO hos4 hver q1 q2) hP (Nat.le_trans (startPs_len ver os) (by omega)) (ho_start hfr ⟨⟨Ne.symm (Nat.ne_of_lt z9.2.2.2.2.2.2.1), Ne.symm (Nat.ne_of_lt z9.2.2.2.2.2.2.2.1), Ne.symm (Nat.ne_of_lt z9.2.2.2.2.2.2.2.2.1)⟩, Ne.symm (Nat.ne_of_lt z9.2.2.2.2.2.2.2.2.2.2.2.1)⟩)
            · clear h4 hI8
              simp only [List.cons_append, List.nil_append] at N8
              k_steps
              rename Fr _ _ _ _ => F9
              rename News _ _ _ _ => N9
              rename _ < _ ∧ _ => z1
              clear z1
              rename _ < _ ∧ _ => z2
              exact ready_mk F9 rfl rfl rfl rfl rfl rfl rfl rfl rfl N9 mem_opt .opt .nil (Nat.zero_le _) (ho_one (gt4 z2.2.2.2.1 z2.2.2.2.2.1 z2.2.2.2.2.2.1 z2.2.2.2.2.2.2.2.2))
            · clear h4
              simp only [List.cons_append, List.nil_append] at N8
              k_steps
              rename Fr _ _ _ _ => F9
              rename News _ _ _ _ => N9
              rename _ ∈ texts => hx9
              rename _ ≠ _ ∧ _ => y1
              rename _ < _ ∧ _ => z1
              clear z1
              rename _ < _ ∧ _ => z2
              have g2 := gt4 z2.2.2.2.2.1 z2.2.2.2.2.2.1 z2.2.2.2.2.2.2.1 z2.2.2.2.2.2.2.2.2.2
              clear z2
              rename _ < _ ∧ _ => z3
              rename _ < _ => z4
              rename IntsAre _ ([0, 0, 0, _] ++ _) => hI9
              rename _ ∨ _ => hth9
              exact ready_mk F9 rfl rfl rfl rfl rfl rfl rfl rfl rfl N9 mem_auth (.auth hx9 hth9) (auth_pieces hI9) (by simp) (ho_four g2
                (gt4 (Nat.lt_trans z3.2.1 z4) (Nat.lt_trans z3.2.2.1 z4) (Nat.lt_trans z3.2.2.2.1 z4) (Nat.lt_trans z3.2.2.2.2.2.2 z4)) (gt4 z3.2.1 z3.2.2.1 z3.2.2.2.1 z3.2.2.2.2.2.2) ⟨⟨Ne.symm y1.2.2.2.1, Ne.symm y1.2.2.2.2.1, Ne.symm y1.2.2.2.2.2.1⟩, Ne.symm y1.2.2.2.2.2.2.2.2⟩)
            · clear h4
              k_steps
              k_dflt (refine' wpF_call (codeF_leA (law_register (siteX B X T F8 off_nil) ?lq hI8 ?_) (Nat.le_of_ble_eq_true rfl) (Nat.le_of_ble_eq_true rfl)))
              case lq => exact ⟨_, (N8 _ List.mem_cons_self).1, rfl, _, rfl⟩
              intro T9 os h9 tk9 hk9 hO9
              obtain ⟨ms, dm, el, Pl, ha, ta, vs, cv, pw, cp, pcs, hall, hIt, hos4, hP⟩ := hO9
              have F9 := fr_after (S := []) F8 off_nil hk9
              have N9 : News g L' h9 ((T9, tupOf [.ref ms, .ref Pl]) :: (ms, instObj 165 dm) :: (dm, dictOf [⟨ha, .str (Str.ofString "event_list") ta, .ref el⟩] 1) :: (el, listOf (List.toArray vs) cv) :: (Pl, listOf (List.toArray pw) cp) :: (pl, listOf (List.toArray pv) pc) :: (f, instObj 510 d) :: (d, dictOf (bioEs b buf.size h1 h2' t1 t2 tp) 2) :: (b, baObj buf) :: (st, listOf (List.toArray sv) sc) :: (nl, listOf (List.toArray ys) c) :: (I, riObj n (i + 1)) :: pcs) :=
                start_news F8 N8 hk9 hall
              have hfr := fresh_off N8 hall
              clear F8 N8 hk9 hall
              (try dsimp only)
              k_steps
              rename Fr _ _ _ _ => F9
              rename News _ _ _ _ => N9
              exact ready_mk F9 rfl rfl rfl rfl rfl rfl rfl rfl rfl N9 mem_reg (.reg hIt hos4) hP (Nat.le_trans (regPs_len os) (by omega)) (ho_reg hfr)
          case tr =>
            rintro fl s' ⟨rfl, h9, tk9, m9, kind, vn, tv, tk0, ms, Pl, pw, cp, pcs, mo, ps, plain, before, rfl, F9, N9, M9, P9, hl9, ho9⟩
            clear F8 N8 hI8 h4
            show wpF _ _ (execs [_, _] _) _ _ _
            simp only [List.cons_append, List.nil_append] at N9
            k_steps
            rename IsRange _ _ _ _ _ _ _ _ => hr
            rename Fr _ _ _ _ => F10
            rename News _ _ _ _ => N10
            refine iter_range_F (n := 2) F10 N10 hr (by decide) ?_
            clear F10 N10 hr
            intro I2 h10 F10 N10 hJ1 hJ2 hJ3
            dsimp only
            have jI : @Ne Nat f I2 ∧ @Ne Nat d I2 ∧ @Ne Nat b I2 := ⟨Nat.ne_of_lt (hJ1 (f, instObj 510 d) List.mem_cons_self), Nat.ne_of_lt (hJ1 _ (List.mem_cons_of_mem _ List.mem_cons_self)), Nat.ne_of_lt (hJ1 (b, baObj buf) (List.mem_cons_of_mem _ (List.mem_cons_of_mem _ List.mem_cons_self)))⟩
            have jR : ∀ p ∈ (nl, listOf (List.toArray ys) c) :: (I, riObj n (i + 1)) :: (Pl, listOf (List.toArray pw) cp) :: (mo ++ pcs), p.1 ≠ I2 := fun p hp => Nat.ne_of_lt (hJ1 p (List.mem_cons_of_mem _ (List.mem_cons_of_mem _ (List.mem_cons_of_mem _ (List.mem_cons_of_mem _ hp)))))
            have hoR : ∀ p ∈ (nl, listOf (List.toArray ys) c) :: (I, riObj n (i + 1)) :: (Pl, listOf (List.toArray pw) cp) :: (mo ++ pcs), @Ne Nat p.1 f ∧ @Ne Nat p.1 d ∧ @Ne Nat p.1 b := fun p hp => by
              rcases List.mem_cons.mp hp with rfl | hp
              · exact hnl
              rcases List.mem_cons.mp hp with rfl | hp
              · exact ⟨Ne.symm iI.1, Ne.symm iI.2.1, Ne.symm iI.2.2.1⟩
              · exact (ho9 p hp).1
            refine codeF_forW (Walks.range rfl I2 0 1 2) (TimesInv s g L' nl f d b I I2 Pl ms h1 h2' t1 t2 tv tk0 vn kind before plain (listOf (List.toArray ys) c) (riObj n (i + 1)) pw cp (mo ++ pcs) buf.size) ?sSt ?sturn ?sdone ?sh
            case sh =>
              unfold TimesInv
              exact ⟨_, _, _, tp, buf, st, sv, sc, rfl, F10, perm1 N10, hI5, Nat.le_refl _⟩
            case sSt =>
              rintro t s' ⟨h', tk', m, tp', buf', st', sv', sc', rfl, F1, N1, _⟩
              exact (N1 (I2, riObj 2 t) (List.mem_append_right _ (List.mem_cons_of_mem _ List.mem_cons_self))).1
            case sturn =>
              rintro t s' v h11 tk11 ht ⟨h', tk', m, tp', buf', st', sv', sc', rfl, F1, N1, hI6, hz6⟩ ⟨tk12, rfl⟩ sI hk
              have hst' := st_off N1
              have hsi := list_ne_iter N1 (List.mem_append_right _ List.mem_cons_self) (List.mem_append_right _ (List.mem_cons_of_mem _ List.mem_cons_self)) (by simp)
              have sI' : h11.get? I2 = some (riObj 2 (t + 1)) := sI
              have F2 := LCg.fr_but F1 hk hJ2 hJ3
              have N2 := news_turnG N1 hk jI hsi jR ⟨sI', Ne.symm hJ2, hJ3⟩
              clear F1 N1 hk F10 N10 sI sI'
              refine wpAny_of_eq rfl ?_
              refine wpAny_assign_Name (storeX_L F2 N2 (fun h12 F3 N3 => ?_))
              clear F2 N2
              dsimp only
              simp only [List.cons_append, List.nil_append] at N3
              show wpF _ _ (execs [_, _, _, _, _] _) _ _ _
              k_steps
              rename Fr _ _ _ _ => F13
              rename News _ _ _ _ => N13
              refine iter_list_F (l := Pl) (vs := pw) (c := cp) F13 N13 (by simp) ?_
              clear F13 N13
              intro I3 h13 F13 N13 hK1 hK2 hK3
              dsimp only
              have kI : @Ne Nat f I3 ∧ @Ne Nat d I3 ∧ @Ne Nat b I3 := ⟨Nat.ne_of_lt (hK1 (f, instObj 510 d) List.mem_cons_self), Nat.ne_of_lt (hK1 _ (List.mem_cons_of_mem _ List.mem_cons_self)), Nat.ne_of_lt (hK1 (b, baObj buf') (List.mem_cons_of_mem _ (List.mem_cons_of_mem _ List.mem_cons_self)))⟩
              have kR : ∀ p ∈ (I2, riObj 2 (t + 1)) :: (nl, listOf (List.toArray ys) c) :: (I, riObj n (i + 1)) :: (Pl, listOf (List.toArray pw) cp) :: (mo ++ pcs), p.1 ≠ I3 := fun p hp => Nat.ne_of_lt (hK1 p (List.mem_cons_of_mem _ (List.mem_cons_of_mem _ (List.mem_cons_of_mem _ (List.mem_cons_of_mem _ hp)))))
              have kP : @Ne Nat Pl I3 := kR (Pl, listOf (List.toArray pw) cp) (by simp)
              have hPl := P9.length
              have hsm := msg_small M9
              refine codeF_forW (Walks.list rfl I3 Pl kP pw.toArray) (PieceInv s g L' nl f d b I I2 I3 Pl ms h1 h2' t1 t2 tp' tv tk0 vn kind before plain (listOf (List.toArray ys) c) (riObj n (i + 1)) (riObj 2 (t + 1)) buf' pw cp (mo ++ pcs) ps) ?pSt ?pturn ?pdone ?ph
              case ph =>
                unfold PieceInv
                exact ⟨_, _, _, st', sv', sc', itObj Pl 0, rfl, fr_fact (fr_fact (fr_fact (fr_fact (fr_fact (fr_fact (fr_fact (fr_fact (fr_fact (fr_fact F13 (x := Str.ofString "n") (v := some (.ref nl)) rfl) (x := Str.ofString "f") (v := some (.ref f)) rfl) (x := Str.ofString "stream") (v := some (.ref st')) rfl) (x := Str.ofString "kind") (v := some (.int kind tk0)) rfl) (x := Str.ofString "version") (v := some (.int vn tv)) rfl) (x := Str.ofString "message") (v := some (.ref ms)) rfl) (x := Str.ofString "pieces") (v := some (.ref Pl)) rfl) (x := Str.ofString "plain") (v := some plain) rfl) (x := Str.ofString "before") (v := some before) rfl) (x := Str.ofString "refused") (v := some (.bool false)) rfl, perm1 N13, rfl, rfl, by simpa [toldP] using hI6⟩
              case pSt =>
                rintro k s' ⟨h', tk', m, st2, sv2, sc2, oI3, rfl, F1, N1, c1, c2, _⟩
                exact ⟨⟨oI3, (N1 (I3, oI3) (List.mem_append_right _ (List.mem_cons_of_mem _ List.mem_cons_self))).1, c1, c2⟩, ⟨_, (N1 (Pl, listOf (List.toArray pw) cp) (by simp)).1, rfl, _, rfl⟩⟩
              case pturn =>
                rintro k s' v h14 tk14 hkn ⟨h', tk', m, st2, sv2, sc2, oI3, rfl, F1, N1, c1, c2, hI8⟩ hv' ⟨⟨oJ, e1, e2, e3⟩, _⟩ hkk
                have hv : pw[k]? = some v := by simpa using hv'
                obtain ⟨p, hp, hPI⟩ := P9.at hv
                have hs3 := list_ne_iter N1 (List.mem_append_right _ List.mem_cons_self) (List.mem_append_right _ (List.mem_cons_of_mem _ List.mem_cons_self)) (by rw [c1]; simp)
                have F2 := LCg.fr_but F1 hkk hK2 hK3
                have N2 := news_turnG N1 hkk kI hs3 kR ⟨e1, Ne.symm hK2, hK3⟩
                have hk11 : k < ps.length := (List.getElem?_eq_some_iff.mp hp).1
                have hta := told_small 20 (ps.take k) fun a ha => hsm a (List.mem_of_mem_take ha)
                have hsl := hI8.length
                rw [List.length_append, KBw.ints_length] at hsl
                rw [List.length_take] at hta
                clear F1 N1 hkk F13 N13
                refine wpAny_of_eq rfl ?_
                refine wpAny_assign_Name (storeX_L F2 N2 (fun h15 F3 N3 => ?_))
                clear F2 N2
                dsimp only
                refine wpF_of_any ?_
                simp only [List.cons_append, List.nil_append] at N3
                cases p with
                | some a =>
                  obtain ⟨D, vs, cD, rfl, hmD, hIa⟩ := hPI
                  have hal := hsm a (List.mem_of_getElem? hp)
                  rw [← hIa.length] at hal
                  have N4 := news_cons (N3 (D, listOf (List.toArray vs) cD) (by simp [hmD])).1 (N3 (D, listOf (List.toArray vs) cD) (by simp [hmD])).2 N3
                  clear N3
                  cases hb : badP (ps.take k) with
                  | false =>
                    rw [hb] at F3
                    k_steps
                    rename Fr _ _ _ _ => F16
                    rename News _ _ _ _ => N16
                    dsimp only
                    exact piece_step F16 rfl rfl rfl rfl rfl rfl rfl rfl rfl rfl N16 mem_add e2 e3 hp (by rw [hb]; rfl) rfl (by rw [hb, ← List.append_assoc]; exact hI8.append hIa)
                  | true =>
                    rw [hb] at F3
                    k_steps
                    dsimp only
                    exact piece_step F3 rfl rfl rfl rfl rfl rfl rfl rfl rfl rfl N4 mem_same e2 e3 hp (by rw [hb]; rfl) rfl (by rw [hb, if_pos rfl, List.append_nil]; exact hI8)
                | none =>
                  obtain ⟨t9, rfl⟩ := hPI
                  k_steps
                  rename Fr _ _ _ _ => F16
                  rename News _ _ _ _ => N16
                  dsimp only
                  exact piece_step F16 rfl rfl rfl rfl rfl rfl rfl rfl rfl rfl N16 (fun q hq => hq) e2 e3 hp (by simp) rfl (by
                    have e : (if badP (ps.take k) then ([] : List Int) else (none : Option (List Int)).getD []) = [] := by split <;> rfl
                    rw [e, List.append_nil]; exact hI8)
              case pdone =>
                rintro s' h14 tk14 ⟨h', tk', m, st2, sv2, sc2, oI3, rfl, F1, N1, c1, c2, hI8⟩ hkk
                have hn9 : pw.toArray.size = ps.length := by simp [hPl]
                rw [hn9, List.take_length] at F1 hI8
                have hs3 := list_ne_iter N1 (List.mem_append_right _ List.mem_cons_self) (List.mem_append_right _ (List.mem_cons_of_mem _ List.mem_cons_self)) (by rw [c1]; simp)
                have hst2 := st_off N1
                have F2 := LCg.fr_but F1 hkk hK2 hK3
                have N2 : News g L' h14 (bioObjs f d b h1 h2' t1 t2 tp' buf' ++ (st2, listOf (List.toArray sv2) sc2) :: (I2, riObj 2 (t + 1)) :: (nl, listOf (List.toArray ys) c) :: (I, riObj n (i + 1)) :: (Pl, listOf (List.toArray pw) cp) :: (mo ++ pcs)) := news_drop N1 hkk kI hs3 kR
                clear F1 N1 hkk F13 N13 kR kI kP hK1 hK2 hK3
                dsimp only
                show wpF _ _ (execs [_, _, _] _) _ _ _
                simp only [List.cons_append, List.nil_append] at N2
                k_steps
                with_reducible show Held _
                unfold Held
                rename Fr _ _ _ _ => F15
                rename News _ _ _ _ => N15
                have hoff : ∀ p ∈ (st2, listOf (List.toArray sv2) sc2) :: (I2, riObj 2 (t + 1)) :: (nl, listOf (List.toArray ys) c) :: (I, riObj n (i + 1)) :: (Pl, listOf (List.toArray pw) cp) :: (mo ++ pcs), p.1 ∉ [f, d, b] := off_all hst2 jI hoR
                have hmo : ∀ p ∈ mo, p ∈ (st2, listOf (List.toArray sv2) sc2) :: (I2, riObj 2 (t + 1)) :: (nl, listOf (List.toArray ys) c) :: (I, riObj n (i + 1)) :: (Pl, listOf (List.toArray pw) cp) :: (mo ++ pcs) := fun p hp => by simp [hp]
                refine wpF_execs_cons (wpF_mono (Q := AfterTry s g L' nl f d b st2 Pl ms h1 h2' t1 t2 tv tk0 vn kind before plain buf' ((st2, listOf (List.toArray sv2) sc2) :: (I2, riObj 2 (t + 1)) :: (nl, listOf (List.toArray ys) c) :: (I, riObj n (i + 1)) :: (Pl, listOf (List.toArray pw) cp) :: (mo ++ pcs)) ps) ?tryn ?tryr (fun _ _ x => x))
                case tryn =>
                  refine wpF_Try ?_
                  k_steps
                  refine lay_call M9 hmo hoff hne ?bz B X T F15 N15 rfl rfl ?_ ?_
                  case bz => omega
                  · intro hb out r h16 tk16 tp16 ho hoz F16 N16
                    clear F15 N15
                    dsimp only
                    k_steps
                    exact after_try F16 (by rw [hb]; rfl) rfl rfl rfl rfl rfl rfl rfl rfl rfl rfl N16 ho hoz
                  · intro hb out e hh h16 tk16 tp16 ho hoz R16 F16 U16
                    clear F15 N15
                    dsimp only
                    k_dflt (refine' caught_X0 (T' := "TypeError") (K := ⟨rfl, fun _ _ e => e, trivial⟩) F16 U16 R16 (topRead_of T) PyProof.Rows.Boot.«TypeError» PySem.F.isExc_TypeError PySem.F.notTuple_TypeError (by rw [isSubtype_type]; kernel_rfl) rfl rfl rfl rfl rfl ?_)
                    clear F16 R16 U16
                    intro h17 F17 N17
                    simp only [List.cons_append, List.nil_append] at N17
                    k_steps
                    rename Fr _ _ _ _ => F19
                    rename News _ _ _ _ => N19
                    exact after_try F19 (by rw [hb]; rfl) rfl rfl rfl rfl rfl rfl rfl rfl rfl rfl N19 ho hoz
                case tryr =>
                  rintro fl s' ⟨rfl, h18, tk18, m18, tp18, out, rfl, F18, N18, ho, hoz⟩
                  clear F15 N15
                  show wpF _ _ (execs [_] _) _ _ _
                  simp only [List.cons_append, List.nil_append] at N18
                  k_steps
                  · rename (_ != _) = true => hz1
                    exact absurd hz1 (by simp)
                  with_reducible show Held _
                  unfold Held
                  rename Fr _ _ _ _ => F20
                  rename News _ _ _ _ => N20
                  have hz6' : (buf' ++ out).size ≤ 70000 := by rw [Array.size_append]; omega
                  refine getvalue_F (buf := buf' ++ out) B X T F20 N20 hoff ?gz2 rfl rfl ?_
                  case gz2 => rw [sizeLine_eq]; omega
                  intro t9 h21 tk21 F21 N21
                  clear F20 N20
                  (try dsimp only)
                  simp only [List.cons_append, List.nil_append] at N21
                  k_steps
                  refine list_bytes rfl (by rw [sizeLine_eq]; omega) ?_
                  intro h22 tk22 vs9 c9 hk22 hD22 hI22
                  have F22 := F21.keeps hk22
                  have N22 := news_new' F21 (N21.grown hk22) hD22 (Heap.get?_none_of_le (Nat.le_refl _))
                  have hI23 : IntsAre sv2 (KBw.bInts (buf' ++ out)) := by rw [bInts_app, ho]; exact hI8
                  clear F21 N21 hk22 hD22
                  dsimp only at F22 N22 ⊢
                  generalize h21.objs.size = D9 at N22 ⊢
                  k_steps
                  dsimp only
                  unfold TimesInv
                  exact ⟨_, _, _, tp18, buf' ++ out, st2, sv2, sc2, rfl, fr_fact (fr_fact (fr_fact (fr_fact (fr_fact (fr_fact (fr_fact (fr_fact (fr_fact F22 (x := Str.ofString "n") (v := some (.ref nl)) rfl) (x := Str.ofString "f") (v := some (.ref f)) rfl) (x := Str.ofString "stream") (v := some (.ref st2)) rfl) (x := Str.ofString "kind") (v := some (.int kind tk0)) rfl) (x := Str.ofString "version") (v := some (.int vn tv)) rfl) (x := Str.ofString "message") (v := some (.ref ms)) rfl) (x := Str.ofString "pieces") (v := some (.ref Pl)) rfl) (x := Str.ofString "plain") (v := some plain) rfl) (x := Str.ofString "before") (v := some before) rfl, fun p hp => N22 p (List.mem_cons_of_mem _ hp), hI23, by rw [Array.size_append]; omega⟩
            case sdone =>
              rintro s' h23 tk23 ⟨h', tk', m, tp', buf', st', sv', sc', rfl, F1, N1, hI6, hz6⟩ hk
              have hsi := list_ne_iter N1 (List.mem_append_right _ List.mem_cons_self) (List.mem_append_right _ (List.mem_cons_of_mem _ List.mem_cons_self)) (by simp)
              have F2 := LCg.fr_but F1 hk hJ2 hJ3
              have N2 := news_drop N1 hk jI hsi jR
              clear F1 N1 hk F10 N10 hJ1 hJ2 hJ3
              dsimp only
              show wpF _ _ (execs [_] _) _ _ _
              simp only [List.cons_append, List.nil_append] at N2
              rcases msg_plain M9 with rfl | ⟨od, bd, oo, ob, kvs, rfl, rfl, md, mb', hd, hd2, lo, lo2⟩
              · k_steps
                dsimp only
                exact law_end F2 rfl rfl rfl N2 mem_end1 hI6 (by omega)
              · have N3 := news_cons (N2 (od, oo) (by simp [md])).1 (N2 (od, oo) (by simp [md])).2 N2
                have N4 := news_cons (N3 (bd, ob) (by simp [mb'])).1 (N3 (bd, ob) (by simp [mb'])).2 N3
                clear N2 N3
                k_steps
                dsimp only
                exact law_end F2 rfl rfl rfl N4 (fun p hp => List.mem_cons_of_mem _ (List.mem_cons_of_mem _ (mem_end1 p hp))) hI6 (by omega)
    case odone =>
      rintro s' h5 tk5 ⟨h', tk', m, tp, buf, st, sv, sc, oI, rfl, F1, N1, rfl, hI5, hz5⟩ hk
      have hst := st_off (rest := [(nl, listOf (List.toArray ys) c), (I, riObj n n)]) N1
      have F2 := LCg.fr_but F1 hk hI2 hI3
      have N2 : News g L' h5 (bioObjs f d b h1 h2' t1 t2 tp buf ++ [(st, listOf (List.toArray sv) sc), (nl, listOf (List.toArray ys) c)]) :=
        bio_news_but (fun p hp => N1 p (by
          rcases List.mem_append.mp hp with hp | hp
          · exact List.mem_append_left _ hp
          · simp only [List.mem_cons, List.not_mem_nil, or_false] at hp
            rcases hp with rfl | rfl
            · exact List.mem_append_right _ List.mem_cons_self
            · exact List.mem_append_right _ (List.mem_cons_of_mem _ List.mem_cons_self))) hk ⟨iI.1, iI.2.1, iI.2.2.1⟩ (fun p hp => by
          simp only [List.mem_cons, List.not_mem_nil, or_false] at hp
          rcases hp with rfl | rfl
          · exact st_ne N1
          · exact iI.2.2.2)
      clear F1 N1 hk F4 N4
      simp only [List.cons_append, List.nil_append] at N2
      have hlen : sv.length = buf.size := by rw [hI5.length, KBw.ints_length]
      (try dsimp only)
      k_steps
      with_reducible show Held _
      unfold Held
      rename Fr _ _ _ _ => F5
      rename News _ _ _ _ => N5
      refine getvalue_F B X T F5 N5 (rest_off2 hst hnl) ?gz rfl rfl ?_
      case gz => rw [sizeLine_eq]; omega
      intro t9 h6 tk6 F6 N6
      clear F5 N5
      (try dsimp only)
      simp only [List.cons_append, List.nil_append] at N6
      k_steps
      (try dsimp only)
      rw [beq_self_eq_true]
      exact hR _ _ (stays_hide (S := []) hg F6)
end
section
theorem main : PySem.Challenge.rw_fq5006_01.Holds := by
  w_top off
  refine MineHead.hd ?_
  k_fill
  intro w s₀ s₁ mg mb G Y fa o pm cd doc dV kV ho hd hcd hD hmg hg args vals as hpre hlay hrd hwl hlo
  have KX := kIn_of Y
  clear Y
  have X := (Ground.X G).1
  have V := (Ground.X G).2
  refine Ground.open G ?_
  intro T B D TE TW
  clear hD hcd hd ho
  wrow_args hpre hlay hrd hwl hlo
  rename Heap.IsList _ _ _ => hsl
  rename IntsAre _ _ => hsi
  rename ¬ _ < _ => hsz
  have hsz' := Int.not_lt.mp hsz
  have hfa : fa = 823 := by
    have e1 := mg_of (n := Str.ofString "law") (v := .ref 823) KX T.g (by kernel_rfl)
    have e2 : mg (Str.ofString "law") = some (.ref fa) := hmg
    rw [e1] at e2
    cases e2; rfl
  subst hfa
  dsimp only
  refine wpF_call (codeF_leA (dp := 800) (un := 4000) (law_main (base := s₁.heap) ⟨⟨rfl, fun _ _ e => e, trivial⟩, KX, _, mg, mb, T⟩ hsl hsi (by omega) (fun h' tk hk => ?_)) (by decide) (by decide))
  refine GoodW.toG ⟨.inl ⟨.bool true, .bool true, [], rfl, raisesW_false (by wrow_none_raised), readsW_of_reads (.bool true), by wrow_post, unshared_nil⟩, hk, rfl, hg⟩
end
end Mine
set_option maxRecDepth 100000 in
set_option maxHeartbeats 8000000 in
theorem PySem.Challenge.cw_fq5006_01_holds : PySem.Challenge.rw_fq5006_01.Holds := by
  exact Mine.main
