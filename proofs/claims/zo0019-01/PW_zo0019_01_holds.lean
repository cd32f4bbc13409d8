import PyProof.Rows.All
import Wide.All
import OpenK.AllK
import Wide.FinOn
import KE.KSortTup
import PyProof.MeetsSeq3
import PyProof.FactsAll.list_2
import Lean
import PySem.Challenge.RW_zo0019_01
set_option Elab.async false
set_option maxRecDepth 100000
set_option maxHeartbeats 8000000
set_option rowWalk.seconds 0
section -- S1
open PySem PySem.W PyProof.Rows PySem.Calls
open Sem (wp)
namespace Mine
noncomputable def holders : List String := Builtin.Bytes.decodersThatHold ++ ["bytearray.__contains__", "bytearray.__mod__", "bytearray.__rmod__", "_struct.pack_into.held", "bytearray.find.held"]
noncomputable def okCode : Code → Bool
  | .builtin id _ => !holders.contains id
  | _ => true
noncomputable def Clean (Γ : Ctx) : Prop := okCode Γ.code = true ∧ ∀ x ∈ Γ.below, okCode x.1 = true
noncomputable def wpS {α : Type} (M : Model) (A : Around) (t : Sem α) (Q : α → Shared → Prop) (E : Value → Shared → Prop) (s : Shared) : Prop :=
  ∀ Γ p, Γ.In A → Clean Γ → wp M Γ t (fun a _ s' => Q a s') (fun e _ s' => E e s') p s
noncomputable def codeS (M : Model) (A : Around) (c : Code) (R : Result → Shared → Prop) (s : Shared) : Prop :=
  ∀ Γ p, Γ.code = c → Γ.Below A → (∀ x ∈ Γ.below, okCode x.1 = true) → wpCode M Γ R p s
section
variable {α β : Type} {M : Model} {A : Around} {E : Value → Shared → Prop} {s : Shared} {env : Env}
theorem S_of {t : Sem α} {Q : α → Shared → Prop} (h : wpAny M A t Q E s) : wpS M A t Q E s := fun Γ p hΓ _ => h Γ p hΓ
theorem codeS_of {c : Code} {R : Result → Shared → Prop} (h : codeAny M A c R s) : codeS M A c R s := fun Γ p hc hΓ _ => h Γ p hc hΓ
theorem S_pure {a : α} {Q : α → Shared → Prop} (h : Q a s) : wpS M A (pure a) Q E s := fun _ _ _ _ => h
theorem S_mono {t : Sem α} {Q Q' : α → Shared → Prop} {E' : Value → Shared → Prop} (h : wpS M A t Q E s) (hQ : ∀ a s, Q a s → Q' a s) (hE : ∀ e s, E e s → E' e s) : wpS M A t Q' E' s :=
  fun Γ p hΓ c => Sem.wp_mono M Γ t (fun a _ s => hQ a s) (fun e _ s => hE e s) p s (h Γ p hΓ c)
theorem S_bind {m : Sem α} {f : α → Sem β} {Q : β → Shared → Prop} (h : wpS M A m (fun a s' => wpS M A (f a) Q E s') E s) : wpS M A (m >>= f) Q E s := fun Γ p hΓ c => by
  rw [Sem.wp_bind']
  exact Sem.wp_mono M Γ m (fun a p' s' h' => h' Γ p' hΓ c) (fun _ _ _ h' => h') p s (h Γ p hΓ c)
theorem S_holding {vs : List Value} {m : Sem α} {Q : α → Shared → Prop} (h : wpS M A m Q E s) : wpS M A (holding vs m) Q E s := fun Γ p hΓ c => by rw [Sem.wp_holding]; exact h Γ p hΓ c
theorem S_keep {vs : List Value} {m : Sem α} {Q : α → Shared → Prop} (h : wpS M A m Q E s) : wpS M A (m.keep vs) Q E s := fun Γ p hΓ c => by rw [Sem.wp_keep]; exact h Γ p hΓ c
theorem S_standAt {pos : Pos} {Q : Unit → Shared → Prop} (h : Q () s) : wpS M A (standAt pos) Q E s := fun _ _ _ _ => h
theorem S_onRaise {m : Sem α} {k : Value → Sem Unit} {Q : α → Shared → Prop} (h : wpS M A m Q (fun e s' => wpAny M A (k e) (fun _ s'' => E e s'') E s') s) : wpS M A (m.onRaise k) Q E s := fun Γ p hΓ c => by
  rw [Sem.wp_onRaise]
  exact Sem.wp_mono M Γ m (fun _ _ _ h' => h') (fun e p' s' h' => h' Γ p' hΓ) p s (h Γ p hΓ c)
theorem S_attempt {m : Sem α} {Q : Except Value α → Shared → Prop} (h : wpS M A m (fun a => Q (.ok a)) (fun e => Q (.error e)) s) : wpS M A m.attempt Q E s := fun Γ p hΓ c => by rw [Sem.wp_attempt]; exact h Γ p hΓ c
/-- no raise: any E will do -/
theorem S_noRaise {t : Sem α} {Q : α → Shared → Prop} (h : wpS M A t Q (fun _ _ => False) s) : wpS M A t Q E s := S_mono h (fun _ _ x => x) fun _ _ f => f.elim
theorem enter_clean {Γ : Ctx} (hc : Clean Γ) (c : Code) (hd : Option Value) (p : Pos) : ∀ x ∈ (Γ.enter c hd p).below, okCode x.1 = true := by
  intro x hx
  rcases List.mem_cons.mp hx with rfl | hx
  · exact hc.1
  · exact hc.2 x hx
theorem S_run {c : Code} {h : Option Value} {Q : Flow → Shared → Prop} (hc : codeS M (A.mark h) c (fun r s' => match r with | .ok f => Q f s' | .error e => E e s') s) (hnb : h ≠ some byPass := by intro x; cases x) :
    wpS M A (run c h) Q E s := fun Γ p hΓ cl => by rw [Sem.wp_run]; exact hc _ p rfl (hΓ.enter c h p hnb) (enter_clean cl c h p)
theorem S_runValue {c : Code} {Q : Value → Shared → Prop} (hc : codeS M A c (fun r s' => match r with | .ok (.ret v) => Q v s' | .ok _ => False | .error e => E e s') s) : wpS M A (runValue c) Q E s :=
  fun Γ p hΓ cl => by rw [Sem.wp_runValue]; exact hc _ p rfl (hΓ.enter c none p (by intro x; cases x)) (enter_clean cl c none p)
theorem S_call {f : Value} {pos : List Value} {kw : List (Str × Value)} {Q : Value → Shared → Prop} (hc : codeS M A (.call f ⟨pos, kw⟩) (fun r s' => match r with | .ok (.ret v) => Q v s' | .ok _ => False | .error e => E e s') s) :
    wpS M A (call f pos kw) Q E s := S_runValue hc
theorem codeS_mono {c : Code} {R R' : Result → Shared → Prop} (h : codeS M A c R s) (hR : ∀ r s, R r s → R' r s) : codeS M A c R' s := fun Γ p hc hΓ cl => wpCode_mono hR (h Γ p hc hΓ cl)
theorem codeS_tree {c : Code} {R : Result → Shared → Prop} (ok : okCode c = true)
    (h : wpS M (A.under c) (M.den c) (fun fin s' => match fin with | .done f => R (.ok f) s' | .again c' => c'.quiet = true ∧ codeS M A c' R s') (fun e s' => R (.error e) s') s) : codeS M A c R s := fun Γ p hc hΓ cl => by
  rw [wpCode_iff_wp, hc]
  refine Sem.wp_mono M Γ _ (fun fin p' s' h' => ?_) (fun _ _ _ h' => h') p s (h Γ p (hc ▸ hΓ.in) ⟨by rw [hc]; exact ok, cl⟩)
  cases fin with
  | done f => exact h'
  | again c' => exact ⟨h'.1, h'.2 (Γ.goto c') p' rfl (hΓ.goto c') cl⟩
theorem codeS_loop {c : Code} {R : Result → Shared → Prop} (hq : c.quiet = true) (ok : okCode c = true) (I : Nat → Shared → Prop)
    (turn : ∀ n s, I n s → wpS M (A.under c) (M.den c) (fun fin s' => match fin with | .done f => R (.ok f) s' | .again c' => (c' = c ∧ ∃ m, m < n ∧ I m s') ∨ (c'.quiet = true ∧ codeS M A c' R s')) (fun e s' => R (.error e) s') s)
    (n : Nat) (h : I n s) : codeS M A c R s := by
  induction n using Nat.strongRecOn generalizing s with
  | ind n ih =>
    refine codeS_tree ok (S_mono (turn n s h) (fun fin s' hf => ?_) fun _ _ h' => h')
    cases fin with
    | done f => exact hf
    | again c' =>
      rcases hf with ⟨rfl, m, hm, hI⟩ | hf
      · exact ⟨hq, ih m hm hI⟩
      · exact hf
end
section
variable {M : Model} {A : Around} {E : Value → Shared → Prop} {s : Shared} {env : Env}
theorem S_execs_cons {st rest} {Q : Flow → Shared → Prop} (h : wpS M A (exec st env) (fun f s' => match f with | .next => wpS M A (execs rest env) Q E s' | f => Q f s') E s) : wpS M A (execs (st :: rest) env) Q E s := by
  show wpS M A (do match ← exec st env with | .next => execs rest env | f => pure f) Q E s
  refine S_bind (S_mono h (fun f s' h' => ?_) fun _ _ x => x)
  cases f <;> first | exact h' | exact S_pure h'
theorem S_execs_nil {Q : Flow → Shared → Prop} (h : Q .next s) : wpS M A (execs [] env) Q E s := fun _ _ _ _ => h
theorem S_Assign {x pos' value pos} {Q : Flow → Shared → Prop} (h : wpS M A (eval value env) (fun v s₁ => wpAny M A (storeName env x v) (fun _ s₂ => Q .next s₂) E s₁) E s)
    (hs : swapsWith value (some (.Name x pos')) pos.line env = pure false := by rfl) : wpS M A (exec (.Assign [.Name x pos'] value pos) env) Q E s := fun Γ p hΓ c => by
  simp only [exec_Assign_Name env x pos' value pos hs, Sem.wp_bind', Sem.wp_cmd_standAt, Sem.wp_bindName, Sem.wp_pure']
  exact Sem.wp_mono M Γ _ (fun v _ s₁ h₁ => h₁ Γ _ hΓ) (fun _ _ _ h' => h') _ _ (h Γ _ hΓ c)
theorem S_If {test body orelse pos} {Q : Flow → Shared → Prop} (h : wpS M A (isTrue test env (eval test env)) (fun b s₂ => if b then wpS M A (execs body env) Q E s₂ else wpS M A (execs orelse env) Q E s₂) E s) :
    wpS M A (exec (.If test body orelse pos) env) Q E s := fun Γ p hΓ c => by
  simp only [exec_If, Sem.wp_bind', Sem.wp_cmd_standAt]
  refine Sem.wp_mono M Γ _ (fun b p₂ s₂ h₂ => ?_) (fun _ _ _ h' => h') _ _ (h Γ _ hΓ c)
  cases b <;> exact h₂ Γ p₂ hΓ c
theorem S_isTrue_not {x pos whole} {Q : Bool → Shared → Prop} (h : wpS M A (isTrue x env (eval x env)) (fun c s' => Q (!c) s') E s) : wpS M A (isTrue (.UnaryOp .Not x pos) env whole) Q E s := by
  show wpS M A (do return !(← isTrue x env (eval x env))) Q E s
  exact S_bind (S_mono h (fun c s' h' => S_pure h') fun _ _ x => x)
theorem S_isTrue_plain {e : Expr} {whole : Sem Value} {Q : Bool → Shared → Prop} (h : wpS M A whole (fun v s₁ => wpAny M A (truthy v) Q E s₁) E s)
    (he : isTrue e env whole = (do let v ← whole; standAt e.pos; holding [v] (truthy v)) := by rfl) : wpS M A (isTrue e env whole) Q E s := by
  rw [he]
  exact S_bind (S_mono h (fun v s₁ h₁ => S_bind (S_standAt (S_holding (S_of h₁)))) fun _ _ x => x)
theorem S_BinOp {l op r pos} {Q : Value → Shared → Prop} (h : wpS M A (eval l env) (fun a s₁ => wpAny M A (eval r env) (fun b s₂ => wpAny M A (binaryOp op a b) Q E s₂) E s₁) E s) : wpS M A (eval (.BinOp l op r pos) env) Q E s := fun Γ p hΓ c => by
  simp only [eval_BinOp, Sem.wp_bind', Sem.wp_holding, Sem.wp_cmd_standAt, Sem.wp_operate]
  exact Sem.wp_mono M Γ _ (fun a p₁ s₁ h₁ => Sem.wp_mono M Γ _ (fun b _ s₂ h₂ => h₂ Γ _ hΓ) (fun _ _ _ h' => h') _ _ (h₁ Γ p₁ hΓ)) (fun _ _ _ h' => h') _ _ (h Γ p hΓ c)
theorem S_spliced_nil {Q : List Value → Shared → Prop} (h : Q [] s) : wpS M A (spliced []) Q E s := fun _ _ _ _ => h
theorem S_spliced_cons {x : Sem Value} {rest} {Q : List Value → Shared → Prop} (h : wpS M A x (fun v s₁ => wpS M A (spliced rest) (fun vs s₂ => Q (v :: vs) s₂) E s₁) E s) : wpS M A (spliced ((false, x) :: rest)) Q E s := by
  rw [spliced]
  refine S_bind (S_mono h (fun v s₁ h₁ => ?_) fun _ _ x => x)
  simp only [Bool.false_eq_true, if_false]
  exact S_bind (S_pure (S_bind (S_holding (S_mono h₁ (fun vs s₂ h₂ => S_pure h₂) fun _ _ x => x))))
end
section
variable {prog : Program} {w : World} {A : Around} {E : Value → Shared → Prop} {s : Shared} {env : Env}
theorem S_evalArgs {fv : Value} {trees : List (Bool × Sem Value)} {Q : Args → Shared → Prop} (hplain : trees.any (·.1) = false) (h : wpS (model prog w) A (spliced trees) (fun vs s₂ => Q ⟨vs, []⟩ s₂) E s) :
    wpS (model prog w) A (evalArgs fv true trees []) Q E s := by
  unfold evalArgs
  cases trees with
  | nil =>
    show wpS (model prog w) A (spliced [] >>= _) Q E s
    refine S_bind (S_mono h (fun vs s₂ h₂ => ?_) fun _ _ e => e)
    refine S_bind (S_pure ?_)
    refine S_holding ?_
    exact S_bind (S_pure (S_bind (S_pure (S_pure h₂))))
  | cons t r =>
    obtain ⟨b, x⟩ := t
    have hb : b = false := by
      cases b with
      | false => rfl
      | true => simp at hplain
    subst hb
    show wpS (model prog w) A (spliced ((false, x) :: r) >>= _) Q E s
    refine S_bind (S_mono h (fun vs s₂ h₂ => ?_) fun _ _ e => e)
    refine S_holding ?_
    exact S_bind (S_pure (S_bind (S_pure (S_pure h₂))))
/-- a call of a name by positional arguments -/
theorem S_Call {K : Frag} {f : Value} {id : Str} {np pos : Pos} {args : List Expr} {Q : Value → Shared → Prop} (hk : keepIn K f = true) (hplain : (backTo pos (starEach args env)).any (·.1) = false)
    (h : wpAny (model prog w) A (eval (.Name id np) env) (fun fv s₁ => fv = f ∧ wpS (model prog w) A (spliced (backTo pos (starEach args env))) (fun vs s₂ => K.In s₂.heap ∧ wpS (model prog w) A (call f vs) Q E s₂) E s₁) E s) :
    wpS (model prog w) A (eval (.Call (.Name id np) args [] pos) env) Q E s := by
  rw [arm_eval_Call_Name']
  refine S_bind (S_mono (S_of h) (fun fv s₁ h₁ => ?_) fun _ _ e => e)
  obtain ⟨rfl, h₁⟩ := h₁
  show wpS (model prog w) A (callWith pos fv [] (backTo pos (starEach args env)) []) Q E s₁
  unfold callWith
  refine S_bind (S_holding (S_evalArgs hplain (S_mono h₁ (fun vs s₂ h₂ => ?_) fun _ _ e => e)))
  refine S_bind (S_standAt ?_)
  obtain ⟨k, hk', L⟩ := keeps_K (M := model prog w) hk _ h₂.1
  have hb : ((backTo pos (starEach args env)).any (·.1) || ([] : List (Option Str × Sem Value)).any (·.1.isNone)) = false := by rw [hplain]; rfl
  simp only [hb]
  refine S_bind (S_of (L.here ?_))
  have tail : ∀ {t : Sem Value}, wpS (model prog w) A t Q E s₂ → wpS (model prog w) A (t >>= fun r => holding [r] point >>= fun _ => pure r) Q E s₂ :=
    fun ht => S_bind (S_mono ht (fun r s₂ hr => S_bind (S_mono (S_of (wpAny_holding (wpAny_point (Q := fun _ s' => s' = s₂) rfl))) (fun _ s' e => by subst e; exact S_pure hr) fun _ _ e => e)) fun _ _ x => x)
  have marked (mk : Value) : wpS (model prog w) A (callMarked mk fv ([] ++ vs) []) Q E s₂ := by unfold callMarked; exact S_keep h₂.2
  rcases hk' with rfl | rfl | rfl <;> dsimp only <;> first | exact tail h₂.2 | (split <;> first | exact tail h₂.2 | exact tail (marked _))
end
end Mine
end
section -- ZTop
open PySem PySem.W PyProof.Rows PySem.Calls PySem.Spec
open Sem (wp)
namespace Mine
theorem wp_of_S_done {M : Model} {A : Around} {Γ : PySem.Ctx} {t : Sem Fin} {R : Result → Shared → Prop} {s : Shared} (hin : Γ.In A) (hc : Clean Γ)
    (h : wpS M A t (fun fin s' => ∃ f, fin = .done f ∧ R (.ok f) s') (fun e s' => R (.error e) s') s) (p : Pos) :
    wp M Γ t (Sem.finPost M Γ R) (fun e _ s' => R (.error e) s') p s := by
  refine Sem.wp_mono M Γ t (fun fin p' s' h' => ?_) (fun _ _ _ h' => h') p s (h Γ p hin hc)
  obtain ⟨f, rfl, hf⟩ := h'
  exact hf
theorem S_nsGet {M : Model} {A : Around} {E : Value → Shared → Prop} {s : Shared} {a : Addr} {name : Str} {mm : Str → Option Value} {α : Type} {f : Option Value → Sem α} {Q : α → Shared → Prop}
    (h : s.heap.Ns a mm) (hq : wpS M A (f (mm name)) Q E s) : wpS M A (nsGet a name >>= f) Q E s :=
  S_bind (S_mono (S_of (wpAny_nsGet (Q := fun v s' => s' = s ∧ v = mm name) h ⟨rfl, rfl⟩)) (fun v s' h' => by obtain ⟨rfl, rfl⟩ := h'; exact hq) fun _ _ x => x)
theorem thread_ends_S {prog : Program} {w : World} {t : Sem Fin} {s : Shared} {R : Result → Shared → Prop} (hreg : s.asleep)
    (h : wpS (model prog w) callerA t (fun fin s' => ∃ f, fin = .done f ∧ (R (.ok f) s' ∧ leftWithCleanup s'.gens = false)) (fun e s' => R (.error e) s' ∧ leftWithCleanup s'.gens = false) s) :
    ∃ n r s' s'', runN (denote table) prog w n s ⟨t, .builtin "claim.caller" {}, default, []⟩ = .halted (outcomeOf r) s' ∧
      schedN (denote table) prog w n (.single s ⟨t, .builtin "claim.caller" {}, default, []⟩) = .halted (outcomeOf r) s' ∧ s'.forget = s''.forget ∧ R r s'' := by
  obtain ⟨n, r, s₁, s₂, hs, hn, hfo, hR⟩ := wp_halts_full (M := model prog w) (R := R) hreg (wp_of_S_done (R := fun r s' => R r s' ∧ leftWithCleanup s'.gens = false) caller_in ⟨by decide, by intro x hx; cases hx⟩ h default)
  exact ⟨n, r, s₂, s₁, hn, hs, hfo, hR⟩
theorem callFrom_S {c : ClaimW} {tree : List Value → Sem Fin} {w : World} {s : Shared} {free : Addr → Prop} {gens : Prop} {kept : Heap → Prop} (hz : s.asleep) (hgens : s.gens = #[])
    (hspec : ∀ args, c.pre args = true → WData.layableAll args = true →
      ∀ ord : List DictEntry → List DictEntry, (∀ l, (ord l).Perm l) →
      ∃ vs s₁, layAllW c.records (classAt s.heap) w.params ord args s = some (vs, s₁) ∧
        wpS (model c.prog w) callerA (tree vs) (fun fin s' => ∃ f, fin = .done f ∧ (c.Ends s args vs s₁ (.ok f) s' ∧ s'.os = s.os ∧ AllBare s'.gens ∧ kept s'.heap))
          (fun e s' => c.Ends s args vs s₁ (.error e) s' ∧ s'.os = s.os ∧ AllBare s'.gens ∧ kept s'.heap) s₁) :
    c.CallFrom (fun vs => ⟨tree vs, .builtin "claim.caller" {}, default, []⟩) w free gens kept s := by
  intro args hpre hlay ord hord
  obtain ⟨vs, s₁, hlaid, hcode⟩ := hspec args hpre hlay ord hord
  have hal := layAllW_rest _ _ _ hlaid
  obtain ⟨k, r, s', s'', hrun, hsched, hfo, hcase, hos, hkp⟩ := thread_ends_S (prog := c.prog) (w := w) (t := tree vs) (s := s₁)
    (R := fun r s' => c.Ends s args vs s₁ r s' ∧ s'.os = s.os ∧ kept s'.heap)
    (Shared.asleep_of_life hal.2.2.2 hz)
    (S_mono hcode (by
      rintro fin s' ⟨f, e, h1, h2, h3, h4⟩
      exact ⟨f, e, ⟨h1, h2, h4⟩, leftWithCleanup_false_of_bare h3⟩) (by
      rintro e s' ⟨h1, h2, h3, h4⟩
      exact ⟨⟨h1, h2, h4⟩, leftWithCleanup_false_of_bare h3⟩))
  obtain ⟨eh, _, _, eo, _⟩ := Shared.forget_eq hfo
  have hcase := hcase.congr eh
  have hkp : kept s'.heap := by first | exact eh ▸ hkp | (rw [eh] at hkp; exact hkp) | (rw [← eh] at hkp; exact hkp)
  rw [← eo] at hos
  have hlife : s'.heap.life = s.heap.life := (runN_life _ _ _ hrun).trans hal.2.2.2
  refine ⟨vs, s₁, hlaid, k, _, s', hsched, ?_, (fun _ i x hx => by rw [hgens] at hx; simp at hx), hkp, by rw [hlife], Shared.rest_eq hos⟩
  rcases hcase with ⟨v, rfl, d1, d2, d3, d4, d5⟩ | ⟨e, ob, cls, rfl, d1, d2, d3, d4, d5⟩
  · exact .inl ⟨v, rfl, d1, d2, d3, fun b o y _ => d4 b o y, d5⟩
  · exact .inr ⟨e, ob, cls, rfl, d1, d2, d3, d4, fun b o y _ => d5 b o y⟩

theorem open_anyS {r : RowW} {run : Value → List Value → Sem Value} {tree : List Value → Sem Fin} {q : Program} {loose defs kps : List Str} {writes : Bool} {Xt : Shared → Bool} {XP : (Str → Option Value) → Heap → Prop} {α : Type} {Yf : Shared → α} {Ya : World → α} {YP : World → Heap → Prop} {N : Nat}
    (left : LeftO r.prog q loose Xt Yf Ya N) (hY : ∀ w s, Yf s = Ya w → YP w s.heap) (hYk : ∀ w h h', YP w h → (∀ b o, h.get? b = some o → h'.get? b = some o) → YP w h') (hX : ∀ s, Xt s = true → XP (s.heap.nsMap mainGlobals) s.heap) (hXk : ∀ mg h h', XP mg h → (∀ b o, h.get? b = some o → h'.get? b = some o) → XP mg h')
    (hRf : ∀ s, Xt s = true → RecFacts r.records s.heap) (hwr : (!writes || r.records.isEmpty) = true) (ok : (chainsOk q && opensWell r.prog && (frees r && r.within.isEmpty)) = true) (hb : r.prog.bare) (hw : r.promised)
    (ht : ∀ vs (w : World) (s : Shared) mg f (Q : Fin → Shared → Prop) (E : Value → Shared → Prop), s.heap.Ns mainGlobals mg → mg r.name = some f → wpS (model r.prog w) callerA (run f vs) (fun v s' => Q (.done (.ret v)) s') E s → wpS (model r.prog w) callerA (tree vs) Q E s)
    (pin : ∀ w s, s.heap.isNs mainGlobals = true → Ground q loose [] XP w s (s.heap.nsMap mainGlobals) (s.heap.nsMap builtinsNs) s.heap → ∀ n ∈ defs, isTheDefsW r.prog s.heap n)
    (call : ∀ (w : World) (s₀ s₁ : Shared) (mg mb : Str → Option Value), Ground q loose r.records XP w s₀ mg mb s₁.heap → YP w s₁.heap → ∀ (args : List WData) (vs : List Value) (as : List Addr),
      r.claim.pre args = true → WData.layableAll args = true → Laid r.records w s₀ s₁ args vs as → sysModules < s₀.heap.objs.size → ∃ f, mg r.name = some f ∧
        wpS (model r.prog w) callerA (run f vs) (fun v s' => GoodWG r.claim (classAt s₀.heap) (ExcName.means s₀.heap) args s₁ (.ok (.ret v)) s')
          (fun e s' => GoodWG r.claim (classAt s₀.heap) (ExcName.means s₀.heap) args s₁ (.error e) s') s₁) : r.claim.HoldsOpenBy (fun vs => ⟨tree vs, .builtin "claim.caller" {}, default, []⟩) defs kps writes := by
  obtain ⟨ok, k5⟩ := Bool.and_eq_true_iff.mp ok
  obtain ⟨hch, o1⟩ := Bool.and_eq_true_iff.mp ok
  obtain ⟨k5, k6⟩ := Bool.and_eq_true_iff.mp k5
  obtain ⟨hsame, hu, ha, hap, hm⟩ := frees_parts k5
  refine ⟨⟨hb, o1, by show r.makers.map _ = []; rw [hm]; rfl⟩, hw.witness, fun w => ⟨(left.behind hX hch w).1, fun s' hs' => ?_⟩⟩
  obtain ⟨s₀, hf, hg0, s, hT, hz, hgens, hg, G00, y⟩ := (left.behind (XP := fun mg h => XP mg h ∧ RecFacts r.records h) (fun s hs => ⟨hX s hs, hRf s hs⟩) hch w).2 s' hs'
  have G0 : Ground q loose [] XP w s (s.heap.nsMap mainGlobals) (s.heap.nsMap builtinsNs) s.heap := ⟨G00.T, G00.B, G00.D, G00.TE, G00.TD, G00.W, G00.X.1, G00.cls, G00.has, G00.apart, G00.once, G00.K⟩
  have RF := G00.X.2
  have hT' := hT
  refine ⟨s₀, hf, hg0, s, hT, pin w s hg G0, RF.1, RF.2.1, ?_⟩
  have hgens : s.gens = #[] := Array.eq_empty_of_size_eq_zero (beq_iff_eq.mp hgens)
  have G : Ground q loose r.records XP w s _ _ s.heap := RF.ground G0
  refine callFrom_S (c := r.claim) hz hgens fun args hpre hlay ord hord => ?_
  obtain ⟨⟨vs, s₁⟩, hlaid⟩ := Option.isSome_iff_exists.mp (layAllW_isSome (P := w.params) (ord := ord) G.has args r.args s (pre_splitW hpre).1)
  have keeps := layAllW_keeps _ _ _ hlaid
  have hal := layAllW_rest _ _ _ hlaid
  obtain ⟨as, hrd, hin, hold⟩ := reads_layAllW hord _ _ _ hlaid hlay s₁.heap (fun _ _ e => e)
  have L : Laid r.records w s s₁ args vs as := ⟨⟨ord, hord, hlaid⟩, hrd, hin, hold, keeps, hal.1.trans hgens, hal.2.2.1⟩
  have G₁ := G.keeps hXk keeps
  obtain ⟨f, hf, h⟩ := call w s s₁ _ _ G₁ (hYk _ _ _ (hY w s y) keeps) args vs as hpre hlay L G.low
  have hi := ident_freeW hu ha hap
  have hwi : r.claim.within = [] := List.isEmpty_iff.mp k6
  exact ⟨vs, s₁, hlaid, ht vs w s₁ _ f _ _ G₁.T.g hf (S_mono h (fun v s' g => ⟨_, rfl, have z := g.laid (c := r.claim) hsame hwi hi L; ⟨z.1, z.2.1, z.2.2, fun q => ⟨namesKept_of hT' hg kps keeps g.2.1.old, noTable hwr q⟩⟩⟩) fun e s' g => have z := g.laid (c := r.claim) hsame hwi hi L; ⟨z.1, z.2.1, z.2.2, fun q => ⟨namesKept_of hT' hg kps keeps g.2.1.old, noTable hwr q⟩⟩)⟩

noncomputable abbrev WalkS (q : Program) (loose : List Str) (XP : (Str → Option Value) → Heap → Prop) (YP : World → Heap → Prop) (r : RowW) (d : DefRec) (kwd : List (Str × Expr)) (run : Value → List Value → Sem Value) : Prop :=
  ∀ (w : World) (s₀ s₁ : Shared) (mg mb : Str → Option Value), Ground q loose r.records XP w s₀ mg mb s₁.heap → YP w s₁.heap → ∀ (a : Addr) (o : Obj) (pm cd doc dV kV : Value), s₁.heap.get? a = some o →
    o.data = .func { docDef d.name d.params d.body d.scope pm cd doc with defaults := dV, kwdefaults := kV } → s₁.heap.CodeRec cd d.name → Dflts mg s₁.heap d.params kwd dV kV → mg d.name = some (.ref a) → s₁.gens = #[] →
    ∀ (args : List WData) (vals : List Value) (as : List Addr), r.claim.pre args = true → WData.layableAll args = true → ReadsAllW r.records (classAt s₀.heap) s₁.heap vals args as → WellAll w.params s₁.heap vals args → (∀ a ∈ as, (a == sysModules) = false) →
      wpS (model r.prog w) callerA (run (.ref a) vals) (fun v s' => GoodWG r.claim (classAt s₀.heap) (ExcName.means s₀.heap) args s₁ (.ok (.ret v)) s')
        (fun e s' => GoodWG r.claim (classAt s₀.heap) (ExcName.means s₀.heap) args s₁ (.error e) s') s₁

theorem PySem.W.holds_open {r : OpenRow} {q : Program} {loose : List Str} {Xt : Shared → Bool} {XP : (Str → Option Value) → Heap → Prop} {α : Type} {Yf : Shared → α} {Ya : World → α} {YP : World → Heap → Prop} {d : DefRec} {kwd : List (Str × Expr)} {N : Nat}
    (left : LeftO r.prog q loose Xt Yf Ya N) (hY : ∀ w s, Yf s = Ya w → YP w s.heap) (hYk : ∀ w h h', YP w h → (∀ b o, h.get? b = some o → h'.get? b = some o) → YP w h')
    (hX : ∀ s, Xt s = true → XP (s.heap.nsMap mainGlobals) s.heap) (hXk : ∀ mg h h', XP mg h → (∀ b o, h.get? b = some o → h'.get? b = some o) → XP mg h')
    (hdef : defOf q r.name = some (d, kwd)) (hp : r.prog.theDef r.name = some (d.params, d.body, d.scope)) (hk : kwWritten? d.params.kwonlyargs d.params.kw_defaults = some kwd) (hRf : ∀ s, Xt s = true → RecFacts r.records s.heap) (hwr : (!r.writes || r.records.isEmpty) = true)
    (k1 : r.wellSaid = true) (ok : (chainsOk q && opensWell r.prog && (frees r.toRowW && r.within.isEmpty)) = true) (hb : r.prog.bare) (hw : r.toRowW.promised)
    (call : WalkS q loose XP YP r.toRowW d kwd fun f vs => PySem.call f vs) : r.Holds := by
  refine ⟨k1, hw, open_anyS (r := r.toRowW) (run := fun f vs => PySem.call f vs) (tree := fun vs => do match ← nsGet mainNs r.name with
      | some f => do ret (← PySem.call f vs)
      | none => unsupported "claim.caller:no-such-global") left hY hYk hX hXk hRf hwr ok hb hw
    (fun vs w s mg f Q E hg hf h => (S_nsGet hg (by rw [hf]; exact S_bind (S_mono h (fun _ _ x => S_pure x) fun _ _ x => x))))
    (fun w s hg G n hn => ?_) fun w s₀ s₁ mg mb G Y args vs as hpre hlay L low => ?_⟩
  · obtain rfl : n = r.name := by split at hn <;> simp_all
    exact pinned_of_view hg G hdef hp hk
  · obtain ⟨a, o, pm, cd, doc, dV, kV, h1, h2, h3, h4, h5⟩ := G.fn hdef
    exact ⟨.ref a, h1, call w s₀ s₁ mg mb G Y a o pm cd doc dV kV h2 h3 h4 h5 (defOf_name hdef ▸ h1) L.gens args vs as hpre hlay L.reads L.well (L.low low)⟩

end Mine
namespace Mine
open_top hd for PySem.Challenge.rw_zo0019_01
end Mine
end
section -- S2
open PySem PySem.W PyProof.Rows PySem.Calls
namespace Mine
section
variable {prog : Program} {w : World} {A A₀ : Around} {s : Shared} {R : Result → Shared → Prop}
theorem codeS_func {body : List Stmt} {env : Env}
    (h : wpS (model prog w) (A.deeper env) (execs body env) (fun f s' => R (.ok (.ret (match f with | .ret v => v | _ => .none))) s') (fun _ _ => False) s) :
    codeS (model prog w) A (.func body env) R s := by
  refine codeS_tree rfl ?_
  show wpS _ (A.deeper env) (do point; match ← (execs body env).onRaise (leaving env) with | .ret v => ret v | _ => ret .none) _ _ s
  refine S_bind (S_mono (S_of (wpAny_point (Q := fun _ s' => s' = s) rfl)) (fun _ s' e => ?_) fun _ _ x => x)
  subst e
  refine S_bind (S_onRaise (S_mono h (fun f s' h' => ?_) fun _ _ h' => h'.elim))
  cases f <;> exact S_pure h'
theorem codeS_call_function {a : Addr} {args : Args} {o : Obj} {fd : FuncData} {body : List Stmt} (hroom : A.depth < recursionLimit)
    (ho : s.heap.get? a = some o)
    (hd' : o.data = .func fd) (hco : fd.scope.isCoroutine = false) (hgen : fd.scope.isGenerator = false) (hbody : fd.body = .stmts body) (hcd : s.heap.CodeRec fd.code fd.qualname)
    (h : wpAny (model prog w) A.in1 (bindArgs fd args) (fun binds s₁ =>
      wpAny (model prog w) A.in1 (newFunctionEnv fd.scope fd.globals fd.closure binds (fd.qualname ++ ".<locals>.") (some a) fd.code none fd.builtins)
        (fun env s₂ => s₂.heap.NoLimit ∧ codeS (model prog w) A (.func body env) R s₂) (fun _ _ => False) s₁) (fun _ _ => False) s) :
    codeS (model prog w) A (.call (.ref a) args) R s := by
  refine codeS_tree rfl ?_
  refine S_of ?_
  show wpAny _ A.in1 (callAny (.ref a) args) _ _ s
  simp only [callAny]
  refine wpAny_bind (wpAny_load ho ?_)
  obtain ⟨c, oc, vs, tq, hc, hoc, hdc, hq⟩ := hcd
  simp only [hd', callFunction, hco, hgen, hbody, hc]
  rw [hc] at h
  refine wpAny_bind (m := field (.ref c) 1) (wpAny_field hoc hdc hq (wpAny_bind (wpAny_pure ?_)))
  exact wpAny_bind (wpAny_mono h (fun binds s₁ h₁ => wpAny_bind (wpAny_mono h₁ (fun env s₂ h₂ => wpAny_bind (wpAny_enterFrame h₂.1 hroom
    (wpAny_pure (And.intro rfl h₂.2)))) fun _ _ h' => h'.elim)) fun _ _ h' => h'.elim)
theorem codeS_call_def {a : Addr} {o : Obj} {fd : FuncData} {body : List Stmt} {args : Args} {binds : List (Str × Value)}
    (hroom : A.depth < recursionLimit) (ho : s.heap.get? a = some o) (hdata : o.data = .func fd) (hlim : s.heap.NoLimit) (hcd : s.heap.CodeRec fd.code fd.qualname)
    (hbody : fd.body = .stmts body) (hbind : BindsTo s fd args binds)
    (hcell : ∀ x ∈ fd.scope.names, x.2 ≠ .cell) (hloc : ∀ x ∈ binds, fd.scope.names.lookup x.1 = some .local)
    (h : ∀ h₀, h₀.Ns s.heap.objs.size (fun x => binds.reverse.lookup x) → (∀ b o, s.heap.get? b = some o → h₀.get? b = some o) →
      wpS (model prog w) (A.deeper (callEnv fd s.heap.objs.size a)) (execs body (callEnv fd s.heap.objs.size a)) (fun f s' => R (.ok (.ret (match f with | .ret v => v | _ => .none))) s')
        (fun _ _ => False) { s with heap := h₀, toks := s.toks + binds.length })
    (hco : fd.scope.isCoroutine = false) (hgen : fd.scope.isGenerator = false) (hk : fd.scope.kind = .function) :
    codeS (model prog w) A (.call (.ref a) args) R s := by
  refine codeS_call_function hroom ho hdata hco hgen hbody hcd (hbind _ _ _ _ ?_)
  refine wpAny_newFunctionEnv hcell hloc (fun h₀ hns₀ hsb₀ => ⟨hlim.fresh _ hsb₀, codeS_func (h h₀ hns₀ fun b o e => ?_)⟩) hk
  exact hsb₀.extBut b o (Nat.ne_of_lt (Heap.lt_size e)) (Heap.get?_push_of_some _ e)
end
section
variable {prog : Program} {w : World} {A A₀ : Around} {s : Shared} {K : Frag} {L : Addr} {h₀ base : Heap} {m mg mb : Str → Option Value} {p : Program} {loose : List Str} {mean : ExcName → Option Value} {R : Result → Shared → Prop}
/-- into a tainted def that turns nothing of its caller's -/
theorem code_pureS {env : Env} {outer : List Env} {name qual : Str} {params : Arguments} {body : List Stmt} {scope : Scope} {dV kV doc pm cdv ct oc : Value} {an od : Option Addr} {osl : Array (Option Value)} {f : Addr} {args : Args} {binds : List (Str × Value)}
    (B : Below A₀ base outer h₀) (F : Fr h₀ L s.heap m) (X₀ : K.In h₀) (T : Top p loose mean mg mb h₀) (hA : A.frames = some (env :: outer)) (hf : env.frame = some L) (hke : env.scope.kind = .function)
    (ho : K.lookup f = some ⟨oc, od, .func (fnOf name qual params body scope dV kV doc pm an cdv ct), osl⟩) (hcd : codeIn K cdv qual = true) (hroom : A.depth < recursionLimit)
    (hbind : BindsTo s (fnOf name qual params body scope dV kV doc pm an cdv ct) args binds) (hloc : ∀ y ∈ binds, scope.names.lookup y.1 = some .local)
    (h : ∀ L' h₁, Fr s.heap L' h₁ (fun y => binds.reverse.lookup y) → News s.heap L' h₁ [] → Below A base (env :: outer) s.heap → K.In s.heap → Top p loose mean mg mb s.heap →
      wpS (model prog w) (A.deeper (envOf qual scope L' f cdv)) (execs body (envOf qual scope L' f cdv))
        (fun fl s' => R (.ok (.ret (match fl with | .ret v => v | _ => .none))) s') (fun _ _ => False) { s with heap := h₁, toks := s.toks + binds.length })
    (hco : scope.isCoroutine = false) (hgen : scope.isGenerator = false) (hk : scope.kind = .function) (hcell : ∀ x ∈ scope.names, x.2 ≠ .cell) : codeS (model prog w) A (.call (.ref f) args) R s := by
  obtain ⟨_, BG, _, _⟩ := groundX (R := R) B F News.nil hA hf hke
  have X := X₀.keeps F.keep
  refine codeS_call_def (fd := fnOf name qual params body scope dV kV doc pm an cdv ct) (body := body) (binds := binds) hroom (X _ _ ho) rfl (T.nolimit.keeps F.keep) (codeRec_of X hcd) rfl hbind hcell hloc (fun h₁ hns hk₁ => ?_) hco hgen hk
  exact h s.heap.objs.size h₁ ⟨hns, hk₁, Nat.le_refl _⟩ News.nil BG X (T.keeps F.keep)
/-- into a tainted def that may turn what the ledger names -/
theorem code_defS {env : Env} {outer : List Env} {news : List (Addr × Obj)} {name qual : Str} {params : Arguments} {body : List Stmt} {scope : Scope} {dV kV doc pm cdv ct oc : Value} {an od : Option Addr} {osl : Array (Option Value)} {f : Addr} {args : Args} {binds : List (Str × Value)}
    (B : Below A₀ base outer h₀) (F : Fr h₀ L s.heap m) (X₀ : K.In h₀) (N : News h₀ L s.heap news) (T : Top p loose mean mg mb h₀) (hA : A.frames = some (env :: outer)) (hf : env.frame = some L) (hke : env.scope.kind = .function)
    (ho : K.lookup f = some ⟨oc, od, .func (fnOf name qual params body scope dV kV doc pm an cdv ct), osl⟩) (hcd : codeIn K cdv qual = true) (hroom : A.depth < recursionLimit)
    (hbind : BindsTo s (fnOf name qual params body scope dV kV doc pm an cdv ct) args binds) (hloc : ∀ y ∈ binds, scope.names.lookup y.1 = some .local)
    (h : ∀ g L' h₁, Fr h₀ L g m → Fr g L' h₁ (fun y => binds.reverse.lookup y) → News g L' h₁ news → Below A base (env :: outer) g → K.In g → Top p loose mean mg mb g →
      wpS (model prog w) (A.deeper (envOf qual scope L' f cdv)) (execs body (envOf qual scope L' f cdv))
        (fun fl s' => LeaveK h₀ L m g R (match fl with | .ret v => v | _ => .none) s') (fun _ _ => False) { s with heap := h₁, toks := s.toks + binds.length })
    (hco : scope.isCoroutine = false) (hgen : scope.isGenerator = false) (hk : scope.kind = .function) (hcell : ∀ x ∈ scope.names, x.2 ≠ .cell) : codeS (model prog w) A (.call (.ref f) args) R s := by
  obtain ⟨FG, BG, st, lv⟩ := groundX (R := R) B F N hA hf hke
  refine codeS_call_def (fd := fnOf name qual params body scope dV kV doc pm an cdv ct) (body := body) (binds := binds) hroom ((X₀.keeps F.keep) _ _ ho) rfl (T.nolimit.keeps F.keep) (codeRec_of (X₀.keeps F.keep) hcd) rfl hbind hcell hloc (fun h₁ hns hk₁ => ?_) hco hgen hk
  exact S_mono (h _ s.heap.objs.size h₁ FG ⟨hns, fun b o e => hk₁ b o (of_hideAll _ e), Nat.le_of_eq (hideAll_size _ _)⟩
    (fun p hp => ⟨hk₁ _ _ (N p hp).1, Nat.ne_of_lt (Heap.lt_size (N p hp).1), hideAll_none _ (List.mem_map_of_mem hp)⟩) BG (X₀.keeps st) (T.keeps st)) (fun fl s' hl => lv _ _ hl) fun _ _ y => y
end
end Mine
end
section -- S3
open PySem PySem.W PyProof.Rows PySem.Calls
open Sem (wp)
namespace Mine
section
variable {prog : Program} {w : World} {A : Around} {E : Value → Shared → Prop} {s : Shared} {R : Result → Shared → Prop}
theorem codeS_call_builtin {id : String} {args : Args} {b : Builtin} (ok : okCode (.builtin id args) = true) (hq : plainId id = true) (hb : entryFor table id = some b)
    (h : wpAny (model prog w) A.in1 (checkBuiltinCall id args) (fun _ s₁ => wpS (model prog w) A.in1 (b args)
      (fun fin s' => ∃ v, fin = .done (.ret v) ∧ R (.ok (.ret v)) s') (fun _ _ => False) s₁)
      (fun _ _ => False) s) : codeS (model prog w) A (.call (.builtin id) args) R s := by
  refine codeS_tree rfl (S_of ?_)
  show wpAny _ A.in1 (do checkBuiltinCall id args; again (.builtin id args)) _ _ s
  refine wpAny_bind (wpAny_mono h (fun _ s₁ h₁ => wpAny_pure (And.intro (plainId_quiet hq args) (codeS_tree ok ?_))) fun _ _ h' => h'.elim)
  rw [Around.under_plainId hq args]
  show wpS _ _ (match entryFor table id with | some b => b args | none => unsupported ((withoutEnding? id "#data").getD id)) _ _ s₁
  rw [hb]
  refine S_mono h₁ (fun fin s' h' => ?_) fun _ _ f => f.elim
  obtain ⟨v, rfl, h'⟩ := h'
  exact h'
theorem S_isInstance {self : Value} {T : String} {α : Type} {f : Bool → Sem α} {Q : α → Shared → Prop} {X : String} (hT : s.TypeIs self T) (hs : isSubtype (.type T) (.type X) = pure true) (h : wpS (model prog w) A (f true) Q E s) :
    wpS (model prog w) A (isInstance self (.type X) >>= f) Q E s :=
  S_bind (S_mono (S_of (wpAny_isInstance (Q := fun b s' => b = true ∧ s' = s) hT hs ⟨rfl, rfl⟩)) (fun b s' e => by obtain ⟨rfl, rfl⟩ := e; exact h) fun _ _ x => x)
theorem S_callSpecial_slot {self : Value} {T : String} {name : Str} {id : String} {args : List Value}
    {Q : Option Value → Shared → Prop} (hT : s.TypeIs self T) (h : Slot T name id)
    (hc : wpS (model prog w) A (call (.builtin id) (self :: args)) (fun v => Q (some v)) E s) : wpS (model prog w) A (callSpecial? self name args []) Q E s := by
  simp only [callSpecial?]
  refine S_bind (S_mono (S_of (wpAny_specialOf (Q := fun v s' => v = some (.builtin id) ∧ s' = s) hT h.lookup ⟨rfl, rfl⟩)) (fun v s' e => ?_) fun _ _ x => x)
  obtain ⟨rfl, rfl⟩ := e
  simp only [h.bind]
  exact S_holding (S_bind (S_pure (S_bind (S_mono hc (fun v s' h' => S_pure h') fun _ _ h' => h'))))
theorem S_eq {α β : Type} {t : Sem α} {a : α} {f : α → Sem β} {Q : β → Shared → Prop} {M : Model} (e : t = pure a) (h : wpS M A (f a) Q E s) : wpS M A (t >>= f) Q E s := by
  subst e; exact S_bind (S_pure h)
theorem codeS_builtin {id : String} {args : Args} {b : Builtin} (ok : okCode (.builtin id args) = true) (hb : entryFor table id = some b)
    (h : wpS (model prog w) (A.under (.builtin id args)) (b args) (fun fin s' => match fin with | .done f => R (.ok f) s' | .again c' => c'.quiet = true ∧ codeS (model prog w) A c' R s') (fun e s' => R (.error e) s') s) :
    codeS (model prog w) A (.builtin id args) R s := by
  refine codeS_tree ok ?_
  show wpS _ _ (match entryFor table id with | some b => b args | none => unsupported ((withoutEnding? id "#data").getD id)) _ _ s
  rw [hb]
  exact h
theorem S_callType {T newId initId : String} {Bi : Builtin} {args : List Value} {Q Q₁ : Value → Shared → Prop} (ft : TypeCalled T newId initId)
    (hct : checkTypeCall T ⟨args, []⟩ = pure ()) (entryI : entryFor table initId = some Bi) (okI : (!holders.contains initId) = true)
    (hnew : codeAny (model prog w) A.in1 (.call (.builtin newId) ⟨.type T :: args, []⟩) (wants Q₁ fun _ _ => False) s)
    (hnext : ∀ obj s₁, Q₁ obj s₁ → s₁.TypeIs obj T ∧ argsOk initId ⟨obj :: args, []⟩ ∧
      wpS (model prog w) A.in1.in1 (Bi ⟨obj :: args, []⟩) (fun fin s' => fin = .done (.ret .none) ∧ Q obj s') (fun _ _ => False) s₁) :
    wpS (model prog w) A (call (.type T) args) Q E s := by
  obtain ⟨c, tl, hmro⟩ := ft.mro
  refine S_call (codeS_tree rfl (S_of ?_))
  show wpAny _ _ (callAny (.type T) _) _ _ _
  refine wpAny_pure ⟨Code.quiet_builtin _ (by decide +kernel), codeS_builtin (by show (!holders.contains "type.__call__") = true; decide +kernel) F.entry_type_call ?_⟩
  rw [Around.under_plain (weight_type_call_type T args []) rfl]
  dsimp only
  unfold Builtin.«type.__call__»
  dsimp only
  rw [if_neg (by rw [ft.notType]; exact Bool.false_ne_true), if_neg (by rw [ft.canCreate]; exact Bool.false_ne_true)]
  refine S_eq hct (S_eq hmro ?_)
  rw [if_neg (by simp)]
  refine S_eq ft.made ?_
  dsimp only
  refine S_bind (S_pure (S_bind (S_holding (S_mono (S_of (wpAny_call hnew)) (fun obj s₁ h₁ => ?_) fun _ _ f => f.elim))))
  obtain ⟨hT, hok, hsi⟩ := hnext _ _ h₁
  refine S_isInstance hT ft.sub ?_
  simp only [Bool.not_true, Bool.false_eq_true, if_false]
  refine S_bind (S_holding (S_callSpecial_slot (name := Str.ofString "__init__") hT ft.init (S_call (codeS_call_builtin okI ft.init.plain entryI (ft.init.check _ _ _ _ _ _ _ _ hT hok (S_mono hsi (fun fin s' h' => ?_) fun _ _ f => f))))))
  obtain ⟨rfl, hq⟩ := h'
  exact ⟨_, rfl, S_pure hq⟩
end
end Mine
end
section -- S4
open PySem PySem.W PyProof.Rows PySem.Calls
open Sem (wp)
namespace Mine
noncomputable def baObj (b : Array UInt8) : Obj := { cls := .type "bytearray", data := .bytearray b }
theorem ba_mro : mroOf (.type "bytearray") = pure [.type "bytearray", .type "object"] := by rw [mroOf_type]; kernel_rfl
theorem ba_lookup_new : typeLookup (.type "bytearray") "__new__" = pure (some (.builtin "bytearray.__new__")) := by rw [typeLookup_type, builtinLookup_eq_fast]; kernel_rfl
theorem ba_slot_init : Slot "bytearray" "__init__" "bytearray.__init__" :=
  .of (owner := "bytearray") (n := "__init__") (by rw [typeLookup_type, builtinLookup_eq_fast]; kernel_rfl) (by decide +kernel) (by decide +kernel) (by decide +kernel)
    (by first | exact .inl (by decide +kernel) | exact .inr (by decide +kernel)) (by rw [isSubtype_type]; kernel_rfl)
theorem ba_entry_init : entryFor table "bytearray.__init__" = some Builtin.«bytearray.__init__» := entryFor_of_tree (by kernel_rfl)
theorem ba_args_init (a b : Value) : argsOk "bytearray.__init__" ⟨[a, b], []⟩ := by unfold argsOk; kernel_rfl
theorem ba_called : TypeCalled "bytearray" "bytearray.__new__" "bytearray.__init__" :=
  ⟨by decide +kernel, by decide +kernel, ⟨_, _, ba_mro⟩, madeBy_type ba_mro ba_lookup_new (by decide +kernel), by decide +kernel, by rw [isSubtype_type]; kernel_rfl, ba_slot_init⟩
theorem ba_typeCall (a : Value) : checkTypeCall "bytearray" ⟨[a], []⟩ = pure () := by kernel_rfl
theorem ba_newCall (a : Value) : checkBuiltinCall "bytearray.__new__" ⟨[.type "bytearray", a], []⟩ = pure () := by kernel_rfl
theorem ba_entry_new : entryFor table "bytearray.__new__" = some Builtin.«list.__new__» := entryFor_alias (id' := "list.__new__") (by kernel_rfl) rfl (by decide +kernel) (by kernel_rfl)
theorem ba_plain_new : plainId "bytearray.__new__" = true := by decide +kernel
set_option maxRecDepth 1000000 in
theorem ba_owner_new : ("bytearray.__new__".splitOn ".__new__").headD "" = "bytearray" := by simp +decide [String.splitOn, String.splitOnAux]
theorem ba_sub : isSubtype (.type "bytearray") (.type "bytearray") = pure true := by rw [isSubtype_type]; kernel_rfl
theorem ba_look_release : typeLookup (.type "bytearray") "__release_buffer__" = pure (some (.builtin "bytearray.__release_buffer__")) := by rw [typeLookup_type, builtinLookup_eq_fast]; kernel_rfl
theorem ba_look_buffer : typeLookup (.type "bytearray") "__buffer__" = pure (some (.builtin "bytearray.__buffer__")) := by rw [typeLookup_type, builtinLookup_eq_fast]; kernel_rfl
section
variable {prog : Program} {w : World} {A : Around} {E : Value → Shared → Prop} {s : Shared} {R : Result → Shared → Prop}
theorem ba_new (a : Value) {Q₁ : Value → Shared → Prop} {E : Value → Shared → Prop} (h : Q₁ (.ref s.heap.objs.size) { s with heap := s.heap.push (baObj #[]) }) :
    codeAny (model prog w) A (.call (.builtin "bytearray.__new__") ⟨[.type "bytearray", a], []⟩) (wants Q₁ E) s := by
  refine codeAny_of_tree ?_
  show wpAny _ A.in1 (do checkBuiltinCall "bytearray.__new__" ⟨[.type "bytearray", a], []⟩; again (.builtin "bytearray.__new__" ⟨[.type "bytearray", a], []⟩)) _ _ s
  refine wpAny_bind (wpAny_of_eq (ba_newCall a) (wpAny_pure ⟨plainId_quiet ba_plain_new _, codeAny_builtin_stack ba_entry_new rfl fun p st => ?_⟩))
  rw [Around.under_plainId ba_plain_new _]
  have hsub := ba_sub
  have hown := ba_owner_new
  obtain ⟨hp, g, d, tk, os⟩ := s
  simp only [hown]
  wp_walk
  exact h
theorem ba_release {M : Model} {a : Addr} {Q : Bool → Shared → Prop} (hT : s.TypeIs (.ref a) "bytearray") (h : Q false s) : wpAny M A (Builtin.Bytes.ownRelease (.ref a)) Q E s := by
  unfold Builtin.Bytes.ownRelease Builtin.Bytes.slotIsOwn
  refine wpAny_bind (wpAny_bind (wpAny_specialOf hT ba_look_release ?_))
  have key : ∀ x : String, x = "bytearray" → wpAny M A (isInstance (.ref a) (.type x)) (fun a => wpAny M A (pure !a) Q E) E s := fun x hx => by
    subst hx; exact wpAny_isInstance hT ba_sub (wpAny_pure h)
  show wpAny M A (if (!"bytearray.__release_buffer__".endsWith ("." ++ "__release_buffer__")) = true then _ else _) _ E s
  rw [if_neg (by decide +kernel)]
  exact key _ (by decide +kernel)
theorem hold_no {id : String} (h : (!holders.contains id) = true) : Builtin.Bytes.decodersThatHold.contains id = false := by
  cases q : Builtin.Bytes.decodersThatHold.contains id with
  | false => rfl
  | true =>
    have hm : id ∈ Builtin.Bytes.decodersThatHold := by simpa using q
    have : holders.contains id = true := by unfold holders; simp [hm]
    rw [this] at h; cases h
theorem S_exported {M : Model} {a : Addr} {Q : Bool → Shared → Prop} (h : Q false s) : wpS M A (Builtin.Bytes.exported (.ref a)) Q E s := fun Γ p hΓ c => by
  unfold Builtin.Bytes.exported stack
  show Sem.wp M Γ (Sem.bind (.stack .pure) _) _ _ p s
  rw [Sem.wp_bind, Sem.wp_stack]
  refine (Sem.wp_pure' ..).mpr ?_
  refine (Sem.wp_pure' ..).mpr ?_
  have key : ∀ x ∈ (Γ.code, p) :: Γ.below, okCode x.1 = true := by
    intro x hx
    rcases List.mem_cons.mp hx with rfl | hx
    · exact c.1
    · exact c.2 x hx
  rw [List.any_eq_false.mpr fun x hx => ?_]
  · exact h
  have hx := key x hx
  revert hx
  split
  · exact fun h => absurd (show (!holders.contains "bytearray.__contains__") = true from h) (by decide +kernel)
  · exact fun h => absurd (show (!holders.contains "bytearray.__mod__") = true from h) (by decide +kernel)
  · exact fun h => absurd (show (!holders.contains "bytearray.__rmod__") = true from h) (by decide +kernel)
  · exact fun h => absurd (show (!holders.contains "_struct.pack_into.held") = true from h) (by decide +kernel)
  · exact fun h => absurd (show (!holders.contains "bytearray.find.held") = true from h) (by decide +kernel)
  · exact fun h => by rw [hold_no h, Bool.and_false]; exact Bool.false_ne_true
  · exact fun _ => Bool.false_ne_true
theorem ba_write {M : Model} {a : Addr} {b : Array UInt8} {f : Array UInt8 → Array UInt8} {Q : Unit → Shared → Prop} (ho : s.heap.get? a = some (baObj b)) (hz : (f b).size ≤ 1000)
    (h : (s.heap.update a (Obj.mapBytearray f)).get? a = some (baObj (f b)) → Q () { s with heap := s.heap.update a (Obj.mapBytearray f) }) : wpAny M A (Builtin.Bytes.write (.ref a) f) Q E s := by
  show wpAny M A (updateBytearray a f) Q E s
  unfold updateBytearray
  refine wpAny_bind (wpAny_load ho ?_)
  show wpAny M A (update a (Obj.mapBytearray f) >>= fun _ => lookBehind a) Q E s
  have hn : (s.heap.update a (Obj.mapBytearray f)).get? a = some (baObj (f b)) := Heap.get?_update_self _ ho rfl
  refine wpAny_bind (wpAny_update ho ?_)
  refine wpAny_lookBehind (o := baObj (f b)) hn ?_ (h hn)
  show (if (f b).size > sizeLine then some "bytearray:memory" else none) = none
  rw [if_neg (by rw [sizeLine_eq]; omega)]
theorem ba_payload {M : Model} {a : Addr} {b : Array UInt8} {Q : Array UInt8 → Shared → Prop} (ho : s.heap.get? a = some (baObj b)) (h : Q b s) : wpAny M A (Builtin.Bytes.payload (.ref a)) Q E s := by
  unfold Builtin.Bytes.payload Builtin.Bytes.payload?
  refine wpAny_bind (wpAny_bind (wpAny_load ho ?_))
  exact wpAny_pure (wpAny_pure h)
theorem ba_bind (v : Value) : Builtin.Bytes.bindOptional "bytearray.__init__" "bytearray" ["source", "encoding", "errors"] [v] [] = pure [some v, none, none] := by kernel_rfl
theorem ba_exports {M : Model} {a : Addr} {b : Array UInt8} {Q : Bool → Shared → Prop} (ho : s.heap.get? a = some (baObj b)) (h : Q false s) : wpAny M A (do return decide ((← Builtin.Bytes.exportsOf (.ref a)) > 0)) Q E s := by
  unfold Builtin.Bytes.exportsOf
  refine wpAny_bind (wpAny_bind (wpAny_load ho ?_))
  exact wpAny_pure (wpAny_pure h)
theorem S_if_false {α : Type} {M : Model} {c : Bool} {x y : Sem α} {Q : α → Shared → Prop} (hc : c = false) (h : wpS M A y Q E s) : wpS M A (if c = true then x else y) Q E s := by
  subst hc; exact h
theorem if_falseP {α : Type} {M : Model} {c : Prop} [Decidable c] {x y : Sem α} {Q : α → Shared → Prop} (hc : ¬ c) (h : wpAny M A y Q E s) : wpAny M A (if c then x else y) Q E s := by
  rw [if_neg hc]; exact h
theorem if_trueP {α : Type} {M : Model} {c : Prop} [Decidable c] {x y : Sem α} {Q : α → Shared → Prop} (hc : c) (h : wpAny M A x Q E s) : wpAny M A (if c then x else y) Q E s := by
  rw [if_pos hc]; exact h
theorem ba_fits {k : Int} (h0 : 0 ≤ k) (h : k ≤ 1000) : Builtin.Bytes.fitsIndex k = true := by
  unfold Builtin.Bytes.fitsIndex
  simp only [Bool.and_eq_true, decide_eq_true_eq]
  omega
theorem ba_init {a : Addr} {n : Int} {t : Tok} {Q : Fin → Shared → Prop} (ho : s.heap.get? a = some (baObj #[])) (h0 : 0 < n) (h1 : n ≤ 100)
    (h : ∀ h', (∀ b, b ≠ a → h'.get? b = s.heap.get? b) → h'.get? a = some (baObj (Array.replicate n.toNat 0)) → Q (.done (.ret .none)) { s with heap := h' }) :
    wpS (model prog w) A (Builtin.«bytearray.__init__» ⟨[.ref a, .int n t], []⟩) Q E s := by
  have hT : s.TypeIs (.ref a) "bytearray" := ⟨_, ho, rfl⟩
  unfold Builtin.«bytearray.__init__»
  refine S_bind (S_of (ba_release hT ?_))
  refine S_if_false rfl ?_
  refine S_eq (ba_bind _) ?_
  refine S_eq (a := ()) rfl (S_eq (a := ()) rfl ?_)
  refine S_bind (S_bind (S_exported ?_))
  refine S_of (ba_exports ho ?_)
  refine S_if_false rfl ?_
  refine S_of ?_
  refine wpAny_bind (ba_write ho (Nat.zero_le _) fun hn => ?_)
  refine wpAny_bind (wpAny_of_eq (a := none) rfl ?_)
  refine bm_if_false rfl ?_
  refine wpAny_bind (wpAny_of_eq (a := ()) rfl ?_)
  refine wpAny_bind (wpAny_specialOf (T := "int") (typeIs_int _ _ _) F.slot_int_index.lookup ?_)
  refine bm_if_true rfl ?_
  refine wpAny_bind (wpAny_attempt (wpAny_of_eq (a := n) rfl ?_))
  refine bm_if_false (by rw [ba_fits (by omega) (by omega)]; rfl) ?_
  refine if_falseP (by omega) ?_
  refine bm_if_false (beq_eq_false_iff_ne.mpr (by omega)) ?_
  refine bm_if_false (PySem.W.KBy.tooLong_not (by omega)) ?_
  refine wpAny_bind (wpAny_rule ?_)
  refine if_trueP (by omega) ?_
  refine wpAny_bind (ba_write (f := fun _ => Array.replicate n.toNat 0) hn (by simp; omega) fun hn2 => ?_)
  refine wpAny_pure ?_
  exact h _ (fun b hb => (Heap.get?_update_ne _ _ _ _ hb).trans (Heap.get?_update_ne _ _ _ _ hb)) hn2
/-- the maker: n zeros -/
theorem S_bytearray {n : Int} {t : Tok} {Q : Value → Shared → Prop} (h0 : 0 < n) (h1 : n ≤ 100)
    (h : ∀ a h', (∀ b o, s.heap.get? b = some o → h'.get? b = some o) → s.heap.get? a = none → h'.get? a = some (baObj (Array.replicate n.toNat 0)) → Q (.ref a) { s with heap := h' }) :
    wpS (model prog w) A (call (.type "bytearray") [.int n t]) Q E s := by
  refine S_callType (Q₁ := fun obj s₁ => obj = .ref s.heap.objs.size ∧ s₁ = { s with heap := s.heap.push (baObj #[]) }) ba_called (ba_typeCall _) ba_entry_init (by decide +kernel)
    (ba_new _ ⟨rfl, rfl⟩) fun obj s₁ h₁ => ?_
  obtain ⟨rfl, rfl⟩ := h₁
  have hS : (s.heap.push (baObj #[])).get? s.heap.objs.size = some (baObj #[]) := Heap.get?_push_size _ rfl
  refine ⟨⟨_, hS, rfl⟩, ba_args_init _ _, ba_init hS h0 h1 fun h' hk hn => ⟨rfl, h _ h' (fun b o e => ?_) (Heap.get?_none_of_le (Nat.le_refl _)) hn⟩⟩
  exact (hk b (Nat.ne_of_lt (Heap.lt_size e))).trans (Heap.get?_push_of_some _ e)
theorem ba_slot_setitem : Slot "bytearray" "__setitem__" "bytearray.__setitem__" :=
  .of (owner := "bytearray") (n := "__setitem__") (by rw [typeLookup_type, builtinLookup_eq_fast]; kernel_rfl) (by decide +kernel) (by decide +kernel) (by decide +kernel)
    (by first | exact .inl (by decide +kernel) | exact .inr (by decide +kernel)) (by rw [isSubtype_type]; kernel_rfl)
theorem ba_entry_setitem : entryFor table "bytearray.__setitem__" = some Builtin.«bytearray.__setitem__» := entryFor_of_tree (by kernel_rfl)
theorem ba_args_setitem (a b c : Value) : argsOk "bytearray.__setitem__" ⟨[a, b, c], []⟩ := by unfold argsOk; kernel_rfl
theorem ba_setItem {a : Addr} {b : Array UInt8} {k v : Int} {t u : Tok} {Q : Unit → Shared → Prop} (ho : s.heap.get? a = some (baObj b)) (hb : b.size ≤ 100) (h0 : 0 ≤ k) (h1 : k < b.size) (v0 : 0 ≤ v) (v1 : v < 256)
    (h : (s.heap.update a (Obj.mapBytearray (·.setIfInBounds k.toNat v.toNat.toUInt8))).get? a = some (baObj (b.setIfInBounds k.toNat v.toNat.toUInt8)) → Q () { s with heap := s.heap.update a (Obj.mapBytearray (·.setIfInBounds k.toNat v.toNat.toUInt8)) }) :
    wpAny (model prog w) A (setItem (.ref a) (.int k t) (.int v u)) Q E s := by
  have hT : s.TypeIs (.ref a) "bytearray" := ⟨_, ho, rfl⟩
  unfold setItem
  try with_reducible refine wpAny_holding ?_
  first | refine wpAny_bind (wpAny_pure ?_) | skip
  refine wpAny_bind (wpAny_sequenceKey hT (by decide) ?_)
  refine wpAny_bind (wpAny_callSpecial?_slot (name := Str.ofString "__setitem__") hT ba_slot_setitem
    (wpAny_call_entry ba_slot_setitem hT ba_entry_setitem ?_ (ba_args_setitem _ _ _)))
  unfold Builtin.«bytearray.__setitem__»
  refine bm_if_false rfl ?_
  refine wpAny_bind ?_
  unfold Builtin.Bytes.subscript?
  refine wpAny_bind (wpAny_specialOf (T := "int") (typeIs_int _ _ _) F.slot_int_index.lookup ?_)
  refine bm_if_false rfl ?_
  refine wpAny_bind (wpAny_of_eq (a := k) rfl ?_)
  refine bm_if_false (by rw [ba_fits (by omega) (by omega)]; rfl) ?_
  refine wpAny_pure ?_
  refine wpAny_bind ?_
  unfold Builtin.Bytes.byteValue
  refine wpAny_bind (wpAny_of_eq (a := v) rfl ?_)
  refine bm_if_false (by simp only [Bool.or_eq_false_iff, decide_eq_false_iff_not]; omega) ?_
  refine wpAny_pure ?_
  refine wpAny_bind (ba_payload ho ?_)
  rw [seqIndex_of h0 h1]
  refine wpAny_bind (ba_write ho (by simp; omega) fun hn => ?_)
  exact wpAny_pure ⟨.none, rfl, wpAny_pure (h hn)⟩
theorem ba_no_bytes : typeLookup (.type "bytearray") "__bytes__" = pure none := by rw [typeLookup_type, builtinLookup_eq_fast]; kernel_rfl
theorem ba_no_index : typeLookup (.type "bytearray") "__index__" = pure none := by rw [typeLookup_type, builtinLookup_eq_fast]; kernel_rfl
theorem ba_buffer {M : Model} {a : Addr} {b : Array UInt8} {id : String} {f : Bool} {Q : Option (Array UInt8) → Shared → Prop} (ho : s.heap.get? a = some (baObj b)) (h : Q (some b) s) : wpAny M A (Builtin.Bytes.buffer? id (.ref a) f) Q E s := by
  have hT : s.TypeIs (.ref a) "bytearray" := ⟨_, ho, rfl⟩
  unfold Builtin.Bytes.buffer?
  refine wpAny_bind (wpAny_specialOf hT ba_look_buffer ?_)
  refine wpAny_bind ?_
  unfold Builtin.Bytes.slotIsOwn
  refine wpAny_bind (wpAny_specialOf hT ba_look_buffer ?_)
  have key : ∀ x : String, x = "bytearray" → ∀ (Q : Bool → Shared → Prop), Q true s → wpAny M A (isInstance (.ref a) (.type x)) Q E s := fun x hx Q hq => by
    subst hx; exact wpAny_isInstance hT ba_sub hq
  refine bm_if_false (by decide +kernel) ?_
  refine key _ (by decide +kernel) _ ?_
  refine bm_if_false rfl ?_
  refine wpAny_bind (wpAny_specialOf hT ba_look_buffer ?_)
  refine wpAny_bind (ba_release hT ?_)
  refine bm_if_false rfl ?_
  exact wpAny_bind (ba_payload ho (wpAny_pure h))
theorem ba_bytes_new {a : Addr} {b : Array UInt8} {Q : Value → Shared → Prop} (ho : s.heap.get? a = some (baObj b)) (hb : b.size ≤ 100) (hQ : ∀ t k, Q (.bytes b t) { s with toks := k }) :
    codeAny (model prog w) A (.call (.builtin "bytes.__new__") ⟨[.type "bytes", .ref a], []⟩) (wants Q E) s := by
  refine codeAny_of_tree ?_
  show wpAny _ A.in1 (do checkBuiltinCall "bytes.__new__" ⟨[.type "bytes", .ref a], []⟩; again (.builtin "bytes.__new__" ⟨[.type "bytes", .ref a], []⟩)) _ _ s
  refine wpAny_bind (wpAny_of_eq (F.bm_newCall _) (wpAny_pure ⟨plainId_quiet F.bm_plain _, codeAny_builtin F.bm_entry ?_⟩))
  rw [Around.under_plainId F.bm_plain _]
  have hT : s.TypeIs (.ref a) "bytearray" := ⟨_, ho, rfl⟩
  unfold Builtin.«bytes.__new__»
  refine wpAny_bind (wpAny_of_eq (a := true) rfl ?_)
  refine bm_if_false rfl ?_
  refine wpAny_bind (wpAny_of_eq F.bm_sub ?_)
  refine bm_if_false rfl ?_
  refine wpAny_bind (wpAny_of_eq (F.bm_bind _) ?_)
  refine wpAny_bind (wpAny_of_eq (a := ()) rfl ?_)
  refine wpAny_bind (wpAny_of_eq (a := ()) rfl ?_)
  refine bm_if_false rfl ?_
  refine wpAny_bind (wpAny_specialOf hT ba_no_bytes ?_)
  refine wpAny_bind (wpAny_bind ?_)
  show wpAny _ _ (load a >>= _) _ _ _
  refine wpAny_bind (wpAny_load ho ?_)
  refine wpAny_pure (wpAny_pure ?_)
  refine bm_if_false rfl ?_
  refine wpAny_bind (wpAny_specialOf hT ba_no_index ?_)
  refine bm_if_true rfl ?_
  first
    | show wpAny _ _ (Builtin.Bytes.buffer? "bytes.__new__" (.ref a) true >>= _) _ _ _
    | (refine wpAny_bind ?_; show wpAny _ _ (Builtin.Bytes.buffer? "bytes.__new__" (.ref a) true >>= _) _ _ _)
  refine wpAny_bind (ba_buffer ho ?_)
  refine wpAny_bind (wpAny_rule ?_)
  refine wpAny_bind (wpAny_mkBytes ?_ (by rw [sizeLine_eq]; omega))
  show wpAny _ _ (if (Value.type "bytes" == Value.type "bytes") = true then _ else _) _ _ _
  refine bm_if_true (by decide) ?_
  first
    | exact wpAny_pure (hQ _ _)
    | exact wpAny_bind (wpAny_pure (wpAny_pure (hQ _ _)))
    | exact wpAny_bind (wpAny_pure (wpAny_pure (wpAny_pure (hQ _ _))))
theorem ba_bytes {a : Addr} {b : Array UInt8} {Q : Value → Shared → Prop} (ho : s.heap.get? a = some (baObj b)) (hb : b.size ≤ 100) (hQ : ∀ t k, Q (.bytes b t) { s with toks := k }) : wpAny (model prog w) A (call (.type "bytes") [.ref a]) Q E s := by
  refine callType_codes (Q₁ := fun obj s₁ => s₁.TypeIs obj "bytes" ∧ Q obj s₁) F.bm_called (F.bm_typeCall _) F.entry_object_init
    (ba_bytes_new ho hb fun t k => ⟨PySem.W.typeIs_bytes _ _ _, hQ t k⟩) fun obj s₁ h₁ => ?_
  exact ⟨h₁.1, F.args_object_init_2 obj _, object_init_meets F.bm_called.init.lookup F.bm_called.made (by decide) prog w A.in1 _ s₁ ⟨h₁.1, rfl, h₁.2⟩⟩
theorem S_CallT {env : Env} {T : String} {id : Str} {np pos : Pos} {args : List Expr} {Q : Value → Shared → Prop} (hplain : (backTo pos (starEach args env)).any (·.1) = false)
    (h : wpAny (model prog w) A (eval (.Name id np) env) (fun fv s₁ => fv = .type T ∧ wpS (model prog w) A (spliced (backTo pos (starEach args env))) (fun vs s₂ => wpS (model prog w) A (call (.type T) vs) Q E s₂) E s₁) E s) :
    wpS (model prog w) A (eval (.Call (.Name id np) args [] pos) env) Q E s := by
  rw [arm_eval_Call_Name']
  refine S_bind (S_mono (S_of h) (fun fv s₁ h₁ => ?_) fun _ _ e => e)
  obtain ⟨rfl, h₁⟩ := h₁
  show wpS (model prog w) A (callWith pos (.type T) [] (backTo pos (starEach args env)) []) Q E s₁
  unfold callWith
  refine S_bind (S_holding (S_evalArgs hplain (S_mono h₁ (fun vs s₂ h₂ => ?_) fun _ _ e => e)))
  refine S_bind (S_standAt ?_)
  simp only [hplain, List.any_nil, Bool.or_false]
  refine S_bind (S_pure ?_)
  exact S_bind (S_mono h₂ (fun r s₂ hr => S_bind (S_mono (S_of (wpAny_holding (wpAny_point (Q := fun _ s' => s' = s₂) rfl))) (fun _ s' e => by subst e; exact S_pure hr) fun _ _ e => e)) fun _ _ x => x)
theorem wpS_call {f : Value} {vs : List Value} {Q : Value → Shared → Prop} (h : codeS (model prog w) A (.call f ⟨vs, []⟩) (fun r s' => match r with | .ok (.ret v) => Q v s' | .ok _ => False | .error e => E e s') s) : wpS (model prog w) A (call f vs) Q E s := S_call h
theorem S_arg {env : Env} {pos : Pos} {e : Expr} {r : List Expr} {Q : List Value → Shared → Prop} (h : wpS (model prog w) A (eval e env) (fun v s₁ => wpS (model prog w) A (spliced (backTo pos (starEach r env))) (fun vs s₂ => Q (v :: vs) s₂) E s₁) E s)
    (he : backTo pos (starEach (e :: r) env) = (false, eval e env) :: backTo pos (starEach r env) := by rfl) : wpS (model prog w) A (spliced (backTo pos (starEach (e :: r) env))) Q E s := by
  rw [he]; exact S_spliced_cons h
theorem S_noarg {env : Env} {pos : Pos} {Q : List Value → Shared → Prop} (h : Q [] s) : wpS (model prog w) A (spliced (backTo pos (starEach [] env))) Q E s := S_spliced_nil h
end
end Mine
end
section -- S5
open PySem PySem.W PyProof.Rows PySem.Calls PyProof.V
open Sem (wp)
namespace Mine
noncomputable def Halt (p : Prop) : Prop := p
theorem Halt.mk {p : Prop} (h : Halt p) : p := h
theorem Halt.un {p : Prop} (h : p) : Halt p := h
section
variable {prog : Program} {w : World} {A : Around} {E : Value → Shared → Prop} {s : Shared} {env : Env} {h₀ : Heap} {x : Str} {body : List Stmt} {Q : Flow → Shared → Prop}
/-- a for over any range, by an invariant that knows the turn -/
theorem iter_rangeG {r : Addr} {a₀ b₀ st : Int} {t₀ u₀ v₀ : Tok} {n : Nat} {m₀ : Str → Option Value} {news : List (Addr × Obj)} (J : Nat → (Str → Option Value) → List (Addr × Obj) → Prop)
    (hh : A.handled = none) (hr : IsRange s.heap r a₀ b₀ st t₀ u₀ v₀) (hsmall : Builtin.Range.small a₀ b₀ st = true) (hn : Builtin.Range.rangeSize a₀ b₀ st = (n : Int)) (F : Fr h₀ env.locals s.heap m₀) (N : News h₀ env.locals s.heap news) (hj : J 0 m₀ news)
    (turn : ∀ i t m₁ news₁ h tk own, i < n → news₁.map (·.1) = news.map (·.1) → OwnOff own (news.map (·.1)) → J i m₁ news₁ → Fr h₀ env.locals h (fun y => if y = x then some (.int (a₀ + (i : Nat) * st) t) else m₁ y) → News h₀ env.locals h (news₁ ++ own) →
      wpAny (model prog w) A (execs body env) (InvPostN h₀ env.locals (J (i + 1)) own (news.map (·.1)) { s with heap := h, toks := tk } Q) E { s with heap := h, toks := tk })
    (done : ∀ m₁ news₁ h tk, J n m₁ news₁ → Fr h₀ env.locals h m₁ → News h₀ env.locals h news₁ → Q .next { s with heap := h, toks := tk }) :
    wpAny (model prog w) A (pyIter (.ref r)) (fun it s₂ => LoopAtV prog w A h₀ env x body Q E it s₂) E s := by
  refine wpAny_pyIter_range hr hsmall ?_
  refine loop_invN J (Walks.range (prog := prog) (w := w) hh s.heap.objs.size a₀ st n) ?_ ?_ ?_ ?_ ?_ (F.push _) (fun p hp => ⟨Heap.get?_push_of_some _ (N p hp).1, (N p hp).2⟩) hj ?_ ?_
  · intro hm
    exact absurd F.ns.lt ((List.mem_singleton.mp hm) ▸ Nat.lt_irrefl _)
  · intro b hb
    rw [List.mem_singleton.mp hb]
    exact next_is_new F
  · intro p hp hI
    exact absurd (Heap.lt_size (N p hp).1) ((List.mem_singleton.mp hI) ▸ Nat.lt_irrefl _)
  · intro p hp hI
    exact absurd (Heap.lt_size (N p hp).1) ((List.mem_singleton.mp hI) ▸ Nat.lt_irrefl _)
  · show IsRangeIter _ _ _ _ _
    rw [hn]; simpa using Heap.get?_push_size _ rfl
  · rintro i v m₁ news₁ h tk own hi ⟨t, rfl⟩ ha ho hJ F' N'
    exact turn i t m₁ news₁ h tk own hi ha ho hJ F' N'
  · exact done
theorem iter_range0 {r : Addr} {a₀ b₀ st : Int} {t₀ u₀ v₀ : Tok} {n : Nat} {m₀ : Str → Option Value} {news : List (Addr × Obj)} (J : Nat → List (Addr × Obj) → Prop)
    (hh : A.handled = none) (hr : IsRange s.heap r a₀ b₀ st t₀ u₀ v₀) (hsmall : Builtin.Range.small a₀ b₀ st = true) (hn : Builtin.Range.rangeSize a₀ b₀ st = (n : Int)) (F : Fr h₀ env.locals s.heap m₀) (N : News h₀ env.locals s.heap news) (hj : J 0 news)
    (turn : ∀ i t news₁ h tk own, i < n → news₁.map (·.1) = news.map (·.1) → OwnOff own (news.map (·.1)) → J i news₁ → Fr h₀ env.locals h (fun y => if y = x then some (.int (a₀ + (i : Nat) * st) t) else m₀ y) → News h₀ env.locals h (news₁ ++ own) →
      wpAny (model prog w) A (execs body env) (InvPostN h₀ env.locals (fun m' nx => (∀ z, z ≠ x → m' z = m₀ z) ∧ J (i + 1) nx) own (news.map (·.1)) { s with heap := h, toks := tk } Q) E { s with heap := h, toks := tk })
    (done : ∀ u nx h tk, J n nx → Fr h₀ env.locals h (fun y => if y = x then u else m₀ y) → News h₀ env.locals h nx → Q .next { s with heap := h, toks := tk }) :
    wpAny (model prog w) A (pyIter (.ref r)) (fun it s₂ => LoopAtV prog w A h₀ env x body Q E it s₂) E s := by
  refine iter_rangeG (fun i m nx => (∀ z, z ≠ x → m z = m₀ z) ∧ J i nx) hh hr hsmall hn F N ⟨fun _ _ => rfl, hj⟩ ?_ ?_
  · rintro i t m₁ news₁ h tk own hi ha ho ⟨hm, hJ⟩ F₁ N₁
    have e : (fun z => if z = x then some (Value.int (a₀ + (i : Nat) * st) t) else m₁ z) = fun z => if z = x then some (Value.int (a₀ + (i : Nat) * st) t) else m₀ z := by
      funext z
      by_cases h1 : z = x
      · simp [h1]
      · simp [h1, hm z h1]
    exact turn i t news₁ h tk own hi ha ho hJ (e ▸ F₁) N₁
  · rintro m₁ nx h tk ⟨hm, hJ⟩ F₁ N₁
    have e : m₁ = fun z => if z = x then m₁ x else m₀ z := by
      funext z
      by_cases h1 : z = x
      · simp [h1]
      · simp [h1, hm z h1]
    exact done (m₁ x) nx h tk hJ (e ▸ F₁) N₁
/-- one turn alone; the body may store x₂ too -/
theorem iter_range1 {x₂ : Str} {r : Addr} {a₀ b₀ st : Int} {t₀ u₀ v₀ : Tok} {m₀ : Str → Option Value} {news : List (Addr × Obj)} (J : List (Addr × Obj) → Prop)
    (hh : A.handled = none) (hr : IsRange s.heap r a₀ b₀ st t₀ u₀ v₀) (hsmall : Builtin.Range.small a₀ b₀ st = true) (hn : Builtin.Range.rangeSize a₀ b₀ st = 1) (F : Fr h₀ env.locals s.heap m₀) (N : News h₀ env.locals s.heap news)
    (turn : ∀ t h tk own, OwnOff own (news.map (·.1)) → Fr h₀ env.locals h (fun y => if y = x then some (.int a₀ t) else m₀ y) → News h₀ env.locals h (news ++ own) →
      wpAny (model prog w) A (execs body env) (InvPostN h₀ env.locals (fun m' nx => (∀ z, z ≠ x → z ≠ x₂ → m' z = m₀ z) ∧ J nx) own (news.map (·.1)) { s with heap := h, toks := tk } Q) E { s with heap := h, toks := tk })
    (done : ∀ u u₂ nx h tk, J nx → Fr h₀ env.locals h (fun y => if y = x then u else if y = x₂ then u₂ else m₀ y) → News h₀ env.locals h nx → Q .next { s with heap := h, toks := tk }) :
    wpAny (model prog w) A (pyIter (.ref r)) (fun it s₂ => LoopAtV prog w A h₀ env x body Q E it s₂) E s := by
  refine iter_rangeG (n := 1) (fun i m nx => if i = 0 then m = m₀ ∧ nx = news else (∀ z, z ≠ x → z ≠ x₂ → m z = m₀ z) ∧ J nx) hh hr hsmall hn F N ⟨rfl, rfl⟩ ?_ ?_
  · rintro i t m₁ news₁ h tk own hi ha ho hJ F₁ N₁
    obtain rfl : i = 0 := by omega
    obtain ⟨rfl, rfl⟩ := hJ
    have e : a₀ + ((0 : Nat) : Int) * st = a₀ := by simp
    rw [e] at F₁
    exact turn t h tk own ho F₁ N₁
  · rintro m₁ nx h tk ⟨hm, hJ⟩ F₁ N₁
    have e : m₁ = fun z => if z = x then m₁ x else if z = x₂ then m₁ x₂ else m₀ z := by
      funext z
      by_cases h1 : z = x
      · simp [h1]
      · by_cases h2 : z = x₂
        · by_cases h3 : x₂ = x
          · simp [h2, h3]
          · simp [h2, h3]
        · simp [h1, h2, hm z h1 h2]
    exact done (m₁ x) (m₁ x₂) nx h tk hJ (e ▸ F₁) N₁
end
theorem bInts_get (b : Array UInt8) (i : Nat) : (KBw.bInts b)[i]? = (b[i]?).map fun c => (c.toNat : Int) := by
  simp [KBw.bInts]
theorem swap_done {b c : Array UInt8} {ks : List Int} (hb : KBw.bInts b = ks) (hz : c.size = ks.length) (h : ∀ q, q < ks.length → c[ks.length - 1 - q]? = b[q]?) : KBw.bInts c = ks.reverse := by
  have hl : (KBw.bInts c).length = ks.length := by rw [KBw.ints_length, hz]
  refine List.ext_getElem? fun i => ?_
  by_cases hi : i < ks.length
  · rw [bInts_get, List.getElem?_reverse hi, ← hb, bInts_get]
    have := h (ks.length - 1 - i) (by omega)
    rw [show ks.length - 1 - (ks.length - 1 - i) = i by omega] at this
    rw [this, hb]
  · rw [List.getElem?_eq_none (by omega), List.getElem?_eq_none (by simp; omega)]
theorem swap_part {b c : Array UInt8} {ks : List Int} {i : Nat} {k v : Int} (hb : KBw.bInts b = ks) (hz : c.size = ks.length) (hi : i < ks.length) (h : ∀ q, q < i → c[ks.length - 1 - q]? = b[q]?)
    (hk : k = ((ks.length - 1 - i : Nat) : Int)) (hv : v = ks.getD i 0) : ∀ q, q < i + 1 → (c.setIfInBounds k.toNat v.toNat.toUInt8)[ks.length - 1 - q]? = b[q]? := by
  intro q hq
  have hbz : b.size = ks.length := by rw [← hb, KBw.ints_length]
  subst hk hv
  rw [Int.toNat_natCast]
  by_cases e : q = i
  · subst e
    rw [Array.getElem?_setIfInBounds_self_of_lt (by omega)]
    have hg := bInts_get b q
    rw [hb] at hg
    rw [Array.getElem?_eq_getElem (by omega : q < b.size)] at hg ⊢
    rw [List.getD_eq_getElem?_getD, hg]
    simp
  · rw [Array.getElem?_setIfInBounds_ne (by omega)]
    exact h q (by omega)
theorem upd_head {h₀ h : Heap} {L d : Addr} {m : Str → Option Value} {post : List (Addr × Obj)} {o o' : Obj} {f : Obj → Obj} (F : Fr h₀ L h m) (N : News h₀ L h ((d, o) :: post)) (h2 : ∀ p ∈ post, p.1 ≠ d) (e : f o = o') (hf : o'.isFreed = false) :
    Fr h₀ L (h.update d f) m ∧ News h₀ L (h.update d f) ((d, o') :: post) := news_upd (pre := []) F N (fun _ h => nomatch h) h2 e hf
theorem rs_one {n : Nat} (h : 1 ≤ n) : Builtin.Range.rangeSize 0 (n : Int) (n : Int) = 1 := by
  unfold Builtin.Range.rangeSize
  rw [if_pos (by omega), if_pos (by omega), Int.ediv_eq_zero_of_lt (by omega) (by omega)]
  rfl
theorem rs_all {n : Nat} (h : 1 ≤ n) : Builtin.Range.rangeSize 0 (n : Int) 1 = (n : Int) := by
  unfold Builtin.Range.rangeSize
  rw [if_pos (by omega), if_pos (by omega), Int.ediv_one]
  omega
theorem fitsLong {k : Int} (h0 : -1000 ≤ k) (h1 : k ≤ 1000) : Builtin.Range.rangeFitsLong k = true := by
  unfold Builtin.Range.rangeFitsLong
  simp only [Bool.and_eq_true, decide_eq_true_eq]
  omega
theorem small_one {n : Nat} (h : 1 ≤ n) (h2 : n ≤ 100) : Builtin.Range.small 0 (n : Int) (n : Int) = true := by
  unfold Builtin.Range.small
  rw [rs_one h, fitsLong (by omega) (by omega), fitsLong (by omega) (by omega), fitsLong (by omega) (by omega)]
  simp
  rw [if_pos (by omega), fitsLong (by omega) (by omega)]
theorem small_all {n : Nat} (h : 1 ≤ n) (h2 : n ≤ 100) : Builtin.Range.small 0 (n : Int) 1 = true := by
  unfold Builtin.Range.small
  rw [rs_all h, fitsLong (by omega) (by omega), fitsLong (by omega) (by omega), fitsLong (by omega) (by omega)]
  simp
  try exact .inr (fitsLong (by omega) (by omega))
end Mine
end
section -- O0
open PySem PySem.W PyProof.Rows PySem.Calls PyProof.V
namespace Mine
noncomputable def LabS : List Str := [Str.ofString "a", Str.ofString "ab", Str.ofString "b", Str.ofString "*", Str.ofString "local"]
noncomputable def Labs (xs : List Str) : Prop := ∀ y ∈ xs, y ∈ LabS
theorem lab_ok : ∀ y ∈ LabS, PyData.strOk y = true ∧ y.length ≤ 5 := by decide +kernel
noncomputable abbrev labD (xs : List Str) : Dat := .list (xs.map .str)
noncomputable def suffixB (ys xs : List Str) : Bool := decide (ys.drop (ys.length - xs.length) = xs)
noncomputable def ownedF (Z : List (List Str)) (xs : List Str) : Option Str := if xs ∈ Z then some (Txt.join (Str.ofString ".") xs) else if Z.any (fun ys => suffixB ys xs) then some Str.empty else none
noncomputable def optIs (r : Option Str) (v : Value) : Prop := match r with | some x => ∃ t, v = .str x t | none => v = .none
theorem strs_dat {news : List (Addr × Obj)} : ∀ {vs : List Value} {xs : List Str}, StrsAre vs xs → DatAll news vs (xs.map .str)
  | _, _, .nil => .nil
  | _, _, .cons x t h => .cons (.str x t) (strs_dat h)
theorem labD_inj : ∀ {xs ys : List Str}, labD xs = labD ys → xs = ys := by
  intro xs ys h
  have h' : xs.map Dat.str = ys.map Dat.str := by simpa [labD] using h
  exact (List.map_inj_right (fun a b e => by cases e; rfl)).mp h'
theorem labD_mem {Z : List (List Str)} {xs : List Str} : labD xs ∈ Z.map labD ↔ xs ∈ Z := by
  constructor
  · intro h
    obtain ⟨ys, hy, e⟩ := List.mem_map.mp h
    exact labD_inj e ▸ hy
  · exact fun h => List.mem_map_of_mem h
theorem labD_ok {Z : List (List Str)} (hZ : ∀ ys ∈ Z, Labs ys) : ∀ d ∈ Z.map labD, kqdOk 8 d = true := by
  intro d hd
  obtain ⟨ys, hy, rfl⟩ := List.mem_map.mp hd
  unfold labD
  simp [kqdOk]
  exact fun x hx => (lab_ok x (hZ ys hy x hx)).1
theorem strD_ok {xs : List Str} (hx : Labs xs) : ∀ d ∈ xs.map Dat.str, kqdOk 8 d = true := by
  intro d hd
  obtain ⟨ys, hy, rfl⟩ := List.mem_map.mp hd
  simp [kqdOk]
  exact (lab_ok ys (hx ys hy)).1
theorem dat_strs {news : List (Addr × Obj)} : ∀ {vs : List Value} {xs : List Str}, DatAll news vs (xs.map Dat.str) → StrsAre vs xs
  | [], [], _ => .nil
  | _ :: _, _ :: _, .cons (.str x t) h => .cons x t (dat_strs h)
theorem labs_sum {xs : List Str} (h : Labs xs) : (xs.map (·.length)).sum ≤ 5 * xs.length := by
  induction xs with
  | nil => simp
  | cons y r ih =>
    rw [List.map_cons, List.sum_cons, List.length_cons]
    have := (lab_ok y (h y (.head _))).2
    have := ih fun z hz => h z (.tail _ hz)
    omega
theorem labs_join {xs : List Str} (h : Labs xs) (hl : xs.length ≤ 4) : (xs.map (·.length)).sum + xs.length * (Str.ofString ".").length ≤ 16777216 := by
  have := labs_sum h
  have e : (Str.ofString ".").length = 1 := rfl
  rw [e]; omega
theorem dat_at {news : List (Addr × Obj)} {zs : List Value} {Z : List (List Str)} (h : DatAll news zs (Z.map labD)) {i : Nat} {v : Value} (hv : zs[i]? = some v) :
    ∃ ys a us nu, Z[i]? = some ys ∧ v = .ref a ∧ (a, listOf us.toArray nu) ∈ news ∧ StrsAre us ys := by
  have hl := h.length
  rw [List.length_map] at hl
  obtain ⟨hi, rfl⟩ := List.getElem?_eq_some_iff.mp hv
  obtain ⟨v', hv', hd⟩ := h.get (k := i) (by rw [List.length_map]; omega)
  rw [List.getElem?_eq_getElem hi] at hv'
  cases hv'
  rw [List.getElem_map] at hd
  have hi2 : i < Z.length := by omega
  generalize zs[i] = w at hd
  cases hd with
  | list hm ha => exact ⟨Z[i], _, _, _, List.getElem?_eq_getElem hi2, rfl, hm, dat_strs ha⟩
theorem strs_drop {us : List Value} {ys : List Str} (h : StrsAre us ys) : ∀ k, StrsAre (us.drop k) (ys.drop k) := by
  induction h with
  | nil => intro k; simp; exact .nil
  | cons n t h ih =>
    intro k
    cases k with
    | zero => exact .cons n t h
    | succ k => exact ih k
theorem strs_take {us : List Value} {ys : List Str} (h : StrsAre us ys) : ∀ k, StrsAre (us.take k) (ys.take k) := by
  induction h with
  | nil => intro k; simp; exact .nil
  | cons n t h ih =>
    intro k
    cases k with
    | zero => exact .nil
    | succ k => exact .cons n t (ih k)
theorem strD_eq {xs ys : List Str} {inst : Decidable (ys.map Dat.str = xs.map Dat.str)} : decide (ys.map Dat.str = xs.map Dat.str) = decide (ys = xs) := by
  by_cases h : ys = xs
  · subst h; simp
  · have : ys.map Dat.str ≠ xs.map Dat.str := fun e => h ((List.map_inj_right (fun a b e => by cases e; rfl)).mp e)
    rw [decide_eq_false this, decide_eq_false h]
theorem labs_join_len {xs : List Str} (h : Labs xs) (hl : xs.length ≤ 4) : (Txt.join (Str.ofString ".") xs).length ≤ 60 := by
  unfold Txt.join
  rw [StrLaws.glued_eq_join]
  refine Nat.le_trans (StrLaws.join_length_le _ _) ?_
  have := labs_sum h
  have e : (Str.ofString ".").length = 1 := rfl
  rw [e]; omega
theorem N_sub {h₀ h : Heap} {L : Addr} {a b : List (Addr × Obj)} (N : News h₀ L h a) (hs : ∀ p ∈ b, p ∈ a) : News h₀ L h b := fun p hp => N p (hs p hp)
theorem N_head {h₀ h : Heap} {L : Addr} {p : Addr × Obj} {a b : List (Addr × Obj)} (N : News h₀ L h (p :: a)) (hs : ∀ x ∈ b, x ∈ a) : News h₀ L h (p :: b) := fun x hx => by
  rcases List.mem_cons.mp hx with rfl | hx
  · exact N _ (.head _)
  · exact N x (.tail _ (hs x hx))
theorem labs_star {xs : List Str} (h : Labs xs) : Labs (Str.ofString "*" :: xs) := fun y hy => by
  rcases List.mem_cons.mp hy with rfl | hy
  · decide
  · exact h y hy
noncomputable def climbF (Z : List (List Str)) : List Str → List Str × List Str
  | [] => ([], [])
  | x :: r => if ownedF Z (x :: r) = none then ((climbF Z r).1, (Str.ofString "." ++ Txt.join (Str.ofString ".") r) :: (climbF Z r).2) else (x :: r, [])
noncomputable def dueF (Z : List (List Str)) (xs : List Str) : Option Str × List Str := match ownedF Z xs with
  | some t => (some t, [])
  | none => (ownedF Z (Str.ofString "*" :: (climbF Z xs).1), (climbF Z xs).2)
end Mine
end
section -- G1
open PySem PySem.W PyProof.Rows PySem.Calls PyProof.V
open Sem (wp)
namespace Mine
noncomputable abbrev noted (env : Env) : Value → Sem Fin := fun e => (do noteFrame e env; theTreesLotGoes e : Sem Unit).wrap (fun _ => .raise e) .raise id id
section
variable {M : Model} {A : Around} {R : GenEnd} {Y : Protocol} {n : Nat} {s₀ : Shared} {c : Code} {fs : List PySem.Frame} {s : Shared} {env : Env}
  {K : Flow → Sem PySem.Fin} {H : Value → Sem PySem.Fin} {gd : Bool → Bool} {lv : List Value → List Value}
noncomputable abbrev ownBack (env : Env) (K : Flow → Sem PySem.Fin) (H : Value → Sem PySem.Fin) (gd : Bool → Bool) (lv : List Value → List Value) : Result → Sem PySem.Fin :=
  fun r => ((match r with | .ok f => (.pure f : Sem Flow) | .error e => .raise e).onRaise fun (x : Value) => do
        if (← field x 1) == Value.none then unsupported "frame.own-activation:exception-without-traceback"
        setFlight x env.frame).wrap K H gd lv
theorem seg_For {target iter : Expr} {body orelse : List Stmt} {pos : Pos} (hs : ∀ x, foldedSetIterable iter env x = pure x)
    (h : wpAny M (A.over c fs) (eval iter env) (fun x s₁ => wpAny M (A.over c fs) (pyIter x) (fun it s₂ =>
      ∀ p, Seg M A R Y n s₀ (.forLoop target it body orelse env) (M.den (.forLoop target it body orelse env)) (.ret (ownBack env K H gd lv) none (gd false) (lv []) c p [] :: fs) s₂) (fun _ _ => False) s₁) (fun _ _ => False) s) :
    Seg M A R Y n s₀ c ((exec (.For target iter body orelse pos) env).wrap K H gd lv) fs s := by
  rw [exec_For]
  have e : (do
      standAt pos
      let x ← foldedSetIterable iter env (← eval iter env)
      standAt iter.pos
      runOwn (.forLoop target (← holding [x] (pyIter x)) body orelse env) env : Sem Flow) =
      ((do
      standAt pos
      let x ← foldedSetIterable iter env (← eval iter env)
      standAt iter.pos
      holding [x] (pyIter x) : Sem Value) >>= fun it => runOwn (.forLoop target it body orelse env) env) := by
    simp only [bind_assoc]
  rw [e, Sem.bind_eq_wrap', Sem.wrap_wrap]
  refine seg_wrap (wpAny_mono (E := fun _ _ => False) (Q := fun it s₂ => ∀ p, Seg M A R Y n s₀ (.forLoop target it body orelse env) (M.den (.forLoop target it body orelse env)) (.ret (ownBack env K H gd lv) none (gd false) (lv []) c p [] :: fs) s₂) ?_ (fun it s₂ h₂ => ?_) fun _ _ f => f.elim)
  · exact wpAny_bind (wpAny_standAt (wpAny_bind (wpAny_mono h (fun x s₁ h₁ => wpAny_bind (wpAny_of_eq (hs x) (wpAny_bind (wpAny_standAt (wpAny_holding h₁))))) fun _ _ f => f)))
  · exact seg_call h₂
end
section
variable {prog : Program} {w : World} {A : Around} {R : GenEnd} {Y : Protocol} {n : Nat} {s₀ : Shared} {fs : List PySem.Frame} {s : Shared} {env : Env}
theorem seg_forLoop {x : Str} {px : Pos} {it : Value} {body : List Stmt}
    (h : wpAny (model prog w) (A.over (.forLoop (.Name x px) it body [] env) fs) (pyNext it) (fun r s₁ => match r with
      | none => Seg (model prog w) A R Y n s₀ (.forLoop (.Name x px) it body [] env) (.pure (.again (.block [] env))) fs s₁
      | some v => wpAny (model prog w) (A.over (.forLoop (.Name x px) it body [] env) fs) (storeName env x v) (fun _ s₂ =>
          Seg (model prog w) A R Y n s₀ (.forLoop (.Name x px) it body [] env) ((execs body env).wrap (fun f => match f with
            | .next | .cont => .pure (.again (.forLoop (.Name x px) it body [] env))
            | .brk => .pure (.done .next)
            | .ret v => .pure (.done (.ret v))) (noted env) id id) fs s₂) (fun _ _ => False) s₁) (fun _ _ => False) s) :
    Seg (model prog w) A R Y n s₀ (.forLoop (.Name x px) it body [] env) ((model prog w).den (.forLoop (.Name x px) it body [] env)) fs s := by
  show Seg _ A R Y n s₀ _ ((forTurn (.Name x px) it body [] env).onRaise (fun x => do noteFrame x env; theTreesLotGoes x)) fs s
  unfold forTurn
  rw [Sem.onRaise_eq_wrap, Sem.bind_eq_wrap', Sem.wrap_wrap]
  refine seg_wrap (wpAny_standAt ?_)
  rw [Sem.bind_eq_wrap', Sem.wrap_wrap]
  refine seg_wrap (wpAny_onRaise (wpAny_mono h (fun r s₁ h₁ => ?_) fun _ _ f => f.elim))
  cases r with
  | none => exact h₁
  | some v =>
    show Seg _ A R Y n s₀ _ (Sem.wrap _ _ _ _ (letOwnedTupleGo (.Name x px) it v >>= _)) fs s₁
    rw [Sem.bind_eq_wrap', Sem.wrap_wrap]
    refine seg_wrap (wpAny_of_eq (a := ()) rfl ?_)
    rw [Sem.bind_eq_wrap', Sem.wrap_wrap]
    refine seg_wrap (wpAny_assign_Name (wpAny_mono h₁ (fun _ s₂ h₂ => ?_) fun _ _ f => f.elim))
    rw [Sem.bind_eq_wrap', Sem.wrap_wrap]
    rw [Sem.wrap_congr (execs body env) _ _ (K' := fun f => match f with
            | .next | .cont => .pure (.again (.forLoop (.Name x px) it body [] env))
            | .brk => .pure (.done .next)
            | .ret v => .pure (.done (.ret v))) (H' := noted env)
        (fun f => by cases f <;> rfl)
        (fun e => by first | exact Sem.bind_eq_wrap _ _ | (show (do noteFrame e env; theTreesLotGoes e : Sem Unit).bind (fun _ => .raise e) = _; rw [Sem.bind_eq_wrap]))]
    exact h₂
/-- out of an emptied loop -/
theorem seg_over (h : Seg (model prog w) A R Y n s₀ (.block [] env) (leafOf (.ok .next)) fs s) {c : Code} :
    Seg (model prog w) A R Y n s₀ c (.pure (.again (.block [] env))) fs s := by
  refine seg_again rfl ?_
  show Seg _ A R Y n s₀ _ (do return Fin.done (← (execs [] env).onRaise (fun x => do noteFrame x env; theTreesLotGoes x))) fs s
  exact h
end
end Mine
end
section -- S6
open PySem PySem.W PyProof.Rows PySem.Calls PyProof.V
open Sem (wp)
namespace Mine
section
variable {prog : Program} {w : World} {A : Around} {E : Value → Shared → Prop} {s : Shared} {env : Env}
theorem S_noted {α : Type} {m : Sem α} {Q : α → Shared → Prop} (h : wpS (model prog w) A m Q (fun _ _ => False) s) :
    wpS (model prog w) A (m.onRaise fun x => do noteFrame x env; theTreesLotGoes x) Q E s := S_onRaise (S_mono h (fun _ _ x => x) fun _ _ f => f.elim)
theorem codeS_forTurn {R : Result → Shared → Prop} {x : Str} {px : Pos} {it : Value} {body : List Stmt}
    (h : wpAny (model prog w) A (pyNext it) (fun r s₁ => match r with
      | none => R (.ok .next) s₁
      | some v => wpAny (model prog w) A (storeName env x v) (fun _ s₂ => wpS (model prog w) A (execs body env)
          (fun f s₃ => f = .next ∧ codeS (model prog w) A (.forLoop (.Name x px) it body [] env) R s₃) (fun _ _ => False) s₂) (fun _ _ => False) s₁) (fun _ _ => False) s) :
    codeS (model prog w) A (.forLoop (.Name x px) it body [] env) R s := by
  refine codeS_tree rfl ?_
  show wpS _ A ((forTurn (.Name x px) it body [] env).onRaise (fun x => do noteFrame x env; theTreesLotGoes x)) _ _ s
  refine S_noted ?_
  unfold forTurn
  refine S_bind (S_standAt (S_bind (S_of (wpAny_onRaise (wpAny_mono h (fun r s₁ h₁ => ?_) fun _ _ f => f.elim)))))
  cases r with
  | none =>
    refine S_pure ⟨rfl, codeS_tree rfl ?_⟩
    show wpS _ _ (do return Fin.done (← (execs [] env).onRaise (fun x => do noteFrame x env; theTreesLotGoes x))) _ _ s₁
    exact S_bind (S_noted (S_execs_nil (S_pure h₁)))
  | some v =>
    refine S_eq (a := ()) rfl ?_
    refine S_bind (S_mono (S_of (wpAny_assign_Name h₁)) (fun _ s₂ h₂ => S_bind (S_mono h₂ (fun f s₃ h₃ => ?_) fun _ _ f => f.elim)) fun _ _ f => f.elim)
    obtain ⟨rfl, h₃⟩ := h₃
    exact S_pure ⟨rfl, h₃⟩
theorem S_For {target iter : Expr} {body orelse : List Stmt} {pos : Pos} {Q : Flow → Shared → Prop}
    (h : wpAny (model prog w) A (eval iter env) (fun x s₁ => wpAny (model prog w) A (pyIter x) (fun it s₂ =>
      codeS (model prog w) A (.forLoop target it body orelse env) (fun r s' => match r with | .ok f => Q f s' | .error _ => False) s₂) (fun _ _ => False) s₁) (fun _ _ => False) s)
    (hs : ∀ x, foldedSetIterable iter env x = pure x := by intro _; rfl) : wpS (model prog w) A (exec (.For target iter body orelse pos) env) Q E s := by
  rw [exec_For]
  refine S_bind (S_standAt (S_bind (S_mono (S_of h) (fun x s₁ h₁ => ?_) fun _ _ f => f.elim)))
  refine S_eq (hs x) (S_bind (S_standAt (S_bind (S_holding (S_mono (S_of h₁) (fun it s₂ h₂ => ?_) fun _ _ f => f.elim)))))
  unfold runOwn
  refine S_onRaise (S_run (codeS_mono h₂ fun r s' hr => ?_))
  cases r with
  | ok f => exact hr
  | error e => exact hr.elim
end
section
variable {prog : Program} {w : World} {A A₀ : Around} {s : Shared} {K : Frag} {L : Addr} {h₀ base : Heap} {m mg mb : Str → Option Value} {p : Program} {loose : List Str} {mean : ExcName → Option Value} {R : Result → Shared → Prop}
/-- a call of a def that yields: the generator is made, nothing runs -/
theorem code_gen {name qual : Str} {params : Arguments} {body : List Stmt} {scope : Scope} {dV kV doc pm cdv ct oc : Value} {an od : Option Addr} {osl : Array (Option Value)} {f : Addr} {args : Args} {binds : List (Str × Value)}
    (F : Fr h₀ L s.heap m) (X₀ : K.In h₀) (T : Top p loose mean mg mb h₀)
    (ho : K.lookup f = some ⟨oc, od, .func (fnOf name qual params body scope dV kV doc pm an cdv ct), osl⟩) (hcd : codeIn K cdv qual = true) (hroom : A.depth < recursionLimit)
    (hbind : BindsTo s (fnOf name qual params body scope dV kV doc pm an cdv ct) args binds) (hloc : ∀ y ∈ binds, scope.names.lookup y.1 = some .local)
    (h : ∀ L' ga h' tk, L' = s.heap.objs.size → (∀ b o, s.heap.get? b = some o → h'.get? b = some o) → s.heap.get? L' = none → s.heap.get? ga = none → L' ≠ ga → h'.Ns L' (fun y => binds.reverse.lookup y) → h'.IsGen ga s.gens.size →
      R (.ok (.ret (.ref ga))) { s with heap := h', toks := tk, gens := s.gens.push (.fresh (.func body (envOf qual scope L' f cdv))) })
    (hco : scope.isCoroutine = false) (hgen : scope.isGenerator = true) (hk : scope.kind = .function) (hcell : ∀ x ∈ scope.names, x.2 ≠ .cell) : codeAny (model prog w) A (.call (.ref f) args) R s := by
  have X := X₀.keeps F.keep
  refine codeAny_call_generator hroom (X _ _ ho) rfl hco hgen rfl (codeRec_of X hcd) (hbind _ _ _ _ ?_)
  refine wpAny_newFunctionEnv hcell hloc (fun h₁ hns hsb => ⟨(T.nolimit.keeps F.keep).fresh _ hsb, ?_⟩) hk
  have hk₁ : ∀ b o, s.heap.get? b = some o → h₁.get? b = some o := fun b o e => hsb.extBut b o (Nat.ne_of_lt (Heap.lt_size e)) (Heap.get?_push_of_some _ e)
  have hlt : s.heap.objs.size < h₁.objs.size := hns.lt
  refine h s.heap.objs.size h₁.objs.size _ _ rfl (fun b o e => Heap.get?_push_of_some _ (hk₁ b o e)) (Heap.get?_none_of_le (Nat.le_refl _)) (Heap.get?_none_of_le (Nat.le_of_lt hlt)) (Nat.ne_of_lt hlt) (hns.keeps fun b o e => Heap.get?_push_of_some _ e) ⟨_, _, _, Heap.get?_push_size _ rfl, rfl, rfl, rfl⟩
end
end Mine
end
section -- G2
open PySem PySem.W PyProof.Rows PySem.Calls PyProof.V
open Sem (wp)
namespace Mine
noncomputable def gName : Str := Str.ofString "interval"
/-- the yielding frame between two turns -/
noncomputable def GAt (h₀ : Heap) (L' I l : Addr) (items : Array Value) (i : Nat) (h : Heap) : Prop :=
  (∃ (m : Str → Option Value) (v : Value), Fr h₀ L' h (fun y => if y = gName then some v else m y)) ∧ h.IsListIter I l i ∧ h.IsList l items
noncomputable def GSame (L' I : Addr) (s₀ s' : Shared) : Prop := ∃ h' tk, s' = { s₀ with heap := h', toks := tk } ∧ ∀ b o, b ≠ L' → b ≠ I → s₀.heap.get? b = some o → h'.get? b = some o
theorem GSame.refl {L' I : Addr} {s : Shared} : GSame L' I s s := ⟨s.heap, s.toks, rfl, fun _ _ _ _ e => e⟩
theorem GSame.trans {L' I : Addr} {s s' : Shared} (a : GSame L' I s s') {h' : Heap} {tk : Nat} (b : ∀ b o, b ≠ L' → b ≠ I → s'.heap.get? b = some o → h'.get? b = some o) : GSame L' I s { s' with heap := h', toks := tk } := by
  obtain ⟨h1, t1, rfl, k⟩ := a
  exact ⟨h', tk, rfl, fun b' o n1 n2 e => b b' o n1 n2 (k b' o n1 n2 e)⟩
noncomputable def GY (h₀ : Heap) (L' I l : Addr) (items : Array Value) (ns : List Int) (k : Nat) : Protocol := fun rem s₀ v s' kap =>
  (∃ t, v = .int (ns.getD (k - 1 - rem) 0) t) ∧ GSame L' I s₀ s' ∧ GAt h₀ L' I l items (k - rem) s'.heap ∧ ∀ s'', GAt h₀ L' I l items (k - rem) s''.heap → kap (.send .none) s''
noncomputable def GR (L' I : Addr) : GenEnd := fun n s₀ r s₁ => r = .ok (.ret .none) ∧ n = 0 ∧ GSame L' I s₀ s₁
noncomputable def GFresh (prog : Program) (w : World) (h₀ : Heap) (L' l : Addr) (items : Array Value) (ns : List Int) (k : Nat) (gs : GenState) : Prop :=
  ∀ (A : Around) (s : Shared), A.handled = none → (∃ m : Str → Option Value, Fr h₀ L' s.heap m ∧ m (Str.ofString "grouping") = some (.ref l)) → s.heap.IsList l items → l ≠ L' →
    gs.Goes (model prog w) A (GR L' s.heap.objs.size) (GY h₀ L' s.heap.objs.size l items ns k) k (.send .none) s
structure GItems (vs : Array Value) (ns : List Int) (k : Nat) : Prop where
  at_ : ∀ i, i < k → ∃ t, vs[i]? = some (.int (ns.getD i 0) t) ∧ ns.getD i 0 ≠ 127 ∧ ns.getD i 0 ≠ 0
  stop : ∃ t, vs[k]? = some (.int 127 t)
theorem GAt.move {h₀ : Heap} {L' I l : Addr} {items : Array Value} {i : Nat} {h h' : Heap} (g : GAt h₀ L' I l items i h) (hk : ∀ b o, h₀.get? b = some o → h'.get? b = some o)
    (h1 : ∀ o, h.get? L' = some o → h'.get? L' = some o) (h2 : ∀ o, h.get? I = some o → h'.get? I = some o) (h3 : ∀ o, h.get? l = some o → h'.get? l = some o) : GAt h₀ L' I l items i h' := by
  obtain ⟨⟨m, v, F⟩, a, b⟩ := g
  obtain ⟨oL, es, ep, hL, r⟩ := F.ns
  exact ⟨⟨m, v, ⟨oL, es, ep, h1 _ hL, r⟩, hk, F.above⟩, a.at h2, b.at h3⟩
theorem assign_none {M : Model} {A : Around} {E : Value → Shared → Prop} {s : Shared} {env : Env} {x : Str} {p1 p2 p3 : Pos} {k : Nat} {m : Str → Option Value} {Q : Flow → Shared → Prop} (hl : env.kindOf x = some .local)
    (hp : (env.scope.kind == .class || (env.scope.kind == .module && env.locals != env.globals)) = false) (hn : s.heap.Ns env.locals m)
    (h : ∀ h', h'.Ns env.locals (fun y => if y = x then some .none else m y) → Heap.SameBut env.locals s.heap h' → Q .next { s with heap := h', toks := s.toks + 1 }) :
    wpAny M A (exec (.Assign [.Name x p1] (.Constant .none k p2) p3) env) Q E s := by
  intro Γ p hΓ
  simp only [exec_Assign_Name env x p1 (.Constant .none k p2) p3 rfl, Sem.wp_bind', Sem.wp_cmd_standAt, Sem.wp_bindName, Sem.wp_pure']
  exact Constant_none (A := A) (Q := fun v s₁ => wpAny M A (storeName env x v) (fun _ s₂ => Q .next s₂) E s₁) (by rw [storeName_local hl hp]; exact wpAny_nsSet hn h) Γ _ hΓ |> fun z => Sem.wp_mono M Γ _ (fun v _ s₁ h₁ => h₁ Γ _ hΓ) (fun _ _ _ h' => h') _ _ z
theorem grp_ind {M : Model} {A : Around} {R : GenEnd} {Y : Protocol} {c : Code} {t : Sem PySem.Fin} {fs : List PySem.Frame} {k : Nat} (P : Nat → Shared → Shared → Prop)
    (step : ∀ n s₀ s₁, P n s₀ s₁ → n ≤ k → (∀ m, n = m + 1 → ∀ s₀' s', P m s₀' s' → Seg M A R Y m s₀' c t fs s') → Seg M A R Y n s₀ c t fs s₁) : ∀ n s₀ s₁, n ≤ k → P n s₀ s₁ → Seg M A R Y n s₀ c t fs s₁ := by
  intro n
  induction n with
  | zero => exact fun s₀ s₁ hn hp => step 0 s₀ s₁ hp hn fun m hm => nomatch hm
  | succ m ih =>
    intro s₀ s₁ hn hp
    refine step (m + 1) s₀ s₁ hp hn fun m' hm s₀' s' hp' => ?_
    have e : m = m' := by omega
    subst e
    exact ih s₀' s' (by omega) hp'
noncomputable def GP (h₀ : Heap) (L' I l : Addr) (items : Array Value) (k : Nat) (n : Nat) (s₀ s₁ : Shared) : Prop :=
  GSame L' I s₀ s₁ ∧ (∃ m : Str → Option Value, Fr h₀ L' s₁.heap m) ∧ s₁.heap.IsListIter I l (k - n) ∧ s₁.heap.IsList l items
theorem assign_local {M : Model} {A : Around} {E : Value → Shared → Prop} {s : Shared} {env : Env} {x y : Str} {v : Value} {p1 p2 p3 : Pos} {m : Str → Option Value} {Q : Flow → Shared → Prop} (hk : env.scope.kind = .function) (hl : env.kindOf x = some .local) (hy : env.kindOf y = some .local)
    (hp : (env.scope.kind == .class || (env.scope.kind == .module && env.locals != env.globals)) = false) (hn : s.heap.Ns env.locals m) (hv : m y = some v) (hd : (y == ("__debug__" : Str)) = false) (hsw : swapsWith (.Name y p2) (some (.Name x p1)) p3.line env = pure false)
    (h : ∀ h', h'.Ns env.locals (fun z => if z = x then some v else m z) → Heap.SameBut env.locals s.heap h' → Q .next { s with heap := h', toks := s.toks + 1 }) :
    wpAny M A (exec (.Assign [.Name x p1] (.Name y p2) p3) env) Q E s := by
  intro Γ p hΓ
  simp only [exec_Assign_Name env x p1 (.Name y p2) p3 hsw, Sem.wp_bind', Sem.wp_cmd_standAt, Sem.wp_bindName, Sem.wp_pure']
  exact wpAny_Name (A := A) (Q := fun v s₁ => wpAny M A (storeName env x v) (fun _ s₂ => Q .next s₂) E s₁) (wpAny_loadName_local hk hy hn hv (by rw [storeName_local hl hp]; exact wpAny_nsSet hn h)) hd Γ _ hΓ |> fun z => Sem.wp_mono M Γ _ (fun v _ s₁ h₁ => h₁ Γ _ hΓ) (fun _ _ _ h' => h') _ _ z
end Mine
end
section -- G3
open PySem PySem.W PyProof.Rows PySem.Calls PyProof.V
open Sem (wp)
namespace Mine
section
variable {prog : Program} {w : World} {A : Around} {E : Value → Shared → Prop} {s : Shared} {h₀ : Heap} {L' I l ga : Addr} {items : Array Value} {ns : List Int} {k i : Nat} {gs : GenState} {G : Array GenState}
noncomputable def GSusp (prog : Program) (w : World) (A : Around) (h₀ : Heap) (L' I l : Addr) (items : Array Value) (ns : List Int) (k i : Nat) (gs : GenState) : Prop :=
  ∀ s'' : Shared, GAt h₀ L' I l items i s''.heap → gs.Goes (model prog w) A.in1 (GR L' I) (GY h₀ L' I l items ns k) (k - i) (.send .none) s''
theorem setGen_push {s : Shared} (e : s.gens = G.push gs) (gs' : GenState) : s.setGen G.size gs' = { s with gens := G.push gs' } := by
  unfold Shared.setGen
  rw [e]
  congr 1
  refine Array.ext' ?_
  simp [List.set_append]
theorem grp_end_of {n : Nat} {s₀ : Shared} {r : Result} {s₁ : Shared} (h : GR L' I n s₀ r s₁) : r = .ok (.ret .none) ∧ (n = 0 ∧ GSame L' I s₀ s₁) := h
/-- one more word of the yielding one, it being set to give `n` more -/
theorem grp_step {n : Nat} (hh : A.handled = none) (hl : s.heap.NoLimit) (hroom : A.depth < recursionLimit) (hg : s.heap.IsGen ga G.size) (hgs : s.gens = G.push gs) (hn : n ≤ k)
    (hgo : gs.Goes (model prog w) A.in1 (GR L' I) (GY h₀ L' I l items ns k) n (.send .none) (s.setGen G.size .running)) {Q : Option Value → Shared → Prop}
    (hmore : ∀ m h' tk gs' t, n = m + 1 → (∀ b o, b ≠ L' → b ≠ I → s.heap.get? b = some o → h'.get? b = some o) → GAt h₀ L' I l items (k - m) h' → GSusp prog w A h₀ L' I l items ns k (k - m) gs' →
      Q (some (.int (ns.getD (k - 1 - m) 0) t)) { s with heap := h', toks := tk, gens := G.push gs' })
    (hend : ∀ h' tk, n = 0 → (∀ b o, b ≠ L' → b ≠ I → s.heap.get? b = some o → h'.get? b = some o) → Q none { s with heap := h', toks := tk, gens := G.push .finished }) : wpAny (model prog w) A (pyNext (.ref ga)) Q E s := by
  have hat : s.gens[G.size]? = some gs := by rw [hgs]; simp
  have hgo' : gs.Goes (model prog w) A.in1 (fun n s₀ r s₁ => r = .ok (.ret .none) ∧ (n = 0 ∧ GSame L' I s₀ s₁)) (GY h₀ L' I l items ns k) n (.send .none) (s.setGen G.size .running) := hgo
  refine wpAny_pyNext_gen (P := fun n s₀ s₁ => n = 0 ∧ GSame L' I s₀ s₁) hh hl hroom hg hat hgo' (fun v s₁ gs' hy => ?_) (fun s₁ hp h' hk => ?_)
  · obtain ⟨⟨t, rfl⟩, ⟨h', tk, rfl, hk⟩, hat', hkap⟩ := hy
    cases n with
    | zero => exact (hkap _ hat').elim
    | succ m =>
      have hm : m + 1 - 1 = m := rfl
      rw [hm] at hkap hat' ⊢
      have e := setGen_push (s := { s.setGen G.size .running with heap := h', toks := tk }) (gs := .running) (G := G) (by show (s.setGen G.size .running).gens = _; rw [setGen_push hgs]) gs'
      rw [e]
      refine hmore m h' tk gs' t rfl hk hat' fun s'' g => ?_
      have := hkap s'' g
      rw [show k - (k - m) = m by omega]
      exact this
  · obtain ⟨rfl, h1, tk, rfl, hk1⟩ := hp
    have e := setGen_push (s := { s.setGen G.size .running with heap := h1, toks := tk }) (gs := .running) (G := G) (by show (s.setGen G.size .running).gens = _; rw [setGen_push hgs]) .finished
    rw [e]
    exact hend h' tk rfl fun b o n1 n2 e => hk b o (hk1 b o n1 n2 e)
end
end Mine
end
section -- T1
open PySem PySem.W PyProof.Rows PySem.Calls PyProof.V
namespace Mine
/-- the signs of a text, as ints -/
noncomputable def codes (y : Str) : List Int := y.cps.toList.map fun c : Nat => (c : Int)
theorem codes_length (y : Str) : (codes y).length = y.length := by simp [codes, Str.length]
theorem ord_pairs0 : ∀ {vs ys : List Value} {L : List Nat}, Paired (fun v y => ∃ (c : Nat) (t t' : Tok), v = Value.str ⟨#[c]⟩ t ∧ y = Value.int (c : Nat) t') vs ys → vs.length = L.length →
    (∀ (j : Nat) v, vs[j]? = some v → ∃ (c : Nat) (u : Tok), L[j]? = some c ∧ v = Value.str ⟨#[c]⟩ u) → IntsAre ys (L.map fun c : Nat => (c : Int))
  | [], [], [], _, _, _ => .nil
  | [], [], _ :: _, _, h, _ => by simp at h
  | v :: vs, y :: ys, [], _, h, _ => by simp at h
  | v :: vs, y :: ys, d :: L, .cons ⟨c, t, t', hv, hy⟩ hp, hl, hat => by
    obtain ⟨c', u, h1, h2⟩ := hat 0 v rfl
    rw [hv] at h2
    cases h2
    cases h1
    subst hy
    exact .cons _ _ (ord_pairs0 hp (by simpa using hl) fun j v h => hat (j + 1) v (by simpa using h))
theorem ord_pairs {y : Str} {vs : List Value} {ys : Array Value} (hlen : vs.length = y.cps.size) (hP : ∀ (j : Nat) v, vs[j]? = some v → SignAt y j v)
    (hF : Paired (fun v y => ∃ (c : Nat) (t t' : Tok), v = Value.str ⟨#[c]⟩ t ∧ y = Value.int (c : Nat) t') (vs.filter fun _ => true) ys.toList) : IntsAre ys.toList (codes y) := by
  rw [List.filter_eq_self.mpr (fun _ _ => rfl)] at hF
  refine ord_pairs0 hF (by simpa using hlen) fun j v h => ?_
  obtain ⟨c, u, h1, h2⟩ := hP j v h
  exact ⟨c, u, by simpa using h1, h2⟩
theorem dot_len {x : Str} (h : x.length ≤ 60) : ((".") ++ x : Str).length ≤ sizeLine := by
  have : ((".") ++ x : Str).length = 1 + x.length := by
    show (#[46] ++ x.cps).size = 1 + x.cps.size
    simp
  rw [this, sizeLine_eq]; omega
theorem dot_in {x : Str} (h : ∀ c ∈ x.cps.toList, c < 128) : ∀ n ∈ codes ((".") ++ x : Str), 0 ≤ n ∧ n < 256 := by
  intro n hn
  obtain ⟨c, hc, rfl⟩ := List.mem_map.mp hn
  have : c = 46 ∨ c ∈ x.cps.toList := by
    have hc' : c ∈ (#[46] ++ x.cps).toList := hc
    simpa using hc'
  rcases this with rfl | hc
  · omega
  · have := h c hc; omega
theorem len_pairs0 : ∀ {vs ys : List Value} {L : List Str}, Paired (fun v y => ∃ (z : Str) (t t' : Tok), v = Value.str z t ∧ y = Value.int ((z.length : Int) + 1) t') vs ys → StrsAre vs L → IntsAre ys (L.map fun z : Str => ((z.length : Int) + 1))
  | [], [], _, _, h => by cases h; exact .nil
  | v :: vs, y :: ys, _, .cons ⟨c, t, t', hv, hy⟩ hp, h => by
    subst hv hy
    cases h with
    | cons n t h => exact .cons _ _ (len_pairs0 hp h)
theorem same_vals {vs us : List Value} (hl : vs.length = us.length) (h : ∀ (j : Nat) v, vs[j]? = some v → us.toArray[j]? = some v) : vs = us := by
  refine List.ext_getElem? fun j => ?_
  cases e : vs[j]? with
  | none =>
    rw [List.getElem?_eq_none_iff] at e
    exact (List.getElem?_eq_none (by omega)).symm
  | some v => have := h j v e; simpa using this.symm
theorem len_pairs {vs us : List Value} {ys : Array Value} {L : List Str} (hlen : vs.length = us.length) (hP : ∀ (j : Nat) v, vs[j]? = some v → us.toArray[j]? = some v)
    (hF : Paired (fun v y => ∃ (z : Str) (t t' : Tok), v = Value.str z t ∧ y = Value.int ((z.length : Int) + 1) t') (vs.filter fun _ => true) ys.toList) (hI : StrsAre us L) : IntsAre ys.toList (L.map fun z : Str => ((z.length : Int) + 1)) := by
  rw [List.filter_eq_self.mpr (fun _ _ => rfl)] at hF
  exact len_pairs0 hF (same_vals hlen hP ▸ hI)
theorem strs_at {us : List Value} {L : List Str} (hI : StrsAre us L) : ∀ {j : Nat} {v : Value}, us.toArray[j]? = some v → ∃ z t, v = .str z t ∧ z ∈ L := by
  induction hI with
  | nil => intro j v h; simp at h
  | cons n t h ih =>
    intro j v e
    cases j with
    | zero => simp at e; exact ⟨_, _, e.symm, .head _⟩
    | succ j =>
      obtain ⟨z, t, e1, e2⟩ := ih (j := j) (v := v) (by simpa using e)
      exact ⟨z, t, e1, .tail _ e2⟩
theorem dot_codes (x : Str) : (codes ((".") ++ x : Str)).length = 1 + x.length := by
  rw [codes_length]
  show (#[46] ++ x.cps).size = 1 + x.cps.size
  simp
end Mine
end
section -- G4
open PySem PySem.W PyProof.Rows PySem.Calls PyProof.V
open Sem (wp)
namespace Mine
/-- a yielding one that the walk stands beside: its things are in the ledger -/
structure GLive (prog : Program) (w : World) (A : Around) (base : Heap) (L' LG l ga g : Nat) (items : Array Value) (ns : List Int) (k : Nat) (n : Nat) (gs : GenState) (h : Heap) (led : List (Addr × Obj)) : Prop where
  news : News base L' h led
  gen : h.IsGen ga g
  genIn : ga ∈ led.map (·.1)
  lst : h.IsList l items
  lstIn : l ∈ led.map (·.1)
  lgIn : LG ∈ led.map (·.1)
  ne1 : ga ≠ LG
  ne2 : l ≠ LG
  le : n ≤ k
  mode : (n = k ∧ GFresh prog w base LG l items ns k gs ∧ (∃ m : Str → Option Value, Fr base LG h m ∧ m (Str.ofString "grouping") = some (.ref l))) ∨
    (∃ I : Nat, GSusp prog w A base LG I l items ns k (k - n) gs ∧ GAt base LG I l items (k - n) h ∧ I ∈ led.map (·.1) ∧ I ≠ ga ∧ I ≠ l ∧ I ≠ LG)
section
variable {prog : Program} {w : World} {A : Around} {E : Value → Shared → Prop} {s : Shared} {base h h' : Heap} {L' LG l ga : Nat} {items : Array Value} {ns : List Int} {k n g : Nat} {gs : GenState} {G : Array GenState} {led led' : List (Addr × Obj)} {m : Str → Option Value}
theorem led_same {b : Nat} (N : News base L' h led) (N' : News base L' h' led) (hb : b ∈ led.map (·.1)) : ∀ o, h.get? b = some o → h'.get? b = some o := by
  intro o e
  obtain ⟨p, hp, rfl⟩ := List.mem_map.mp hb
  rw [(N p hp).1] at e
  cases e
  exact (N' p hp).1
theorem GLive.move (x : GLive prog w A base L' LG l ga g items ns k n gs h led) (N' : News base L' h' led') (hs : ∀ p ∈ led, p ∈ led') (hk : ∀ b o, base.get? b = some o → h'.get? b = some o) :
    GLive prog w A base L' LG l ga g items ns k n gs h' led := by
  have N : News base L' h' led := fun p hp => N' p (hs p hp)
  have key := fun {b : Nat} (hb : b ∈ led.map (·.1)) => led_same x.news N hb
  obtain ⟨og, nm, qn, ho, r⟩ := x.gen
  refine ⟨N, ⟨og, nm, qn, key x.genIn _ ho, r⟩, x.genIn, x.lst.at (key x.lstIn), x.lstIn, x.lgIn, x.ne1, x.ne2, x.le, ?_⟩
  rcases x.mode with ⟨a, b, m, F, hm⟩ | ⟨I, a, b, c, d⟩
  · obtain ⟨oL, es, ep, hL, r⟩ := F.ns
    exact .inl ⟨a, b, m, ⟨⟨oL, es, ep, key x.lgIn _ hL, r⟩, hk, F.above⟩, hm⟩
  · exact .inr ⟨I, a, b.move hk (key x.lgIn) (key c) (key x.lstIn), c, d⟩
theorem led_ne {b : Nat} (N : News base L' h led) (hb : b ∈ led.map (·.1)) : b ≠ L' ∧ base.get? b = none := by
  obtain ⟨p, hp, rfl⟩ := List.mem_map.mp hb
  exact (N p hp).2
theorem GLive.turn (x : GLive prog w A base L' LG l ga G.size items ns k n gs s.heap led) (F : Fr base L' s.heap m) (hh : A.handled = none) (hl : s.heap.NoLimit) (hroom : A.depth < recursionLimit) (hgs : s.gens = G.push gs) {Q : Option Value → Shared → Prop}
    (hmore : ∀ mm h' tk gs' t led', n = mm + 1 → GLive prog w A base L' LG l ga G.size items ns k mm gs' h' led' → Fr base L' h' m → Q (some (.int (ns.getD (k - 1 - mm) 0) t)) { s with heap := h', toks := tk, gens := G.push gs' })
    (hend : ∀ h' tk, n = 0 → Fr base L' h' m → Q none { s with heap := h', toks := tk, gens := G.push .finished }) : wpAny (model prog w) A (pyNext (.ref ga)) Q E s := by
  obtain ⟨I, hgo, hfr, hIL, hIg, hIl, hIG, hIb⟩ : ∃ I : Nat, gs.Goes (model prog w) A.in1 (GR LG I) (GY base LG I l items ns k) n (.send .none) (s.setGen G.size .running) ∧ (∃ mm : Str → Option Value, Fr base LG s.heap mm) ∧ I ≠ L' ∧ I ≠ ga ∧ I ≠ l ∧ I ≠ LG ∧ base.get? I = none := by
    rcases x.mode with ⟨rfl, a, b⟩ | ⟨I, a, b, c, d1, d2, d3⟩
    · obtain ⟨og, nm, qn, ho, _⟩ := x.gen
      obtain ⟨ol, hol, _⟩ := id x.lst
      have hLG := led_ne x.news x.lgIn
      obtain ⟨mm, FL, hm⟩ := b
      refine ⟨s.heap.objs.size, a A.in1 (s.setGen G.size .running) hh ⟨mm, FL, hm⟩ x.lst x.ne2, ⟨mm, FL⟩, Ne.symm (Nat.ne_of_lt F.ns.lt), Ne.symm (Nat.ne_of_lt (Heap.lt_size ho)), Ne.symm (Nat.ne_of_lt (Heap.lt_size hol)), Ne.symm (Nat.ne_of_lt FL.ns.lt),
        Heap.get?_none_of_le (Nat.le_trans F.above (Nat.le_of_lt F.ns.lt))⟩
    · have := led_ne x.news c
      have hg := a (s.setGen G.size .running) b
      rw [show k - (k - n) = n from by have := x.le; omega] at hg
      obtain ⟨⟨m0, v0, FL⟩, _⟩ := id b
      exact ⟨I, hg, ⟨_, FL⟩, this.1, d1, d2, d3, this.2⟩
  have hLG := led_ne x.news x.lgIn
  have hlne := led_ne x.news x.lstIn
  have hgne := led_ne x.news x.genIn
  have hF : ∀ h' : Heap, (∀ b o, b ≠ LG → b ≠ I → s.heap.get? b = some o → h'.get? b = some o) → Fr base L' h' m := fun h' hk => by
    obtain ⟨oL, es, ep, hL, r⟩ := F.ns
    exact ⟨⟨oL, es, ep, hk _ _ (Ne.symm hLG.1) (Ne.symm hIL) hL, r⟩, fun b o e => hk b o (fun q => by rw [q, hLG.2] at e; cases e) (fun q => by rw [q, hIb] at e; cases e) (F.keep b o e), F.above⟩
  refine grp_step (n := n) hh hl hroom x.gen hgs x.le hgo (fun mm h' tk gs' t e hk hat hsu => ?_) (fun h' tk e hk => hend h' tk e (hF h' hk))
  obtain ⟨⟨m0, v0, FL⟩, hit, hls⟩ := id hat
  obtain ⟨oL, _, _, hoL, _⟩ := FL.ns
  obtain ⟨oI, hoI, _⟩ := id hit
  obtain ⟨ol, hol, _⟩ := id x.lst
  obtain ⟨og, nm, qn, hog, r⟩ := id x.gen
  have hog' := hk ga og x.ne1 (Ne.symm hIg) hog
  have hle : mm ≤ k := by have := x.le; omega
  refine hmore mm h' tk gs' t [(ga, og), (LG, oL), (l, ol), (I, oI)] e ⟨?_, ⟨og, nm, qn, hog', r⟩, by simp, hls, by simp, by simp, x.ne1, x.ne2, hle, .inr ⟨I, hsu, hat, by simp, hIg, hIl, hIG⟩⟩ (hF h' hk)
  intro p hp
  simp only [List.mem_cons, List.not_mem_nil, or_false] at hp
  rcases hp with rfl | rfl | rfl | rfl
  · exact ⟨hog', hgne⟩
  · exact ⟨hoL, hLG⟩
  · exact ⟨hk l ol x.ne2 (Ne.symm hIl) hol, hlne⟩
  · exact ⟨hoI, hIL, hIb⟩
theorem forS_ind {M : Model} {A : Around} {c : Code} {R : Result → Shared → Prop} {k : Nat} (P : Nat → Shared → Prop)
    (step : ∀ n s, P n s → n ≤ k → (∀ m, n = m + 1 → ∀ s', P m s' → codeS M A c R s') → codeS M A c R s) : ∀ n s, n ≤ k → P n s → codeS M A c R s := by
  intro n
  induction n with
  | zero => exact fun s hn hp => step 0 s hp hn fun m hm => nomatch hm
  | succ m ih =>
    intro s hn hp
    refine step (m + 1) s hp hn fun m' hm s' hp' => ?_
    have e : m = m' := by omega
    subst e
    exact ih s' (by omega) hp'
end
end Mine
end
section -- T2
open PySem PySem.W PyProof.Rows PySem.Calls PyProof.V
namespace Mine
noncomputable def piece (z : Str) : List Int := codes (Str.ofString "." ++ z)
noncomputable def restF (xs : List Str) (i : Nat) : List Int := ((xs.drop i).flatMap piece).reverse
noncomputable def outF (xs : List Str) (i : Nat) : List Int := (xs.take i).reverse.flatMap piece
noncomputable def nSize : Str := Str.ofString "size"
noncomputable def nRest : Str := Str.ofString "rest"
noncomputable def nTurned : Str := Str.ofString "turned"
noncomputable def frT (u : Option Value) (bR bT : Value) (m₀ : Str → Option Value) : Str → Option Value := fun y => if y = nSize then u else if y = nRest then some bR else if y = nTurned then some bT else m₀ y
noncomputable def TP (prog : Program) (w : World) (A : Around) (base : Heap) (L' LG l ga : Nat) (items : Array Value) (ns : List Int) (k : Nat) (m₀ : Str → Option Value) (s₀ : Shared) (G : Array GenState) (xs : List Str) (n : Nat) (s : Shared) : Prop :=
  ∃ h tk gs led bT bR tT tR u, s = { s₀ with heap := h, toks := tk, gens := G.push gs } ∧ GLive prog w A base L' LG l ga G.size items ns k n gs h led ∧
    Fr base L' h (frT u (.bytes bR tR) (.bytes bT tT) m₀) ∧ KBw.bInts bT = outF xs (k - n) ∧ KBw.bInts bR = restF xs (k - n)
theorem strs_ints_at {vs : List Value} {ns : List Int} (h : IntsAre vs ns) : ∀ i, i < ns.length → ∃ t, vs[i]? = some (.int (ns.getD i 0) t) := by
  induction h with
  | nil => intro i hi; simp at hi
  | cons n t h ih =>
    intro i hi
    cases i with
    | zero => exact ⟨t, by simp⟩
    | succ i => obtain ⟨t', e⟩ := ih i (by simpa using hi); exact ⟨t', by simpa using e⟩
theorem grp_items {ws : List Value} {xs : List Str} (hx : ∀ z ∈ xs, z.length ≤ 5) (hl : 1 ≤ xs.length)
    (h : IntsAre ws (List.take ((xs.map fun z : Str => ((z.length : Int) + 1)).length - 1) (xs.map fun z : Str => ((z.length : Int) + 1)) ++ [127] ++ xs.map fun z : Str => ((z.length : Int) + 1))) :
    GItems ws.toArray (xs.map fun z : Str => ((z.length : Int) + 1)) (xs.length - 1) := by
  have e : ∀ i, i < xs.length - 1 → (List.take ((xs.map fun z : Str => ((z.length : Int) + 1)).length - 1) (xs.map fun z : Str => ((z.length : Int) + 1)) ++ [127] ++ xs.map fun z : Str => ((z.length : Int) + 1)).getD i 0 = (xs.map fun z : Str => ((z.length : Int) + 1)).getD i 0 := by
    intro i hi
    rw [List.append_assoc, List.getD_eq_getElem?_getD, List.getD_eq_getElem?_getD, List.getElem?_append_left (by simp; omega), List.getElem?_take_of_lt (by simp; omega)]
  constructor
  · intro i hi
    obtain ⟨t, ht⟩ := strs_ints_at h i (by simp; omega)
    rw [e i hi] at ht
    refine ⟨t, by simpa using ht, ?_⟩
    have hi2 : i < xs.length := by omega
    have hg : (xs.map fun z : Str => ((z.length : Int) + 1)).getD i 0 = (xs[i].length : Int) + 1 := by
      rw [List.getD_eq_getElem?_getD, List.getElem?_map, List.getElem?_eq_getElem hi2]; rfl
    rw [hg]
    have := hx xs[i] (List.getElem_mem hi2)
    omega
  · obtain ⟨t, ht⟩ := strs_ints_at h (xs.length - 1) (by simp)
    refine ⟨t, ?_⟩
    have : (List.take ((xs.map fun z : Str => ((z.length : Int) + 1)).length - 1) (xs.map fun z : Str => ((z.length : Int) + 1)) ++ [127] ++ xs.map fun z : Str => ((z.length : Int) + 1)).getD (xs.length - 1) 0 = 127 := by
      rw [List.append_assoc, List.getD_eq_getElem?_getD, List.getElem?_append_right (by simp)]
      simp
    rw [this] at ht
    simpa using ht
theorem restF_step {xs : List Str} {i : Nat} {z : Str} (h : xs[i]? = some z) : restF xs i = restF xs (i + 1) ++ (piece z).reverse := by
  unfold restF
  obtain ⟨hi, rfl⟩ := List.getElem?_eq_some_iff.mp h
  rw [List.drop_eq_getElem_cons hi, List.flatMap_cons, List.reverse_append]
theorem outF_step {xs : List Str} {i : Nat} {z : Str} (h : xs[i]? = some z) : outF xs (i + 1) = piece z ++ outF xs i := by
  unfold outF
  rw [List.take_add_one, h, Option.toList_some, List.reverse_append]
  simp
theorem piece_len (z : Str) : (piece z).length = z.length + 1 := by unfold piece; rw [dot_codes]; omega
theorem pieces_len {xs : List Str} (hx : ∀ z ∈ xs, z.length ≤ 5) : (xs.flatMap piece).length ≤ 6 * xs.length := by
  induction xs with
  | nil => simp
  | cons z r ih =>
    rw [List.flatMap_cons, List.length_append, piece_len, List.length_cons]
    have := hx z (.head _)
    have := ih fun y hy => hx y (.tail _ hy)
    omega
theorem restF_len {xs : List Str} (hx : ∀ z ∈ xs, z.length ≤ 5) (i : Nat) : (restF xs i).length ≤ 6 * xs.length := by
  unfold restF
  rw [List.length_reverse]
  refine Nat.le_trans (pieces_len fun z hz => hx z (List.mem_of_mem_drop hz)) ?_
  rw [List.length_drop]; omega
theorem outF_len {xs : List Str} (hx : ∀ z ∈ xs, z.length ≤ 5) (i : Nat) : (outF xs i).length ≤ 6 * xs.length := by
  unfold outF
  refine Nat.le_trans (pieces_len fun z hz => hx z (List.mem_of_mem_take (List.mem_reverse.mp hz))) ?_
  rw [List.length_reverse, List.length_take]; omega
theorem led_start {prog : Program} {w : World} {A : Around} {base h h' : Heap} {L' LG l ga g : Nat} {ws : List Value} {ns : List Int} {k : Nat} {gs : GenState} {m : Str → Option Value} {nn : Nat}
    (hLG : h.get? LG = none) (hga : h.get? ga = none) (hne : LG ≠ ga) (hk : ∀ b o, h.get? b = some o → h'.get? b = some o) (hl : h.get? l = some (listOf ws.toArray nn)) (hl2 : l ≠ L') (hl3 : base.get? l = none) (F : Fr base L' h m)
    (hfr : ∃ m : Str → Option Value, Fr base LG h' m ∧ m (Str.ofString "grouping") = some (.ref l)) (hgen : h'.IsGen ga g) (hG : GFresh prog w base LG l ws.toArray ns k gs) :
    ∃ led, GLive prog w A base L' LG l ga g ws.toArray ns k k gs h' led := by
  obtain ⟨og, nm, qn, hog, r⟩ := id hgen
  obtain ⟨mm, FL, hm⟩ := id hfr
  obtain ⟨oL, _, _, hoL, _⟩ := FL.ns
  obtain ⟨o0, _, _, ho0, _⟩ := F.ns
  have n1 : ∀ b, h.get? b = none → b ≠ L' ∧ base.get? b = none := by
    intro b e
    refine ⟨fun q => ?_, ?_⟩
    · rw [q, ho0] at e; cases e
    · cases q : base.get? b with
      | none => rfl
      | some o => have := F.keep _ _ q; rw [this] at e; cases e
  have n2 : ∀ b, h.get? b = none → l ≠ b := by
    intro b e q
    rw [← q, hl] at e; cases e
  refine ⟨[(ga, og), (LG, oL), (l, listOf ws.toArray nn)], ⟨?_, hgen, by simp, ⟨_, hk _ _ hl, rfl, nn, rfl⟩, by simp, by simp, Ne.symm hne, n2 LG hLG, Nat.le_refl _, .inl ⟨rfl, hG, hfr⟩⟩⟩
  intro p hp
  simp only [List.mem_cons, List.not_mem_nil, or_false] at hp
  rcases hp with rfl | rfl | rfl
  · exact ⟨hog, n1 ga hga⟩
  · exact ⟨hoL, n1 LG hLG⟩
  · exact ⟨hk _ _ hl, hl2, hl3⟩
theorem frT_self {m₀ : Str → Option Value} {bR bT : Value} (h1 : m₀ nRest = some bR) (h2 : m₀ nTurned = some bT) : m₀ = frT (m₀ nSize) bR bT m₀ := by
  funext y
  unfold frT
  by_cases e1 : y = nSize
  · simp [e1]
  · by_cases e2 : y = nRest
    · rw [if_neg e1, if_pos e2, e2, h1]
    · by_cases e3 : y = nTurned
      · rw [if_neg e1, if_neg e2, if_pos e3, e3, h2]
      · rw [if_neg e1, if_neg e2, if_neg e3]
theorem turned_ind {prog : Program} {w : World} {A : Around} {base : Heap} {L' LG l ga : Nat} {items : Array Value} {ns : List Int} {k : Nat} {m₀ : Str → Option Value} {s₀ : Shared} {G : Array GenState} {xs : List Str} {c : Code} {R : Result → Shared → Prop} {s : Shared}
    (step : ∀ n s, TP prog w A base L' LG l ga items ns k m₀ s₀ G xs n s → n ≤ k → (∀ m, n = m + 1 → ∀ s', TP prog w A base L' LG l ga items ns k m₀ s₀ G xs m s' → codeS (model prog w) A c R s') → codeS (model prog w) A c R s)
    (h : TP prog w A base L' LG l ga items ns k m₀ s₀ G xs k s) : codeS (model prog w) A c R s := forS_ind (TP prog w A base L' LG l ga items ns k m₀ s₀ G xs) step k s (Nat.le_refl k) h
theorem clip_neg {n k : Nat} (h : k ≤ n) (h0 : 0 < k) : clipAt n (-((k : Nat) : Int)) = n - k := by
  unfold clipAt
  split <;> omega
theorem cut_last {xs : List Str} {i : Nat} {z : Str} (h : xs[i]? = some z) :
    List.take ((restF xs i).length - clipAt (restF xs i).length (-((z.length : Int) + 1))) (List.drop (clipAt (restF xs i).length (-((z.length : Int) + 1))) (restF xs i)) = (piece z).reverse := by
  have hl : (restF xs i).length = (restF xs (i + 1)).length + (z.length + 1) := by rw [restF_step h, List.length_append, List.length_reverse, piece_len]
  rw [show -((z.length : Int) + 1) = -(((z.length + 1 : Nat)) : Int) by omega, clip_neg (by omega) (by omega), show (restF xs i).length - (z.length + 1) = (restF xs (i + 1)).length by omega, hl, restF_step h, List.drop_left]
  refine List.take_of_length_le ?_
  rw [List.length_reverse, piece_len]; omega
theorem cut_rest {xs : List Str} {i : Nat} {z : Str} (h : xs[i]? = some z) :
    List.take (clipAt (restF xs i).length (-((z.length : Int) + 1))) (restF xs i) = restF xs (i + 1) := by
  have hl : (restF xs i).length = (restF xs (i + 1)).length + (z.length + 1) := by rw [restF_step h, List.length_append, List.length_reverse, piece_len]
  rw [show -((z.length : Int) + 1) = -(((z.length + 1 : Nat)) : Int) by omega, clip_neg (by omega) (by omega), show (restF xs i).length - (z.length + 1) = (restF xs (i + 1)).length by omega, restF_step h, List.take_left]
theorem fr_turn {base h : Heap} {L' : Nat} {m₀ : Str → Option Value} {r t r' t' : Value} {sz u : Option Value} (F : Fr base L' h (fun y => if y = Str.ofString "rest" then some r else if y = Str.ofString "turned" then some t else
    if y = Str.ofString "size" then sz else if y = Str.ofString "size" then u else if y = Str.ofString "rest" then some r' else if y = Str.ofString "turned" then some t' else m₀ y)) : Fr base L' h (frT sz r t m₀) := by
  have e : (fun y => if y = Str.ofString "rest" then some r else if y = Str.ofString "turned" then some t else
    if y = Str.ofString "size" then sz else if y = Str.ofString "size" then u else if y = Str.ofString "rest" then some r' else if y = Str.ofString "turned" then some t' else m₀ y) = frT sz r t m₀ := by
    funext y
    unfold frT nSize nRest nTurned
    by_cases e1 : y = Str.ofString "size"
    · subst e1; rfl
    · by_cases e2 : y = Str.ofString "rest"
      · subst e2; rfl
      · by_cases e3 : y = Str.ofString "turned"
        · subst e3; rfl
        · simp only [if_neg e1, if_neg e2, if_neg e3]
  exact e ▸ F
theorem chr_pairs0 : ∀ {vs ys : List Value} {L : List UInt8}, Paired (fun v y => ∃ (c : Nat) (t t' : Tok), v = Value.int (c : Nat) t ∧ y = Value.str ⟨#[c]⟩ t') vs ys → vs.length = L.length →
    (∀ (j : Nat) v, vs[j]? = some v → ∃ (c : UInt8) (u : Tok), L[j]? = some c ∧ v = Value.int (c.toNat : Int) u) → StrsAre ys (L.map fun c : UInt8 => (⟨#[c.toNat]⟩ : Str))
  | [], [], [], _, _, _ => .nil
  | [], [], _ :: _, _, h, _ => by simp at h
  | v :: vs, y :: ys, [], _, h, _ => by simp at h
  | v :: vs, y :: ys, d :: L, .cons ⟨c, t, t', hv, hy⟩ hp, hl, hat => by
    obtain ⟨c', u, h1, h2⟩ := hat 0 v rfl
    rw [hv] at h2
    cases h1
    have e : c = d.toNat := by
      have := (Value.int.inj h2).1
      omega
    subst hy e
    exact .cons _ _ (chr_pairs0 hp (by simpa using hl) fun j v h => hat (j + 1) v (by simpa using h))
theorem chr_pairs {b : Array UInt8} {vs : List Value} {ys : Array Value} (hlen : vs.length = b.size) (hP : ∀ (j : Nat) v, vs[j]? = some v → ∃ (c : UInt8) (u : Tok), b[j]? = some c ∧ v = Value.int (c.toNat : Int) u)
    (hF : Paired (fun v y => ∃ (c : Nat) (t t' : Tok), v = Value.int (c : Nat) t ∧ y = Value.str ⟨#[c]⟩ t') (vs.filter fun _ => true) ys.toList) : StrsAre ys.toList (b.toList.map fun c : UInt8 => (⟨#[c.toNat]⟩ : Str)) := by
  rw [List.filter_eq_self.mpr (fun _ _ => rfl)] at hF
  refine chr_pairs0 hF (by simpa using hlen) fun j v h => ?_
  obtain ⟨c, u, h1, h2⟩ := hP j v h
  exact ⟨c, u, by simpa using h1, h2⟩
theorem last_out {xs : List Str} {i : Nat} {z : Str} (h : xs[i]? = some z) (hl : i + 1 = xs.length) : piece z ++ outF xs i = xs.reverse.flatMap piece := by
  rw [← outF_step h, hl]
  unfold outF
  rw [List.take_length]
theorem list_new {base h hp h' : Heap} {L' D nD : Nat} {m : Str → Option Value} {zs : List Value} (F : Fr base L' h m) (hk : ∀ b o, h.get? b = some o → hp.get? b = some o) (hD : hp.get? D = none) (h2 : h'.get? D = some { cls := .type "list", data := .seq zs.toArray nD }) : News base L' h' [(D, listOf zs.toArray nD)] := by
  intro p hpp
  rw [List.mem_singleton.mp hpp]
  refine ⟨h2, fun q => ?_, ?_⟩
  · obtain ⟨o, _, _, ho, _⟩ := F.ns
    have := hk _ _ ho
    rw [← q] at this
    exact absurd (hD.symm.trans this) (by simp)
  · cases e : base.get? D with
    | none => rfl
    | some o => exact absurd (hD.symm.trans (hk _ _ (F.keep _ _ e))) (by simp)
theorem join_codes {b : Array UInt8} : codes (Txt.join (Str.ofString "") (b.toList.map fun c : UInt8 => (⟨#[c.toNat]⟩ : Str))) = KBw.bInts b := by
  unfold Txt.join
  have key : ∀ (L : List UInt8) (x : Str), ((L.map fun c : UInt8 => (⟨#[c.toNat]⟩ : Str)).foldl (fun acc p => acc ++ (Str.ofString "").cps ++ p.cps) x.cps).toList = x.cps.toList ++ L.map (·.toNat) := by
    intro L
    induction L with
    | nil => intro x; simp
    | cons c r ih =>
      intro x
      rw [List.map_cons, List.foldl_cons]
      have := ih ⟨x.cps ++ (Str.ofString "").cps ++ #[c.toNat]⟩
      rw [this]
      have e : (Str.ofString "").cps = #[] := rfl
      rw [e]
      simp
  unfold codes KBw.bInts
  cases h : b.toList with
  | nil => rfl
  | cons c r =>
    rw [List.map_cons]
    have e := key r ⟨#[c.toNat]⟩
    have e2 : List.map (fun c : Nat => (c : Int)) ((List.foldl (fun acc p => acc ++ (Str.ofString "").cps ++ p.cps) (⟨#[c.toNat]⟩ : Str).cps (r.map fun c : UInt8 => (⟨#[c.toNat]⟩ : Str))).toList) = List.map (fun c : UInt8 => (c.toNat : Int)) (c :: r) := by
      rw [e]; simp
    exact e2
end Mine
end
section -- P1
open PySem PySem.W PyProof.Rows PySem.Calls PyProof.V
namespace Mine
noncomputable def labL4 : List Str := [⟨#[97]⟩, ⟨#[97, 98]⟩, ⟨#[98]⟩, ⟨#[42]⟩]
noncomputable def labLoc : Str := ⟨#[108, 111, 99, 97, 108]⟩
theorem labS_eq : LabS = labL4 ++ [labLoc] := by decide +kernel
noncomputable def NAMES : List (List Str) := (labL4.map fun a => [a, labLoc]) ++ (labL4.flatMap fun a => labL4.map fun b => [a, b, labLoc]) ++ (labL4.flatMap fun a => labL4.flatMap fun b => labL4.map fun c => [a, b, c, labLoc])
noncomputable def ZNAMES : List (List Str) := [labLoc] :: NAMES
noncomputable def dot : Str := ⟨#[46]⟩
theorem dot_eq : Str.ofString "." = dot := by decide +kernel
noncomputable def joinF (xs : List Str) : Str := Txt.join (Str.ofString ".") xs
noncomputable def turnC (xs : List Str) : List Nat := xs.reverse.flatMap fun z => 46 :: z.cps.toList
noncomputable def turnF (xs : List Str) : Str := ⟨(turnC xs).toArray⟩
/-- the place of a label among its sisters -/
noncomputable def labN (z : Str) : Nat := match z.cps.toList with | [97] => 1 | [97, 98] => 2 | [98] => 3 | _ => 0
noncomputable def sizN : Nat → Nat | 0 => 85 | 1 => 21 | 2 => 5 | _ => 1
noncomputable def idxN (xs : List Str) : Nat := match xs.reverse.map labN with
  | [_] => 0
  | [_, a] => 1 + 21 * a
  | [_, a, b] => 1 + 21 * a + (1 + 5 * b)
  | [_, a, b, c] => 1 + 21 * a + (1 + 5 * b) + (1 + c)
  | _ => 0
noncomputable def endN (xs : List Str) : Nat := idxN xs + sizN (xs.length - 1)
noncomputable def SORTED : List (List Str) :=
  let l4 : List Str := [⟨#[42]⟩, ⟨#[97]⟩, ⟨#[97, 98]⟩, ⟨#[98]⟩]
  [labLoc] :: l4.flatMap fun a => [a, labLoc] :: l4.flatMap fun b => [b, a, labLoc] :: l4.map fun c => [c, b, a, labLoc]
noncomputable def ltB : List Nat → List Nat → Bool
  | _, [] => false
  | [], _ :: _ => true
  | a :: as, b :: bs => Nat.blt a b || (Nat.beq a b && ltB as bs)
noncomputable def adjB : List (List Nat) → Bool
  | [] => true
  | [_] => true
  | a :: b :: r => ltB a b && adjB (b :: r)
theorem names_split : ∀ xs ∈ NAMES, Txt.split (joinF xs) (Str.ofString ".") = xs := by decide +kernel
theorem sorted_adj : adjB (SORTED.map turnC) = true := by decide +kernel
theorem sorted_at : ∀ xs ∈ ZNAMES, SORTED[idxN xs]? = some xs := by decide +kernel
theorem suf_idx : (ZNAMES.all fun D => ZNAMES.all fun z => suffixB z D == (decide (idxN D ≤ idxN z) && decide (idxN z < endN D))) = true := by decide +kernel
theorem names_codes : ∀ xs ∈ NAMES, codes (Str.ofString "." ++ joinF xs) = xs.flatMap piece := by decide +kernel
theorem znames_small : ∀ xs ∈ ZNAMES, (joinF xs).length ≤ 20 ∧ (∀ c ∈ (joinF xs).cps.toList, c < 123 ∧ (c < 48 ∨ 57 < c) ∧ (c < 65 ∨ 90 < c)) := by decide +kernel
theorem znames_shape : ∀ xs ∈ ZNAMES, Labs xs ∧ 1 ≤ xs.length ∧ xs.length ≤ 4 := by
  unfold Labs
  decide +kernel
theorem names_shape : ∀ xs ∈ NAMES, 2 ≤ xs.length := by decide +kernel
end Mine
end
section -- F1
open PySem PySem.W PyProof.Rows PySem.Calls
namespace Mine
theorem plainAttrs_pat : PlainAttrs "re.Pattern" :=
  ⟨⟨"object.__getattribute__", by rw [typeLookup_type, builtinLookup_eq_fast]; kernel_rfl, by decide +kernel⟩, by rw [typeLookup_type, builtinLookup_eq_fast]; kernel_rfl⟩
theorem slot_search : Slot "re.Pattern" "search" "re.Pattern.search" :=
  .of (owner := "re.Pattern") (n := "search") (by rw [typeLookup_type, builtinLookup_eq_fast]; kernel_rfl) (by decide +kernel) (by decide +kernel) (by decide +kernel)
    (by first | exact .inl (by decide +kernel) | exact .inr (by decide +kernel)) (by rw [isSubtype_type]; kernel_rfl)
theorem type_search : typeOf (.builtin "re.Pattern.search") = pure (.type "method_descriptor") := by show builtinType _ = _; rw [builtinType_eq_fast]; kernel_rfl
theorem entry_search : entryFor table "re.Pattern.search" = some Builtin.«re.Pattern.search» := entryFor_of_tree (by kernel_rfl)
theorem args_search (a b : Value) : argsOk "re.Pattern.search" ⟨[a, b], []⟩ := by
  unfold argsOk; kernel_rfl
end Mine
end
section -- Sre1
open PySem PySem.W PyProof.Rows PySem.Calls PySem.Sre
namespace Mine
noncomputable def patCode : Array Nat := #[14, 8, 1, 2, 4294967295, 1, 1, 46, 0, 16, 46, 24, 9, 1, 4294967295, 13, 4, 8, 0, 0, 1, 6, 5, 1]
noncomputable def reS (text : Array Nat) (lim start s : Nat) (b : Bool) (sn : Sre.Seen) : M :=
  { code := patCode, text, lim, start, lastStart := lim, pc := 9, pos := s, handed := s, outermost := b, marks := #[],
    frames := [{ wait := .nextStart, pc := 9, pos := s, outermost := b }], weight := 1, seen := sn }
noncomputable def NoDig (t : Array Nat) : Prop := ∀ i, isDigit (t.getD i 0) = false
theorem re_lit_end {text : Array Nat} {lim start s : Nat} {b : Bool} {sn : Sre.Seen} (h : lim ≤ s) : (reS text lim start s b sn).step = { reS text lim start s b sn with seen := sn.add 16, answer := some false } := by
  show (if s ≥ lim then _ else _) = _
  rw [if_pos h]; rfl
theorem re_lit_no {text : Array Nat} {lim start s : Nat} {b : Bool} {sn : Sre.Seen} (h : s < lim) (hc : (text.getD s 0 == 46) = false) : (reS text lim start s b sn).step = { reS text lim start s b sn with seen := sn.add 16, answer := some false } := by
  show (if s ≥ lim then _ else match (Except.ok ((text.getD s 0 == 46), sn.add 16) : Except String (Bool × Sre.Seen)) with
    | .error why => _
    | .ok (false, seen) => _
    | .ok (true, seen) => _) = _
  rw [if_neg (Nat.not_le.mpr h), hc]; rfl
noncomputable def reD (text : Array Nat) (lim start s : Nat) (b : Bool) (sn : Sre.Seen) : M :=
  { reS text lim start s b sn with seen := sn.add 16, pc := 11, pos := s + 1 }
theorem re_lit_yes {text : Array Nat} {lim start s : Nat} {b : Bool} {sn : Sre.Seen} (h : s < lim) (hc : (text.getD s 0 == 46) = true) : (reS text lim start s b sn).step = reD text lim start s b sn := by
  show (if s ≥ lim then _ else match (Except.ok ((text.getD s 0 == 46), sn.add 16) : Except String (Bool × Sre.Seen)) with
    | .error why => _
    | .ok (false, seen) => _
    | .ok (true, seen) => _) = _
  rw [if_neg (Nat.not_le.mpr h), hc]; rfl
theorem re_digit (c : Nat) (hc : isDigit c = false) (seen : Sre.Seen) : ∃ seen', accepts patCode 15 c seen = .ok (false, seen') := by
  have : accepts patCode 15 c seen = (do if ← category 0 c then pure (true, (seen.add 8).add (55 + 0)) else .ok (false, ((seen.add 8).add (55 + 0)).add 0) : Except String (Bool × Sre.Seen)) := by rfl
  rw [this]
  have e : category 0 c = .ok false := by
    show (Except.ok (isDigit c != false) : Except String Bool) = _
    rw [hc]; rfl
  rw [e]
  exact ⟨_, rfl⟩
theorem re_dig {text : Array Nat} (nd : NoDig text) {lim start s : Nat} {b : Bool} {sn : Sre.Seen} : ∃ sn', (reD text lim start s b sn).step = { reD text lim start s b sn with seen := sn', answer := some false } := by
  by_cases hr : ((1 : Nat) : Int) > (lim : Int) - ((s + 1 : Nat) : Int)
  · refine ⟨(sn.add 16).add 24, ?_⟩
    show (if ((1 : Nat) : Int) > (lim : Int) - ((s + 1 : Nat) : Int) then _ else _) = _
    rw [if_pos hr]; rfl
  · obtain ⟨k, hk⟩ : ∃ k, min 4294967295 ((lim : Int) - ((s + 1 : Nat) : Int)).toNat = k + 1 := ⟨min 4294967295 ((lim : Int) - ((s + 1 : Nat) : Int)).toNat - 1, by omega⟩
    obtain ⟨sn', e⟩ := re_digit (text.getD (s + 1) 0) (nd (s + 1)) (((sn.add 16).add 24).add 13)
    refine ⟨sn', ?_⟩
    show (if ((1 : Nat) : Int) > (lim : Int) - ((s + 1 : Nat) : Int) then _ else match Sre.run patCode text 15 (min 4294967295 ((lim : Int) - ((s + 1 : Nat) : Int)).toNat) (s + 1) 0 (((sn.add 16).add 24).add 13) with
      | .error why => _
      | .ok (n, seen) => _) = _
    rw [if_neg hr, hk]
    have e2 : Sre.run patCode text 15 (k + 1) (s + 1) 0 (((sn.add 16).add 24).add 13) = .ok (0, sn') := by
      show (do let (yes, seen) ← accepts patCode 15 (text.getD (s + 1) 0) (((sn.add 16).add 24).add 13); if yes then Sre.run patCode text 15 k (s + 1 + 1) (0 + 1) seen else pure (0, seen)) = _
      rw [e]; rfl
    rw [e2]; rfl
end Mine
end
section -- Sre2
open PySem PySem.W PyProof.Rows PySem.Calls PySem.Sre PySem.Builtin.Re
namespace Mine
theorem re_next1 {text : Array Nat} {lim start s : Nat} {b : Bool} {sn : Sre.Seen} (h : s < lim) : M.step { reS text lim start s b sn with answer := some false } = reS text lim (s + 1) (s + 1) false sn := by
  show (if s < lim then _ else _) = _
  rw [if_pos h]; rfl
theorem re_next2 {text : Array Nat} {lim start s : Nat} {b : Bool} {sn sn' : Sre.Seen} (h : s < lim) : M.step { reD text lim start s b sn with seen := sn', answer := some false } = reS text lim (s + 1) (s + 1) false sn' := by
  show (if s < lim then _ else _) = _
  rw [if_pos h]; rfl
theorem re_stop {text : Array Nat} {lim start s : Nat} {b : Bool} {sn : Sre.Seen} (h : ¬ s < lim) : (M.step (M.step { reS text lim start s b sn with answer := some false })).outcome = some .failed := by
  have : M.step { reS text lim start s b sn with answer := some false } = { reS text lim start s b sn with answer := some false, frames := [], weight := 0 } := by
    show (if s < lim then _ else _) = _
    rw [if_neg h]; rfl
  rw [this]; rfl
theorem runFor_succ {n : Nat} {m : M} (h : m.outcome = none) : m.runFor (n + 1) = m.step.runFor n := by
  show (if m.outcome.isSome then m else _) = _
  rw [h]; rfl
theorem runFor_done {n : Nat} {m : M} (h : m.outcome.isSome = true) : m.runFor n = m := by
  cases n with
  | zero => rfl
  | succ n => show (if m.outcome.isSome then m else _) = _; rw [h]; rfl
theorem runFor_add : ∀ (a b : Nat) (m : M), m.runFor (a + b) = (m.runFor a).runFor b
  | 0, b, m => by rw [Nat.zero_add]; rfl
  | a + 1, b, m => by
    cases h : m.outcome with
    | none => rw [show a + 1 + b = (a + b) + 1 from by omega, runFor_succ h, runFor_succ h, runFor_add a b]
    | some o => rw [runFor_done (by rw [h]; rfl), runFor_done (m := m) (by rw [h]; rfl), runFor_done (by rw [h]; rfl)]
theorem re_fails {text : Array Nat} (nd : NoDig text) {lim : Nat} : ∀ (k s start : Nat) (b : Bool) (sn : Sre.Seen), s + k = lim → ∃ N, N ≤ 3 * (k + 1) ∧ ((reS text lim start s b sn).runFor N).outcome = some .failed
  | 0, s, start, b, sn, hs => by
    refine ⟨3, by omega, ?_⟩
    rw [runFor_succ rfl, re_lit_end (show lim ≤ s by omega)]
    show (M.runFor 2 { reS text lim start s b (sn.add 16) with answer := some false }).outcome = _
    have q := re_stop (text := text) (lim := lim) (start := start) (s := s) (b := b) (sn := sn.add 16) (by omega)
    rw [runFor_succ rfl]
    have e : (M.step { reS text lim start s b (sn.add 16) with answer := some false }).outcome = none := by
      have : M.step { reS text lim start s b (sn.add 16) with answer := some false } = { reS text lim start s b (sn.add 16) with answer := some false, frames := [], weight := 0 } := by
        show (if s < lim then _ else _) = _
        rw [if_neg (by omega)]; rfl
      rw [this]; rfl
    rw [runFor_succ e]
    exact q
  | k + 1, s, start, b, sn, hs => by
    cases hc : (text.getD s 0 == 46) with
    | false =>
      obtain ⟨N, hN, e⟩ := re_fails nd (lim := lim) k (s + 1) (s + 1) false (sn.add 16) (by omega)
      refine ⟨N + 2, by omega, ?_⟩
      rw [runFor_succ rfl, re_lit_no (show s < lim by omega) hc]
      show (M.runFor (N + 1) { reS text lim start s b (sn.add 16) with answer := some false }).outcome = _
      rw [runFor_succ rfl, re_next1 (show s < lim by omega)]
      exact e
    | true =>
      obtain ⟨sn', e'⟩ := re_dig nd (lim := lim) (start := start) (s := s) (b := b) (sn := sn)
      obtain ⟨N, hN, e⟩ := re_fails nd (lim := lim) k (s + 1) (s + 1) false sn' (by omega)
      refine ⟨N + 3, by omega, ?_⟩
      rw [runFor_succ rfl, re_lit_yes (show s < lim by omega) hc, runFor_succ rfl, e', runFor_succ rfl, re_next2 (show s < lim by omega)]
      exact e
theorem re_search {text : Array Nat} (nd : NoDig text) (lim : Nat) : ∃ N, N ≤ 3 * (lim + 1) ∧ ((forSearch patCode text 0 0 lim false).runFor N).outcome = some .failed := by
  by_cases h : lim < 2
  · refine ⟨1, by omega, ?_⟩
    have : (forSearch patCode text 0 0 lim false).outcome = none ∧ (M.step (forSearch patCode text 0 0 lim false)).outcome = some .failed := by
      have h0 : (decide (0 > lim) || decide (lim - 0 < 2)) = true := by simp; omega
      have : forSearch patCode text 0 0 lim false = if (decide (0 > lim) || decide (lim - 0 < 2)) = true then ({ code := patCode, text, lim, start := 0, pc := 9, pos := 0, handed := 0, marks := #[], seen := ({} : Sre.Seen).add 14 } : M).say false else (forSearch patCode text 0 0 lim false) := by
        rw [if_pos h0]
        show (if (decide (0 > lim) || decide (lim - 0 < 2)) = true then _ else _) = _
        rw [if_pos h0]; rfl
      rw [this, if_pos h0]
      exact ⟨rfl, rfl⟩
    rw [runFor_succ this.1]; exact this.2
  · obtain ⟨N, hN, e⟩ := re_fails nd (lim := lim) lim 0 0 true (({} : Sre.Seen).add 14) (by omega)
    refine ⟨N, hN, ?_⟩
    have h0 : ¬ (decide (0 > lim) || decide (lim - 0 < 2)) = true := by simp; omega
    have : forSearch patCode text 0 0 lim false = reS text lim 0 0 true (({} : Sre.Seen).add 14) := by
      show (if (decide (0 > lim) || decide (lim - 0 < 2)) = true then _ else _) = _
      rw [if_neg h0]; rfl
    rw [this]; exact e
section
variable {M' : Model} {A : Around} {E : Value → Shared → Prop} {s : Shared}
theorem drive_ok {Q : Sre.M → Shared → Prop} (hQ : ∀ m' : Sre.M, m'.outcome = some .failed → Q m' s) : ∀ (T N : Nat) (m : Sre.M), (m.runFor N).outcome = some .failed → N ≤ 4 * T → 0 < T → wpAny M' A (reDrive T m) Q E s
  | 0, _, _, _, _, h => absurd h (by omega)
  | T + 1, N, m, h, hN, _ => by
    show wpAny M' A (if (m.runFor 4).outcome.isSome = true then pure (m.runFor 4) else _) Q E s
    cases ho : (m.runFor 4).outcome with
    | some o =>
      rw [if_pos (show (some o).isSome = true from rfl)]
      refine wpAny_pure (hQ _ ?_)
      by_cases h4 : N ≤ 4
      · obtain ⟨d, hd⟩ : ∃ d, 4 = N + d := ⟨4 - N, by omega⟩
        rw [hd, runFor_add, runFor_done (by rw [h]; rfl), h]
      · obtain ⟨d, rfl⟩ : ∃ d, N = 4 + d := ⟨N - 4, by omega⟩
        rw [runFor_add, runFor_done (by rw [ho]; rfl)] at h
        exact h
    | none =>
      rw [if_neg (by simp)]
      refine wpAny_bind (wpAny_rule ?_)
      have h4 : 4 < N := by
        apply Nat.lt_of_not_le
        intro h4
        obtain ⟨d, hd⟩ : ∃ d, 4 = N + d := ⟨4 - N, by omega⟩
        rw [hd, runFor_add, runFor_done (by rw [h]; rfl), h] at ho
        cases ho
      obtain ⟨d, rfl⟩ : ∃ d, N = 4 + d := ⟨N - 4, by omega⟩
      refine drive_ok hQ T d (m.runFor 4) (by rw [← runFor_add]; exact h) (by omega) (by omega)
theorem toEnd_ok {Q : Option Sre.M → Shared → Prop} {m : Sre.M} {N : Nat} (h : (m.runFor N).outcome = some .failed) (hN : N ≤ 4 * 2 ^ 64) (hQ : Q none s) : wpAny M' A (reRunToEnd m) Q E s := by
  unfold reRunToEnd
  refine wpAny_bind (drive_ok (fun m' hm' => ?_) _ N m h hN (by omega))
  refine wpAny_bind (wpAny_forIn_list _ (fun _ _ s' => s' = s) _ ?_ ?_ _ _ rfl)
  · rintro x rest b s' rfl
    by_cases hx : m'.seen.has x = true
    · rw [if_pos hx]; exact wpAny_bind (wpAny_rule (wpAny_pure rfl))
    · rw [if_neg hx]; exact wpAny_pure rfl
  · rintro b s' rfl
    rw [hm']
    exact wpAny_pure hQ
end
end Mine
end
section -- Sre3
open PySem PySem.W PyProof.Rows PySem.Calls PySem.Sre PySem.Builtin.Re
namespace Mine
noncomputable def codeVals : Array Value := #[.int 14 0, .int 8 0, .int 1 0, .int 2 0, .int 4294967295 0, .int 1 0, .int 1 0, .int 46 0, .int 0 0, .int 16 0, .int 46 0, .int 24 0, .int 9 0, .int 1 0, .int 4294967295 0, .int 13 0, .int 4 0, .int 8 0, .int 0 0, .int 0 0, .int 1 0, .int 6 0, .int 5 0, .int 1 0]
theorem named_eq (v : Value) : reNamed "re.Pattern.search" "search" ["string", "pos", "endpos"] 1 [v] [] = pure [some v, none, none] := by
  rfl
section
variable {prog : Program} {w : World} {A : Around} {E : Value → Shared → Prop} {s : Shared}
theorem search_none {a b : Addr} {o ob : Obj} {p0 p1 p3 p4 : Value} {t2 t6 : Tok} {nb : Nat} {x : Str} {t : Tok} {Q : Value → Shared → Prop}
    (ho : s.heap.get? a = some o) (hc : o.cls = .type "re.Pattern") (hd : o.data = .fields #[p0, p1, .int 0 t2, p3, p4, .ref b, .int 0 t6])
    (hb : s.heap.get? b = some ob) (hbd : ob.data = .seq codeVals nb) (nd : NoDig x.cps) (h : Q .none s) :
    wpAny (model prog w) A (call (.builtin "re.Pattern.search") [.ref a, .str x t]) Q E s := by
  refine wpAny_call_entry slot_search ⟨o, ho, hc⟩ entry_search ?_ (args_search _ _)
  show wpAny _ _ (do
    let t ← reTarget "re.Pattern.search" "search" ⟨[.ref a, .str x t], []⟩
    reAnswer t (Sre.forSearch t.code t.text t.groups t.pos t.lim false)) _ _ _
  refine wpAny_bind ?_
  show wpAny _ _ (do
    let [some string, pos?, lim?] ← reNamed "re.Pattern.search" "search" ["string", "pos", "endpos"] 1 [.str x t] [] | unsupported "internal:re:named"
    _) _ _ _
  rw [named_eq]
  refine wpAny_bind (wpAny_pure ?_)
  dsimp only
  refine wpAny_bind (wpAny_pure ?_)
  refine wpAny_bind (wpAny_pure ?_)
  refine wpAny_bind (wpAny_fieldsOf ho hd ?_)
  refine wpAny_bind (wpAny_pure ?_)
  dsimp only
  show wpAny _ _ (do
    reNoCollectionInside (.str x t) 0
    let c ← reRawItems (.ref b)
    pure _) _ _ _
  refine wpAny_bind (wpAny_pure ?_)
  refine wpAny_bind (wpAny_bind (wpAny_seqItems hb hbd (wpAny_pure ?_)))
  refine wpAny_pure ?_
  unfold reAnswer
  dsimp only
  rw [show Array.map (fun x => x.toNat) (Array.map reRawOf ((some codeVals).getD #[])) = patCode from by decide +kernel,
    show min (Int.toNat 0) x.cps.size = 0 from Nat.zero_min _, show reRawNat (#[p0, p1, Value.int 0 t2, p3, p4, Value.ref b, Value.int 0 t6].getD 2 Value.none) = 0 from rfl,
    show (2 ^ 63 - 1 : Int).toNat = 2 ^ 63 - 1 from by decide +kernel]
  obtain ⟨N, hN, e⟩ := re_search nd (min (2 ^ 63 - 1) x.cps.size)
  exact wpAny_bind (toEnd_ok e (by omega) (wpAny_pure ⟨_, rfl, h⟩))
end
end Mine
end
section -- C1
open PySem PySem.W PyProof.Rows PySem.Calls
namespace Mine

theorem fill_C1 : (fun (_ : OpenLaw) (_ : Params → Frag) => True) PySem.Challenge.rw_zo0019_01 hd.heap_39 := by
  w_top off
  k_with_none
  k_fill
  trivial

section
variable {prog : Program} {w : World} {A : Around} {E : Value → Shared → Prop} {s : Shared} {h₀ : Heap} {L : Addr} {m : Str → Option Value}
theorem pat_method {pl : Sem Bool} {Q : Value × List Value → Shared → Prop} (F : Fr h₀ L s.heap m) (X : (hd.heap_39 w.params).In h₀) (h : Q (.builtin "re.Pattern.search", [.ref 36]) s) :
    wpAny (model prog w) A (getMethod (.ref 36) "search" pl) Q E s :=
  have h36 : s.heap.get? 36 = some _ := (X.keeps F.keep) 36 _ (by with_unfolding_all rfl)
  getMethod_builtin ⟨_, h36, rfl⟩ plainAttrs_pat slot_search type_search (fun a e => by cases e; exact ⟨_, h36, rfl⟩) h
theorem search_K {x : Str} {t : Tok} {Q : Value → Shared → Prop} (F : Fr h₀ L s.heap m) (X : (hd.heap_39 w.params).In h₀) (nd : NoDig x.cps) (h : Q .none s) :
    wpAny (model prog w) A (call (.builtin "re.Pattern.search") [.ref 36, .str x t]) Q E s :=
  have h36 : s.heap.get? 36 = some _ := (X.keeps F.keep) 36 _ (by with_unfolding_all rfl)
  have h35 : s.heap.get? 35 = some _ := (X.keeps F.keep) 35 _ (by with_unfolding_all rfl)
  search_none h36 rfl rfl h35 rfl nd h
end
local macro_rules | `(tactic| walk_at "getMethod ref") => `(tactic| k_extra "m:getMethod ref")
theorem row_C1_1 : True := by
  k_with "m:getMethod ref" => (k_here; (with_reducible refine pat_method (by assumption) (by assumption) ?_))
  trivial
local macro_rules | `(tactic| walk_at "call builtin:re.Pattern.search") => `(tactic| k_extra "m:call builtin:re.Pattern.search")
theorem row_C1_2 : True := by
  k_with "m:call builtin:re.Pattern.search" => (k_here; (with_reducible refine search_K (by assumption) (by assumption) (by assumption) ?_))
  trivial
section
variable {prog : Program} {w : World} {mean : ExcName → Option Value} {mg mb : Str → Option Value} {news : List (Addr × Obj)} {dp un : Nat} {gd : Option (List Code)} {cn : Str} {cs : Scope} {a : Addr} {ccd : Value} {cl : List (Str × Addr)} {outer : List Env} {A₀ : Around} {base h₀ : Heap} {L : Addr} {m : Str → Option Value} {s : Shared} {Q E : Value → Shared → Prop}
theorem c_lib {x : Str} {tx : Tok} (B : Below A₀ base outer h₀) (F : Fr h₀ L s.heap m) (X : (hd.heap_39 w.params).In h₀) (N : News h₀ L s.heap news)
    (T : Top hd.view_39 (looseW hd.view_39 [Str.ofString "IPV4_RE", Str.ofString "insort_left", Str.ofString "bisect_left"]) mean mg mb h₀) (hk : cs.kind = .function)
    (hd' : dp + 1 < recursionLimit) (hu : un + 20 * 1 < cLine) (nd : NoDig x.cps)
    (hret : ∀ (h' : Heap) (tk' : Nat), Fr h₀ L h' m → News h₀ L h' news → Q (.bool true) { s with heap := h', toks := tk' }) :
    wpAny (model prog w) (ktrTop dp un gd cn cs L a ccd cl outer) (call (.ref 50) [.str x tx]) Q E s := by
  refine wpAny_call ?_
  k_with_none
  k_with "m:getMethod ref" => (k_here; (with_reducible refine pat_method (by assumption) (by assumption) ?_))
  k_with "m:call builtin:re.Pattern.search" => (k_here; (with_reducible refine search_K (by assumption) (by assumption) (by assumption) ?_))
  k_dflt cell_enter
  k_steps
  all_goals exact hret _ _ (by assumption) (by assumption)
theorem c_hdn {x : Str} {tx : Tok} (B : Below A₀ base outer h₀) (F : Fr h₀ L s.heap m) (X : (hd.heap_39 w.params).In h₀) (N : News h₀ L s.heap news)
    (T : Top hd.view_39 (looseW hd.view_39 [Str.ofString "IPV4_RE", Str.ofString "insort_left", Str.ofString "bisect_left"]) mean mg mb h₀) (hk : cs.kind = .function)
    (hd' : dp + 1 < recursionLimit) (hu : un + 20 * 1 < cLine) (nd : NoDig x.cps) (hx : x.length ≤ 1000) (h3 : 1 ≤ x.length) (h0 : (x == Str.ofString "") = false) (h1 : (Txt.item x 0 == Str.ofString ".") = false) (h2 : (Txt.item x (-1) == Str.ofString ".") = false)
    (hret : ∀ (h' : Heap) (tk' : Nat), Fr h₀ L h' m → News h₀ L h' news → Q (.bool true) { s with heap := h', toks := tk' }) :
    wpAny (model prog w) (ktrTop dp un gd cn cs L a ccd cl outer) (call (.ref 43) [.str x tx]) Q E s := by
  refine wpAny_call ?_
  k_with_none
  k_with "m:getMethod ref" => (k_here; (with_reducible refine pat_method (by assumption) (by assumption) ?_))
  k_with "m:call builtin:re.Pattern.search" => (k_here; (with_reducible refine search_K (by assumption) (by assumption) (by assumption) ?_))
  k_dflt cell_enter
  k_steps
  all_goals first
    | exact hret _ _ (by assumption) (by assumption)
    | (exfalso; simp_all; done)
local macro_rules | `(tactic| walk_at "call ref") => `(tactic| k_extra "m:call ref")
theorem row_C1_3 : True := by
  k_with "m:call ref" => (k_here; (with_reducible show wpAny _ _ (call (Value.ref 50) [Value.str _ _]) _ _ _); k_dflt (refine' c_lib ?k1 ?k2 ?k3 ?k4 ?k5 ?k6 ?k7 ?k8 ?k9 ?_; (case k1 => k_asm); (case k2 => k_asm); (case k3 => k_asm); (case k4 => k_asm); (case k5 => k_asm); (case k6 => first | exact rfl | assumption); (case k7 => first | ktr_room | ((try dsimp only); omega)); (case k8 => first | ktr_units | ((try dsimp only); omega)); (case k9 => k_asm)); intro h' tk' F' N'; (try dsimp only))
  trivial
noncomputable def udmF (x y : Str) : Bool := if Txt.startswith (Txt.lower y) (Str.ofString ".") = true then Txt.endswith (Txt.lower x) (Txt.lower y) else Txt.lower x == Txt.lower y
theorem c_udm {x y : Str} {tx ty : Tok} (B : Below A₀ base outer h₀) (F : Fr h₀ L s.heap m) (X : (hd.heap_39 w.params).In h₀) (N : News h₀ L s.heap news)
    (T : Top hd.view_39 (looseW hd.view_39 [Str.ofString "IPV4_RE", Str.ofString "insort_left", Str.ofString "bisect_left"]) mean mg mb h₀) (hk : cs.kind = .function)
    (hd' : dp + 2 < recursionLimit) (hu : un + 20 * 2 < cLine) (nd : NoDig (Txt.lower x).cps) (nd' : NoDig (Txt.lower y).cps) (hx : x.length ≤ 1000) (hy : y.length ≤ 1000)
    (hret : ∀ (h' : Heap) (tk' : Nat), Fr h₀ L h' m → News h₀ L h' news → Q (.bool (udmF x y)) { s with heap := h', toks := tk' }) :
    wpAny (model prog w) (ktrTop dp un gd cn cs L a ccd cl outer) (call (.ref 57) [.str x tx, .str y ty]) Q E s := by
  refine wpAny_call ?_
  k_with_none
  k_with "m:getMethod ref" => (k_here; (with_reducible refine pat_method (by assumption) (by assumption) ?_))
  k_with "m:call builtin:re.Pattern.search" => (k_here; (with_reducible refine search_K (by assumption) (by assumption) (by assumption) ?_))
  k_with "m:call ref" => (k_here; (with_reducible show wpAny _ _ (call (Value.ref 50) [Value.str _ _]) _ _ _); k_dflt (refine' c_lib ?k1 ?k2 ?k3 ?k4 ?k5 ?k6 ?k7 ?k8 ?k9 ?_; (case k1 => k_asm); (case k2 => k_asm); (case k3 => k_asm); (case k4 => k_asm); (case k5 => k_asm); (case k6 => first | exact rfl | assumption); (case k7 => first | ktr_room | ((try dsimp only); omega)); (case k8 => first | ktr_units | ((try dsimp only); omega)); (case k9 => k_asm)); intro h' tk' F' N'; (try dsimp only))
  k_dflt cell_enter
  k_steps
  all_goals exact cb_retB (fun _ h' tk' => hret h' tk') (by unfold udmF; split <;> first | (simp_all; done)) (by assumption) (by assumption)
theorem row_C1_4 : True := by
  k_with "m:call ref" => (k_here; (with_reducible show wpAny _ _ (call (Value.ref 43) [Value.str _ _]) _ _ _); k_dflt (refine' c_hdn ?k1 ?k2 ?k3 ?k4 ?k5 ?k6 ?k7 ?k8 ?k9 ?k10 ?k11 ?k12 ?k13 ?k14 ?_; (case k1 => k_asm); (case k2 => k_asm); (case k3 => k_asm); (case k4 => k_asm); (case k5 => k_asm); (case k6 => first | exact rfl | assumption); (case k7 => first | ktr_room | ((try dsimp only); omega)); (case k8 => first | ktr_units | ((try dsimp only); omega)); (case k9 => k_asm); (case k10 => k_asm); (case k11 => k_asm); (case k12 => k_asm); (case k13 => k_asm); (case k14 => k_asm)); intro h' tk' F' N'; (try dsimp only))
  trivial
noncomputable def reachF (x : Str) : Str :=
  let i := Txt.find x (Str.ofString ".")
  let b := Txt.slice x (some (i + 1)) none
  if 0 ≤ i then (if 0 ≤ Txt.find b (Str.ofString ".") then Str.ofString "." ++ b else if (b == Str.ofString "local") = true then Str.ofString "." ++ b else x) else x
theorem c_reach {x : Str} {tx : Tok} (B : Below A₀ base outer h₀) (F : Fr h₀ L s.heap m) (X : (hd.heap_39 w.params).In h₀) (N : News h₀ L s.heap news)
    (T : Top hd.view_39 (looseW hd.view_39 [Str.ofString "IPV4_RE", Str.ofString "insort_left", Str.ofString "bisect_left"]) mean mg mb h₀) (hk : cs.kind = .function)
    (hd' : dp + 2 < recursionLimit) (hu : un + 20 * 2 < cLine) (nd : NoDig x.cps) (hx : x.length ≤ 1000) (h3 : 1 ≤ x.length) (h0 : (x == Str.ofString "") = false) (h1 : (Txt.item x 0 == Str.ofString ".") = false) (h2 : (Txt.item x (-1) == Str.ofString ".") = false)
    (hret : ∀ (t : Tok) (h' : Heap) (tk' : Nat), Fr h₀ L h' m → News h₀ L h' news → Q (.str (reachF x) t) { s with heap := h', toks := tk' }) :
    wpAny (model prog w) (ktrTop dp un gd cn cs L a ccd cl outer) (call (.ref 64) [.str x tx]) Q E s := by
  refine wpAny_call ?_
  k_with_none
  k_with "m:getMethod ref" => (k_here; (with_reducible refine pat_method (by assumption) (by assumption) ?_))
  k_with "m:call builtin:re.Pattern.search" => (k_here; (with_reducible refine search_K (by assumption) (by assumption) (by assumption) ?_))
  k_with "m:call ref" => (k_here; (with_reducible show wpAny _ _ (call (Value.ref 50) [Value.str _ _]) _ _ _); k_dflt (refine' c_lib ?k1 ?k2 ?k3 ?k4 ?k5 ?k6 ?k7 ?k8 ?k9 ?_; (case k1 => k_asm); (case k2 => k_asm); (case k3 => k_asm); (case k4 => k_asm); (case k5 => k_asm); (case k6 => first | exact rfl | assumption); (case k7 => first | ktr_room | ((try dsimp only); omega)); (case k8 => first | ktr_units | ((try dsimp only); omega)); (case k9 => k_asm)); intro h' tk' F' N'; (try dsimp only))
  k_with "m:call ref" => (k_here; (with_reducible show wpAny _ _ (call (Value.ref 43) [Value.str _ _]) _ _ _); k_dflt (refine' c_hdn ?k1 ?k2 ?k3 ?k4 ?k5 ?k6 ?k7 ?k8 ?k9 ?k10 ?k11 ?k12 ?k13 ?k14 ?_; (case k1 => k_asm); (case k2 => k_asm); (case k3 => k_asm); (case k4 => k_asm); (case k5 => k_asm); (case k6 => first | exact rfl | assumption); (case k7 => first | ktr_room | ((try dsimp only); omega)); (case k8 => first | ktr_units | ((try dsimp only); omega)); (case k9 => k_asm); (case k10 => k_asm); (case k11 => k_asm); (case k12 => k_asm); (case k13 => k_asm); (case k14 => k_asm)); intro h' tk' F' N'; (try dsimp only))
  k_dflt cell_enter
  k_steps
  all_goals exact cb_retS hret (by unfold reachF; dsimp only; (repeat' split) <;> first | rfl | (exfalso; omega) | (exfalso; simp_all; done) | (exfalso; simp_all; omega)) (by assumption) (by assumption)
end
end Mine
end
section -- P3
open PySem PySem.W PyProof.Rows PySem.Calls PyProof.V
namespace Mine
section order
theorem ltB_lt : ∀ {a b : List Nat}, ltB a b = true → a < b
  | [], [], h => by simp [ltB] at h
  | _ :: _, [], h => by simp [ltB] at h
  | [], _ :: _, _ => List.nil_lt_cons _ _
  | a :: as, b :: bs, h => by
    simp only [ltB, Bool.or_eq_true, Bool.and_eq_true] at h
    rcases h with h | ⟨h1, h2⟩
    · exact List.cons_lt_cons_iff.mpr (.inl (Nat.lt_of_succ_le (by simpa [Nat.blt] using h)))
    · exact List.cons_lt_cons_iff.mpr (.inr ⟨by simpa using h1, ltB_lt h2⟩)
theorem lt_trans' {a b c : List Nat} (h : a < b) (k : b < c) : a < c := List.lt_trans h k
theorem lt_irr {a : List Nat} (h : a < a) : False := List.lt_irrefl a h
theorem adj_pair : ∀ {l : List (List Nat)}, adjB l = true → l.Pairwise (· < ·)
  | [], _ => .nil
  | [_], _ => .cons (fun _ h => nomatch h) .nil
  | a :: b :: r, h => by
    simp only [adjB, Bool.and_eq_true] at h
    have ih := adj_pair h.2
    refine .cons (fun c hc => ?_) ih
    rcases List.mem_cons.mp hc with rfl | hc
    · exact ltB_lt h.1
    · exact lt_trans' (ltB_lt h.1) (List.rel_of_pairwise_cons ih hc)
theorem idx_lt {x y : List Str} (hx : x ∈ ZNAMES) (hy : y ∈ ZNAMES) (h : idxN x < idxN y) : turnC x < turnC y := by
  have p := adj_pair sorted_adj
  rw [List.pairwise_map, List.pairwise_iff_getElem] at p
  obtain ⟨h1, e1⟩ := List.getElem?_eq_some_iff.mp (sorted_at x hx)
  obtain ⟨h2, e2⟩ := List.getElem?_eq_some_iff.mp (sorted_at y hy)
  have := p _ _ h1 h2 h
  rw [e1, e2] at this
  exact this
theorem idx_inj {x y : List Str} (hx : x ∈ ZNAMES) (hy : y ∈ ZNAMES) (h : idxN x = idxN y) : x = y := by
  have h1 := sorted_at x hx
  rw [h, sorted_at y hy] at h1
  exact (Option.some.inj h1).symm
theorem turn_lt {x y : List Str} (hx : x ∈ ZNAMES) (hy : y ∈ ZNAMES) : turnC x < turnC y ↔ idxN x < idxN y := by
  refine ⟨fun h => ?_, idx_lt hx hy⟩
  rcases Nat.lt_trichotomy (idxN x) (idxN y) with q | q | q
  · exact q
  · rw [idx_inj hx hy q] at h; exact (lt_irr h).elim
  · exact (lt_irr (lt_trans' h (idx_lt hy hx q))).elim
theorem turnF_cps (x : List Str) : (turnF x).cps.toList = turnC x := by simp [turnF]
theorem turnF_inj {x y : List Str} (hx : x ∈ ZNAMES) (hy : y ∈ ZNAMES) (h : turnF x = turnF y) : x = y := by
  have h' : turnC x = turnC y := by rw [← turnF_cps, h, turnF_cps]
  rcases Nat.lt_trichotomy (idxN x) (idxN y) with q | q | q
  · have := idx_lt hx hy q; rw [h'] at this; exact (lt_irr this).elim
  · exact idx_inj hx hy q
  · have := idx_lt hy hx q; rw [h'] at this; exact (lt_irr this).elim
theorem suf_iff {z D : List Str} (hz : z ∈ ZNAMES) (hD : D ∈ ZNAMES) : suffixB z D = true ↔ idxN D ≤ idxN z ∧ idxN z < endN D := by
  have h := List.all_eq_true.mp (List.all_eq_true.mp suf_idx D hD) z hz
  rw [eq_of_beq h]
  simp
theorem suf_self (z : List Str) : suffixB z z = true := by simp [suffixB]
theorem suf_of {z D : List Str} (h : D <:+ z) : suffixB z D = true := by
  obtain ⟨p, rfl⟩ := h
  simp [suffixB]
theorem suf_to {z D : List Str} (h : suffixB z D = true) : D <:+ z := by
  unfold suffixB at h
  rw [decide_eq_true_eq] at h
  exact h ▸ List.drop_suffix _ _
end order
section texts
theorem ends_iff (x y : Str) : Txt.endswith x y = true ↔ y.cps.toList <:+ x.cps.toList := by
  unfold Txt.endswith
  rw [StrLaws.subAt_eq, Bool.and_eq_true, decide_eq_true_eq, beq_iff_eq]
  have hx : x.length = x.cps.toList.length := by simp [Str.length]
  have hy : y.length = y.cps.toList.length := by simp [Str.length]
  constructor
  · rintro ⟨h1, h2⟩
    rw [List.take_of_length_le (by rw [List.length_drop]; omega)] at h2
    exact h2 ▸ List.drop_suffix _ _
  · rintro ⟨p, hp⟩
    have hl : x.cps.toList.length = p.length + y.cps.toList.length := by rw [← hp, List.length_append]
    refine ⟨by omega, ?_⟩
    rw [show x.length - y.length = p.length by omega, ← hp, List.drop_left, hy, List.take_length]
/-- the labels of a text, cut at the dots -/
noncomputable def cutC : List Nat → List Nat × List (List Nat)
  | [] => ([], [])
  | c :: r => if c = 46 then ([], (cutC r).1 :: (cutC r).2) else (c :: (cutC r).1, (cutC r).2)
noncomputable def keyC (xs : List Str) : List Nat := xs.flatMap fun z => 46 :: z.cps.toList
theorem cut_app (p q : List Nat) (h : (cutC q).1 = []) : ∃ l, (cutC (p ++ q)).2 = l ++ (cutC q).2 := by
  induction p with
  | nil => exact ⟨[], rfl⟩
  | cons c r ih =>
    obtain ⟨l, hl⟩ := ih
    by_cases hc : c = 46
    · exact ⟨(cutC (r ++ q)).1 :: l, by rw [List.cons_append, cutC, if_pos hc, hl]; rfl⟩
    · exact ⟨l, by rw [List.cons_append, cutC, if_neg hc, hl]⟩
theorem cut_lab {l r : List Nat} (h : ∀ c ∈ l, c ≠ 46) (hr : (cutC r).1 = []) : cutC (46 :: (l ++ r)) = ([], l :: (cutC r).2) := by
  have : cutC (l ++ r) = (l, (cutC r).2) := by
    induction l with
    | nil => exact Prod.ext hr rfl
    | cons c l ih =>
      rw [List.cons_append, cutC, if_neg (h c (.head _)), ih fun d hd => h d (.tail _ hd)]
  rw [cutC, if_pos rfl, this]
theorem cut_key : ∀ {xs : List Str}, Labs xs → cutC (keyC xs) = ([], xs.map fun z => z.cps.toList)
  | [], _ => rfl
  | x :: xs, h => by
    have ih := cut_key (xs := xs) fun y hy => h y (.tail _ hy)
    have hx := lab_nodot x (h x (.head _))
    show cutC (46 :: (x.cps.toList ++ keyC xs)) = _
    rw [cut_lab hx (by rw [ih]), ih]
    rfl
where lab_nodot : ∀ y ∈ LabS, ∀ c ∈ y.cps.toList, c ≠ 46 := by decide +kernel
theorem str_inj {x y : Str} (h : x.cps.toList = y.cps.toList) : x = y := by
  cases x; cases y
  exact congrArg _ (Array.ext' h)
theorem map_cps {xs ys : List Str} {l : List (List Nat)} (h : (xs.map fun z => z.cps.toList) = l ++ ys.map fun z => z.cps.toList) : ys <:+ xs := by
  refine ⟨xs.take l.length, ?_⟩
  have h2 := congrArg (List.drop l.length) h
  rw [List.drop_left, ← List.map_drop] at h2
  have h3 : xs.drop l.length = ys := (List.map_inj_right (fun a b e => str_inj e)).mp h2
  rw [← h3, List.take_append_drop]
theorem key_suf {xs z : List Str} (hx : Labs xs) (hz : Labs z) {p : List Nat} (h : keyC z = p ++ keyC xs) : xs <:+ z := by
  have h1 := cut_key hz
  rw [h] at h1
  obtain ⟨l, hl⟩ := cut_app p (keyC xs) (by rw [cut_key hx])
  rw [cut_key hx, h1] at hl
  exact map_cps hl
theorem dot_cps (x : Str) : (Str.ofString "." ++ x).cps.toList = 46 :: x.cps.toList := by
  show ((#[46] ++ x.cps : Array Nat)).toList = _
  simp
theorem xdot_cps (x : Str) : (Str.ofString "x." ++ x).cps.toList = 120 :: 46 :: x.cps.toList := by
  show ((#[120, 46] ++ x.cps : Array Nat)).toList = _
  simp
theorem key_join : ∀ xs ∈ ZNAMES, keyC xs = 46 :: (joinF xs).cps.toList := by decide +kernel
theorem low_id {x : Str} (h : ∀ c ∈ x.cps.toList, c < 123 ∧ (c < 48 ∨ 57 < c) ∧ (c < 65 ∨ 90 < c)) : Txt.lower x = x := by
  rw [lower_ascii fun c hc => by have := h c hc; omega]
  refine str_inj ?_
  simp only [Array.toList_map]
  refine (List.map_congr_left fun c hc => ?_).trans (List.map_id _)
  have := (h c hc).2.2
  exact if_neg (by omega)
theorem low_up {x : Str} (h : ∀ c ∈ x.cps.toList, c < 123 ∧ (c < 48 ∨ 57 < c) ∧ (c < 65 ∨ 90 < c)) : Txt.lower (Txt.upper x) = x := by
  rw [upper_ascii fun c hc => by have := h c hc; omega]
  have hm : ∀ c, c < 123 → up1 c < 123 := by decide
  have hb : ∀ c, c < 123 → (c < 65 ∨ 90 < c) → lo1 (up1 c) = c := by decide
  rw [lower_ascii fun c hc => by
    simp only [Array.toList_map] at hc
    obtain ⟨d, hd, rfl⟩ := List.mem_map.mp hc
    have := hm d (h d hd).1
    omega]
  refine str_inj ?_
  simp only [Array.toList_map, List.map_map]
  refine (List.map_congr_left fun c hc => ?_).trans (List.map_id _)
  exact hb c (h c hc).1 (h c hc).2.2
theorem good_dot {x : Str} (h : ∀ c ∈ x.cps.toList, c < 123 ∧ (c < 48 ∨ 57 < c) ∧ (c < 65 ∨ 90 < c)) : ∀ c ∈ (Str.ofString "." ++ x).cps.toList, c < 123 ∧ (c < 48 ∨ 57 < c) ∧ (c < 65 ∨ 90 < c) := by
  rw [dot_cps]
  intro c hc
  rcases List.mem_cons.mp hc with rfl | hc
  · omega
  · exact h c hc
theorem good_xdot {x : Str} (h : ∀ c ∈ x.cps.toList, c < 123 ∧ (c < 48 ∨ 57 < c) ∧ (c < 65 ∨ 90 < c)) : ∀ c ∈ (Str.ofString "x." ++ x).cps.toList, c < 123 ∧ (c < 48 ∨ 57 < c) ∧ (c < 65 ∨ 90 < c) := by
  rw [xdot_cps]
  intro c hc
  rcases List.mem_cons.mp hc with rfl | hc
  · omega
  · rcases List.mem_cons.mp hc with rfl | hc
    · omega
    · exact h c hc
theorem starts_dot (x : Str) : Txt.startswith (Str.ofString "." ++ x) (Str.ofString ".") = true := by
  unfold Txt.startswith
  rw [StrLaws.subAt_eq, Bool.and_eq_true, decide_eq_true_eq, beq_iff_eq, dot_cps]
  have : (Str.ofString ".").length = 1 := rfl
  refine ⟨?_, ?_⟩
  · show 0 + 1 ≤ (#[46] ++ x.cps : Array Nat).size
    simp
  · rw [this]; rfl
theorem ends_name {z xs : List Str} (hz : z ∈ ZNAMES) (hx : xs ∈ ZNAMES) : Txt.endswith (joinF z) (Str.ofString "." ++ joinF xs) = (suffixB z xs && !decide (z = xs)) := by
  rw [Bool.eq_iff_iff, ends_iff, dot_cps, ← key_join xs hx, Bool.and_eq_true]
  have hk := key_join z hz
  constructor
  · rintro ⟨p, hp⟩
    refine ⟨suf_of (key_suf (znames_shape xs hx).1 (znames_shape z hz).1 (p := 46 :: p) (by rw [hk, ← hp]; rfl)), ?_⟩
    have hne : z ≠ xs := fun e => by
      rw [e] at hp hk
      have := congrArg List.length hp
      rw [hk] at this
      simp at this
      omega
    simp [hne]
  · rintro ⟨h1, h2⟩
    obtain ⟨q, hq⟩ := suf_to h1
    have hne : z ≠ xs := by simpa using h2
    have hqn : q ≠ [] := fun e => hne (by rw [← hq, e]; rfl)
    obtain ⟨a, r, rfl⟩ := List.exists_cons_of_ne_nil hqn
    refine ⟨a.cps.toList ++ keyC r, ?_⟩
    have e : keyC z = keyC ((a :: r) ++ xs) := by rw [hq]
    unfold keyC at e
    rw [List.flatMap_append, List.flatMap_cons] at e
    have e2 : 46 :: (joinF z).cps.toList = 46 :: ((a.cps.toList ++ keyC r) ++ keyC xs) := by rw [← hk]; exact e
    exact (List.cons.inj e2).2.symm
theorem ends_xname {z D : List Str} (hz : z ∈ ZNAMES) (hD : D ∈ ZNAMES) : Txt.endswith (Str.ofString "x." ++ joinF z) (Str.ofString "." ++ joinF D) = suffixB z D := by
  rw [Bool.eq_iff_iff, ends_iff, dot_cps, xdot_cps, ← key_join D hD, ← key_join z hz]
  constructor
  · rintro ⟨p, hp⟩
    cases p with
    | nil =>
      rw [List.nil_append, key_join D hD] at hp
      cases hp
    | cons c p =>
      exact suf_of (key_suf (znames_shape D hD).1 (znames_shape z hz).1 (p := p) (List.cons.inj hp).2.symm)
  · intro h
    obtain ⟨q, hq⟩ := suf_to h
    refine ⟨120 :: keyC q, ?_⟩
    rw [← hq]
    unfold keyC
    rw [List.flatMap_append]
    rfl
theorem nodig_good {x : Str} (h : ∀ c ∈ x.cps.toList, c < 123 ∧ (c < 48 ∨ 57 < c) ∧ (c < 65 ∨ 90 < c)) : NoDig x.cps := by
  have hd : ∀ c, c < 123 → (c < 48 ∨ 57 < c) → PySem.Sre.isDigit c = false := by decide
  intro i
  by_cases hi : i < x.cps.size
  · have hm : x.cps.getD i 0 ∈ x.cps.toList := by
      simp [Array.getD, hi]
    have := h _ hm
    exact hd _ this.1 this.2.1
  · have : x.cps.getD i 0 = 0 := by simp [Array.getD, hi]
    rw [this]
    exact hd 0 (by decide) (by decide)
end texts
end Mine
end
section -- R0
open PySem PySem.W PyProof.Rows PySem.Calls
namespace Mine
section
variable {prog : Program} {w : World} {A A₀ : Around} {s : Shared} {K : Frag} {L : Addr} {h₀ base : Heap} {m mg mb : Str → Option Value} {p : Program} {loose : List Str} {mean : ExcName → Option Value} {R : Result → Shared → Prop}
/-- into a def that turns nothing of its caller's: the whole heap of the call's start is the ground -/
theorem code_pure {env : Env} {outer : List Env} {name qual : Str} {params : Arguments} {body : List Stmt} {scope : Scope} {dV kV doc pm cdv ct oc : Value} {an od : Option Addr} {osl : Array (Option Value)} {f : Addr} {args : Args} {binds : List (Str × Value)}
    (B : Below A₀ base outer h₀) (F : Fr h₀ L s.heap m) (X₀ : K.In h₀) (T : Top p loose mean mg mb h₀) (hA : A.frames = some (env :: outer)) (hf : env.frame = some L) (hke : env.scope.kind = .function)
    (ho : K.lookup f = some ⟨oc, od, .func (fnOf name qual params body scope dV kV doc pm an cdv ct), osl⟩) (hcd : codeIn K cdv qual = true) (hroom : A.depth < recursionLimit)
    (hbind : BindsTo s (fnOf name qual params body scope dV kV doc pm an cdv ct) args binds) (hloc : ∀ y ∈ binds, scope.names.lookup y.1 = some .local)
    (h : ∀ L' h₁, Fr s.heap L' h₁ (fun y => binds.reverse.lookup y) → News s.heap L' h₁ [] → Below A base (env :: outer) s.heap → K.In s.heap → Top p loose mean mg mb s.heap →
      wpAny (model prog w) (A.deeper (envOf qual scope L' f cdv)) (execs body (envOf qual scope L' f cdv))
        (fun fl s' => R (.ok (.ret (match fl with | .ret v => v | _ => .none))) s') (fun _ _ => False) { s with heap := h₁, toks := s.toks + binds.length })
    (hco : scope.isCoroutine = false) (hgen : scope.isGenerator = false) (hk : scope.kind = .function) (hcell : ∀ x ∈ scope.names, x.2 ≠ .cell) : codeAny (model prog w) A (.call (.ref f) args) R s := by
  obtain ⟨_, BG, _, _⟩ := groundX (R := R) B F News.nil hA hf hke
  have X := X₀.keeps F.keep
  refine codeAny_call_def (fd := fnOf name qual params body scope dV kV doc pm an cdv ct) (body := body) (binds := binds) hroom (X _ _ ho) rfl (T.nolimit.keeps F.keep) (codeRec_of X hcd) rfl hbind hcell hloc (fun h₁ hns hk₁ => ?_) hco hgen hk
  exact wpAny_mono (h s.heap.objs.size h₁ ⟨hns, hk₁, Nat.le_refl _⟩ News.nil BG X (T.keeps F.keep)) (fun _ _ x => x) fun _ _ x => x.elim
/-- the same where names are cells -/
theorem code_pureC {env : Env} {outer : List Env} {name qual : Str} {params : Arguments} {body : List Stmt} {scope : Scope} {dV kV doc pm cdv ct oc : Value} {an od : Option Addr} {osl : Array (Option Value)} {f : Addr} {args : Args} {binds : List (Str × Value)}
    (B : Below A₀ base outer h₀) (F : Fr h₀ L s.heap m) (X₀ : K.In h₀) (T : Top p loose mean mg mb h₀) (hA : A.frames = some (env :: outer)) (hf : env.frame = some L) (hke : env.scope.kind = .function)
    (ho : K.lookup f = some ⟨oc, od, .func (fnOf name qual params body scope dV kV doc pm an cdv ct), osl⟩) (hcd : codeIn K cdv qual = true) (hroom : A.depth < recursionLimit)
    (hbind : BindsTo s (fnOf name qual params body scope dV kV doc pm an cdv ct) args binds) (hkind : (binds.all fun y => scope.names.lookup y.1 == some .local || scope.names.lookup y.1 == some .cell) = true)
    (hnd : ((cellsFrom 0 scope.names []).map (·.1)).Nodup)
    (h : ∀ L' h₁ tk cells, Fr s.heap L' h₁ (bindL (envOfC qual scope L' f cdv).kindOf binds fun _ => none) → News s.heap L' h₁ cells →
      CellsAre (bindC (envOfC qual scope L' f cdv).kindOf binds fun _ => none) (cellsFrom (L' + 1) scope.names []) cells → Below A base (env :: outer) s.heap → K.In s.heap → Top p loose mean mg mb s.heap →
      wpAny (model prog w) (A.deeper (envOfC qual scope L' f cdv)) (execs body (envOfC qual scope L' f cdv))
        (fun fl s' => R (.ok (.ret (match fl with | .ret v => v | _ => .none))) s') (fun _ _ => False) { s with heap := h₁, toks := tk })
    (hco : scope.isCoroutine = false) (hgen : scope.isGenerator = false) (hk : scope.kind = .function) : codeAny (model prog w) A (.call (.ref f) args) R s := by
  obtain ⟨_, BG, _, _⟩ := groundX (R := R) B F News.nil hA hf hke
  have X := X₀.keeps F.keep
  refine codeAny_call_function hroom (X _ _ ho) rfl hco hgen rfl (codeRec_of X hcd) (hbind _ _ _ _ ?_)
  refine wpAny_newFunctionEnv_cells hk (kindsX hkind _) fun env' he s' x => ?_
  subst he
  refine ⟨(T.nolimit.keeps F.keep).keeps x.toInCall.keep, codeAny_func ?_⟩
  obtain ⟨h₁, tk, rfl, _⟩ := x.done
  have hk₁ := x.toInCall.keep
  obtain ⟨cells, NC, Y⟩ := Cl.news (h₀ := s.heap) (Nat.le_refl _) fun n c hm => ⟨x.cell n c (lookup_of_mem_nodup (cellsFrom_names scope.names 0 (s.heap.objs.size + 1) [] [] rfl ▸ hnd) hm), x.above n c hm⟩
  exact wpAny_mono (h s.heap.objs.size h₁ tk cells ⟨x.toInCall.ns, hk₁, Nat.le_refl _⟩ NC Y BG X (T.keeps F.keep)) (fun _ _ x => x) fun _ _ x => x.elim
theorem news_new {h₀ h h' : Heap} {L : Addr} {m : Str → Option Value} {news : List (Addr × Obj)} {a : Addr} {o : Obj} (F : Fr h₀ L h m) (N : News h₀ L h news) (hk : ∀ b o, h.get? b = some o → h'.get? b = some o) (hn : h.get? a = none) (ho : h'.get? a = some o) :
    News h₀ L h' ((a, o) :: news) ∧ ∀ p ∈ news, p.1 ≠ a := by
  refine ⟨fun p hp => ?_, fun p hp e => ?_⟩
  · rcases List.mem_cons.mp hp with rfl | hp
    · refine ⟨ho, ?_, ?_⟩
      · rintro rfl
        obtain ⟨oL, _, _, hL, _⟩ := F.ns
        rw [hn] at hL; cases hL
      · cases q : h₀.get? a with
        | none => rfl
        | some o' => have := F.keep _ _ q; rw [hn] at this; cases this
    · exact ⟨hk _ _ (N p hp).1, (N p hp).2⟩
  · have := (N p hp).1
    rw [e, hn] at this; cases this
end
end Mine
end
section -- A1
open PySem PySem.W PyProof.Rows PySem.Calls PyProof.V
open Sem (wp)
namespace Mine
section
variable {prog : Program} {w : World} {A : Around} {E : Value → Shared → Prop} {s : Shared} {env : Env}
theorem codeA_forTurn {R : Result → Shared → Prop} {x : Str} {px : Pos} {it : Value} {body : List Stmt}
    (h : wpAny (model prog w) A (pyNext it) (fun r s₁ => match r with
      | none => R (.ok .next) s₁
      | some v => wpAny (model prog w) A (storeName env x v) (fun _ s₂ => wpAny (model prog w) A (execs body env)
          (fun f s₃ => match f with
            | .next | .cont => codeAny (model prog w) A (.forLoop (.Name x px) it body [] env) R s₃
            | .brk => R (.ok .next) s₃
            | .ret v => R (.ok (.ret v)) s₃) (fun _ _ => False) s₂) (fun _ _ => False) s₁) (fun _ _ => False) s) :
    codeAny (model prog w) A (.forLoop (.Name x px) it body [] env) R s := by
  have nt : ∀ {α : Type} {m : Sem α} {Q : α → Shared → Prop} {E : Value → Shared → Prop} {s : Shared}, wpAny (model prog w) A m Q (fun _ _ => False) s → wpAny (model prog w) A (m.onRaise fun x => do noteFrame x env; theTreesLotGoes x) Q E s :=
    fun h => wpAny_onRaise (wpAny_mono h (fun _ _ x => x) fun _ _ f => f.elim)
  refine codeAny_of_tree ?_
  show wpAny _ A ((forTurn (.Name x px) it body [] env).onRaise (fun x => do noteFrame x env; theTreesLotGoes x)) _ _ s
  refine nt ?_
  unfold forTurn
  refine wpAny_bind (wpAny_standAt (wpAny_bind (wpAny_onRaise (wpAny_mono h (fun r s₁ h₁ => ?_) fun _ _ f => f.elim))))
  cases r with
  | none =>
    refine wpAny_pure ⟨rfl, codeAny_of_tree ?_⟩
    show wpAny _ _ (do return Fin.done (← (execs [] env).onRaise (fun x => do noteFrame x env; theTreesLotGoes x))) _ _ s₁
    exact wpAny_bind (wpAny_onRaise (wpAny_execs_nil (wpAny_pure h₁)))
  | some v =>
    refine wpAny_bind (wpAny_of_eq (a := ()) rfl ?_)
    refine wpAny_bind (wpAny_mono (wpAny_assign_Name h₁) (fun _ s₂ h₂ => wpAny_bind (wpAny_mono h₂ (fun f s₃ h₃ => ?_) fun _ _ f => f.elim)) fun _ _ f => f.elim)
    cases f with
    | next => exact wpAny_pure ⟨rfl, h₃⟩
    | cont => exact wpAny_pure ⟨rfl, h₃⟩
    | brk => exact wpAny_pure h₃
    | ret v => exact wpAny_pure h₃
theorem codeS_forTurnR {R : Result → Shared → Prop} {x : Str} {px : Pos} {it : Value} {body : List Stmt}
    (h : wpAny (model prog w) A (pyNext it) (fun r s₁ => match r with
      | none => R (.ok .next) s₁
      | some v => wpAny (model prog w) A (storeName env x v) (fun _ s₂ => wpS (model prog w) A (execs body env)
          (fun f s₃ => match f with
            | .next | .cont => codeS (model prog w) A (.forLoop (.Name x px) it body [] env) R s₃
            | .brk => R (.ok .next) s₃
            | .ret v => R (.ok (.ret v)) s₃) (fun _ _ => False) s₂) (fun _ _ => False) s₁) (fun _ _ => False) s) :
    codeS (model prog w) A (.forLoop (.Name x px) it body [] env) R s := by
  refine codeS_tree rfl ?_
  show wpS _ A ((forTurn (.Name x px) it body [] env).onRaise (fun x => do noteFrame x env; theTreesLotGoes x)) _ _ s
  refine S_noted ?_
  unfold forTurn
  refine S_bind (S_standAt (S_bind (S_of (wpAny_onRaise (wpAny_mono h (fun r s₁ h₁ => ?_) fun _ _ f => f.elim)))))
  cases r with
  | none =>
    refine S_pure ⟨rfl, codeS_tree rfl ?_⟩
    show wpS _ _ (do return Fin.done (← (execs [] env).onRaise (fun x => do noteFrame x env; theTreesLotGoes x))) _ _ s₁
    exact S_bind (S_noted (S_execs_nil (S_pure h₁)))
  | some v =>
    refine S_eq (a := ()) rfl ?_
    refine S_bind (S_mono (S_of (wpAny_assign_Name h₁)) (fun _ s₂ h₂ => S_bind (S_mono h₂ (fun f s₃ h₃ => ?_) fun _ _ f => f.elim)) fun _ _ f => f.elim)
    cases f with
    | next => exact S_pure ⟨rfl, h₃⟩
    | cont => exact S_pure ⟨rfl, h₃⟩
    | brk => exact S_pure h₃
    | ret v => exact S_pure h₃
variable {h₀ : Heap} {x : Str} {body : List Stmt} {Q : Flow → Shared → Prop}
/-- a for over a list of the ledger: the turn may leave by return; its things in the ledger stand -/
theorem forA_list {l : Addr} {vs : List Value} {nn : Nat} {led : List (Addr × Obj)} {m₀ : Str → Option Value} {px : Pos} (J : Nat → Prop) (hh : A.handled = none) (hx : env.kindOf x = some .local)
    (hp : (env.scope.kind == .class || (env.scope.kind == .module && env.locals != env.globals)) = false) (hl : (l, listOf vs.toArray nn) ∈ led) (F : Fr h₀ env.locals s.heap m₀) (N : News h₀ env.locals s.heap led) (hj : J 0)
    (turn : ∀ i v h tk I oI, vs[i]? = some v → J i → Fr h₀ env.locals h (fun y => if y = x then some v else m₀ y) → News h₀ env.locals h ((I, oI) :: led) →
      wpAny (model prog w) A (execs body env) (fun f s₃ => match f with
        | .next | .cont => J (i + 1) ∧ ∃ h' tk' u, s₃ = { s with heap := h', toks := tk' } ∧ Fr h₀ env.locals h' (fun y => if y = x then u else m₀ y) ∧ News h₀ env.locals h' ((I, oI) :: led)
        | .brk => Q .next s₃
        | .ret v => Q (.ret v) s₃) (fun _ _ => False) { s with heap := h, toks := tk })
    (done : ∀ h tk u, J vs.length → Fr h₀ env.locals h (fun y => if y = x then u else m₀ y) → News h₀ env.locals h led → Q .next { s with heap := h, toks := tk }) :
    wpAny (model prog w) A (pyIter (.ref l)) (fun it s₂ => codeAny (model prog w) A (.forLoop (.Name x px) it body [] env) (fun r s' => match r with | .ok f => Q f s' | .error _ => False) s₂) (fun _ _ => False) s := by
  have hol := (N _ hl).1
  have hls : s.heap.IsList l vs.toArray := ⟨_, hol, rfl, nn, rfl⟩
  refine wpAny_pyIter_list hls ?_
  have hIL : s.heap.objs.size ≠ env.locals := Ne.symm (Nat.ne_of_lt F.ns.lt)
  have hI0 : h₀.get? s.heap.objs.size = none := Heap.get?_none_of_le (Nat.le_trans F.above (Nat.le_of_lt F.ns.lt))
  have hled : ∀ p ∈ led, p.1 ≠ s.heap.objs.size := fun p hp => Nat.ne_of_lt (Heap.lt_size (N p hp).1)
  have hit0 : (s.heap.push { cls := .type "list_iterator", data := .fields #[.ref l, .int 0 0] }).IsListIter s.heap.objs.size l 0 := ⟨_, Heap.get?_push_size _ rfl, rfl, rfl⟩
  generalize s.heap.objs.size = I at hIL hI0 hled hit0
  have key : ∀ n i, i + n = vs.length → ∀ h tk u, J i → h.IsListIter I l i → Fr h₀ env.locals h (fun y => if y = x then u else m₀ y) → News h₀ env.locals h led →
      codeAny (model prog w) A (.forLoop (.Name x px) (.ref I) body [] env) (fun r s' => match r with | .ok f => Q f s' | .error _ => False) { s with heap := h, toks := tk } := by
    intro n
    induction n with
    | zero =>
      intro i hi h tk u hJ hit F N
      refine codeA_forTurn (wpAny_pyNext_list_end hh hit ⟨_, (N _ hl).1, rfl, nn, rfl⟩ (by simp; omega) fun h' hs => ?_)
      have hi' : i = vs.length := by omega
      subst hi'
      refine done h' tk u hJ ?_ fun p hp => ⟨hs p.1 _ (hled p hp) (N p hp).1, (N p hp).2⟩
      exact ⟨F.ns.extBut hs (Ne.symm hIL), fun b o e => hs b o (fun q => by rw [q, hI0] at e; cases e) (F.keep b o e), F.above⟩
    | succ n ih =>
      intro i hi h tk u hJ hit F N
      obtain ⟨v, hv⟩ : ∃ v, vs[i]? = some v := ⟨vs[i]'(by omega), List.getElem?_eq_getElem (by omega)⟩
      refine codeA_forTurn (wpAny_pyNext_list_item hit ⟨_, (N _ hl).1, rfl, nn, rfl⟩ (x := v) (by simpa using hv) fun h' hit' hs => ?_)
      have F' : Fr h₀ env.locals h' (fun y => if y = x then u else m₀ y) := ⟨F.ns.sameBut hs (Ne.symm hIL), fun b o e => (hs.2 b (fun q => by rw [q, hI0] at e; cases e)).trans (F.keep b o e), F.above⟩
      have N' : News h₀ env.locals h' led := fun p hp => ⟨(hs.2 p.1 (hled p hp)).trans (N p hp).1, (N p hp).2⟩
      refine wpAny_storeName_local hx F'.ns (fun h2 hns2 hsb2 => ?_) hp
      have F2 : Fr h₀ env.locals h2 (fun y => if y = x then some v else m₀ y) := by
        have e : (fun y => if y = x then some v else (fun y => if y = x then u else m₀ y) y) = fun y => if y = x then some v else m₀ y := by
          funext y
          by_cases e1 : y = x
          · simp [e1]
          · simp [e1]
        exact e ▸ ⟨hns2, fun b o e => (hsb2.2 b (Nat.ne_of_lt (Nat.lt_of_lt_of_le (Heap.lt_size e) F'.above))).trans (F'.keep b o e), F'.above⟩
      obtain ⟨oI, hoI, hoc, hod⟩ := hit'
      have hoI2 : h2.get? I = some oI := (hsb2.2 I hIL).trans hoI
      refine wpAny_mono (turn i v h2 _ I oI hv hJ F2 fun p hp => ?_) (fun f s₃ hf => ?_) fun _ _ f => f
      · rcases List.mem_cons.mp hp with rfl | hp
        · exact ⟨hoI2, hIL, hI0⟩
        · exact ⟨(hsb2.2 p.1 (N' p hp).2.1).trans (N' p hp).1, (N' p hp).2⟩
      · have next : (J (i + 1) ∧ ∃ h' tk' u, s₃ = { s with heap := h', toks := tk' } ∧ Fr h₀ env.locals h' (fun y => if y = x then u else m₀ y) ∧ News h₀ env.locals h' ((I, oI) :: led)) →
            codeAny (model prog w) A (.forLoop (.Name x px) (.ref I) body [] env) (fun r s' => match r with | .ok f => Q f s' | .error _ => False) s₃ := by
          rintro ⟨hJ', h3, tk3, u3, rfl, F3, N3⟩
          exact ih (i + 1) (by omega) h3 tk3 u3 hJ' ⟨oI, (N3 _ (.head _)).1, hoc, hod⟩ F3 fun p hp => N3 p (.tail _ hp)
        cases f with
        | next => exact next hf
        | cont => exact next hf
        | brk => exact hf
        | ret v => exact hf
  have e : (fun y => if y = x then m₀ x else m₀ y) = m₀ := by
    funext y
    by_cases e1 : y = x
    · simp [e1]
    · simp [e1]
  exact key vs.length 0 (by omega) _ s.toks (m₀ x) hj hit0 (e.symm ▸ F.push _) fun p hp => ⟨Heap.get?_push_of_some _ (N p hp).1, (N p hp).2⟩
theorem forA_For {l : Addr} {vs : List Value} {nn : Nat} {led : List (Addr × Obj)} {m₀ : Str → Option Value} {px pos : Pos} {iter : Expr} (J : Nat → Prop)
    (hit : wpAny (model prog w) A (eval iter env) (fun v s₁ => v = .ref l ∧ s₁ = s) (fun _ _ => False) s) (hs : ∀ x, foldedSetIterable iter env x = pure x) (hh : A.handled = none) (hx : env.kindOf x = some .local)
    (hp : (env.scope.kind == .class || (env.scope.kind == .module && env.locals != env.globals)) = false) (hl : (l, listOf vs.toArray nn) ∈ led) (F : Fr h₀ env.locals s.heap m₀) (N : News h₀ env.locals s.heap led) (hj : J 0)
    (turn : ∀ i v h tk I oI, vs[i]? = some v → J i → Fr h₀ env.locals h (fun y => if y = x then some v else m₀ y) → News h₀ env.locals h ((I, oI) :: led) →
      wpAny (model prog w) A (execs body env) (fun f s₃ => match f with
        | .next | .cont => J (i + 1) ∧ ∃ h' tk' u, s₃ = { s with heap := h', toks := tk' } ∧ Fr h₀ env.locals h' (fun y => if y = x then u else m₀ y) ∧ News h₀ env.locals h' ((I, oI) :: led)
        | .brk => Q .next s₃
        | .ret v => Q (.ret v) s₃) (fun _ _ => False) { s with heap := h, toks := tk })
    (done : ∀ h tk u, J vs.length → Fr h₀ env.locals h (fun y => if y = x then u else m₀ y) → News h₀ env.locals h led → Q .next { s with heap := h, toks := tk }) :
    wpAny (model prog w) A (exec (.For (.Name x px) iter body [] pos) env) Q E s := by
  refine wpAny_For (wpAny_mono hit (fun v s₁ h₁ => ?_) fun _ _ f => f.elim) hs
  obtain ⟨rfl, rfl⟩ := h₁
  refine wpAny_mono (forA_list (px := px) J hh hx hp hl F N hj turn done) (fun it s₂ h₂ => codeAny_mono h₂ fun r s' hr => ?_) fun _ _ f => f.elim
  cases r with
  | ok f => exact hr
  | error e => exact hr.elim
end
end Mine
end
section -- E1
open PySem PySem.W PyProof.Rows PySem.Calls
namespace Mine

theorem fill_E1 : (fun (_ : OpenLaw) (_ : Params → Frag) => True) PySem.Challenge.rw_zo0019_01 hd.heap_39 := by
  w_top off
  k_with_none
  k_fill
  trivial

noncomputable def foundF (y x : Str) : Option Str := if y = x then some x else if udmF (Txt.upper y) (Str.ofString "." ++ x) = true then some Str.empty else none
section
variable {prog : Program} {w : World} {mean : ExcName → Option Value} {mg mb : Str → Option Value} {news : List (Addr × Obj)} {dp un : Nat} {gd : Option (List Code)} {cn : Str} {cs : Scope} {a : Addr} {ccd : Value} {cl : List (Str × Addr)} {outer : List Env} {A₀ : Around} {base h₀ : Heap} {L : Addr} {m : Str → Option Value} {s : Shared} {Q E : Value → Shared → Prop}
theorem dict_item {prog : Program} {w : World} {A : Around} {E : Value → Shared → Prop} {s : Shared} {d : Addr} {o : Obj} {kvs : List (Str × Value)} {k y : Str} {t ty : Tok} {h₀ : Heap} {L : Addr} {news : List (Addr × Obj)} {value slice : PySem.Expr} {Q : Value → Shared → Prop} (N : News h₀ L s.heap news) (hp : (d, o) ∈ news) (hd : o.IsDictOf (PySem.strKind prog w) kvs)
    (hl : valueAt kvs k = some (.str y ty)) (h : Q (.str y ty) { s with toks := s.toks + 1 })
    (hs : subscripted slice false (.ref d) (.str k t) = operate [.ref d, .str k t] (getItem (.ref d) (.str k t)) := by with_unfolding_all rfl) (hg : ∀ r, letTemporaryGo value (.ref d) r = pure () := by intro _; with_unfolding_all rfl) :
    wpAny (model prog w) A (subscriptTail value slice (.ref d) (.str k t)) Q E s := kda_item (knd := PySem.strKind _ _) N hp hd (strKind_is _ _ _ _) hl h hs hg
local macro_rules | `(tactic| walk_at "subscriptTail") => `(tactic| k_extra "m:subscriptTail")
theorem row_E1_1 : True := by
  k_with "m:subscriptTail" => (k_here; (with_reducible show wpAny _ _ (subscriptTail _ _ (Value.ref _) (Value.str _ _)) _ _ _); (with_unfolding_all refine' dict_item ?k1 ?k2 ?k3 ?k4 ?_; (case k1 => k_asm); (case k2 => k_mem); (case k3 => assumption); (case k4 => assumption); k_whole))
  trivial
local macro_rules | `(tactic| walk_at "call ref") => `(tactic| k_extra "m:call ref")
theorem row_E1_2 : True := by
  k_with "m:call ref" => (k_here; (with_reducible show wpAny _ _ (call (Value.ref 57) [Value.str _ _, Value.str _ _]) _ _ _); k_dflt (refine' c_udm ?k1 ?k2 ?k3 ?k4 ?k5 ?k6 ?k7 ?k8 ?k9 ?k10 ?k11 ?k12 ?_; (case k1 => k_asm); (case k2 => k_asm); (case k3 => k_asm); (case k4 => k_asm); (case k5 => k_asm); (case k6 => first | exact rfl | assumption); (case k7 => first | ktr_room | ((try dsimp only); omega)); (case k8 => first | ktr_units | ((try dsimp only); omega)); (case k9 => k_asm); (case k10 => k_asm); (case k11 => k_asm); (case k12 => k_asm)); intro h' tk' F' N'; (try dsimp only))
  trivial
theorem c_found1 {d l : Addr} {o : Obj} {kvs : List (Str × Value)} {k y x : Str} {t1 tx ty : Tok} {nl : Nat} (B : Below A₀ base outer h₀) (F : Fr h₀ L s.heap m) (X : (hd.heap_39 w.params).In h₀) (N : News h₀ L s.heap ((d, o) :: (l, listOf #[.str k t1] nl) :: news))
    (T : Top hd.view_39 (looseW hd.view_39 [Str.ofString "IPV4_RE", Str.ofString "insort_left", Str.ofString "bisect_left"]) mean mg mb h₀) (hk : cs.kind = .function)
    (hd' : dp + 4 < recursionLimit) (hu : un + 20 * 4 < cLine) (hD : o.IsDictOf (PySem.strKind prog w) kvs) (lo : (d == sysModules) = false) (hv : valueAt kvs k = some (.str y ty))
    (hy : y.length ≤ 60) (hyu : (Txt.upper y).length ≤ 1000) (nd : NoDig (Txt.lower (Txt.upper y)).cps) (hx : x.length ≤ 60) (hx2 : (Str.ofString "." ++ x).length ≤ 1000) (nd' : NoDig (Txt.lower (Str.ofString "." ++ x)).cps)
    (hret : ∀ v h' tk', optIs (foundF y x) v → Fr h₀ L h' m → News h₀ L h' ((d, o) :: (l, listOf #[.str k t1] nl) :: news) → Q v { s with heap := h', toks := tk' }) :
    wpAny (model prog w) (ktrTop dp un gd cn cs L a ccd cl outer) (call (.ref 115) [.ref d, .ref l, .str x tx]) Q E s := by
  refine wpAny_call ?_
  k_with_none
  k_with "m:subscriptTail" => (k_here; (with_reducible show wpAny _ _ (subscriptTail _ _ (Value.ref _) (Value.str _ _)) _ _ _); (with_unfolding_all refine' dict_item ?k1 ?k2 ?k3 ?k4 ?_; (case k1 => k_asm); (case k2 => k_mem); (case k3 => assumption); (case k4 => assumption); k_whole))
  k_with "m:call ref" => (k_here; (with_reducible show wpAny _ _ (call (Value.ref 57) [Value.str _ _, Value.str _ _]) _ _ _); k_dflt (refine' c_udm ?k1 ?k2 ?k3 ?k4 ?k5 ?k6 ?k7 ?k8 ?k9 ?k10 ?k11 ?k12 ?_; (case k1 => k_asm); (case k2 => k_asm); (case k3 => k_asm); (case k4 => k_asm); (case k5 => k_asm); (case k6 => first | exact rfl | assumption); (case k7 => first | ktr_room | ((try dsimp only); omega)); (case k8 => first | ktr_units | ((try dsimp only); omega)); (case k9 => k_asm); (case k10 => k_asm); (case k11 => k_asm); (case k12 => k_asm)); intro h' tk' F' N'; (try dsimp only))
  k_dflt cell_enter
  k_steps
  k_here
  with_reducible rename Fr _ _ _ _ => F₁
  with_reducible rename News _ _ _ _ => N₂
  refine forA_For (l := l) (vs := [.str k t1]) (nn := nl) (fun i => i = 1 → foundF y x = none) (wpAny_Name (wpAny_loadName_local rfl rfl F₁.ns rfl ⟨rfl, rfl⟩)) (fun _ => rfl) rfl rfl rfl (.tail _ (.head _)) F₁ N₂ (fun h => absurd h (by decide)) ?_ ?_
  · intro i v h tk I oI hv' hJ F N
    cases i with
    | succ i => simp at hv'
    | zero =>
      cases hv'
      k_steps
      all_goals first
        | (refine hret _ _ _ ?_ (by assumption) (N_sub (by assumption) fun p hp => .tail _ hp)
           unfold foundF
           rename (y == x) = true => e1
           rw [if_pos (eq_of_beq e1)]
           exact ⟨_, rfl⟩)
        | (refine hret _ _ _ ?_ (by assumption) (N_sub (by assumption) fun p hp => .tail _ hp)
           unfold foundF
           rename (y == x) = false => e1
           rename (udmF _ _ == true) = true => e2
           rw [if_neg (fun q => by rw [q, beq_self_eq_true] at e1; cases e1), if_pos (eq_of_beq e2)]
           exact ⟨_, rfl⟩)
        | assumption
        | (unfold foundF
           rename (y == x) = false => e1
           rename (udmF _ _ == true) = false => e2
           rw [if_neg (fun q => by rw [q, beq_self_eq_true] at e1; cases e1), if_neg (fun q => by rw [q] at e2; cases e2)])
        | skip
  · intro h tk u hJ F N
    k_steps
    refine hret _ _ _ ?_ (by assumption) (by assumption)
    rw [hJ rfl]
    rfl
theorem c_found0 {d l : Addr} {o : Obj} {x : Str} {tx : Tok} {nl : Nat} (B : Below A₀ base outer h₀) (F : Fr h₀ L s.heap m) (X : (hd.heap_39 w.params).In h₀) (N : News h₀ L s.heap ((d, o) :: (l, listOf #[] nl) :: news))
    (T : Top hd.view_39 (looseW hd.view_39 [Str.ofString "IPV4_RE", Str.ofString "insort_left", Str.ofString "bisect_left"]) mean mg mb h₀) (hk : cs.kind = .function)
    (hd' : dp + 4 < recursionLimit) (hu : un + 20 * 4 < cLine)
    (hret : ∀ h' tk', Fr h₀ L h' m → News h₀ L h' ((d, o) :: (l, listOf #[] nl) :: news) → Q .none { s with heap := h', toks := tk' }) :
    wpAny (model prog w) (ktrTop dp un gd cn cs L a ccd cl outer) (call (.ref 115) [.ref d, .ref l, .str x tx]) Q E s := by
  refine wpAny_call ?_
  k_with_none
  k_with "m:subscriptTail" => (k_here; (with_reducible show wpAny _ _ (subscriptTail _ _ (Value.ref _) (Value.str _ _)) _ _ _); (with_unfolding_all refine' dict_item ?k1 ?k2 ?k3 ?k4 ?_; (case k1 => k_asm); (case k2 => k_mem); (case k3 => assumption); (case k4 => assumption); k_whole))
  k_with "m:call ref" => (k_here; (with_reducible show wpAny _ _ (call (Value.ref 57) [Value.str _ _, Value.str _ _]) _ _ _); k_dflt (refine' c_udm ?k1 ?k2 ?k3 ?k4 ?k5 ?k6 ?k7 ?k8 ?k9 ?k10 ?k11 ?k12 ?_; (case k1 => k_asm); (case k2 => k_asm); (case k3 => k_asm); (case k4 => k_asm); (case k5 => k_asm); (case k6 => first | exact rfl | assumption); (case k7 => first | ktr_room | ((try dsimp only); omega)); (case k8 => first | ktr_units | ((try dsimp only); omega)); (case k9 => k_asm); (case k10 => k_asm); (case k11 => k_asm); (case k12 => k_asm)); intro h' tk' F' N'; (try dsimp only))
  k_dflt cell_enter
  k_steps
  k_here
  with_reducible rename Fr _ _ _ _ => F₁
  with_reducible rename News _ _ _ _ => N₂
  refine forA_For (l := l) (vs := []) (nn := nl) (fun i => True) (wpAny_Name (wpAny_loadName_local rfl rfl F₁.ns rfl ⟨rfl, rfl⟩)) (fun _ => rfl) rfl rfl rfl (.tail _ (.head _)) F₁ N₂ trivial ?_ ?_
  · intro i v h tk I oI hv' hJ F N
    simp at hv'
  · intro h tk u hJ F N
    k_steps
    exact hret _ _ (by assumption) (by assumption)
/-- what _law_found looks at: nothing, or one key of the names -/
noncomputable def NameOk (y : Str) : Prop := y.length ≤ 60 ∧ (Txt.upper y).length ≤ 1000 ∧ NoDig (Txt.lower (Txt.upper y)).cps
noncomputable def FoundAt (kvs : List (Str × Value)) (x : Str) (vs : List Value) (r : Option Str) : Prop := (vs = [] ∧ r = none) ∨ ∃ k t y ty, vs = [.str k t] ∧ valueAt kvs k = some (.str y ty) ∧ NameOk y ∧ r = foundF y x
theorem c_foundM {d l : Addr} {o : Obj} {kvs : List (Str × Value)} {vs : List Value} {r : Option Str} {x : Str} {tx : Tok} {nl : Nat} (B : Below A₀ base outer h₀) (F : Fr h₀ L s.heap m) (X : (hd.heap_39 w.params).In h₀) (N : News h₀ L s.heap news)
    (T : Top hd.view_39 (looseW hd.view_39 [Str.ofString "IPV4_RE", Str.ofString "insort_left", Str.ofString "bisect_left"]) mean mg mb h₀) (hk : cs.kind = .function)
    (hd' : dp + 4 < recursionLimit) (hu : un + 20 * 4 < cLine) (hm1 : (d, o) ∈ news) (hm2 : (l, listOf vs.toArray nl) ∈ news) (hD : o.IsDictOf (PySem.strKind prog w) kvs) (lo : (d == sysModules) = false) (hf : FoundAt kvs x vs r)
    (hx : x.length ≤ 60) (hx2 : (Str.ofString "." ++ x).length ≤ 1000) (nd' : NoDig (Txt.lower (Str.ofString "." ++ x)).cps)
    (hret : ∀ v h' tk', optIs r v → Fr h₀ L h' m → News h₀ L h' news → Q v { s with heap := h', toks := tk' }) :
    wpAny (model prog w) (ktrTop dp un gd cn cs L a ccd cl outer) (call (.ref 115) [.ref d, .ref l, .str x tx]) Q E s := by
  rcases hf with ⟨rfl, rfl⟩ | ⟨k, t, y, ty, rfl, hv, ⟨hy, hyu, nd⟩, rfl⟩
  · exact c_found0 (news := news) B F X (fun p hp => by
      rcases List.mem_cons.mp hp with rfl | hp
      · exact N _ hm1
      · rcases List.mem_cons.mp hp with rfl | hp
        · exact N _ hm2
        · exact N p hp) T hk hd' hu fun h' tk' F' N' => hret _ h' tk' rfl F' (N_sub N' fun p hp => .tail _ (.tail _ hp))
  · exact c_found1 (news := news) B F X (fun p hp => by
      rcases List.mem_cons.mp hp with rfl | hp
      · exact N _ hm1
      · rcases List.mem_cons.mp hp with rfl | hp
        · exact N _ hm2
        · exact N p hp) T hk hd' hu hD lo hv hy hyu nd hx hx2 nd' fun v h' tk' ho F' N' => hret _ h' tk' ho F' (N_sub N' fun p hp => .tail _ (.tail _ hp))
end
end Mine
end
section -- P2s
open PySem PySem.W PyProof.Rows PySem.Calls PyProof.V
namespace Mine
structure Zone (Z : List (List Str)) (R : List Str) (kvs : List (Str × Value)) : Prop where
  zin : ∀ z ∈ Z, z ∈ ZNAMES
  root : [labLoc] ∈ Z
  len : Z.length ≤ 5
  rlen : R.length = Z.length
  sorted : R.Pairwise (fun a b => a.cps.toList < b.cps.toList)
  row : ∀ r, r ∈ R ↔ ∃ z ∈ Z, r = turnF z
  dict : ∀ z ∈ Z, ∃ t, valueAt kvs (turnF z) = some (.str (joinF z) t)
  dictR : ∀ k v, valueAt kvs k = some v → k ∈ R
noncomputable def placeN (R : List Str) (x : Str) : Nat := R.countP fun r => decide (r.cps.toList < x.cps.toList)
section
variable {Z : List (List Str)} {R : List Str} {kvs : List (Str × Value)} {vs : List Value}
theorem place_le (R : List Str) (x : Str) : placeN R x ≤ R.length := List.countP_le_length
theorem place_cons (r : Str) (R : List Str) (x : Str) : placeN (r :: R) x = placeN R x + if r.cps.toList < x.cps.toList then 1 else 0 := by
  unfold placeN
  rw [List.countP_cons]
  simp
theorem place_at : ∀ {R : List Str}, R.Pairwise (fun a b => a.cps.toList < b.cps.toList) → ∀ (x : Str) i, i < R.length → ((R.getD i Str.empty).cps.toList < x.cps.toList ↔ i < placeN R x)
  | [], _, _, _, h => by simp at h
  | r :: R, hp, x, i, h => by
    have hr := fun {y : Str} (hy : y ∈ R) => (List.pairwise_cons.mp hp).1 y hy
    have ht := (List.pairwise_cons.mp hp).2
    rw [place_cons]
    by_cases hx : r.cps.toList < x.cps.toList
    · rw [if_pos hx]
      cases i with
      | zero => simp [hx]
      | succ i =>
        rw [List.getD_cons_succ, place_at ht x i (by simpa using h)]
        omega
    · have h0 : placeN R x = 0 := by
        unfold placeN
        rw [List.countP_eq_zero]
        intro y hy
        have := hr hy
        rw [decide_eq_true_eq]
        exact fun q => hx (lt_trans' this q)
      rw [if_neg hx, h0]
      cases i with
      | zero => simp [hx]
      | succ i =>
        have h1 := (place_at ht x i (by simpa using h)).mp
        rw [List.getD_cons_succ]
        constructor
        · intro q; have := h1 q; omega
        · intro q; omega
theorem place_lt (hZ : Zone Z R kvs) (x : Str) : ∀ i, i < R.length → ((R.getD i Str.empty).cps.toList < x.cps.toList ↔ i < placeN R x) := place_at hZ.sorted x
/-- what stands at a place of the row -/
theorem row_at (hZ : Zone Z R kvs) {i : Nat} (hi : i < R.length) : ∃ z ∈ Z, R[i]? = some (turnF z) ∧ R.getD i Str.empty = turnF z := by
  have hm : R[i] ∈ R := List.getElem_mem hi
  obtain ⟨z, hz, e⟩ := (hZ.row R[i]).mp hm
  exact ⟨z, hz, by rw [List.getElem?_eq_getElem hi, e], by rw [List.getD_eq_getElem?_getD, List.getElem?_eq_getElem hi, e]; rfl⟩
theorem row_idx (hZ : Zone Z R kvs) {z : List Str} (hz : z ∈ Z) : ∃ i, i < R.length ∧ R.getD i Str.empty = turnF z := by
  obtain ⟨i, hi, e⟩ := List.getElem_of_mem ((hZ.row (turnF z)).mpr ⟨z, hz, rfl⟩)
  exact ⟨i, hi, by rw [List.getD_eq_getElem?_getD, List.getElem?_eq_getElem hi, e]; rfl⟩
theorem row_mono (hZ : Zone Z R kvs) {i j : Nat} (hij : i ≤ j) (hj : j < R.length) {x y : List Str} (hx : x ∈ Z) (hy : y ∈ Z) (ex : R.getD i Str.empty = turnF x) (ey : R.getD j Str.empty = turnF y) : idxN x ≤ idxN y := by
  rcases Nat.lt_or_ge (idxN y) (idxN x) with q | q
  · have h1 := idx_lt (hZ.zin y hy) (hZ.zin x hx) q
    rcases Nat.eq_or_lt_of_le hij with rfl | hlt
    · rw [ex] at ey
      have := turnF_inj (hZ.zin x hx) (hZ.zin y hy) ey
      subst this; omega
    · have h2 := (List.pairwise_iff_getElem.mp hZ.sorted) i j (by omega) hj hlt
      have e1 : R[i] = turnF x := by rw [← ex, List.getD_eq_getElem?_getD, List.getElem?_eq_getElem (by omega)]; rfl
      have e2 : R[j] = turnF y := by rw [← ey, List.getD_eq_getElem?_getD, List.getElem?_eq_getElem hj]; rfl
      rw [e1, e2, turnF_cps, turnF_cps] at h2
      exact (lt_irr (lt_trans' h1 h2)).elim
  · exact q
/-- the neighbours in the row -/
theorem row_succ (hZ : Zone Z R kvs) {xs : List Str} (hx : xs ∈ ZNAMES) (hk : placeN R (turnF xs) < R.length) :
    ∃ z ∈ Z, R[placeN R (turnF xs)]? = some (turnF z) ∧ idxN xs ≤ idxN z ∧ ∀ y ∈ Z, idxN xs ≤ idxN y → idxN z ≤ idxN y := by
  obtain ⟨z, hz, e, e2⟩ := row_at hZ hk
  have h1 := place_lt hZ (turnF xs) _ hk
  rw [e2, turnF_cps, turnF_cps, turn_lt (hZ.zin z hz) hx] at h1
  refine ⟨z, hz, e, by omega, fun y hy hxy => ?_⟩
  obtain ⟨j, hj, ej⟩ := row_idx hZ hy
  have h2 := place_lt hZ (turnF xs) _ hj
  rw [ej, turnF_cps, turnF_cps, turn_lt (hZ.zin y hy) hx] at h2
  exact row_mono hZ (by omega) hj hz hy e2 ej
theorem row_end (hZ : Zone Z R kvs) {xs : List Str} (hx : xs ∈ ZNAMES) (hk : R.length ≤ placeN R (turnF xs)) : ∀ y ∈ Z, idxN y < idxN xs := by
  intro y hy
  obtain ⟨j, hj, ej⟩ := row_idx hZ hy
  have h2 := place_lt hZ (turnF xs) _ hj
  rw [ej, turnF_cps, turnF_cps, turn_lt (hZ.zin y hy) hx] at h2
  exact h2.mpr (by omega)
theorem row_pred (hZ : Zone Z R kvs) {xs : List Str} (hx : xs ∈ ZNAMES) (hk : 1 ≤ placeN R (turnF xs)) :
    ∃ z ∈ Z, R[placeN R (turnF xs) - 1]? = some (turnF z) ∧ idxN z < idxN xs ∧ ∀ y ∈ Z, idxN y < idxN xs → idxN y ≤ idxN z := by
  have hle := place_le R (turnF xs)
  obtain ⟨z, hz, e, e2⟩ := row_at hZ (i := placeN R (turnF xs) - 1) (by omega)
  have h1 := place_lt hZ (turnF xs) (placeN R (turnF xs) - 1) (by omega)
  rw [e2, turnF_cps, turnF_cps, turn_lt (hZ.zin z hz) hx] at h1
  refine ⟨z, hz, e, h1.mpr (by omega), fun y hy hxy => ?_⟩
  obtain ⟨j, hj, ej⟩ := row_idx hZ hy
  have h2 := place_lt hZ (turnF xs) _ hj
  rw [ej, turnF_cps, turnF_cps, turn_lt (hZ.zin y hy) hx] at h2
  have h3 := h2.mp hxy
  exact row_mono hZ (by omega) (by omega) hy hz ej e2
theorem names_pos : ∀ xs ∈ NAMES, 1 ≤ idxN xs := by decide +kernel
theorem owned_none {xs : List Str} : ownedF Z xs = none ↔ ∀ z ∈ Z, suffixB z xs = false := by
  unfold ownedF
  constructor
  · intro h z hz
    by_cases h1 : xs ∈ Z
    · rw [if_pos h1] at h; cases h
    · rw [if_neg h1] at h
      by_cases h2 : (Z.any fun ys => suffixB ys xs) = true
      · rw [if_pos h2] at h; cases h
      · cases q : suffixB z xs with
        | false => rfl
        | true => exact (h2 (List.any_eq_true.mpr ⟨z, hz, q⟩)).elim
  · intro h
    have h1 : xs ∉ Z := fun hm => by have := h xs hm; rw [suf_self] at this; cases this
    rw [if_neg h1, if_neg]
    intro h2
    obtain ⟨z, hz, q⟩ := List.any_eq_true.mp h2
    rw [h z hz] at q; cases q
theorem place_pos (hZ : Zone Z R kvs) {xs : List Str} (hn : xs ∈ NAMES) : 1 ≤ placeN R (turnF xs) := by
  obtain ⟨j, hj, ej⟩ := row_idx hZ hZ.root
  have h2 := place_lt hZ (turnF xs) _ hj
  rw [ej, turnF_cps, turnF_cps, turn_lt (.head _) (.tail _ hn)] at h2
  have h3 := names_pos xs hn
  have h4 := h2.mp h3
  omega
theorem join_inj {x y : List Str} (hx : x ∈ ZNAMES) (hy : y ∈ ZNAMES) (h : joinF x = joinF y) : x = y := by
  have h1 := key_join x hx
  rw [h, ← key_join y hy] at h1
  obtain ⟨q, hq⟩ := key_suf (xs := y) (z := x) (p := []) (znames_shape y hy).1 (znames_shape x hx).1 h1
  obtain ⟨r, hr⟩ := key_suf (xs := x) (z := y) (p := []) (znames_shape x hx).1 (znames_shape y hy).1 h1.symm
  have l1 := congrArg List.length hq
  have l2 := congrArg List.length hr
  rw [List.length_append] at l1 l2
  have : q = [] := List.eq_nil_of_length_eq_zero (by omega)
  rw [this] at hq
  exact hq.symm
theorem udm_up {z xs : List Str} (hz : z ∈ ZNAMES) (hx : xs ∈ ZNAMES) : udmF (Txt.upper (joinF z)) (Str.ofString "." ++ joinF xs) = (suffixB z xs && !decide (z = xs)) := by
  have g1 := (znames_small z hz).2
  have g2 := good_dot (znames_small xs hx).2
  unfold udmF
  rw [low_id g2, if_pos (starts_dot _), low_up g1, ends_name hz hx]
theorem nameOk {z : List Str} (hz : z ∈ ZNAMES) : NameOk (joinF z) := by
  have g1 := znames_small z hz
  refine ⟨by omega, ?_, ?_⟩
  · rw [upper_ascii fun c hc => by have := g1.2 c hc; omega]
    show ((joinF z).cps.map up1).size ≤ 1000
    rw [Array.size_map]
    have : (joinF z).cps.size = (joinF z).length := rfl
    omega
  · rw [low_up g1.2]; exact nodig_good g1.2
theorem strs_get : ∀ {vs : List Value} {R : List Str}, StrsAre vs R → ∀ {i : Nat} {x : Str}, R[i]? = some x → ∃ t, vs[i]? = some (.str x t)
  | _, _, .nil, _, _, h => by simp at h
  | _, _, .cons n t h, i, x, e => by
    cases i with
    | zero => simp at e; exact ⟨t, by simp [e]⟩
    | succ i => obtain ⟨u, hu⟩ := strs_get h (i := i) (by simpa using e); exact ⟨u, by simpa using hu⟩
theorem found_at (hZ : Zone Z R kvs) (hR : StrsAre vs R) {xs : List Str} (hn : xs ∈ NAMES) : FoundAt kvs (joinF xs) ((vs.drop (placeN R (turnF xs))).take 1) (ownedF Z xs) := by
  have hx : xs ∈ ZNAMES := .tail _ hn
  have hl := hR.length
  rcases Nat.lt_or_ge (placeN R (turnF xs)) R.length with hk | hk
  · obtain ⟨z, hz, e, h1, h2⟩ := row_succ hZ hx hk
    obtain ⟨t, ht⟩ := hZ.dict z hz
    have hzz := hZ.zin z hz
    obtain ⟨tv, hv⟩ := strs_get hR e
    refine .inr ⟨turnF z, tv, joinF z, t, ?_, ht, nameOk hzz, ?_⟩
    · rw [List.drop_eq_getElem_cons (by omega)]
      obtain ⟨_, hv'⟩ := List.getElem?_eq_some_iff.mp hv
      rw [hv']; rfl
    · unfold foundF
      rw [udm_up hzz hx]
      by_cases hzx : z = xs
      · subst hzx
        rw [if_pos rfl]
        unfold ownedF
        rw [if_pos hz]
        rfl
      · have hj : joinF z ≠ joinF xs := fun q => hzx (join_inj hzz hx q)
        have hxZ : xs ∉ Z := fun q => hzx (idx_inj hzz hx (Nat.le_antisymm (h2 xs q (Nat.le_refl _)) h1))
        rw [if_neg hj]
        unfold ownedF
        rw [if_neg hxZ]
        have ha : (Z.any fun ys => suffixB ys xs) = suffixB z xs := by
          cases q : suffixB z xs with
          | true => exact List.any_eq_true.mpr ⟨z, hz, q⟩
          | false =>
            rw [List.any_eq_false]
            intro y hy hs
            rw [suf_iff (hZ.zin y hy) hx] at hs
            have h3 := h2 y hy hs.1
            have : suffixB z xs = true := (suf_iff hzz hx).mpr ⟨h1, by omega⟩
            rw [q] at this; cases this
        rw [ha]
        simp [hzx]
  · refine .inl ⟨?_, ?_⟩
    · rw [List.drop_of_length_le (by omega)]; rfl
    · rw [owned_none]
      intro z hz
      have h1 := row_end hZ hx hk z hz
      cases q : suffixB z xs with
      | false => rfl
      | true => have := (suf_iff (hZ.zin z hz) hx).mp q; omega
/-- what stands beside the name asked -/
noncomputable def besideF (R : List Str) (k : Nat) : List Str := (R.drop (k - 1)).take 2
end
theorem name_len {xs : List Str} (hn : xs ∈ ZNAMES) : (joinF xs).length ≤ 60 := Nat.le_trans (znames_small xs hn).1 (by decide)
theorem name_len3 {xs : List Str} (hn : xs ∈ ZNAMES) : (Str.ofString "." ++ joinF xs).length ≤ 60 := by
  have := (znames_small xs hn).1
  have e : (Str.ofString "." ++ joinF xs).length = 1 + (joinF xs).length := by
    show ((#[46] ++ (joinF xs).cps : Array Nat)).size = _
    simp [Str.length]
  omega
theorem name_len2 {xs : List Str} (hn : xs ∈ ZNAMES) : (Str.ofString "." ++ joinF xs).length ≤ 1000 := Nat.le_trans (name_len3 hn) (by decide)
theorem name_nd {xs : List Str} (hn : xs ∈ ZNAMES) : NoDig (Txt.lower (Str.ofString "." ++ joinF xs)).cps := by
  have g := good_dot (znames_small xs hn).2
  rw [low_id g]
  exact nodig_good g
theorem comp_news {g h h' : Heap} {L D nD : Addr} {m : Str → Option Value} {led : List (Addr × Obj)} {it : Obj} {ys : List Value} (F : Fr g L h m) (N : News g L h led) (hkk : ∀ b o, b ≠ L → b ∉ [h.objs.size] → (h.push it).get? b = some o → h'.get? b = some o)
    (hD : (h.push it).get? D = none) (hD2 : h'.get? D = some (listOf ys.toArray nD)) : News g L h' ((D, listOf ys.toArray nD) :: led) ∧ (∀ p ∈ led, p.1 ≠ D) ∧ (∀ b o, g.get? b = some o → h'.get? b = some o) := by
  have k : ∀ b o, b ≠ L → h.get? b = some o → h'.get? b = some o := fun b o n e => hkk b o n (fun q => Nat.lt_irrefl _ (List.mem_singleton.mp q ▸ Heap.lt_size e)) (Heap.get?_push_of_some _ e)
  have hDL : D ≠ L := fun q => by
    obtain ⟨o, _, _, ho, _⟩ := F.ns
    have := Heap.get?_push_of_some it ho
    rw [← q, hD] at this; cases this
  have hDg : g.get? D = none := by
    cases e : g.get? D with
    | none => rfl
    | some o => have := Heap.get?_push_of_some it (F.keep _ _ e); rw [hD] at this; cases this
  refine ⟨fun p hp => ?_, fun p hp e => ?_, fun b o e => k b o (fun q => ?_) (F.keep b o e)⟩
  · rcases List.mem_cons.mp hp with rfl | hp
    · exact ⟨hD2, hDL, hDg⟩
    · exact ⟨k _ _ (N p hp).2.1 (N p hp).1, (N p hp).2⟩
  · have := Heap.get?_push_of_some it (N p hp).1
    rw [e, hD] at this; cases this
  · have h1 := Heap.lt_size e
    have h2 := F.above
    rw [q] at h1
    exact absurd (Nat.lt_of_lt_of_le h1 h2) (Nat.lt_irrefl _)
theorem beside_pairs {Z : List (List Str)} : ∀ {vs ys : List Value} {keys : List Str}, Paired (fun v y => ∃ (z : List Str) (t t' : Tok), z ∈ Z ∧ v = Value.str (turnF z) t ∧ y = Value.str (Str.ofString "x." ++ joinF z) t') vs ys → StrsAre vs keys →
    ∃ zs : List (List Str), (∀ z ∈ zs, z ∈ Z) ∧ zs.map turnF = keys ∧ StrsAre ys (zs.map fun z => Str.ofString "x." ++ joinF z)
  | _, _, _, .nil, h => by cases h; exact ⟨[], (fun _ h => nomatch h), rfl, .nil⟩
  | _, _, _, .cons ⟨z, t, t', hz, hv, hy⟩ hp, h => by
    subst hv hy
    cases h with
    | cons n t h =>
      obtain ⟨zs, h1, h2, h3⟩ := beside_pairs hp h
      exact ⟨z :: zs, fun y hy => (List.mem_cons.mp hy).elim (fun e => e ▸ hz) (h1 y), by rw [List.map_cons, h2], .cons _ _ h3⟩
theorem slice_ab {vs : List Value} {a b : Nat} {lo hi : Int} (h1 : lo = (a : Nat)) (h2 : hi = (b : Nat)) : (slicePick vs.toArray (some lo) (some hi) none).toList = (vs.drop a).take (b - a) := by
  subst h1 h2
  rw [slicePick_plain]
  simp only [Option.elim, clipAt_nat, List.size_toArray]
  rcases Nat.le_total a vs.length with h | h
  · rw [Nat.min_eq_left h]
    rcases Nat.le_total b vs.length with h' | h'
    · rw [Nat.min_eq_left h']
    · rw [Nat.min_eq_right h', List.take_of_length_le (by simp), List.take_of_length_le (by simp; omega)]
  · rw [Nat.min_eq_right h, List.drop_of_length_le (by simp), List.drop_of_length_le (by simpa using h)]; simp
theorem names_reach : ∀ xs ∈ NAMES, reachF (joinF xs) = Str.ofString "." ++ joinF xs.tail := by decide +kernel
theorem names_ends : ∀ xs ∈ NAMES, 1 ≤ (joinF xs).length ∧ ((joinF xs) == Str.ofString "") = false ∧ (Txt.item (joinF xs) 0 == Str.ofString ".") = false ∧ (Txt.item (joinF xs) (-1) == Str.ofString ".") = false := by decide +kernel
theorem names_tail : ∀ xs ∈ NAMES, xs.tail ∈ ZNAMES := by decide +kernel
theorem reach_name {xs : List Str} (hn : xs ∈ NAMES) : reachF (joinF xs) = Str.ofString "." ++ joinF xs.tail := names_reach xs hn
theorem reach_ok {xs : List Str} (hn : xs ∈ NAMES) : NoDig (joinF xs).cps ∧ 1 ≤ (joinF xs).length ∧ ((joinF xs) == Str.ofString "") = false ∧ (Txt.item (joinF xs) 0 == Str.ofString ".") = false ∧ (Txt.item (joinF xs) (-1) == Str.ofString ".") = false := ⟨nodig_good (znames_small xs (.tail _ hn)).2, names_ends xs hn⟩
theorem udm_ok {z D : List Str} (hz : z ∈ ZNAMES) (hD : D ∈ ZNAMES) : NoDig (Txt.lower (Str.ofString "x." ++ joinF z)).cps ∧ NoDig (Txt.lower (Txt.upper (Str.ofString "." ++ joinF D))).cps ∧ (Str.ofString "x." ++ joinF z).length ≤ 1000 ∧ (Txt.upper (Str.ofString "." ++ joinF D)).length ≤ 1000 := by
  have g1 := good_xdot (znames_small z hz).2
  have g2 := good_dot (znames_small D hD).2
  refine ⟨by rw [low_id g1]; exact nodig_good g1, by rw [low_up g2]; exact nodig_good g2, ?_, ?_⟩
  · have := (znames_small z hz).1
    have e : (Str.ofString "x." ++ joinF z).length = 2 + (joinF z).length := by
      show ((#[120, 46] ++ (joinF z).cps : Array Nat)).size = _
      simp [Str.length]
    omega
  · rw [upper_ascii fun c hc => by have := g2 c hc; omega]
    show ((Str.ofString "." ++ joinF D).cps.map up1).size ≤ 1000
    rw [Array.size_map]
    exact Nat.le_trans (name_len3 hD) (by decide)
theorem udm_name {z D : List Str} (hz : z ∈ ZNAMES) (hD : D ∈ ZNAMES) : udmF (Str.ofString "x." ++ joinF z) (Txt.upper (Str.ofString "." ++ joinF D)) = suffixB z D := by
  have g1 := good_xdot (znames_small z hz).2
  have g2 := good_dot (znames_small D hD).2
  unfold udmF
  rw [low_up g2, if_pos (starts_dot _), low_id g1, ends_xname hz hD]
theorem suf_z : ∀ xs ∈ ZNAMES, ∀ D, D <:+ xs → D ≠ [] → D ∈ ZNAMES := by
  intro xs hx D hs hne
  have key : ∀ n, ∀ xs ∈ ZNAMES, xs.length = n → D <:+ xs → D ∈ ZNAMES := by
    intro n
    induction n with
    | zero => intro xs hx hl _; have := (znames_shape xs hx).2.1; omega
    | succ n ih =>
      intro xs hx hl hs
      cases xs with
      | nil => simp at hl
      | cons a r =>
        rcases List.suffix_cons_iff.mp hs with e | e
        · rw [e]; exact hx
        · cases r with
          | nil => exact (hne (List.suffix_nil.mp e)).elim
          | cons b r =>
            rcases List.mem_cons.mp hx with h1 | h1
            · cases h1
            · exact ih (b :: r) (names_tail _ h1) (by simpa using hl) e
  exact key _ xs hx rfl hs
/-- the climb's test, told by the two beside alone -/
theorem beside_owned {Z : List (List Str)} {R : List Str} {kvs : List (Str × Value)} (hZ : Zone Z R kvs) {xs D : List Str} (hn : xs ∈ NAMES) (ho : ownedF Z xs = none) (hD : D ≠ []) (hs : D <:+ xs) {zs : List (List Str)} (hzs : ∀ z ∈ zs, z ∈ Z)
    (hzk : zs.map turnF = (R.drop (placeN R (turnF xs) - 1)).take 2) : (zs.filter fun z => suffixB z D) = [] ↔ ownedF Z D = none := by
  have hx : xs ∈ ZNAMES := .tail _ hn
  have hDz : D ∈ ZNAMES := suf_z xs hx D hs hD
  rw [owned_none, List.filter_eq_nil_iff]
  have hno := owned_none.mp ho
  have hpos := place_pos hZ hn
  have hxD := (suf_iff hx hDz).mp (suf_of hs)
  have inz : ∀ (i : Nat) (y : List Str), y ∈ Z → i < 2 → R[placeN R (turnF xs) - 1 + i]? = some (turnF y) → y ∈ zs := by
    intro i y hy hi e
    have h1 : ((R.drop (placeN R (turnF xs) - 1)).take 2)[i]? = some (turnF y) := by
      rw [List.getElem?_take_of_lt hi, List.getElem?_drop, e]
    rw [← hzk, List.getElem?_map] at h1
    obtain ⟨y', hy', e'⟩ := Option.map_eq_some_iff.mp h1
    have hm := List.mem_of_getElem? hy'
    rw [← turnF_inj (hZ.zin _ (hzs _ hm)) (hZ.zin y hy) e']
    exact hm
  constructor
  · intro h z hz
    cases q : suffixB z D with
    | false => rfl
    | true =>
      have hzD := (suf_iff (hZ.zin z hz) hDz).mp q
      have hne : idxN z ≠ idxN xs := fun e => by
        have := idx_inj (hZ.zin z hz) hx e
        subst this
        have := hno z hz
        rw [suf_self] at this; cases this
      rcases Nat.lt_or_ge (idxN z) (idxN xs) with hlt | hge
      · obtain ⟨p, hp, e, h1, h2⟩ := row_pred hZ hx hpos
        have h3 := h2 z hz hlt
        have hpD : suffixB p D = true := (suf_iff (hZ.zin p hp) hDz).mpr (by omega)
        exact (h p (inz 0 p hp (by omega) (by simpa using e)) hpD).elim
      · have hk : placeN R (turnF xs) < R.length := by
          rcases Nat.lt_or_ge (placeN R (turnF xs)) R.length with q | q
          · exact q
          · have := row_end hZ hx q z hz; omega
        obtain ⟨p, hp, e, h1, h2⟩ := row_succ hZ hx hk
        have h3 := h2 z hz (by omega)
        have hpD : suffixB p D = true := (suf_iff (hZ.zin p hp) hDz).mpr (by omega)
        exact (h p (inz 1 p hp (by omega) (by rw [show placeN R (turnF xs) - 1 + 1 = placeN R (turnF xs) by omega]; exact e)) hpD).elim
  · intro h z hz
    rw [h z (hzs z hz)]
    decide
theorem tail_z {xs : List Str} (hn : xs ∈ NAMES) : xs.tail ∈ ZNAMES := names_tail xs hn
theorem paired_eq : ∀ {vs ys : List Value}, Paired (fun v y => y = v) vs ys → ys = vs
  | _, _, .nil => rfl
  | _, _, .cons h r => by rw [h, paired_eq r]
theorem beside_filter {p : Value → Bool} {q : List Str → Bool} {f : List Str → Str} : ∀ {zs : List (List Str)} {bs : List Value}, StrsAre bs (zs.map f) → (∀ z ∈ zs, ∀ t, p (.str (f z) t) = q z) → StrsAre (bs.filter p) ((zs.filter q).map f)
  | [], _, h, _ => by cases h; exact .nil
  | z :: zs, _, h, hp => by
    cases h with
    | cons n t h =>
      have ih := beside_filter h (fun z hz => hp z (.tail _ hz))
      have h1 := hp z (.head _) t
      rw [List.filter_cons, List.filter_cons, h1]
      cases hq : q z with
      | true => simp only [if_true, List.map_cons]; exact .cons _ _ ih
      | false => simpa using ih
theorem names_xok : ∀ z ∈ ZNAMES, PyData.strOk (Str.ofString "x." ++ joinF z) = true := by decide +kernel
theorem xdat_ok {zs : List (List Str)} (hz : ∀ z ∈ zs, z ∈ ZNAMES) {q : List Str → Bool} : ∀ d ∈ ((zs.filter q).map fun z => Str.ofString "x." ++ joinF z).map Dat.str, kqdOk 8 d = true := by
  intro d hd
  obtain ⟨y, hy, rfl⟩ := List.mem_map.mp hd
  obtain ⟨z, hz', rfl⟩ := List.mem_map.mp hy
  simp only [kqdOk]
  exact names_xok z (hz z (List.mem_filter.mp hz').1)
theorem xdat_nil {zs : List (List Str)} {q : List Str → Bool} {f : List Str → Str} {inst : Decidable (((zs.filter q).map f).map Dat.str = [])} : decide (((zs.filter q).map f).map Dat.str = []) = (zs.filter q).isEmpty := by
  have key : ∀ (l : List (List Str)) (inst : Decidable ((l.map f).map Dat.str = [])), @decide _ inst = l.isEmpty := by
    intro l inst
    cases l <;> simp
  exact key _ inst
theorem root_owned {Z : List (List Str)} {R : List Str} {kvs : List (Str × Value)} (hZ : Zone Z R kvs) {D : List Str} (hD : D ∈ ZNAMES) (h1 : D.length = 1) : ownedF Z D ≠ none := by
  have : D = [labLoc] := by
    rcases List.mem_cons.mp hD with rfl | h
    · rfl
    · have := names_shape D h; omega
  subst this
  intro h
  have := owned_none.mp h _ hZ.root
  rw [suf_self] at this; cases this
theorem climb_some {Z : List (List Str)} {D : List Str} {zs : List (List Str)} {t : Str} (h : zs = [] ↔ ownedF Z D = none) (ho : ownedF Z D = some t) : zs.isEmpty = false := by
  cases zs with
  | nil => have := h.mp rfl; rw [ho] at this; cases this
  | cons _ _ => rfl
theorem climb_none {Z : List (List Str)} {D : List Str} {zs : List (List Str)} (h : zs = [] ↔ ownedF Z D = none) (ho : ownedF Z D = none) : zs.isEmpty = true := by
  rw [h.mpr ho]; rfl
theorem star_all : ∀ D ∈ ZNAMES, D.length ≤ 3 → (Str.ofString "*" :: D) ∈ NAMES := by decide +kernel
theorem star_name {D : List Str} (hD : D ∈ ZNAMES) (h1 : D.length ≤ 3) : (Str.ofString "*" :: D) ∈ NAMES := star_all D hD h1
theorem str_app (a b c : Str) : a ++ b ++ c = a ++ (b ++ c) := by
  refine str_inj ?_
  show (a.cps ++ b.cps ++ c.cps).toList = (a.cps ++ (b.cps ++ c.cps)).toList
  simp
theorem star_join {D : List Str} (h : D ≠ []) : Str.ofString "*" ++ (Str.ofString "." ++ joinF D) = joinF (Str.ofString "*" :: D) := by
  unfold joinF Txt.join
  rw [StrLaws.glued_eq_join, StrLaws.glued_eq_join]
  cases D with
  | nil => exact (h rfl).elim
  | cons a r =>
    show _ = Str.ofString "*" ++ Str.ofString "." ++ Str.join (Str.ofString ".") (a :: r)
    exact (str_app _ _ _).symm
theorem z_name {xs : List Str} (h : xs ∈ ZNAMES) (h2 : 2 ≤ xs.length) : xs ∈ NAMES := by
  rcases List.mem_cons.mp h with rfl | h
  · simp at h2
  · exact h
theorem dot_len1 (x : Str) : (Str.ofString "." ++ x).length = 1 + x.length := by
  show ((#[46] ++ x.cps : Array Nat)).size = _
  simp [Str.length]
theorem names_slice : ∀ xs ∈ ZNAMES, Txt.slice (Str.ofString "." ++ joinF xs) (some 1) none = joinF xs := by decide +kernel
theorem beside_made {g h h' : Heap} {L D : Addr} {m : Str → Option Value} {led : List (Addr × Obj)} {it : Obj} {ys : Array Value} {vs us : List Value} {Z : List (List Str)} {keys : List Str} (F : Fr g L h m) (N : News g L h led)
    (hkk : ∀ b o, b ≠ L → b ∉ [h.objs.size] → (h.push it).get? b = some o → h'.get? b = some o) (hD : (h.push it).get? D = none) (hpl : h'.PlainList D ys) (hlen : vs.length = us.length) (hP : ∀ (j : Nat) v, vs[j]? = some v → us.toArray[j]? = some v)
    (hF : Paired (fun v y => ∃ (z : List Str) (t t' : Tok), z ∈ Z ∧ v = Value.str (turnF z) t ∧ y = Value.str (Str.ofString "x." ++ joinF z) t') (vs.filter fun _ => true) ys.toList) (hS : StrsAre us keys) :
    ∃ (nD : Nat) (bs : List Value) (zs : List (List Str)), (News g L h' ((D, listOf bs.toArray nD) :: led) ∧ (∀ p ∈ led, p.1 ≠ D) ∧ (∀ b o, g.get? b = some o → h'.get? b = some o)) ∧ (∀ z ∈ zs, z ∈ Z) ∧ zs.map turnF = keys ∧ StrsAre bs (zs.map fun z => Str.ofString "x." ++ joinF z) := by
  have hsl := same_vals hlen hP
  rw [List.filter_eq_self.mpr (fun _ _ => rfl), hsl] at hF
  obtain ⟨zs, h1, h2, h3⟩ := beside_pairs hF hS
  obtain ⟨nD, hD2⟩ := hpl
  exact ⟨nD, ys.toList, zs, comp_news F N hkk hD (by simpa using hD2), h1, h2, h3⟩
theorem beside_small {bs : List Value} {zs : List (List Str)} {f : List Str → Str} {R : List Str} {k : Nat} (hzv : StrsAre bs (zs.map f)) (hzk : zs.map turnF = (R.drop k).take 2) : bs.toArray.size ≤ sizeLine := by
  rw [sizeLine_eq, List.size_toArray, hzv.length, List.length_map]
  have := congrArg List.length hzk
  rw [List.length_map] at this
  rw [this]
  exact Nat.le_trans (List.length_take_le _ _) (by decide)
theorem climb_made {g h h' : Heap} {L D : Addr} {m : Str → Option Value} {led : List (Addr × Obj)} {it : Obj} {ys : Array Value} {vs us : List Value} {zs : List (List Str)} {p : Value → Bool} {q : List Str → Bool} {f : List Str → Str} (F : Fr g L h m) (N : News g L h led)
    (hkk : ∀ b o, b ∉ [h.objs.size] → (h.push it).get? b = some o → h'.get? b = some o) (hD : (h.push it).get? D = none) (hpl : h'.PlainList D ys) (hlen : vs.length = us.length) (hP : ∀ (j : Nat) v, vs[j]? = some v → us.toArray[j]? = some v)
    (hF : Paired (fun v y => y = v) (vs.filter p) ys.toList) (hS : StrsAre us (zs.map f)) (hp : ∀ z ∈ zs, ∀ t, p (.str (f z) t) = q z) :
    ∃ (nD : Nat) (cz : List Value), News g L h' ((D, listOf cz.toArray nD) :: led) ∧ Fr g L h' m ∧ StrsAre cz ((zs.filter q).map f) := by
  have hsl := same_vals hlen hP
  rw [hsl] at hF
  obtain ⟨nD, hD2⟩ := hpl
  obtain ⟨N', _, _⟩ := comp_news F N (fun b o _ => hkk b o) hD (nD := nD) (ys := ys.toList) (by simpa using hD2)
  refine ⟨nD, ys.toList, N', F.keeps (fun b o e => hkk b o (fun q => Nat.lt_irrefl _ (List.mem_singleton.mp q ▸ Heap.lt_size e)) (Heap.get?_push_of_some _ e)), ?_⟩
  rw [paired_eq hF]
  exact beside_filter hS hp
end Mine
end
section -- E3
open PySem PySem.W PyProof.Rows PySem.Calls
namespace Mine

theorem fill_E3 : (fun (_ : OpenLaw) (_ : Params → Frag) => True) PySem.Challenge.rw_zo0019_01 hd.heap_39 := by
  w_top off
  k_with_none
  k_fill
  trivial

section
variable {prog : Program} {w : World} {mean : ExcName → Option Value} {mg mb : Str → Option Value} {news : List (Addr × Obj)} {dp un : Nat} {gd : Option (List Code)} {cn : Str} {cs : Scope} {a : Addr} {ccd : Value} {cl : List (Str × Addr)} {outer : List Env} {A₀ : Around} {base h₀ : Heap} {L : Addr} {m : Str → Option Value} {s : Shared} {Q E : Value → Shared → Prop}
theorem c_reachJ {xs : List Str} {x : Str} {tx : Tok} (B : Below A₀ base outer h₀) (F : Fr h₀ L s.heap m) (X : (hd.heap_39 w.params).In h₀) (N : News h₀ L s.heap news)
    (T : Top hd.view_39 (looseW hd.view_39 [Str.ofString "IPV4_RE", Str.ofString "insort_left", Str.ofString "bisect_left"]) mean mg mb h₀) (hk : cs.kind = .function)
    (hd' : dp + 2 < recursionLimit) (hu : un + 20 * 2 < cLine) (hx : x = joinF xs) (hn : xs ∈ NAMES)
    (hret : ∀ (t : Tok) (h' : Heap) (tk' : Nat), Fr h₀ L h' m → News h₀ L h' news → Q (.str (Str.ofString "." ++ joinF xs.tail) t) { s with heap := h', toks := tk' }) :
    wpAny (model prog w) (ktrTop dp un gd cn cs L a ccd cl outer) (call (.ref 64) [.str x tx]) Q E s := by
  subst hx
  have hr := reach_ok hn
  refine c_reach B F X N T hk hd' hu hr.1 (Nat.le_trans (name_len (.tail _ hn)) (by decide)) hr.2.1 hr.2.2.1 hr.2.2.2.1 hr.2.2.2.2 fun t h' tk' F' N' => ?_
  rw [reach_name hn]
  exact hret t h' tk' F' N'
theorem ret_eq {Q : Value → Shared → Prop} {b b' : Bool} {s : Shared} (h : Q (.bool b) s) (e : b' = b) : Q (.bool b') s := e ▸ h
local macro_rules | `(tactic| walk_at "call ref") => `(tactic| k_extra "m:call ref")
theorem row_E3_1 : True := by
  k_with "m:call ref" => (k_here; (with_reducible show wpAny _ _ (call (Value.ref 50) [Value.str _ _]) _ _ _); k_dflt (refine' c_lib ?k1 ?k2 ?k3 ?k4 ?k5 ?k6 ?k7 ?k8 ?k9 ?_; (case k1 => k_asm); (case k2 => k_asm); (case k3 => k_asm); (case k4 => k_asm); (case k5 => k_asm); (case k6 => first | exact rfl | assumption); (case k7 => first | ktr_room | ((try dsimp only); omega)); (case k8 => first | ktr_units | ((try dsimp only); omega)); (case k9 => k_asm)); intro h' tk' F' N'; (try dsimp only))
  trivial
theorem c_udmP {x y : Str} {tx ty : Tok} (B : Below A₀ base outer h₀) (F : Fr h₀ L s.heap m) (X : (hd.heap_39 w.params).In h₀) (N : News h₀ L s.heap news)
    (T : Top hd.view_39 (looseW hd.view_39 [Str.ofString "IPV4_RE", Str.ofString "insort_left", Str.ofString "bisect_left"]) mean mg mb h₀) (hk : cs.kind = .function)
    (hd' : dp + 2 < recursionLimit) (hu : un + 20 * 2 < cLine) (nd : NoDig (Txt.lower x).cps) (nd' : NoDig (Txt.lower y).cps) (hx : x.length ≤ 1000) (hy : y.length ≤ 1000)
    (hret : ∀ (h' : Heap) (tk' : Nat), (∀ b o, s.heap.get? b = some o → h'.get? b = some o) → Q (.bool (udmF x y)) { s with heap := h', toks := tk' }) :
    wpAny (model prog w) (ktrTop dp un gd cn cs L a ccd cl outer) (call (.ref 57) [.str x tx, .str y ty]) Q E s := by
  k_with_none
  k_with "m:call ref" => (k_here; (with_reducible show wpAny _ _ (call (Value.ref 50) [Value.str _ _]) _ _ _); k_dflt (refine' c_lib ?k1 ?k2 ?k3 ?k4 ?k5 ?k6 ?k7 ?k8 ?k9 ?_; (case k1 => k_asm); (case k2 => k_asm); (case k3 => k_asm); (case k4 => k_asm); (case k5 => k_asm); (case k6 => first | exact rfl | assumption); (case k7 => first | ktr_room | ((try dsimp only); omega)); (case k8 => first | ktr_units | ((try dsimp only); omega)); (case k9 => k_asm)); intro h' tk' F' N'; (try dsimp only))
  refine wpAny_call ?_
  k_dflt (refine' code_pure ?k1 ?k2 ?k3 ?k5 ?kA ?kF ?kK ?k6 ?k7 ?k8 ?k9 ?kB ?_ ?c2 ?c3 ?c4 ?c5; (case kA => exact rfl); (case kF => exact rfl); (case kK => assumption); (case k1 => k_asm); (case k2 => k_asm); (case k3 => k_asm); (case k5 => k_asm); (case k6 => k_is); (case k7 => k_is); (case k8 => ktr_room); (case k9 => exact BindsTo.of_eq rfl); (case c5 => decide); (case kB => exact locs rfl); (case c2 => exact rfl); (case c3 => exact rfl); (case c4 => exact rfl); k_whole; intro L' h' F' N' B' X' T'; (try dsimp only); (try k_fold))
  clear B F N X T
  k_steps
  all_goals (with_reducible rename Fr _ _ _ _ => fE; exact ret_eq (hret _ _ fE.keep) (by unfold udmF; split <;> first | (simp_all; done)))
theorem c_udmJ {z D : List Str} {tx ty : Tok} (B : Below A₀ base outer h₀) (F : Fr h₀ L s.heap m) (X : (hd.heap_39 w.params).In h₀) (N : News h₀ L s.heap news)
    (T : Top hd.view_39 (looseW hd.view_39 [Str.ofString "IPV4_RE", Str.ofString "insort_left", Str.ofString "bisect_left"]) mean mg mb h₀) (hk : cs.kind = .function)
    (hd' : dp + 2 < recursionLimit) (hu : un + 20 * 2 < cLine) (hz : z ∈ ZNAMES) (hD : D ∈ ZNAMES)
    (hret : ∀ (h' : Heap) (tk' : Nat), (∀ b o, s.heap.get? b = some o → h'.get? b = some o) → Q (.bool (suffixB z D)) { s with heap := h', toks := tk' }) :
    wpAny (model prog w) (ktrTop dp un gd cn cs L a ccd cl outer) (call (.ref 57) [.str (Str.ofString "x." ++ joinF z) tx, .str (Txt.upper (Str.ofString "." ++ joinF D)) ty]) Q E s := by
  have hr := udm_ok hz hD
  refine c_udmP B F X N T hk hd' hu hr.1 hr.2.1 hr.2.2.1 hr.2.2.2 fun h' tk' hkp => ?_
  rw [udm_name hz hD]
  exact hret h' tk' hkp
end
end Mine
end
section -- D1
open PySem PySem.W PyProof.Rows PySem.Calls
namespace Mine

theorem fill_D1 : (fun (_ : OpenLaw) (_ : Params → Frag) => True) PySem.Challenge.rw_zo0019_01 hd.heap_39 := by
  w_top off
  k_with_none
  k_fill
  trivial

section
variable {prog : Program} {w : World} {mean : ExcName → Option Value} {mg mb : Str → Option Value} {news : List (Addr × Obj)} {dp un : Nat} {gd : Option (List Code)} {cn : Str} {cs : Scope} {a : Addr} {ccd : Value} {cl : List (Str × Addr)} {outer : List Env} {A₀ : Around} {base h₀ : Heap} {L : Addr} {m : Str → Option Value} {s : Shared} {Q E : Value → Shared → Prop}
theorem c_swap {b : Array UInt8} {t t' : Tok} {ks : List Int} (B : Below A₀ base outer h₀) (F : Fr h₀ L s.heap m) (X : (hd.heap_39 w.params).In h₀) (N : News h₀ L s.heap news)
    (T : Top hd.view_39 (looseW hd.view_39 [Str.ofString "IPV4_RE", Str.ofString "insort_left", Str.ofString "bisect_left"]) mean mg mb h₀) (hk : cs.kind = .function)
    (hd' : dp + 1 < recursionLimit) (hu : un + 20 * 1 < cLine) (hgd : gd = some []) (hb : KBw.bInts b = ks) (h1 : 1 ≤ ks.length) (h2 : ks.length ≤ 100) {n : Int} (hn : n = ks.length)
    (hret : ∀ b' t'' tk h', KBw.bInts b' = ks.reverse → (∀ b o, s.heap.get? b = some o → h'.get? b = some o) → Q (.bytes b' t'') { s with heap := h', toks := tk }) :
    wpS (model prog w) (ktrTop dp un gd cn cs L a ccd cl outer) (call (.ref 96) [.bytes b t, .int n t']) Q E s := by
  subst hn
  k_with_none
  refine wpS_call ?_
  k_dflt (refine' code_pureS ?k1 ?k2 ?k3 ?k5 ?kA ?kF ?kK ?k6 ?k7 ?k8 ?k9 ?kB ?_ ?c2 ?c3 ?c4 ?c5; (case kA => exact rfl); (case kF => exact rfl); (case kK => assumption); (case k1 => k_asm); (case k2 => k_asm); (case k3 => k_asm); (case k5 => k_asm); (case k6 => k_is); (case k7 => k_is); (case k8 => ktr_room); (case k9 => exact BindsTo.of_eq rfl); (case c5 => decide); (case kB => exact locs rfl); (case c2 => exact rfl); (case c3 => exact rfl); (case c4 => exact rfl); k_whole; intro L' h' F' N' B' X' T'; (try dsimp only); (try k_fold))
  clear B F N X T
  refine S_execs_cons (S_Assign (S_CallT (T := "bytearray") rfl ?_))
  k_steps
  refine S_arg (S_of ?_)
  k_steps
  refine S_noarg ?_
  refine S_bytearray (by omega) (by omega) fun a h' hk hn ho => ?_
  with_reducible rename Fr _ _ _ _ => fE
  with_reducible rename News _ _ _ _ => nE
  obtain ⟨nE', _⟩ := news_new fE nE hk hn ho
  have fE' := fE.keeps hk
  k_steps
  refine S_of ?_
  k_steps
  refine' iter_range1 (x₂ := Str.ofString "j") (fun nx => ∃ c, nx = [(a, baObj c)] ∧ KBw.bInts c = ks.reverse) ?k1 ?k2 ?k3 ?k4 ?k5 ?k6 ?_ ?_
  case k1 => exact rfl
  case k2 => assumption
  case k3 => exact small_one h1 h2
  case k4 => exact rs_one h1
  case k5 => assumption
  case k6 => assumption
  · intro t h tk own ho F N
    k_with "pyIter ref" => refine Halt.mk ?_
    k_steps
    refine Halt.un ?_
    refine' iter_range0 (n := ks.length) (fun i nx => ∃ c : Array UInt8, nx = [(a, baObj c)] ++ own ∧ c.size = ks.length ∧ ∀ q, q < i → c[ks.length - 1 - q]? = b[q]?) ?k1 ?k2 ?k3 ?k4 ?k5 ?k6 ?k7 ?_ ?_
    case k1 => exact rfl
    case k2 => assumption
    case k3 => exact small_all h1 h2
    case k4 => exact rs_all h1
    case k5 => assumption
    case k6 => assumption
    case k7 => exact ⟨_, rfl, by simp, fun q hq => absurd hq (Nat.not_lt_zero q)⟩
    · rintro i t' nx h' tk' own' hi ha ho' ⟨c, rfl, hcz, hc⟩ F N
      k_steps
      refine ba_setItem (b := c) (N _ (.head _)).1 (by omega) (by omega) (by omega) (by assumption) (by assumption) fun hn => ?_
      have hpost : ∀ p ∈ own ++ own', p.1 ≠ a := fun p hp => by
        rcases List.mem_append.mp hp with hp | hp
        · exact ho p hp a (.head _)
        · exact ho' p hp a (.head _)
      obtain ⟨F2, N2⟩ := upd_head (post := own ++ own') (o' := baObj (c.setIfInBounds (0 + (ks.length : Int) - 1 - (0 + (i : Int) * 1)).toNat (ks.getD ((0 : Int) + (0 + (i : Int) * 1)).toNat 0).toNat.toUInt8)) (f := Obj.mapBytearray (·.setIfInBounds (0 + (ks.length : Int) - 1 - (0 + (i : Int) * 1)).toNat (ks.getD ((0 : Int) + (0 + (i : Int) * 1)).toNat 0).toNat.toUInt8)) F (by simpa using N) hpost rfl rfl
      k_steps
      · refine InvEndN.intro F2 N2 (nx := [(a, baObj (c.setIfInBounds (0 + (ks.length : Int) - 1 - (0 + (i : Int) * 1)).toNat (ks.getD ((0 : Int) + (0 + (i : Int) * 1)).toNat 0).toNat.toUInt8))] ++ own) ⟨fun z hz => if_neg hz, _, rfl, by simpa using hcz, swap_part (k := 0 + (ks.length : Int) - 1 - (0 + (i : Int) * 1)) (v := ks.getD ((0 : Int) + (0 + (i : Int) * 1)).toNat 0) hb hcz hi hc (by omega) (by rw [show ((0 : Int) + (0 + (i : Int) * 1)).toNat = i by omega])⟩ rfl (fun p hp => ?_) fun p hp => ?_
        · simp only [List.cons_append, List.nil_append, List.mem_cons, List.mem_append] at hp ⊢
          exact hp.elim .inl fun x => .inr (.inl x)
        · simp only [List.mem_cons, List.mem_append]
          exact .inr (.inr hp)
    · rintro u nx h' tk' ⟨c, rfl, hcz, hc⟩ F N
      k_steps
      refine InvEndN.intro F N (nx := [(a, baObj c)]) ⟨fun z hz hz2 => ?_, c, rfl, swap_done hb hcz hc⟩ rfl (fun p hp => List.mem_append_left _ hp) fun p hp => List.mem_append_right _ hp
      simp only [if_neg hz, if_neg hz2]
  · rintro u u₂ nx h tk ⟨c, rfl, hc⟩ F N
    k_steps
    refine ba_bytes (b := c) (N _ (.head _)).1 ?_ fun t k => hret c t _ _ hc ?_
    · have := congrArg List.length hc
      simp [KBw.ints_length] at this
      omega
    · exact F.keep
end
end Mine
end
section -- D2
open PySem PySem.W PyProof.Rows PySem.Calls
namespace Mine

theorem fill_D2 : (fun (_ : OpenLaw) (_ : Params → Frag) => True) PySem.Challenge.rw_zo0019_01 hd.heap_39 := by
  w_top off
  k_with_none
  k_fill
  trivial

section
variable {prog : Program} {w : World} {mean : ExcName → Option Value} {mg mb : Str → Option Value} {news : List (Addr × Obj)} {dp un : Nat} {gd : Option (List Code)} {cn : Str} {cs : Scope} {a : Addr} {ccd : Value} {cl : List (Str × Addr)} {outer : List Env} {A₀ : Around} {base h₀ : Heap} {L : Addr} {m : Str → Option Value} {s : Shared} {Q E : Value → Shared → Prop}
theorem c_grp {l : Addr} {vs : Array Value} {ns : List Int} {k : Nat} (B : Below A₀ base outer h₀) (F : Fr h₀ L s.heap m) (X : (hd.heap_39 w.params).In h₀) (N : News h₀ L s.heap news)
    (T : Top hd.view_39 (looseW hd.view_39 [Str.ofString "IPV4_RE", Str.ofString "insort_left", Str.ofString "bisect_left"]) mean mg mb h₀) (hk : cs.kind = .function)
    (hd' : dp + 1 < recursionLimit) (hu : un + 20 * 1 < cLine) (hI : GItems vs ns k)
    (hret : ∀ ga L' gs h' tk, L' = s.heap.objs.size → (∀ b o, s.heap.get? b = some o → h'.get? b = some o) → s.heap.get? L' = none → s.heap.get? ga = none → L' ≠ ga → (∃ m : Str → Option Value, Fr h₀ L' h' m ∧ m (Str.ofString "grouping") = some (.ref l)) → h'.IsGen ga s.gens.size →
      GFresh prog w h₀ L' l vs ns k gs → Q (.ref ga) { s with heap := h', toks := tk, gens := s.gens.push gs }) :
    wpAny (model prog w) (ktrTop dp un gd cn cs L a ccd cl outer) (call (.ref 89) [.ref l]) Q E s := by
  refine wpAny_call ?_
  k_dflt (refine' code_gen ?k1 ?k2 ?k3 ?k6 ?k7 ?k8 ?k9 ?kB ?_ ?c2 ?c3 ?c4 ?c5; (case k1 => k_asm); (case k2 => k_asm); (case k3 => k_asm); (case k6 => k_is); (case k7 => k_is); (case k8 => ktr_room); (case k9 => exact BindsTo.of_eq rfl); (case c5 => decide); (case kB => exact locs rfl); (case c2 => exact rfl); (case c3 => exact rfl); (case c4 => exact rfl))
  intro L' ga h' tk eL hkp hL hga hne hns hg
  have hab : h₀.objs.size ≤ L' := by
    have h1 := F.above
    have h2 := F.ns.lt
    rw [eL]
    exact Nat.le_of_lt (Nat.lt_of_le_of_lt h1 h2)
  refine hret ga L' _ h' tk eL hkp hL hga hne ⟨_, ⟨hns, fun b o e => hkp b o (F.keep b o e), hab⟩, rfl⟩ hg ?_
  clear hret F N B hkp hL hga hne hns hg hk hd' hu
  rintro A s hh ⟨m, F, hm⟩ (hl : s.heap.IsList l vs) hlL
  refine ⟨rfl, seg_func ?_⟩
  refine seg_execs_cons (seg_wrap (assign_none rfl rfl F.ns fun h₁ hns₁ hsb => ?_))
  have F₁ : Fr h₀ L' h₁ _ := ⟨hns₁, fun b o e => (hsb.2 b (Nat.ne_of_lt (Nat.lt_of_lt_of_le (Heap.lt_size e) F.above))).trans (F.keep b o e), F.above⟩
  have hl₁ : h₁.IsList l vs := hl.at fun o e => (hsb.2 l hlL).trans e
  have hz : h₁.objs.size = s.heap.objs.size := hsb.1
  refine seg_execs_cons (seg_For (fun _ => rfl) ?_)
  have N : News h₀ L' h₁ [] := News.nil
  refine wpAny_Name (wpAny_loadName_local rfl rfl F₁.ns hm ?_)
  refine wpAny_pyIter_list hl₁ fun p => ?_
  rw [hz]
  have hLt : L' < s.heap.objs.size := F.ns.lt
  have hLI : L' ≠ s.heap.objs.size := Nat.ne_of_lt F.ns.lt
  have hlI : l ≠ s.heap.objs.size := by
    obtain ⟨o, ho, _⟩ := id hl
    exact Nat.ne_of_lt (Heap.lt_size ho)
  refine grp_ind (GP h₀ L' s.heap.objs.size l vs k) ?_ k _ _ (Nat.le_refl k) ?_
  case refine_2 =>
    refine ⟨⟨_, _, rfl, fun b o n1 _ e => Heap.get?_push_of_some _ ((hsb.2 b n1).trans e)⟩, ⟨_, F₁.push _⟩, ?_, hl₁.push _⟩
    rw [Nat.sub_self, ← hz]
    exact ⟨_, Heap.get?_push_size _ rfl, rfl, rfl⟩
  generalize s.heap.objs.size = I at hLI hlI hLt ⊢
  clear hl₁ F₁ hsb hns₁ N hl hm F hz eL
  rintro n s₀ s₁ ⟨hsm, ⟨m, F⟩, hit, hl⟩ hn ih
  refine seg_forLoop ?_
  have hv : ∃ t val, vs[k - n]? = some (.int val t) ∧ ((n = 0 ∧ val = 127) ∨ (∃ m, n = m + 1 ∧ val = ns.getD (k - n) 0 ∧ val ≠ 127 ∧ val ≠ 0)) := by
    cases n with
    | zero =>
      obtain ⟨t, ht⟩ := hI.stop
      exact ⟨t, 127, ht, .inl ⟨rfl, rfl⟩⟩
    | succ m =>
      obtain ⟨t, ht, h1, h2⟩ := hI.at_ (k - (m + 1)) (by omega)
      exact ⟨t, _, ht, .inr ⟨m, rfl, rfl, h1, h2⟩⟩
  obtain ⟨t, val, hx, hcase⟩ := hv
  have hIL : I ≠ L' := Ne.symm hLI
  refine wpAny_pyNext_list_item hit hl hx fun h' hit' hs' => ?_
  have hhI : h₀.get? I = none := Heap.get?_none_of_le (Nat.le_trans hab (Nat.le_of_lt hLt))
  have F' : Fr h₀ L' h' m := ⟨F.ns.sameBut hs' hLI, fun b o e => (hs'.2 b (fun q => by rw [q, hhI] at e; cases e)).trans (F.keep b o e), F.above⟩
  refine wpAny_storeName_local rfl F'.ns fun h2 hns2 hsb2 => ?_
  have F2 : Fr h₀ L' h2 (fun y => if y = gName then some (.int val t) else m y) := ⟨hns2, fun b o e => (hsb2.2 b (Nat.ne_of_lt (Nat.lt_of_lt_of_le (Heap.lt_size e) F'.above))).trans (F'.keep b o e), F'.above⟩
  have hit2 : h2.IsListIter I l (k - n + 1) := hit'.at fun o e => (hsb2.2 I hIL).trans e
  have hl2 : h2.IsList l vs := hl.at fun o e => (hsb2.2 l hlL).trans ((hs'.2 l hlI).trans e)
  have hsm2 : ∀ tk, GSame L' I s₀ { s₁ with heap := h2, toks := tk } := fun tk => hsm.trans fun b o n1 n2 e => (hsb2.2 b n1).trans ((hs'.2 b n2).trans e)
  clear hns2 hit' hit F F' hl hs' hsb2
  have N : News h₀ L' h2 [] := News.nil
  refine seg_execs_cons (seg_wrap ?_)
  unfold gName at F2
  k_steps
  · have hn0 : n = 0 := by
      rcases hcase with ⟨h, _⟩ | ⟨m', _, _, h, _⟩
      · exact h
      · exact absurd (by assumption) h
    refine seg_leaf (.ok (.ret .none)) ?_
    exact seg_end (.ok (.ret .none)) ⟨rfl, hn0, hsm2 _⟩
  · obtain ⟨m', rfl, hval, h127, h0⟩ : ∃ m', n = m' + 1 ∧ val = ns.getD (k - n) 0 ∧ val ≠ 127 ∧ val ≠ 0 := by
      rcases hcase with ⟨_, h⟩ | h
      · exact absurd h (by assumption)
      · exact h
    clear hcase
    refine seg_execs_cons (seg_wrap ?_)
    k_steps
    · exact absurd (by assumption) h0
    · refine seg_execs_cons (seg_Expr_Yield rfl rfl rfl ?_)
      k_steps
      rename_i kap hkap
      have e1 : k - (m' + 1) = k - 1 - m' := by omega
      have e2 : k - (m' + 1) + 1 = k - m' := by omega
      refine ⟨⟨t, by rw [hval, e1]⟩, hsm2 _, ⟨⟨_, _, F2⟩, e2 ▸ hit2, hl2⟩, fun s'' g => hkap .none s'' ?_⟩
      obtain ⟨⟨m₃, v₃, F₃⟩, it₃, ls₃⟩ := g
      refine seg_execs_cons (seg_wrap (assign_local (v := v₃) rfl rfl rfl rfl F₃.ns rfl rfl rfl fun h4 hns4 hsb4 => ?_))
      have hsame : ∀ b o, b ≠ L' → b ≠ I → s''.heap.get? b = some o → h4.get? b = some o := fun b o n1 _ e => (hsb4.2 b n1).trans e
      refine seg_again rfl (ih m' rfl s'' _ ⟨⟨h4, _, rfl, hsame⟩, ⟨_, ⟨hns4, fun b o e => hsame b o (Nat.ne_of_lt (Nat.lt_of_lt_of_le (Heap.lt_size e) F₃.above)) (fun q => by rw [q, hhI] at e; cases e) (F₃.keep b o e), F₃.above⟩⟩, it₃.at fun o e => (hsb4.2 I hIL).trans e, ls₃.at fun o e => (hsb4.2 l hlL).trans e⟩)
end
end Mine
end
section -- D3
open PySem PySem.W PyProof.Rows PySem.Calls
namespace Mine

theorem fill_D3 : (fun (_ : OpenLaw) (_ : Params → Frag) => True) PySem.Challenge.rw_zo0019_01 hd.heap_39 := by
  w_top off
  k_with_none
  k_fill
  trivial

section
variable {prog : Program} {w : World} {mean : ExcName → Option Value} {mg mb : Str → Option Value} {news : List (Addr × Obj)} {dp un : Nat} {gd : Option (List Code)} {cn : Str} {cs : Scope} {a : Addr} {ccd : Value} {cl : List (Str × Addr)} {outer : List Env} {A₀ : Around} {base h₀ : Heap} {L : Addr} {m : Str → Option Value} {s : Shared} {Q E : Value → Shared → Prop}
theorem c_turned {x : Str} {tx : Tok} (B : Below A₀ base outer h₀) (F : Fr h₀ L s.heap m) (X : (hd.heap_39 w.params).In h₀) (N : News h₀ L s.heap news)
    (T : Top hd.view_39 (looseW hd.view_39 [Str.ofString "IPV4_RE", Str.ofString "insort_left", Str.ofString "bisect_left"]) mean mg mb h₀) (hk : cs.kind = .function)
    (hd' : dp + 3 < recursionLimit) (hu : un + 20 * 3 < cLine) (hgd : gd = some []) (hx : x.length ≤ 60) (hx2 : ∀ c ∈ x.cps.toList, c < 128) {xs : List Str} (hsp : Txt.split x (Str.ofString ".") = xs) (hxs : ∀ z ∈ xs, z.length ≤ 5) (hxl : xs.length ≤ 4) (hxl1 : 2 ≤ xs.length) (hxp : codes (Str.ofString "." ++ x) = xs.flatMap piece)
    (hret : ∀ r t' tk h', codes r = xs.reverse.flatMap piece → (∀ b o, s.heap.get? b = some o → h'.get? b = some o) → Q (.str r t') { s with heap := h', toks := tk, gens := s.gens.push .finished }) :
    wpS (model prog w) (ktrTop dp un gd cn cs L a ccd cl outer) (call (.ref 108) [.str x tx]) Q E s := by
  k_with_none
  refine wpS_call ?_
  k_dflt (refine' code_pureS ?k1 ?k2 ?k3 ?k5 ?kA ?kF ?kK ?k6 ?k7 ?k8 ?k9 ?kB ?_ ?c2 ?c3 ?c4 ?c5; (case kA => exact rfl); (case kF => exact rfl); (case kK => assumption); (case k1 => k_asm); (case k2 => k_asm); (case k3 => k_asm); (case k5 => k_asm); (case k6 => k_is); (case k7 => k_is); (case k8 => ktr_room); (case k9 => exact BindsTo.of_eq rfl); (case c5 => decide); (case kB => exact locs rfl); (case c2 => exact rfl); (case c3 => exact rfl); (case c4 => exact rfl); k_whole; intro L' h' F' N' B' X' T'; (try dsimp only); (try k_fold))
  clear B F N X T
  refine S_execs_cons (S_of ?_)
  k_with "eval ListComp" => refine Halt.mk ?_
  k_steps
  refine Halt.un ?_
  refine' wpAny_ListComp_free (cl := []) (fun _ => true) (fun v y => ∃ c t t', v = .str ⟨#[c]⟩ t ∧ y = .int (c : Nat) t') ?k1 ?k2 ?k3 ?k4 ?k5 ?_ ?k6
  case k1 => exact rfl
  case k2 => decide
  case k3 => exact rfl
  case k4 => decide
  case k5 => exact rfl
  case k6 => intro _; rfl
  k_steps
  refine wpAny_pyIter_str fun o St W hst => ⟨_, _, _, _, _, _, rfl, W _ rfl, ?sz, hst, ?fp, ⟨?te, ?el⟩, ?po⟩
  case sz => exact Nat.le_trans (Nat.le_of_eq (by simp [Str.length])) (dot_len hx)
  case fp => intro b hb; rw [List.mem_singleton.mp hb]; simp
  case te => exact fun C i v s₃ m₃ E' _ _ _ _ _ _ => wpAny_pure ⟨rfl, _, _, rfl, fun _ _ e => e⟩
  case el =>
    rintro C i v s₃ m₃ E' hC ⟨c, u, hc, rfl⟩ _ hns hm hkk htk
    have hkp : ∀ b o, h'.get? b = some o → s₃.heap.get? b = some o := fun b o e => hkk b o (fun q => Nat.lt_irrefl _ (List.mem_singleton.mp q ▸ Heap.lt_size e)) (Heap.get?_push_of_some _ e)
    clear hkk
    k_steps
    exact ⟨_, _, rfl, fun _ _ e => e⟩
  rintro D h₂ tk₂ ys vs hD hl hpl hlen hP hF hkk
  have hkp : ∀ b o, h'.get? b = some o → h₂.get? b = some o := fun b o e => hkk b o (fun q => Nat.lt_irrefl _ (List.mem_singleton.mp q ▸ Heap.lt_size e)) (Heap.get?_push_of_some _ e)
  have hi := ord_pairs hlen hP hF
  have F₂ := F'.keeps hkp
  clear hkk hlen hP hF W hst F' N' hpl
  k_steps
  refine call_bytes_ints (vs := ys.toList) (ns := codes ("." ++ x)) hl hi (dot_in hx2) ?_ rfl fun h₃ t₃ k₃ hk₃ => ?_
  · rw [hi.length, codes_length]; exact dot_len hx
  have hb : KBw.bInts (byteArr (codes ("." ++ x))) = codes ("." ++ x) := KBa.ints_make (dot_in hx2)
  have F₃ := F₂.keeps hk₃
  have N₃ : News s.heap L' h₃ [] := News.nil
  generalize byteArr (codes ("." ++ x)) = oct at hb ⊢
  clear F₂ hl hi hk₃ hkp
  k_steps
  k_with "exec Assign cons ListComp" => refine Halt.mk ?_
  refine S_execs_cons (S_of ?_)
  k_steps
  refine Halt.un ?_
  refine' wpAny_Assign_ListComp_free (cl := []) (fun _ => true) (fun v y => ∃ (z : Str) (t t' : Tok), v = Value.str z t ∧ y = Value.int ((z.length : Int) + 1) t') ?k0 ?k1 ?k2 ?k3 ?k4 ?k5 ?k7 ?k8 ?_ ?k6
  case k0 => exact rfl
  case k1 => exact rfl
  case k2 => decide
  case k3 => exact rfl
  case k4 => decide
  case k5 => exact rfl
  case k6 => intro _; rfl
  case k7 => exact rfl
  case k8 => exact rfl
  k_steps
  with_reducible rename StrsAre _ _ => hS
  with_reducible rename Heap.IsList _ _ _ => hL
  with_reducible rename Fr _ _ _ _ => F₄
  with_reducible rename News _ _ _ _ => N₄
  rename List.map _ _ = Txt.split _ _ => hsl
  rw [hsl, hsp] at hS
  generalize strValues _ = us at hS hL N₄
  clear hsl
  have hlt := Heap.lt_size (N₄ _ (.head _)).1
  rename Heap => H4
  have hLne : ∀ b o, s.heap.get? b = some o → b ≠ L' := fun b o e => Nat.ne_of_lt (Nat.lt_of_lt_of_le (Heap.lt_size e) F₄.above)
  refine wpAny_pyIter_list hL ⟨_, _, _, _, _, _, _, rfl, Walks.list rfl _ _ (Nat.ne_of_lt hlt) us.toArray, ?sz2, ⟨⟨_, Heap.get?_push_size _ rfl, rfl, rfl⟩, hL.push _⟩, ?fp2, ?lw, (F₄.push _).ns, ⟨?te2, ?el2⟩, ?po2⟩
  case sz2 => simp [hS.length, sizeLine_eq]; omega
  case fp2 =>
    intro b hb
    rcases List.mem_cons.mp hb with rfl | hb
    · simp
    · rw [List.mem_singleton.mp hb]; simp; exact Nat.lt_succ_of_lt hlt
  case lw =>
    intro hm
    exact absurd F₄.ns.lt ((List.mem_singleton.mp hm) ▸ Nat.lt_irrefl _)
  case te2 => exact fun C i v s₃ m₃ E' _ _ _ _ _ _ => wpAny_pure ⟨rfl, _, _, rfl, fun _ _ e => e⟩
  case el2 =>
    rintro C i v s₃ m₃ E' hC hv _ hns hm hkk htk
    obtain ⟨z, t, rfl, hz⟩ := strs_at hS hv
    have hz5 := hxs z hz
    have hkp : ∀ b o, H4.get? b = some o → s₃.heap.get? b = some o := fun b o e => hkk b o (fun q => Nat.lt_irrefl _ (List.mem_singleton.mp q ▸ Heap.lt_size e)) (Heap.get?_push_of_some _ e)
    clear hkk
    k_steps
    exact ⟨_, _, rfl, fun _ _ e => e⟩
  rintro D h₂ tk₂ ys vs hD hl hpl hlen hP hF hns hkk
  have hi := len_pairs (us := us) (by simpa using hlen) hP hF hS
  have F₅ : Fr s.heap L' h₂ _ := ⟨hns, fun b o e => hkk b o (hLne b o e) (fun q => by
      have := Heap.lt_size (F₄.keep b o e)
      exact Nat.lt_irrefl _ (List.mem_singleton.mp q ▸ this)) (Heap.get?_push_of_some _ (F₄.keep b o e)), F₄.above⟩
  obtain ⟨nD, hD2⟩ := hpl
  have hDL : D ≠ L' := fun q => by
    obtain ⟨o, _, _, ho, _⟩ := (F₄.push { cls := Value.type "list_iterator", data := Data.fields #[Value.ref _, Value.int 0 0] }).ns
    rw [← q] at ho
    exact absurd (hD.symm.trans ho) (by simp)
  have hDs : s.heap.get? D = none := by
    cases e : s.heap.get? D with
    | none => rfl
    | some o => exact absurd (hD.symm.trans (Heap.get?_push_of_some _ (F₄.keep D o e))) (by simp)
  have N₆ : News s.heap L' h₂ [(D, listOf ys.toList.toArray nD)] := fun p hp => by
    rw [List.mem_singleton.mp hp]
    exact ⟨by simpa using hD2, hDL, hDs⟩
  have hys : us.length = xs.length := hS.length
  clear F₄ N₄ hL hlt hLne hl hD hP hF hkk hns hD2 hlen hS
  have hcl : (codes (Str.ofString "." ++ x)).length ≤ 61 := by rw [dot_codes]; omega
  have hcl1 : 1 ≤ (codes (Str.ofString "." ++ x)).length := by rw [dot_codes]; omega
  refine S_execs_cons (S_Assign (S_Call (K := hd.heap_39 w.params) (f := .ref 96) ?kf rfl ?_))
  case kf => exact rfl
  k_steps
  refine S_arg (S_of ?_)
  k_steps
  refine S_arg (S_of ?_)
  k_steps
  refine S_noarg ?_
  refine ⟨X'.keeps F₅.keep, ?_⟩
  k_dflt (refine' c_swap (ks := codes (Str.ofString "." ++ x)) ?k1 ?k2 ?k3 ?k4 ?k5 ?k6 ?k7 ?k8 hgd hb hcl1 (Nat.le_trans hcl (by decide)) rfl ?_; (case k1 => k_asm); (case k2 => k_asm); (case k3 => k_asm); (case k4 => k_asm); (case k5 => k_asm); (case k6 => first | exact rfl | assumption); (case k7 => first | ktr_room | ((try dsimp only); omega)); (case k8 => first | ktr_units | ((try dsimp only); omega)))
  intro b₂ t₂ tk₄ h₄ hb₂ hk₄
  have F₆ := F₅.keeps hk₄
  have N₇ := N₆.grown hk₄
  clear F₅ N₆ hk₄
  k_steps
  refine S_execs_cons (S_of ?_)
  k_steps
  with_reducible rename News _ _ _ _ => N₈
  generalize ys.toList = zs at N₈ hi
  refine S_execs_cons (S_For ?_ (fun _ => rfl))
  k_steps
  with_reducible rename IntsAre _ _ => hI
  with_reducible rename Fr _ _ _ _ => F₈
  with_reducible rename News _ _ _ _ => N₉
  k_dflt (refine' c_grp (ns := xs.map fun z : Str => ((z.length : Int) + 1)) (k := xs.length - 1) ?k1 ?k2 ?k3 ?k4 ?k5 ?k6 ?k7 ?k8 (grp_items hxs (Nat.le_trans (by decide) hxl1) hI) ?_; (case k1 => k_asm); (case k2 => k_asm); (case k3 => k_asm); (case k4 => k_asm); (case k5 => k_asm); (case k6 => first | exact rfl | assumption); (case k7 => first | ktr_room | ((try dsimp only); omega)); (case k8 => first | ktr_units | ((try dsimp only); omega)))
  intro ga LG gs h5 tk5 eLG hk5 hLG hga hne hfr hgen hGF
  refine wpAny_pyIter_gen hgen ?_
  have F₉ := F₈.keeps hk5
  have hl := N₉ _ (.head _)
  have hl5 := hk5 _ _ hl.1
  obtain ⟨m₀, ⟨tT, hmT⟩, hmR, F₁₀⟩ : ∃ m₀ : Str → Option Value, (∃ tT, m₀ nTurned = some (.bytes #[] tT)) ∧ m₀ nRest = some (.bytes b₂ t₂) ∧ Fr s.heap L' h5 m₀ := ⟨_, ⟨_, rfl⟩, rfl, F₉⟩
  obtain ⟨l, ws, hGL⟩ : ∃ (l : Nat) (ws : List Value), ∀ A : Around, ∃ led, GLive prog w A s.heap L' LG l ga s.gens.size ws.toArray (xs.map fun z : Str => ((z.length : Int) + 1)) (xs.length - 1) (xs.length - 1) gs h5 led :=
    ⟨_, _, fun A => led_start hLG hga hne hk5 hl.1 hl.2.1 hl.2.2 F₈ hfr hgen hGF⟩
  clear hl5 hl hGF hgen hfr hne hga hLG hk5 eLG hI F₈ F₉
  refine turned_ind (base := s.heap) (L' := L') (LG := LG) (l := l) (ga := ga) (items := ws.toArray) (ns := xs.map fun z : Str => ((z.length : Int) + 1)) (k := xs.length - 1) (m₀ := m₀) (s₀ := s) (G := s.gens) (xs := xs) ?step ?init
  case init =>
    obtain ⟨led, GL0⟩ := hGL _
    refine ⟨h5, tk5, gs, led, #[], b₂, tT, t₂, m₀ nSize, rfl, GL0, frT_self hmR hmT ▸ F₁₀, ?_, ?_⟩
    · rw [Nat.sub_self]; rfl
    · rw [Nat.sub_self, hb₂, hxp]; rfl
  case step =>
    rintro n s' ⟨h, tk, gs, led, bT, bR, tT, tR, u, rfl, GL, F, hbT, hbR⟩ hn ih
    refine codeS_forTurn (GL.turn F rfl (T'.nolimit.keeps F.keep) (by ktr_room) rfl ?more ?fin)
    case fin =>
      rintro h' tk' hn0 F'
      clear GL ih F hGL
      subst hn0
      have hlast : ∃ z, xs[xs.length - 1 - 0]? = some z ∧ z.length ≤ 5 := ⟨xs[xs.length - 1], List.getElem?_eq_getElem (by omega), hxs _ (List.getElem_mem (by omega))⟩
      obtain ⟨z, hz, hz5⟩ := hlast
      have hR0 : restF xs (xs.length - 1 - 0) = (piece z).reverse := by
        rw [restF_step hz]
        have : xs.drop (xs.length - 1 - 0 + 1) = [] := List.drop_of_length_le (by omega)
        unfold restF
        rw [this]; rfl
      rw [hR0] at hbR
      have hT1 := outF_len hxs (xs.length - 1 - 0)
      have hpl := piece_len z
      have hpr : (piece z).reverse.length = z.length + 1 := by rw [List.length_reverse, hpl]
      unfold frT nSize nRest nTurned at F'
      have N : News s.heap L' h' [] := News.nil
      refine S_execs_cons (S_Assign (S_BinOp (S_Call (K := hd.heap_39 w.params) (f := .ref 96) ?kf rfl ?_)))
      case kf => exact rfl
      k_steps
      refine S_arg (S_of ?_)
      k_steps
      refine S_arg (S_of ?_)
      k_steps
      refine S_noarg ?_
      refine ⟨X'.keeps F'.keep, ?_⟩
      k_dflt (refine' c_swap (ks := (piece z).reverse) ?k1 ?k2 ?k3 ?k4 ?k5 ?k6 ?k7 ?k8 hgd hbR ?g1 ?g2 rfl ?_; (case k1 => k_asm); (case k2 => k_asm); (case k3 => k_asm); (case k4 => k_asm); (case k5 => k_asm); (case k6 => first | exact rfl | assumption); (case k7 => first | ktr_room | ((try dsimp only); omega)); (case k8 => first | ktr_units | ((try dsimp only); omega)))
      case g1 => omega
      case g2 => omega
      intro bS tS tk₃ h₃ hbS hk₃
      rw [List.reverse_reverse] at hbS
      have F₃ := F'.keeps hk₃
      have N₃ := N.grown hk₃
      clear F' N hk₃
      k_steps
      refine S_execs_cons (S_of ?_)
      k_steps
      refine Halt.un ?_
      rename KBw.bInts (_ ++ _) = _ => hbF
      rw [last_out hz (by omega)] at hbF
      with_reducible rename Fr _ _ _ _ => F₄
      generalize bS ++ bT = bF at hbF F₄
      have hz1 : bF.size ≤ 24 := by
        rw [← KBw.ints_length, hbF]
        have := pieces_len (xs := xs.reverse) (fun z hz => hxs z (List.mem_reverse.mp hz))
        rw [List.length_reverse] at this
        omega
      refine' wpAny_ListComp_free (cl := []) (fun _ => true) (fun v y => ∃ (c : Nat) (t t' : Tok), v = Value.int (c : Nat) t ∧ y = Value.str ⟨#[c]⟩ t') ?k1 ?k2 ?k3 ?k4 ?k5 ?_ ?k6
      case k1 => exact rfl
      case k2 => decide
      case k3 => exact rfl
      case k4 => decide
      case k5 => exact rfl
      case k6 => intro _; rfl
      k_steps
      refine KBw.pyIter_bytes ⟨_, _, _, _, _, _, rfl, KBw.walks rfl _ bF _, ?sz3, ⟨_, Heap.get?_push_size _ rfl, rfl, rfl⟩, ?fp3, ⟨?te3, ?el3⟩, ?po3⟩
      case sz3 => rw [sizeLine_eq]; omega
      case fp3 => intro b hb; rw [List.mem_singleton.mp hb]; simp
      case te3 => exact fun C i v s₃ m₃ E' _ _ _ _ _ _ => wpAny_pure ⟨rfl, _, _, rfl, fun _ _ e => e⟩
      case el3 =>
        rintro C i v s₃ m₃ E' hC ⟨c, u, hc, rfl⟩ _ hns hm hkk htk
        have hkp := fun b o e => hkk b o (fun q => Nat.lt_irrefl _ (List.mem_singleton.mp q ▸ Heap.lt_size e)) (Heap.get?_push_of_some _ e)
        have hc256 := c.toNat_lt
        clear hkk
        k_steps
        exact ⟨_, _, rfl, fun _ _ e => e⟩
      rintro D h₂ tk₂ ys vs hD hl hpl hlen hP hF hkk
      have hkp := fun b o e => hkk b o (fun q => Nat.lt_irrefl _ (List.mem_singleton.mp q ▸ Heap.lt_size e)) (Heap.get?_push_of_some _ e)
      have hi := chr_pairs hlen hP hF
      have F₂ := F₄.keeps hkp
      obtain ⟨nD, hD2⟩ := hpl
      have N₂ := list_new (zs := ys.toList) F₄ (fun b o e => Heap.get?_push_of_some _ e) hD (by simpa using hD2)
      have hlz : (bF.toList.map fun c : UInt8 => (⟨#[c.toNat]⟩ : Str)).length ≤ 24 := by simpa using hz1
      generalize ys.toList = zs at hi N₂
      clear hD2 hkk hkp hF hP hlen hl hD F₄
      k_steps
      refine join_list (ys := bF.toList.map fun c : UInt8 => (⟨#[c.toNat]⟩ : Str)) ⟨_, (N₂ _ (.head _)).1, rfl, _, rfl⟩ (by simpa using hi) ?_ fun t₉ k₉ => hret _ _ _ _ (join_codes.trans hbF) F₂.keep
      rw [List.map_map]
      have : (bF.toList.map ((fun z : Str => z.length) ∘ fun c : UInt8 => (⟨#[c.toNat]⟩ : Str))).sum = bF.size := by
        have e : ((fun z : Str => z.length) ∘ fun c : UInt8 => (⟨#[c.toNat]⟩ : Str)) = fun _ => 1 := by funext c; rfl
        rw [e, List.map_const', List.sum_replicate_nat]; simp
      rw [this]
      have : (Str.ofString "").length = 0 := rfl
      rw [this]
      omega
    rintro mm h' tk' gs' t led' rfl GL' F'
    obtain ⟨i, hi1, hi2, hi3⟩ : ∃ i, xs.length - 1 - 1 - mm = i ∧ xs.length - 1 - (mm + 1) = i ∧ xs.length - 1 - mm = i + 1 := ⟨_, rfl, by omega, by omega⟩
    rw [hi2] at hbT hbR
    rw [hi1]
    have hix : i < xs.length := by omega
    obtain ⟨z, hz, hz5⟩ : ∃ z, xs[i]? = some z ∧ z.length ≤ 5 := ⟨xs[i], List.getElem?_eq_getElem hix, hxs _ (List.getElem_mem hix)⟩
    have hsz : (xs.map fun z : Str => ((z.length : Int) + 1)).getD i 0 = (z.length : Int) + 1 := by
      rw [List.getD_eq_getElem?_getD, List.getElem?_map, hz]; rfl
    rw [hsz]
    have hT1 := outF_len hxs i
    have hR1 := restF_len hxs i
    have hR2 : (restF xs i).length = (restF xs (i + 1)).length + (z.length + 1) := by rw [restF_step hz, List.length_append, List.length_reverse, piece_len]
    have N := GL'.news
    unfold frT nSize nRest nTurned at F'
    clear F GL hn
    k_steps
    refine S_execs_cons (S_Assign (S_BinOp (S_Call (K := hd.heap_39 w.params) (f := .ref 96) ?kf rfl ?_)))
    case kf => exact rfl
    k_steps
    refine S_arg (S_of ?_)
    k_steps
    rename KBw.bInts (KBy.picked _ _ _) = _ => hcut
    rw [cut_last hz] at hcut
    generalize KBy.picked _ _ _ = bP at hcut ⊢
    refine S_arg (S_of ?_)
    k_steps
    refine S_noarg ?_
    with_reducible rename Fr _ _ _ _ => F₂
    with_reducible rename News _ _ _ _ => N₂
    refine ⟨X'.keeps F₂.keep, ?_⟩
    k_dflt (refine' c_swap (ks := (piece z).reverse) ?k1 ?k2 ?k3 ?k4 ?k5 ?k6 ?k7 ?k8 hgd hcut ?g1 ?g2 ?g3 ?_; (case k1 => k_asm); (case k2 => k_asm); (case k3 => k_asm); (case k4 => k_asm); (case k5 => k_asm); (case k6 => first | exact rfl | assumption); (case k7 => first | ktr_room | ((try dsimp only); omega)); (case k8 => first | ktr_units | ((try dsimp only); omega)))
    case g1 => rw [List.length_reverse, piece_len]; omega
    case g2 => rw [List.length_reverse, piece_len]; omega
    case g3 => rw [List.length_reverse, piece_len]; omega
    intro bS tS tk₃ h₃ hbS hk₃
    rw [List.reverse_reverse] at hbS
    have F₃ := F₂.keeps hk₃
    have N₃ := N₂.grown hk₃
    have hpl := piece_len z
    clear F₂ N₂ hk₃
    k_steps
    refine S_execs_cons (S_of ?_)
    k_steps
    rename KBw.bInts (KBy.picked _ _ _) = _ => hcut2
    with_reducible rename Fr _ _ _ _ => F₂
    with_reducible rename News _ _ _ _ => N₂
    refine S_execs_nil ⟨rfl, ih mm rfl _ ⟨_, _, gs', led', _, _, _, _, _, rfl, GL'.move N₂ (fun p hp => hp) F₂.keep, fr_turn F₂, ?_, ?_⟩⟩
    · rw [hi3, outF_step hz]; assumption
    · rw [hi3, hcut2, cut_rest hz]
end
end Mine
end
section -- D4
open PySem PySem.W PyProof.Rows PySem.Calls
namespace Mine

theorem fill_D4 : (fun (_ : OpenLaw) (_ : Params → Frag) => True) PySem.Challenge.rw_zo0019_01 hd.heap_39 := by
  w_top off
  k_with_none
  k_fill
  trivial

theorem codes_inj {x y : Str} (h : codes x = codes y) : x = y := by
  have : x.cps.toList = y.cps.toList := (List.map_inj_right (fun a b e => by exact Int.ofNat.inj e)).mp h
  cases x; cases y
  exact congrArg _ (Array.ext' this)
theorem codes_turn (xs : List Str) : codes (turnF xs) = xs.reverse.flatMap piece := by
  unfold turnF turnC codes piece
  rw [List.map_flatMap]
  congr 1
  funext z
  show _ = ((#[46] ++ z.cps : Array Nat).toList).map _
  simp
section
variable {prog : Program} {w : World} {mean : ExcName → Option Value} {mg mb : Str → Option Value} {news : List (Addr × Obj)} {dp un : Nat} {gd : Option (List Code)} {cn : Str} {cs : Scope} {a : Addr} {ccd : Value} {cl : List (Str × Addr)} {outer : List Env} {A₀ : Around} {base h₀ : Heap} {L : Addr} {m : Str → Option Value} {s : Shared} {Q E : Value → Shared → Prop}
theorem c_turnedJ {xs : List Str} {x : Str} {tx : Tok} (B : Below A₀ base outer h₀) (F : Fr h₀ L s.heap m) (X : (hd.heap_39 w.params).In h₀) (N : News h₀ L s.heap news)
    (T : Top hd.view_39 (looseW hd.view_39 [Str.ofString "IPV4_RE", Str.ofString "insort_left", Str.ofString "bisect_left"]) mean mg mb h₀) (hk : cs.kind = .function)
    (hd' : dp + 3 < recursionLimit) (hu : un + 20 * 3 < cLine) (hgd : gd = some []) (hx : x = joinF xs) (hn : xs ∈ NAMES)
    (hret : ∀ t' tk h', (∀ b o, s.heap.get? b = some o → h'.get? b = some o) → Q (.str (turnF xs) t') { s with heap := h', toks := tk, gens := s.gens.push .finished }) :
    wpS (model prog w) (ktrTop dp un gd cn cs L a ccd cl outer) (call (.ref 108) [.str x tx]) Q E s := by
  subst hx
  have hz : xs ∈ ZNAMES := .tail _ hn
  have hs := znames_shape xs hz
  have hsm := znames_small xs hz
  refine c_turned (xs := xs) B F X N T hk hd' hu hgd (by omega) (fun c hc => by have := hsm.2 c hc; omega) (names_split xs hn) (fun z h => (lab_ok z (hs.1 z h)).2) hs.2.2 (names_shape xs hn) (names_codes xs hn) fun r t' tk h' hr hkp => ?_
  rw [codes_inj (hr.trans (codes_turn xs).symm)]
  exact hret t' tk h' hkp
end
end Mine
end
section -- C2
open PySem PySem.W PyProof.Rows PySem.Calls
namespace Mine

theorem fill_C2 : (fun (_ : OpenLaw) (_ : Params → Frag) => True) PySem.Challenge.rw_zo0019_01 hd.heap_39 := by
  w_top off
  k_with_none
  k_fill
  trivial

section
variable {prog : Program} {w : World} {mean : ExcName → Option Value} {mg mb : Str → Option Value} {news : List (Addr × Obj)} {dp un : Nat} {gd : Option (List Code)} {cn : Str} {cs : Scope} {a : Addr} {ccd : Value} {cl : List (Str × Addr)} {outer : List Env} {A₀ : Around} {base h₀ : Heap} {L : Addr} {m : Str → Option Value} {s : Shared} {Q E : Value → Shared → Prop}
theorem g_load {α : Type} {M : Model} {A : Around} {E : Value → Shared → Prop} {s : Shared} {Q : α → Shared → Prop} {a : Addr} {q : Option Value} {k : Obj → Sem α} {o : Obj} (ho : s.heap.get? a = some o) (h : wpAny M A (k o) Q E s) : wpAny M A (.load a q k) Q E s :=
  wpAny_bind (m := loadPart a q) (f := k) (wpAny_loadPart ho h)
theorem g_pure {α : Type} {M : Model} {A : Around} {E : Value → Shared → Prop} {s : Shared} {Q : α → Shared → Prop} {a : α} (h : Q a s) : wpAny M A (.pure a) Q E s := wpAny_pure h
theorem mid_facts {lo hi n : Int} (h0 : 0 ≤ lo) (h1 : lo < hi) (h2 : hi ≤ n) : 0 ≤ Int.fdiv (lo + hi) 2 ∧ Int.fdiv (lo + hi) 2 < n ∧ lo ≤ Int.fdiv (lo + hi) 2 ∧ Int.fdiv (lo + hi) 2 < hi := by
  rw [Int.fdiv_eq_ediv_of_nonneg _ (by decide)]
  omega
local macro_rules | `(tactic| walk_at "subscriptTail Name Name ref int") => `(tactic| k_extra "m:subscriptTail Name Name ref int")
theorem row_C2_1 : True := by
  k_with "m:subscriptTail Name Name ref int" => (k_here; (with_reducible show wpAny _ _ (subscriptTail _ _ (Value.ref _) (Value.int (Int.fdiv (_ + _) 2) _)) _ _ _); (have hmid := mid_facts (by assumption) (by assumption) (by assumption)); (with_unfolding_all refine' KTb.item_list ?k1 ?k2 ?k3 ?k4 ?k5 ?_; (case k1 => is_list); (case k2 => assumption); (case k3 => exact hmid.1); (case k4 => exact hmid.2.1); (case k5 => (have := hmid.2.1; omega)); k_whole); intro t' hlt')
  trivial
theorem c_bis {l : Addr} {vs : List Value} {nl : Nat} {xs : List Str} {x : Str} {tx : Tok} {k : Nat} (B : Below A₀ base outer h₀) (F : Fr h₀ L s.heap m) (X : (hd.heap_39 w.params).In h₀) (N : News h₀ L s.heap ((l, listOf vs.toArray nl) :: news))
    (T : Top hd.view_39 (looseW hd.view_39 [Str.ofString "IPV4_RE", Str.ofString "insort_left", Str.ofString "bisect_left"]) mean mg mb h₀) (hk : cs.kind = .function)
    (hd' : dp + 1 < recursionLimit) (hu : un + 20 * 1 < cLine) (hI : StrsAre vs xs) (hn : xs.length ≤ 100)
    (hk1 : k ≤ xs.length) (hk2 : ∀ i, i < xs.length → ((xs.getD i Str.empty).cps.toList < x.cps.toList ↔ i < k))
    (hret : ∀ (t : Tok) (h' : Heap) (tk' : Nat), Fr h₀ L h' m → News h₀ L h' ((l, listOf vs.toArray nl) :: news) → Q (.int k t) { s with heap := h', toks := tk' }) :
    wpAny (model prog w) (ktrTop dp un gd cn cs L a ccd cl outer) (call (.ref 82) [.ref l, .str x tx]) Q E s := by
  have h74 : h₀.get? 74 = some _ := X 74 _ (by with_unfolding_all rfl)
  have h75 : h₀.get? 75 = some _ := X 75 _ (by with_unfolding_all rfl)
  refine wpAny_call ?_
  k_dflt (refine' code_def ?k1 ?k2 ?k3 ?k4 ?k5 ?kA ?kF ?kK ?k6 ?k7 ?k8 ?k9 ?kB ?_ ?c2 ?c3 ?c4 ?c5; (case kA => exact rfl); (case kF => exact rfl); (case kK => assumption); (case k1 => k_asm); (case k2 => k_asm); (case k3 => k_asm); (case k4 => k_asm); (case k5 => k_asm); (case k6 => k_is); (case k7 => k_is); (case k8 => ktr_room); (case k9 => (intro M A E Q hq; (with_unfolding_all refine g_load (a := 74) (F.keep _ _ h74) ?_); (with_unfolding_all refine g_load (a := 75) (F.keep _ _ h75) ?_); (with_unfolding_all exact g_pure hq))); (case c5 => decide); (case kB => exact locs rfl); (case c2 => exact rfl); (case c3 => exact rfl); (case c4 => exact rfl); k_whole; intro g' L' h' FG' F' N' B' X' T'; (try dsimp only); (try k_lift B'); (try k_fold))
  k_with "exec While Compare cons nil" => k_while (fun _ lo hi => 0 ≤ lo ∧ lo ≤ (k:Int) ∧ (k:Int) ≤ hi ∧ hi ≤ (xs.length : Int)) (fun _ lo hi => (hi - lo).toNat) "lo" "hi"
  k_with "state" => ((try dsimp only); first | omega | ((have q := (hk2 _ (by assumption)).mp (by assumption)); omega) | ((have q := fun h => (by assumption : ¬ _) ((hk2 _ (by assumption)).mpr h)); omega))
  k_with "measure" => ((try dsimp only); omega)
  k_steps
  all_goals exact cb_retI hret (by omega) (by assumption) (by assumption)
theorem c_bis4 {t0 : Tok} {l : Addr} {vs : List Value} {nl : Nat} {xs : List Str} {x : Str} {tx : Tok} {k : Nat} (B : Below A₀ base outer h₀) (F : Fr h₀ L s.heap m) (X : (hd.heap_39 w.params).In h₀) (N : News h₀ L s.heap ((l, listOf vs.toArray nl) :: news))
    (T : Top hd.view_39 (looseW hd.view_39 [Str.ofString "IPV4_RE", Str.ofString "insort_left", Str.ofString "bisect_left"]) mean mg mb h₀) (hk : cs.kind = .function)
    (hd' : dp + 1 < recursionLimit) (hu : un + 20 * 1 < cLine) (hI : StrsAre vs xs) (hn : xs.length ≤ 100)
    (hk1 : k ≤ xs.length) (hk2 : ∀ i, i < xs.length → ((xs.getD i Str.empty).cps.toList < x.cps.toList ↔ i < k))
    (hret : ∀ (t : Tok) (h' : Heap) (tk' : Nat), Fr h₀ L h' m → News h₀ L h' ((l, listOf vs.toArray nl) :: news) → Q (.int k t) { s with heap := h', toks := tk' }) :
    wpAny (model prog w) (ktrTop dp un gd cn cs L a ccd cl outer) (call (.ref 82) [.ref l, .str x tx, .int 0 t0, .none]) Q E s := by
  have h74 : h₀.get? 74 = some _ := X 74 _ (by with_unfolding_all rfl)
  have h75 : h₀.get? 75 = some _ := X 75 _ (by with_unfolding_all rfl)
  refine wpAny_call ?_
  k_dflt (refine' code_def ?k1 ?k2 ?k3 ?k4 ?k5 ?kA ?kF ?kK ?k6 ?k7 ?k8 ?k9 ?kB ?_ ?c2 ?c3 ?c4 ?c5; (case kA => exact rfl); (case kF => exact rfl); (case kK => assumption); (case k1 => k_asm); (case k2 => k_asm); (case k3 => k_asm); (case k4 => k_asm); (case k5 => k_asm); (case k6 => k_is); (case k7 => k_is); (case k8 => ktr_room); (case k9 => (intro M A E Q hq; (with_unfolding_all refine g_load (a := 74) (F.keep _ _ h74) ?_); (with_unfolding_all refine g_load (a := 75) (F.keep _ _ h75) ?_); (with_unfolding_all exact g_pure hq))); (case c5 => decide); (case kB => exact locs rfl); (case c2 => exact rfl); (case c3 => exact rfl); (case c4 => exact rfl); k_whole; intro g' L' h' FG' F' N' B' X' T'; (try dsimp only); (try k_lift B'); (try k_fold))
  k_with "exec While Compare cons nil" => k_while (fun _ lo hi => 0 ≤ lo ∧ lo ≤ (k:Int) ∧ (k:Int) ≤ hi ∧ hi ≤ (xs.length : Int)) (fun _ lo hi => (hi - lo).toNat) "lo" "hi"
  k_with "state" => ((try dsimp only); first | omega | ((have q := (hk2 _ (by assumption)).mp (by assumption)); omega) | ((have q := fun h => (by assumption : ¬ _) ((hk2 _ (by assumption)).mpr h)); omega))
  k_with "measure" => ((try dsimp only); omega)
  k_steps
  all_goals exact cb_retI hret (by omega) (by assumption) (by assumption)
theorem c_ins {l : Addr} {vs : List Value} {nl : Nat} {xs : List Str} {x : Str} {tx : Tok} {k : Nat} (B : Below A₀ base outer h₀) (F : Fr h₀ L s.heap m) (X : (hd.heap_39 w.params).In h₀) (N : News h₀ L s.heap ((l, listOf vs.toArray nl) :: news))
    (T : Top hd.view_39 (looseW hd.view_39 [Str.ofString "IPV4_RE", Str.ofString "insort_left", Str.ofString "bisect_left"]) mean mg mb h₀) (hk : cs.kind = .function)
    (hd' : dp + 2 < recursionLimit) (hu : un + 20 * 2 < cLine) (hI : StrsAre vs xs) (hn : xs.length ≤ 100)
    (hk1 : k ≤ xs.length) (hk2 : ∀ i, i < xs.length → ((xs.getD i Str.empty).cps.toList < x.cps.toList ↔ i < k)) (hne : ∀ p ∈ news, p.1 ≠ l)
    (hret : ∀ (h' : Heap) (tk' : Nat), Fr h₀ L h' m → News h₀ L h' ((l, listOf (vs.take k ++ .str x tx :: vs.drop k).toArray (nl + 1)) :: news) → Q .none { s with heap := h', toks := tk' }) :
    wpAny (model prog w) (ktrTop dp un gd cn cs L a ccd cl outer) (call (.ref 73) [.ref l, .str x tx]) Q E s := by
  have h65 : h₀.get? 65 = some _ := X 65 _ (by with_unfolding_all rfl)
  have h66 : h₀.get? 66 = some _ := X 66 _ (by with_unfolding_all rfl)
  refine wpAny_call ?_
  k_dflt (refine' code_def ?k1 ?k2 ?k3 ?k4 ?k5 ?kA ?kF ?kK ?k6 ?k7 ?k8 ?k9 ?kB ?_ ?c2 ?c3 ?c4 ?c5; (case kA => exact rfl); (case kF => exact rfl); (case kK => assumption); (case k1 => k_asm); (case k2 => k_asm); (case k3 => k_asm); (case k4 => k_asm); (case k5 => k_asm); (case k6 => k_is); (case k7 => k_is); (case k8 => ktr_room); (case k9 => (intro M A E Q hq; (with_unfolding_all refine g_load (a := 65) (F.keep _ _ h65) ?_); (with_unfolding_all refine g_load (a := 66) (F.keep _ _ h66) ?_); (with_unfolding_all exact g_pure hq))); (case c5 => decide); (case kB => exact locs rfl); (case c2 => exact rfl); (case c3 => exact rfl); (case c4 => exact rfl); k_whole; intro g' L' h' FG' F' N' B' X' T'; (try dsimp only); (try k_lift B'); (try k_fold))
  k_steps
  k_here
  (with_reducible show wpAny _ _ (call (Value.ref 82) [Value.ref _, Value.str _ _, _, _]) _ _ _)
  k_dflt (refine' c_bis4 (xs := xs) (k := k) ?k1 ?k2 ?k3 ?k4 ?k5 ?k6 ?k7 ?k8 ?k9 ?k10 ?k11 ?k12 ?_)
  (case k1 => k_asm); (case k2 => k_asm); (case k3 => k_asm); (case k4 => k_asm); (case k5 => k_asm); (case k6 => first | exact rfl | assumption); (case k7 => first | ktr_room | ((try dsimp only); omega)); (case k8 => first | ktr_units | ((try dsimp only); omega)); (case k9 => k_asm); (case k10 => k_asm); (case k11 => k_asm); (case k12 => k_asm)
  intro t' h'' tk' F'' N''
  (try dsimp only)
  (try k_fold)
  k_steps
  have hvl : vs.length = xs.length := hI.length
  refine' kl_insert (l := vs.take k ++ .str x tx :: vs.drop k) ?k1 ?k2 ?k3 ?k4 (Upd.head hne) ?k5 ?_
  (case k1 => k_asm)
  (case k2 => k_asm)
  (case k3 =>
    unfold Builtin.List.listFitsIndex
    simp only [Bool.and_eq_true, decide_eq_true_eq]
    omega)
  (case k4 =>
    unfold kl_ins
    rw [if_neg (by omega), show min ((k : Int)).toNat (List.toArray vs).toList.length = k from by simp; omega])
  (case k5 =>
    show vs.length ≤ sizeLine
    rw [sizeLine_eq]; omega)
  intro h3 F3 N3
  k_steps
  all_goals exact hret _ _ (by assumption) (by assumption)
end
end Mine
end
section -- O1
open PySem PySem.W PyProof.Rows PySem.Calls
namespace Mine

theorem fill_O1 : (fun (_ : OpenLaw) (_ : Params → Frag) => True) PySem.Challenge.rw_zo0019_01 hd.heap_39 := by
  w_top off
  k_with_none
  k_fill
  trivial

section
variable {prog : Program} {w : World} {mean : ExcName → Option Value} {mg mb : Str → Option Value} {news : List (Addr × Obj)} {dp un : Nat} {gd : Option (List Code)} {cn : Str} {cs : Scope} {a : Addr} {ccd : Value} {cl : List (Str × Addr)} {outer : List Env} {A₀ : Around} {base h₀ : Heap} {L : Addr} {m : Str → Option Value} {s : Shared} {Q E : Value → Shared → Prop}
theorem c_owned {z l : Addr} {zs vs : List Value} {nz nl : Nat} {Z : List (List Str)} {xs : List Str} (B : Below A₀ base outer h₀) (F : Fr h₀ L s.heap m) (X : (hd.heap_39 w.params).In h₀) (N : News h₀ L s.heap ((z, listOf zs.toArray nz) :: (l, listOf vs.toArray nl) :: news))
    (T : Top hd.view_39 (looseW hd.view_39 [Str.ofString "IPV4_RE", Str.ofString "insort_left", Str.ofString "bisect_left"]) mean mg mb h₀) (hk : cs.kind = .function)
    (hd' : dp + 4 < recursionLimit) (hu : un + 20 * 4 < cLine) (hZ : DatAll ((z, listOf zs.toArray nz) :: (l, listOf vs.toArray nl) :: news) zs (Z.map labD)) (hI : StrsAre vs xs)
    (hx1 : 1 ≤ xs.length) (hx4 : xs.length ≤ 4) (hx5 : Labs xs) (hZ5 : Z.length ≤ 5) (hZ4 : ∀ ys ∈ Z, Labs ys ∧ 1 ≤ ys.length ∧ ys.length ≤ 4)
    (hret : ∀ v h' tk', optIs (ownedF Z xs) v → Fr h₀ L h' m → News h₀ L h' ((z, listOf zs.toArray nz) :: (l, listOf vs.toArray nl) :: news) → Q v { s with heap := h', toks := tk' }) :
    wpAny (model prog w) (ktrTop dp un gd cn cs L a ccd cl outer) (call (.ref 127) [.ref z, .ref l]) Q E s := by
  refine wpAny_call ?_
  k_with_none
  k_dflt cell_enter
  k_with "compareOp In" => refine Halt.mk ?_
  k_steps
  refine Halt.un ?_
  with_reducible rename News _ _ _ _ => N₁
  refine kqd_isIn (x := .ref l) N₁ (.head _) rfl rfl hZ (fun _ h => h) (.list (.tail _ (.head _)) (strs_dat (news := (z, listOf zs.toArray nz) :: (l, listOf vs.toArray nl) :: news) hI)) (fun _ h => h) (labD_ok fun ys hy => (hZ4 ys hy).1) ?_ ?_ ?_
  · exact labD_ok (Z := [xs]) (fun ys hy => by rw [List.mem_singleton.mp hy]; exact hx5) _ (.head _)
  · ke_room
  k_with "exec For" => refine Halt.mk ?_
  k_steps
  · refine join_list (ys := xs) ⟨_, (N₁ _ (.tail _ (.head _))).1, rfl, _, rfl⟩ (by simpa using hI) ?_ fun t k => ?_
    · exact labs_join hx5 hx4
    · rename decide _ = true => hin
      simp only [decide_eq_true_eq] at hin
      have hin' : xs ∈ Z := labD_mem.mp hin
      have ho : ownedF Z xs = some (Txt.join (Str.ofString ".") xs) := if_pos hin'
      k_steps
      exact hret _ _ _ (by rw [ho]; exact ⟨_, rfl⟩) (by assumption) (by assumption)
  refine Halt.un ?_
  with_reducible rename Fr _ _ _ _ => F₁
  with_reducible rename News _ _ _ _ => N₂
  rename decide _ = false => hin
  simp only [decide_eq_false_iff_not] at hin
  have hnin : xs ∉ Z := fun h => hin (labD_mem.mpr h)
  refine forA_For (l := z) (vs := zs) (nn := nz) (fun i => ∀ j, j < i → ∀ ys, Z[j]? = some ys → suffixB ys xs = false) (wpAny_Name (wpAny_loadName_local rfl rfl F₁.ns rfl ⟨rfl, rfl⟩)) (fun _ => rfl) rfl rfl rfl (.head _) F₁ N₂ (fun j hj => absurd hj (Nat.not_lt_zero j)) ?_ ?_
  · intro i v h tk I oI hv hJ F N
    obtain ⟨ys, a₁, us, nu, hys, rfl, hmem, hS⟩ := dat_at hZ hv
    have hyZ := hZ4 ys (List.mem_of_getElem? hys)
    have hyl := hS.length
    have hxl := hI.length
    have N₃ : News _ _ h ((a₁, listOf us.toArray nu) :: (I, oI) :: (z, listOf zs.toArray nz) :: (l, listOf vs.toArray nl) :: news) := fun p hp => by
      rcases List.mem_cons.mp hp with rfl | hp
      · exact N _ (.tail _ hmem)
      · exact N p hp
    clear N
    k_with "compareOp Eq ref ref" => refine Halt.mk ?_
    k_with "compareOp Eq" => refine Halt.mk ?_
    k_with "subscriptTail Name Slice ref ref" => refine Halt.mk ?_
    k_steps
    refine Halt.un ?_
    with_reducible rename Fr _ _ _ _ => F₄
    with_reducible rename News _ _ _ _ => N₄
    refine' kmk_slice_lit (its := us.toArray) (lo := some (-((xs.length : Nat) : Int))) (hi := none) (zs := us.drop (us.length - xs.length)) F₄ N₄ ⟨_, (N₄ _ (.head _)).1, rfl, _, rfl⟩ ?p1 ?p2 ?p3 ?_ ?p4 ?p5 ?p6
    case p1 => exact .int _ _
    case p2 => exact .none
    case p3 => rw [slicePick_last _ _ hx1]; simp
    case p4 => rfl
    case p5 => intro r; rfl
    case p6 => simp [sizeLine_eq]; omega
    intro D h₅ F₅ N₅ hD
    clear F₄ N₄ F hD
    refine wpAny_Name (wpAny_loadName_local rfl rfl F₅.ns rfl ?_)
    refine kqd_eq (ds := (ys.drop (us.length - xs.length)).map Dat.str) (es := xs.map Dat.str) (n₁ := []) (n₂ := []) N₅ (.head _) rfl rfl (strs_dat (strs_drop (by assumption) _)) (fun _ h => nomatch h) (.tail _ (.tail _ (.tail _ (.tail _ (.head _))))) rfl rfl (strs_dat hI) (fun _ h => nomatch h)
      (strD_ok fun y hy => hyZ.1 y (List.mem_of_mem_drop hy)) (strD_ok hx5) ?_ ?_
    · ke_room
    rw [strD_eq, hyl]
    k_steps
    · with_reducible rename News _ _ _ _ => kN
      refine hret _ _ _ ?_ (by assumption) (fun p hp => kN p (.tail _ (.tail _ (.tail _ hp))))
      rename List.drop _ _ = _ => hd1
      have ho : ownedF Z xs = some Str.empty := by
        unfold ownedF
        rw [if_neg hnin, if_pos (List.any_eq_true.mpr ⟨ys, List.mem_of_getElem? hys, decide_eq_true hd1⟩)]
      rw [ho]
      exact ⟨_, rfl⟩
    all_goals rename ¬ (List.drop _ _ = _) => hd1
    all_goals first
      | exact F₅
      | exact fun p hp => N₅ p (.tail _ (.tail _ hp))
      | (rename_i j hj1 ys2 hj2
         rcases Nat.lt_succ_iff_lt_or_eq.mp hj1 with q | q
         · exact hJ _ q _ hj2
         · subst q
           rw [hys] at hj2
           cases hj2
           exact decide_eq_false hd1)
      | skip
  · intro h tk u hJ F N
    k_steps
    refine hret _ _ _ ?_ (by assumption) (by assumption)
    have : ownedF Z xs = none := by
      unfold ownedF
      rw [if_neg hnin, if_neg]
      intro h
      obtain ⟨ys, hy, hs⟩ := List.any_eq_true.mp h
      obtain ⟨j, hj, rfl⟩ := List.getElem_of_mem hy
      have hl := hZ.length
      rw [List.length_map] at hl
      rw [hJ j (by omega) _ (List.getElem?_eq_getElem hj)] at hs
      cases hs
    rw [this]
    rfl
end
end Mine
end
section -- P5
open PySem PySem.W PyProof.Rows PySem.Calls PyProof.V
namespace Mine
theorem z_ne {D : List Str} (h : D ∈ ZNAMES) : D ≠ [] := fun q => by
  have := (znames_shape D h).2.1
  rw [q] at this
  simp at this
theorem z_nonroot {Z : List (List Str)} {R : List Str} {kvs : List (Str × Value)} (hZ : Zone Z R kvs) {D : List Str} (hD : D ∈ ZNAMES) (h : ownedF Z D = none) : D ∈ NAMES := by
  refine z_name hD ?_
  have h1 := (znames_shape D hD).2.1
  rcases Nat.lt_or_ge D.length 2 with q | q
  · exact absurd h (root_owned hZ hD (by omega))
  · exact q
theorem due_some {Z : List (List Str)} {xs : List Str} {t : Str} (h : ownedF Z xs = some t) : dueF Z xs = (some t, []) := by simp only [dueF, h]
theorem due_none {Z : List (List Str)} {xs : List Str} (h : ownedF Z xs = none) : dueF Z xs = (ownedF Z (Str.ofString "*" :: (climbF Z xs).1), (climbF Z xs).2) := by simp only [dueF, h]
theorem climbF_none {Z : List (List Str)} {xs : List Str} (hx : xs ∈ ZNAMES) (h : ownedF Z xs = none) : climbF Z xs = ((climbF Z xs.tail).1, (Str.ofString "." ++ joinF xs.tail) :: (climbF Z xs.tail).2) := by
  cases xs with
  | nil => exact absurd rfl (z_ne hx)
  | cons x r => simp only [climbF, h, if_true, List.tail_cons, joinF]
theorem climbF_some {Z : List (List Str)} {xs : List Str} {t : Str} (hx : xs ∈ ZNAMES) (h : ownedF Z xs = some t) : climbF Z xs = (xs, []) := by
  cases xs with
  | nil => exact absurd rfl (z_ne hx)
  | cons x r => simp only [climbF, h, reduceCtorEq, if_false]
theorem tail_le {xs : List Str} {n : Nat} (h : xs.length ≤ n + 1) : xs.tail.length ≤ n := by rw [List.length_tail]; omega
theorem strs_tail {vs : List Value} {xs : List Str} (h : StrsAre vs xs) : StrsAre (vs.drop 1) xs.tail := by
  rw [← List.drop_one]
  exact strs_drop h 1
theorem S_hide {α : Type} {M : Model} {A : Around} {t : Sem α} {Q : α → Shared → Prop} {E : Value → Shared → Prop} {s : Shared} (h : ∀ Q', Q' = Q → wpS M A t Q' E s) : wpS M A t Q E s := h Q rfl
theorem A_hide {α : Type} {M : Model} {A : Around} {t : Sem α} {Q : α → Shared → Prop} {E : Value → Shared → Prop} {s : Shared} (h : ∀ Q', Q' = Q → wpAny M A t Q' E s) : wpAny M A t Q E s := h Q rfl
end Mine
end
section -- O2
open PySem PySem.W PyProof.Rows PySem.Calls
namespace Mine

theorem fill_O2 : (fun (_ : OpenLaw) (_ : Params → Frag) => True) PySem.Challenge.rw_zo0019_01 hd.heap_39 := by
  w_top off
  k_with_none
  k_fill
  trivial

section
variable {prog : Program} {w : World} {mean : ExcName → Option Value} {mg mb : Str → Option Value} {news : List (Addr × Obj)} {dp un : Nat} {gd : Option (List Code)} {cn : Str} {cs : Scope} {a : Addr} {ccd : Value} {cl : List (Str × Addr)} {outer : List Env} {A₀ : Around} {base h₀ : Heap} {L : Addr} {m : Str → Option Value} {s : Shared} {Q E : Value → Shared → Prop}
theorem c_ownedM {z l : Addr} {zs vs : List Value} {nz nl : Nat} {Z : List (List Str)} {xs : List Str} (B : Below A₀ base outer h₀) (F : Fr h₀ L s.heap m) (X : (hd.heap_39 w.params).In h₀) (N : News h₀ L s.heap news)
    (T : Top hd.view_39 (looseW hd.view_39 [Str.ofString "IPV4_RE", Str.ofString "insort_left", Str.ofString "bisect_left"]) mean mg mb h₀) (hk : cs.kind = .function)
    (hd' : dp + 4 < recursionLimit) (hu : un + 20 * 4 < cLine) (hz : (z, listOf zs.toArray nz) ∈ news) (hl : (l, listOf vs.toArray nl) ∈ news) (hZ : DatAll news zs (Z.map labD)) (hI : StrsAre vs xs)
    (hx1 : 1 ≤ xs.length) (hx4 : xs.length ≤ 4) (hx5 : Labs xs) (hZ5 : Z.length ≤ 5) (hZ4 : ∀ ys ∈ Z, Labs ys ∧ 1 ≤ ys.length ∧ ys.length ≤ 4)
    (hret : ∀ v h' tk', optIs (ownedF Z xs) v → Fr h₀ L h' m → News h₀ L h' news → Q v { s with heap := h', toks := tk' }) :
    wpAny (model prog w) (ktrTop dp un gd cn cs L a ccd cl outer) (call (.ref 127) [.ref z, .ref l]) Q E s :=
  c_owned (news := news) B F X (fun p hp => by
    rcases List.mem_cons.mp hp with rfl | hp
    · exact N _ hz
    · rcases List.mem_cons.mp hp with rfl | hp
      · exact N _ hl
      · exact N p hp) T hk hd' hu (hZ.mono fun p hp => .tail _ (.tail _ hp)) hI hx1 hx4 hx5 hZ5 hZ4 fun v h' tk' ho F' N' => hret v h' tk' ho F' (N_sub N' fun p hp => .tail _ (.tail _ hp))
theorem c_dueX {z l : Addr} {zs vs : List Value} {nz nl : Nat} {Z : List (List Str)} {R : List Str} {kvs : List (Str × Value)} {xs : List Str} (B : Below A₀ base outer h₀) (F : Fr h₀ L s.heap m) (X : (hd.heap_39 w.params).In h₀) (N : News h₀ L s.heap ((z, listOf zs.toArray nz) :: (l, listOf vs.toArray nl) :: news))
    (T : Top hd.view_39 (looseW hd.view_39 [Str.ofString "IPV4_RE", Str.ofString "insort_left", Str.ofString "bisect_left"]) mean mg mb h₀) (hk : cs.kind = .function)
    (hd' : dp + 6 < recursionLimit) (hu : un + 20 * 6 < cLine) (hZ : DatAll ((z, listOf zs.toArray nz) :: (l, listOf vs.toArray nl) :: news) zs (Z.map labD)) (hI : StrsAre vs xs)
    (hn : xs ∈ NAMES) (hZo : Zone Z R kvs)
    (hret : ∀ r vt ws nn h' tk', optIs (dueF Z xs).1 vt → StrsAre ws (dueF Z xs).2 → Fr h₀ L h' m → News h₀ L h' ((r, listOf (vt :: ws).toArray nn) :: (z, listOf zs.toArray nz) :: (l, listOf vs.toArray nl) :: news) → Q (.ref r) { s with heap := h', toks := tk' }) :
    wpAny (model prog w) (ktrTop dp un gd cn cs L a ccd cl outer) (call (.ref 134) [.ref z, .ref l]) Q E s := by
  refine wpAny_call ?_
  k_with_none
  k_dflt cell_enter
  have hz0 : xs ∈ ZNAMES := .tail _ hn
  have h0 := znames_shape xs hz0
  have hI0 := hI
  have hl0 : xs.length ≤ 4 := h0.2.2
  have hZ5 := hZo.len
  have hZ4 : ∀ ys ∈ Z, Labs ys ∧ 1 ≤ ys.length ∧ ys.length ≤ 4 := fun ys hy => znames_shape ys (hZo.zin ys hy)
  k_steps
  k_dflt (refine' c_ownedM (Z := Z) (xs := xs) ?k1 ?k2 ?k3 ?k4 ?k5 ?k6 ?k7 ?k8 ?o1 ?o2 ?o3 ?o4 ?o5 ?o6 ?o7 ?o8 ?o9 ?_; (case k1 => k_asm); (case k2 => k_asm); (case k3 => k_asm); (case k4 => k_asm); (case k5 => k_asm); (case k6 => first | exact rfl | assumption); (case k7 => first | ktr_room | ((try dsimp only); omega)); (case k8 => first | ktr_units | ((try dsimp only); omega)); (case o1 => k_mem); (case o2 => k_mem); (case o3 => exact hZ.mono (by kqd_sub)); (case o4 => exact hI); (case o5 => exact h0.2.1); (case o6 => exact h0.2.2); (case o7 => exact h0.1); (case o8 => exact hZ5); (case o9 => exact hZ4))
  intro v h' tk' ho F' N'
  cases hof : ownedF Z xs with
  | some t =>
    rw [hof] at ho
    obtain ⟨tt, rfl⟩ := ho
    k_steps
    with_reducible rename News _ _ _ _ => kN
    with_reducible rename Fr _ _ _ _ => kF
    refine hret _ _ _ _ _ _ ?ht ?hv kF (N_head kN ?hs)
    case ht => simp only [due_some hof]; first | exact ⟨_, rfl⟩ | rfl
    case hv => simp only [due_some hof]; repeat first | exact StrsAre.nil | apply StrsAre.cons
    case hs => (intro x hx; repeat first | exact hx | refine List.Mem.tail _ ?_)
  | none =>
    rw [hof] at ho
    cases ho
    k_steps
    k_dflt (refine' c_ownedM (Z := Z) (xs := xs) ?k1 ?k2 ?k3 ?k4 ?k5 ?k6 ?k7 ?k8 ?o1 ?o2 ?o3 ?o4 ?o5 ?o6 ?o7 ?o8 ?o9 ?_; (case k1 => k_asm); (case k2 => k_asm); (case k3 => k_asm); (case k4 => k_asm); (case k5 => k_asm); (case k6 => first | exact rfl | assumption); (case k7 => first | ktr_room | ((try dsimp only); omega)); (case k8 => first | ktr_units | ((try dsimp only); omega)); (case o1 => k_mem); (case o2 => k_mem); (case o3 => exact hZ.mono (by kqd_sub)); (case o4 => exact hI); (case o5 => exact h0.2.1); (case o6 => exact h0.2.2); (case o7 => exact h0.1); (case o8 => exact hZ5); (case o9 => exact hZ4))
    intro v h' tk' ho F' N'
    rw [hof] at ho
    cases ho
    have hof0 := hof
    have hn0 : xs ∈ NAMES := z_nonroot hZo hz0 hof0
    have hz1 : xs.tail ∈ ZNAMES := tail_z hn0
    have h1 := znames_shape _ hz1
    have hI1 : StrsAre (vs.drop 1) xs.tail := strs_tail hI0
    have hl1 : (xs.tail).length ≤ 3 := tail_le hl0
    k_with "subscriptTail Name Slice ref ref" => refine Halt.mk ?_
    k_steps
    refine Halt.un ?_
    with_reducible rename Fr _ _ _ _ => F₁
    with_reducible rename News _ _ _ _ => N₁
    refine' kmk_slice_lit (its := List.toArray vs) (lo := some ((1 : Nat) : Int)) (hi := none) (zs := List.drop 1 vs) F₁ N₁ ⟨_, (N₁ (l, listOf (List.toArray vs) nl) (by k_mem)).1, rfl, _, rfl⟩ ?p1 ?p2 ?p3 ?_ ?p4 ?p5 ?p6
    case p1 => exact .int _ _
    case p2 => exact .none
    case p3 => rw [slicePick_from']
    case p4 => rfl
    case p5 => intro r; rfl
    case p6 => have := hI0.length; have := h0.2.2; rw [sizeLine_eq, List.size_toArray]; omega
    intro D1 hh1 F₂ N₂ hD₂
    have q10 : @LT.lt Nat _ _ D1 := hD₂ _ (.head _)
    clear F₁ N₁ hD₂
    k_steps
    with_reducible rename News _ _ _ _ => nJ
    refine join_list (ys := xs.tail) ⟨_, (nJ (D1, listOf (List.toArray (List.drop 1 vs)) 0) (by k_mem)).1, rfl, _, rfl⟩ (by simpa using hI1) (labs_join h1.1 h1.2.2) fun tj kj => ?_
    have hjl1 := labs_join_len h1.1 h1.2.2
    k_steps
    k_dflt (refine' c_ownedM (Z := Z) (xs := xs.tail) ?k1 ?k2 ?k3 ?k4 ?k5 ?k6 ?k7 ?k8 ?o1 ?o2 ?o3 ?o4 ?o5 ?o6 ?o7 ?o8 ?o9 ?_; (case k1 => k_asm); (case k2 => k_asm); (case k3 => k_asm); (case k4 => k_asm); (case k5 => k_asm); (case k6 => first | exact rfl | assumption); (case k7 => first | ktr_room | ((try dsimp only); omega)); (case k8 => first | ktr_units | ((try dsimp only); omega)); (case o1 => k_mem); (case o2 => k_mem); (case o3 => exact hZ.mono (by kqd_sub)); (case o4 => exact hI1); (case o5 => exact h1.2.1); (case o6 => exact h1.2.2); (case o7 => exact h1.1); (case o8 => exact hZ5); (case o9 => exact hZ4))
    intro v h' tk' ho F' N'
    cases hof1 : ownedF Z xs.tail with
    | none =>
      rw [hof1] at ho
      cases ho
      (try clear F₂)
      (try clear N₂)
      have hn1 : xs.tail ∈ NAMES := z_nonroot hZo hz1 hof1
      have hz2 : xs.tail.tail ∈ ZNAMES := tail_z hn1
      have h2 := znames_shape _ hz2
      have hI2 : StrsAre ((vs.drop 1).drop 1) xs.tail.tail := strs_tail hI1
      have hl2 : (xs.tail.tail).length ≤ 2 := tail_le hl1
      k_with "subscriptTail Name Slice ref ref" => refine Halt.mk ?_
      k_steps
      refine Halt.un ?_
      with_reducible rename Fr _ _ _ _ => F₁
      with_reducible rename News _ _ _ _ => N₁
      refine' kmk_slice_lit (its := List.toArray (vs.drop 1)) (lo := some ((1 : Nat) : Int)) (hi := none) (zs := List.drop 1 (vs.drop 1)) F₁ N₁ ⟨_, (N₁ (D1, listOf (List.toArray (vs.drop 1)) 0) (by k_mem)).1, rfl, _, rfl⟩ ?p1 ?p2 ?p3 ?_ ?p4 ?p5 ?p6
      case p1 => exact .int _ _
      case p2 => exact .none
      case p3 => rw [slicePick_from']
      case p4 => rfl
      case p5 => intro r; rfl
      case p6 => have := hI1.length; have := h1.2.2; rw [sizeLine_eq, List.size_toArray]; omega
      intro D2 hh2 F₂ N₂ hD₂
      have q20 : @LT.lt Nat _ _ D2 := hD₂ _ (.head _)
      have q21 : @LT.lt Nat _ _ D2 := hD₂ _ (.tail _ (.head _))
      clear F₁ N₁ hD₂
      k_steps
      with_reducible rename News _ _ _ _ => nJ
      refine join_list (ys := xs.tail.tail) ⟨_, (nJ (D2, listOf (List.toArray (List.drop 1 (vs.drop 1))) 0) (by k_mem)).1, rfl, _, rfl⟩ (by simpa using hI2) (labs_join h2.1 h2.2.2) fun tj kj => ?_
      have hjl2 := labs_join_len h2.1 h2.2.2
      k_steps
      k_dflt (refine' c_ownedM (Z := Z) (xs := xs.tail.tail) ?k1 ?k2 ?k3 ?k4 ?k5 ?k6 ?k7 ?k8 ?o1 ?o2 ?o3 ?o4 ?o5 ?o6 ?o7 ?o8 ?o9 ?_; (case k1 => k_asm); (case k2 => k_asm); (case k3 => k_asm); (case k4 => k_asm); (case k5 => k_asm); (case k6 => first | exact rfl | assumption); (case k7 => first | ktr_room | ((try dsimp only); omega)); (case k8 => first | ktr_units | ((try dsimp only); omega)); (case o1 => k_mem); (case o2 => k_mem); (case o3 => exact hZ.mono (by kqd_sub)); (case o4 => exact hI2); (case o5 => exact h2.2.1); (case o6 => exact h2.2.2); (case o7 => exact h2.1); (case o8 => exact hZ5); (case o9 => exact hZ4))
      intro v h' tk' ho F' N'
      cases hof2 : ownedF Z xs.tail.tail with
      | none =>
        rw [hof2] at ho
        cases ho
        (try clear F₂)
        (try clear N₂)
        have hn2 : xs.tail.tail ∈ NAMES := z_nonroot hZo hz2 hof2
        have hz3 : xs.tail.tail.tail ∈ ZNAMES := tail_z hn2
        have h3 := znames_shape _ hz3
        have hI3 : StrsAre (((vs.drop 1).drop 1).drop 1) xs.tail.tail.tail := strs_tail hI2
        have hl3 : (xs.tail.tail.tail).length ≤ 1 := tail_le hl2
        k_with "subscriptTail Name Slice ref ref" => refine Halt.mk ?_
        k_steps
        refine Halt.un ?_
        with_reducible rename Fr _ _ _ _ => F₁
        with_reducible rename News _ _ _ _ => N₁
        refine' kmk_slice_lit (its := List.toArray ((vs.drop 1).drop 1)) (lo := some ((1 : Nat) : Int)) (hi := none) (zs := List.drop 1 ((vs.drop 1).drop 1)) F₁ N₁ ⟨_, (N₁ (D2, listOf (List.toArray ((vs.drop 1).drop 1)) 0) (by k_mem)).1, rfl, _, rfl⟩ ?p1 ?p2 ?p3 ?_ ?p4 ?p5 ?p6
        case p1 => exact .int _ _
        case p2 => exact .none
        case p3 => rw [slicePick_from']
        case p4 => rfl
        case p5 => intro r; rfl
        case p6 => have := hI2.length; have := h2.2.2; rw [sizeLine_eq, List.size_toArray]; omega
        intro D3 hh3 F₂ N₂ hD₂
        have q30 : @LT.lt Nat _ _ D3 := hD₂ _ (.head _)
        have q31 : @LT.lt Nat _ _ D3 := hD₂ _ (.tail _ (.head _))
        have q32 : @LT.lt Nat _ _ D3 := hD₂ _ (.tail _ (.tail _ (.head _)))
        clear F₁ N₁ hD₂
        k_steps
        with_reducible rename News _ _ _ _ => nJ
        refine join_list (ys := xs.tail.tail.tail) ⟨_, (nJ (D3, listOf (List.toArray (List.drop 1 ((vs.drop 1).drop 1))) 0) (by k_mem)).1, rfl, _, rfl⟩ (by simpa using hI3) (labs_join h3.1 h3.2.2) fun tj kj => ?_
        have hjl3 := labs_join_len h3.1 h3.2.2
        k_steps
        k_dflt (refine' c_ownedM (Z := Z) (xs := xs.tail.tail.tail) ?k1 ?k2 ?k3 ?k4 ?k5 ?k6 ?k7 ?k8 ?o1 ?o2 ?o3 ?o4 ?o5 ?o6 ?o7 ?o8 ?o9 ?_; (case k1 => k_asm); (case k2 => k_asm); (case k3 => k_asm); (case k4 => k_asm); (case k5 => k_asm); (case k6 => first | exact rfl | assumption); (case k7 => first | ktr_room | ((try dsimp only); omega)); (case k8 => first | ktr_units | ((try dsimp only); omega)); (case o1 => k_mem); (case o2 => k_mem); (case o3 => exact hZ.mono (by kqd_sub)); (case o4 => exact hI3); (case o5 => exact h3.2.1); (case o6 => exact h3.2.2); (case o7 => exact h3.1); (case o8 => exact hZ5); (case o9 => exact hZ4))
        intro v h' tk' ho F' N'
        cases hof3 : ownedF Z xs.tail.tail.tail with
        | none =>
          exact absurd hof3 (root_owned hZo hz3 (Nat.le_antisymm hl3 h3.2.1))
        | some t =>
          rw [hof3] at ho
          obtain ⟨tt, rfl⟩ := ho
          (try clear F₂)
          (try clear N₂)
          have hs3 := znames_shape _ (List.Mem.tail _ (star_name hz3 (Nat.le_trans hl3 (by decide))))
          k_with "newList" => refine Halt.mk ?_
          k_with "binaryOp Add ref ref" => refine Halt.mk ?_
          k_steps
          refine Halt.un ?_
          with_reducible rename Fr _ _ _ _ => F₁
          with_reducible rename News _ _ _ _ => N₁
          refine newList_K F₁ N₁ ?_
          intro ls h₂ F₂ N₂ ls1
          clear F₁ N₁ ls1
          k_steps
          refine Halt.un ?_
          with_reducible rename Fr _ _ _ _ => F₃
          with_reducible rename News _ _ _ _ => N₃
          refine kmk_add_lit F₃ N₃ (News.isList N₃ (.head _)) (News.isList N₃ (n := 0) (show (D3, listOf (List.toArray (((vs.drop 1).drop 1).drop 1)) 0) ∈ _ by k_mem)) (zs := _ :: (((vs.drop 1).drop 1).drop 1)) rfl ?_ ?hz1
          case hz1 => have q8 := hI0.length; have q9 := h0.2.2; rw [sizeLine_eq]; simp; omega
          intro D₅ h₄ F₄ N₄ hD₅
          clear F₃ N₃ hD₅
          (try clear F₂)
          (try clear N₂)
          k_with_none
          k_steps
          k_dflt (refine' c_ownedM (Z := Z) (xs := (Str.ofString "*" :: xs.tail.tail.tail)) ?k1 ?k2 ?k3 ?k4 ?k5 ?k6 ?k7 ?k8 ?o1 ?o2 ?o3 ?o4 ?o5 ?o6 ?o7 ?o8 ?o9 ?_; (case k1 => k_asm); (case k2 => k_asm); (case k3 => k_asm); (case k4 => k_asm); (case k5 => k_asm); (case k6 => first | exact rfl | assumption); (case k7 => first | ktr_room | ((try dsimp only); omega)); (case k8 => first | ktr_units | ((try dsimp only); omega)); (case o1 => k_mem); (case o2 => k_mem); (case o3 => exact hZ.mono (by kqd_sub)); (case o4 => exact (.cons _ _ hI3)); (case o5 => exact hs3.2.1); (case o6 => exact hs3.2.2); (case o7 => exact hs3.1); (case o8 => exact hZ5); (case o9 => exact hZ4))
          intro v h' tk' ho F' N'
          cases hos : ownedF Z (Str.ofString "*" :: xs.tail.tail.tail) with
          | some t =>
            rw [hos] at ho
            obtain ⟨tt, rfl⟩ := ho
            k_steps
            with_reducible rename News _ _ _ _ => kN
            with_reducible rename Fr _ _ _ _ => kF
            refine hret _ _ _ _ _ _ ?ht ?hv kF (N_head kN ?hs)
            case ht => simp only [due_none hof, climbF_none hz0 hof, climbF_none hz1 hof1, climbF_none hz2 hof2, climbF_some hz3 hof3, hos]; first | exact ⟨_, rfl⟩ | rfl
            case hv => simp only [due_none hof, climbF_none hz0 hof, climbF_none hz1 hof1, climbF_none hz2 hof2, climbF_some hz3 hof3, hos]; repeat first | exact StrsAre.nil | apply StrsAre.cons
            case hs => (intro x hx; repeat first | exact hx | refine List.Mem.tail _ ?_)
          | none =>
            rw [hos] at ho
            cases ho
            k_steps
            with_reducible rename News _ _ _ _ => kN
            with_reducible rename Fr _ _ _ _ => kF
            refine hret _ _ _ _ _ _ ?ht ?hv kF (N_head kN ?hs)
            case ht => simp only [due_none hof, climbF_none hz0 hof, climbF_none hz1 hof1, climbF_none hz2 hof2, climbF_some hz3 hof3, hos]; first | exact ⟨_, rfl⟩ | rfl
            case hv => simp only [due_none hof, climbF_none hz0 hof, climbF_none hz1 hof1, climbF_none hz2 hof2, climbF_some hz3 hof3, hos]; repeat first | exact StrsAre.nil | apply StrsAre.cons
            case hs => (intro x hx; repeat first | exact hx | refine List.Mem.tail _ ?_)
      | some t =>
        rw [hof2] at ho
        obtain ⟨tt, rfl⟩ := ho
        (try clear F₂)
        (try clear N₂)
        have hs2 := znames_shape _ (List.Mem.tail _ (star_name hz2 (Nat.le_trans hl2 (by decide))))
        k_with "newList" => refine Halt.mk ?_
        k_with "binaryOp Add ref ref" => refine Halt.mk ?_
        k_steps
        refine Halt.un ?_
        with_reducible rename Fr _ _ _ _ => F₁
        with_reducible rename News _ _ _ _ => N₁
        refine newList_K F₁ N₁ ?_
        intro ls h₂ F₂ N₂ ls1
        clear F₁ N₁ ls1
        k_steps
        refine Halt.un ?_
        with_reducible rename Fr _ _ _ _ => F₃
        with_reducible rename News _ _ _ _ => N₃
        refine kmk_add_lit F₃ N₃ (News.isList N₃ (.head _)) (News.isList N₃ (n := 0) (show (D2, listOf (List.toArray ((vs.drop 1).drop 1)) 0) ∈ _ by k_mem)) (zs := _ :: ((vs.drop 1).drop 1)) rfl ?_ ?hz1
        case hz1 => have q8 := hI0.length; have q9 := h0.2.2; rw [sizeLine_eq]; simp; omega
        intro D₅ h₄ F₄ N₄ hD₅
        clear F₃ N₃ hD₅
        (try clear F₂)
        (try clear N₂)
        k_with_none
        k_steps
        k_dflt (refine' c_ownedM (Z := Z) (xs := (Str.ofString "*" :: xs.tail.tail)) ?k1 ?k2 ?k3 ?k4 ?k5 ?k6 ?k7 ?k8 ?o1 ?o2 ?o3 ?o4 ?o5 ?o6 ?o7 ?o8 ?o9 ?_; (case k1 => k_asm); (case k2 => k_asm); (case k3 => k_asm); (case k4 => k_asm); (case k5 => k_asm); (case k6 => first | exact rfl | assumption); (case k7 => first | ktr_room | ((try dsimp only); omega)); (case k8 => first | ktr_units | ((try dsimp only); omega)); (case o1 => k_mem); (case o2 => k_mem); (case o3 => exact hZ.mono (by kqd_sub)); (case o4 => exact (.cons _ _ hI2)); (case o5 => exact hs2.2.1); (case o6 => exact hs2.2.2); (case o7 => exact hs2.1); (case o8 => exact hZ5); (case o9 => exact hZ4))
        intro v h' tk' ho F' N'
        cases hos : ownedF Z (Str.ofString "*" :: xs.tail.tail) with
        | some t =>
          rw [hos] at ho
          obtain ⟨tt, rfl⟩ := ho
          k_steps
          with_reducible rename News _ _ _ _ => kN
          with_reducible rename Fr _ _ _ _ => kF
          refine hret _ _ _ _ _ _ ?ht ?hv kF (N_head kN ?hs)
          case ht => simp only [due_none hof, climbF_none hz0 hof, climbF_none hz1 hof1, climbF_some hz2 hof2, hos]; first | exact ⟨_, rfl⟩ | rfl
          case hv => simp only [due_none hof, climbF_none hz0 hof, climbF_none hz1 hof1, climbF_some hz2 hof2, hos]; repeat first | exact StrsAre.nil | apply StrsAre.cons
          case hs => (intro x hx; repeat first | exact hx | refine List.Mem.tail _ ?_)
        | none =>
          rw [hos] at ho
          cases ho
          k_steps
          with_reducible rename News _ _ _ _ => kN
          with_reducible rename Fr _ _ _ _ => kF
          refine hret _ _ _ _ _ _ ?ht ?hv kF (N_head kN ?hs)
          case ht => simp only [due_none hof, climbF_none hz0 hof, climbF_none hz1 hof1, climbF_some hz2 hof2, hos]; first | exact ⟨_, rfl⟩ | rfl
          case hv => simp only [due_none hof, climbF_none hz0 hof, climbF_none hz1 hof1, climbF_some hz2 hof2, hos]; repeat first | exact StrsAre.nil | apply StrsAre.cons
          case hs => (intro x hx; repeat first | exact hx | refine List.Mem.tail _ ?_)
    | some t =>
      rw [hof1] at ho
      obtain ⟨tt, rfl⟩ := ho
      (try clear F₂)
      (try clear N₂)
      have hs1 := znames_shape _ (List.Mem.tail _ (star_name hz1 (Nat.le_trans hl1 (by decide))))
      k_with "newList" => refine Halt.mk ?_
      k_with "binaryOp Add ref ref" => refine Halt.mk ?_
      k_steps
      refine Halt.un ?_
      with_reducible rename Fr _ _ _ _ => F₁
      with_reducible rename News _ _ _ _ => N₁
      refine newList_K F₁ N₁ ?_
      intro ls h₂ F₂ N₂ ls1
      clear F₁ N₁ ls1
      k_steps
      refine Halt.un ?_
      with_reducible rename Fr _ _ _ _ => F₃
      with_reducible rename News _ _ _ _ => N₃
      refine kmk_add_lit F₃ N₃ (News.isList N₃ (.head _)) (News.isList N₃ (n := 0) (show (D1, listOf (List.toArray (vs.drop 1)) 0) ∈ _ by k_mem)) (zs := _ :: (vs.drop 1)) rfl ?_ ?hz1
      case hz1 => have q8 := hI0.length; have q9 := h0.2.2; rw [sizeLine_eq]; simp; omega
      intro D₅ h₄ F₄ N₄ hD₅
      clear F₃ N₃ hD₅
      (try clear F₂)
      (try clear N₂)
      k_with_none
      k_steps
      k_dflt (refine' c_ownedM (Z := Z) (xs := (Str.ofString "*" :: xs.tail)) ?k1 ?k2 ?k3 ?k4 ?k5 ?k6 ?k7 ?k8 ?o1 ?o2 ?o3 ?o4 ?o5 ?o6 ?o7 ?o8 ?o9 ?_; (case k1 => k_asm); (case k2 => k_asm); (case k3 => k_asm); (case k4 => k_asm); (case k5 => k_asm); (case k6 => first | exact rfl | assumption); (case k7 => first | ktr_room | ((try dsimp only); omega)); (case k8 => first | ktr_units | ((try dsimp only); omega)); (case o1 => k_mem); (case o2 => k_mem); (case o3 => exact hZ.mono (by kqd_sub)); (case o4 => exact (.cons _ _ hI1)); (case o5 => exact hs1.2.1); (case o6 => exact hs1.2.2); (case o7 => exact hs1.1); (case o8 => exact hZ5); (case o9 => exact hZ4))
      intro v h' tk' ho F' N'
      cases hos : ownedF Z (Str.ofString "*" :: xs.tail) with
      | some t =>
        rw [hos] at ho
        obtain ⟨tt, rfl⟩ := ho
        k_steps
        with_reducible rename News _ _ _ _ => kN
        with_reducible rename Fr _ _ _ _ => kF
        refine hret _ _ _ _ _ _ ?ht ?hv kF (N_head kN ?hs)
        case ht => simp only [due_none hof, climbF_none hz0 hof, climbF_some hz1 hof1, hos]; first | exact ⟨_, rfl⟩ | rfl
        case hv => simp only [due_none hof, climbF_none hz0 hof, climbF_some hz1 hof1, hos]; repeat first | exact StrsAre.nil | apply StrsAre.cons
        case hs => (intro x hx; repeat first | exact hx | refine List.Mem.tail _ ?_)
      | none =>
        rw [hos] at ho
        cases ho
        k_steps
        with_reducible rename News _ _ _ _ => kN
        with_reducible rename Fr _ _ _ _ => kF
        refine hret _ _ _ _ _ _ ?ht ?hv kF (N_head kN ?hs)
        case ht => simp only [due_none hof, climbF_none hz0 hof, climbF_some hz1 hof1, hos]; first | exact ⟨_, rfl⟩ | rfl
        case hv => simp only [due_none hof, climbF_none hz0 hof, climbF_some hz1 hof1, hos]; repeat first | exact StrsAre.nil | apply StrsAre.cons
        case hs => (intro x hx; repeat first | exact hx | refine List.Mem.tail _ ?_)
end
end Mine
end
section -- S7
open PySem PySem.W PyProof.Rows PySem.Calls PyProof.V
namespace Mine
section
variable {prog : Program} {w : World} {A A₀ : Around} {s : Shared} {K : Frag} {L : Addr} {h₀ base : Heap} {m mg mb : Str → Option Value} {p : Program} {loose : List Str} {mean : ExcName → Option Value} {R : Result → Shared → Prop}
/-- into a tainted def with cells that may turn what the ledger names -/
theorem code_defCS {env : Env} {outer : List Env} {news : List (Addr × Obj)} {name qual : Str} {params : Arguments} {body : List Stmt} {scope : Scope} {dV kV doc pm cdv ct oc : Value} {an od : Option Addr} {osl : Array (Option Value)} {f : Addr} {args : Args} {binds : List (Str × Value)}
    (B : Below A₀ base outer h₀) (F : Fr h₀ L s.heap m) (X₀ : K.In h₀) (N : News h₀ L s.heap news) (T : Top p loose mean mg mb h₀) (hA : A.frames = some (env :: outer)) (hf : env.frame = some L) (hke : env.scope.kind = .function)
    (ho : K.lookup f = some ⟨oc, od, .func (fnOf name qual params body scope dV kV doc pm an cdv ct), osl⟩) (hcd : codeIn K cdv qual = true) (hroom : A.depth < recursionLimit)
    (hbind : BindsTo s (fnOf name qual params body scope dV kV doc pm an cdv ct) args binds) (hkind : (binds.all fun y => scope.names.lookup y.1 == some .local || scope.names.lookup y.1 == some .cell) = true)
    (hnd : ((cellsFrom 0 scope.names []).map (·.1)).Nodup)
    (h : ∀ g L' h₁ tk cells, Fr h₀ L g m → Fr g L' h₁ (bindL (envOfC qual scope L' f cdv).kindOf binds fun _ => none) → News g L' h₁ (cells ++ news) →
      CellsAre (bindC (envOfC qual scope L' f cdv).kindOf binds fun _ => none) (cellsFrom (L' + 1) scope.names []) cells → Below A base (env :: outer) g → K.In g → Top p loose mean mg mb g → (∀ p ∈ news, p.1 < L') →
      wpS (model prog w) (A.deeper (envOfC qual scope L' f cdv)) (execs body (envOfC qual scope L' f cdv))
        (fun fl s' => LeaveK h₀ L m g R (match fl with | .ret v => v | _ => .none) s') (fun _ _ => False) { s with heap := h₁, toks := tk })
    (hco : scope.isCoroutine = false) (hgen : scope.isGenerator = false) (hk : scope.kind = .function) : codeS (model prog w) A (.call (.ref f) args) R s := by
  obtain ⟨FG, BG, st, lv⟩ := groundX (R := R) B F N hA hf hke
  have X := X₀.keeps F.keep
  refine codeS_call_function hroom (X _ _ ho) rfl hco hgen rfl (codeRec_of X hcd) (hbind _ _ _ _ ?_)
  refine wpAny_newFunctionEnv_cells hk (kindsX hkind _) fun env' he s' x => ?_
  subst he
  refine ⟨(T.nolimit.keeps F.keep).keeps x.toInCall.keep, codeS_func ?_⟩
  obtain ⟨h₁, tk, rfl, _⟩ := x.done
  have hk₁ := x.toInCall.keep
  obtain ⟨cells, NC, Y⟩ := Cl.news (h₀ := s.heap) (Nat.le_refl _) fun n c hm => ⟨x.cell n c (lookup_of_mem_nodup (cellsFrom_names scope.names 0 (s.heap.objs.size + 1) [] [] rfl ▸ hnd) hm), x.above n c hm⟩
  refine S_mono (h _ s.heap.objs.size h₁ tk cells FG ⟨x.toInCall.ns, fun b o e => hk₁ b o (of_hideAll _ e), Nat.le_of_eq (hideAll_size _ _)⟩ (fun p hp => ?_) Y BG (X₀.keeps st) (T.keeps st) (fun p hp => Heap.lt_size (N p hp).1)) (fun fl s' hl => lv _ _ hl) fun _ _ y => y
  rcases List.mem_append.mp hp with hp | hp
  · refine ⟨(NC p hp).1, (NC p hp).2.1, ?_⟩
    cases q : (hideAll s.heap (news.map (·.1))).get? p.1 with
    | none => rfl
    | some o => have := of_hideAll _ q; rw [(NC p hp).2.2] at this; cases this
  · exact ⟨hk₁ _ _ (N p hp).1, Nat.ne_of_lt (Heap.lt_size (N p hp).1), hideAll_none _ (List.mem_map_of_mem hp)⟩
end
inductive MoreG : Array GenState → Array GenState → Prop
  | refl {g : Array GenState} : MoreG g g
  | push {g g' : Array GenState} : MoreG g g' → MoreG g (g'.push .finished)
theorem MoreG.trans {a b c : Array GenState} (h : MoreG a b) (k : MoreG b c) : MoreG a c := by
  induction k with
  | refl => exact h
  | push _ ih => exact .push ih
end Mine
end
section -- E2
open PySem PySem.W PyProof.Rows PySem.Calls
namespace Mine

theorem fill_E2 : (fun (_ : OpenLaw) (_ : Params → Frag) => True) PySem.Challenge.rw_zo0019_01 hd.heap_39 := by
  w_top off
  k_with_none
  k_fill
  trivial

theorem N_del1 {g h : Heap} {L : Addr} {a b : Addr × Obj} {r : List (Addr × Obj)} (N : News g L h (a :: b :: r)) : News g L h (a :: r) := N_sub N fun p hp => (List.mem_cons.mp hp).elim (fun e => e ▸ .head _) fun q => .tail _ (.tail _ q)
theorem N_del2 {g h : Heap} {L : Addr} {a b c : Addr × Obj} {r : List (Addr × Obj)} (N : News g L h (a :: b :: c :: r)) : News g L h (a :: b :: r) := N_sub N fun p hp => (List.mem_cons.mp hp).elim (fun e => e ▸ .head _) fun q => (List.mem_cons.mp q).elim (fun e => e ▸ .tail _ (.head _)) fun q => .tail _ (.tail _ (.tail _ q))
theorem tail_ne {d : Nat} {c : Addr} {news : List (Addr × Obj)} (h : AllLt d news) (hc : d ≤ c) : ∀ p ∈ news, p.1 ≠ c := by
  induction news with
  | nil => intro p hp; cases hp
  | cons q r ih =>
    intro p hp
    rcases List.mem_cons.mp hp with rfl | hp
    · exact Nat.ne_of_lt (Nat.lt_of_lt_of_le h.1 hc)
    · exact ih h.2 p hp
local macro_rules | `(tactic| walk_at "subscriptTail") => `(tactic| k_extra "m:subscriptTail")
theorem row_E2_1 : True := by
  k_with "m:subscriptTail" => (k_here; (with_reducible show wpAny _ _ (subscriptTail _ _ (Value.ref _) (Value.str _ _)) _ _ _); (with_unfolding_all refine' dict_item ?k1 ?k2 ?k3 ?k4 ?_; (case k1 => k_asm); (case k2 => k_mem); (case k3 => assumption); (case k4 => assumption); k_whole))
  trivial
local macro_rules | `(tactic| k_all) => `(tactic| k_extra "m:k_all")
theorem row_E2_2 : True := by
  k_with "m:k_all" => (refine tail_ne (by assumption) ?_; (try dsimp only); omega)
  trivial
section
variable {prog : Program} {w : World} {mean : ExcName → Option Value} {mg mb : Str → Option Value} {news : List (Addr × Obj)} {dp un : Nat} {gd : Option (List Code)} {cn : Str} {cs : Scope} {a : Addr} {ccd : Value} {cl : List (Str × Addr)} {outer : List Env} {A₀ : Around} {base h₀ : Heap} {L : Addr} {m : Str → Option Value} {s : Shared} {Q E : Value → Shared → Prop}
theorem c_bisM {l : Addr} {vs : List Value} {nl : Nat} {xs : List Str} {x : Str} {tx : Tok} {k : Nat} (B : Below A₀ base outer h₀) (F : Fr h₀ L s.heap m) (X : (hd.heap_39 w.params).In h₀) (N : News h₀ L s.heap news)
    (T : Top hd.view_39 (looseW hd.view_39 [Str.ofString "IPV4_RE", Str.ofString "insort_left", Str.ofString "bisect_left"]) mean mg mb h₀) (hk : cs.kind = .function)
    (hd' : dp + 1 < recursionLimit) (hu : un + 20 * 1 < cLine) (hm : (l, listOf vs.toArray nl) ∈ news) (hI : StrsAre vs xs) (hn : xs.length ≤ 100)
    (hk1 : k ≤ xs.length) (hk2 : ∀ i, i < xs.length → ((xs.getD i Str.empty).cps.toList < x.cps.toList ↔ i < k))
    (hret : ∀ (t : Tok) (h' : Heap) (tk' : Nat), Fr h₀ L h' m → News h₀ L h' news → Q (.int k t) { s with heap := h', toks := tk' }) :
    wpAny (model prog w) (ktrTop dp un gd cn cs L a ccd cl outer) (call (.ref 82) [.ref l, .str x tx]) Q E s :=
  c_bis (news := news) B F X (fun p hp => by
    rcases List.mem_cons.mp hp with rfl | hp
    · exact N _ hm
    · exact N p hp) T hk hd' hu hI hn hk1 hk2 fun t h' tk' F' N' => hret t h' tk' F' (N_sub N' fun p hp => .tail _ hp)
theorem c_servedX {rw d : Addr} {o : Obj} {kvs : List (Str × Value)} {vs : List Value} {nr : Nat} {Z : List (List Str)} {R : List Str} {xs : List Str} {tx : Tok} (B : Below A₀ base outer h₀) (F : Fr h₀ L s.heap m) (X : (hd.heap_39 w.params).In h₀) (N : News h₀ L s.heap ((rw, listOf vs.toArray nr) :: (d, o) :: news))
    (T : Top hd.view_39 (looseW hd.view_39 [Str.ofString "IPV4_RE", Str.ofString "insort_left", Str.ofString "bisect_left"]) mean mg mb h₀) (hk : cs.kind = .function)
    (hd' : dp + 8 < recursionLimit) (hu : un + 20 * 8 < cLine) (hgd : gd = some [])
    (hD : o.IsDictOf (PySem.strKind prog w) kvs) (lo : (d == sysModules) = false) (hZ : Zone Z R kvs) (hR : StrsAre vs R) (hn : xs ∈ NAMES)
    (hret : ∀ r vt ws nn h' tk' g', MoreG s.gens g' → optIs (dueF Z xs).1 vt → StrsAre ws (dueF Z xs).2 → Fr h₀ L h' m → News h₀ L h' ((r, listOf (vt :: ws).toArray nn) :: (rw, listOf vs.toArray nr) :: (d, o) :: news) →
      Q (.ref r) { s with heap := h', toks := tk', gens := g' }) :
    wpS (model prog w) (ktrTop dp un gd cn cs L a ccd cl outer) (call (.ref 120) [.ref rw, .ref d, .str (joinF xs) tx]) Q E s := by
  have hz1 : xs.tail ∈ ZNAMES := tail_z hn
  have hdl1 := name_len3 hz1
  have hs1 : xs.tail <:+ xs := List.tail_suffix _
  have hl1 : xs.tail.length ≤ 3 := tail_le (znames_shape xs (.tail _ hn)).2.2
  k_with_none
  k_with "m:subscriptTail" => (k_here; (with_reducible show wpAny _ _ (subscriptTail _ _ (Value.ref _) (Value.str _ _)) _ _ _); (with_unfolding_all refine' dict_item ?k1 ?k2 ?k3 ?k4 ?_; (case k1 => k_asm); (case k2 => k_mem); (case k3 => assumption); (case k4 => assumption); k_whole))
  k_with "m:k_all" => (refine tail_ne (by assumption) ?_; (try dsimp only); omega)
  refine wpS_call ?_
  k_dflt (refine' code_defCS ?k1 ?k2 ?k3 ?k4 ?k5 ?kA ?kF ?kK ?k6 ?k7 ?k8 ?k9 ?kB ?kD ?_ ?c2 ?c3 ?c4; (case kA => exact rfl); (case kF => exact rfl); (case kK => assumption); (case k1 => k_asm); (case k2 => k_asm); (case k3 => k_asm); (case k4 => k_asm); (case k5 => k_asm); (case k6 => k_is); (case k7 => k_is); (case k8 => ktr_room); (case k9 => exact BindsTo.of_eq rfl); (case kB => exact rfl); (case kD => decide +kernel); (case c2 => exact rfl); (case c3 => exact rfl); (case c4 => exact rfl); k_whole; intro g' L' h' tk' cells' FG' F' N' Y' B' X' T' l1; (try k_lt l1); k_cells Y'; (try simp only [List.cons_append, List.nil_append] at N'); (try dsimp only); (try k_lift B'); (try k_fold))
  have hal := l1.2.2
  refine S_execs_cons (S_Assign (S_Call (K := hd.heap_39 w.params) (f := .ref 82) ?kf rfl ?_))
  case kf => exact rfl
  k_steps
  refine S_arg (S_of ?_)
  k_steps
  refine S_arg (S_Call (K := hd.heap_39 w.params) (f := .ref 108) ?kf rfl ?_)
  case kf => exact rfl
  k_steps
  refine S_arg (S_of ?_)
  k_steps
  refine S_noarg ?_
  refine ⟨X'.keeps F'.keep, ?_⟩
  k_dflt (refine' c_turnedJ ?k1 ?k2 ?k3 ?k4 ?k5 ?k6 ?k7 ?k8 hgd rfl hn ?_; (case k1 => k_asm); (case k2 => k_asm); (case k3 => k_asm); (case k4 => k_asm); (case k5 => k_asm); (case k6 => first | exact rfl | assumption); (case k7 => first | ktr_room | ((try dsimp only); omega)); (case k8 => first | ktr_units | ((try dsimp only); omega)))
  intro t₂ tk₂ h₂ hk₂
  have F₂ := F'.keeps hk₂
  have N₂ := N'.grown hk₂
  clear F' N' hk₂
  refine S_noarg ?_
  refine ⟨X'.keeps F₂.keep, S_of ?_⟩
  have hRl : R.length ≤ 100 := by rw [hZ.rlen]; exact Nat.le_trans hZ.len (by decide)
  k_dflt (refine' c_bisM (k := placeN R (turnF xs)) ?k1 ?k2 ?k3 ?k4 ?k5 ?k6 ?k7 ?k8 ?km ?k9 ?k10 (place_le _ _) (place_lt hZ _) ?_; (case k1 => k_asm); (case k2 => k_asm); (case k3 => k_asm); (case k4 => k_asm); (case k5 => k_asm); (case k6 => first | exact rfl | assumption); (case k7 => first | ktr_room | ((try dsimp only); omega)); (case k8 => first | ktr_units | ((try dsimp only); omega)); (case km => k_mem); (case k9 => exact hR); (case k10 => exact hRl))
  intro t₃ h₃ tk₃ F₃ N₃
  clear F₂ N₂
  k_with "subscriptTail Name Slice ref ref" => refine Halt.mk ?_
  k_steps
  refine S_execs_cons (S_of ?_)
  k_steps
  refine Halt.un ?_
  with_reducible rename Fr _ _ _ _ => F₄
  with_reducible rename News _ _ _ _ => N₄
  refine' kmk_slice_lit (its := vs.toArray) (lo := some ((placeN R (turnF xs) : Nat) : Int)) (hi := some (((placeN R (turnF xs) : Nat) : Int) + 1)) (zs := (vs.drop (placeN R (turnF xs))).take 1) F₄ N₄ ⟨_, (N₄ (rw, listOf vs.toArray nr) (by k_mem)).1, rfl, _, rfl⟩ ?p1 ?p2 ?p3 ?_ ?p4 ?p5 ?p6
  case p1 => exact .int _ _
  case p2 => exact .int _ _
  case p3 => rw [slice_ab (a := placeN R (turnF xs)) (b := placeN R (turnF xs) + 1) rfl (by omega), Nat.add_sub_cancel_left]
  case p4 => rfl
  case p5 => intro r; rfl
  case p6 => rw [sizeLine_eq, List.size_toArray, hR.length]; omega
  intro D h₅ F₅ N₅ hD
  have hD1 : @LT.lt Nat _ (L' + 1 + 1) D := hD _ (.head _)
  have hD2 : @LT.lt Nat _ rw D := hD _ (.tail _ (.tail _ (.head _)))
  have hD3 : @LT.lt Nat _ d D := hD _ (.tail _ (.tail _ (.tail _ (.head _))))
  clear F₄ N₄ hD
  k_with "call ref" => refine Halt.mk ?_
  k_steps
  refine Halt.un ?_
  have hzn : xs ∈ ZNAMES := .tail _ hn
  k_dflt (refine' c_foundM (kvs := kvs) (r := ownedF Z xs) ?k1 ?k2 ?k3 ?k4 ?k5 ?k6 ?k7 ?k8 ?f1 ?f2 hD lo (found_at hZ hR hn) (name_len hzn) (name_len2 hzn) (name_nd hzn) ?_; (case k1 => k_asm); (case k2 => k_asm); (case k3 => k_asm); (case k4 => k_asm); (case k5 => k_asm); (case k6 => first | exact rfl | assumption); (case k7 => first | ktr_room | ((try dsimp only); omega)); (case k8 => first | ktr_units | ((try dsimp only); omega)); (case f1 => k_mem); (case f2 => k_mem))
  intro v₆ h₆ tk₆ ho F₆ N₆
  clear F₅ N₅
  cases hof : ownedF Z xs with
  | none =>
    rw [hof] at ho
    cases ho
    k_steps
    refine S_execs_cons (S_of ?_)
    k_steps
    refine S_execs_cons (S_If (S_of ?_))
    k_steps
    refine S_hide fun Q₁ hQ₁ => ?_
    k_with "exec Assign cons ListComp" => refine Halt.mk ?_
    refine S_execs_cons (S_of (A_hide fun Q₂ hQ₂ => ?_))
    k_steps
    refine Halt.un ?_
    refine' wpAny_Assign_ListComp_free (cl := [(Str.ofString "names", L' + 1)]) (fun _ => true) (fun v y => ∃ (z : List Str) (t t' : Tok), z ∈ Z ∧ v = Value.str (turnF z) t ∧ y = Value.str (Str.ofString "x." ++ joinF z) t') ?k0 ?k1 ?k2 ?k3 ?k4 ?k5 ?k7 ?k8 ?_ ?k6
    case k0 => exact rfl
    case k1 => exact rfl
    case k2 => decide
    case k3 => exact rfl
    case k4 => decide
    case k5 => exact rfl
    case k6 => intro _; rfl
    case k7 => exact rfl
    case k8 => exact rfl
    k_steps
    refine Halt.un ?_
    with_reducible rename Fr _ _ _ _ => F₆
    with_reducible rename News _ _ _ _ => N₆
    refine' kmk_slice_lit (its := vs.toArray) (lo := some (((placeN R (turnF xs) : Nat) : Int) - 1)) (hi := some (((placeN R (turnF xs) : Nat) : Int) + 1)) (zs := (vs.drop (placeN R (turnF xs) - 1)).take 2) F₆ N₆ ⟨_, (N₆ (rw, listOf vs.toArray nr) (by k_mem)).1, rfl, _, rfl⟩ ?p1 ?p2 ?p3 ?_ ?p4 ?p5 ?p6
    case p1 => exact .int _ _
    case p2 => exact .int _ _
    case p3 =>
      have hp := place_pos hZ hn
      rw [slice_ab (a := placeN R (turnF xs) - 1) (b := placeN R (turnF xs) + 1) (by omega) (by omega)]
      congr 1
      omega
    case p4 => rfl
    case p5 => intro r; rfl
    case p6 => rw [sizeLine_eq, List.size_toArray, hR.length]; omega
    intro D₂ h₇ F₇ N₇ hD₂
    clear F₆ N₆ hD₂
    have hL₇ : Heap.IsList h₇ D₂ ((vs.drop (placeN R (turnF xs) - 1)).take 2).toArray := ⟨_, (N₇ _ (.head _)).1, rfl, _, rfl⟩
    have hlt := Heap.lt_size (N₇ _ (.head _)).1
    refine wpAny_pyIter_list hL₇ ⟨_, _, _, _, _, _, _, rfl, Walks.list rfl _ _ (Nat.ne_of_lt hlt) _, ?sz2, ⟨⟨_, Heap.get?_push_size _ rfl, rfl, rfl⟩, hL₇.push _⟩, ?fp2, ?lw, (F₇.push _).ns, ⟨?te2, ?el2⟩, ?po2⟩
    case sz2 => rw [sizeLine_eq, List.size_toArray]; refine Nat.le_trans (List.length_take_le _ _) (by decide)
    case fp2 =>
      intro b hb
      rcases List.mem_cons.mp hb with rfl | hb
      · simp
      · rw [List.mem_singleton.mp hb]; simp; exact Nat.lt_succ_of_lt hlt
    case lw =>
      intro hm
      exact absurd F₇.ns.lt ((List.mem_singleton.mp hm) ▸ Nat.lt_irrefl _)
    case te2 => exact fun C i v s₃ m₃ E' _ _ _ _ _ _ => wpAny_pure ⟨rfl, _, _, rfl, fun _ _ e => e⟩
    case el2 =>
      rintro C i v s₃ m₃ E' hC hv _ hns hm hkk htk
      have hkp : ∀ b o, h₇.get? b = some o → s₃.heap.get? b = some o := fun b o e => hkk b o (fun q => Nat.lt_irrefl _ (List.mem_singleton.mp q ▸ Heap.lt_size e)) (Heap.get?_push_of_some _ e)
      clear hkk
      obtain ⟨key, tkey, rfl, hkR⟩ := strs_at (strs_take (strs_drop hR _) _) hv
      obtain ⟨z, hzZ, rfl⟩ := (hZ.row key).mp (List.mem_of_mem_drop (List.mem_of_mem_take hkR))
      obtain ⟨tz, hval⟩ := hZ.dict z hzZ
      have hzl := name_len (hZ.zin z hzZ)
      k_steps
      all_goals first | assumption | exact ⟨_, _, rfl, fun _ _ e => e⟩
    rintro D₃ h₈ tk₈ ys vs₈ hD₃ hl₈ hpl₈ hlen hP hF hns hkk
    obtain ⟨nD, bs, zs, ⟨N₈, hne₈, hkg⟩, hzs, hzk, hzv⟩ := beside_made F₇ N₇ hkk hD₃ hpl₈ (by simpa using hlen) hP hF (strs_take (strs_drop hR _) _)
    have F₈ : Fr g' L' h₈ _ := ⟨hns, hkg, F₇.above⟩
    have N₉ := N_del2 (N_del1 N₈)
    have e1 := neN (hne₈ _ (.tail _ (.head _)))
    have e2 := neN (hne₈ _ (.tail _ (.tail _ (.tail _ (.head _)))))
    have e3 := neN (hne₈ _ (.tail _ (.tail _ (.tail _ (.tail _ (.head _))))))
    have e4 := neN (hne₈ _ (.tail _ (.tail _ (.tail _ (.tail _ (.tail _ (.head _)))))))
    have e5 := neN (hne₈ _ (.tail _ (.tail _ (.tail _ (.tail _ (.tail _ (.tail _ (.head _))))))))
    dsimp only at e1 e2 e3 e4 e5
    clear hkg hne₈ N₈ hkk hns hF hP hlen hl₈ hpl₈ hD₃ hL₇ hlt F₇ N₇
    k_with "isTrue Compare" => ((with_reducible show wpAny _ _ (isTrue (PySem.Expr.Compare (PySem.Expr.ListComp _ _ _ _) _ _ _) _ _) _ _ _); refine Halt.mk ?_)
    subst hQ₂
    dsimp only
    refine S_execs_cons (S_of (A_hide fun Q₂ hQ₂ => ?_))
    k_steps
    refine Halt.un ?_
    k_dflt (refine' c_reachJ (xs := xs) ?k1 ?k2 ?k3 ?k4 ?k5 ?k6 ?k7 ?k8 rfl hn ?_; (case k1 => k_asm); (case k2 => k_asm); (case k3 => k_asm); (case k4 => k_asm); (case k5 => k_asm); (case k6 => first | exact rfl | assumption); (case k7 => first | ktr_room | ((try dsimp only); omega)); (case k8 => first | ktr_units | ((try dsimp only); omega)))
    intro t₉ h₉ tk₉ F₉ N₁₀
    try dsimp only [List.tail_cons]
    clear N₉ F₈
    k_steps
    subst hQ₂
    dsimp only
    refine S_execs_cons (S_of (A_hide fun Q₂ hQ₂ => ?_))
    k_dflt (refine whl_start 100 ?_)
    k_steps
    refine Halt.un ?_
    refine wpAny_isTrue_Compare1 ?_
    refine' wpAny_ListComp_free (cl := [(Str.ofString "rungs", L' + 1 + 1)]) (fun v => match v with | .str b _ => udmF b (Txt.upper (Str.ofString "." ++ joinF xs.tail)) | _ => false) (fun v y => y = v) ?k1 ?k2 ?k3 ?k4 ?k5 ?_ ?k6
    case k1 => exact rfl
    case k2 => decide
    case k3 => exact rfl
    case k4 => decide
    case k5 => exact rfl
    case k6 => intro _; rfl
    k_with "pyIter ref" => refine Halt.mk ?_
    k_steps
    refine Halt.un ?_
    with_reducible rename Fr _ _ _ _ => F₁
    with_reducible rename News _ _ _ _ => N₁
    have hLb : Heap.IsList _ D₃ bs.toArray := ⟨_, (N₁ _ (.head _)).1, rfl, _, rfl⟩
    have hlt := Heap.lt_size (N₁ _ (.head _)).1
    refine wpAny_pyIter_list hLb ⟨_, _, _, _, _, _, rfl, Walks.list rfl _ _ (Nat.ne_of_lt hlt) _, ?sz31, ⟨⟨_, Heap.get?_push_size _ rfl, rfl, rfl⟩, hLb.push _⟩, ?fp31, ⟨?te31, ?el31⟩, ?po31⟩
    case sz31 => exact beside_small hzv hzk
    case fp31 =>
      intro b hb
      rcases List.mem_cons.mp hb with rfl | hb
      · simp
      · rw [List.mem_singleton.mp hb]; simp; exact Nat.lt_succ_of_lt hlt
    case te31 =>
      rintro C i v s₃ m₃ E' hC hv hns hm hkk htk
      have hkp := fun b o e => hkk b o (fun q => Nat.lt_irrefl _ (List.mem_singleton.mp q ▸ Heap.lt_size e)) (Heap.get?_push_of_some _ e)
      clear hkk
      obtain ⟨b, tb, rfl, hb⟩ := strs_at hzv hv
      obtain ⟨z, hz, rfl⟩ := List.mem_map.mp hb
      rw [List.forIn_cons]
      refine wpAny_bind ?_
      simp only [if_true]
      refine wpAny_bind ?_
      k_steps
      refine Halt.un ?_
      k_dflt (refine' c_udmJ (z := z) (D := xs.tail) ?k1 ?k2 ?k3 ?k4 ?k5 ?k6 ?k7 ?k8 (hZ.zin z (hzs z hz)) hz1 ?_; (case k1 => k_asm); (case k2 => k_asm); (case k3 => k_asm); (case k4 => k_asm); (case k5 => k_asm); (case k6 => first | exact rfl | assumption); (case k7 => first | ktr_room | ((try dsimp only); omega)); (case k8 => first | ktr_units | ((try dsimp only); omega)))
      intro h₅ tk₅ hk₅
      k_steps
      exact wpAny_pure (wpAny_pure ⟨(udm_name (hZ.zin z (hzs z hz)) hz1).symm, _, _, rfl, hk₅⟩)
    case el31 =>
      rintro C i v s₃ m₃ E' hC hv hp hns hm hkk htk
      have hkp := fun b o e => hkk b o (fun q => Nat.lt_irrefl _ (List.mem_singleton.mp q ▸ Heap.lt_size e)) (Heap.get?_push_of_some _ e)
      clear hkk
      k_steps
      exact ⟨_, _, rfl, fun _ _ e => e⟩
    rintro D₄ h₄ tk₄ ys₄ vs₄ hD₄ hl₄ hpl₄ hlen hP hF hkk
    obtain ⟨nD₄, cz, N₄, F₄, hfS⟩ := climb_made (q := fun z => suffixB z xs.tail) F₁ N₁ hkk hD₄ hpl₄ (by simpa using hlen) hP hF hzv (fun z hz t => udm_name (hZ.zin z (hzs z hz)) hz1)
    clear hF hP hlen hkk hl₄ hD₄ hpl₄ F₁ N₁ hLb hlt
    k_with "newList" => refine Halt.mk ?_
    k_steps
    refine Halt.un ?_
    k_dflt (refine' newList_K ?k1 ?k2 ?_; (case k1 => k_asm); (case k2 => k_asm))
    intro lE h₅ F₅ N₅ lE1
    clear F₄ N₄ lE1
    refine kqd_eq (es := []) (n₁ := []) (n₂ := []) N₅ (.tail _ (.head _)) rfl rfl (strs_dat hfS) (fun _ h => nomatch h) (.head _) rfl rfl .nil (fun _ h => nomatch h) (xdat_ok (fun z hz => hZ.zin z (hzs z hz))) (fun _ h => nomatch h) ?_ ?_
    · ke_room
    rw [xdat_nil]
    have N₆ := N_sub (b := (D₃, listOf bs.toArray nD) :: _) N₅ (fun p hp => .tail _ (.tail _ hp))
    clear N₅ hfS
    cases hof1 : ownedF Z xs.tail with
    | none =>
      have hn1 : xs.tail ∈ NAMES := z_nonroot hZ hz1 hof1
      have hz2 : xs.tail.tail ∈ ZNAMES := tail_z hn1
      have hdl2 := name_len3 hz2
      have hs2 : xs.tail.tail <:+ xs := (List.tail_suffix _).trans hs1
      have hl2 : (xs.tail.tail).length ≤ 2 := tail_le hl1
      rw [show ((zs.filter fun z => suffixB z xs.tail).isEmpty) = true from climb_none (beside_owned hZ hn hof (z_ne hz1) hs1 hzs hzk) hof1]
      k_steps
      refine Halt.un ?_
      with_reducible rename Fr _ _ _ _ => F₅
      with_reducible rename News _ _ _ _ => N₆
      k_dflt (refine' c_reachJ (xs := xs.tail) ?k1 ?k2 ?k3 ?k4 ?k5 ?k6 ?k7 ?k8 (names_slice _ hz1) hn1 ?_; (case k1 => k_asm); (case k2 => k_asm); (case k3 => k_asm); (case k4 => k_asm); (case k5 => k_asm); (case k6 => first | exact rfl | assumption); (case k7 => first | ktr_room | ((try dsimp only); omega)); (case k8 => first | ktr_units | ((try dsimp only); omega)))
      intro t₉ h₉ tk₉ F₉ N₁₀
      try dsimp only [List.tail_cons]
      clear F₅ N₆
      k_steps
      refine Halt.un ?_
      refine wpAny_isTrue_Compare1 ?_
      refine' wpAny_ListComp_free (cl := [(Str.ofString "rungs", L' + 1 + 1)]) (fun v => match v with | .str b _ => udmF b (Txt.upper (Str.ofString "." ++ joinF xs.tail.tail)) | _ => false) (fun v y => y = v) ?k1 ?k2 ?k3 ?k4 ?k5 ?_ ?k6
      case k1 => exact rfl
      case k2 => decide
      case k3 => exact rfl
      case k4 => decide
      case k5 => exact rfl
      case k6 => intro _; rfl
      k_with "pyIter ref" => refine Halt.mk ?_
      k_steps
      refine Halt.un ?_
      with_reducible rename Fr _ _ _ _ => F₁
      with_reducible rename News _ _ _ _ => N₁
      have hLb : Heap.IsList _ D₃ bs.toArray := ⟨_, (N₁ _ (.head _)).1, rfl, _, rfl⟩
      have hlt := Heap.lt_size (N₁ _ (.head _)).1
      refine wpAny_pyIter_list hLb ⟨_, _, _, _, _, _, rfl, Walks.list rfl _ _ (Nat.ne_of_lt hlt) _, ?sz32, ⟨⟨_, Heap.get?_push_size _ rfl, rfl, rfl⟩, hLb.push _⟩, ?fp32, ⟨?te32, ?el32⟩, ?po32⟩
      case sz32 => exact beside_small hzv hzk
      case fp32 =>
        intro b hb
        rcases List.mem_cons.mp hb with rfl | hb
        · simp
        · rw [List.mem_singleton.mp hb]; simp; exact Nat.lt_succ_of_lt hlt
      case te32 =>
        rintro C i v s₃ m₃ E' hC hv hns hm hkk htk
        have hkp := fun b o e => hkk b o (fun q => Nat.lt_irrefl _ (List.mem_singleton.mp q ▸ Heap.lt_size e)) (Heap.get?_push_of_some _ e)
        clear hkk
        obtain ⟨b, tb, rfl, hb⟩ := strs_at hzv hv
        obtain ⟨z, hz, rfl⟩ := List.mem_map.mp hb
        rw [List.forIn_cons]
        refine wpAny_bind ?_
        simp only [if_true]
        refine wpAny_bind ?_
        k_steps
        refine Halt.un ?_
        k_dflt (refine' c_udmJ (z := z) (D := xs.tail.tail) ?k1 ?k2 ?k3 ?k4 ?k5 ?k6 ?k7 ?k8 (hZ.zin z (hzs z hz)) hz2 ?_; (case k1 => k_asm); (case k2 => k_asm); (case k3 => k_asm); (case k4 => k_asm); (case k5 => k_asm); (case k6 => first | exact rfl | assumption); (case k7 => first | ktr_room | ((try dsimp only); omega)); (case k8 => first | ktr_units | ((try dsimp only); omega)))
        intro h₅ tk₅ hk₅
        k_steps
        exact wpAny_pure (wpAny_pure ⟨(udm_name (hZ.zin z (hzs z hz)) hz2).symm, _, _, rfl, hk₅⟩)
      case el32 =>
        rintro C i v s₃ m₃ E' hC hv hp hns hm hkk htk
        have hkp := fun b o e => hkk b o (fun q => Nat.lt_irrefl _ (List.mem_singleton.mp q ▸ Heap.lt_size e)) (Heap.get?_push_of_some _ e)
        clear hkk
        k_steps
        exact ⟨_, _, rfl, fun _ _ e => e⟩
      rintro D₄ h₄ tk₄ ys₄ vs₄ hD₄ hl₄ hpl₄ hlen hP hF hkk
      obtain ⟨nD₄, cz, N₄, F₄, hfS⟩ := climb_made (q := fun z => suffixB z xs.tail.tail) F₁ N₁ hkk hD₄ hpl₄ (by simpa using hlen) hP hF hzv (fun z hz t => udm_name (hZ.zin z (hzs z hz)) hz2)
      clear hF hP hlen hkk hl₄ hD₄ hpl₄ F₁ N₁ hLb hlt
      k_with "newList" => refine Halt.mk ?_
      k_steps
      refine Halt.un ?_
      k_dflt (refine' newList_K ?k1 ?k2 ?_; (case k1 => k_asm); (case k2 => k_asm))
      intro lE h₅ F₅ N₅ lE1
      clear F₄ N₄ lE1
      refine kqd_eq (es := []) (n₁ := []) (n₂ := []) N₅ (.tail _ (.head _)) rfl rfl (strs_dat hfS) (fun _ h => nomatch h) (.head _) rfl rfl .nil (fun _ h => nomatch h) (xdat_ok (fun z hz => hZ.zin z (hzs z hz))) (fun _ h => nomatch h) ?_ ?_
      · ke_room
      rw [xdat_nil]
      have N₆ := N_sub (b := (D₃, listOf bs.toArray nD) :: _) N₅ (fun p hp => .tail _ (.tail _ hp))
      clear N₅ hfS
      cases hof2 : ownedF Z xs.tail.tail with
      | none =>
        have hn2 : xs.tail.tail ∈ NAMES := z_nonroot hZ hz2 hof2
        have hz3 : xs.tail.tail.tail ∈ ZNAMES := tail_z hn2
        have hdl3 := name_len3 hz3
        have hs3 : xs.tail.tail.tail <:+ xs := (List.tail_suffix _).trans hs2
        have hl3 : (xs.tail.tail.tail).length ≤ 1 := tail_le hl2
        rw [show ((zs.filter fun z => suffixB z xs.tail.tail).isEmpty) = true from climb_none (beside_owned hZ hn hof (z_ne hz2) hs2 hzs hzk) hof2]
        k_steps
        refine Halt.un ?_
        with_reducible rename Fr _ _ _ _ => F₅
        with_reducible rename News _ _ _ _ => N₆
        k_dflt (refine' c_reachJ (xs := xs.tail.tail) ?k1 ?k2 ?k3 ?k4 ?k5 ?k6 ?k7 ?k8 (names_slice _ hz2) hn2 ?_; (case k1 => k_asm); (case k2 => k_asm); (case k3 => k_asm); (case k4 => k_asm); (case k5 => k_asm); (case k6 => first | exact rfl | assumption); (case k7 => first | ktr_room | ((try dsimp only); omega)); (case k8 => first | ktr_units | ((try dsimp only); omega)))
        intro t₉ h₉ tk₉ F₉ N₁₀
        try dsimp only [List.tail_cons]
        clear F₅ N₆
        k_steps
        refine Halt.un ?_
        refine wpAny_isTrue_Compare1 ?_
        refine' wpAny_ListComp_free (cl := [(Str.ofString "rungs", L' + 1 + 1)]) (fun v => match v with | .str b _ => udmF b (Txt.upper (Str.ofString "." ++ joinF xs.tail.tail.tail)) | _ => false) (fun v y => y = v) ?k1 ?k2 ?k3 ?k4 ?k5 ?_ ?k6
        case k1 => exact rfl
        case k2 => decide
        case k3 => exact rfl
        case k4 => decide
        case k5 => exact rfl
        case k6 => intro _; rfl
        k_with "pyIter ref" => refine Halt.mk ?_
        k_steps
        refine Halt.un ?_
        with_reducible rename Fr _ _ _ _ => F₁
        with_reducible rename News _ _ _ _ => N₁
        have hLb : Heap.IsList _ D₃ bs.toArray := ⟨_, (N₁ _ (.head _)).1, rfl, _, rfl⟩
        have hlt := Heap.lt_size (N₁ _ (.head _)).1
        refine wpAny_pyIter_list hLb ⟨_, _, _, _, _, _, rfl, Walks.list rfl _ _ (Nat.ne_of_lt hlt) _, ?sz33, ⟨⟨_, Heap.get?_push_size _ rfl, rfl, rfl⟩, hLb.push _⟩, ?fp33, ⟨?te33, ?el33⟩, ?po33⟩
        case sz33 => exact beside_small hzv hzk
        case fp33 =>
          intro b hb
          rcases List.mem_cons.mp hb with rfl | hb
          · simp
          · rw [List.mem_singleton.mp hb]; simp; exact Nat.lt_succ_of_lt hlt
        case te33 =>
          rintro C i v s₃ m₃ E' hC hv hns hm hkk htk
          have hkp := fun b o e => hkk b o (fun q => Nat.lt_irrefl _ (List.mem_singleton.mp q ▸ Heap.lt_size e)) (Heap.get?_push_of_some _ e)
          clear hkk
          obtain ⟨b, tb, rfl, hb⟩ := strs_at hzv hv
          obtain ⟨z, hz, rfl⟩ := List.mem_map.mp hb
          rw [List.forIn_cons]
          refine wpAny_bind ?_
          simp only [if_true]
          refine wpAny_bind ?_
          k_steps
          refine Halt.un ?_
          k_dflt (refine' c_udmJ (z := z) (D := xs.tail.tail.tail) ?k1 ?k2 ?k3 ?k4 ?k5 ?k6 ?k7 ?k8 (hZ.zin z (hzs z hz)) hz3 ?_; (case k1 => k_asm); (case k2 => k_asm); (case k3 => k_asm); (case k4 => k_asm); (case k5 => k_asm); (case k6 => first | exact rfl | assumption); (case k7 => first | ktr_room | ((try dsimp only); omega)); (case k8 => first | ktr_units | ((try dsimp only); omega)))
          intro h₅ tk₅ hk₅
          k_steps
          exact wpAny_pure (wpAny_pure ⟨(udm_name (hZ.zin z (hzs z hz)) hz3).symm, _, _, rfl, hk₅⟩)
        case el33 =>
          rintro C i v s₃ m₃ E' hC hv hp hns hm hkk htk
          have hkp := fun b o e => hkk b o (fun q => Nat.lt_irrefl _ (List.mem_singleton.mp q ▸ Heap.lt_size e)) (Heap.get?_push_of_some _ e)
          clear hkk
          k_steps
          exact ⟨_, _, rfl, fun _ _ e => e⟩
        rintro D₄ h₄ tk₄ ys₄ vs₄ hD₄ hl₄ hpl₄ hlen hP hF hkk
        obtain ⟨nD₄, cz, N₄, F₄, hfS⟩ := climb_made (q := fun z => suffixB z xs.tail.tail.tail) F₁ N₁ hkk hD₄ hpl₄ (by simpa using hlen) hP hF hzv (fun z hz t => udm_name (hZ.zin z (hzs z hz)) hz3)
        clear hF hP hlen hkk hl₄ hD₄ hpl₄ F₁ N₁ hLb hlt
        k_with "newList" => refine Halt.mk ?_
        k_steps
        refine Halt.un ?_
        k_dflt (refine' newList_K ?k1 ?k2 ?_; (case k1 => k_asm); (case k2 => k_asm))
        intro lE h₅ F₅ N₅ lE1
        clear F₄ N₄ lE1
        refine kqd_eq (es := []) (n₁ := []) (n₂ := []) N₅ (.tail _ (.head _)) rfl rfl (strs_dat hfS) (fun _ h => nomatch h) (.head _) rfl rfl .nil (fun _ h => nomatch h) (xdat_ok (fun z hz => hZ.zin z (hzs z hz))) (fun _ h => nomatch h) ?_ ?_
        · ke_room
        rw [xdat_nil]
        have N₆ := N_sub (b := (D₃, listOf bs.toArray nD) :: _) N₅ (fun p hp => .tail _ (.tail _ hp))
        clear N₅ hfS
        cases hof3 : ownedF Z xs.tail.tail.tail with
        | none => exact absurd hof3 (root_owned hZ hz3 (Nat.le_antisymm hl3 (znames_shape _ hz3).2.1))
        | some t' =>
          rw [show ((zs.filter fun z => suffixB z xs.tail.tail.tail).isEmpty) = false from climb_some (beside_owned hZ hn hof (z_ne hz3) hs3 hzs hzk) hof3]
          k_steps
          subst hQ₂
          dsimp only
          have hsn : (Str.ofString "*" :: xs.tail.tail.tail) ∈ NAMES := star_name hz3 (Nat.le_trans hl3 (by decide))
          have hsz : (Str.ofString "*" :: xs.tail.tail.tail) ∈ ZNAMES := .tail _ hsn
          have hsj : Str.ofString "*" ++ (Str.ofString "." ++ joinF xs.tail.tail.tail) = joinF (Str.ofString "*" :: xs.tail.tail.tail) := star_join (z_ne hz3)
          refine S_execs_cons (S_hide fun Q₃ hQ₃ => S_Assign (S_Call (K := hd.heap_39 w.params) (f := .ref 82) ?kf rfl ?_))
          case kf => exact rfl
          k_steps
          refine S_arg (S_of ?_)
          k_steps
          refine S_arg (S_Call (K := hd.heap_39 w.params) (f := .ref 108) ?kf rfl ?_)
          case kf => exact rfl
          k_steps
          refine S_arg (S_of ?_)
          k_steps
          refine S_noarg ?_
          with_reducible rename Fr _ _ _ _ => F₇
          with_reducible rename News _ _ _ _ => N₇
          refine ⟨X'.keeps F₇.keep, ?_⟩
          k_dflt (refine' c_turnedJ ?k1 ?k2 ?k3 ?k4 ?k5 ?k6 ?k7 ?k8 hgd hsj hsn ?_; (case k1 => k_asm); (case k2 => k_asm); (case k3 => k_asm); (case k4 => k_asm); (case k5 => k_asm); (case k6 => first | exact rfl | assumption); (case k7 => first | ktr_room | ((try dsimp only); omega)); (case k8 => first | ktr_units | ((try dsimp only); omega)))
          intro t₈ tk₈ h₈ hk₈
          have F₈ := F₇.keeps hk₈
          have N₈ := N₇.grown hk₈
          clear F₇ N₇ hk₈
          refine S_noarg ?_
          refine ⟨X'.keeps F₈.keep, S_of ?_⟩
          k_dflt (refine' c_bisM (k := placeN R (turnF (Str.ofString "*" :: xs.tail.tail.tail))) ?k1 ?k2 ?k3 ?k4 ?k5 ?k6 ?k7 ?k8 ?km ?k9 ?k10 (place_le _ _) (place_lt hZ _) ?_; (case k1 => k_asm); (case k2 => k_asm); (case k3 => k_asm); (case k4 => k_asm); (case k5 => k_asm); (case k6 => first | exact rfl | assumption); (case k7 => first | ktr_room | ((try dsimp only); omega)); (case k8 => first | ktr_units | ((try dsimp only); omega)); (case km => k_mem); (case k9 => exact hR); (case k10 => exact hRl))
          intro t₉ h₉ tk₉ F₉ N₉
          clear F₈ N₈
          k_steps
          subst hQ₃
          dsimp only
          refine S_execs_cons (S_of (A_hide fun Q₃ hQ₃ => ?_))
          k_with "evalPart none" => refine Halt.mk ?_
          k_steps
          refine Halt.un ?_
          with_reducible refine evalPart_none_step ?_
          with_reducible rename Fr _ _ _ _ => F₁
          with_reducible rename News _ _ _ _ => N₁
          refine' kmk_slice_lit (its := vs.toArray) (lo := some ((placeN R (turnF (Str.ofString "*" :: xs.tail.tail.tail)) : Nat) : Int)) (hi := some (((placeN R (turnF (Str.ofString "*" :: xs.tail.tail.tail)) : Nat) : Int) + 1)) (zs := (vs.drop (placeN R (turnF (Str.ofString "*" :: xs.tail.tail.tail)))).take 1) F₁ N₁ ⟨_, (N₁ (rw, listOf vs.toArray nr) (by k_mem)).1, rfl, _, rfl⟩ ?p1 ?p2 ?p3 ?_ ?p4 ?p5 ?p6
          case p1 => exact .int _ _
          case p2 => exact .int _ _
          case p3 => rw [slice_ab (a := placeN R (turnF (Str.ofString "*" :: xs.tail.tail.tail))) (b := placeN R (turnF (Str.ofString "*" :: xs.tail.tail.tail)) + 1) rfl (by omega), Nat.add_sub_cancel_left]
          case p4 => rfl
          case p5 => intro r; rfl
          case p6 => rw [sizeLine_eq, List.size_toArray, hR.length]; omega
          intro D₅ h₅ F₅ N₅ hD₅
          clear F₁ N₁ hD₅
          k_steps
          refine Halt.un ?_
          k_dflt (refine' c_foundM (kvs := kvs) (r := ownedF Z (Str.ofString "*" :: xs.tail.tail.tail)) ?k1 ?k2 ?k3 ?k4 ?k5 ?k6 ?k7 ?k8 ?f1 ?f2 hD lo ?f3 ?f4 ?f5 ?f6 ?_; (case k1 => k_asm); (case k2 => k_asm); (case k3 => k_asm); (case k4 => k_asm); (case k5 => k_asm); (case k6 => first | exact rfl | assumption); (case k7 => first | ktr_room | ((try dsimp only); omega)); (case k8 => first | ktr_units | ((try dsimp only); omega)); (case f1 => k_mem); (case f2 => k_mem); (case f3 => rw [hsj]; exact found_at hZ hR hsn); (case f4 => rw [hsj]; exact name_len hsz); (case f5 => rw [hsj]; exact name_len2 hsz); (case f6 => rw [hsj]; exact name_nd hsz))
          intro v₆ h₆ tk₆ ho F₆ N₆
          clear F₅ N₅
          cases hos : ownedF Z (Str.ofString "*" :: xs.tail.tail.tail) with
          | some t =>
            rw [hos] at ho
            obtain ⟨tt, rfl⟩ := ho
            k_steps
            subst hQ₃
            dsimp only
            refine S_execs_nil ?_
            subst hQ₁
            dsimp only
            refine S_execs_cons (S_of (A_hide fun Q₄ hQ₄ => ?_))
            k_steps
            refine Halt.un ?_
            with_reducible rename Fr _ _ _ _ => F₈
            with_reducible rename News _ _ _ _ => N₈
            refine newList_K F₈ N₈ ?_
            intro lE₂ h₇ F₇ N₇ lE3
            clear F₈ N₈ lE3
            k_steps
            subst hQ₄
            dsimp only
            k_steps
            with_reducible rename News _ _ _ _ => kN
            with_reducible rename Fr _ _ _ _ => kF
            refine hret _ _ _ _ _ _ _ (.push (.push .refl)) ?ht ?hv kF (N_head kN ?hs)
            case ht => simp only [due_none hof, climbF_none (.tail _ hn) hof, climbF_none hz1 hof1, climbF_none hz2 hof2, climbF_some hz3 hof3, hos]; first | exact ⟨_, rfl⟩ | rfl
            case hv => simp only [due_none hof, climbF_none (.tail _ hn) hof, climbF_none hz1 hof1, climbF_none hz2 hof2, climbF_some hz3 hof3, hos]; repeat first | exact StrsAre.nil | apply StrsAre.cons
            case hs => (intro x hx; repeat first | exact hx | refine List.Mem.tail _ ?_)
          | none =>
            rw [hos] at ho
            cases ho
            k_steps
            subst hQ₃
            dsimp only
            refine S_execs_nil ?_
            subst hQ₁
            dsimp only
            refine S_execs_cons (S_of (A_hide fun Q₄ hQ₄ => ?_))
            k_steps
            refine Halt.un ?_
            with_reducible rename Fr _ _ _ _ => F₈
            with_reducible rename News _ _ _ _ => N₈
            refine newList_K F₈ N₈ ?_
            intro lE₂ h₇ F₇ N₇ lE3
            clear F₈ N₈ lE3
            k_steps
            subst hQ₄
            dsimp only
            k_steps
            with_reducible rename News _ _ _ _ => kN
            with_reducible rename Fr _ _ _ _ => kF
            refine hret _ _ _ _ _ _ _ (.push (.push .refl)) ?ht ?hv kF (N_head kN ?hs)
            case ht => simp only [due_none hof, climbF_none (.tail _ hn) hof, climbF_none hz1 hof1, climbF_none hz2 hof2, climbF_some hz3 hof3, hos]; first | exact ⟨_, rfl⟩ | rfl
            case hv => simp only [due_none hof, climbF_none (.tail _ hn) hof, climbF_none hz1 hof1, climbF_none hz2 hof2, climbF_some hz3 hof3, hos]; repeat first | exact StrsAre.nil | apply StrsAre.cons
            case hs => (intro x hx; repeat first | exact hx | refine List.Mem.tail _ ?_)
      | some t' =>
        rw [show ((zs.filter fun z => suffixB z xs.tail.tail).isEmpty) = false from climb_some (beside_owned hZ hn hof (z_ne hz2) hs2 hzs hzk) hof2]
        k_steps
        subst hQ₂
        dsimp only
        have hsn : (Str.ofString "*" :: xs.tail.tail) ∈ NAMES := star_name hz2 (Nat.le_trans hl2 (by decide))
        have hsz : (Str.ofString "*" :: xs.tail.tail) ∈ ZNAMES := .tail _ hsn
        have hsj : Str.ofString "*" ++ (Str.ofString "." ++ joinF xs.tail.tail) = joinF (Str.ofString "*" :: xs.tail.tail) := star_join (z_ne hz2)
        refine S_execs_cons (S_hide fun Q₃ hQ₃ => S_Assign (S_Call (K := hd.heap_39 w.params) (f := .ref 82) ?kf rfl ?_))
        case kf => exact rfl
        k_steps
        refine S_arg (S_of ?_)
        k_steps
        refine S_arg (S_Call (K := hd.heap_39 w.params) (f := .ref 108) ?kf rfl ?_)
        case kf => exact rfl
        k_steps
        refine S_arg (S_of ?_)
        k_steps
        refine S_noarg ?_
        with_reducible rename Fr _ _ _ _ => F₇
        with_reducible rename News _ _ _ _ => N₇
        refine ⟨X'.keeps F₇.keep, ?_⟩
        k_dflt (refine' c_turnedJ ?k1 ?k2 ?k3 ?k4 ?k5 ?k6 ?k7 ?k8 hgd hsj hsn ?_; (case k1 => k_asm); (case k2 => k_asm); (case k3 => k_asm); (case k4 => k_asm); (case k5 => k_asm); (case k6 => first | exact rfl | assumption); (case k7 => first | ktr_room | ((try dsimp only); omega)); (case k8 => first | ktr_units | ((try dsimp only); omega)))
        intro t₈ tk₈ h₈ hk₈
        have F₈ := F₇.keeps hk₈
        have N₈ := N₇.grown hk₈
        clear F₇ N₇ hk₈
        refine S_noarg ?_
        refine ⟨X'.keeps F₈.keep, S_of ?_⟩
        k_dflt (refine' c_bisM (k := placeN R (turnF (Str.ofString "*" :: xs.tail.tail))) ?k1 ?k2 ?k3 ?k4 ?k5 ?k6 ?k7 ?k8 ?km ?k9 ?k10 (place_le _ _) (place_lt hZ _) ?_; (case k1 => k_asm); (case k2 => k_asm); (case k3 => k_asm); (case k4 => k_asm); (case k5 => k_asm); (case k6 => first | exact rfl | assumption); (case k7 => first | ktr_room | ((try dsimp only); omega)); (case k8 => first | ktr_units | ((try dsimp only); omega)); (case km => k_mem); (case k9 => exact hR); (case k10 => exact hRl))
        intro t₉ h₉ tk₉ F₉ N₉
        clear F₈ N₈
        k_steps
        subst hQ₃
        dsimp only
        refine S_execs_cons (S_of (A_hide fun Q₃ hQ₃ => ?_))
        k_with "evalPart none" => refine Halt.mk ?_
        k_steps
        refine Halt.un ?_
        with_reducible refine evalPart_none_step ?_
        with_reducible rename Fr _ _ _ _ => F₁
        with_reducible rename News _ _ _ _ => N₁
        refine' kmk_slice_lit (its := vs.toArray) (lo := some ((placeN R (turnF (Str.ofString "*" :: xs.tail.tail)) : Nat) : Int)) (hi := some (((placeN R (turnF (Str.ofString "*" :: xs.tail.tail)) : Nat) : Int) + 1)) (zs := (vs.drop (placeN R (turnF (Str.ofString "*" :: xs.tail.tail)))).take 1) F₁ N₁ ⟨_, (N₁ (rw, listOf vs.toArray nr) (by k_mem)).1, rfl, _, rfl⟩ ?p1 ?p2 ?p3 ?_ ?p4 ?p5 ?p6
        case p1 => exact .int _ _
        case p2 => exact .int _ _
        case p3 => rw [slice_ab (a := placeN R (turnF (Str.ofString "*" :: xs.tail.tail))) (b := placeN R (turnF (Str.ofString "*" :: xs.tail.tail)) + 1) rfl (by omega), Nat.add_sub_cancel_left]
        case p4 => rfl
        case p5 => intro r; rfl
        case p6 => rw [sizeLine_eq, List.size_toArray, hR.length]; omega
        intro D₅ h₅ F₅ N₅ hD₅
        clear F₁ N₁ hD₅
        k_steps
        refine Halt.un ?_
        k_dflt (refine' c_foundM (kvs := kvs) (r := ownedF Z (Str.ofString "*" :: xs.tail.tail)) ?k1 ?k2 ?k3 ?k4 ?k5 ?k6 ?k7 ?k8 ?f1 ?f2 hD lo ?f3 ?f4 ?f5 ?f6 ?_; (case k1 => k_asm); (case k2 => k_asm); (case k3 => k_asm); (case k4 => k_asm); (case k5 => k_asm); (case k6 => first | exact rfl | assumption); (case k7 => first | ktr_room | ((try dsimp only); omega)); (case k8 => first | ktr_units | ((try dsimp only); omega)); (case f1 => k_mem); (case f2 => k_mem); (case f3 => rw [hsj]; exact found_at hZ hR hsn); (case f4 => rw [hsj]; exact name_len hsz); (case f5 => rw [hsj]; exact name_len2 hsz); (case f6 => rw [hsj]; exact name_nd hsz))
        intro v₆ h₆ tk₆ ho F₆ N₆
        clear F₅ N₅
        cases hos : ownedF Z (Str.ofString "*" :: xs.tail.tail) with
        | some t =>
          rw [hos] at ho
          obtain ⟨tt, rfl⟩ := ho
          k_steps
          subst hQ₃
          dsimp only
          refine S_execs_nil ?_
          subst hQ₁
          dsimp only
          refine S_execs_cons (S_of (A_hide fun Q₄ hQ₄ => ?_))
          k_steps
          refine Halt.un ?_
          with_reducible rename Fr _ _ _ _ => F₈
          with_reducible rename News _ _ _ _ => N₈
          refine newList_K F₈ N₈ ?_
          intro lE₂ h₇ F₇ N₇ lE3
          clear F₈ N₈ lE3
          k_steps
          subst hQ₄
          dsimp only
          k_steps
          with_reducible rename News _ _ _ _ => kN
          with_reducible rename Fr _ _ _ _ => kF
          refine hret _ _ _ _ _ _ _ (.push (.push .refl)) ?ht ?hv kF (N_head kN ?hs)
          case ht => simp only [due_none hof, climbF_none (.tail _ hn) hof, climbF_none hz1 hof1, climbF_some hz2 hof2, hos]; first | exact ⟨_, rfl⟩ | rfl
          case hv => simp only [due_none hof, climbF_none (.tail _ hn) hof, climbF_none hz1 hof1, climbF_some hz2 hof2, hos]; repeat first | exact StrsAre.nil | apply StrsAre.cons
          case hs => (intro x hx; repeat first | exact hx | refine List.Mem.tail _ ?_)
        | none =>
          rw [hos] at ho
          cases ho
          k_steps
          subst hQ₃
          dsimp only
          refine S_execs_nil ?_
          subst hQ₁
          dsimp only
          refine S_execs_cons (S_of (A_hide fun Q₄ hQ₄ => ?_))
          k_steps
          refine Halt.un ?_
          with_reducible rename Fr _ _ _ _ => F₈
          with_reducible rename News _ _ _ _ => N₈
          refine newList_K F₈ N₈ ?_
          intro lE₂ h₇ F₇ N₇ lE3
          clear F₈ N₈ lE3
          k_steps
          subst hQ₄
          dsimp only
          k_steps
          with_reducible rename News _ _ _ _ => kN
          with_reducible rename Fr _ _ _ _ => kF
          refine hret _ _ _ _ _ _ _ (.push (.push .refl)) ?ht ?hv kF (N_head kN ?hs)
          case ht => simp only [due_none hof, climbF_none (.tail _ hn) hof, climbF_none hz1 hof1, climbF_some hz2 hof2, hos]; first | exact ⟨_, rfl⟩ | rfl
          case hv => simp only [due_none hof, climbF_none (.tail _ hn) hof, climbF_none hz1 hof1, climbF_some hz2 hof2, hos]; repeat first | exact StrsAre.nil | apply StrsAre.cons
          case hs => (intro x hx; repeat first | exact hx | refine List.Mem.tail _ ?_)
    | some t' =>
      rw [show ((zs.filter fun z => suffixB z xs.tail).isEmpty) = false from climb_some (beside_owned hZ hn hof (z_ne hz1) hs1 hzs hzk) hof1]
      k_steps
      subst hQ₂
      dsimp only
      have hsn : (Str.ofString "*" :: xs.tail) ∈ NAMES := star_name hz1 (Nat.le_trans hl1 (by decide))
      have hsz : (Str.ofString "*" :: xs.tail) ∈ ZNAMES := .tail _ hsn
      have hsj : Str.ofString "*" ++ (Str.ofString "." ++ joinF xs.tail) = joinF (Str.ofString "*" :: xs.tail) := star_join (z_ne hz1)
      refine S_execs_cons (S_hide fun Q₃ hQ₃ => S_Assign (S_Call (K := hd.heap_39 w.params) (f := .ref 82) ?kf rfl ?_))
      case kf => exact rfl
      k_steps
      refine S_arg (S_of ?_)
      k_steps
      refine S_arg (S_Call (K := hd.heap_39 w.params) (f := .ref 108) ?kf rfl ?_)
      case kf => exact rfl
      k_steps
      refine S_arg (S_of ?_)
      k_steps
      refine S_noarg ?_
      with_reducible rename Fr _ _ _ _ => F₇
      with_reducible rename News _ _ _ _ => N₇
      refine ⟨X'.keeps F₇.keep, ?_⟩
      k_dflt (refine' c_turnedJ ?k1 ?k2 ?k3 ?k4 ?k5 ?k6 ?k7 ?k8 hgd hsj hsn ?_; (case k1 => k_asm); (case k2 => k_asm); (case k3 => k_asm); (case k4 => k_asm); (case k5 => k_asm); (case k6 => first | exact rfl | assumption); (case k7 => first | ktr_room | ((try dsimp only); omega)); (case k8 => first | ktr_units | ((try dsimp only); omega)))
      intro t₈ tk₈ h₈ hk₈
      have F₈ := F₇.keeps hk₈
      have N₈ := N₇.grown hk₈
      clear F₇ N₇ hk₈
      refine S_noarg ?_
      refine ⟨X'.keeps F₈.keep, S_of ?_⟩
      k_dflt (refine' c_bisM (k := placeN R (turnF (Str.ofString "*" :: xs.tail))) ?k1 ?k2 ?k3 ?k4 ?k5 ?k6 ?k7 ?k8 ?km ?k9 ?k10 (place_le _ _) (place_lt hZ _) ?_; (case k1 => k_asm); (case k2 => k_asm); (case k3 => k_asm); (case k4 => k_asm); (case k5 => k_asm); (case k6 => first | exact rfl | assumption); (case k7 => first | ktr_room | ((try dsimp only); omega)); (case k8 => first | ktr_units | ((try dsimp only); omega)); (case km => k_mem); (case k9 => exact hR); (case k10 => exact hRl))
      intro t₉ h₉ tk₉ F₉ N₉
      clear F₈ N₈
      k_steps
      subst hQ₃
      dsimp only
      refine S_execs_cons (S_of (A_hide fun Q₃ hQ₃ => ?_))
      k_with "evalPart none" => refine Halt.mk ?_
      k_steps
      refine Halt.un ?_
      with_reducible refine evalPart_none_step ?_
      with_reducible rename Fr _ _ _ _ => F₁
      with_reducible rename News _ _ _ _ => N₁
      refine' kmk_slice_lit (its := vs.toArray) (lo := some ((placeN R (turnF (Str.ofString "*" :: xs.tail)) : Nat) : Int)) (hi := some (((placeN R (turnF (Str.ofString "*" :: xs.tail)) : Nat) : Int) + 1)) (zs := (vs.drop (placeN R (turnF (Str.ofString "*" :: xs.tail)))).take 1) F₁ N₁ ⟨_, (N₁ (rw, listOf vs.toArray nr) (by k_mem)).1, rfl, _, rfl⟩ ?p1 ?p2 ?p3 ?_ ?p4 ?p5 ?p6
      case p1 => exact .int _ _
      case p2 => exact .int _ _
      case p3 => rw [slice_ab (a := placeN R (turnF (Str.ofString "*" :: xs.tail))) (b := placeN R (turnF (Str.ofString "*" :: xs.tail)) + 1) rfl (by omega), Nat.add_sub_cancel_left]
      case p4 => rfl
      case p5 => intro r; rfl
      case p6 => rw [sizeLine_eq, List.size_toArray, hR.length]; omega
      intro D₅ h₅ F₅ N₅ hD₅
      clear F₁ N₁ hD₅
      k_steps
      refine Halt.un ?_
      k_dflt (refine' c_foundM (kvs := kvs) (r := ownedF Z (Str.ofString "*" :: xs.tail)) ?k1 ?k2 ?k3 ?k4 ?k5 ?k6 ?k7 ?k8 ?f1 ?f2 hD lo ?f3 ?f4 ?f5 ?f6 ?_; (case k1 => k_asm); (case k2 => k_asm); (case k3 => k_asm); (case k4 => k_asm); (case k5 => k_asm); (case k6 => first | exact rfl | assumption); (case k7 => first | ktr_room | ((try dsimp only); omega)); (case k8 => first | ktr_units | ((try dsimp only); omega)); (case f1 => k_mem); (case f2 => k_mem); (case f3 => rw [hsj]; exact found_at hZ hR hsn); (case f4 => rw [hsj]; exact name_len hsz); (case f5 => rw [hsj]; exact name_len2 hsz); (case f6 => rw [hsj]; exact name_nd hsz))
      intro v₆ h₆ tk₆ ho F₆ N₆
      clear F₅ N₅
      cases hos : ownedF Z (Str.ofString "*" :: xs.tail) with
      | some t =>
        rw [hos] at ho
        obtain ⟨tt, rfl⟩ := ho
        k_steps
        subst hQ₃
        dsimp only
        refine S_execs_nil ?_
        subst hQ₁
        dsimp only
        refine S_execs_cons (S_of (A_hide fun Q₄ hQ₄ => ?_))
        k_steps
        refine Halt.un ?_
        with_reducible rename Fr _ _ _ _ => F₈
        with_reducible rename News _ _ _ _ => N₈
        refine newList_K F₈ N₈ ?_
        intro lE₂ h₇ F₇ N₇ lE3
        clear F₈ N₈ lE3
        k_steps
        subst hQ₄
        dsimp only
        k_steps
        with_reducible rename News _ _ _ _ => kN
        with_reducible rename Fr _ _ _ _ => kF
        refine hret _ _ _ _ _ _ _ (.push (.push .refl)) ?ht ?hv kF (N_head kN ?hs)
        case ht => simp only [due_none hof, climbF_none (.tail _ hn) hof, climbF_some hz1 hof1, hos]; first | exact ⟨_, rfl⟩ | rfl
        case hv => simp only [due_none hof, climbF_none (.tail _ hn) hof, climbF_some hz1 hof1, hos]; repeat first | exact StrsAre.nil | apply StrsAre.cons
        case hs => (intro x hx; repeat first | exact hx | refine List.Mem.tail _ ?_)
      | none =>
        rw [hos] at ho
        cases ho
        k_steps
        subst hQ₃
        dsimp only
        refine S_execs_nil ?_
        subst hQ₁
        dsimp only
        refine S_execs_cons (S_of (A_hide fun Q₄ hQ₄ => ?_))
        k_steps
        refine Halt.un ?_
        with_reducible rename Fr _ _ _ _ => F₈
        with_reducible rename News _ _ _ _ => N₈
        refine newList_K F₈ N₈ ?_
        intro lE₂ h₇ F₇ N₇ lE3
        clear F₈ N₈ lE3
        k_steps
        subst hQ₄
        dsimp only
        k_steps
        with_reducible rename News _ _ _ _ => kN
        with_reducible rename Fr _ _ _ _ => kF
        refine hret _ _ _ _ _ _ _ (.push (.push .refl)) ?ht ?hv kF (N_head kN ?hs)
        case ht => simp only [due_none hof, climbF_none (.tail _ hn) hof, climbF_some hz1 hof1, hos]; first | exact ⟨_, rfl⟩ | rfl
        case hv => simp only [due_none hof, climbF_none (.tail _ hn) hof, climbF_some hz1 hof1, hos]; repeat first | exact StrsAre.nil | apply StrsAre.cons
        case hs => (intro x hx; repeat first | exact hx | refine List.Mem.tail _ ?_)
  | some t =>
    rw [hof] at ho
    obtain ⟨tt, rfl⟩ := ho
    k_steps
    refine S_execs_cons (S_of ?_)
    k_steps
    refine Halt.un ?_
    with_reducible rename Fr _ _ _ _ => F₈
    with_reducible rename News _ _ _ _ => N₈
    refine newList_K F₈ N₈ ?_
    intro lN h₇ F₇ N₇ lE3
    have q1 : @LT.lt Nat _ (L' + 1 + 1) lN := lE3 _ (.tail _ (.head _))
    have q2 : @LT.lt Nat _ D lN := lE3 _ (.head _)
    clear F₈ N₈ lE3
    k_steps
    refine S_execs_cons (S_If (S_of ?_))
    k_steps
    refine S_execs_nil ?_
    dsimp only
    refine S_execs_cons (S_of (A_hide fun Q₄ hQ₄ => ?_))
    k_steps
    refine Halt.un ?_
    with_reducible rename Fr _ _ _ _ => F₈
    with_reducible rename News _ _ _ _ => N₈
    refine newList_K F₈ N₈ ?_
    intro lE₂ h₇ F₇ N₇ lE3
    clear F₈ N₈ lE3
    k_steps
    subst hQ₄
    dsimp only
    k_steps
    with_reducible rename News _ _ _ _ => kN
    with_reducible rename Fr _ _ _ _ => kF
    refine hret _ _ _ _ _ _ _ (.push .refl) ?ht ?hv kF (N_head kN ?hs)
    case ht => simp only [due_some hof]; first | exact ⟨_, rfl⟩ | rfl
    case hv => simp only [due_some hof]; repeat first | exact StrsAre.nil | apply StrsAre.cons
    case hs => (intro x hx; repeat first | exact hx | refine List.Mem.tail _ ?_)
end
end Mine
end
section -- S8
open PySem PySem.W PyProof.Rows PySem.Calls PyProof.V
open Sem (wp)
namespace Mine
section
variable {M : Model} {A : Around} {E : Value → Shared → Prop} {s : Shared} {env : Env}
noncomputable def compPostN (M : Model) (A : Around) (use : Option (Value → Sem Unit)) (Q : Value → Shared → Prop) (acc : Value) (C : Addr) (r : Result) (s' : Shared) : Prop :=
  match r, use with
  | .ok _, none => ∃ m, s'.heap.Ns C m ∧ ∀ h', Heap.SameBut C s'.heap h' → Q acc { s' with heap := h' }
  | .ok _, some u => wpAny M A (u acc) (fun _ s'' => ∃ m, s''.heap.Ns C m ∧ ∀ h', Heap.SameBut C s''.heap h' → Q .none { s'' with heap := h' }) (fun _ _ => False) s'
  | .error _, _ => False
theorem S_anyBind {α β : Type} {m : Sem α} {f : α → Sem β} {Q : β → Shared → Prop} (h : wpAny M A m (fun a s' => wpS M A (f a) Q E s') (fun _ _ => False) s) : wpS M A (m >>= f) Q E s :=
  S_bind (S_mono (S_of h) (fun _ _ x => x) fun _ _ x => x.elim)
theorem S_standIf {α : Type} {c : Prop} [Decidable c] {pos : Pos} {k : PUnit → Sem α} {Q : α → Shared → Prop} (h : wpS M A (k ()) Q E s) :
    wpS M A (if c then (standAt pos >>= k) else k ()) Q E s := by
  split
  · exact S_bind (S_standAt h)
  · exact h
theorem S_any {α β : Type} {m : Sem α} {f : α → Sem β} {Q : β → Shared → Prop} {P : α → Shared → Prop} (h : wpAny M A m P (fun _ _ => False) s) (k : ∀ a s', P a s' → wpS M A (f a) Q E s') : wpS M A (m >>= f) Q E s :=
  S_bind (S_mono (S_of h) k fun _ _ x => x.elim)
theorem S_comprehension {e : Expr} {scope : Scope} {pos : Pos} {newAcc first : Sem Value} {g : Comprehension} {gs : List Comprehension} {cl : List (Str × Addr)} {use : Option (Value → Sem Unit)}
    {Q : Value → Shared → Prop}
    (hcl : clausesOf e = g :: gs) (hs : ∀ x, foldedSetIterable g.iter env x = pure x) (hclos : closureFor scope env = pure cl)
    (hkind : scope.kind = .function) (hnames : ∀ x ∈ scope.names, x.2 = .local → scope.names.lookup x.1 = some .local)
    (h : wpAny M A first (fun x s₁ => wpAny M A (pyIter x) (fun it s₂ => wpAny M A newAcc (fun acc s₃ =>
      wpAny M A (newFunctionEnv scope env.globals cl [] env.qual none .none (some env)) (fun cenv s₄ =>
        codeS M A (.compStart e 0 it acc { cenv with scope := relabel scope env }) (compPostN M A use Q acc cenv.locals) s₄) (fun _ _ => False) s₃) (fun _ _ => False) s₂) (fun _ _ => False) s₁) (fun _ _ => False) s) :
    wpS M A (comprehension e scope env pos newAcc false first use) Q E s := by
  unfold comprehension
  rw [hclos, hcl]
  refine S_any h fun x s₁ h₁ => S_bind (S_standAt (S_eq (hs x) (S_bind (S_holding (S_mono (S_of h₁) (fun it s₂ h₂ => S_standIf (S_any h₂ fun acc s₃ h₃ => S_bind (S_pure (S_any h₃ fun cenv s₄ h₄ => ?_)))) fun _ _ x => x.elim)))))
  dsimp only
  have hv : ∀ x ∈ (scope.names.filter fun x => (x.2 == .local || x.2 == .cell) && x.1 != (".0" : Str)).reverse, x.2 = .local →
      Env.kindOf { cenv with scope := relabel scope env } x.1 = some .local := fun x hx hl => lookup_relabel_local (hnames x (List.mem_filter.mp (List.mem_reverse.mp hx)).1 hl)
  have hv' : ∀ x ∈ (scope.names.filter fun x => (x.2 == .local || x.2 == .cell) && x.1 != (".0" : Str)).reverse.drop 1 ++ (scope.names.filter fun x => (x.2 == .local || x.2 == .cell) && x.1 != (".0" : Str)).reverse.take 1,
      x.2 = .local → Env.kindOf { cenv with scope := relabel scope env } x.1 = some .local := fun x hx hl => by
    rcases List.mem_append.mp hx with h1 | h1
    · exact hv x (List.mem_of_mem_drop h1) hl
    · exact hv x (List.mem_of_mem_take h1) hl
  refine S_holding (S_bind (S_attempt (S_holding (S_run (codeS_mono h₄ fun r s' hr => ?_)))))
  cases r with
  | ok f =>
    cases use with
    | none =>
      obtain ⟨m, hn, hr⟩ := hr
      exact S_of (wpAny_bind (wpAny_holding (wpAny_comp_letGo (cenv := { cenv with scope := relabel scope env }) hkind _ s' m hv hn fun h' m' _ hs' => wpAny_pure (hr h' hs'))))
    | some u =>
      refine S_of (wpAny_bind (wpAny_rule (wpAny_bind (wpAny_holding (wpAny_mono hr (fun _ s'' hr' => ?_) fun _ _ h' => h'.elim)))))
      obtain ⟨m, hn, hr'⟩ := hr'
      exact wpAny_bind (wpAny_comp_letGo (cenv := { cenv with scope := relabel scope env }) hkind _ s'' m hv' hn fun h' m' _ hs' => wpAny_pure (hr' h' hs'))
  | error x => cases use <;> exact hr.elim
end
section
variable {prog : Program} {w : World} {A : Around} {E : Value → Shared → Prop} {s : Shared} {env : Env}
theorem codeS_compStart {R : Result → Shared → Prop} {elt target iter : Expr} {ifs : List Expr} {rest : List Comprehension} {scope : Scope} {pos : Pos} {it acc : Value} {env : Env}
    (h0 : codeS (model prog w) A (.compLoop (.ListComp elt (⟨target, iter, ifs, 0⟩ :: rest) scope pos) 0 it acc env) R s)
    (h : wpAny (model prog w) A (pyIter it) (fun it' s' => codeS (model prog w) A (.compLoop (.ListComp elt (⟨target, iter, ifs, 0⟩ :: rest) scope pos) 0 it' acc env) R s') (fun _ _ => False) s) :
    codeS (model prog w) A (.compStart (.ListComp elt (⟨target, iter, ifs, 0⟩ :: rest) scope pos) 0 it acc env) R s := by
  refine codeS_tree rfl ?_
  show wpS _ _ ((compStart (.ListComp elt (⟨target, iter, ifs, 0⟩ :: rest) scope pos) 0 it acc env).onRaise (fun x => do noteFrame x env; standAt theWindowsPlace)) _ _ s
  refine S_of (wpAny_onRaise (wpAny_mono (E := fun _ _ => False) ?_ (fun _ _ x => x) fun _ _ f => f.elim))
  unfold compStart
  show wpAny _ _ (ask >>= _) _ _ s
  refine wpAny_bind (wpAny_askSetting (wpAny_ite ?_))
  split
  · first
      | exact wpAny_bind (wpAny_pure (wpAny_pure (And.intro rfl h0)))
      | exact wpAny_pure (And.intro rfl h0)
  · first
      | exact wpAny_bind (wpAny_rule (wpAny_bind (wpAny_standAt (wpAny_bind (wpAny_mono h (fun it' s' h' => wpAny_pure (And.intro rfl h')) fun _ _ x => x)))))
      | (refine wpAny_bind (wpAny_rule ?_); show wpAny _ _ (standAt iter.pos >>= _) _ _ s; exact wpAny_bind (wpAny_standAt (wpAny_bind (wpAny_mono h (fun it' s' h' => wpAny_pure (And.intro rfl h')) fun _ _ x => x))))
theorem codeS_compTurn {R : Result → Shared → Prop} {elt iter : Expr} {x : Str} {px : Pos} {scope : Scope} {pos : Pos} {it acc : Value} {env : Env}
    (h : wpAny (model prog w) A (pyNext it) (fun r s₁ => match r with
      | none => R (.ok .next) s₁
      | some v => wpAny (model prog w) A (storeName env x v) (fun _ s₂ => wpS (model prog w) A (eval elt env) (fun y s₃ =>
          wpAny (model prog w) A (call (.builtin "list.append") [acc, y]) (fun _ s₄ => codeS (model prog w) A (.compLoop (.ListComp elt [⟨.Name x px, iter, [], 0⟩] scope pos) 0 it acc env) R s₄) (fun _ _ => False) s₃) (fun _ _ => False) s₂) (fun _ _ => False) s₁) (fun _ _ => False) s) :
    codeS (model prog w) A (.compLoop (.ListComp elt [⟨.Name x px, iter, [], 0⟩] scope pos) 0 it acc env) R s := by
  refine codeS_tree rfl ?_
  show wpS _ _ ((compTurn (.ListComp elt [⟨.Name x px, iter, [], 0⟩] scope pos) 0 it acc env).onRaise (fun x => do noteFrame x env; theTreesLotGoes x)) _ _ s
  refine S_noted ?_
  rw [compTurn_list1]
  refine S_bind (S_standAt (S_any h fun r s₁ h₁ => ?_))
  cases r with
  | none => exact S_pure h₁
  | some v =>
    refine S_eq (a := ()) rfl ?_
    refine S_bind (S_mono (S_of (wpAny_assign_Name h₁)) (fun _ s₂ h₂ => S_bind (S_bind (S_mono h₂ (fun y s₃ h₃ => S_any h₃ fun _ s₄ h₄ => S_pure (S_pure ⟨rfl, h₄⟩)) fun _ _ f => f.elim))) fun _ _ f => f.elim)
end
end Mine
end
section -- S9
open PySem PySem.W PyProof.Rows PySem.Calls PyProof.V
open Sem (wp)
namespace Mine
/-- what an element that makes a list of plain things gives -/
noncomputable def EltPost (h₀ : Heap) (L : Addr) (m₀ : Str → Option Value) (s : Shared) (led : List (Addr × Obj)) (d : List Dat) (y : Value) (s₃ : Shared) : Prop :=
  ∃ (r : Addr) (v : Value) (rest : List Value) (nn : Nat) (h₃ : Heap) (tk₃ : Nat) (g₃ : Array GenState), y = .ref r ∧ s₃ = { s with heap := h₃, toks := tk₃, gens := g₃ } ∧ MoreG s.gens g₃ ∧ Fr h₀ L h₃ m₀ ∧
    News h₀ L h₃ ((r, listOf (v :: rest).toArray nn) :: led) ∧ (∀ a, v ≠ .ref a) ∧ DatAll [] (v :: rest) d
theorem MoreG.trans' {a b c : Array GenState} (h : MoreG a b) (k : MoreG b c) : MoreG a c := h.trans k
section
variable {prog : Program} {w : World} {A : Around} {E : Value → Shared → Prop} {s : Shared} {env : Env} {h₀ : Heap} {m₀ : Str → Option Value} {led : List (Addr × Obj)} {l : Addr} {vs : List Value} {nn : Nat} {ds : List (List Dat)}
  {elt iter : Expr} {x : Str} {px pos : Pos} {scope : Scope} {cl : List (Str × Addr)}
/-- what the comprehension's turn is told -/
noncomputable def EltOk (prog : Program) (w : World) (A : Around) (s : Shared) (env : Env) (h₀ : Heap) (m₀ : Str → Option Value) (led : List (Addr × Obj)) (vs : List Value) (ds : List (List Dat)) (elt : Expr) (x : Str) (scope : Scope) (cl : List (Str × Addr)) : Prop :=
  ∀ (i : Nat) (v : Value) (d : List Dat) (C : Addr) (mC : Str → Option Value) (h : Heap) (tk : Nat) (g : Array GenState) (own : List (Addr × Obj)), vs[i]? = some v → ds[i]? = some d → h.Ns C mC → mC x = some v → Fr h₀ env.locals h m₀ → News h₀ env.locals h (own ++ led) → MoreG s.gens g →
    wpS (model prog w) A (eval elt (compEnvC scope cl C env)) (EltPost h₀ env.locals m₀ { s with heap := h, toks := tk, gens := g } (own ++ led) d) (fun _ _ => False) { s with heap := h, toks := tk, gens := g }
noncomputable def LoopInv (s : Shared) (h₀ : Heap) (L : Addr) (m₀ : Str → Option Value) (led : List (Addr × Obj)) (ds : List (List Dat)) (l I D C : Addr) (i : Nat) (h : Heap) (g : Array GenState) (ys : List Value) (nD : Nat) (own : List (Addr × Obj)) : Prop :=
  News h₀ L h ((D, listOf ys.toArray nD) :: (own ++ led)) ∧ (∀ p ∈ own ++ led, p.1 ≠ D ∧ p.1 ≠ C ∧ p.1 ≠ I) ∧ h.IsListIter I l i ∧ (∃ m, h.Ns C m) ∧ Fr h₀ L h m₀ ∧ DatAll own ys ((ds.take i).map Dat.list) ∧ (∀ y ∈ ys, ∃ a, y = Value.ref a) ∧ MoreG s.gens g
theorem compS_loop {I D C : Addr} {R : Result → Shared → Prop} (hh : A.handled = none) (hl : (l, listOf vs.toArray nn) ∈ led) (hlen : ds.length = vs.length) (hx : (compEnvC scope cl C env).kindOf x = some .local)
    (hp : ((compEnvC scope cl C env).scope.kind == .class || ((compEnvC scope cl C env).scope.kind == .module && (compEnvC scope cl C env).locals != (compEnvC scope cl C env).globals)) = false)
    (hCL : C ≠ env.locals) (hIL : I ≠ env.locals) (hC0 : h₀.get? C = none) (hI0 : h₀.get? I = none) (hDC : D ≠ C) (hDI : D ≠ I) (hCI : C ≠ I) (hz : vs.length ≤ 100)
    (ok : EltOk prog w A s env h₀ m₀ led vs ds elt x scope cl)
    (done : ∀ h tk g ys nD own, News h₀ env.locals h ((D, listOf ys.toArray nD) :: (own ++ led)) → (∀ p ∈ own ++ led, p.1 ≠ C) → (∃ m, h.Ns C m) → Fr h₀ env.locals h m₀ → DatAll own ys (ds.map Dat.list) → MoreG s.gens g → R (.ok .next) { s with heap := h, toks := tk, gens := g }) :
    ∀ n i, i + n = vs.length → ∀ h tk g ys nD own, LoopInv s h₀ env.locals m₀ led ds l I D C i h g ys nD own →
      codeS (model prog w) A (.compLoop (.ListComp elt [⟨.Name x px, iter, [], 0⟩] scope pos) 0 (.ref I) (.ref D) (compEnvC scope cl C env)) R { s with heap := h, toks := tk, gens := g } := by
  intro n
  induction n with
  | zero =>
    rintro i hi h tk g ys nD own ⟨N, hne, hit, ⟨m, hns⟩, F, hd, hr, hg⟩
    have hll : (l, listOf vs.toArray nn) ∈ own ++ led := List.mem_append_right _ hl
    refine codeS_compTurn (wpAny_pyNext_list_end hh hit ⟨_, (N _ (.tail _ hll)).1, rfl, nn, rfl⟩ (by simp; omega) fun h' hs => ?_)
    have hi' : i = vs.length := by omega
    subst hi'
    refine done h' tk g ys nD own (fun p hp => ?_) (fun p hp => (hne p hp).2.1) ⟨m, hns.extBut hs hCI⟩ ⟨F.ns.extBut hs (Ne.symm hIL), fun b o e => hs b o (fun q => by rw [q, hI0] at e; cases e) (F.keep b o e), F.above⟩ (by rw [← hlen, List.take_length] at hd; exact hd) hg
    refine ⟨hs p.1 _ ?_ (N p hp).1, (N p hp).2⟩
    rcases List.mem_cons.mp hp with rfl | hp
    · exact hDI
    · exact (hne p hp).2.2
  | succ n ih =>
    rintro i hi h tk g ys nD own ⟨N, hne, hit, ⟨m, hns⟩, F, hd, hr, hg⟩
    have hll : (l, listOf vs.toArray nn) ∈ own ++ led := List.mem_append_right _ hl
    obtain ⟨v, hv⟩ : ∃ v, vs[i]? = some v := ⟨vs[i]'(by omega), List.getElem?_eq_getElem (by omega)⟩
    obtain ⟨d, hdi⟩ : ∃ d, ds[i]? = some d := ⟨ds[i]'(by omega), List.getElem?_eq_getElem (by omega)⟩
    have hyl := hd.length
    rw [List.length_map, List.length_take] at hyl
    refine codeS_compTurn (wpAny_pyNext_list_item hit ⟨_, (N _ (.tail _ hll)).1, rfl, nn, rfl⟩ (x := v) (by simpa using hv) fun h' hit' hs => ?_)
    have N' : News h₀ env.locals h' ((D, listOf ys.toArray nD) :: (own ++ led)) := fun p hp => by
      refine ⟨(hs.2 p.1 ?_).trans (N p hp).1, (N p hp).2⟩
      rcases List.mem_cons.mp hp with rfl | hp
      · exact hDI
      · exact (hne p hp).2.2
    have F' : Fr h₀ env.locals h' m₀ := ⟨F.ns.sameBut hs (Ne.symm hIL), fun b o e => (hs.2 b (fun q => by rw [q, hI0] at e; cases e)).trans (F.keep b o e), F.above⟩
    have hns' : h'.Ns C m := hns.sameBut hs hCI
    refine wpAny_storeName_local hx hns' (fun h2 hns2 hs2 => ?_) hp
    have N2 : News h₀ env.locals h2 ((D, listOf ys.toArray nD) :: (own ++ led)) := fun p hp => by
      refine ⟨(hs2.2 p.1 ?_).trans (N' p hp).1, (N' p hp).2⟩
      rcases List.mem_cons.mp hp with rfl | hp
      · exact hDC
      · exact (hne p hp).2.1
    have F2 : Fr h₀ env.locals h2 m₀ := ⟨F'.ns.sameBut hs2 (Ne.symm hCL), fun b o e => (hs2.2 b (show b ≠ C from fun q => by rw [q, hC0] at e; cases e)).trans (F'.keep b o e), F'.above⟩
    obtain ⟨oC, esC, epC, hoC, hdC, hkC, hfC⟩ := id hns2
    have hit2 : h2.IsListIter I l (i + 1) := hit'.at fun o e => (hs2.2 I (Ne.symm hCI)).trans e
    obtain ⟨oI, hoI, hcI, hdI⟩ := id hit2
    have N3 : News h₀ env.locals h2 (((D, listOf ys.toArray nD) :: (C, oC) :: (I, oI) :: own) ++ led) := fun p hp => by
      rcases List.mem_cons.mp hp with rfl | hp
      · exact N2 _ (.head _)
      · rcases List.mem_cons.mp hp with rfl | hp
        · exact ⟨hoC, hCL, hC0⟩
        · rcases List.mem_cons.mp hp with rfl | hp
          · exact ⟨hoI, hIL, hI0⟩
          · exact N2 p (.tail _ hp)
    refine S_mono (ok i v d C _ h2 _ g _ hv hdi hns2 (if_pos rfl) F2 N3 hg) (fun y s₃ hy => ?_) fun _ _ f => f
    obtain ⟨r, v0, rest, n0, h3, tk3, g3, rfl, rfl, hg3, F3, N4, hv0, hd0⟩ := hy
    have hrD := (N4 _ (.tail _ (.head _))).1
    have hrr := (N4 _ (.head _)).1
    have neD : r ≠ D := fun q => by
      dsimp only at hrD hrr
      rw [q, hrD] at hrr
      have e := congrArg Obj.data (Option.some.inj hrr)
      have e2 : ys.toArray = (v0 :: rest).toArray := by
        have := e
        simp only [PySem.W.listOf] at this
        exact (Data.seq.inj this).1
      have e3 : ys = v0 :: rest := by simpa using e2
      obtain ⟨a, ha⟩ := hr v0 (e3 ▸ .head _)
      exact hv0 a ha
    have neC : r ≠ C := fun q => by
      have hc := (N4 _ (.tail _ (.tail _ (.head _)))).1
      dsimp only at hc hrr
      rw [q, hc] at hrr
      have e := congrArg Obj.data (Option.some.inj hrr)
      rw [hdC] at e
      simp [PySem.W.listOf] at e
    have neI : r ≠ I := fun q => by
      have hc := (N4 _ (.tail _ (.tail _ (.tail _ (.head _))))).1
      dsimp only at hc hrr
      rw [q, hc] at hrr
      have e := congrArg Obj.data (Option.some.inj hrr)
      rw [hdI] at e
      simp [PySem.W.listOf] at e
    have N5 : News h₀ env.locals h3 ((D, listOf ys.toArray nD) :: (r, listOf (v0 :: rest).toArray n0) :: (C, oC) :: (I, oI) :: (own ++ led)) := fun p hp => by
      rcases List.mem_cons.mp hp with rfl | hp
      · exact N4 _ (.tail _ (.head _))
      · rcases List.mem_cons.mp hp with rfl | hp
        · exact N4 _ (.head _)
        · exact N4 p (.tail _ (.tail _ hp))
    refine append_K F3 N5 (Upd.head fun p hp => ?_) (fun h4 F4 N6 => ?_) ?_
    · rcases List.mem_cons.mp hp with rfl | hp
      · exact neD
      · rcases List.mem_cons.mp hp with rfl | hp
        · exact Ne.symm hDC
        · rcases List.mem_cons.mp hp with rfl | hp
          · exact Ne.symm hDI
          · exact (hne p hp).1
    · have hoC4 := (N6 _ (.tail _ (.tail _ (.head _)))).1
      have hoI4 := (N6 _ (.tail _ (.tail _ (.tail _ (.head _))))).1
      refine ih (i + 1) (by omega) h4 tk3 g3 (ys ++ [.ref r]) (nD + 1) ((r, listOf (v0 :: rest).toArray n0) :: own) ⟨fun p hp => ?_, fun p hp => ?_, ⟨oI, hoI4, hcI, hdI⟩, ⟨_, oC, esC, epC, hoC4, hdC, hkC, hfC⟩, F4, ?_, fun y hy => ?_, hg.trans hg3⟩
      · rcases List.mem_cons.mp hp with rfl | hp
        · have := N6 _ (.head _)
          simpa using this
        · rcases List.mem_cons.mp hp with rfl | hp
          · exact N6 _ (.tail _ (.head _))
          · exact N6 p (.tail _ (.tail _ (.tail _ (.tail _ hp))))
      · rcases List.mem_cons.mp hp with rfl | hp
        · exact ⟨neD, neC, neI⟩
        · exact hne p hp
      · rw [List.take_add_one, hdi, List.map_append]
        exact (hd.mono fun p hp => .tail _ hp).append (.one (.list (.head _) (hd0.mono (by intro p hp; cases hp))))
      · rcases List.mem_append.mp hy with hy | hy
        · exact hr y hy
        · exact ⟨r, List.mem_singleton.mp hy⟩
    · rw [sizeLine_eq, List.size_toArray]; omega
theorem compS_start {e₀ : Value → Addr → Result → Shared → Prop} (hh : A.handled = none) (hl : (l, listOf vs.toArray nn) ∈ led) (hlen : ds.length = vs.length) (hkind : scope.kind = .function) (hcell : ∀ y ∈ scope.names, y.2 ≠ .cell)
    (hx : scope.names.lookup x = some .local) (hz : vs.length ≤ 100) (F : Fr h₀ env.locals s.heap m₀) (N : News h₀ env.locals s.heap led) (ok : EltOk prog w A s env h₀ m₀ led vs ds elt x scope cl)
    (done : ∀ h tk g ys nD own D C, News h₀ env.locals h ((D, listOf ys.toArray nD) :: (own ++ led)) → (∀ p ∈ own ++ led, p.1 ≠ C) → D ≠ C → C ≠ env.locals → h₀.get? C = none → (∃ m, h.Ns C m) → Fr h₀ env.locals h m₀ → DatAll own ys (ds.map Dat.list) → MoreG s.gens g →
      e₀ (.ref D) C (.ok .next) { s with heap := h, toks := tk, gens := g }) :
    wpAny (model prog w) A (pyIter (.ref l)) (fun it s₂ => wpAny (model prog w) A (newList []) (fun acc s₃ => wpAny (model prog w) A (newFunctionEnv scope env.globals cl [] env.qual none .none (some env)) (fun cenv s₄ =>
      codeS (model prog w) A (.compStart (.ListComp elt [⟨.Name x px, iter, [], 0⟩] scope pos) 0 it acc { cenv with scope := relabel scope env }) (e₀ acc cenv.locals) s₄) (fun _ _ => False) s₃) (fun _ _ => False) s₂) (fun _ _ => False) s := by
  have hls : s.heap.IsList l vs.toArray := ⟨_, (N _ hl).1, rfl, nn, rfl⟩
  refine wpAny_pyIter_list hls ?_
  refine wpAny_newObj_type (wpAny_newFunctionEnv hcell (by intro y hy; simp at hy) (fun h₁ hns₁ hsb₁ => ?_) hkind)
  dsimp only at hns₁ hsb₁ ⊢
  have hit0 : (s.heap.push { cls := .type "list_iterator", data := .fields #[.ref l, .int 0 0] }).IsListIter s.heap.objs.size l 0 := ⟨_, Heap.get?_push_size _ rfl, rfl, rfl⟩
  have hzI : (s.heap.push { cls := .type "list_iterator", data := .fields #[.ref l, .int 0 0] }).objs.size = s.heap.objs.size + 1 := Heap.size_push ..
  generalize hH1 : s.heap.push { cls := .type "list_iterator", data := .fields #[.ref l, .int 0 0] } = H1 at hns₁ hsb₁ hit0 hzI ⊢
  generalize hH2 : H1.push { cls := .type "list", dict := none, data := .seq ([] : List Value).toArray } = H2 at hns₁ hsb₁ ⊢
  have hzD : H2.objs.size = H1.objs.size + 1 := by rw [← hH2, Heap.size_push]
  have hLt : env.locals < s.heap.objs.size := F.ns.lt
  have old : ∀ b o, s.heap.get? b = some o → h₁.get? b = some o := fun b o e => by
    have hb := Heap.lt_size e
    exact hsb₁.extBut b o (by rw [hzD, hzI]; exact Nat.ne_of_lt (Nat.lt_succ_of_lt (Nat.lt_succ_of_lt hb))) (Heap.get?_push_of_some _ (hH2 ▸ Heap.get?_push_of_some _ (hH1 ▸ Heap.get?_push_of_some _ e)))
  have hI1 : h₁.IsListIter s.heap.objs.size l 0 := by
    obtain ⟨o, ho, r⟩ := hit0
    exact ⟨o, hsb₁.extBut _ _ (by rw [hzD, hzI]; exact Nat.ne_of_lt (Nat.lt_succ_of_lt (Nat.lt_succ_self _))) (Heap.get?_push_of_some _ (hH2 ▸ Heap.get?_push_of_some _ ho)), r⟩
  have hD1 : h₁.get? H1.objs.size = some (listOf ([] : List Value).toArray 0) := hsb₁.extBut _ _ (by rw [hzD]; exact Nat.ne_of_lt (Nat.lt_succ_self _)) (Heap.get?_push_of_some _ (hH2 ▸ Heap.get?_push_size _ rfl))
  have none0 : ∀ a, s.heap.objs.size ≤ a → h₀.get? a = none := fun a ha => Heap.get?_none_of_le (Nat.le_trans F.above (Nat.le_trans (Nat.le_of_lt hLt) ha))
  have loop : ∀ s₃ : Shared, s₃ = { s with heap := h₁, toks := s.toks + ([] : List (Str × Value)).length, gens := s.gens } →
      codeS (model prog w) A (.compLoop (.ListComp elt [⟨.Name x px, iter, [], 0⟩] scope pos) 0 (.ref s.heap.objs.size) (.ref H1.objs.size) (compEnvC scope cl H2.objs.size env)) (e₀ (.ref H1.objs.size) H2.objs.size) s₃ := by
    rintro s₃ rfl
    have ne1 : H2.objs.size ≠ env.locals := by rw [hzD, hzI]; exact Ne.symm (Nat.ne_of_lt (Nat.lt_succ_of_lt (Nat.lt_succ_of_lt hLt)))
    have ne2 : s.heap.objs.size ≠ env.locals := Ne.symm (Nat.ne_of_lt hLt)
    have ne3 : H1.objs.size ≠ H2.objs.size := by rw [hzD]; exact Nat.ne_of_lt (Nat.lt_succ_self _)
    have ne4 : H1.objs.size ≠ s.heap.objs.size := by rw [hzI]; exact Ne.symm (Nat.ne_of_lt (Nat.lt_succ_self _))
    have ne5 : H2.objs.size ≠ s.heap.objs.size := by rw [hzD, hzI]; exact Ne.symm (Nat.ne_of_lt (Nat.lt_succ_of_lt (Nat.lt_succ_self _)))
    have z1 : h₀.get? H2.objs.size = none := none0 _ (by rw [hzD, hzI]; omega)
    have hltp : ∀ p ∈ led, p.1 < s.heap.objs.size := fun p hp => Heap.lt_size (N p hp).1
    refine compS_loop (l := l) (vs := vs) (nn := nn) (led := led) (ds := ds) (h₀ := h₀) (m₀ := m₀) hh hl hlen (lookup_relabel_local hx) (by simp [compEnvC, relabel, hkind]) ne1 ne2 z1 (none0 _ (Nat.le_refl _)) ne3 ne4 ne5 hz ok
      (fun h tk g ys nD own N' hC hns F' hd hg => done h tk g ys nD own _ _ N' hC ne3 ne1 z1 hns F' hd hg) vs.length 0 (by omega) h₁ _ s.gens [] 0 [] ?_
    refine ⟨fun p hp => ?_, fun p hp => ?_, hI1, ⟨_, hns₁⟩, ⟨F.ns.keeps old, fun b o e => old b o (F.keep b o e), F.above⟩, .nil, (fun _ h => nomatch h), .refl⟩
    · rcases List.mem_cons.mp hp with rfl | hp
      · exact ⟨hD1, by show H1.objs.size ≠ _; rw [hzI]; exact Ne.symm (Nat.ne_of_lt (Nat.lt_succ_of_lt hLt)), none0 _ (by show _ ≤ H1.objs.size; rw [hzI]; omega)⟩
      · exact ⟨old _ _ (N p hp).1, (N p hp).2⟩
    · have := hltp p hp
      refine ⟨?_, ?_, Nat.ne_of_lt this⟩
      · rw [hzI]; exact Nat.ne_of_lt (Nat.lt_succ_of_lt this)
      · rw [hzD, hzI]; exact Nat.ne_of_lt (Nat.lt_succ_of_lt (Nat.lt_succ_of_lt this))
  exact codeS_compStart (loop _ rfl) ((Walks.list (prog := prog) (w := w) hh s.heap.objs.size l (Nat.ne_of_lt (Heap.lt_size (N _ hl).1)) vs.toArray).self 0 _ _ _ ⟨hI1, ⟨_, old _ _ (N _ hl).1, rfl, nn, rfl⟩⟩ (loop _ rfl))
/-- a comprehension whose elements are new lists of plain things -/
theorem S_ListComp_dats {Q : Value → Shared → Prop} (hit : wpAny (model prog w) A (eval iter env) (fun v s₁ => v = .ref l ∧ s₁ = s) (fun _ _ => False) s) (hs : ∀ x, foldedSetIterable iter env x = pure x) (hclos : closureFor scope env = pure cl)
    (hnames : ∀ y ∈ scope.names, y.2 = .local → scope.names.lookup y.1 = some .local)
    (hh : A.handled = none) (hl : (l, listOf vs.toArray nn) ∈ led) (hlen : ds.length = vs.length) (hkind : scope.kind = .function) (hcell : ∀ y ∈ scope.names, y.2 ≠ .cell)
    (hx : scope.names.lookup x = some .local) (hz : vs.length ≤ 100) (F : Fr h₀ env.locals s.heap m₀) (N : News h₀ env.locals s.heap led) (ok : EltOk prog w A s env h₀ m₀ led vs ds elt x scope cl)
    (done : ∀ h tk g ys nD own D, News h₀ env.locals h ((D, listOf ys.toArray nD) :: (own ++ led)) → Fr h₀ env.locals h m₀ → DatAll own ys (ds.map Dat.list) → MoreG s.gens g → Q (.ref D) { s with heap := h, toks := tk, gens := g }) :
    wpS (model prog w) A (eval (.ListComp elt [⟨.Name x px, iter, [], 0⟩] scope pos) env) Q E s := by
  rw [eval_ListComp]
  refine S_comprehension (use := none) rfl hs hclos hkind hnames (wpAny_mono hit (fun v s₁ h₁ => ?_) fun _ _ x => x)
  obtain ⟨rfl, rfl⟩ := h₁
  refine compS_start (e₀ := fun acc C => compPostN (model prog w) A none Q acc C) hh hl hlen hkind hcell hx hz F N ok ?_
  rintro h tk g ys nD own D C N' hC hDC hCL hC0 ⟨m, hns⟩ F' hd hg
  refine ⟨m, hns, fun h' hs' => ?_⟩
  refine done h' tk g ys nD own D (fun p hp => ⟨(hs'.2 p.1 ?_).trans (N' p hp).1, (N' p hp).2⟩) ⟨F'.ns.sameBut hs' (Ne.symm hCL), fun b o e => (hs'.2 b (fun q => by rw [q, hC0] at e; cases e)).trans (F'.keep b o e), F'.above⟩ hd hg
  rcases List.mem_cons.mp hp with rfl | hp
  · exact hDC
  · exact hC p hp
theorem S_Assign_ListComp_dats {y : Str} {py spos : Pos} {Q : Flow → Shared → Prop} (hsw : swapsWith (.ListComp elt [⟨.Name x px, iter, [], 0⟩] scope pos) (some (.Name y py)) spos.line env = pure true)
    (hit : wpAny (model prog w) A (eval iter env) (fun v s₁ => v = .ref l ∧ s₁ = s) (fun _ _ => False) s) (hs : ∀ x, foldedSetIterable iter env x = pure x) (hclos : closureFor scope env = pure cl)
    (hnames : ∀ y ∈ scope.names, y.2 = .local → scope.names.lookup y.1 = some .local) (hy : env.kindOf y = some .local) (hp : (env.scope.kind == .class || (env.scope.kind == .module && env.locals != env.globals)) = false)
    (hh : A.handled = none) (hl : (l, listOf vs.toArray nn) ∈ led) (hlen : ds.length = vs.length) (hkind : scope.kind = .function) (hcell : ∀ y ∈ scope.names, y.2 ≠ .cell)
    (hx : scope.names.lookup x = some .local) (hz : vs.length ≤ 100) (F : Fr h₀ env.locals s.heap m₀) (N : News h₀ env.locals s.heap led) (ok : EltOk prog w A s env h₀ m₀ led vs ds elt x scope cl)
    (done : ∀ h tk g ys nD own D, News h₀ env.locals h ((D, listOf ys.toArray nD) :: (own ++ led)) → Fr h₀ env.locals h (fun z => if z = y then some (.ref D) else m₀ z) → DatAll own ys (ds.map Dat.list) → MoreG s.gens g → Q .next { s with heap := h, toks := tk, gens := g }) :
    wpS (model prog w) A (exec (.Assign [.Name y py] (.ListComp elt [⟨.Name x px, iter, [], 0⟩] scope pos) spos) env) Q E s := by
  rw [exec_Assign_Name_used _ _ _ _ hsw]
  refine S_bind (S_standAt (S_bind ?_))
  show wpS _ A (do let _ ← comprehension (.ListComp elt [⟨.Name x px, iter, [], 0⟩] scope pos) scope env _ (newList []) false (eval iter env) (some (assign (.Name y py) env))) _ _ s
  refine S_bind (S_mono (S_comprehension (use := some (assign (.Name y py) env)) (Q := fun _ s' => Q .next s') rfl hs hclos hkind hnames (wpAny_mono hit (fun v s₁ h₁ => ?_) fun _ _ x => x)) (fun _ s' hq => S_pure (S_pure hq)) fun _ _ e => e)
  obtain ⟨rfl, rfl⟩ := h₁
  refine compS_start (e₀ := fun acc C => compPostN (model prog w) A (some (assign (.Name y py) env)) (fun _ s' => Q .next s') acc C) hh hl hlen hkind hcell hx hz F N ok ?_
  rintro h tk g ys nD own D C N' hC hDC hCL hC0 ⟨m, hns⟩ F' hd hg
  show wpAny _ A (assign (.Name y py) env (.ref D)) _ _ _
  refine wpAny_assign_Name (wpAny_storeName_local hy F'.ns (fun h₂ hn₂ hs₂ => ?_) hp)
  refine ⟨m, hns.sameBut hs₂ hCL, fun h' hs' => ?_⟩
  have hL0 : h₀.get? env.locals = none := Heap.get?_none_of_le F.above
  refine done h' _ g ys nD own D (fun p hp => ⟨(hs'.2 p.1 ?_).trans ((hs₂.2 p.1 (N' p hp).2.1).trans (N' p hp).1), (N' p hp).2⟩) ⟨hn₂.sameBut hs' (Ne.symm hCL), fun b o e => (hs'.2 b (fun q => by rw [q, hC0] at e; cases e)).trans ((hs₂.2 b (fun q => by rw [q, hL0] at e; cases e)).trans (F'.keep b o e)), F'.above⟩ hd hg
  rcases List.mem_cons.mp hp with rfl | hp
  · exact hDC
  · exact hC p hp
theorem S_Return {e : Expr} {pos : Pos} {Q : Flow → Shared → Prop} (h : wpS (model prog w) A (eval e env) (fun v => Q (.ret v)) E s) : wpS (model prog w) A (exec (.Return (some e) pos) env) Q E s := by
  rw [exec_Return_some]
  exact S_bind (S_standAt (S_bind (S_mono h (fun v s' h' => S_pure h') fun _ _ x => x)))
theorem S_Compare1 {lt r : Expr} {op : CmpOp} {pos : Pos} {Q : Value → Shared → Prop}
    (h : wpAny (model prog w) A (eval lt env) (fun a s₁ => wpS (model prog w) A (eval r env) (fun b s₂ => wpAny (model prog w) A (compareOp op a b) Q E s₂) E s₁) (fun _ _ => False) s)
    (hm : behindInMarks op r = false := by with_unfolding_all rfl) : wpS (model prog w) A (eval (.Compare lt [op] [r] pos) env) Q E s := fun Γ p hΓ c => by
  simp only [eval_Compare1, markedBehindIn_of_false hm, Sem.wp_bind', Sem.wp_holding, Sem.wp_cmd_standAt, Sem.wp_operate]
  exact Sem.wp_mono (model prog w) Γ _ (fun a p₁ s₁ h₁ => Sem.wp_mono (model prog w) Γ _ (fun b _ s₂ h₂ => h₂ Γ _ hΓ) (fun _ _ _ h' => h') _ _ (h₁ Γ p₁ hΓ c)) (fun _ _ _ h' => h'.elim) _ _ (h Γ p hΓ)
end
end Mine
end
section -- C3
open PySem PySem.W PyProof.Rows PySem.Calls
namespace Mine

theorem fill_C3 : (fun (_ : OpenLaw) (_ : Params → Frag) => True) PySem.Challenge.rw_zo0019_01 hd.heap_39 := by
  w_top off
  k_with_none
  k_fill
  trivial

noncomputable def labItem (z : Int) : Str := List.getD [Str.ofString "a", Str.ofString "ab", Str.ofString "b", Str.ofString "*"] (Int.toNat (Int.fmod z 4)) Str.empty
noncomputable def labelsF (n : Int) : List Str :=
  (if Int.fmod n 3 = 0 then [labItem (Int.fdiv n 3)] else if Int.fmod n 3 = 1 then [labItem (Int.fdiv n 3), labItem (Int.fdiv (Int.fdiv n 3) 4)]
    else [labItem (Int.fdiv n 3), labItem (Int.fdiv (Int.fdiv n 3) 4), labItem (Int.fdiv (Int.fdiv (Int.fdiv n 3) 4) 4)]) ++ [Str.ofString "local"]
section
variable {prog : Program} {w : World} {mean : ExcName → Option Value} {mg mb : Str → Option Value} {news : List (Addr × Obj)} {dp un : Nat} {gd : Option (List Code)} {cn : Str} {cs : Scope} {a : Addr} {ccd : Value} {cl : List (Str × Addr)} {outer : List Env} {A₀ : Around} {base h₀ : Heap} {L : Addr} {m : Str → Option Value} {s : Shared} {Q E : Value → Shared → Prop}
theorem c_labels {n : Int} {t : Tok} (B : Below A₀ base outer h₀) (F : Fr h₀ L s.heap m) (X : (hd.heap_39 w.params).In h₀) (N : News h₀ L s.heap news)
    (T : Top hd.view_39 (looseW hd.view_39 [Str.ofString "IPV4_RE", Str.ofString "insort_left", Str.ofString "bisect_left"]) mean mg mb h₀) (hk : cs.kind = .function)
    (hd' : dp + 1 < recursionLimit) (hu : un + 20 * 1 < cLine) (h0 : 0 ≤ n) (h1 : n < 192)
    (hret : ∀ (r : Addr) (vs : List Value) (nn : Nat) (h' : Heap) (tk' : Nat), (∀ b o, s.heap.get? b = some o → h'.get? b = some o) → s.heap.get? r = none → h'.get? r = some (listOf vs.toArray nn) → StrsAre vs (labelsF n) → Q (.ref r) { s with heap := h', toks := tk' }) :
    wpAny (model prog w) (ktrTop dp un gd cn cs L a ccd cl outer) (call (.ref 103) [.int n t]) Q E s := by
  k_with_none
  refine wpAny_call ?_
  k_dflt (refine' code_pure ?k1 ?k2 ?k3 ?k5 ?kA ?kF ?kK ?k6 ?k7 ?k8 ?k9 ?kB ?_ ?c2 ?c3 ?c4 ?c5; (case kA => exact rfl); (case kF => exact rfl); (case kK => assumption); (case k1 => k_asm); (case k2 => k_asm); (case k3 => k_asm); (case k5 => k_asm); (case k6 => k_is); (case k7 => k_is); (case k8 => ktr_room); (case k9 => exact BindsTo.of_eq rfl); (case c5 => decide); (case kB => exact locs rfl); (case c2 => exact rfl); (case c3 => exact rfl); (case c4 => exact rfl); k_whole; intro L' h' F' N' B' X' T'; (try dsimp only); (try k_fold))
  clear B F N X T
  k_with "table" => skip
  k_steps
  all_goals (
    have hm0 := fmod_lo n (n := 3) (by decide)
    have hm1 := fmod_hi n (n := 3) (by decide)
    first
    | (exfalso; omega)
    | ((with_reducible rename News _ _ _ _ => nE); (with_reducible rename Fr _ _ _ _ => fE); refine hret _ _ _ _ _ fE.keep (nE _ (.head _)).2.2 (nE _ (.head _)).1 ?_
       unfold labelsF labItem
       first
       | (rw [if_pos (show Int.fmod n 3 = 0 by omega)]; repeat first | exact StrsAre.nil | apply StrsAre.cons)
       | (rw [if_neg (show ¬ Int.fmod n 3 = 0 by omega), if_pos (show Int.fmod n 3 = 1 by omega)]; repeat first | exact StrsAre.nil | apply StrsAre.cons)
       | (rw [if_neg (show ¬ Int.fmod n 3 = 0 by omega), if_neg (show ¬ Int.fmod n 3 = 1 by omega)]; repeat first | exact StrsAre.nil | apply StrsAre.cons)))
end
end Mine
end
section -- E4
open PySem PySem.W PyProof.Rows PySem.Calls
namespace Mine

theorem fill_E4 : (fun (_ : OpenLaw) (_ : Params → Frag) => True) PySem.Challenge.rw_zo0019_01 hd.heap_39 := by
  w_top off
  k_with_none
  k_fill
  trivial

theorem labels_all : ∀ k : Fin 192, labelsF ((k.val : Nat) : Int) ∈ NAMES := by decide +kernel
theorem labels_name {n : Int} (h0 : 0 ≤ n) (h1 : n < 192) : labelsF n ∈ NAMES := by
  have := labels_all ⟨n.toNat, by omega⟩
  have e : ((n.toNat : Nat) : Int) = n := by omega
  simpa only [e] using this
theorem N_two {g h : Heap} {L : Addr} {a b : Addr × Obj} {r : List (Addr × Obj)} (N : News g L h r) (ha : a ∈ r) (hb : b ∈ r) : News g L h (a :: b :: r) := fun p hp => by
  rcases List.mem_cons.mp hp with rfl | hp
  · exact N _ ha
  · rcases List.mem_cons.mp hp with rfl | hp
    · exact N _ hb
    · exact N p hp
theorem N_back {g h : Heap} {L : Addr} {x a b : Addr × Obj} {r : List (Addr × Obj)} (N : News g L h (x :: a :: b :: r)) : News g L h (x :: r) := fun p hp => by
  rcases List.mem_cons.mp hp with rfl | hp
  · exact N _ (.head _)
  · exact N p (.tail _ (.tail _ (.tail _ hp)))
theorem strs_nil {vs : List Value} (h : StrsAre vs []) : vs = [] := by cases h; rfl
theorem strs_cons {vs : List Value} {x : Str} {xs : List Str} (h : StrsAre vs (x :: xs)) : ∃ t us, vs = .str x t :: us ∧ StrsAre us xs := by
  cases h with
  | cons n t h => exact ⟨t, _, rfl, h⟩
theorem names_cases {xs : List Str} (hn : xs ∈ NAMES) : (∃ a b, xs = [a, b]) ∨ (∃ a b c, xs = [a, b, c]) ∨ ∃ a b c d, xs = [a, b, c, d] := by
  have h1 := names_shape xs hn
  have h2 := (znames_shape xs (.tail _ hn)).2.2
  match xs, h1, h2 with
  | [a, b], _, _ => exact .inl ⟨a, b, rfl⟩
  | [a, b, c], _, _ => exact .inr (.inl ⟨a, b, c, rfl⟩)
  | [a, b, c, d], _, _ => exact .inr (.inr ⟨a, b, c, d, rfl⟩)
section
variable {prog : Program} {w : World} {mean : ExcName → Option Value} {mg mb : Str → Option Value} {news : List (Addr × Obj)} {dp un : Nat} {gd : Option (List Code)} {cn : Str} {cs : Scope} {a : Addr} {ccd : Value} {cl : List (Str × Addr)} {outer : List Env} {A₀ : Around} {base h₀ : Heap} {L : Addr} {m : Str → Option Value} {s : Shared} {Q E : Value → Shared → Prop}
theorem c_dueG {z l : Addr} {zs vs : List Value} {nz nl : Nat} {Z : List (List Str)} {R : List Str} {kvs : List (Str × Value)} {xs : List Str} (B : Below A₀ base outer h₀) (F : Fr h₀ L s.heap m) (X : (hd.heap_39 w.params).In h₀) (N : News h₀ L s.heap news)
    (T : Top hd.view_39 (looseW hd.view_39 [Str.ofString "IPV4_RE", Str.ofString "insort_left", Str.ofString "bisect_left"]) mean mg mb h₀) (hk : cs.kind = .function)
    (hd' : dp + 6 < recursionLimit) (hu : un + 20 * 6 < cLine) (hz : (z, listOf zs.toArray nz) ∈ news) (hl : (l, listOf vs.toArray nl) ∈ news) (hZ : DatAll news zs (Z.map labD)) (hI : StrsAre vs xs)
    (hn : xs ∈ NAMES) (hZo : Zone Z R kvs)
    (hret : ∀ r vt ws nn h' tk', optIs (dueF Z xs).1 vt → StrsAre ws (dueF Z xs).2 → Fr h₀ L h' m → News h₀ L h' ((r, listOf (vt :: ws).toArray nn) :: news) → Q (.ref r) { s with heap := h', toks := tk' }) :
    wpAny (model prog w) (ktrTop dp un gd cn cs L a ccd cl outer) (call (.ref 134) [.ref z, .ref l]) Q E s := by
  have N2 := N_two N hz hl
  exact c_dueX B F X N2 T hk hd' hu (hZ.mono fun p hp => .tail _ (.tail _ hp)) hI hn hZo fun r vt ws nn h' tk' a b F' N' => hret r vt ws nn h' tk' a b F' (N_back N')
theorem c_servedG {rw d : Addr} {o : Obj} {kvs : List (Str × Value)} {vs : List Value} {nr : Nat} {Z : List (List Str)} {R : List Str} {xs : List Str} {x : Str} {tx : Tok} (B : Below A₀ base outer h₀) (F : Fr h₀ L s.heap m) (X : (hd.heap_39 w.params).In h₀) (N : News h₀ L s.heap news)
    (T : Top hd.view_39 (looseW hd.view_39 [Str.ofString "IPV4_RE", Str.ofString "insort_left", Str.ofString "bisect_left"]) mean mg mb h₀) (hk : cs.kind = .function)
    (hd' : dp + 8 < recursionLimit) (hu : un + 20 * 8 < cLine) (hgd : gd = some []) (hm1 : (rw, listOf vs.toArray nr) ∈ news) (hm2 : (d, o) ∈ news)
    (hD : o.IsDictOf (PySem.strKind prog w) kvs) (lo : (d == sysModules) = false) (hZ : Zone Z R kvs) (hR : StrsAre vs R) (hn : xs ∈ NAMES) (hx : x = joinF xs)
    (hret : ∀ r vt ws nn h' tk' g', MoreG s.gens g' → optIs (dueF Z xs).1 vt → StrsAre ws (dueF Z xs).2 → Fr h₀ L h' m → News h₀ L h' ((r, listOf (vt :: ws).toArray nn) :: news) →
      Q (.ref r) { s with heap := h', toks := tk', gens := g' }) :
    wpS (model prog w) (ktrTop dp un gd cn cs L a ccd cl outer) (call (.ref 120) [.ref rw, .ref d, .str x tx]) Q E s := by
  subst hx
  have N2 := N_two N hm1 hm2
  exact c_servedX B F X N2 T hk hd' hu hgd hD lo hZ hR hn fun r vt ws nn h' tk' g' hg a b F' N' => hret r vt ws nn h' tk' g' hg a b F' (N_back N')
end
end Mine
end
section -- P4
open PySem PySem.W PyProof.Rows PySem.Calls PyProof.V
namespace Mine
section
variable {Z : List (List Str)} {R : List Str} {kvs : List (Str × Value)} {vs : List Value}
theorem zone_has (hZ : Zone Z R kvs) {xs : List Str} (hn : xs ∈ ZNAMES) {v : Value} (h : valueAt kvs (turnF xs) = some v) : xs ∈ Z := by
  obtain ⟨z, hz, e⟩ := (hZ.row _).mp (hZ.dictR _ _ h)
  rw [turnF_inj hn (hZ.zin z hz) e]
  exact hz
theorem zone_two (hZ : Zone Z R kvs) {xs : List Str} (hm : xs ∈ Z) (hn : xs ∈ NAMES) : 2 ≤ Z.length := by
  have hr := hZ.root
  have h2 := names_shape xs hn
  cases hZz : Z with
  | nil => rw [hZz] at hm; cases hm
  | cons a r =>
    cases r with
    | nil =>
      rw [hZz] at hm hr
      rw [List.mem_singleton.mp hm, ← List.mem_singleton.mp hr] at h2
      simp at h2
    | cons b r => simp
theorem strs_app : ∀ {us ws : List Value} {xs ys : List Str}, StrsAre us xs → StrsAre ws ys → StrsAre (us ++ ws) (xs ++ ys)
  | _, _, _, _, .nil, h => h
  | _, _, _, _, .cons n t h, k => .cons n t (strs_app h k)
theorem strs_ins (hR : StrsAre vs R) (k : Nat) (x : Str) (t : Tok) : StrsAre (vs.take k ++ .str x t :: vs.drop k) (R.take k ++ x :: R.drop k) := strs_app (strs_take hR k) (.cons x t (strs_drop hR k))
theorem zone_add (hZ : Zone Z R kvs) {xs : List Str} (hn : xs ∈ NAMES) (hnew : valueAt kvs (turnF xs) = none) (hl : Z.length ≤ 4) (t : Tok) :
    Zone (Z ++ [xs]) (R.take (placeN R (turnF xs)) ++ turnF xs :: R.drop (placeN R (turnF xs))) (stored kvs (turnF xs) (.str (joinF xs) t)) := by
  have hx : xs ∈ ZNAMES := .tail _ hn
  have hxR : turnF xs ∉ R := fun q => by
    obtain ⟨z, hz, e⟩ := (hZ.row _).mp q
    obtain ⟨t', ht⟩ := hZ.dict z hz
    rw [← e, hnew] at ht
    cases ht
  have hany : kvs.any (fun kv => kv.1 = turnF xs) = false := by
    rw [← valueAt_isSome_eq_any, hnew]; rfl
  have hst : stored kvs (turnF xs) (.str (joinF xs) t) = kvs ++ [(turnF xs, .str (joinF xs) t)] := by
    unfold stored
    rw [hany]; rfl
  have hval : ∀ k, valueAt (kvs ++ [(turnF xs, Value.str (joinF xs) t)]) k = (valueAt kvs k).or (if turnF xs = k then some (.str (joinF xs) t) else none) := by
    intro k
    unfold valueAt
    rw [List.find?_append]
    cases h : kvs.find? fun kv => kv.1 = k with
    | some y => simp
    | none =>
      by_cases hk : turnF xs = k
      · simp [hk]
      · simp [hk]
  have hlt : ∀ i, i < R.length → ((R.getD i Str.empty).cps.toList < (turnF xs).cps.toList ↔ i < placeN R (turnF xs)) := place_lt hZ _
  rw [hst]
  refine ⟨fun z hz => ?_, List.mem_append_left _ hZ.root, by simp; omega, ?_, ?_, fun r => ?_, fun z hz => ?_, fun k v hv => ?_⟩
  · rcases List.mem_append.mp hz with hz | hz
    · exact hZ.zin z hz
    · rw [List.mem_singleton.mp hz]; exact hx
  · have h1 := place_le R (turnF xs)
    have h2 := hZ.rlen
    simp
    omega
  · have hdrop : ∀ y ∈ R.drop (placeN R (turnF xs)), (turnF xs).cps.toList < y.cps.toList := by
      intro y hy
      obtain ⟨j, hj, rfl⟩ := List.getElem_of_mem hy
      rw [List.length_drop] at hj
      have h3 := hlt (placeN R (turnF xs) + j) (by omega)
      rw [List.getElem_drop]
      have e : R.getD (placeN R (turnF xs) + j) Str.empty = R[placeN R (turnF xs) + j] := by
        rw [List.getD_eq_getElem?_getD, List.getElem?_eq_getElem (by omega)]; rfl
      rw [e] at h3
      have hm : R[placeN R (turnF xs) + j]'(by omega) ∈ R := List.getElem_mem _
      obtain ⟨z, hz, ez⟩ := (hZ.row _).mp hm
      rw [ez, turnF_cps, turnF_cps, turn_lt (hZ.zin z hz) hx] at h3
      rw [ez, turnF_cps, turnF_cps, turn_lt hx (hZ.zin z hz)]
      have hne : idxN z ≠ idxN xs := fun q => hxR (by rw [← idx_inj (hZ.zin z hz) hx q, ← ez]; exact hm)
      omega
    have htake : ∀ y ∈ R.take (placeN R (turnF xs)), y.cps.toList < (turnF xs).cps.toList := by
      intro y hy
      obtain ⟨j, hj, rfl⟩ := List.getElem_of_mem hy
      rw [List.length_take] at hj
      have h3 := hlt j (by omega)
      rw [List.getElem_take]
      have e : R.getD j Str.empty = R[j] := by
        rw [List.getD_eq_getElem?_getD, List.getElem?_eq_getElem (by omega)]; rfl
      rw [e] at h3
      exact h3.mpr (by omega)
    refine List.pairwise_append.mpr ⟨hZ.sorted.sublist (List.take_sublist _ _), .cons hdrop (hZ.sorted.sublist (List.drop_sublist _ _)), fun a ha b hb => ?_⟩
    rcases List.mem_cons.mp hb with rfl | hb
    · exact htake a ha
    · exact lt_trans' (htake a ha) (hdrop b hb)
  · constructor
    · intro h
      rcases List.mem_append.mp h with h | h
      · obtain ⟨z, hz, e⟩ := (hZ.row r).mp (List.mem_of_mem_take h)
        exact ⟨z, List.mem_append_left _ hz, e⟩
      · rcases List.mem_cons.mp h with rfl | h
        · exact ⟨xs, List.mem_append_right _ (.head _), rfl⟩
        · obtain ⟨z, hz, e⟩ := (hZ.row r).mp (List.mem_of_mem_drop h)
          exact ⟨z, List.mem_append_left _ hz, e⟩
    · rintro ⟨z, hz, rfl⟩
      rcases List.mem_append.mp hz with hz | hz
      · have := (hZ.row (turnF z)).mpr ⟨z, hz, rfl⟩
        rw [← List.take_append_drop (placeN R (turnF xs)) R] at this
        rcases List.mem_append.mp this with h | h
        · exact List.mem_append_left _ h
        · exact List.mem_append_right _ (.tail _ h)
      · rw [List.mem_singleton.mp hz]
        exact List.mem_append_right _ (.head _)
  · rw [hval]
    rcases List.mem_append.mp hz with hz | hz
    · obtain ⟨t', ht⟩ := hZ.dict z hz
      exact ⟨t', by rw [ht]; rfl⟩
    · rw [List.mem_singleton.mp hz, hnew, if_pos rfl]
      exact ⟨t, rfl⟩
  · rw [hval] at hv
    cases h : valueAt kvs k with
    | some u =>
      have := hZ.dictR k u h
      rw [← List.take_append_drop (placeN R (turnF xs)) R] at this
      rcases List.mem_append.mp this with h | h
      · exact List.mem_append_left _ h
      · exact List.mem_append_right _ (.tail _ h)
    | none =>
      rw [h] at hv
      by_cases hk : turnF xs = k
      · exact List.mem_append_right _ (hk ▸ .head _)
      · rw [if_neg hk] at hv; cases hv
end
/-- the three that a turn asks for -/
noncomputable def askedF (came drawn : List Str) : List (List Str) := [drawn, Str.ofString "b" :: came.drop 1, Str.ofString "ab" :: (if 2 < came.length then came.drop 2 else came.drop 1)]
theorem asked_b : ∀ xs ∈ NAMES, (Str.ofString "b" :: xs.drop 1) ∈ NAMES := by decide +kernel
theorem asked_ab : ∀ xs ∈ NAMES, (Str.ofString "ab" :: (if 2 < xs.length then xs.drop 2 else xs.drop 1)) ∈ NAMES := by decide +kernel
noncomputable def optD : Option Str → Dat | none => .none | some x => .str x
noncomputable def resD (r : Option Str × List Str) : List Dat := optD r.1 :: r.2.map Dat.str
theorem opt_dat {news : List (Addr × Obj)} {r : Option Str} {v : Value} (h : optIs r v) : DatIn news v (optD r) ∧ ∀ a, v ≠ .ref a := by
  cases r with
  | none => have : v = .none := h; subst this; exact ⟨.none, fun a e => by cases e⟩
  | some x => obtain ⟨t, rfl⟩ := h; exact ⟨.str x t, fun a e => by cases e⟩
theorem res_dat {r : Option Str × List Str} {v : Value} {ws : List Value} (h : optIs r.1 v) (k : StrsAre ws r.2) : DatAll [] (v :: ws) (resD r) := .cons (opt_dat h).1 (strs_dat k)
theorem names_ok : ∀ z ∈ ZNAMES, PyData.strOk (joinF z) = true ∧ PyData.strOk (Str.ofString "." ++ joinF z) = true := by decide +kernel
theorem owned_ok {Z : List (List Str)} {xs : List Str} (hx : xs ∈ ZNAMES) {t : Str} (h : ownedF Z xs = some t) : PyData.strOk t = true := by
  unfold ownedF at h
  by_cases h1 : xs ∈ Z
  · rw [if_pos h1] at h
    cases h
    exact (names_ok xs hx).1
  · rw [if_neg h1] at h
    by_cases h2 : (Z.any fun ys => suffixB ys xs) = true
    · rw [if_pos h2] at h
      cases h
      decide +kernel
    · rw [if_neg h2] at h; cases h
theorem climb_ok {Z : List (List Str)} (hroot : ∀ D ∈ ZNAMES, D.length = 1 → ownedF Z D ≠ none) : ∀ n, ∀ xs ∈ ZNAMES, xs.length = n → (∀ y ∈ (climbF Z xs).2, PyData.strOk y = true) ∧ (climbF Z xs).1 ∈ ZNAMES := by
  intro n
  induction n with
  | zero => intro xs hx hl; have := (znames_shape xs hx).2.1; omega
  | succ n ih =>
    intro xs hx hl
    cases xs with
    | nil => simp at hl
    | cons x r =>
      unfold climbF
      by_cases h : ownedF Z (x :: r) = none
      · rw [if_pos h]
        have h2 : 2 ≤ (x :: r).length := by
          rcases Nat.lt_or_ge (x :: r).length 2 with q | q
          · exact (hroot _ hx (by simp only [List.length_cons] at q ⊢; omega) h).elim
          · exact q
        have hr : r ∈ ZNAMES := tail_z (z_name hx h2)
        have := ih r hr (by simpa using hl)
        refine ⟨fun y hy => ?_, this.2⟩
        rcases List.mem_cons.mp hy with rfl | hy
        · exact (names_ok r hr).2
        · exact this.1 y hy
      · rw [if_neg h]
        exact ⟨(fun y hy => nomatch hy), hx⟩
theorem climb_short {Z : List (List Str)} : ∀ xs : List Str, ownedF Z xs = none → (climbF Z xs).1.length ≤ xs.length - 1
  | [], _ => Nat.zero_le _
  | x :: r, h => by
    unfold climbF
    rw [if_pos h]
    show (climbF Z r).1.length ≤ _
    have key : ∀ r : List Str, (climbF Z r).1.length ≤ r.length := by
      intro r
      induction r with
      | nil => simp [climbF]
      | cons y r ih =>
        unfold climbF
        split
        · exact Nat.le_trans ih (by simp)
        · exact Nat.le_refl _
    simpa using key r
theorem res_ok {Z : List (List Str)} (hroot : ∀ D ∈ ZNAMES, D.length = 1 → ownedF Z D ≠ none) {xs : List Str} (hn : xs ∈ NAMES) : ∀ d ∈ resD (dueF Z xs), kqdOk 7 d = true := by
  have hx : xs ∈ ZNAMES := .tail _ hn
  have hc := climb_ok hroot _ xs hx rfl
  have hopt : ∀ ys ∈ ZNAMES, kqdOk 7 (optD (ownedF Z ys)) = true := fun ys hy => by
    cases h : ownedF Z ys with
    | none => rfl
    | some t => simp only [optD, kqdOk]; exact owned_ok hy h
  intro d hd
  unfold resD dueF at hd
  cases h : ownedF Z xs with
  | some t =>
    rw [h] at hd
    rcases List.mem_cons.mp hd with rfl | hd
    · have := hopt xs hx; rw [h] at this; exact this
    · cases hd
  | none =>
    rw [h] at hd
    rcases List.mem_cons.mp hd with rfl | hd
    · refine hopt _ (.tail _ (star_all _ hc.2 ?_))
      have := climb_short xs h
      have := (znames_shape xs hx).2.2
      omega
    · obtain ⟨y, hy, rfl⟩ := List.mem_map.mp hd
      simp only [kqdOk]
      exact hc.1 y hy
end Mine
end
section -- E5
open PySem PySem.W PyProof.Rows PySem.Calls
namespace Mine

theorem fill_E5 : (fun (_ : OpenLaw) (_ : Params → Frag) => True) PySem.Challenge.rw_zo0019_01 hd.heap_39 := by
  w_top off
  k_with_none
  k_fill
  trivial

theorem stored_len (kvs : List (Str × Value)) (k : Str) (v : Value) : (stored kvs k v).length ≤ kvs.length + 1 := by
  unfold stored
  split <;> simp
theorem N_rot {g h : Heap} {L : Addr} {a b c1 c2 c3 x y v : Addr × Obj} {r : List (Addr × Obj)} (N : News g L h (b :: a :: c1 :: c2 :: c3 :: x :: y :: v :: r)) : News g L h (x :: y :: v :: c1 :: c2 :: c3 :: b :: a :: r) := fun p hp => N p (by
  simp only [List.mem_cons] at hp ⊢
  rcases hp with e | e | e | e | e | e | e | e | e <;> simp [e])
theorem N_swap {g h : Heap} {L : Addr} {a b : Addr × Obj} {r : List (Addr × Obj)} (N : News g L h (a :: b :: r)) : News g L h (b :: a :: r) := fun p hp => N p (by
  simp only [List.mem_cons] at hp ⊢
  rcases hp with e | e | e <;> simp [e])
theorem N_third {g h : Heap} {L : Addr} {a b c : Addr × Obj} {r : List (Addr × Obj)} (N : News g L h (a :: b :: c :: r)) : News g L h (c :: a :: b :: r) := fun p hp => N p (by
  simp only [List.mem_cons] at hp ⊢
  rcases hp with e | e | e | e <;> simp [e])
theorem N_third' {g h : Heap} {L : Addr} {a b c : Addr × Obj} {r : List (Addr × Obj)} (N : News g L h (c :: a :: b :: r)) : News g L h (a :: b :: c :: r) := fun p hp => N p (by
  simp only [List.mem_cons] at hp ⊢
  rcases hp with e | e | e | e <;> simp [e])
theorem hne_all {x : Addr} {p1 p2 c1 c2 c3 b a : Addr × Obj} {r : List (Addr × Obj)} (h1 : p1.1 ≠ x) (h2 : p2.1 ≠ x) (h3 : c1.1 ≠ x) (h4 : c2.1 ≠ x) (h5 : c3.1 ≠ x) (h6 : b.1 ≠ x) (h7 : a.1 ≠ x) (hr : ∀ p ∈ r, p.1 ≠ x) : ∀ p ∈ p1 :: p2 :: c1 :: c2 :: c3 :: b :: a :: r, p.1 ≠ x := by
  intro p hp
  simp only [List.mem_cons] at hp
  rcases hp with rfl | rfl | rfl | rfl | rfl | rfl | rfl | hp
  · exact h1
  · exact h2
  · exact h3
  · exact h4
  · exact h5
  · exact h6
  · exact h7
  · exact hr p hp
theorem asked_at {g h : Heap} {L : Addr} {led : List (Addr × Obj)} {Z : List (List Str)} {r1 r2 r3 : Addr} {u1 u2 u3 : List Value} {n1 n2 n3 : Nat} {x1 x2 x3 : List Str} (_N : News g L h led) (m1 : (r1, listOf u1.toArray n1) ∈ led) (m2 : (r2, listOf u2.toArray n2) ∈ led) (m3 : (r3, listOf u3.toArray n3) ∈ led)
    (s1 : StrsAre u1 x1) (s2 : StrsAre u2 x2) (s3 : StrsAre u3 x3) (k1 : x1 ∈ NAMES) (k2 : x2 ∈ NAMES) (k3 : x3 ∈ NAMES) : ∀ (i : Nat) (v : Value) (d : List Dat), [Value.ref r1, Value.ref r2, Value.ref r3][i]? = some v → ([x1, x2, x3].map fun xs => resD (dueF Z xs))[i]? = some d →
      ∃ la us nl xs, v = .ref la ∧ (la, listOf (List.toArray us) nl) ∈ led ∧ StrsAre us xs ∧ xs ∈ NAMES ∧ d = resD (dueF Z xs) := by
  intro i v d hv hd
  match i with
  | 0 => cases hv; cases hd; exact ⟨_, _, _, _, rfl, m1, s1, k1, rfl⟩
  | 1 => cases hv; cases hd; exact ⟨_, _, _, _, rfl, m2, s2, k2, rfl⟩
  | 2 => cases hv; cases hd; exact ⟨_, _, _, _, rfl, m3, s3, k3, rfl⟩
  | i + 3 => simp at hv
theorem dec_self {α : Type} {x : α} {inst : Decidable (x = x)} : decide (x = x) = true := by simp
theorem asked_ok {Z : List (List Str)} (hroot : ∀ D ∈ ZNAMES, D.length = 1 → ownedF Z D ≠ none) {x1 x2 x3 : List Str} (k1 : x1 ∈ NAMES) (k2 : x2 ∈ NAMES) (k3 : x3 ∈ NAMES) : ∀ d ∈ ([x1, x2, x3].map fun xs => resD (dueF Z xs)).map Dat.list, kqdOk 8 d = true := by
  intro d hd
  obtain ⟨l, hl, rfl⟩ := List.mem_map.mp hd
  obtain ⟨x, hx, rfl⟩ := List.mem_map.mp hl
  have hn : x ∈ NAMES := by
    simp only [List.mem_cons, List.not_mem_nil, or_false] at hx
    rcases hx with rfl | rfl | rfl <;> assumption
  show (resD (dueF Z x)).all (kqdOk 7) = true
  exact List.all_eq_true.mpr (res_ok hroot hn)
section
variable {prog : Program} {w : World} {mean : ExcName → Option Value} {mg mb : Str → Option Value} {news : List (Addr × Obj)} {dp un : Nat} {gd : Option (List Code)} {cn : Str} {cs : Scope} {a : Addr} {ccd : Value} {cl : List (Str × Addr)} {outer : List Env} {A₀ : Around} {base h₀ : Heap} {L : Addr} {m : Str → Option Value} {s : Shared} {Q E : Value → Shared → Prop}
theorem c_turn {nd : List (Addr × Obj)} {rw d z : Addr} {o : Obj} {kvs : List (Str × Value)} {vs zs : List Value} {nr nz : Nat} {Z : List (List Str)} {R : List Str} {n : Int} {tn : Tok} (B : Below A₀ base outer h₀) (F : Fr h₀ L s.heap m) (X : (hd.heap_39 w.params).In h₀) (N : News h₀ L s.heap ((rw, listOf vs.toArray nr) :: (d, o) :: (z, listOf zs.toArray nz) :: news))
    (T : Top hd.view_39 (looseW hd.view_39 [Str.ofString "IPV4_RE", Str.ofString "insort_left", Str.ofString "bisect_left"]) mean mg mb h₀) (hk : cs.kind = .function)
    (hd' : dp + 12 < recursionLimit) (hu : un + 20 * 12 < cLine) (hgd : gd = some [])
    (hD : o.IsDictOf (PySem.strKind prog w) kvs) (lo : (d == sysModules) = false) (hZ : Zone Z R kvs) (hR : StrsAre vs R) (hnd : ∀ p ∈ nd, p ∈ news) (hzd : DatAll nd zs (Z.map labD)) (hZl : Z.length ≤ 4) (hkl : kvs.length ≤ 100)
    (ne1 : rw ≠ d) (ne2 : rw ≠ z) (ne3 : d ≠ z) (ne4 : ∀ p ∈ news, p.1 ≠ rw ∧ p.1 ≠ d ∧ p.1 ≠ z)
    (hret : ∀ o' kvs' vs' zs' nr' nz' Z' R' own h' tk' g', MoreG s.gens g' → o'.IsDictOf (PySem.strKind prog w) kvs' → Zone Z' R' kvs' → StrsAre vs' R' → DatAll (own ++ nd) zs' (Z'.map labD) → Z'.length ≤ Z.length + 1 → kvs'.length ≤ kvs.length + 1 → 2 ≤ Z'.length →
      (∀ p ∈ own, (p.1 ≠ rw ∧ p.1 ≠ d ∧ p.1 ≠ z) ∧ ∃ va na, p.2 = listOf va na) → Fr h₀ L h' m → News h₀ L h' ((rw, listOf vs'.toArray nr') :: (d, o') :: (z, listOf zs'.toArray nz') :: (own ++ news)) → Q (.bool true) { s with heap := h', toks := tk', gens := g' }) :
    wpS (model prog w) (ktrTop dp un gd cn cs L a ccd cl outer) (call (.ref 139) [.ref rw, .ref d, .ref z, .int n tn]) Q E s := by
  k_with_none
  refine wpS_call ?_
  k_dflt (refine' code_defCS ?k1 ?k2 ?k3 ?k4 ?k5 ?kA ?kF ?kK ?k6 ?k7 ?k8 ?k9 ?kB ?kD ?_ ?c2 ?c3 ?c4; (case kA => exact rfl); (case kF => exact rfl); (case kK => assumption); (case k1 => k_asm); (case k2 => k_asm); (case k3 => k_asm); (case k4 => k_asm); (case k5 => k_asm); (case k6 => k_is); (case k7 => k_is); (case k8 => ktr_room); (case k9 => exact BindsTo.of_eq rfl); (case kB => exact rfl); (case kD => decide +kernel); (case c2 => exact rfl); (case c3 => exact rfl); (case c4 => exact rfl); k_whole; intro g' L' h' tk' cells' FG' F' N' Y' B' X' T' l1; (try k_lt l1); k_cells Y'; (try simp only [List.cons_append, List.nil_append] at N'); (try dsimp only); (try k_lift B'); (try k_fold))
  have hal := l1.2.2.2
  k_with "call ref" => refine Halt.mk ?_
  have m0 := fmod_lo n (n := 192) (by decide)
  have m1 := fmod_hi n (n := 192) (by decide)
  have m2 := fmod_lo (Int.fdiv n 192) (n := 192) (by decide)
  have m3 := fmod_hi (Int.fdiv n 192) (n := 192) (by decide)
  refine S_execs_cons (S_of (A_hide fun Q₂ hQ₂ => ?_))
  k_steps
  refine Halt.un ?_
  k_dflt (refine' c_labels (n := Int.fmod n 192) ?k1 ?k2 ?k3 ?k4 ?k5 ?k6 ?k7 ?k8 m0 m1 ?_; (case k1 => k_asm); (case k2 => k_asm); (case k3 => k_asm); (case k4 => k_asm); (case k5 => k_asm); (case k6 => first | exact rfl | assumption); (case k7 => first | ktr_room | ((try dsimp only); omega)); (case k8 => first | ktr_units | ((try dsimp only); omega)))
  intro ra va na ha tka hka hra hna hsa
  obtain ⟨Na, hea⟩ := news_new F' N' hka hra hna
  have Fa := F'.keeps hka
  clear F' N' hka hra hna
  k_steps
  subst hQ₂
  dsimp only
  refine S_execs_cons (S_of (A_hide fun Q₂ hQ₂ => ?_))
  k_steps
  refine Halt.un ?_
  with_reducible rename Fr _ _ _ _ => F₁
  with_reducible rename News _ _ _ _ => N₁
  k_dflt (refine' c_labels (n := Int.fmod (Int.fdiv n 192) 192) ?k1 ?k2 ?k3 ?k4 ?k5 ?k6 ?k7 ?k8 m2 m3 ?_; (case k1 => k_asm); (case k2 => k_asm); (case k3 => k_asm); (case k4 => k_asm); (case k5 => k_asm); (case k6 => first | exact rfl | assumption); (case k7 => first | ktr_room | ((try dsimp only); omega)); (case k8 => first | ktr_units | ((try dsimp only); omega)))
  intro rb vb nb hb tkb hkb hrb hnb hsb
  obtain ⟨Nb, heb⟩ := news_new F₁ N₁ hkb hrb hnb
  have Fb := F₁.keeps hkb
  clear F₁ N₁ hkb hrb hnb
  k_steps
  subst hQ₂
  dsimp only
  have hca := labels_name m0 m1
  have hcb := labels_name m2 m3
  generalize labelsF (Int.fmod n 192) = came at hsa hca
  generalize labelsF (Int.fmod (Int.fdiv n 192) 192) = drawn at hsb hcb
  clear m0 m1 m2 m3
  have hza := znames_shape came (.tail _ hca)
  refine S_execs_cons (S_hide fun Q₂ hQ₂ => S_Assign (S_Call (K := hd.heap_39 w.params) (f := .ref 108) ?kf rfl ?_))
  case kf => exact rfl
  k_steps
  refine S_arg (S_of ?_)
  k_steps
  with_reducible rename Fr _ _ _ _ => F₁
  with_reducible rename News _ _ _ _ => N₁
  refine join_list (ys := came) ⟨_, (N₁ (ra, listOf va.toArray na) (by k_mem)).1, rfl, _, rfl⟩ (by simpa using hsa) (labs_join hza.1 hza.2.2) fun tj kj => ?_
  refine S_noarg ?_
  refine ⟨X'.keeps F₁.keep, ?_⟩
  k_dflt (refine' c_turnedJ (xs := came) ?k1 ?k2 ?k3 ?k4 ?k5 ?k6 ?k7 ?k8 hgd rfl hca ?_; (case k1 => k_asm); (case k2 => k_asm); (case k3 => k_asm); (case k4 => k_asm); (case k5 => k_asm); (case k6 => first | exact rfl | assumption); (case k7 => first | ktr_room | ((try dsimp only); omega)); (case k8 => first | ktr_units | ((try dsimp only); omega)))
  intro t₂ tk₂ h₂ hk₂
  have F₂ := F₁.keeps hk₂
  have N₂ := N_rot (N₁.grown hk₂)
  clear F₁ N₁ hk₂
  k_steps
  subst hQ₂
  dsimp only
  have qa1 := neN (hea _ (.tail _ (.tail _ (.tail _ (.head _)))))
  have qa2 := neN (hea _ (.tail _ (.tail _ (.tail _ (.tail _ (.head _))))))
  have qa3 := neN (hea _ (.tail _ (.tail _ (.tail _ (.tail _ (.tail _ (.head _)))))))
  have qb1 := neN (heb _ (.tail _ (.tail _ (.tail _ (.tail _ (.head _))))))
  have qb2 := neN (heb _ (.tail _ (.tail _ (.tail _ (.tail _ (.tail _ (.head _)))))))
  have qb3 := neN (heb _ (.tail _ (.tail _ (.tail _ (.tail _ (.tail _ (.tail _ (.head _))))))))
  dsimp only at qa1 qa2 qa3 qb1 qb2 qb3
  clear hea heb
  refine S_execs_cons (S_mono (Q := fun f s' => f = .next ∧ ∃ (o' : Obj) (kvs' : List (Str × Value)) (vs' zs' : List Value) (nr' nz' : Nat) (Z' : List (List Str)) (R' : List Str) (c1 c2 c3 : Obj) (h : Heap) (tk : Nat) (m9 : Str → Option Value),
    s' = { s with heap := h, toks := tk, gens := s.gens.push .finished } ∧ c1.data = .cell (some (.ref z)) ∧ c2.data = .cell (some (.ref d)) ∧ c3.data = .cell (some (.ref rw)) ∧ o'.IsDictOf (PySem.strKind prog w) kvs' ∧ Zone Z' R' kvs' ∧ StrsAre vs' R' ∧
    DatAll ((ra, listOf va.toArray na) :: nd) zs' (Z'.map labD) ∧ Z'.length ≤ Z.length + 1 ∧ kvs'.length ≤ kvs.length + 1 ∧ 2 ≤ Z'.length ∧ Fr g' L' h (fun y => if y = Str.ofString "turned" then some (.str (turnF came) t₂) else if y = Str.ofString "drawn" then some (.ref rb) else if y = Str.ofString "came" then some (.ref ra) else m9 y) ∧
    News g' L' h ((rw, listOf vs'.toArray nr') :: (d, o') :: (z, listOf zs'.toArray nz') :: (L' + 1 + 1 + 1, c1) :: (L' + 1 + 1, c2) :: (L' + 1, c3) :: (rb, listOf vb.toArray nb) :: (ra, listOf va.toArray na) :: news)) (E := fun _ _ => False) (S_of ?body) ?cont fun _ _ f => f)
  case body =>
    refine A_hide fun Q₃ hQ₃ => ?_
    k_with "compareOp NotIn" => refine Halt.mk ?_
    k_steps
    refine Halt.un ?_
    with_reducible rename Fr _ _ _ _ => F₁
    with_reducible rename News _ _ _ _ => N₁
    cases hv : valueAt kvs (turnF came) with
    | some v =>
      refine kdg_notin (knd := PySem.strKind _ _) N₁ (.tail _ (.head _)) hD lo (strKind_is _ _ _ _) true (by rw [hv]; rfl) ?_
      k_steps
      subst hQ₃
      with_reducible rename Fr _ _ _ _ => F₃
      with_reducible rename News _ _ _ _ => N₃
      refine ⟨rfl, o, kvs, vs, zs, nr, nz, Z, R, _, _, _, _, _, _, rfl, ?d1, ?d2, ?d3, hD, hZ, hR, hzd.mono (fun p hp => .tail _ hp), Nat.le_succ _, Nat.le_succ _, zone_two hZ (zone_has hZ (.tail _ hca) hv) hca, F₃, N₃⟩
      case d1 => assumption
      case d2 => assumption
      case d3 => assumption
    | none =>
      refine kdg_notin (knd := PySem.strKind _ _) N₁ (.tail _ (.head _)) hD lo (strKind_is _ _ _ _) false (by rw [hv]; rfl) ?_
      k_steps
      refine Halt.un ?_
      with_reducible rename Fr _ _ _ _ => F₃
      with_reducible rename News _ _ _ _ => N₃
      have hRl : R.length ≤ 100 := by rw [hZ.rlen]; omega
      k_dflt (refine' c_ins (xs := R) (k := placeN R (turnF came)) ?k1 ?k2 ?k3 N₃ ?k5 ?k6 ?k7 ?k8 hR hRl (place_le _ _) (place_lt hZ _) ?hne ?_; (case k1 => k_asm); (case k2 => k_asm); (case k3 => k_asm); (case k5 => k_asm); (case k6 => first | exact rfl | assumption); (case k7 => first | ktr_room | ((try dsimp only); omega)); (case k8 => first | ktr_units | ((try dsimp only); omega)))
      case hne => exact hne_all (Ne.symm ne1) (Ne.symm ne2) (neN (by dsimp only; omega)) (neN (by dsimp only; omega)) (neN (by dsimp only; omega)) (Ne.symm qb1) (Ne.symm qa1) fun p hp => (ne4 p hp).1
      intro h₄ tk₄ F₄ N₄
      clear F₃ N₃
      k_with "setItem ref str" => refine Halt.mk ?_
      k_with "call builtin:list.append" => refine Halt.mk ?_
      k_steps
      refine join_list (ys := came) ⟨_, (N₄ (ra, listOf va.toArray na) (by k_mem)).1, rfl, _, rfl⟩ (by simpa using hsa) (labs_join hza.1 hza.2.2) fun tj₂ kj₂ => ?_
      k_steps
      refine Halt.un ?_
      with_reducible rename Fr _ _ _ _ => F₅
      with_reducible rename News _ _ _ _ => N₅
      refine kda_set (knd := PySem.strKind _ _) F₅ (N_swap N₅) (UpdF.head (hne_all ne1 (Ne.symm ne3) (neN (by dsimp only; omega)) (neN (by dsimp only; omega)) (neN (by dsimp only; omega)) (Ne.symm qb2) (Ne.symm qa2) fun p hp => (ne4 p hp).2.1)) hD (strKind_is _ _ _ _) ?kz ?_
      case kz => rw [sizeLine_eq]; omega
      intro h₆ o₆ F₆ N₆ hD₆
      replace N₆ := N_third (N_swap N₆)
      clear F₅ N₅
      k_steps
      refine Halt.un ?_
      with_reducible rename Fr _ _ _ _ => F₇
      with_reducible rename News _ _ _ _ => N₇
      refine append_K F₇ N₇ (Upd.head (hne_all ne2 ne3 (neN (by dsimp only; omega)) (neN (by dsimp only; omega)) (neN (by dsimp only; omega)) (Ne.symm qb3) (Ne.symm qa3) fun p hp => (ne4 p hp).2.2)) (fun h₈ F₈ N₈ => ?_) ?ka
      case ka =>
        have := hzd.length
        rw [List.length_map] at this
        rw [sizeLine_eq, List.size_toArray]; omega
      replace N₈ := N_third' N₈
      clear F₇ N₇
      k_steps
      subst hQ₃
      refine ⟨rfl, o₆, _, _, zs ++ [.ref ra], _, _, Z ++ [came], _, _, _, _, _, _, _, rfl, ?d1, ?d2, ?d3, hD₆, zone_add hZ hca hv hZl tj₂, strs_ins hR _ _ _, ?dz, by simp, stored_len _ _ _, zone_two (zone_add hZ hca hv hZl tj₂) (List.mem_append_right _ (.head _)) hca, F₈, by simpa using N₈⟩
      case d1 => assumption
      case d2 => assumption
      case d3 => assumption
      case dz =>
        rw [List.map_append]
        exact (hzd.mono fun p hp => .tail _ hp).append (.one (.list (.head _) (strs_dat hsa)))
  case cont =>
    rintro f s' ⟨rfl, o', kvs', vs', zs', nr', nz', Z', R', c1, c2, c3, h, tk, m9, rfl, e1, e2, e3, hD', hZ', hR', hzd', hl1, hlk, hl2, F, N⟩
    dsimp only
    refine S_execs_cons (S_mono (Q := fun f s' => f = .next ∧ ∃ (D : Addr) (nD : Nat) (ws : List Value) (h : Heap) (tk : Nat), s' = { s with heap := h, toks := tk, gens := s.gens.push .finished } ∧ ws = (if 2 < came.length then va.drop 2 else va.drop 1) ∧
      Fr g' L' h (fun y => if y = Str.ofString "less" then some (.ref D) else if y = Str.ofString "turned" then some (.str (turnF came) t₂) else if y = Str.ofString "drawn" then some (.ref rb) else if y = Str.ofString "came" then some (.ref ra) else m9 y) ∧
      News g' L' h ((D, listOf ws.toArray nD) :: (rw, listOf vs'.toArray nr') :: (d, o') :: (z, listOf zs'.toArray nz') :: (L' + 1 + 1 + 1, c1) :: (L' + 1 + 1, c2) :: (L' + 1, c3) :: (rb, listOf vb.toArray nb) :: (ra, listOf va.toArray na) :: news)) (E := fun _ _ => False) (S_of ?body) ?cont fun _ _ f => f)
    case body =>
      refine A_hide fun Q₃ hQ₃ => ?_
      k_with "subscriptTail Name Slice ref ref" => refine Halt.mk ?_
      have hval := hsa.length
      have hcl := hza.2.2
      have hvl4 : va.length ≤ 4 := by omega
      k_steps
      refine PySem.Calls.call_len_list (News.isList N (by k_mem)) (by simp; omega) ?_
      simp only [List.size_toArray]
      k_steps
      · refine Halt.un ?_
        with_reducible rename Fr _ _ _ _ => F₁
        with_reducible rename News _ _ _ _ => N₁
        refine' kmk_slice_lit (its := va.toArray) (lo := some ((2 : Nat) : Int)) (hi := none) (zs := va.drop 2) F₁ N₁ ⟨_, (N₁ (ra, listOf va.toArray na) (by k_mem)).1, rfl, _, rfl⟩ ?p1 ?p2 ?p3 ?_ ?p4 ?p5 ?p6
        case p1 => exact .int _ _
        case p2 => exact .none
        case p3 => rw [slicePick_from']
        case p4 => rfl
        case p5 => intro r; rfl
        case p6 => rw [sizeLine_eq, List.size_toArray]; omega
        intro D₂ h₂ F₂ N₂ hD₂
        clear F₁ N₁ hD₂
        k_steps
        subst hQ₃
        with_reducible rename Fr _ _ _ _ => F₁
        with_reducible rename News _ _ _ _ => N₁
        exact ⟨rfl, D₂, _, _, _, _, rfl, by rw [if_pos (by omega)], F₁, N₁⟩
      · refine Halt.un ?_
        with_reducible rename Fr _ _ _ _ => F₁
        with_reducible rename News _ _ _ _ => N₁
        refine' kmk_slice_lit (its := va.toArray) (lo := some ((1 : Nat) : Int)) (hi := none) (zs := va.drop 1) F₁ N₁ ⟨_, (N₁ (ra, listOf va.toArray na) (by k_mem)).1, rfl, _, rfl⟩ ?p1 ?p2 ?p3 ?_ ?p4 ?p5 ?p6
        case p1 => exact .int _ _
        case p2 => exact .none
        case p3 => rw [slicePick_from']
        case p4 => rfl
        case p5 => intro r; rfl
        case p6 => rw [sizeLine_eq, List.size_toArray]; omega
        intro D₂ h₂ F₂ N₂ hD₂
        clear F₁ N₁ hD₂
        k_steps
        subst hQ₃
        with_reducible rename Fr _ _ _ _ => F₁
        with_reducible rename News _ _ _ _ => N₁
        exact ⟨rfl, D₂, _, _, _, _, rfl, by rw [if_neg (by omega)], F₁, N₁⟩
    case cont =>
      rintro f s' ⟨rfl, D, nD, ws, h₁, tk₁, rfl, hws, F₁, N₁⟩
      dsimp only
      have hval := hsa.length
      have hcl := hza.2.2
      have hvl4 : va.length ≤ 4 := by omega
      have hwS : StrsAre ws (if 2 < came.length then came.drop 2 else came.drop 1) := by
        rw [hws]
        split
        · exact strs_drop hsa 2
        · exact strs_drop hsa 1
      have hwl : ws.length ≤ 4 := by
        rw [hws]
        split <;> rw [List.length_drop] <;> omega
      clear F N
      refine S_execs_cons (S_of (A_hide fun Q₃ hQ₃ => ?_))
      k_with "newList" => refine Halt.mk ?_
      k_steps
      refine Halt.un ?_
      refine newList_K F₁ N₁ ?_
      intro lb h₂ F₂ N₂ lb1
      clear F₁ N₁ lb1
      k_steps
      refine Halt.un ?_
      refine' kmk_slice_lit (its := va.toArray) (lo := some ((1 : Nat) : Int)) (hi := none) (zs := va.drop 1) F₂ N₂ ⟨_, (N₂ (ra, listOf va.toArray na) (by k_mem)).1, rfl, _, rfl⟩ ?p1 ?p2 ?p3 ?_ ?p4 ?p5 ?p6
      case p1 => exact .int _ _
      case p2 => exact .none
      case p3 => rw [slicePick_from']
      case p4 => rfl
      case p5 => intro r; rfl
      case p6 => rw [sizeLine_eq, List.size_toArray]; omega
      intro D₂ h₃ F₃ N₃ hD₂
      clear F₂ N₂ hD₂
      k_with "binaryOp Add ref ref" => refine Halt.mk ?_
      k_steps
      refine Halt.un ?_
      refine kmk_add_lit F₃ N₃ (News.isList N₃ (.tail _ (.head _))) (News.isList N₃ (.head _)) (zs := _ :: va.drop 1) rfl ?_ ?hz1
      case hz1 => rw [sizeLine_eq]; simp; omega
      intro D₅ h₄ F₄ N₄ hD₅
      clear F₃ N₃ hD₅
      k_steps
      refine Halt.un ?_
      refine newList_K F₄ N₄ ?_
      intro lc h₅ F₅ N₅ lc1
      clear F₄ N₄ lc1
      k_steps
      refine Halt.un ?_
      refine kmk_add_lit F₅ N₅ (News.isList N₅ (.head _)) (News.isList N₅ (.tail _ (.tail _ (.tail _ (.tail _ (.head _)))))) (zs := _ :: ws) rfl ?_ ?hz2
      case hz2 => rw [sizeLine_eq]; simp; omega
      intro D₆ h₆ F₆ N₆ hD₆
      clear F₅ N₅ hD₆
      k_steps
      refine Halt.un ?_
      refine newList_K F₆ N₆ ?_
      intro lA h₇ F₇ N₇ lA1
      clear F₆ N₆ lA1
      k_steps
      subst hQ₃
      dsimp only
      with_reducible rename Fr _ _ _ _ => F₈
      with_reducible rename News _ _ _ _ => N₈
      have hAt := asked_at (Z := Z') (r1 := rb) (r2 := D₅) (r3 := D₆) N₈ (by k_mem) (.tail _ (.tail _ (.tail _ (.head _)))) (.tail _ (.head _)) hsb (StrsAre.cons (Str.ofString "b") _ (strs_drop hsa 1)) (StrsAre.cons (Str.ofString "ab") _ hwS) hcb (asked_b came hca) (asked_ab came hca)
      refine S_execs_cons (S_hide fun Q₃ hQ₃ => ?_)
      refine S_Assign_ListComp_dats (l := lA) (vs := [.ref rb, .ref D₅, .ref D₆]) (nn := 0) (cl := [(Str.ofString "row", L' + 1), (Str.ofString "names", L' + 1 + 1)]) (ds := [drawn, Str.ofString "b" :: came.drop 1, Str.ofString "ab" :: (if 2 < came.length then came.drop 2 else came.drop 1)].map fun xs => resD (dueF Z' xs))
        rfl (wpAny_Name (wpAny_loadName_local rfl rfl F₈.ns rfl ⟨rfl, rfl⟩)) (fun _ => rfl) rfl (by decide) rfl rfl rfl (.head _) rfl rfl (by decide) rfl (by simp) F₈ N₈ ?ok ?done
      case ok =>
        intro i v dd C mC h₉ tk₉ g₉ own hv hd₉ hns hm F₉ N₉ hg₉
        obtain ⟨la, us, nl, xs, rfl, hla, hus, hxs, rfl⟩ := hAt i v dd hv hd₉
        have hxl := znames_shape xs (.tail _ hxs)
        have Nw : News g' L' h₉ [(L' + 1 + 1 + 1, c1), (L' + 1 + 1, c2), (L' + 1, c3), (la, listOf us.toArray nl)] := fun p hp => N₉ p (List.mem_append_right _ (by
          simp only [List.mem_cons, List.not_mem_nil, or_false] at hp
          rcases hp with rfl | rfl | rfl | rfl
          · k_mem
          · k_mem
          · k_mem
          · exact hla))
        have kN : Halt (News _ _ _ _) := N₉
        clear N₉ N₈
        refine S_Call (K := hd.heap_39 w.params) (f := .ref 120) ?kf rfl ?_
        case kf => exact rfl
        k_steps
        refine S_arg (S_of ?_)
        k_steps
        refine S_arg (S_of ?_)
        k_steps
        refine S_arg (S_of ?_)
        k_steps
        refine join_list (ys := xs) ⟨_, (Nw (la, listOf us.toArray nl) (by k_mem)).1, rfl, _, rfl⟩ (by simpa using hus) (labs_join hxl.1 hxl.2.2) fun tj kj => ?_
        refine S_noarg ?_
        refine ⟨X'.keeps F₉.keep, ?_⟩
        k_dflt (refine' c_servedG (xs := xs) (Z := Z') (o := o') (vs := vs') (nr := nr') ?k1 ?k2 ?k3 kN ?k5 ?k6 ?k7 ?k8 hgd (List.mem_append_right _ ?m1) (List.mem_append_right _ ?m2) hD' lo hZ' hR' hxs rfl ?_; (case k1 => k_asm); (case k2 => k_asm); (case k3 => k_asm); (case k5 => k_asm); (case k6 => first | exact rfl | assumption); (case k7 => first | ktr_room | ((try dsimp only); omega)); (case k8 => first | ktr_units | ((try dsimp only); omega)); (case m1 => k_mem); (case m2 => k_mem))
        intro r vt rws nn hh tkk gg hgg ha' hb' Fh Nh
        exact ⟨r, vt, rws, nn, hh, tkk, gg, rfl, rfl, hgg, Fh, Nh, (opt_dat (news := []) ha').2, res_dat ha' hb'⟩
      case done =>
        intro h₉ tk₉ g₉ ys₁ n₁ own₁ D₇ N₉ F₉ hd₁ hg₁
        subst hQ₃
        dsimp only
        refine S_execs_cons (S_hide fun Q₃ hQ₃ => S_Return (S_Compare1 (wpAny_Name (wpAny_loadName_local rfl rfl F₉.ns rfl ?_))))
        refine S_ListComp_dats (l := lA) (vs := [.ref rb, .ref D₅, .ref D₆]) (nn := 0) (cl := [(Str.ofString "zone", L' + 1 + 1 + 1)]) (ds := [drawn, Str.ofString "b" :: came.drop 1, Str.ofString "ab" :: (if 2 < came.length then came.drop 2 else came.drop 1)].map fun xs => resD (dueF Z' xs))
          (wpAny_Name (wpAny_loadName_local rfl rfl F₉.ns rfl ⟨rfl, rfl⟩)) (fun _ => rfl) rfl (by decide) rfl (.tail _ (List.mem_append_right _ (.head _))) rfl rfl (by decide) rfl (by simp) F₉ N₉ ?ok2 ?done2
        case ok2 =>
          intro i v dd C mC h₁ tk₁ g₁ own hv hd₂ hns hm F₁ N₁ hg₂
          obtain ⟨la, us, nl, xs, rfl, hla, hus, hxs, rfl⟩ := hAt i v dd hv hd₂
          have Nw : News g' L' h₁ [(L' + 1 + 1 + 1, c1), (la, listOf us.toArray nl)] := fun p hp => N₁ p (List.mem_append_right _ (.tail _ (List.mem_append_right _ (by
            simp only [List.mem_cons, List.not_mem_nil, or_false] at hp
            rcases hp with rfl | rfl
            · k_mem
            · exact hla))))
          have kN : Halt (News _ _ _ _) := N₁
          clear N₁ N₉ N₈
          refine S_of ?_
          k_steps
          refine Halt.un ?_
          k_dflt (refine' c_dueG (xs := xs) (Z := Z') (zs := zs') (nz := nz') (vs := us) (nl := nl) ?k1 ?k2 ?k3 kN ?k5 ?k6 ?k7 ?k8 (List.mem_append_right _ (.tail _ (List.mem_append_right _ ?m1))) (List.mem_append_right _ (.tail _ (List.mem_append_right _ hla))) (hzd'.mono ?m2) hus hxs hZ' ?_; (case k1 => k_asm); (case k2 => k_asm); (case k3 => k_asm); (case k5 => k_asm); (case k6 => first | exact rfl | assumption); (case k7 => first | ktr_room | ((try dsimp only); omega)); (case k8 => first | ktr_units | ((try dsimp only); omega)); (case m1 => k_mem))
          case m2 =>
            intro p hp
            refine List.mem_append_right _ (.tail _ (List.mem_append_right _ ?_))
            iterate 14 refine List.Mem.tail _ ?_
            exact (List.mem_cons.mp hp).elim (fun e => e ▸ .head _) fun q => .tail _ (hnd p q)
          intro r vt rws nn hh tkk ha' hb' Fh Nh
          refine (show EltPost g' L' _ _ _ _ _ _ from ⟨r, vt, rws, nn, hh, tkk, g₁, rfl, rfl, .refl, Fh, Nh, (opt_dat (news := []) ha').2, res_dat ha' hb'⟩)
        case done2 =>
          intro h₁ tk₁ g₁ ys₂ n₂ own₂ D₈ N₁ F₁ hd₂ hg₂
          refine kqd_eq (n₁ := own₁) (n₂ := own₂) N₁ (.tail _ (List.mem_append_right _ (.head _))) rfl rfl hd₁ (fun p hp => .tail _ (List.mem_append_right _ (.tail _ (List.mem_append_left _ hp)))) (.head _) rfl rfl hd₂ (fun p hp => .tail _ (List.mem_append_left _ hp)) ?a1 ?a1 ?a2 ?_
          case a1 => exact asked_ok (fun D hD h1 => root_owned hZ' hD h1) hcb (asked_b came hca) (asked_ab came hca)
          case a2 => ke_room
          rw [dec_self]
          subst hQ₃
          dsimp only
          have Nf : News g' L' h₁ ((rw, listOf vs'.toArray nr') :: (d, o') :: (z, listOf zs'.toArray nz') :: (ra, listOf va.toArray na) :: news) := fun p hp => N₁ p (.tail _ (List.mem_append_right _ (.tail _ (List.mem_append_right _ (by
            simp only [List.mem_cons] at hp ⊢
            rcases hp with e | e | e | e | e <;> simp [e])))))
          clear N₁ N₉ N₈ F₉ F₈ hd₁ hd₂
          k_steps
          with_reducible rename News _ _ _ _ => kN
          with_reducible rename Fr _ _ _ _ => kF
          exact hret o' kvs' vs' zs' nr' nz' Z' R' [(ra, listOf va.toArray na)] _ _ _ ((MoreG.push .refl).trans (hg₁.trans hg₂)) hD' hZ' hR' hzd' hl1 hlk hl2 (fun p hp => by rw [List.mem_singleton.mp hp]; exact ⟨⟨Ne.symm qa1, Ne.symm qa2, Ne.symm qa3⟩, _, _, rfl⟩) kF kN
end
end Mine
end
section -- L0
open PySem PySem.W PyProof.Rows PySem.Calls PyProof.V
namespace Mine
theorem S_enter {M : Model} {A : Around} {s : Shared} {f : Value} {pos : List Value} {c : ClaimW} {cl : Str → Option Addr} {mean : ExcName → Option Value} {args : List WData} {s₁ : Shared}
    (h : codeS M A (.call f ⟨pos, []⟩) (GoodWG c cl mean args s₁) s) : wpS M A (PySem.call f pos) (fun v s' => GoodWG c cl mean args s₁ (.ok (.ret v)) s') (fun e s' => GoodWG c cl mean args s₁ (.error e) s') s :=
  S_call (codeS_mono h fun r s' g => by
    rcases g.1 with ⟨v, _, _, rfl, _⟩ | ⟨e, _, _, rfl, _⟩
    · exact g
    · exact g)
section
variable {prog : Program} {w : World} {A : Around} {R : Result → Shared → Prop} {s : Shared}
theorem code_lawS {name : Str} {params : Arguments} {body : List Stmt} {scope : Scope} {pm cd doc : Value} {a : Addr} {o : Obj} {args : List Value} {binds : List (Str × Value)}
    (hroom : A.depth < recursionLimit) (ho : s.heap.get? a = some o) (hdata : o.data = .func (Calls.docDef name params body scope pm cd doc)) (hlim : s.heap.NoLimit) (hcd : s.heap.CodeRec cd name)
    (hbind : bindArgs (Calls.docDef name params body scope pm cd doc) ⟨args, []⟩ = pure binds)
    (hkind : (binds.all fun y => scope.names.lookup y.1 == some .local || scope.names.lookup y.1 == some .cell) = true) (hnd : ((cellsFrom 0 scope.names []).map (·.1)).Nodup)
    (h : ∀ h₁ tk cells, Fr s.heap s.heap.objs.size h₁ (bindL (envOfC name scope s.heap.objs.size a cd).kindOf binds fun _ => none) → News s.heap s.heap.objs.size h₁ cells →
      CellsAre (bindC (envOfC name scope s.heap.objs.size a cd).kindOf binds fun _ => none) (cellsFrom (s.heap.objs.size + 1) scope.names []) cells →
      wpS (model prog w) (A.deeper (envOfC name scope s.heap.objs.size a cd)) (execs body (envOfC name scope s.heap.objs.size a cd))
        (fun f s' => R (.ok (.ret (match f with | .ret v => v | _ => .none))) s') (fun _ _ => False) { s with heap := h₁, toks := tk })
    (hco : scope.isCoroutine = false := by rfl) (hgen : scope.isGenerator = false := by rfl) (hk : scope.kind = .function := by rfl) : codeS (model prog w) A (.call (.ref a) ⟨args, []⟩) R s := by
  refine codeS_call_function hroom ho hdata hco hgen rfl hcd (wpAny_of_eq hbind ?_)
  refine wpAny_newFunctionEnv_cells hk (kindsX hkind _) fun env' he s' x => ?_
  subst he
  refine ⟨hlim.keeps x.toInCall.keep, codeS_func ?_⟩
  obtain ⟨h₁, tk, rfl, _⟩ := x.done
  obtain ⟨cells, NC, Y⟩ := Cl.news (h₀ := s.heap) (Nat.le_refl _) fun n c hm => ⟨x.cell n c (lookup_of_mem_nodup (cellsFrom_names scope.names 0 (s.heap.objs.size + 1) [] [] rfl ▸ hnd) hm), x.above n c hm⟩
  exact h h₁ tk cells ⟨x.toInCall.ns, x.toInCall.keep, x.toInCall.fresh⟩ NC Y
end
theorem forS_up {M : Model} {A : Around} {c : Code} {R : Result → Shared → Prop} {n : Nat} (P : Nat → Shared → Prop) (step : ∀ i s, P i s → i < n → (∀ s', P (i + 1) s' → codeS M A c R s') → codeS M A c R s) (last : ∀ s, P n s → codeS M A c R s) :
    ∀ k i s, i + k = n → P i s → codeS M A c R s := by
  intro k
  induction k with
  | zero => intro i s hi hp; have e : i = n := by omega
            subst e; exact last s hp
  | succ k ih => intro i s hi hp; exact step i s hp (by omega) fun s' hp' => ih (i + 1) s' (by omega) hp'
section
variable {prog : Program} {w : World} {A : Around} {E : Value → Shared → Prop} {s : Shared} {env : Env} {h₀ : Heap} {x : Str} {body : List Stmt} {Q : Flow → Shared → Prop}
/-- a for over a list of the ledger whose turns are tainted and turn the ledger's first part -/
theorem forS_list {l : Addr} {vs : List Value} {nn : Nat} {led₀ base : List (Addr × Obj)} {m₀ : Str → Option Value} {px : Pos} (J : Nat → List (Addr × Obj) → Prop) (hh : A.handled = none) (hx : env.kindOf x = some .local)
    (hp : (env.scope.kind == .class || (env.scope.kind == .module && env.locals != env.globals)) = false) (hl : (l, listOf vs.toArray nn) ∈ base) (F : Fr h₀ env.locals s.heap m₀) (N : News h₀ env.locals s.heap (led₀ ++ base)) (hj : J 0 led₀)
    (hJ : ∀ i led, J i led → ∀ p ∈ led, ∀ (l' : Addr) (k : Int) (t : Tok), p.2.data ≠ .fields #[.ref l', .int k t])
    (turn : ∀ i v h tk g led I oI u, vs[i]? = some v → J i led → MoreG s.gens g → I ≠ l → (∀ p ∈ led ++ base, p.1 ≠ I) → (∃ k, oI.data = .fields #[.ref l, .int k 0]) → Fr h₀ env.locals h (fun y => if y = x then some v else if y = x then u else m₀ y) → News h₀ env.locals h (led ++ ((I, oI) :: base)) →
      wpS (model prog w) A (execs body env) (fun f s₃ => f = .next ∧ ∃ led' h' tk' g', s₃ = { s with heap := h', toks := tk', gens := g' } ∧ MoreG s.gens g' ∧ J (i + 1) led' ∧ Fr h₀ env.locals h' (fun y => if y = x then some v else if y = x then u else m₀ y) ∧
        News h₀ env.locals h' (led' ++ ((I, oI) :: base))) (fun _ _ => False) { s with heap := h, toks := tk, gens := g })
    (done : ∀ h tk g u led, J vs.length led → MoreG s.gens g → Fr h₀ env.locals h (fun y => if y = x then u else m₀ y) → News h₀ env.locals h (led ++ base) → Q .next { s with heap := h, toks := tk, gens := g }) :
    wpAny (model prog w) A (pyIter (.ref l)) (fun it s₂ => codeS (model prog w) A (.forLoop (.Name x px) it body [] env) (fun r s' => match r with | .ok f => Q f s' | .error _ => False) s₂) (fun _ _ => False) s := by
  have hbl : (l, listOf vs.toArray nn) ∈ led₀ ++ base := List.mem_append_right _ hl
  refine wpAny_pyIter_list ⟨_, (N _ hbl).1, rfl, nn, rfl⟩ ?_
  have hIL : s.heap.objs.size ≠ env.locals := Ne.symm (Nat.ne_of_lt F.ns.lt)
  have hI0 : h₀.get? s.heap.objs.size = none := Heap.get?_none_of_le (Nat.le_trans F.above (Nat.le_of_lt F.ns.lt))
  have hb : ∀ p ∈ base, p.1 ≠ s.heap.objs.size := fun p hp => Nat.ne_of_lt (Heap.lt_size (N p (List.mem_append_right _ hp)).1)
  have hlI : s.heap.objs.size ≠ l := Ne.symm (hb _ hl)
  have hit0 : (s.heap.push { cls := .type "list_iterator", data := .fields #[.ref l, .int 0 0] }).IsListIter s.heap.objs.size l 0 := ⟨_, Heap.get?_push_size _ rfl, rfl, rfl⟩
  generalize s.heap.objs.size = I at hIL hI0 hb hlI hit0
  have apart : ∀ {i : Nat} {led : List (Addr × Obj)} {h : Heap} {k : Nat}, J i led → h.IsListIter I l k → News h₀ env.locals h (led ++ base) → ∀ p ∈ led ++ base, p.1 ≠ I := by
    intro i led h k hJi hit N p hp e
    rcases List.mem_append.mp hp with hp' | hp'
    · obtain ⟨o, ho, _, hd⟩ := hit
      have h1 := (N p hp).1
      rw [e, ho] at h1
      cases h1
      exact hJ i led hJi p hp' _ _ _ hd
    · exact hb p hp' e
  refine forS_up (n := vs.length) (fun i s' => ∃ h tk g led u, s' = { s with heap := h, toks := tk, gens := g } ∧ J i led ∧ MoreG s.gens g ∧ h.IsListIter I l i ∧ Fr h₀ env.locals h (fun y => if y = x then u else m₀ y) ∧ News h₀ env.locals h (led ++ base)) ?_ ?_ vs.length 0 _ (by omega) ?_
  · rintro i s' ⟨h, tk, g, led, u, rfl, hJi, hg, hit, F, N⟩ hi ih
    have hll : (l, listOf vs.toArray nn) ∈ led ++ base := List.mem_append_right _ hl
    obtain ⟨v, hv⟩ : ∃ v, vs[i]? = some v := ⟨vs[i], List.getElem?_eq_getElem hi⟩
    have hap := apart hJi hit N
    refine codeS_forTurnR (wpAny_pyNext_list_item hit ⟨_, (N _ hll).1, rfl, nn, rfl⟩ (x := v) (by simpa using hv) fun h' hit' hs => ?_)
    have F' : Fr h₀ env.locals h' (fun y => if y = x then u else m₀ y) := ⟨F.ns.sameBut hs (Ne.symm hIL), fun b o e => (hs.2 b (fun q => by rw [q, hI0] at e; cases e)).trans (F.keep b o e), F.above⟩
    refine wpAny_storeName_local hx F'.ns (fun h2 hns2 hsb2 => ?_) hp
    have hL0 : h₀.get? env.locals = none := Heap.get?_none_of_le F.above
    have F2 : Fr h₀ env.locals h2 (fun y => if y = x then some v else if y = x then u else m₀ y) := ⟨hns2, fun b o e => (hsb2.2 b (fun q => by rw [q, hL0] at e; cases e)).trans (F'.keep b o e), F'.above⟩
    obtain ⟨oI, hoI, hcI, hdI⟩ := hit'
    have hoI2 : h2.get? I = some oI := (hsb2.2 I hIL).trans hoI
    refine S_mono (turn i v h2 _ g led I oI u hv hJi hg hlI hap ⟨_, hdI⟩ F2 fun p hp => ?_) (fun f s₃ hf => ?_) fun _ _ f => f
    · rcases List.mem_append.mp hp with hp | hp
      · have hp' : p ∈ led ++ base := List.mem_append_left _ hp
        exact ⟨(hsb2.2 p.1 (N p hp').2.1).trans ((hs.2 p.1 (hap p hp')).trans (N p hp').1), (N p hp').2⟩
      · rcases List.mem_cons.mp hp with rfl | hp
        · exact ⟨hoI2, hIL, hI0⟩
        · have hp' : p ∈ led ++ base := List.mem_append_right _ hp
          exact ⟨(hsb2.2 p.1 (N p hp').2.1).trans ((hs.2 p.1 (hap p hp')).trans (N p hp').1), (N p hp').2⟩
    · obtain ⟨rfl, led', h3, tk3, g3, rfl, hg3, hJ3, F3, N3⟩ := hf
      have e : (fun y => if y = x then some v else if y = x then u else m₀ y) = fun y => if y = x then some v else m₀ y := by
        funext y
        by_cases e1 : y = x <;> simp [e1]
      exact ih _ ⟨h3, tk3, g3, led', some v, rfl, hJ3, hg3, ⟨oI, (N3 _ (List.mem_append_right _ (.head _))).1, hcI, hdI⟩, e ▸ F3, fun p hp => N3 p ((List.mem_append.mp hp).elim (List.mem_append_left _) fun q => List.mem_append_right _ (.tail _ q))⟩
  · rintro s' ⟨h, tk, g, led, u, rfl, hJi, hg, hit, F, N⟩
    have hll : (l, listOf vs.toArray nn) ∈ led ++ base := List.mem_append_right _ hl
    have hap := apart hJi hit N
    refine codeS_forTurnR (wpAny_pyNext_list_end hh hit ⟨_, (N _ hll).1, rfl, nn, rfl⟩ (by simp) fun h' hs => ?_)
    exact done h' tk g u led hJi hg ⟨F.ns.extBut hs (Ne.symm hIL), fun b o e => hs b o (fun q => by rw [q, hI0] at e; cases e) (F.keep b o e), F.above⟩ fun p hp => ⟨hs p.1 _ (hap p hp) (N p hp).1, (N p hp).2⟩
  · have e : (fun y => if y = x then m₀ x else m₀ y) = m₀ := by
      funext y
      by_cases e1 : y = x <;> simp [e1]
    exact ⟨_, s.toks, s.gens, led₀, m₀ x, rfl, hj, .refl, hit0, e.symm ▸ F.push _, fun p hp => ⟨Heap.get?_push_of_some _ (N p hp).1, (N p hp).2⟩⟩
end
/-- the law's state between two turns -/
noncomputable def LawJ (prog : Program) (w : World) (rw d z : Addr) (e : Addr × Obj) (i : Nat) (led : List (Addr × Obj)) : Prop :=
  ∃ (o : Obj) (kvs : List (Str × Value)) (vs zs : List Value) (nr nz : Nat) (Z : List (List Str)) (R : List Str) (own : List (Addr × Obj)), led = (rw, listOf vs.toArray nr) :: (d, o) :: (z, listOf zs.toArray nz) :: own ∧ o.IsDictOf (PySem.strKind prog w) kvs ∧ Zone Z R kvs ∧ StrsAre vs R ∧
    DatAll (own ++ [e]) zs (Z.map labD) ∧ Z.length ≤ i + 1 ∧ kvs.length ≤ i + 1 ∧ (1 ≤ i → 2 ≤ Z.length) ∧ ∀ p ∈ own, (p.1 ≠ rw ∧ p.1 ≠ d ∧ p.1 ≠ z) ∧ ∃ va na, p.2 = listOf va na
theorem lawJ_apart {prog : Program} {w : World} {rw d z : Addr} {e : Addr × Obj} {i : Nat} {led : List (Addr × Obj)} (h : LawJ prog w rw d z e i led) : ∀ p ∈ led, ∀ (l' : Addr) (k : Int) (t : Tok), p.2.data ≠ .fields #[.ref l', .int k t] := by
  obtain ⟨o, kvs, vs, zs, nr, nz, Z, R, own, rfl, hD, _, _, _, _, _, _, ho⟩ := h
  intro p hp l' k t q
  rcases List.mem_cons.mp hp with rfl | hp
  · simp [PySem.W.listOf] at q
  · rcases List.mem_cons.mp hp with rfl | hp
    · obtain ⟨es, ep, h2⟩ := hD
      have : o.data = .dict es ep := h2.2.1
      rw [this] at q; cases q
    · rcases List.mem_cons.mp hp with rfl | hp
      · simp [PySem.W.listOf] at q
      · obtain ⟨_, va, na, e⟩ := ho p hp
        rw [e] at q
        simp [PySem.W.listOf] at q
theorem zone_start (t : Tok) : Zone [[labLoc]] [Str.ofString ".local"] [(Str.ofString ".local", Value.str (Str.ofString "local") t)] := by
  have e1 : turnF [labLoc] = Str.ofString ".local" := by decide +kernel
  have e2 : joinF [labLoc] = Str.ofString "local" := by decide +kernel
  refine ⟨fun z hz => by rw [List.mem_singleton.mp hz]; exact .head _, .head _, by decide, rfl, .cons (fun _ h => nomatch h) .nil, fun r => ?_, fun z hz => ?_, fun k v h => ?_⟩
  · constructor
    · intro h; exact ⟨_, .head _, (List.mem_singleton.mp h).trans e1.symm⟩
    · rintro ⟨z, hz, rfl⟩
      rw [List.mem_singleton.mp hz, e1]
      exact .head _
  · rw [List.mem_singleton.mp hz, e1, e2]
    exact ⟨t, by simp [valueAt]⟩
  · unfold valueAt at h
    by_cases hk : Str.ofString ".local" = k
    · exact hk ▸ .head _
    · simp [hk] at h
theorem ints_get : ∀ {us : List Value} {ns : List Int}, IntsAre us ns → ∀ {i : Nat} {v : Value}, us[i]? = some v → ∃ n t, v = .int n t
  | _, _, .nil, i, v, h => by simp at h
  | _, _, .cons n t h, i, v, e => by
    cases i with
    | zero => simp at e; exact ⟨n, t, e.symm⟩
    | succ i => exact ints_get h (i := i) (by simpa using e)
theorem ints_three {us : List Value} {ns : List Int} {a b c : Int} (h : IntsAre us (List.take 4 ns ++ List.drop (Int.toNat ((ns.length : Nat) : Int)) [a, b, c])) : 3 ≤ us.length ∧ us.length ≤ 4 := by
  have := h.length
  rw [List.length_append, List.length_take, List.length_drop] at this
  simp only [List.length_cons, List.length_nil, Int.toNat_natCast] at this
  omega
/-- the end: True comes back -/
theorem end_true {c : ClaimW} {cl : Str → Option Addr} {mean : ExcName → Option Value} {args : List WData} {s₁ s' : Shared} {tabs : List (Addr × Addr)} (hT : TabsAt tabs s₁.heap) (hn : ∀ a x, c.raises a x = false) (hk : ∀ b o, (ghostOf s₁.heap tabs).get? b = some o → s'.heap.get? b = some o)
    (hgr : ∀ q ∈ tabs, ∃ ps, s'.heap.get? q.2 = some (tabObj ps)) (hos : s'.os = s₁.os) (hg : AllBare s'.gens) (hp : c.post args (.bool true) args = true) : GoodWG c cl mean args s₁ (.ok (.ret (.bool true))) s' := by
  refine ⟨.inl ⟨_, _, _, rfl, hn args, .bool true, hp, fun _ => ⟨.nil, fun _ h => nomatch h⟩⟩, ⟨fun b o e => ?_, fun b o e => ?_⟩, hos, hg⟩
  · by_cases hb : b ∈ tabs.map (·.2)
    · obtain ⟨q, hq, rfl⟩ := List.mem_map.mp hb
      obtain ⟨ps, hps⟩ := hgr q hq
      have h0 := hT q hq
      rw [h0.2] at e
      cases e
      exact .inr (.inl ⟨(h0.1.tab h0.2).isCodeTable, rfl, #[], ps, rfl, by simpa using hps⟩)
    · exact .inl (hk b o (ghost_ne e hb))
  · by_cases hb : b ∈ tabs.map (·.2)
    · obtain ⟨q, hq, rfl⟩ := List.mem_map.mp hb
      obtain ⟨ps, hps⟩ := hgr q hq
      exact ⟨_, hps⟩
    · exact ⟨o, hk b o (ghost_ne e hb)⟩
theorem MoreG.bare {g g' : Array GenState} (h : MoreG g g') (hg : AllBare g) : AllBare g' := by
  induction h with
  | refl => exact hg
  | push _ ih =>
    intro y hy
    rcases Array.mem_push.mp hy with hy | rfl
    · exact ih y hy
    · rfl
end Mine
end
section -- W1
open PySem PySem.W PyProof.Rows PySem.Calls PyProof.V
open AutoSeq1 (wpAny_loadPart')
open MeetsSeq MeetsSeq3
namespace Mine
/-- '<' of two lists of texts -/
noncomputable def ltF : List Str → List Str → Bool
  | [], [] => false
  | [], _ :: _ => true
  | _ :: _, [] => false
  | x :: xs, y :: ys => if x = y then ltF xs ys else decide (x.cps.toList < y.cps.toList)
theorem strs_cut : ∀ {us : List Value} {xs : List Str}, StrsAre us xs → ∀ (i : Nat), (i < xs.length → ∃ x t, xs.drop i = x :: xs.drop (i + 1) ∧ us[i]? = some (.str x t)) ∧ (xs.length ≤ i → us[i]? = none)
  | _, _, .nil, i => ⟨fun h => absurd h (Nat.not_lt_zero _), fun _ => by simp⟩
  | _, _, .cons x t h, 0 => ⟨fun _ => ⟨x, t, rfl, rfl⟩, fun h => absurd h (by simp)⟩
  | _, _, .cons _ _ h, i + 1 => ⟨fun e => by
      obtain ⟨x, t, e1, e2⟩ := (strs_cut h i).1 (by simpa using e)
      exact ⟨x, t, by simpa using e1, by simpa using e2⟩, fun e => by
      simpa using (strs_cut h i).2 (by simpa using e)⟩
theorem strs_size {us : List Value} {xs : List Str} (h : StrsAre us xs) : us.toArray.size = xs.length := by rw [List.size_toArray, h.length]
theorem lt_loop (l b : Addr) {us vs : List Value} {xs ys : List Str} (n n2 : Nat) (hu : StrsAre us xs) (hv : StrsAre vs ys) (k : Nat) :
    ∀ i : Nat, i ≤ xs.length → i ≤ ys.length → xs.length - i = k → Meets (Builtin.«list.__eq__.loop» ⟨[.ref l, .ref b, rawInt i, rawInt 0], []⟩)
      (fun _ R s => s.heap.get? l = some { cls := .type "list", dict := none, data := .seq us.toArray n, slots := #[] } ∧ s.heap.get? b = some { cls := .type "list", dict := none, data := .seq vs.toArray n2, slots := #[] } ∧
        R (.ok (.ret (.bool (ltF (xs.drop i) (ys.drop i))))) s) := by
  induction k with
  | zero =>
    intro i hix hiy hk prog w A R s h
    obtain ⟨hp, g, d, tk, os⟩ := s; obtain ⟨hl, hb, h⟩ := h
    wp_walk using wpAny_loadPart' hl, wpAny_loadPart' hb
    have hi1 : us.toArray[((i : Nat) : Int).toNat]? = none := by
      simpa using (strs_cut hu i).2 (by omega)
    have hd : xs.drop i = [] := by simp; omega
    rw [hd] at h
    rw [hi1]
    have fin : R (.ok (.ret (.bool (decide (us.toArray.size < vs.toArray.size))))) { heap := hp, gens := g, drawn := d, toks := tk, os := os } := by
      rw [strs_size hu, strs_size hv]
      have e : ltF [] (ys.drop i) = decide (xs.length < ys.length) := by
        cases hq : ys.drop i with
        | nil =>
          have := List.drop_eq_nil_iff.mp hq
          have h3 : ¬ xs.length < ys.length := by omega
          simp [ltF, h3]
        | cons y r =>
          have h2 : i < ys.length := by
            by_cases q : i < ys.length
            · exact q
            · rw [List.drop_of_length_le (by omega)] at hq; cases hq
          have h3 : xs.length < ys.length := by omega
          simp [ltF, h3]
      rw [← e]; exact h
    cases hvv : vs.toArray[((i : Nat) : Int).toNat]? with
    | none =>
      wp_walk using wpAny_loadPart' hl, wpAny_loadPart' hb
      exact fin
    | some v =>
      wp_walk using wpAny_loadPart' hl, wpAny_loadPart' hb
      exact fin
  | succ k ih =>
    intro i hix hiy hk prog w A R s h
    obtain ⟨hp, g, d, tk, os⟩ := s; obtain ⟨hl, hb, h⟩ := h
    wp_walk using wpAny_loadPart' hl, wpAny_loadPart' hb
    obtain ⟨x, t, ex, ux⟩ := (strs_cut hu i).1 (by omega)
    have hi1 : us.toArray[((i : Nat) : Int).toNat]? = some (.str x t) := by simpa using ux
    rw [hi1]
    rw [ex] at h
    by_cases hy : i < ys.length
    · obtain ⟨y, u, ey, uy⟩ := (strs_cut hv i).1 hy
      have hi2 : vs.toArray[((i : Nat) : Int).toNat]? = some (.str y u) := by simpa using uy
      rw [ey] at h
      rw [hi2]
      refine wpAny_bind (wpAny_eqBool_str ?_)
      have hc : ((i : Int) + 1) = ((i + 1 : Nat) : Int) := by push_cast; rfl
      by_cases hxy : x = y
      · subst hxy
        have q : (x == x) = true := by simp
        simp only [ltF, if_true] at h
        rw [if_pos (by simp)]
        wp_walk
        rw [hc]
        exact ⟨plainId_quiet plain_eq_loop _, codeAny_builtin entry_eq_loop (by
          rw [Around.under_plainId plain_eq_loop _]
          exact ih (i + 1) (by omega) (by omega) (by omega) prog w A R _ ⟨hl, hb, h⟩)⟩
      · rw [if_neg (by simp [hxy])]
        wp_walk using wpAny_loadPart' hl, wpAny_loadPart' hb
        rw [hi1, hi2]
        refine wpAny_bind (wpAny_richCompare_same (typeIs_str _ _ _) (typeIs_str _ _ _) slot_str_lt (call_str_lt ⟨by simp, ?_⟩))
        wp_walk
        simp only [ltF, if_neg hxy] at h
        exact h
    · have hi2 : vs.toArray[((i : Nat) : Int).toNat]? = none := by simpa using (strs_cut hv i).2 (by omega)
      have hd : ys.drop i = [] := by simp; omega
      rw [hd] at h
      rw [hi2]
      wp_walk using wpAny_loadPart' hl, wpAny_loadPart' hb
      have e : decide (us.toArray.size < vs.toArray.size) = false := by rw [strs_size hu, strs_size hv]; simp; omega
      show R (.ok (.ret (.bool (decide (us.toArray.size < vs.toArray.size))))) _
      rw [e]
      exact h
theorem list_lt (l b : Addr) {us vs : List Value} {xs ys : List Str} (n n2 : Nat) (hu : StrsAre us xs) (hv : StrsAre vs ys) :
    Meets (Builtin.«list.__lt__» ⟨[.ref l, .ref b], []⟩)
      (fun _ R s => s.heap.get? l = some { cls := .type "list", dict := none, data := .seq us.toArray n, slots := #[] } ∧ s.heap.get? b = some { cls := .type "list", dict := none, data := .seq vs.toArray n2, slots := #[] } ∧
        R (.ok (.ret (.bool (ltF xs ys)))) s) := by
  intro prog w A R s h
  obtain ⟨hp, g, d, tk, os⟩ := s; obtain ⟨hl, hb, h⟩ := h
  have f3 := AutoSeq1.sub_list_list
  wp_walk using wpAny_loadPart' hl, wpAny_loadPart' hb
  exact ⟨plainId_quiet plain_eq_loop _, codeAny_builtin entry_eq_loop (by
    rw [Around.under_plainId plain_eq_loop _]
    exact lt_loop l b n n2 hu hv _ 0 (Nat.zero_le _) (Nat.zero_le _) rfl prog w A R _ ⟨hl, hb, h⟩)⟩
section
variable {prog : Program} {w : World} {A : Around} {E : Value → Shared → Prop} {s : Shared}
theorem keyLt_lists {l b : Addr} {us vs : List Value} {xs ys : List Str} {n n2 : Nat} {Q : Bool → Shared → Prop} (hl : s.heap.get? l = some (listOf us.toArray n)) (hb : s.heap.get? b = some (listOf vs.toArray n2)) (hu : StrsAre us xs) (hv : StrsAre vs ys) (hun : A.units < cLine)
    (h : Q (ltF xs ys) s) : wpAny (model prog w) A (keyLt' oneType' (.ref l) (.ref b)) Q E s := by
  rw [keyLt'_oneType, oneLt'_eq]
  simp only [if_true]
  have hT : s.TypeIs (.ref l) "list" := by
    exact ⟨_, hl, rfl⟩
  refine wpAny_bind (wpAny_cRoomFor hun ?_)
  refine wpAny_bind (wpAny_callSpecialIfBound?_slot hT F.slot_list_lt (call_meets F.slot_list_lt hT F.entry_list_lt (F.args_list_lt_2 _ _) (list_lt l b n n2 hu hv) ⟨hl, hb, ?_⟩))
  exact wpAny_truthy_bool h
end
end Mine
end
section -- Q1
open PySem PySem.W PyProof.Rows
namespace Mine
/-- the answer (i, j) follows from the comparisons asked -/
noncomputable def entT (f : List (Nat × Nat × Bool)) (i j : Nat) : Bool := i != j && (f.contains (i, j, true) || f.contains (j, i, false))
noncomputable def farT (n : Nat) (f : List (Nat × Nat × Bool)) : Nat → Nat → Nat → Bool
  | 0, _, _ => false
  | k + 1, i, j => entT f i j || (List.range n).any fun c => entT f i c && farT n f k c j
noncomputable def badT (n : Nat) (f : List (Nat × Nat × Bool)) : Bool := (List.range n).any fun i => farT n f n i i
noncomputable def adjT (f : List (Nat × Nat × Bool)) : List Nat → Bool
  | a :: b :: r => entT f a b && adjT f (b :: r)
  | _ => true
noncomputable def chkT (n : Nat) : KasT (Array Nat) → List (Nat × Nat × Bool) → Bool
  | .ret p, f => badT n f || (p.toList.length == n && p.toList.all (fun i => decide (i < n)) && adjT f p.toList)
  | .ask i j k, f => decide (i < n) && decide (j < n) && chkT n (k true) ((i, j, true) :: f) && chkT n (k false) ((i, j, false) :: f)
section
variable {n : Nat} {r : Nat → Nat} (inj : ∀ i j, i < n → j < n → r i = r j → i = j) {f : List (Nat × Nat × Bool)} (hf : ∀ x ∈ f, x.1 < n ∧ x.2.1 < n ∧ decide (r x.1 < r x.2.1) = x.2.2)
include inj hf
theorem ent_lt {i j : Nat} (h : entT f i j = true) : r i < r j := by
  unfold entT at h
  simp only [Bool.and_eq_true, bne_iff_ne, ne_eq, Bool.or_eq_true, List.contains_iff_mem] at h
  obtain ⟨hne, h | h⟩ := h
  · exact of_decide_eq_true (hf _ h).2.2
  · have q := hf _ h
    have h2 := of_decide_eq_false q.2.2
    rcases Nat.lt_or_ge (r i) (r j) with x | x
    · exact x
    · exact absurd (inj i j q.2.1 q.1 (by have h3 : ¬ r j < r i := h2; omega)) hne
theorem far_lt : ∀ {k i j : Nat}, farT n f k i j = true → r i < r j
  | 0, _, _, h => by cases h
  | k + 1, i, j, h => by
    unfold farT at h
    rw [Bool.or_eq_true] at h
    rcases h with h | h
    · exact ent_lt inj hf h
    · obtain ⟨c, _, h⟩ := List.any_eq_true.mp h
      rw [Bool.and_eq_true] at h
      exact Nat.lt_trans (ent_lt inj hf h.1) (far_lt h.2)
theorem bad_no (h : badT n f = true) : False := by
  unfold badT at h
  obtain ⟨i, _, h⟩ := List.any_eq_true.mp h
  exact Nat.lt_irrefl _ (far_lt inj hf h)
theorem adj_sorted : ∀ {l : List Nat}, adjT f l = true → l.Pairwise fun a b => r a < r b
  | [], _ => .nil
  | [_], _ => .cons (fun _ h => nomatch h) .nil
  | a :: b :: l, h => by
    unfold adjT at h
    rw [Bool.and_eq_true] at h
    have h1 := ent_lt inj hf h.1
    have h2 := adj_sorted h.2
    refine .cons (fun c hc => ?_) h2
    rcases List.mem_cons.mp hc with rfl | hc
    · exact h1
    · exact Nat.lt_trans h1 ((List.pairwise_cons.mp h2).1 c hc)
end
theorem chk_run {cmp : Nat → Nat → (Bool → Shared → Prop) → Shared → Prop} {P : Shared → Prop} {r : Nat → Nat} {n : Nat} {Q : Array Nat → Shared → Prop} (inj : ∀ i j, i < n → j < n → r i = r j → i = j)
    (hc : ∀ i j C s, i < n → j < n → P s → (∀ s', P s' → C (decide (r i < r j)) s') → cmp i j C s)
    (hQ : ∀ p s, p.toList.length = n → (∀ i ∈ p.toList, i < n) → (p.toList.Pairwise fun a b => r a < r b) → P s → Q p s) :
    ∀ (t : KasT (Array Nat)) (f : List (Nat × Nat × Bool)), chkT n t f = true → (∀ x ∈ f, x.1 < n ∧ x.2.1 < n ∧ decide (r x.1 < r x.2.1) = x.2.2) → ∀ s, P s → t.kasWp cmp Q s
  | .ret p, f, h, hf, s, hp => by
    unfold chkT at h
    rw [Bool.or_eq_true] at h
    rcases h with h | h
    · exact (bad_no inj hf h).elim
    · simp only [Bool.and_eq_true, beq_iff_eq, List.all_eq_true, decide_eq_true_eq] at h
      exact hQ p s h.1.1 h.1.2 (adj_sorted inj hf h.2) hp
  | .ask i j k, f, h, hf, s, hp => by
    unfold chkT at h
    simp only [Bool.and_eq_true, decide_eq_true_eq] at h
    obtain ⟨⟨⟨hi, hj⟩, h1⟩, h2⟩ := h
    refine hc i j _ s hi hj hp fun s' hp' => ?_
    cases hb : decide (r i < r j) with
    | true => exact chk_run inj hc hQ (k true) _ h1 (fun x hx => by
        rcases List.mem_cons.mp hx with rfl | hx
        · exact ⟨hi, hj, hb⟩
        · exact hf x hx) s' hp'
    | false => exact chk_run inj hc hQ (k false) _ h2 (fun x hx => by
        rcases List.mem_cons.mp hx with rfl | hx
        · exact ⟨hi, hj, hb⟩
        · exact hf x hx) s' hp'
theorem sort_chk : ∀ n, n < 6 → chkT n (kas_sort n) [] = true := by decide +kernel
end Mine
end
section -- Q2
open PySem PySem.W PyProof.Rows
namespace Mine
theorem ltF_all : (ZNAMES.all fun x => ZNAMES.all fun y => ltF x.reverse y.reverse == decide (idxN x < idxN y)) = true := by decide +kernel
theorem ltF_idx {x y : List Str} (hx : x ∈ ZNAMES) (hy : y ∈ ZNAMES) : ltF x.reverse y.reverse = decide (idxN x < idxN y) := by
  have h := List.all_eq_true.mp (List.all_eq_true.mp ltF_all x hx) y hy
  exact beq_iff_eq.mp h
theorem nodup_len {α : Type} [DecidableEq α] : ∀ {R L : List α}, R.Nodup → (∀ x ∈ R, x ∈ L) → R.length ≤ L.length
  | [], _, _, _ => Nat.zero_le _
  | a :: R, L, hn, hs => by
    have hn' := List.nodup_cons.mp hn
    have ha := hs a (.head _)
    have := nodup_len (R := R) (L := L.erase a) hn'.2 fun x hx => (List.mem_erase_of_ne (fun q => hn'.1 (by rw [← q]; exact hx))).mpr (hs x (.tail _ hx))
    rw [List.length_erase_of_mem ha] at this
    have := List.length_pos_of_mem ha
    simp only [List.length_cons]
    omega
theorem sorted_eq : ∀ {A B : List (List Nat)}, A.Pairwise (· < ·) → B.Pairwise (· < ·) → (∀ x, x ∈ A ↔ x ∈ B) → A = B
  | [], [], _, _, _ => rfl
  | [], b :: _, _, _, h => nomatch (h b).mpr (.head _)
  | a :: _, [], _, _, h => nomatch (h a).mp (.head _)
  | a :: A, b :: B, hA, hB, h => by
    have pA := List.pairwise_cons.mp hA
    have pB := List.pairwise_cons.mp hB
    have e : a = b := by
      rcases List.mem_cons.mp ((h a).mp (.head _)) with q | q
      · exact q
      · rcases List.mem_cons.mp ((h b).mpr (.head _)) with q' | q'
        · exact q'.symm
        · exact (lt_irr (lt_trans' (pA.1 b q') (pB.1 a q))).elim
    subst e
    rw [sorted_eq pA.2 pB.2 fun x => ⟨fun hx => ?_, fun hx => ?_⟩]
    · rcases List.mem_cons.mp ((h x).mp (.tail _ hx)) with q | q
      · subst q; exact (lt_irr (pA.1 _ hx)).elim
      · exact q
    · rcases List.mem_cons.mp ((h x).mpr (.tail _ hx)) with q | q
      · subst q; exact (lt_irr (pB.1 _ hx)).elim
      · exact q
section
variable {Z : List (List Str)} {R : List Str} {kvs : List (Str × Value)}
theorem zone_get {i : Nat} (h : i < Z.length) : Z.getD i [] ∈ Z := by
  rw [List.getD_eq_getElem?_getD, List.getElem?_eq_getElem h]
  exact List.getElem_mem h
theorem row_nodup (hZ : Zone Z R kvs) : R.Nodup := hZ.sorted.imp fun h q => by subst q; exact lt_irr h
/-- the zone has no name twice -/
theorem zone_inj (hZ : Zone Z R kvs) (i j : Nat) (hi : i < Z.length) (hj : j < Z.length) (h : idxN (Z.getD i []) = idxN (Z.getD j [])) : i = j := by
  have e := idx_inj (hZ.zin _ (zone_get hi)) (hZ.zin _ (zone_get hj)) h
  by_cases q : i = j
  · exact q
  exfalso
  have hl : R.length ≤ ((Z.eraseIdx j).map turnF).length := nodup_len (row_nodup hZ) fun r hr => by
    obtain ⟨z, hz, rfl⟩ := (hZ.row r).mp hr
    refine List.mem_map_of_mem ?_
    obtain ⟨k, hk, rfl⟩ := List.getElem_of_mem hz
    rw [List.mem_eraseIdx_iff_getElem]
    by_cases hkj : k = j
    · refine ⟨i, hi, q, ?_⟩
      subst hkj
      rw [List.getD_eq_getElem?_getD, List.getElem?_eq_getElem hi, List.getD_eq_getElem?_getD, List.getElem?_eq_getElem hj] at e
      exact e
    · exact ⟨k, hk, hkj, rfl⟩
  rw [List.length_map, List.length_eraseIdx_of_lt hj, hZ.rlen] at hl
  omega
/-- the row is the zone, sorted -/
theorem row_sorted (hZ : Zone Z R kvs) {p : List Nat} (hl : p.length = Z.length) (hp : ∀ i ∈ p, i < Z.length) (hs : p.Pairwise fun a b => idxN (Z.getD a []) < idxN (Z.getD b [])) : R = p.map fun i => turnF (Z.getD i []) := by
  have inS : ∀ r ∈ (p.map fun i => turnF (Z.getD i [])), r ∈ R := fun r hr => by
    obtain ⟨i, hi, rfl⟩ := List.mem_map.mp hr
    exact (hZ.row _).mpr ⟨_, zone_get (hp i hi), rfl⟩
  have sS : (p.map fun i => turnF (Z.getD i [])).Pairwise fun a b => a.cps.toList < b.cps.toList := by
    rw [List.pairwise_map]
    refine hs.imp_of_mem fun {a b} ha hb h => ?_
    rw [turnF_cps, turnF_cps]
    exact idx_lt (hZ.zin _ (zone_get (hp a ha))) (hZ.zin _ (zone_get (hp b hb))) h
  have nS : (p.map fun i => turnF (Z.getD i [])).Nodup := sS.imp fun h q => by subst q; exact lt_irr h
  have out : ∀ r ∈ R, r ∈ (p.map fun i => turnF (Z.getD i [])) := fun r hr => by
    by_cases q : r ∈ (p.map fun i => turnF (Z.getD i []))
    · exact q
    · have := nodup_len (R := r :: (p.map fun i => turnF (Z.getD i []))) (L := R) (List.nodup_cons.mpr ⟨q, nS⟩) fun x hx => by
        rcases List.mem_cons.mp hx with rfl | hx
        · exact hr
        · exact inS x hx
      rw [List.length_cons, List.length_map, hl, hZ.rlen] at this
      omega
  have e : R.map (fun r => r.cps.toList) = (p.map fun i => turnF (Z.getD i [])).map fun r => r.cps.toList := by
    refine sorted_eq (List.pairwise_map.mpr hZ.sorted) (List.pairwise_map.mpr sS) fun x => ⟨fun h => ?_, fun h => ?_⟩
    · obtain ⟨r, hr, rfl⟩ := List.mem_map.mp h
      exact List.mem_map_of_mem (out r hr)
    · obtain ⟨r, hr, rfl⟩ := List.mem_map.mp h
      exact List.mem_map_of_mem (inS r hr)
  have inj : ∀ {A B : List Str}, A.map (fun r => r.cps.toList) = B.map (fun r => r.cps.toList) → A = B := by
    intro A
    induction A with
    | nil => intro B h; cases B with
      | nil => rfl
      | cons b B => cases h
    | cons a A ih => intro B h; cases B with
      | nil => cases h
      | cons b B =>
        simp only [List.map_cons, List.cons.injEq] at h
        rw [str_inj h.1, ih h.2]
  exact inj e
end
end Mine
end
section -- W2
open PySem PySem.W PyProof.Rows PySem.Calls PyProof.V
namespace Mine
/-- the keys made: each the reversed labels of its name -/
inductive RevAll (led : List (Addr × Obj)) : List Value → List (List Str) → Prop
  | nil : RevAll led [] []
  | cons {r : Addr} {us : List Value} {x : List Str} {vs : List Value} {Z : List (List Str)} (hm : (r, listOf us.toArray 0) ∈ led) (hs : StrsAre us x.reverse) : RevAll led vs Z → RevAll led (.ref r :: vs) (x :: Z)
theorem RevAll.mono {led led' : List (Addr × Obj)} (h : ∀ p ∈ led, p ∈ led') : ∀ {vs Z}, RevAll led vs Z → RevAll led' vs Z
  | _, _, .nil => .nil
  | _, _, .cons hm hs r => .cons (h _ hm) hs (r.mono h)
theorem RevAll.snoc {led : List (Addr × Obj)} {r : Addr} {us : List Value} {x : List Str} (hm : (r, listOf us.toArray 0) ∈ led) (hs : StrsAre us x.reverse) : ∀ {vs Z}, RevAll led vs Z → RevAll led (vs ++ [.ref r]) (Z ++ [x])
  | _, _, .nil => .cons hm hs .nil
  | _, _, .cons hm' hs' h => .cons hm' hs' (h.snoc hm hs)
theorem RevAll.length {led : List (Addr × Obj)} : ∀ {vs Z}, RevAll led vs Z → vs.length = Z.length
  | _, _, .nil => rfl
  | _, _, .cons _ _ h => by rw [List.length_cons, List.length_cons, h.length]
theorem RevAll.get {led : List (Addr × Obj)} : ∀ {vs Z}, RevAll led vs Z → ∀ i, i < Z.length → ∃ r us, vs.getD i Value.none = .ref r ∧ (r, listOf us.toArray 0) ∈ led ∧ StrsAre us (Z.getD i []).reverse
  | _, _, .cons hm hs _, 0, _ => ⟨_, _, rfl, hm, hs⟩
  | _, _, .cons _ _ h, i + 1, hi => by
    obtain ⟨r, us, e, hm, hs⟩ := h.get i (by simpa using hi)
    exact ⟨r, us, by simpa using e, hm, by simpa using hs⟩
theorem RevAll.mem {led : List (Addr × Obj)} : ∀ {vs Z}, RevAll led vs Z → ∀ v ∈ vs, ∃ r us, v = .ref r ∧ (r, listOf us 0) ∈ led
  | _, _, .cons hm _ h, v, hv => by
    rcases List.mem_cons.mp hv with rfl | hv
    · exact ⟨_, _, rfl, hm⟩
    · exact h.mem v hv
theorem strs_snoc (x : Str) (t : Tok) : ∀ {us : List Value} {xs : List Str}, StrsAre us xs → StrsAre (us ++ [.str x t]) (xs ++ [x])
  | _, _, .nil => .cons x t .nil
  | _, _, .cons y u h => .cons y u (strs_snoc x t h)
theorem strs_rev : ∀ {us : List Value} {xs : List Str}, StrsAre us xs → StrsAre us.reverse xs.reverse
  | _, _, .nil => .nil
  | _, _, .cons y u h => by
    rw [List.reverse_cons, List.reverse_cons]
    exact strs_snoc y u (strs_rev h)
section
variable {prog : Program} {w : World} {A : Around} {E : Value → Shared → Prop} {s : Shared} {h₀ : Heap} {L kS f : Addr} {m : Str → Option Value}
/-- what the key function does -/
noncomputable def LamOk (prog : Program) (w : World) (A : Around) (h₀ : Heap) (L : Addr) (m : Str → Option Value) (f : Addr) (base : List (Addr × Obj)) : Prop :=
  ∀ (s' : Shared) (led : List (Addr × Obj)) (la : Addr) (us : List Value) (na : Nat) (Q : Value → Shared → Prop), Fr h₀ L s'.heap m → News h₀ L s'.heap led → (∀ p ∈ base, p ∈ led) → (la, listOf us.toArray na) ∈ led → us.length ≤ 4 →
    (∀ D h' tk, Fr h₀ L h' m → News h₀ L h' ((D, listOf us.reverse.toArray 0) :: led) → (∀ p ∈ led, p.1 < D) → Q (.ref D) { s' with heap := h', toks := tk }) → wpAny (model prog w) A (call (.ref f) [.ref la]) Q (fun _ _ => False) s'
theorem keys_run {base nd : List (Addr × Obj)} {Fin : List Value → Nat → Shared → Prop} {s₀ : Shared} {Zall : List (List Str)} (lam : LamOk prog w A h₀ L m f base) (hnd : ∀ p ∈ nd, p ∈ base)
    (hfin : ∀ ks e h tk own, Fr h₀ L h m → News h₀ L h ((kS, seqObj "list" (List.toArray ks) e) :: (own ++ base)) → (∀ p ∈ own ++ base, p.1 ≠ kS) → RevAll own ks Zall → Fin ks e { s₀ with heap := h, toks := tk }) :
    ∀ (zs : List Value) (Zr Zd : List (List Str)) (ks : List Value) (e : Nat) (h : Heap) (tk : Nat) (own : List (Addr × Obj)), Zd ++ Zr = Zall → DatAll nd zs (Zr.map labD) → (∀ z ∈ Zr, z ∈ ZNAMES) → Fr h₀ L h m →
      News h₀ L h ((kS, seqObj "list" (List.toArray ks) e) :: (own ++ base)) → (∀ p ∈ own ++ base, p.1 ≠ kS) → RevAll own ks Zd → KatKeys prog w A h₀ L m kS (.ref f) Fin zs ks e { s₀ with heap := h, toks := tk }
  | [], Zr, Zd, ks, e, h, tk, own, hZ, hd, _, F, N, hne, hr => by
    have hl := hd.length
    have : Zr = [] := List.eq_nil_of_length_eq_zero (by simpa using hl.symm)
    subst this
    rw [List.append_nil] at hZ
    subst hZ
    exact KatKeys.nil (hfin ks e h tk own F N hne hr)
  | v :: zs, Zr, Zd, ks, e, h, tk, own, hZ, hd, hz, F, N, hne, hr => by
    cases Zr with
    | nil => have := hd.length; simp at this
    | cons x Zr =>
      obtain ⟨ys, la, us, na, e1, rfl, hm, hs⟩ := dat_at hd (i := 0) (v := v) rfl
      cases e1
      cases hd with
      | cons _ hd =>
        have hsh := znames_shape x (hz x (.head _))
        refine KatKeys.cons (lam _ _ la us na _ F N (fun p hp => .tail _ (List.mem_append_right _ hp)) (.tail _ (List.mem_append_right _ (hnd _ hm))) (by rw [hs.length]; exact hsh.2.2) fun D h' tk' F' N' l1 => ?_)
        have hD : kS ≠ D := Nat.ne_of_lt (l1 _ (.head _))
        have N2 : News h₀ L h' ((kS, seqObj "list" (List.toArray ks) e) :: (D, listOf us.reverse.toArray 0) :: (own ++ base)) := fun p hp => N' p (by
          simp only [List.mem_cons] at hp ⊢
          rcases hp with q | q | q <;> simp [q])
        have hne2 : ∀ p ∈ (D, listOf us.reverse.toArray 0) :: (own ++ base), p.1 ≠ kS := fun p hp => by
          rcases List.mem_cons.mp hp with rfl | hp
          · exact Ne.symm hD
          · exact hne p hp
        refine KatBack.intro F' N2 (.head hne2) fun h2 c F2 N3 => ?_
        exact keys_run lam hnd hfin zs Zr (Zd ++ [x]) (ks ++ [.ref D]) c h2 tk' ((D, listOf us.reverse.toArray 0) :: own) (by rw [List.append_assoc]; exact hZ) hd (fun z hz' => hz z (.tail _ hz')) F2 N3 hne2
          ((hr.mono fun p hp => .tail _ hp).snoc (.head _) (strs_rev hs))
theorem revs_types {led : List (Addr × Obj)} {ks : List Value} {Z : List (List Str)} (N : News h₀ L s.heap led) (hr : RevAll led ks Z) : ∀ v ∈ ks, Looks (model prog w) s.heap (typeOf v) (.type "list") := fun v hv => by
  obtain ⟨r, us, rfl, hm⟩ := hr.mem v hv
  intro A Q E s' hk hq
  have hT : s'.TypeIs (.ref r) "list" := ⟨_, hk _ _ (N _ hm).1, rfl⟩
  exact wpAny_typeOf hT hq
/-- `sorted(zone, key=lambda labels: labels[::-1])` -/
theorem zone_sorted {z : Addr} {zs : List Value} {nz : Nat} {Z : List (List Str)} {R : List Str} {kvs : List (Str × Value)} {nd news : List (Addr × Obj)} {Q : Value → Shared → Prop} (F : Fr h₀ L s.heap m) (N : News h₀ L s.heap news) (hz : (z, listOf zs.toArray nz) ∈ news)
    (hZ : Zone Z R kvs) (hzd : DatAll nd zs (Z.map labD)) (hnd : ∀ p ∈ nd, p ∈ news) (h2 : 2 ≤ Z.length) (hun : A.in1.in1.units < cLine) (lam : LamOk prog w A.in1.in1 h₀ L m f news)
    (h : ∀ (D : Addr) (p : List Nat) (c : Nat) (h' : Heap) (tk : Nat), p.length = Z.length → (∀ i ∈ p, i < Z.length) → (p.Pairwise fun a b => idxN (Z.getD a []) < idxN (Z.getD b [])) → Fr h₀ L h' m →
      News h₀ L h' ((D, listOf (List.toArray (p.map fun i => zs.getD i Value.none)) c) :: news) → (∀ q ∈ news, q.1 < D) → Q (.ref D) { s with heap := h', toks := tk }) :
    wpAny (model prog w) A (call (.builtin "sorted") [.ref z] [(Str.ofString "key", .ref f)]) Q E s := by
  have hl : zs.length = Z.length := by have := hzd.length; simpa using this
  have h5 := hZ.len
  refine kat_sortedK (b := false) F N (News.isList N hz) (by omega) (by omega) (ksk_s1 _ _) (fun _ => ksk_l1 _ _) (fun x => ksk_t1 _ x) fun D kS e1 h' F' N' l0 l1 => ?_
  have hDk : D ≠ kS := Nat.ne_of_lt l0
  have hbase : ∀ p ∈ (D, seqObj "list" #[] e1) :: news, p.1 ≠ kS := fun p hp => by
    rcases List.mem_cons.mp hp with rfl | hp
    · exact hDk
    · exact Nat.ne_of_lt (Nat.lt_trans (l1 p hp) l0)
  refine keys_run (base := (D, seqObj "list" #[] e1) :: news) (nd := nd) (s₀ := s) (Zall := Z) (fun s' led la us na Q' F₁ N₁ hs => lam s' led la us na Q' F₁ N₁ fun p hp => hs p (.tail _ hp)) (fun p hp => .tail _ (hnd p hp)) (fun ks e h₁ tk own F₁ N₁ hne hr => ?_)
    zs Z [] [] 0 h' s.toks [] rfl hzd hZ.zin F' N' hbase .nil
  have hkl : ks.length = zs.length := by rw [hr.length, hl]
  have hr' : RevAll ((kS, seqObj "list" (List.toArray ks) e) :: (own ++ (D, seqObj "list" #[] e1) :: news)) ks Z := hr.mono fun p hp => .tail _ (List.mem_append_left _ hp)
  refine kas_kind (T := .type "list") (by omega) (revs_types N₁ hr') rfl rfl ?_
  rw [hl]
  refine chk_run (n := Z.length) (r := fun i => idxN (Z.getD i [])) (P := fun s' => s' = { s with heap := h₁, toks := tk }) (zone_inj hZ) ?_ ?_ (kas_sort Z.length) [] (sort_chk _ (by omega)) (fun _ h => nomatch h) _ rfl
  · rintro i j C _ hi hj rfl hC
    obtain ⟨ri, ui, ei, mi, si⟩ := hr'.get i hi
    obtain ⟨rj, uj, ej, mj, sj⟩ := hr'.get j hj
    show wpAny _ _ (keyLt' oneType' (ks.getD i Value.none) (ks.getD j Value.none)) C (fun _ _ => False) _
    rw [ei, ej]
    refine keyLt_lists (N₁ _ mi).1 (N₁ _ mj).1 si sj hun ?_
    rw [ltF_idx (hZ.zin _ (zone_get hi)) (hZ.zin _ (zone_get hj))]
    exact hC _ rfl
  · rintro p _ hp1 hp2 hp3 rfl
    refine KatFin.intro F₁ N₁ (.head hne) fun h₂ c F₂ N₂ => ?_
    have N₃ : News h₀ L h₂ ((D, seqObj "list" #[] e1) :: news) := N_sub N₂ fun p hp => .tail _ (List.mem_append_right _ hp)
    refine KasFin.intro F₂ N₃ (.head fun q hq => Nat.ne_of_lt (l1 q hq)) fun h₃ c₂ F₃ N₄ => ?_
    exact h D p.toList c₂ h₃ _ hp1 hp2 hp3 F₃ N₄ l1
end
end Mine
end
section -- L2
open PySem PySem.W PyProof.Rows PySem.Calls PyProof.V
namespace Mine
theorem key_pairs {Z : List (List Str)} {f : List Str → Str} : ∀ {vs ys : List Value} {keys : List Str}, Paired (fun v y => ∃ (z : List Str) (t t' : Tok), z ∈ Z ∧ v = Value.str (turnF z) t ∧ y = Value.str (f z) t') vs ys → StrsAre vs keys →
    ∃ zs : List (List Str), (∀ z ∈ zs, z ∈ Z) ∧ zs.map turnF = keys ∧ StrsAre ys (zs.map f)
  | _, _, _, .nil, h => by cases h; exact ⟨[], (fun _ h => nomatch h), rfl, .nil⟩
  | _, _, _, .cons ⟨z, t, t', hz, hv, hy⟩ hp, h => by
    subst hv hy
    cases h with
    | cons n t h =>
      obtain ⟨zs, h1, h2, h3⟩ := key_pairs hp h
      exact ⟨z :: zs, fun y hy => (List.mem_cons.mp hy).elim (fun e => e ▸ hz) (h1 y), by rw [List.map_cons, h2], .cons _ _ h3⟩
theorem turn_map_inj : ∀ {A B : List (List Str)}, (∀ z ∈ A, z ∈ ZNAMES) → (∀ z ∈ B, z ∈ ZNAMES) → A.map turnF = B.map turnF → A = B
  | [], [], _, _, _ => rfl
  | [], _ :: _, _, _, h => by cases h
  | _ :: _, [], _, _, h => by cases h
  | a :: A, b :: B, hA, hB, h => by
    simp only [List.map_cons, List.cons.injEq] at h
    rw [turnF_inj (hA a (.head _)) (hB b (.head _)) h.1, turn_map_inj (fun z hz => hA z (.tail _ hz)) (fun z hz => hB z (.tail _ hz)) h.2]
/-- a made list of plain values, laid over a ledger -/
theorem made_at {g h h' : Heap} {L D : Addr} {m : Str → Option Value} {led : List (Addr × Obj)} {it : Obj} {ys : Array Value} (F : Fr g L h m) (N : News g L h led)
    (hkk : ∀ b o, b ∉ [h.objs.size] → (h.push it).get? b = some o → h'.get? b = some o) (hD : (h.push it).get? D = none) (hpl : h'.PlainList D ys) :
    ∃ nD, News g L h' ((D, listOf ys.toList.toArray nD) :: led) ∧ Fr g L h' m := by
  obtain ⟨nD, hD2⟩ := hpl
  obtain ⟨N', _, _⟩ := comp_news F N (fun b o _ => hkk b o) hD (nD := nD) (ys := ys.toList) (by simpa using hD2)
  exact ⟨nD, N', F.keeps (fun b o e => hkk b o (fun q => Nat.lt_irrefl _ (List.mem_singleton.mp q ▸ Heap.lt_size e)) (Heap.get?_push_of_some _ e))⟩
/-- the names that the row tells -/
theorem names_made {vs us ys : List Value} {Z : List (List Str)} {R : List Str} {kvs : List (Str × Value)} {p : List Nat} (hZ : Zone Z R kvs) (hp : ∀ i ∈ p, i < Z.length)
    (hrow : R = p.map fun i => turnF (Z.getD i [])) (hlen : vs.length = us.length) (hP : ∀ (j : Nat) v, vs[j]? = some v → us.toArray[j]? = some v)
    (hF : Paired (fun v y => ∃ (z : List Str) (t t' : Tok), z ∈ Z ∧ v = Value.str (turnF z) t ∧ y = Value.str (joinF z) t') (vs.filter fun _ => true) ys) (hS : StrsAre us R) :
    StrsAre ys (p.map fun i => joinF (Z.getD i [])) := by
  have hsl := same_vals hlen hP
  rw [List.filter_eq_self.mpr (fun _ _ => rfl), hsl] at hF
  obtain ⟨zs, h1, h2, h3⟩ := key_pairs hF hS
  have e : zs = p.map fun i => Z.getD i [] := by
    refine turn_map_inj (fun z hz => hZ.zin z (h1 z hz)) (fun z hz => ?_) ?_
    · obtain ⟨i, hi, rfl⟩ := List.mem_map.mp hz
      exact hZ.zin _ (zone_get (hp i hi))
    · rw [h2, hrow, List.map_map]
      rfl
  rw [e, List.map_map] at h3
  exact h3
theorem strs_inj : ∀ {us : List Value} {a b : List Str}, StrsAre us a → StrsAre us b → a = b
  | _, _, _, .nil, .nil => rfl
  | _, _, _, .cons y t h, .cons _ _ h' => by rw [strs_inj h h']
theorem listOf_inj {a b : List Value} {n k : Nat} (h : listOf a.toArray n = listOf b.toArray k) : a = b := by
  unfold PySem.W.listOf at h
  simp only [Obj.mk.injEq, Data.seq.injEq] at h
  have := h.2
  simp at this
  exact this.1
/-- the names in the order of the sort -/
theorem order_pairs {g h : Heap} {L : Addr} {nd : List (Addr × Obj)} {zs : List Value} {Z : List (List Str)} (N : News g L h nd) (hzd : DatAll nd zs (Z.map labD)) : ∀ {p : List Nat} {ys : List Value}, (∀ i ∈ p, i < Z.length) →
    Paired (fun v y => ∃ (la : Addr) (us : List Value) (na : Nat) (x : List Str) (t : Tok), v = Value.ref la ∧ (la, listOf us.toArray na) ∈ nd ∧ StrsAre us x ∧ y = Value.str (joinF x) t) (p.map fun i => zs.getD i Value.none) ys → StrsAre ys (p.map fun i => joinF (Z.getD i []))
  | [], ys, _, h => by cases h; exact .nil
  | i :: p, _, hp, h => by
    cases h with
    | cons hf h =>
      obtain ⟨la, us, na, x, t, e, hm, hs, rfl⟩ := hf
      have hi := hp i (.head _)
      have hl := hzd.length
      rw [List.length_map] at hl
      obtain ⟨ys', la', us', na', e1, e2, hm', hs'⟩ := dat_at hzd (i := i) (v := zs.getD i Value.none) (by rw [List.getD_eq_getElem?_getD, List.getElem?_eq_getElem (by omega)]; rfl)
      have e3 : la = la' := by
        have := e.symm.trans e2
        cases this; rfl
      subst e3
      have e4 := (N _ hm).1.symm.trans (N _ hm').1
      have e5 := listOf_inj (Option.some.inj e4)
      subst e5
      have e6 : x = Z.getD i [] := by rw [List.getD_eq_getElem?_getD, e1]; exact strs_inj hs hs'
      rw [List.map_cons, e6]
      exact .cons _ _ (order_pairs N hzd (fun j hj => hp j (.tail _ hj)) h)
theorem order_made {g h : Heap} {L : Addr} {nd : List (Addr × Obj)} {vs zs ys : List Value} {Z : List (List Str)} {p : List Nat} (N : News g L h nd) (hzd : DatAll nd zs (Z.map labD)) (hp : ∀ i ∈ p, i < Z.length)
    (hlen : vs.length = p.length) (hP : ∀ (j : Nat) v, vs[j]? = some v → (List.toArray (p.map fun i => zs.getD i Value.none))[j]? = some v)
    (hF : Paired (fun v y => ∃ (la : Addr) (us : List Value) (na : Nat) (x : List Str) (t : Tok), v = Value.ref la ∧ (la, listOf us.toArray na) ∈ nd ∧ StrsAre us x ∧ y = Value.str (joinF x) t) (vs.filter fun _ => true) ys) :
    StrsAre ys (p.map fun i => joinF (Z.getD i [])) := by
  have hsl := same_vals (us := p.map fun i => zs.getD i Value.none) (by rw [List.length_map]; exact hlen) hP
  rw [List.filter_eq_self.mpr (fun _ _ => rfl), hsl] at hF
  exact order_pairs N hzd hp hF
/-- an element of the sorted list -/
theorem order_at {nd : List (Addr × Obj)} {zs : List Value} {Z : List (List Str)} (hzd : DatAll nd zs (Z.map labD)) {p : List Nat} (hp : ∀ i ∈ p, i < Z.length) {j : Nat} {v : Value} (hv : (List.toArray (p.map fun i => zs.getD i Value.none))[j]? = some v) :
    ∃ x la us na, v = .ref la ∧ (la, listOf us.toArray na) ∈ nd ∧ StrsAre us x ∧ x ∈ Z := by
  have hm := List.mem_of_getElem? (by simpa using hv : (p.map fun i => zs.getD i Value.none)[j]? = some v)
  obtain ⟨i, hi, rfl⟩ := List.mem_map.mp hm
  have hl := hzd.length
  rw [List.length_map] at hl
  have := hp i hi
  obtain ⟨x, la, us, na, e1, e2, hm', hs'⟩ := dat_at hzd (i := i) (v := zs.getD i Value.none) (by rw [List.getD_eq_getElem?_getD, List.getElem?_eq_getElem (by omega)]; rfl)
  exact ⟨x, la, us, na, e2, hm', hs', List.mem_of_getElem? e1⟩
theorem joins_xok : ∀ z ∈ ZNAMES, PyData.strOk (joinF z) = true := by decide +kernel
theorem joins_ok {Z : List (List Str)} {R : List Str} {kvs : List (Str × Value)} {p : List Nat} (hZ : Zone Z R kvs) (hp : ∀ i ∈ p, i < Z.length) : ∀ d ∈ (p.map fun i => joinF (Z.getD i [])).map Dat.str, kqdOk 8 d = true := by
  intro d hd
  obtain ⟨y, hy, rfl⟩ := List.mem_map.mp hd
  obtain ⟨i, hi, rfl⟩ := List.mem_map.mp hy
  simp only [kqdOk]
  exact joins_xok _ (hZ.zin _ (zone_get (hp i hi)))
end Mine
end
section -- L1
open PySem PySem.W PyProof.Rows PySem.Calls
namespace Mine

theorem eval_then {M : Model} {A : Around} {E : Value → Shared → Prop} {s : Shared} {t : Sem Value} {Q : Value → Shared → Prop} (h : wpAny M A t (fun v s' => ∃ u tk, v = .int (-1) u ∧ s' = { s with toks := tk }) (fun _ _ => False) s)
    (k : ∀ u tk, Q (.int (-1) u) { s with toks := tk }) : wpAny M A t Q E s :=
  wpAny_mono h (fun v s' ⟨u, tk, e1, e2⟩ => by subst e1; subst e2; exact k u tk) fun _ _ f => f.elim
local macro_rules | `(tactic| walk_at "subscriptTail") => `(tactic| k_extra "m:subscriptTail")
theorem row_L1_1 : True := by
  k_with "m:subscriptTail" => (k_here; (with_reducible show wpAny _ _ (subscriptTail _ _ (Value.ref _) (Value.str _ _)) _ _ _); (with_unfolding_all refine' dict_item ?k1 ?k2 ?k3 ?k4 ?_; (case k1 => k_asm); (case k2 => k_mem); (case k3 => assumption); (case k4 => assumption); k_whole))
  trivial
theorem law_hold : PySem.Challenge.rw_zo0019_01.Holds := hd (by
  k_fill
  intro w s₀ s₁ mg mb G Y fa o pm cd doc dV kV ho hd hcd hD hmg hg args vals as hpre hlay hrd hwl hlo
  have hg0 : Halt (s₁.gens = #[]) := hg
  have KX := km_in_of Y
  km_tabs Y
  have X := (Ground.X G).1
  have V := (Ground.X G).2
  refine Ground.open G ?_
  intro T B D TE TW
  try (refine guard_noD D (by decide +kernel) ?_; clear D)
  km_lay T hmg ho hd cd
  clear hmg
  wrow_args hpre hlay hrd hwl hlo
  refine S_enter ?_
  have he := Dflts.none hD rfl
  subst he
  have he := Dflts.noKw hD
  subst he
  have K0 := below_caller (Top.heap T)
  refine code_lawS (by decide) ho (fd_plain hd) (Top.nolimit T) hcd rfl rfl (by decide) fun h₁ tk₁ cells F N0 X0 => ?_
  k_cells X0
  clear hd
  k_drop
  clear TE TW B V
  k_with_none
  k_with "m:subscriptTail" => (k_here; (with_reducible show wpAny _ _ (subscriptTail _ _ (Value.ref _) (Value.str _ _)) _ _ _); (with_unfolding_all refine' dict_item ?k1 ?k2 ?k3 ?k4 ?_; (case k1 => k_asm); (case k2 => k_mem); (case k3 => assumption); (case k4 => assumption); k_whole))
  refine S_hide fun Q₁ hQ₁ => ?_
  refine S_execs_cons (S_of (A_hide fun Q₂ hQ₂ => ?_))
  k_steps
  subst hQ₂
  dsimp only
  refine S_execs_cons (S_of (A_hide fun Q₂ hQ₂ => ?_))
  k_steps
  subst hQ₂
  dsimp only
  refine S_execs_cons (S_of (A_hide fun Q₂ hQ₂ => ?_))
  k_steps
  subst hQ₂
  dsimp only
  refine S_execs_cons (S_of (A_hide fun Q₂ hQ₂ => ?_))
  k_steps
  subst hQ₂
  dsimp only
  refine S_execs_cons (S_For ?_ (fun _ => rfl))
  k_with "pyIter ref" => refine Halt.mk ?_
  k_with "evalPart none" => refine Halt.mk ?_
  k_steps
  refine Halt.un (evalPart_none_step ?_)
  k_steps
  refine Halt.un (evalPart_none_step ?_)
  k_steps
  refine Halt.un (evalPart_none_step ?_)
  k_steps
  refine Halt.un (evalPart_none_step ?_)
  with_reducible rename Fr _ _ _ _ => F₁
  with_reducible rename News _ _ _ _ => N₁
  rename_i o0A hoA fA _ _ _ rwA _ _ hB _ oD lo0 hdict _ _ _ _ oC hoC eA _ _ zA _ _ _ sA us4 _ hI4 _ _ _
  refine' kmk_slice_ints (ns := [11926, 4803, 21830]) F₁ N₁ (News.isList N₁ (n := 0) ?m1) (.int _ _) .none ?i (kmk_from ?i (Int.natCast_nonneg _)) (List.length_drop ..) ?_ ?s ?t ?z
  case m1 => k_mem
  case i => exact .cons _ _ (.cons _ _ (.cons _ _ .nil))
  case s => with_unfolding_all rfl
  case t => kmk_pure
  case z => exact Nat.le_of_ble_eq_true rfl
  intro D2 us2 h2 F₂ N₂ l2 hI2 hC2 hL2
  clear F₁ N₁
  refine' kmk_add_ints F₂ N₂ (News.isList N₂ (n := 0) ?m1) (News.isList N₂ (n := 0) ?m2) hI4 hI2 ?_ ?z
  case m1 => k_mem
  case m2 => k_mem
  case z => kmk_sum
  intro DA us hA F₁ N₁ l3 hIu
  have dA1 : @LT.lt Nat _ rwA DA := l3 (rwA, _) (by k_mem)
  have dA2 : @LT.lt Nat _ hB.objs.size DA := l3 (hB.objs.size, _) (by k_mem)
  have dA3 : @LT.lt Nat _ zA DA := l3 (zA, _) (by k_mem)
  clear F₂ N₂ l2 l3
  have hul := ints_three hIu
  obtain ⟨te, t1, N₂⟩ : ∃ te t1 : Tok, News _ _ hA [(rwA, listOf #[.str (Str.ofString ".local") t1] 0), (hB.objs.size, oD), (zA, listOf #[.ref eA] 0), (DA, listOf us.toArray 0), (eA, listOf #[.str (Str.ofString "local") te] 0), (Array.size (Heap.objs s₁.heap) + 1, oC)] := by
    refine ⟨?te, ?t1, N_sub N₁ fun p hp => ?_⟩
    rotate_left 2
    rcases List.mem_cons.mp hp with rfl | hp
    · k_mem
    rcases List.mem_cons.mp hp with rfl | hp
    · k_mem
    rcases List.mem_cons.mp hp with rfl | hp
    · k_mem
    rcases List.mem_cons.mp hp with rfl | hp
    · k_mem
    rcases List.mem_cons.mp hp with rfl | hp
    · k_mem
    rcases List.mem_cons.mp hp with rfl | hp
    · k_mem
    cases hp
  clear N₁
  refine forS_list (LawJ (RowW.prog (OpenRow.toRowW (OpenLaw.row PySem.Challenge.rw_zo0019_01))) w rwA hB.objs.size zA (eA, listOf #[.str (Str.ofString "local") te] 0)) (led₀ := [(rwA, listOf #[.str (Str.ofString ".local") t1] 0), (hB.objs.size, oD), (zA, listOf #[.ref eA] 0)])
    (base := [(DA, listOf us.toArray 0), (eA, listOf #[.str (Str.ofString "local") te] 0), (Array.size (Heap.objs s₁.heap) + 1, oC)]) rfl rfl rfl (.head _) F₁ N₂ ?j0 (fun i led h => lawJ_apart h) ?turn ?done
  case j0 =>
    refine ⟨oD, _, [.str (Str.ofString ".local") t1], [.ref eA], 0, 0, [[labLoc]], [Str.ofString ".local"], [], rfl, hdict, ?zs, .cons _ _ .nil, .one (.list (.head _) (.cons (.str _ _) .nil)), by decide, ?kl, (fun h => absurd h (by decide)), fun p hp => nomatch hp⟩
    case zs => exact zone_start _
    case kl => exact Nat.le_refl 1
  case turn =>
    rintro i v h tk g led I oI u hv ⟨o, kvs, vs, zs, nr, nz, Z, R, own, rfl, hD, hZ, hR, hzd, hZl, hkl, hZ2, hown⟩ hg hIl hap ⟨kI, hoI⟩ F N
    obtain ⟨n, tn, rfl⟩ := ints_get hIu hv
    have Nw : News _ _ h [(Array.size (Heap.objs s₁.heap) + 1, oC)] := N_sub N fun p hp => List.mem_append_right _ (.tail _ (.tail _ (.tail _ hp)))
    have kN : Halt (News _ _ _ _) := N
    have hap2 : ∀ p ∈ own, p.1 ≠ I := fun p hp => hap p (List.mem_append_left _ (.tail _ (.tail _ (.tail _ hp))))
    have hI1 := neN (hap _ (List.mem_append_left _ (.head _)))
    have hI2 := neN (hap _ (List.mem_append_left _ (.tail _ (.head _))))
    have hI3 := neN (hap _ (List.mem_append_left _ (.tail _ (.tail _ (.head _)))))
    dsimp only at hI1 hI2 hI3
    have hi := (List.getElem?_eq_some_iff.mp hv).1
    clear N F₁ N₂
    refine S_execs_cons (S_If (S_isTrue_not (S_isTrue_plain (S_Call (K := hd.heap_39 w.params) (f := .ref 139) ?kf rfl ?_))))
    case kf => exact rfl
    k_steps
    refine S_arg (S_of ?_)
    k_steps
    refine S_arg (S_of ?_)
    k_steps
    refine S_arg (S_of ?_)
    k_steps
    refine S_arg (S_of ?_)
    k_steps
    refine S_noarg ?_
    refine ⟨KX.keeps F.keep, ?_⟩
    k_dflt (refine' c_turn (nd := own ++ [(eA, listOf #[.str (Str.ofString "local") te] 0)]) (news := own ++ ((I, oI) :: [(DA, listOf us.toArray 0), (eA, listOf #[.str (Str.ofString "local") te] 0), (Array.size (Heap.objs s₁.heap) + 1, oC)])) ?k1 ?k2 ?k3 kN ?k5 ?k6 ?k7 ?k8 rfl hD lo0 hZ hR ?hnd hzd ?zl ?kl ?q1 ?q2 ?q3 ?q4 ?_; (case k1 => k_asm); (case k2 => k_asm); (case k3 => k_asm); (case k5 => k_asm); (case k6 => first | exact rfl | assumption); (case k7 => first | ktr_room | ((try dsimp only); omega)); (case k8 => first | ktr_units | ((try dsimp only); omega)))
    case hnd =>
      intro p hp
      rcases List.mem_append.mp hp with hp | hp
      · exact List.mem_append_left _ hp
      · rw [List.mem_singleton.mp hp]
        exact List.mem_append_right _ (.tail _ (.tail _ (.head _)))
    case zl => omega
    case kl => omega
    case q1 => exact neN (by (try dsimp only); omega)
    case q2 => exact neN (by (try dsimp only); omega)
    case q3 => exact neN (by (try dsimp only); omega)
    case q4 =>
      intro p hp
      rcases List.mem_append.mp hp with hp | hp
      · exact (hown p hp).1
      · rcases List.mem_cons.mp hp with rfl | hp
        · exact ⟨Ne.symm hI1, Ne.symm hI2, Ne.symm hI3⟩
        · simp only [List.mem_cons, List.not_mem_nil, or_false] at hp
          rcases hp with rfl | rfl | rfl <;> exact ⟨neN (by (try dsimp only); omega), neN (by (try dsimp only); omega), neN (by (try dsimp only); omega)⟩
    intro o' kvs' vs' zs' nr' nz' Z' R' own' h' tk' g' hg' hD' hZ' hR' hzd' hl1 hlk hl2 hown' F' N'
    refine wpAny_truthy_bool ?_
    refine S_execs_nil (S_execs_nil ⟨rfl, (rwA, listOf vs'.toArray nr') :: (hB.objs.size, o') :: (zA, listOf zs'.toArray nz') :: (own' ++ own), h', tk', g', rfl, hg.trans hg', ⟨o', kvs', vs', zs', nr', nz', Z', R', own' ++ own, rfl, hD', hZ', hR', by simpa [List.append_assoc] using hzd', by omega, by omega, fun _ => hl2, fun p hp => ?_⟩, F', by
      show News _ _ _ (_ :: _ :: _ :: ((own' ++ own) ++ _))
      rw [List.append_assoc]
      exact N'⟩)
    rcases List.mem_append.mp hp with hp | hp
    · exact hown' p hp
    · exact hown p hp
  case done =>
    rintro h tk g u led ⟨o, kvs, vs, zs, nr, nz, Z, R, own, rfl, hD, hZ, hR, hzd, hZl, hkl, hZ2, hown⟩ hg F N
    dsimp only at hg ⊢
    have hul' : 3 ≤ us.length := hul.1
    have hne : ∀ p ∈ ((rwA, listOf vs.toArray nr) :: (hB.objs.size, o) :: (zA, listOf zs.toArray nz) :: own) ++ [(DA, listOf us.toArray 0), (eA, listOf #[.str (Str.ofString "local") te] 0), (Array.size (Heap.objs s₁.heap) + 1, oC)], p.1 ≠ 141 := fun p hp q => by
      have e := (N p hp).2.2
      have e2 := hT8 141 (.head _)
      rw [q, e2] at e
      cases e
    kn_ghosts F T
    with_reducible rename Fr _ _ _ _ => F₂
    with_reducible rename News _ _ _ _ => N₂
    with_reducible rename Top _ _ _ _ _ _ => T₂
    with_reducible rename Below _ _ _ _ => B₂
    with_reducible rename Frag.In _ _ => X₂
    have N₃ : News _ _ h ((141, tabObj #[]) :: (((rwA, listOf vs.toArray nr) :: (hB.objs.size, o) :: (zA, listOf zs.toArray nz) :: own) ++ [(DA, listOf us.toArray 0), (eA, listOf #[.str (Str.ofString "local") te] 0), (Array.size (Heap.objs s₁.heap) + 1, oC)])) := N_sub N₂ fun p hp => by
      rcases List.mem_cons.mp hp with rfl | hp
      · simp
      · exact List.mem_append_left _ hp
    clear N₂
    refine S_execs_cons (S_of (A_hide fun Q₂ hQ₂ => ?_))
    k_with "eval Lambda" => refine Halt.mk ?_
    k_steps
    refine Halt.un ?_
    refine kla_eval rfl ?_
    refine kla_nest (clos := []) (ps := #[]) F₂ N₃ T₂ ?C rfl (.head hne) True.intro ?n ?cl ?_
    case C => assumption
    case n => exact rfl
    case cl => exact rfl
    intro f c' oc' vs' t' ct' h₄ tk₄ F₄ N₄ d1 d2 l1 l2
    k_with_none
    k_with "m:subscriptTail" => (k_here; (with_reducible show wpAny _ _ (subscriptTail _ _ (Value.ref _) (Value.str _ _)) _ _ _); (with_unfolding_all refine' dict_item ?k1 ?k2 ?k3 ?k4 ?_; (case k1 => k_asm); (case k2 => k_mem); (case k3 => assumption); (case k4 => assumption); k_whole))
    k_with "call builtin:sorted" => refine Halt.mk ?_
    k_steps
    refine Halt.un ?_
    show wpAny _ _ (call (.builtin "sorted") [.ref _] [(Str.ofString "key", .ref f)]) _ _ _
    refine zone_sorted (zs := zs) (nz := nz) (nd := own ++ [(eA, listOf #[.str (Str.ofString "local") te] 0)]) F₄ N₄ ?hz hZ hzd ?hnd ?h2 ?hun ?lam ?_
    case hz => exact .tail _ (.tail _ (.tail _ (.tail _ (.tail _ (.head _)))))
    case hnd =>
      intro p hp
      refine .tail _ (.tail _ (.tail _ (.tail _ (.tail _ (.tail _ ?_)))))
      rcases List.mem_append.mp hp with hp | hp
      · exact List.mem_append_left _ hp
      · rw [List.mem_singleton.mp hp]
        exact List.mem_append_right _ (.tail _ (.head _))
    case h2 => exact hZ2 (by omega)
    case hun => first | decide | ke_room | k_room
    case lam =>
      intro s' led la ul na Q' F₅ N₅ hs hm hlen hQ'
      refine wpAny_call ?_
      refine' kla_code ?k1 F₅ ?k3 N₅ ?k5 ?kA ?kF ?kK (hs _ (.head _)) (codeRec_news N₅ (hs _ (.tail _ (.head _))) d1 d2) ?k8 ?k9 ?kB ?_ ?c2 ?c3 ?c4 ?c5
      case kA => exact rfl
      case kF => exact rfl
      case kK => exact rfl
      case k1 => exact B₂
      case k3 => exact X₂
      case k5 => exact T₂
      case k8 => k_room
      case k9 => exact rfl
      case c5 => decide
      case kB => exact locs rfl
      case c2 => exact rfl
      case c3 => exact rfl
      case c4 => exact rfl
      k_whole
      intro g' L' h₆ FG F₆ N₆ B₆ X₆ T₆
      (try dsimp only)
      clear F₅
      k_with_none
      k_with "m:subscriptTail" => (k_here; (with_reducible show wpAny _ _ (subscriptTail _ _ (Value.ref _) (Value.str _ _)) _ _ _); (with_unfolding_all refine' dict_item ?k1 ?k2 ?k3 ?k4 ?_; (case k1 => k_asm); (case k2 => k_mem); (case k3 => assumption); (case k4 => assumption); k_whole))
      k_with "evalPart none" => refine Halt.mk ?_
      k_with "evalPart some" => refine Halt.mk ?_
      k_steps
      refine Halt.un (evalPart_none_step ?_)
      k_steps
      refine Halt.un (evalPart_none_step ?_)
      k_steps
      refine Halt.un (evalPart_some_step ?_)
      refine eval_then ?ev fun tu tku => ?_
      case ev =>
        k_steps
      show wpAny _ _ (subscriptTail _ _ (.ref la) (.ref _)) _ _ _
      with_reducible rename Fr _ _ _ _ => F₇
      with_reducible rename News _ _ _ _ => N₇
      refine' krv_lit (its := ul.toArray) (zs := ul.reverse) F₇ N₇ (News.isList N₇ hm) (.int _ _) ?le ?_ ?ls ?lt ?lz
      case le => simp
      case ls => with_unfolding_all rfl
      case lt => kmk_pure
      case lz => rw [List.size_toArray, sizeLine_eq]; omega
      intro D h₇ F₈ N₈ l₈
      refine leaveK_ F₈ N₈ fun kF kN => ?_
      exact hQ' D h₇ _ kF kN l₈
    intro D p c h₅ tk₅ hp1 hp2 hp3 F₅ N₅ l3
    k_steps
    subst hQ₂
    dsimp only
    refine S_execs_cons (S_Return (S_Compare1 (A_hide fun Q₃ hQ₃ => ?_)))
    with_reducible rename Fr _ _ _ _ => F₆
    with_reducible rename News _ _ _ _ => N₆
    have hrow := row_sorted hZ hp1 hp2 hp3
    have nC : Array.size (Heap.objs s₁.heap) + 1 ≠ 141 := hne (Array.size (Heap.objs s₁.heap) + 1, oC) (List.mem_append_right _ (.tail _ (.tail _ (.head _))))
    refine' wpAny_ListComp_free (cl := [(Str.ofString "names", Array.size (Heap.objs s₁.heap) + 1)]) (fun _ => true) (fun v y => ∃ (z : List Str) (t t' : Tok), z ∈ Z ∧ v = Value.str (turnF z) t ∧ y = Value.str (joinF z) t') ?k1 ?k2 ?k3 ?k4 ?k5 ?_ ?k6
    case k1 => exact rfl
    case k2 => decide
    case k3 => exact rfl
    case k4 => decide
    case k5 => exact rfl
    case k6 => intro _; rfl
    k_with "pyIter ref" => refine Halt.mk ?_
    k_steps
    refine Halt.un ?_
    have mrw : (rwA, listOf vs.toArray nr) ∈ ((rwA, listOf vs.toArray nr) :: (hB.objs.size, o) :: (zA, listOf zs.toArray nz) :: own) ++ [(DA, listOf us.toArray 0), (eA, listOf #[.str (Str.ofString "local") te] 0), (Array.size (Heap.objs s₁.heap) + 1, oC)] := .head _
    obtain ⟨tb, N₇⟩ : ∃ tb, News _ _ _ ((D, listOf (List.toArray (p.map fun i => zs.getD i Value.none)) c) :: (rwA, listOf vs.toArray nr) :: (hB.objs.size, o) :: (Array.size (Heap.objs s₁.heap) + 1, oC) :: (141, tabObj tb) :: (((rwA, listOf vs.toArray nr) :: (hB.objs.size, o) :: (zA, listOf zs.toArray nz) :: own) ++ [(DA, listOf us.toArray 0), (eA, listOf #[.str (Str.ofString "local") te] 0), (Array.size (Heap.objs s₁.heap) + 1, oC)])) := by
      apply Exists.intro
      refine N_sub N₆ fun p hp => ?_
      rcases List.mem_cons.mp hp with rfl | hp
      · exact .head _
      rcases List.mem_cons.mp hp with rfl | hp
      · exact .tail _ (.tail _ (.tail _ (.tail _ (.head _))))
      rcases List.mem_cons.mp hp with rfl | hp
      · exact .tail _ (.tail _ (.tail _ (.tail _ (.tail _ (.head _)))))
      rcases List.mem_cons.mp hp with rfl | hp
      · exact .tail _ (.tail _ (.tail _ (.tail _ (List.mem_append_right _ (.tail _ (.tail _ (.head _)))))))
      rcases List.mem_cons.mp hp with rfl | hp
      · exact .tail _ (.tail _ (.tail _ (.head _)))
      · exact .tail _ (.tail _ (.tail _ (.tail _ hp)))
    clear N₆
    have hLr : Heap.IsList _ rwA vs.toArray := ⟨_, (N₇ _ (.tail _ (.head _))).1, rfl, _, rfl⟩
    have hlt := Heap.lt_size (N₇ _ (.tail _ (.head _))).1
    refine wpAny_pyIter_list hLr ⟨_, _, _, _, _, _, rfl, Walks.list rfl _ _ (Nat.ne_of_lt hlt) _, ?sz71, ⟨⟨_, Heap.get?_push_size _ rfl, rfl, rfl⟩, hLr.push _⟩, ?fp71, ⟨?te71, ?el71⟩, ?po71⟩
    case sz71 => rw [sizeLine_eq, List.size_toArray, hR.length, hZ.rlen]; have := hZ.len; omega
    case fp71 =>
      intro b hb
      rcases List.mem_cons.mp hb with rfl | hb
      · simp
      · rw [List.mem_singleton.mp hb]; simp; exact Nat.lt_succ_of_lt hlt
    case te71 => exact fun C i v s₃ m₃ E' _ _ _ _ _ _ => wpAny_pure ⟨rfl, _, _, rfl, fun _ _ e => e⟩
    case el71 =>
      rintro C i v s₃ m₃ E' hC hv _ hns hm hkk htk
      have hkp := fun b o e => hkk b o (fun q => Nat.lt_irrefl _ (List.mem_singleton.mp q ▸ Heap.lt_size e)) (Heap.get?_push_of_some _ e)
      clear hkk
      obtain ⟨key, tkey, rfl, hkR⟩ := strs_at hR hv
      obtain ⟨z, hzZ, rfl⟩ := (hZ.row key).mp hkR
      obtain ⟨tz, hval⟩ := hZ.dict z hzZ
      clear hne hrow hp1 hp2 hp3 hown hzd
      k_steps
      all_goals first | assumption | exact ⟨_, _, rfl, fun _ _ e => e⟩
    case po71 =>
      rintro D₃ h₈ tk₈ ys₁ vs₁ hD₃ hl₈ hpl₈ hlen hP hF hkk
      with_reducible rename Fr _ _ _ _ => F₇
      obtain ⟨n₃, N₈, F₈⟩ := made_at F₇ N₇ hkk hD₃ hpl₈
      have hS₁ := names_made hZ hp2 hrow (by simpa using hlen) hP hF hR
      clear hF hP hlen hkk hl₈ hpl₈ hD₃ hLr hlt F₇ N₇
      subst hQ₃
      dsimp only
      refine S_of ?_
      refine' wpAny_ListComp_free (cl := []) (fun _ => true) (fun v y => ∃ (la : Addr) (us' : List Value) (na : Nat) (x : List Str) (t : Tok), v = Value.ref la ∧ (la, listOf us'.toArray na) ∈ own ++ [(eA, listOf #[.str (Str.ofString "local") te] 0)] ∧ StrsAre us' x ∧ y = Value.str (joinF x) t) ?k1 ?k2 ?k3 ?k4 ?k5 ?_ ?k6
      case k1 => exact rfl
      case k2 => decide
      case k3 => exact rfl
      case k4 => decide
      case k5 => exact rfl
      case k6 => intro _; rfl
      k_steps
      refine Halt.un ?_
      have hzo : ∀ q ∈ own ++ [(eA, listOf #[.str (Str.ofString "local") te] 0)], q ∈ (D₃, listOf ys₁.toList.toArray n₃) :: (D, listOf (List.toArray (p.map fun i => zs.getD i Value.none)) c) :: (rwA, listOf vs.toArray nr) :: (hB.objs.size, o) :: (Array.size (Heap.objs s₁.heap) + 1, oC) :: (141, tabObj tb) :: (((rwA, listOf vs.toArray nr) :: (hB.objs.size, o) :: (zA, listOf zs.toArray nz) :: own) ++ [(DA, listOf us.toArray 0), (eA, listOf #[.str (Str.ofString "local") te] 0), (Array.size (Heap.objs s₁.heap) + 1, oC)]) := fun q hq => by
        iterate 9 refine List.Mem.tail _ ?_
        rcases List.mem_append.mp hq with hq | hq
        · exact List.mem_append_left _ hq
        · rw [List.mem_singleton.mp hq]
          exact List.mem_append_right _ (.tail _ (.head _))
      with_reducible rename Fr _ _ _ _ => F₉
      have hLo : Heap.IsList _ D (List.toArray (p.map fun i => zs.getD i Value.none)) := ⟨_, (N₈ _ (.tail _ (.head _))).1, rfl, _, rfl⟩
      have hlt := Heap.lt_size (N₈ _ (.tail _ (.head _))).1
      refine wpAny_pyIter_list hLo ⟨_, _, _, _, _, _, rfl, Walks.list rfl _ _ (Nat.ne_of_lt hlt) _, ?sz72, ⟨⟨_, Heap.get?_push_size _ rfl, rfl, rfl⟩, hLo.push _⟩, ?fp72, ⟨?te72, ?el72⟩, ?po72⟩
      case sz72 => rw [sizeLine_eq, List.size_toArray, List.length_map, hp1]; have := hZ.len; omega
      case fp72 =>
        intro b hb
        rcases List.mem_cons.mp hb with rfl | hb
        · simp
        · rw [List.mem_singleton.mp hb]; simp; exact Nat.lt_succ_of_lt hlt
      case te72 => exact fun C i v s₃ m₃ E' _ _ _ _ _ _ => wpAny_pure ⟨rfl, _, _, rfl, fun _ _ e => e⟩
      case el72 =>
        rintro C i v s₃ m₃ E' hC hv _ hns hm hkk htk
        have hkp := fun b o e => hkk b o (fun q => Nat.lt_irrefl _ (List.mem_singleton.mp q ▸ Heap.lt_size e)) (Heap.get?_push_of_some _ e)
        clear hkk
        obtain ⟨x, la, us', na, rfl, hla, hxs, hxZ⟩ := order_at hzd hp2 hv
        have hxl := znames_shape x (hZ.zin x hxZ)
        have hla3 := hkp _ _ (N₈ _ (hzo _ hla)).1
        clear hne hrow hp1 hp3 hown hzd hlt hLo hzo N₈
        k_steps
        refine join_list (ys := x) ⟨_, hla3, rfl, _, rfl⟩ (by simpa using hxs) (labs_join hxl.1 hxl.2.2) fun tj kj => ?_
        exact ⟨⟨la, us', na, x, _, rfl, hla, hxs, rfl⟩, _, _, rfl, fun _ _ e => e⟩
      case po72 =>
        rintro D₄ h₉ tk₉ ys₂ vs₂ hD₄ hl₉ hpl₉ hlen hP hF hkk
        obtain ⟨n₄, N₉, F₁₀⟩ := made_at F₉ N₈ hkk hD₄ hpl₉
        have hS₂ := order_made (N_sub N₈ hzo) hzd hp2 (by simpa using hlen) hP hF
        refine kqd_eq (n₁ := []) (n₂ := []) N₉ (.tail _ (.head _)) rfl rfl (strs_dat hS₁) (fun _ h => nomatch h) (.head _) rfl rfl (strs_dat hS₂) (fun _ h => nomatch h) (joins_ok hZ hp2) (joins_ok hZ hp2) ?room ?_
        case room => first | ke_room | decide
        rw [dec_self]
        subst hQ₁
        dsimp only
        have h141 := (N₉ _ (.tail _ (.tail _ (.tail _ (.tail _ (.tail _ (.tail _ (.head _)))))))).1
        have hgb : AllBare s₁.gens := by
          have e : s₁.gens = #[] := hg0
          rw [e]
          intro y hy
          simp at hy
        refine end_true hT9 (fun _ _ => rfl) F₁₀.keep (fun q hq => ?_) rfl (hg.bare hgb) ?_
        · rw [List.mem_singleton.mp hq]
          exact ⟨_, h141⟩
        · wrow_post)
end Mine
end
set_option maxRecDepth 100000 in
set_option maxHeartbeats 8000000 in
theorem PySem.Challenge.cw_zo0019_01_holds : PySem.Challenge.rw_zo0019_01.Holds := by
  exact Mine.law_hold
