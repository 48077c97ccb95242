import PyProof.Rows.All
import Wide.All
import OpenK.AllK
import Wide.FinOn
import PySem.Challenge.RW_jm0001_01
set_option Elab.async false
set_option linter.all false

/-! text Pre -/
section
open PySem PySem.W PyProof.Rows
set_option Elab.async false
set_option maxRecDepth 100000
namespace Mine
open PySem.Sem (wp)

/-- a frame that may hold a bytearray fast: the model's decoders -/
def heldCode : Code → Bool
  | .builtin id _ => Builtin.Bytes.decodersThatHold.contains id
  | _ => false
def heldAny (l : List (Code × Pos)) : Bool := l.any fun x => heldCode x.1

/-- the call, behind one look at the stack -/
def runLook (f : Value) (vs : List Value) : Sem Value := do
  let st ← stack
  if heldAny st then pure (.bool true) else PySem.call f vs
def treeLook (name : Str) (vs : List Value) : Sem Fin := do
  let st ← stack
  if heldAny st then ret (.bool true) else do
    match ← nsGet mainNs name with
    | some f => do ret (← PySem.call f vs)
    | none => unsupported "claim.caller:no-such-global"

theorem sched_one {den : Code → Sem Fin} {prog : Program} {w : World} {s s' : Shared} {t t' : Thread} {n : Nat} {o : Outcome} (hz : s.asleep) (hc : t.calm = true)
    (hs : step den prog w s t = .go s t') (h : schedN den prog w n (.single s t) = .halted o s') : ∃ k, schedN den prog w k (.single s t') = .halted o s' := by
  cases n with
  | zero => cases h
  | succ n =>
    rcases sstep_single den prog w s t hc hz with e | e
    · simp only [schedN, e, hs, Step.lift] at h
      exact ⟨n, h⟩
    · rw [hs] at e; cases e

theorem holdsOpen_drop {c : ClaimW} {name : Str} {defs keeps : List Str} {writes : Bool}
    (H : c.HoldsOpenBy (fun vs => ⟨treeLook name vs, .builtin "claim.caller" {}, default, []⟩) defs keeps writes) : c.HoldsOpenBy (callStub name) defs keeps writes := by
  refine ⟨H.1, H.2.1, fun w => ⟨(H.2.2 w).1, fun s hs => ?_⟩⟩
  obtain ⟨s₀, h1, h2, s₁, hT, h3, h4, h5, hc⟩ := (H.2.2 w).2 s hs
  have hz : s₁.asleep := Shared.asleep_of_life (hT.2.1.trans (fence_lifeW h1)) (AfterImport.life (prog := opening c.prog) (w := w) hs)
  refine ⟨s₀, h1, h2, s₁, hT, h3, h4, h5, fun args ha hl ord ho => ?_⟩
  obtain ⟨vs, s₂, hlaid, n, o, s', hsch, rest⟩ := hc args ha hl ord ho
  have hz2 : s₂.asleep := Shared.asleep_of_life (layAllW_rest _ _ _ hlaid).2.2.2 hz
  obtain ⟨k, hk⟩ := sched_one (t' := callStub name vs) hz2 (by rfl) (by rfl) hsch
  exact ⟨vs, s₂, hlaid, k, o, s', hk, rest⟩

theorem wpAny_stack_split {α : Type} {M : Model} {A : Around} {a b : Sem α} {Q : α → Shared → Prop} {E : Value → Shared → Prop} {s : Shared}
    (h : ∀ Γ p, Γ.In A → (heldAny ((Γ.code, p) :: Γ.below) = true → wp M Γ a (fun x _ s' => Q x s') (fun e _ s' => E e s') p s) ∧ (heldAny ((Γ.code, p) :: Γ.below) = false → wp M Γ b (fun x _ s' => Q x s') (fun e _ s' => E e s') p s)) :
    wpAny M A (stack >>= fun st => if heldAny st then a else b) Q E s := fun Γ p hΓ => by
  rw [Sem.wp_bind']
  show wp M Γ (.stack .pure) _ _ p s
  rw [Sem.wp_stack, Sem.wp_pure]
  obtain ⟨h1, h2⟩ := h Γ p hΓ
  cases hb : heldAny ((Γ.code, p) :: Γ.below) with
  | true => rw [if_pos rfl]; exact h1 hb
  | false => rw [if_neg Bool.false_ne_true]; exact h2 hb

theorem look_split {M : Model} {A : Around} {Q : Value → Shared → Prop} {E : Value → Shared → Prop} {s : Shared} {f : Value} {vs : List Value} (h : wpAny M A (runLook f vs) Q E s) (Γ : Ctx) (p : Pos) (hΓ : Γ.In A) :
    (heldAny ((Γ.code, p) :: Γ.below) = true → Q (.bool true) s) ∧ (heldAny ((Γ.code, p) :: Γ.below) = false → wp M Γ (PySem.call f vs) (fun x _ s' => Q x s') (fun e _ s' => E e s') p s) := by
  have h' := h Γ p hΓ
  unfold runLook at h'
  rw [Sem.wp_bind'] at h'
  replace h' : wp M Γ (.stack .pure) _ _ p s := h'
  rw [Sem.wp_stack, Sem.wp_pure] at h'
  constructor
  · intro hb
    rw [hb, if_pos rfl] at h'
    exact h'
  · intro hb
    rw [hb, if_neg Bool.false_ne_true] at h'
    exact h'

theorem PySem.W.holds_open {r : OpenRow} {q : Program} {loose : List Str} {Xt : Shared → Bool} {XP : (Str → Option Value) → Heap → Prop} {α : Type} {Yf : Shared → α} {Ya : World → α} {YP : World → Heap → Prop} {d : DefRec} {kwd : List (Str × Expr)} {N : Nat}
    (left : LeftO r.prog q loose Xt Yf Ya N) (hY : ∀ w s, Yf s = Ya w → YP w s.heap) (hYk : ∀ w h h', YP w h → (∀ b o, h.get? b = some o → h'.get? b = some o) → YP w h')
    (hX : ∀ s, Xt s = true → XP (s.heap.nsMap mainGlobals) s.heap) (hXk : ∀ mg h h', XP mg h → (∀ b o, h.get? b = some o → h'.get? b = some o) → XP mg h')
    (hdef : defOf q r.name = some (d, kwd)) (hp : r.prog.theDef r.name = some (d.params, d.body, d.scope)) (hk : kwWritten? d.params.kwonlyargs d.params.kw_defaults = some kwd) (hRf : ∀ s, Xt s = true → RecFacts r.records s.heap) (hwr : (!r.writes || r.records.isEmpty) = true)
    (k1 : r.wellSaid = true) (ok : (chainsOk q && opensWell r.prog && (frees r.toRowW && r.within.isEmpty)) = true) (hb : r.prog.bare) (hw : r.toRowW.promised)
    (call : WalkO q loose XP YP r.toRowW d kwd runLook) : r.Holds := by
  refine ⟨k1, hw, holdsOpen_drop (open_anyG (r := r.toRowW) (run := runLook) (tree := treeLook r.name) left hY hYk hX hXk hRf hwr ok hb hw ?_ ?_ ?_)⟩
  · intro vs w s mg f Q E hg hf h
    refine wpAny_stack_split fun Γ p hΓ => ?_
    obtain ⟨h1, h2⟩ := look_split h Γ p hΓ
    refine ⟨fun hb => h1 hb, fun hb => ?_⟩
    have h3 : wpAny (model r.prog w) callerA (nsGet mainNs r.name) (fun x s' => x = some f ∧ s' = s) E s := wpAny_nsGet hg ⟨hf, rfl⟩
    rw [Sem.wp_bind']
    refine Sem.wp_mono _ _ _ (fun x p' s' h4 => ?_) (fun _ _ _ h4 => h4) _ _ (h3 Γ p hΓ)
    obtain ⟨rfl, rfl⟩ := h4
    rw [Sem.wp_bind']
    exact Sem.wp_mono _ _ _ (fun x p' s' h5 => h5) (fun _ _ _ h4 => h4) _ _ ((look_split h Γ p' hΓ).2 hb)
  · intro w s hg G n hn
    obtain rfl : n = r.name := by split at hn <;> simp_all
    exact pinned_of_view hg G hdef hp hk
  · intro w s₀ s₁ mg mb G Y args vs as hpre hlay L low
    obtain ⟨a, o, pm, cd, doc, dV, kV, h1, h2, h3, h4, h5⟩ := G.fn hdef
    exact ⟨.ref a, h1, call w s₀ s₁ mg mb G Y a o pm cd doc dV kV h2 h3 h4 h5 (defOf_name hdef ▸ h1) L.gens args vs as hpre hlay L.reads L.well (L.low low)⟩
end Mine

end
/-! text Hd -/
section
open PySem PySem.W PyProof.Rows
set_option Elab.async false
set_option maxRecDepth 100000
set_option maxHeartbeats 8000000
namespace Mine
section
local macro_rules | `(tactic| o_head $H) => `(tactic| (assumption; exact $H))
def pickHook (x : Hook) {p : Prop} (_ : p) : Hook := x
noncomputable def hd (hin : (OpenLaw.row PySem.Challenge.rw_jm0001_01).Holds) : Hook := by
  refine pickHook ?x (p := (OpenLaw.row PySem.Challenge.rw_jm0001_01).Holds) ?p
  rotate_left
  k_head
end
end Mine

end
/-! text PathP -/
section
open PySem PySem.W PyProof.Rows
set_option Elab.async false
set_option maxRecDepth 100000
namespace Mine
open PySem.Sem (wp)

/-- wpAny over the contexts whose stack holds no decoder frame -/
structure wpP {α : Type} (M : Model) (A : Around) (t : Sem α) (Q : α → Shared → Prop) (E : Value → Shared → Prop) (s : Shared) : Prop where
  on : ∀ Γ p, Γ.In A → heldAny ((Γ.code, p) :: Γ.below) = false → wp M Γ t (fun a _ s' => Q a s') (fun e _ s' => E e s') p s
def codeP (M : Model) (A : Around) (c : Code) (R : Result → Shared → Prop) (s : Shared) : Prop :=
  ∀ Γ p, Γ.code = c → Γ.Below A → heldAny Γ.below = false → wpCode M Γ R p s

theorem held_pos {c : Code} {p p' : Pos} {l : List (Code × Pos)} : heldAny ((c, p) :: l) = heldAny ((c, p') :: l) := rfl
theorem held_cons {c : Code} {p : Pos} {l : List (Code × Pos)} (h : heldCode c = false) (hl : heldAny l = false) : heldAny ((c, p) :: l) = false := by
  show (heldCode c || heldAny l) = false
  rw [h, hl]; rfl
section
variable {α β : Type} {M : Model} {A : Around} {E : Value → Shared → Prop} {s : Shared}
theorem wpP_of {t : Sem α} {Q : α → Shared → Prop} (h : wpAny M A t Q E s) : wpP M A t Q E s := ⟨fun Γ p hΓ _ => h Γ p hΓ⟩
theorem wpP_mono {t : Sem α} {Q Q' : α → Shared → Prop} {E' : Value → Shared → Prop} (h : wpP M A t Q E s) (hQ : ∀ a s, Q a s → Q' a s) (hE : ∀ e s, E e s → E' e s) : wpP M A t Q' E' s :=
  ⟨fun Γ p hΓ hN => Sem.wp_mono M Γ t (fun a _ s => hQ a s) (fun e _ s => hE e s) p s (h.on Γ p hΓ hN)⟩
theorem wpP_pure {a : α} {Q : α → Shared → Prop} (h : Q a s) : wpP M A (pure a) Q E s := ⟨fun _ _ _ _ => h⟩
theorem wpP_bind {m : Sem α} {f : α → Sem β} {Q : β → Shared → Prop} (h : wpP M A m (fun a s' => wpP M A (f a) Q E s') E s) : wpP M A (m >>= f) Q E s := ⟨fun Γ p hΓ hN => by
  rw [Sem.wp_bind']
  exact Sem.wp_mono M Γ m (fun a p' s' h' => h'.on Γ p' hΓ (held_pos.trans hN)) (fun _ _ _ h' => h') p s (h.on Γ p hΓ hN)⟩
theorem wpP_seq {m : Sem α} {f : α → Sem β} {Q : β → Shared → Prop} (h : wpAny M A m (fun a s' => wpP M A (f a) Q E s') E s) : wpP M A (m >>= f) Q E s := wpP_bind (wpP_of h)
theorem wpP_holding {vs : List Value} {m : Sem α} {Q : α → Shared → Prop} (h : wpP M A m Q E s) : wpP M A (holding vs m) Q E s := ⟨fun Γ p hΓ hN => by
  rw [Sem.wp_holding]; exact h.on Γ p hΓ hN⟩
theorem wpP_keep {vs : List Value} {m : Sem α} {Q : α → Shared → Prop} (h : wpP M A m Q E s) : wpP M A (m.keep vs) Q E s := ⟨fun Γ p hΓ hN => by
  rw [Sem.wp_keep]; exact h.on Γ p hΓ hN⟩
theorem wpP_stack {Q : List (Code × Pos) → Shared → Prop} (h : ∀ l, heldAny l = false → (∀ g, A.guards = some g → guardsOf l = g) → Q l s) : wpP M A stack Q E s := ⟨fun Γ p hΓ hN => by
  show wp M Γ (.stack .pure) _ _ p s
  rw [Sem.wp_stack, Sem.wp_pure]
  exact h _ hN fun g hg => by rw [guardsOf_cons]; exact hΓ.2.2.2.1 g hg⟩
theorem codeP_of {c : Code} {R : Result → Shared → Prop} (h : codeAny M A c R s) : codeP M A c R s := fun Γ p hc hΓ _ => h Γ p hc hΓ
theorem codeP_mono {c : Code} {R R' : Result → Shared → Prop} (h : codeP M A c R s) (hR : ∀ r s, R r s → R' r s) : codeP M A c R' s := fun Γ p hc hΓ hN => wpCode_mono hR (h Γ p hc hΓ hN)

theorem codeP_of_tree {c : Code} {R : Result → Shared → Prop} (hc : heldCode c = false)
    (h : wpP M (A.under c) (M.den c) (fun fin s' => match fin with | .done f => R (.ok f) s' | .again c' => c'.quiet = true ∧ codeP M A c' R s') (fun e s' => R (.error e) s') s) : codeP M A c R s := fun Γ p hcd hΓ hN => by
  rw [wpCode_iff_wp, hcd]
  refine Sem.wp_mono M Γ _ (fun fin p' s' h' => ?_) (fun _ _ _ h' => h') p s (h.on Γ p (hcd ▸ hΓ.in) (held_cons (hcd.symm ▸ hc) hN))
  cases fin with
  | done f => exact h'
  | again c' => exact ⟨h'.1, h'.2 (Γ.goto c') p' rfl (hΓ.goto c') hN⟩

theorem wpP_run {c : Code} {Q : Flow → Shared → Prop} (hc : codeP M A c (fun r s' => match r with | .ok f => Q f s' | .error e => E e s') s) : wpP M A (run c none) Q E s := ⟨fun Γ p hΓ hN => by
  rw [Sem.wp_run]
  exact hc _ p rfl (hΓ.enter c none p (by intro x; cases x)) hN⟩
theorem wpP_runValue {c : Code} {Q : Value → Shared → Prop} (hc : codeP M A c (fun r s' => match r with | .ok (.ret v) => Q v s' | .ok _ => False | .error e => E e s') s) : wpP M A (runValue c) Q E s := ⟨fun Γ p hΓ hN => by
  rw [Sem.wp_runValue]
  exact hc _ p rfl (hΓ.enter c none p (by intro x; cases x)) hN⟩
theorem wpP_call {f : Value} {pos : List Value} {kw : List (Str × Value)} {Q : Value → Shared → Prop}
    (hc : codeP M A (.call f ⟨pos, kw⟩) (fun r s' => match r with | .ok (.ret v) => Q v s' | .ok _ => False | .error e => E e s') s) : wpP M A (call f pos kw) Q E s := wpP_runValue hc
theorem wpP_onRaise {m : Sem α} {k : Value → Sem Unit} {Q : α → Shared → Prop} (h : wpP M A m Q (fun e s' => wpP M A (k e) (fun _ s'' => E e s'') E s') s) : wpP M A (m.onRaise k) Q E s := ⟨fun Γ p hΓ hN => by
  rw [Sem.wp_onRaise]
  exact Sem.wp_mono M Γ m (fun _ _ _ h' => h') (fun e p' s' h' => h'.on Γ p' hΓ (held_pos.trans hN)) p s (h.on Γ p hΓ hN)⟩
/-- nothing is raised: no word of the clean-up -/
theorem wpP_quiet {m : Sem α} {k : Value → Sem Unit} {Q : α → Shared → Prop} (h : wpP M A m Q (fun _ _ => False) s) : wpP M A (m.onRaise k) Q E s := wpP_onRaise (wpP_mono h (fun _ _ x => x) fun _ _ x => x.elim)

theorem look_of {Q : Value → Shared → Prop} {f : Value} {vs : List Value} (hb : Q (.bool true) s) (h : wpP M A (PySem.call f vs) Q E s) : wpAny M A (runLook f vs) Q E s :=
  wpAny_stack_split fun Γ p hΓ => ⟨fun _ => hb, fun hn => h.on Γ p hΓ hn⟩
end

section
variable {M : Model} {A : Around} {E : Value → Shared → Prop} {s : Shared} {env : Env}
theorem wpP_execs_cons {st : Stmt} {rest : List Stmt} {Q : Flow → Shared → Prop} (h : wpP M A (exec st env) (fun f s' => match f with | .next => wpP M A (execs rest env) Q E s' | f => Q f s') E s) : wpP M A (execs (st :: rest) env) Q E s := by
  show wpP M A (exec st env >>= fun f => match f with | .next => execs rest env | f => pure f) Q E s
  refine wpP_bind (wpP_mono h (fun f s' h' => ?_) fun _ _ x => x)
  cases f with
  | next => exact h'
  | brk => exact wpP_pure h'
  | cont => exact wpP_pure h'
  | ret v => exact wpP_pure h'

theorem wpP_Assign_Tuple {elts k tpos value pos} {Q : Flow → Shared → Prop}
    (h : wpP M A (eval value env) (fun v s₁ => wpP M A (assign (.Tuple elts k tpos) env v) (fun _ => Q .next) E s₁) E s)
    (hs : swapsWithSole [.Tuple elts k tpos] value pos.line env = pure false := by rfl)
    (hw : swappedStores [.Tuple elts k tpos] value env = pure none := by rfl) : wpP M A (exec (.Assign [.Tuple elts k tpos] value pos) env) Q E s := by
  rw [exec_Assign]
  refine wpP_seq (wpAny_standAt ?_)
  rw [hs]
  refine wpP_seq (wpAny_pure ?_)
  rw [if_neg (by decide)]
  refine wpP_bind (wpP_mono h (fun v s₁ h₁ => ?_) fun _ _ x => x)
  rw [hw]
  refine wpP_seq (wpAny_pure ?_)
  show wpP M A (assignAll v [assign (.Tuple elts k tpos) env] >>= fun _ => pure .next) Q E s₁
  exact wpP_bind (wpP_mono h₁ (fun _ _ x => wpP_pure x) fun _ _ x => x)

theorem wpP_callWith {P : Heap → Prop} {pos : Pos} {f : Value} {first : List Value} {args : List (Bool × Sem Value)} {Q : Value → Shared → Prop} (hplain : (args.any (·.1) || ([] : List (Option Str × Sem Value)).any (·.1.isNone)) = false)
    (hk : ∀ h, P h → ∃ k, (k = Keeper.frame ∨ k = Keeper.machine ∨ k = Keeper.boundFrame) ∧ Looks M h (keeperOf f) k)
    (h : wpAny M A (evalArgs f true args []) (fun a s₁ => P s₁.heap ∧ wpP M A (call f (first ++ a.pos) a.kw) Q E s₁) E s) : wpP M A (callWith pos f first args []) Q E s := by
  unfold callWith
  refine wpP_seq (wpAny_holding (wpAny_mono h (fun a s₁ h₁ => wpP_seq (wpAny_standAt ?_)) fun _ _ x => x))
  obtain ⟨k, hk', L⟩ := hk _ h₁.1
  simp only [hplain]
  refine wpP_seq (L.here ?_)
  have tail : ∀ {t : Sem Value}, wpP M A t Q E s₁ → wpP M A (t >>= fun r => holding [r] point >>= fun _ => pure r) Q E s₁ :=
    fun ht => wpP_bind (wpP_mono ht (fun r s₂ hr => wpP_seq (wpAny_holding (wpAny_point (wpP_pure hr)))) fun _ _ x => x)
  have marked (mk : Value) : wpP M A (callMarked mk f (first ++ a.pos) a.kw) Q E s₁ := by unfold callMarked; exact wpP_keep h₁.2
  rcases hk' with rfl | rfl | rfl <;> dsimp only <;> first | exact tail h₁.2 | (split <;> first | exact tail h₁.2 | exact tail (marked _))

theorem wpP_For {target iter body orelse pos} {Q : Flow → Shared → Prop}
    (h : wpAny M A (eval iter env) (fun x s₁ => wpAny M A (pyIter x) (fun it s₂ => codeP M A (.forLoop target it body orelse env) (fun r s' => match r with | .ok f => Q f s' | .error _ => False) s₂) E s₁) E s)
    (hs : ∀ x, foldedSetIterable iter env x = pure x := by intro _; rfl) : wpP M A (exec (.For target iter body orelse pos) env) Q E s := by
  have e : exec (.For target iter body orelse pos) env = (standAt pos >>= fun _ => eval iter env >>= fun x => foldedSetIterable iter env x >>= fun x => standAt iter.pos >>= fun _ => holding [x] (pyIter x) >>= fun it => runOwn (.forLoop target it body orelse env) env) := rfl
  rw [e]
  refine wpP_seq (wpAny_standAt (wpP_seq (wpAny_mono h (fun x s₁ h₁ => ?_) fun _ _ x => x)))
  rw [hs]
  refine wpP_seq (wpAny_pure (wpP_seq (wpAny_standAt (wpP_seq (wpAny_holding (wpAny_mono h₁ (fun it s₂ h₂ => ?_) fun _ _ x => x))))))
  unfold runOwn
  exact wpP_quiet (wpP_run (codeP_mono h₂ fun r s' x => by cases r <;> exact x))
theorem wpP_Expr {e pos} {Q : Flow → Shared → Prop} (h : wpP M A (eval e env) (fun v s' => match v with | .ref _ => False | _ => Q .next s') E s)
    (hi : interactive env = false := by rfl) (hs : swapsWith e none pos.line env = pure false := by rfl) : wpP M A (exec (.Expr e pos) env) Q E s := by
  rw [exec_Expr env e pos hi hs]
  refine wpP_seq (wpAny_standAt (wpP_bind (wpP_mono h (fun v s' h' => ?_) fun _ _ x => x)))
  have hv : ∀ a, v ≠ .ref a := fun a hva => by subst hva; exact h'
  rw [dropValue_plain hv]
  refine wpP_pure ?_
  cases v <;> first | exact h' | exact (hv _ rfl).elim
end

section
variable {prog : Program} {w : World} {A : Around} {s : Shared} {R : Result → Shared → Prop}
theorem codeP_func {body env} (h : wpP (model prog w) (A.deeper env) (execs body env) (fun f s' => R (.ok (.ret (match f with | .ret v => v | _ => .none))) s') (fun _ _ => False) s) : codeP (model prog w) A (.func body env) R s := by
  refine codeP_of_tree rfl ?_
  show wpP _ (A.deeper env) (do point; match ← (execs body env).onRaise (leaving env) with | .ret v => ret v | _ => ret .none) _ _ s
  refine wpP_seq (wpAny_point (wpP_bind (wpP_quiet (wpP_mono h (fun f s' h' => ?_) fun _ _ x => x))))
  cases f <;> exact wpP_pure h'

theorem codeP_call_def {a : Addr} {o : Obj} {fd : FuncData} {body : List Stmt} {args : Args} {binds : List (Str × Value)}
    (hroom : A.depth < recursionLimit) (ho : s.heap.get? a = some o) (hd' : o.data = .func fd) (hlim : s.heap.NoLimit) (hcd : s.heap.CodeRec fd.code fd.qualname)
    (hbody : fd.body = .stmts body) (hbind : BindsTo s fd args binds)
    (hcell : ∀ x ∈ fd.scope.names, x.2 ≠ .cell) (hloc : ∀ x ∈ binds, fd.scope.names.lookup x.1 = some .local)
    (h : ∀ h₀, h₀.Ns s.heap.objs.size (fun x => binds.reverse.lookup x) → (∀ b o, s.heap.get? b = some o → h₀.get? b = some o) →
      wpP (model prog w) (A.deeper (callEnv fd s.heap.objs.size a)) (execs body (callEnv fd s.heap.objs.size a)) (fun f s' => R (.ok (.ret (match f with | .ret v => v | _ => .none))) s') (fun _ _ => False)
        { s with heap := h₀, toks := s.toks + binds.length })
    (hco : fd.scope.isCoroutine = false := by rfl) (hgen : fd.scope.isGenerator = false := by rfl) (hk : fd.scope.kind = .function := by rfl) :
    codeP (model prog w) A (.call (.ref a) args) R s := by
  refine codeP_of_tree rfl ?_
  show wpP _ A.in1 (callAny (.ref a) args) _ _ s
  simp only [callAny]
  refine wpP_seq (wpAny_load ho ?_)
  obtain ⟨c, oc, vs, tq, hc, hoc, hdc, hq⟩ := hcd
  simp only [hd', callFunction, hco, hgen, hbody, hc]
  refine wpP_seq (wpAny_field hoc hdc hq (wpP_seq (wpAny_pure ?_)))
  refine wpP_seq (hbind _ _ _ _ ?_)
  refine wpP_seq (wpAny_newFunctionEnv hcell hloc (fun h₀ hns₀ hsb₀ => ?_) hk)
  refine wpP_seq (wpAny_enterFrame (hlim.fresh _ hsb₀) hroom (wpP_pure (And.intro rfl (codeP_func ?_))))
  have := h h₀ hns₀ fun b o e => hsb₀.extBut b o (Nat.ne_of_lt (Heap.lt_size e)) (Heap.get?_push_of_some _ e)
  simpa only [callEnv, hc] using this

/-- a for loop, turn by turn, nothing raised -/
theorem codeP_forLoop {target it body env} (I : Nat → Shared → Prop)
    (turn : ∀ n s, I n s → wpAny (model prog w) A (pyNext it) (fun r s₁ => match r with
      | none => R (.ok .next) s₁
      | some v => wpAny (model prog w) A (letOwnedTupleGo target it v) (fun _ s₂ => wpAny (model prog w) A (assign target env v) (fun _ s₃ => wpP (model prog w) A (execs body env) (fun f s₄ => match f with
        | .next => ∃ m, m < n ∧ I m s₄
        | _ => False) (fun _ _ => False) s₃) (fun _ _ => False) s₂) (fun _ _ => False) s₁) (fun _ _ => False) s) :
    ∀ (n : Nat) (s : Shared), I n s → codeP (model prog w) A (.forLoop target it body [] env) R s := by
  intro n
  induction n using Nat.strongRecOn with
  | _ n ih =>
    intro s hI
    refine codeP_of_tree rfl ?_
    rw [Around.under_of_weight (by rfl)]
    show wpP _ A ((forTurn target it body [] env).onRaise (fun x => do noteFrame x env; theTreesLotGoes x)) _ _ s
    refine wpP_quiet ?_
    simp only [forTurn]
    refine wpP_seq (wpAny_standAt (wpP_bind (wpP_quiet (wpP_of (wpAny_mono (turn n s hI) (fun r s₁ h₁ => ?_) fun _ _ x => x)))))
    cases r with
    | none =>
      refine wpP_pure ⟨rfl, codeP_of (codeAny_block (wpAny_execs_nil h₁))⟩
    | some v =>
      refine wpP_seq (wpAny_mono h₁ (fun _ s₂ h₂ => wpP_seq (wpAny_mono h₂ (fun _ s₃ h₃ => wpP_bind (wpP_mono h₃ (fun f s₄ h₄ => ?_) fun _ _ x => x)) fun _ _ x => x)) fun _ _ x => x)
      cases f with
      | next =>
        obtain ⟨m, hm, hI'⟩ := h₄
        exact wpP_pure ⟨rfl, ih m hm s₄ hI'⟩
      | brk => exact h₄.elim
      | cont => exact h₄.elim
      | ret v => exact h₄.elim
end
end Mine

end
/-! text BaF -/
section
open PySem PySem.W PyProof.Rows PySem.Calls
set_option Elab.async false
set_option maxRecDepth 100000
namespace Mine
/-! facts of the type bytearray -/
def baObj (b : Array UInt8) : Obj := { cls := .type "bytearray", data := .bytearray b }

theorem ba_slot_len : Slot "bytearray" "__len__" "bytearray.__len__" :=
  .of (owner := "bytearray") (n := "__len__") (by rw [typeLookup_type, builtinLookup_eq_fast]; kernel_rfl) (by decide +kernel) (by decide +kernel) (by decide +kernel)
    (by first | exact .inl (by decide +kernel) | exact .inr (by decide +kernel)) (by rw [isSubtype_type]; kernel_rfl)
theorem ba_entry_len : entryFor table "bytearray.__len__" = some Builtin.«bytearray.__len__» := entryFor_of_tree (by kernel_rfl)
theorem ba_args_len (a : Value) : argsOk "bytearray.__len__" ⟨[a], []⟩ := by unfold argsOk; kernel_rfl
theorem ba_slot_getitem : Slot "bytearray" "__getitem__" "bytearray.__getitem__" :=
  .of (owner := "bytearray") (n := "__getitem__") (by rw [typeLookup_type, builtinLookup_eq_fast]; kernel_rfl) (by decide +kernel) (by decide +kernel) (by decide +kernel)
    (by first | exact .inl (by decide +kernel) | exact .inr (by decide +kernel)) (by rw [isSubtype_type]; kernel_rfl)
theorem ba_entry_getitem : entryFor table "bytearray.__getitem__" = some Builtin.«bytearray.__getitem__» := entryFor_of_tree (by kernel_rfl)
theorem ba_args_getitem (a b : Value) : argsOk "bytearray.__getitem__" ⟨[a, b], []⟩ := by unfold argsOk; kernel_rfl
theorem ba_slot_setitem : Slot "bytearray" "__setitem__" "bytearray.__setitem__" :=
  .of (owner := "bytearray") (n := "__setitem__") (by rw [typeLookup_type, builtinLookup_eq_fast]; kernel_rfl) (by decide +kernel) (by decide +kernel) (by decide +kernel)
    (by first | exact .inl (by decide +kernel) | exact .inr (by decide +kernel)) (by rw [isSubtype_type]; kernel_rfl)
theorem ba_entry_setitem : entryFor table "bytearray.__setitem__" = some Builtin.«bytearray.__setitem__» := entryFor_of_tree (by kernel_rfl)
theorem ba_args_setitem (a b c : Value) : argsOk "bytearray.__setitem__" ⟨[a, b, c], []⟩ := by unfold argsOk; kernel_rfl
theorem ba_slot_ne : Slot "bytearray" (cmpInfo .NotEq).2.1 "bytearray.__ne__" :=
  .of (owner := "bytearray") (n := "__ne__") (by rw [typeLookup_type, builtinLookup_eq_fast]; kernel_rfl) (by decide +kernel) (by decide +kernel) (by decide +kernel)
    (by first | exact .inl (by decide +kernel) | exact .inr (by decide +kernel)) (by rw [isSubtype_type]; kernel_rfl)
theorem ba_entry_ne : entryFor table "bytearray.__ne__" = some Builtin.«bytearray.__ne__» := entryFor_of_tree (by kernel_rfl)
theorem ba_args_ne (a b : Value) : argsOk "bytearray.__ne__" ⟨[a, b], []⟩ := by unfold argsOk; kernel_rfl
theorem ba_slot_append : Slot "bytearray" "append" "bytearray.append" :=
  .of (owner := "bytearray") (n := "append") (by rw [typeLookup_type, builtinLookup_eq_fast]; kernel_rfl) (by decide +kernel) (by decide +kernel) (by decide +kernel)
    (by first | exact .inl (by decide +kernel) | exact .inr (by decide +kernel)) (by rw [isSubtype_type]; kernel_rfl)
theorem ba_entry_append : entryFor table "bytearray.append" = some Builtin.«bytearray.append» := entryFor_of_tree (by kernel_rfl)
theorem ba_args_append (a b : Value) : argsOk "bytearray.append" ⟨[a, b], []⟩ := by unfold argsOk; kernel_rfl
theorem ba_type_append : typeOf (.builtin "bytearray.append") = pure (.type "method_descriptor") := by show builtinType _ = _; rw [builtinType_eq_fast]; kernel_rfl
theorem ba_slot_init : Slot "bytearray" "__init__" "bytearray.__init__" :=
  .of (owner := "bytearray") (n := "__init__") (by rw [typeLookup_type, builtinLookup_eq_fast]; kernel_rfl) (by decide +kernel) (by decide +kernel) (by decide +kernel)
    (by first | exact .inl (by decide +kernel) | exact .inr (by decide +kernel)) (by rw [isSubtype_type]; kernel_rfl)
theorem ba_entry_init : entryFor table "bytearray.__init__" = some Builtin.«bytearray.__init__» := entryFor_of_tree (by kernel_rfl)
theorem ba_entry_new : entryFor table "list.__new__" = some Builtin.«list.__new__» := entryFor_of_tree (by kernel_rfl)
theorem ba_plain : PlainAttrs "bytearray" :=
  ⟨⟨"bytearray.__getattribute__", by rw [typeLookup_type, builtinLookup_eq_fast]; kernel_rfl, by decide +kernel⟩, by rw [typeLookup_type, builtinLookup_eq_fast]; kernel_rfl⟩
theorem ba_buffer : typeLookup (.type "bytearray") "__buffer__" = pure (some (.builtin "bytearray.__buffer__")) := by rw [typeLookup_type, builtinLookup_eq_fast]; kernel_rfl
theorem ba_release : typeLookup (.type "bytearray") "__release_buffer__" = pure (some (.builtin "bytearray.__release_buffer__")) := by rw [typeLookup_type, builtinLookup_eq_fast]; kernel_rfl
theorem ba_no_bytes : typeLookup (.type "bytearray") "__bytes__" = pure none := by rw [typeLookup_type, builtinLookup_eq_fast]; kernel_rfl
theorem ba_no_index : typeLookup (.type "bytearray") "__index__" = pure none := by rw [typeLookup_type, builtinLookup_eq_fast]; kernel_rfl
theorem by_no_index : typeLookup (.type "bytes") "__index__" = pure none := by rw [typeLookup_type, builtinLookup_eq_fast]; kernel_rfl
theorem by_no_int : typeLookup (.type "bytes") "__int__" = pure none := by rw [typeLookup_type, builtinLookup_eq_fast]; kernel_rfl
theorem by_no_float : typeLookup (.type "bytes") "__float__" = pure none := by rw [typeLookup_type, builtinLookup_eq_fast]; kernel_rfl
theorem by_bytes : typeLookup (.type "bytes") "__bytes__" = pure (some (.builtin "bytes.__bytes__")) := by rw [typeLookup_type, builtinLookup_eq_fast]; kernel_rfl
theorem by_buffer : typeLookup (.type "bytes") "__buffer__" = pure (some (.builtin "bytes.__buffer__")) := by rw [typeLookup_type, builtinLookup_eq_fast]; kernel_rfl
theorem by_release : typeLookup (.type "bytes") "__release_buffer__" = pure none := by rw [typeLookup_type, builtinLookup_eq_fast]; kernel_rfl
theorem sub_ba_ba : isSubtype (.type "bytearray") (.type "bytearray") = pure true := by rw [isSubtype_type]; kernel_rfl
theorem sub_ba_bytes : isSubtype (.type "bytearray") (.type "bytes") = pure false := by rw [isSubtype_type]; kernel_rfl
theorem sub_bytes_ba : isSubtype (.type "bytes") (.type "bytearray") = pure false := by rw [isSubtype_type]; kernel_rfl
theorem sub_bytes_bytes : isSubtype (.type "bytes") (.type "bytes") = pure true := by rw [isSubtype_type]; kernel_rfl
theorem sub_bytes_complex : isSubtype (.type "bytes") (.type "complex") = pure false := by rw [isSubtype_type]; kernel_rfl
theorem sub_bytes_str : isSubtype (.type "bytes") (.type "str") = pure false := by rw [isSubtype_type]; kernel_rfl
theorem sub_ba_str : isSubtype (.type "bytearray") (.type "str") = pure false := by rw [isSubtype_type]; kernel_rfl
end Mine

end
/-! text BaR -/
section
open PySem PySem.W PyProof.Rows PySem.Calls
set_option Elab.async false
set_option maxRecDepth 100000
namespace Mine
open Builtin

/-! bytearrays on the heap: reading -/
def BaAt (h : Heap) (a : Addr) (b : Array UInt8) : Prop := h.get? a = some (baObj b)
theorem BaAt.typeIs {s : Shared} {a : Addr} {b : Array UInt8} (h : BaAt s.heap a b) : s.TypeIs (.ref a) "bytearray" := ⟨_, h, rfl⟩
def cutB (b : Array UInt8) (i n : Nat) : Array UInt8 := ((b.toList.drop i).take n).toArray
theorem picked_cut {b : Array UInt8} {i n : Nat} (hi : i ≤ b.size) : KBy.picked b (some (i : Int)) (some ((i : Int) + (n : Int))) = cutB b i n := by
  have e : ((i : Int) + (n : Int)) = ((i + n : Nat) : Int) := by omega
  rw [e, KBc.picked_eq]
  simp only [Option.elim, clipAt_nat]
  unfold cutB
  rw [Nat.min_eq_left hi]
  by_cases h : i + n ≤ b.size
  · rw [Nat.min_eq_left h, Nat.add_sub_cancel_left]
  · have h2 : min (i + n) b.size = b.size := by omega
    rw [h2]
    congr 1
    rw [List.take_of_length_le (by simp), List.take_of_length_le (by simp; omega)]
theorem cut_size (b : Array UInt8) (i n : Nat) : (cutB b i n).size = min n (b.size - i) := by
  unfold cutB; simp
section
variable {M : Model} {A : Around} {E : Value → Shared → Prop} {s : Shared} {a : Addr} {b : Array UInt8}
theorem payload_ba {Q : Array UInt8 → Shared → Prop} (h : BaAt s.heap a b) (hQ : Q b s) : wpAny M A (Bytes.payload (.ref a)) Q E s := by
  unfold Bytes.payload Bytes.payload?
  exact wpAny_bind (wpAny_bind (wpAny_load h (wpAny_pure (wpAny_pure hQ))))
theorem ownRelease_ba {Q : Bool → Shared → Prop} (h : BaAt s.heap a b) (hQ : Q false s) : wpAny M A (Bytes.ownRelease (.ref a)) Q E s := by
  unfold Bytes.ownRelease Bytes.slotIsOwn
  refine wpAny_bind (wpAny_bind (wpAny_specialOf h.typeIs ba_release ?_))
  refine wpAny_ite ?_
  rw [if_neg (by decide +kernel)]
  rw [show String.dropRight "bytearray.__release_buffer__" (String.length "__release_buffer__" + 1) = "bytearray" by decide +kernel]
  exact wpAny_isInstance h.typeIs sub_ba_ba (wpAny_pure hQ)
theorem buffer_ba {id : String} {full : Bool} {Q : Option (Array UInt8) → Shared → Prop} (h : BaAt s.heap a b) (hQ : Q (some b) s) : wpAny M A (Bytes.buffer? id (.ref a) full) Q E s := by
  unfold Bytes.buffer?
  refine wpAny_bind (wpAny_specialOf h.typeIs ba_buffer ?_)
  have own : ∀ {Q : Bool → Shared → Prop}, Q true s → wpAny M A (Bytes.slotIsOwn (.ref a) "__buffer__") Q E s := fun hq => by
    unfold Bytes.slotIsOwn
    refine wpAny_bind (wpAny_specialOf h.typeIs ba_buffer ?_)
    refine wpAny_ite ?_
    rw [if_neg (by decide +kernel)]
    rw [show String.dropRight "bytearray.__buffer__" (String.length "__buffer__" + 1) = "bytearray" by decide +kernel]
    exact wpAny_isInstance h.typeIs sub_ba_ba hq
  refine wpAny_bind (own ?_)
  refine wpAny_ite ?_
  rw [if_neg (by decide)]
  refine wpAny_bind (wpAny_specialOf h.typeIs ba_buffer ?_)
  refine wpAny_bind (ownRelease_ba h ?_)
  refine wpAny_ite ?_
  rw [if_neg (by decide)]
  exact wpAny_bind (payload_ba h (wpAny_pure hQ))
end

theorem meets_ba_len (a : Addr) (b : Array UInt8) : Meets («bytearray.__len__» ⟨[.ref a], []⟩) (fun _ R s => BaAt s.heap a b ∧ R (.ok (.ret (.int b.size s.toks))) { s with toks := s.toks + 1 }) := by
  refine .of_wp fun prog w A R s hS => ?_
  show wpAny _ _ (Bytes.payload (.ref a) >>= fun r => _) _ _ s
  exact wpAny_bind (payload_ba hS.1 (wpAny_bind (wpAny_mkInt (wpAny_pure ⟨_, rfl, hS.2⟩))))
theorem meets_ba_slice (a sl : Addr) (b : Array UInt8) (i j : Int) (t u : Tok) :
    Meets («bytearray.__getitem__» ⟨[.ref a, .ref sl], []⟩) (fun _ R s => BaAt s.heap a b ∧ s.heap.IsSliceOf sl (.int i t) (.int j u) .none ∧ (KBy.picked b (some i) (some j)).size ≤ sizeLine ∧ R (.ok (.ret (.ref s.heap.objs.size))) { s with heap := s.heap.push (baObj (KBy.picked b (some i) (some j))) }) := by
  refine .of_wp fun prog w A R s hS => ?_
  obtain ⟨hb, ⟨o, ho, hc, hd⟩, hz, h⟩ := hS
  have hT : s.TypeIs (.ref sl) "slice" := ⟨o, ho, hc⟩
  show wpAny _ _ (Bytes.subscript? (.ref sl) >>= fun r => _) _ _ s
  refine wpAny_bind ?_
  unfold Bytes.subscript?
  refine wpAny_bind (wpAny_specialOf hT slice_no_index (wpAny_pure ?_))
  refine wpAny_bind (wpAny_typeOf hT ?_)
  show wpAny _ _ (Bytes.sliceParts (.ref sl) >>= fun r => _) _ _ s
  refine wpAny_bind ?_
  unfold Bytes.sliceParts
  refine wpAny_bind (wpAny_field (x := .none) ho hd rfl ?_)
  kby_none
  refine wpAny_ite (KBy.ite_no (show ¬ ((Value.none == rawInt 0) = true) from Bool.false_ne_true) ?_)
  refine wpAny_bind (wpAny_field (x := .int i t) ho hd rfl ?_)
  have go : wpAny (model prog w) A.in1 (sliceIndices (rawPart (some i)) (rawPart (some j)) (rawPart none) b.size) (fun r s' => r = sliceBounds (some i) (some j) none b.size ∧ s' = s) (fun _ _ => False) s :=
    wpAny_of_eq (sliceIndices_raw (some i) (some j) none b.size (fun e => nomatch e)) ⟨rfl, rfl⟩
  kby_int
  refine wpAny_bind (wpAny_field (x := .int _ _) ho hd rfl ?_)
  kby_int
  refine wpAny_pure ?_
  refine wpAny_bind (payload_ba hb ?_)
  refine wpAny_bind (wpAny_mono go (fun r s' hr => ?_) fun _ _ e => e.elim)
  obtain ⟨hr1, hr2⟩ := hr
  subst hr1 hr2
  exact wpAny_bind (wpAny_newObj_type (wpAny_pure ⟨_, rfl, h⟩) hz)
theorem meets_ba_item (a : Addr) (b : Array UInt8) (i : Int) (t : Tok) (c : UInt8) (hr : Bytes.fitsIndex i = true) (hc : (seqIndex? i b.size).bind (b[·]?) = some c) :
    Meets («bytearray.__getitem__» ⟨[.ref a, .int i t], []⟩) (fun _ R s => BaAt s.heap a b ∧ R (.ok (.ret (.int c.toNat s.toks))) { s with toks := s.toks + 1 }) := by
  refine .of_wp fun prog w A R s hS => ?_
  show wpAny _ _ (Bytes.subscript? (.int i t) >>= fun r => _) _ _ s
  refine wpAny_bind ?_
  unfold Bytes.subscript?
  refine wpAny_bind (wpAny_specialOf (typeIs_int s i t) F.slot_int_index.lookup ?_)
  show wpAny _ _ (if (!Bytes.fitsIndex i) = true then _ else pure (some i)) _ _ s
  rw [hr]
  refine wpAny_pure ?_
  refine wpAny_bind (payload_ba hS.1 ?_)
  show wpAny _ _ (match (seqIndex? i b.size).bind (b[·]?) with | some x => retInt x.toNat | none => _) _ _ s
  rw [hc]
  exact wpAny_bind (wpAny_mkInt (wpAny_pure ⟨_, rfl, hS.2⟩))
theorem meets_ba_ne (a a' : Addr) (b c : Array UInt8) : Meets («bytearray.__ne__» ⟨[.ref a, .ref a'], []⟩) (fun _ R s => BaAt s.heap a b ∧ BaAt s.heap a' c ∧ R (.ok (.ret (.bool (b.toList != c.toList)))) s) := by
  refine .of_wp fun prog w A R s hS => ?_
  obtain ⟨h1, h2, h⟩ := hS
  show wpAny _ _ (Bytes.buffer? _ (.ref a) >>= fun r => _) _ _ s
  refine wpAny_bind (buffer_ba h1 ?_)
  show wpAny _ _ (Bytes.bufferQuiet? _ (.ref a') >>= fun r => _) _ _ s
  refine wpAny_bind ?_
  unfold Bytes.bufferQuiet?
  refine wpAny_bind (wpAny_attempt (buffer_ba h2 (wpAny_pure ?_)))
  rw [bne, ← order_eq] at h
  exact wpAny_pure ⟨_, rfl, h⟩
section
variable {prog : Program} {w : World} {A : Around} {E : Value → Shared → Prop} {s : Shared} {h₀ : Heap} {L : Addr} {m : PySem.Str → Option Value} {news : List (Addr × Obj)} {a : Addr} {b c : Array UInt8} {value slice : PySem.Expr}
theorem len_ba {Q : Value → Shared → Prop} (hb : BaAt s.heap a b) (hz : b.size ≤ 1099511627776) (h : ∀ t k, Q (.int b.size t) { s with toks := k }) : wpAny (model prog w) A (call (.builtin "len") [.ref a]) Q E s :=
  call_len_meets hb.typeIs ba_slot_len ba_entry_len (ba_args_len _) (meets_ba_len a b) (n := b.size) (by omega) (by omega) (fun Q' hq => ⟨hb, hq⟩) (h _ _)
theorem slice_ba {i n : Nat} (hz : b.size ≤ 16777216) {t u : Tok} {Q : Value → Shared → Prop} {j : Int} (F : Fr h₀ L s.heap m) (N : News h₀ L s.heap news) (hb : BaAt s.heap a b) (hi : i ≤ b.size) (hj : j = (i : Int) + (n : Int))
    (h : ∀ x h', Fr h₀ L h' m → News h₀ L h' ((x, baObj (cutB b i n)) :: news) → (∀ p ∈ news, p.1 < x) → Q (.ref x) { s with heap := h' })
    (hs : subscripted slice false (.ref a) (.ref s.heap.objs.size) = operate [.ref s.heap.objs.size, .ref a] (getItem (.ref a) (.ref s.heap.objs.size)) := by with_unfolding_all rfl)
    (ht : ∀ r, letTemporaryGo value (.ref a) r = pure () := by intro _; with_unfolding_all rfl) :
    wpAny (model prog w) A (subscriptTail value slice (.ref a) (.ref s.heap.objs.size)) Q E { s with heap := s.heap.push { cls := .type "slice", data := .fields #[.int (i : Int) t, .int j u, .none] } } := by
  subst hj
  have hb' : BaAt (s.heap.push { cls := .type "slice", data := .fields #[.int (i : Int) t, .int ((i : Int) + n) u, .none] }) a b := Heap.get?_push_of_some _ hb
  refine tail_of_ItemOn ⟨"bytearray", _, ba_slot_getitem.lookup, hb'.typeIs, getItem_meets hb'.typeIs (by decide) ba_slot_getitem ba_entry_getitem (ba_args_getitem _ _) (meets_ba_slice a _ b _ _ _ _)
    ⟨hb', Heap.IsSliceOf.new _ _ _ _, ?_, ?_⟩⟩ hs ht
  · rw [picked_cut hi, cut_size, sizeLine_eq]; omega
  rw [picked_cut hi]
  have F1 := F.push { cls := .type "slice", data := .fields #[.int (i : Int) t, .int ((i : Int) + n) u, .none] }
  have N1 := News.pushKeep N { cls := .type "slice", data := .fields #[.int (i : Int) t, .int ((i : Int) + n) u, .none] }
  exact h _ _ (F1.push _) (News.push F1 N1 _) fun p hp => Heap.lt_size (N1 p hp).1
theorem item_ba {i : Int} {t : Tok} {Q : Value → Shared → Prop} (hb : BaAt s.heap a b) (h0 : 0 ≤ i) (h1 : i < b.size) (hz : b.size ≤ 1099511627776)
    (h : ∀ t k, Q (.int ((b.toList.getD i.toNat 0).toNat : Int) t) { s with toks := k })
    (hs : subscripted slice false (.ref a) (.int i t) = operate [.ref a, .int i t] (getItem (.ref a) (.int i t)) := by with_unfolding_all rfl)
    (ht : ∀ r, letTemporaryGo value (.ref a) r = pure () := by intro _; with_unfolding_all rfl) : wpAny (model prog w) A (subscriptTail value slice (.ref a) (.int i t)) Q E s := by
  refine tail_of_ItemOn ⟨"bytearray", _, ba_slot_getitem.lookup, hb.typeIs, getItem_meets hb.typeIs (by decide) ba_slot_getitem ba_entry_getitem (ba_args_getitem _ _) (meets_ba_item a b i t (b.toList.getD i.toNat 0) ?_ ?_) ⟨hb, h _ _⟩⟩ hs ht
  · simp only [Bytes.fitsIndex, Bool.and_eq_true, decide_eq_true_eq]; omega
  · have hn : ¬ i < 0 := by omega
    have e : seqIndex? i b.size = some i.toNat := by simp [seqIndex?, hn, h0, h1]
    have hl : i.toNat < b.size := by omega
    rw [e]; simp [hl]
theorem ne_ba {a' : Addr} {Q : Value → Shared → Prop} (hu : A.units < cLine) (hb : BaAt s.heap a b) (hc : BaAt s.heap a' c) (h : Q (.bool (b.toList != c.toList)) s) : wpAny (model prog w) A (compareOp .NotEq (.ref a) (.ref a')) Q E s :=
  cmp_ofNotEq (richCompare_meets_room (op := .NotEq) hb.typeIs hc.typeIs ba_slot_ne ba_entry_ne (ba_args_ne _ _) (meets_ba_ne a a' b c) ⟨hb, hc, (fun e => nomatch e), h⟩ hu)
end
end Mine

end
/-! text BaS -/
section
open PySem PySem.W PyProof.Rows PySem.Calls
set_option Elab.async false
set_option maxRecDepth 100000
namespace Mine
open Builtin

/-! bytes(..) and int.from_bytes(..) of bytes and bytearrays -/
section
variable {prog : Program} {w : World} {A : Around} {E : Value → Shared → Prop} {s : Shared} {a : Addr} {b : Array UInt8}
theorem new_bytes_ba {Q : Value → Shared → Prop} (hb : BaAt s.heap a b) (hz : b.size ≤ sizeLine) (hQ : ∀ t k, Q (.bytes b t) { s with toks := k }) :
    codeAny (model prog w) A (.call (.builtin "bytes.__new__") ⟨[.type "bytes", .ref a], []⟩) (wants Q E) s := by
  refine codeAny_call_builtin F.bm_plain F.bm_entry (wpAny_of_eq (F.bm_newCall _) ?_)
  unfold Builtin.«bytes.__new__»
  have hT := hb.typeIs
  refine wpAny_bind (wpAny_of_eq (a := true) (by first | rfl | kernel_rfl) ?_)
  refine bm_if_false rfl ?_
  refine wpAny_bind (wpAny_of_eq (a := true) F.bm_sub ?_)
  refine bm_if_false rfl ?_
  refine wpAny_bind (wpAny_of_eq (F.bm_bind _) ?_)
  refine wpAny_bind (wpAny_of_eq (a := ()) rfl ?_)
  refine wpAny_bind (wpAny_of_eq (a := ()) rfl ?_)
  refine bm_if_false rfl ?_
  refine wpAny_bind (wpAny_specialOf hT ba_no_bytes ?_)
  refine wpAny_bind (wpAny_bind ?_)
  show wpAny _ _ (load a >>= _) _ _ _
  refine wpAny_bind (wpAny_load hb ?_)
  refine wpAny_pure (wpAny_pure ?_)
  refine bm_if_false rfl ?_
  refine wpAny_bind (wpAny_specialOf hT ba_no_index ?_)
  refine bm_if_true rfl ?_
  first
    | show wpAny _ _ (Builtin.Bytes.buffer? "bytes.__new__" (.ref a) true >>= _) _ _ _
    | (refine wpAny_bind ?_; show wpAny _ _ (Builtin.Bytes.buffer? "bytes.__new__" (.ref a) true >>= _) _ _ _)
  refine wpAny_bind (buffer_ba hb ?_)
  refine wpAny_bind (wpAny_rule ?_)
  refine wpAny_bind (wpAny_mkBytes ?_ hz)
  show wpAny _ _ (if (Value.type "bytes" == Value.type "bytes") = true then _ else _) _ _ _
  refine bm_if_true (by decide) ?_
  first
    | exact wpAny_pure (hQ _ _)
    | exact wpAny_bind (wpAny_pure (wpAny_pure (hQ _ _)))
theorem new_bytes_bytes {t : Tok} {Q : Value → Shared → Prop} (hQ : Q (.bytes b t) s) :
    codeAny (model prog w) A (.call (.builtin "bytes.__new__") ⟨[.type "bytes", .bytes b t], []⟩) (wants Q E) s := by
  refine codeAny_call_builtin F.bm_plain F.bm_entry (wpAny_of_eq (F.bm_newCall _) ?_)
  unfold Builtin.«bytes.__new__»
  have hT := typeIs_bytes s b t
  refine wpAny_bind (wpAny_of_eq (a := true) (by first | rfl | kernel_rfl) ?_)
  refine bm_if_false rfl ?_
  refine wpAny_bind (wpAny_of_eq (a := true) F.bm_sub ?_)
  refine bm_if_false rfl ?_
  refine wpAny_bind (wpAny_of_eq (F.bm_bind _) ?_)
  refine wpAny_bind (wpAny_of_eq (a := ()) rfl ?_)
  refine wpAny_bind (wpAny_of_eq (a := ()) rfl ?_)
  refine bm_if_false rfl ?_
  refine wpAny_bind (wpAny_specialOf hT by_bytes ?_)
  refine wpAny_bind (wpAny_rule ?_)
  refine wpAny_bind (wpAny_typeOf hT ?_)
  refine bm_if_true rfl ?_
  show wpAny _ _ (if (Value.type "bytes" == Value.type "bytes") = true then _ else _) _ _ _
  refine bm_if_true (by decide) ?_
  first
    | exact wpAny_pure hQ
    | exact wpAny_bind (wpAny_pure (wpAny_pure hQ))
theorem bytes_ba {Q : Value → Shared → Prop} (hb : BaAt s.heap a b) (hz : b.size ≤ sizeLine) (hQ : ∀ t k, Q (.bytes b t) { s with toks := k }) : wpAny (model prog w) A (call (.type "bytes") [.ref a]) Q E s := by
  refine callType_codes (Q₁ := fun obj s₁ => s₁.TypeIs obj "bytes" ∧ Q obj s₁) F.bm_called (F.bm_typeCall _) F.entry_object_init
    (new_bytes_ba hb hz fun t k => ⟨PySem.W.typeIs_bytes _ _ _, hQ t k⟩) fun obj s₁ h₁ => ?_
  exact ⟨h₁.1, F.args_object_init_2 obj _, object_init_meets F.bm_called.init.lookup F.bm_called.made (by decide) prog w A.in1 _ s₁ ⟨h₁.1, rfl, h₁.2⟩⟩
theorem bytes_bytes {t : Tok} {Q : Value → Shared → Prop} (hQ : Q (.bytes b t) s) : wpAny (model prog w) A (call (.type "bytes") [.bytes b t]) Q E s := by
  refine callType_codes (Q₁ := fun obj s₁ => s₁.TypeIs obj "bytes" ∧ Q obj s₁) F.bm_called (F.bm_typeCall _) F.entry_object_init
    (new_bytes_bytes ⟨PySem.W.typeIs_bytes _ _ _, hQ⟩) fun obj s₁ h₁ => ?_
  exact ⟨h₁.1, F.args_object_init_2 obj _, object_init_meets F.bm_called.init.lookup F.bm_called.made (by decide) prog w A.in1 _ s₁ ⟨h₁.1, rfl, h₁.2⟩⟩

/-- the little-endian number of some octets -/
def leN (l : List UInt8) : Nat := l.foldr (fun c r => c.toNat + 256 * r) 0
theorem leN_fold : ∀ (l : List UInt8), l.reverse.foldl (fun (acc : Nat) (c : UInt8) => acc * 256 + c.toNat) 0 = leN l
  | [] => rfl
  | c :: r => by
    rw [List.reverse_cons, List.foldl_append, leN_fold r]
    show leN r * 256 + c.toNat = c.toNat + 256 * leN r
    omega
theorem leN_lt : ∀ l : List UInt8, leN l < 256 ^ l.length
  | [] => by decide
  | c :: r => by
    have h := leN_lt r
    have hc := c.toNat_lt
    rw [List.length_cons, Nat.pow_succ]
    show c.toNat + 256 * leN r < _
    omega
theorem check_fb_ref {x : Value} {u : Tok} {o : PySem.Str} : checkBoundCall "int.from_bytes" ⟨[.type "int", x, .str o u], []⟩ = pure () := by first | kernel_rfl | rfl
theorem tree_ba {u : Tok} {P : Fin → Shared → Prop} (hb : BaAt s.heap a b) (hl : b.size ≤ 8) (h : P (.done (.ret (.int (leN b.toList : Int) s.toks))) { s with toks := s.toks + 1 }) :
    wpAny (model prog w) A (Builtin.«int.from_bytes» ⟨[.type "int", .ref a, .str (PySem.Str.ofString "little") u], []⟩) P E s := by
  have hn : leN b.toList < 2 ^ 64 := by
    have h1 := leN_lt b.toList
    rw [Array.length_toList] at h1
    have h2 : 256 ^ b.size ≤ 256 ^ 8 := Nat.pow_le_pow_right (by decide) hl
    omega
  unfold Builtin.«int.from_bytes»
  have hT := hb.typeIs
  refine wpAny_bind (wpAny_of_eq (a := true) KFB.type_int ?_)
  refine KFB.if_not rfl ?_
  refine wpAny_bind (wpAny_of_eq (a := true) F.conv_sub_int ?_)
  refine KFB.if_not rfl ?_
  refine wpAny_bind (wpAny_of_eq (a := [some (.ref a), some (.str (PySem.Str.ofString "little") u), none]) (by kernel_rfl) ?_)
  refine wpAny_bind (wpAny_of_eq (a := PySem.Str.ofString "little") (by kernel_rfl) ?_)
  refine wpAny_bind (wpAny_of_eq (a := false) rfl ?_)
  refine wpAny_bind (wpAny_of_eq (a := true) (by kernel_rfl) ?_)
  refine wpAny_bind ?_
  show wpAny _ _ (specialOf (.ref a) (PySem.Str.ofString "__bytes__") >>= fun v => _) _ _ _
  refine wpAny_bind (wpAny_specialOf hT ba_no_bytes ?_)
  refine wpAny_bind ?_
  show wpAny _ _ (load a >>= fun v => _) _ _ _
  refine wpAny_bind (wpAny_load hb (wpAny_pure ?_))
  refine KFB.if_so rfl ?_
  refine wpAny_bind (wpAny_specialOf hT ba_buffer ?_)
  refine wpAny_bind (wpAny_specialOf hT ba_release ?_)
  refine wpAny_bind (wpAny_isInstance hT sub_ba_ba ?_)
  refine KFB.if_not rfl ?_
  refine wpAny_bind ?_
  show wpAny _ _ (load a >>= fun v => _) _ _ _
  refine wpAny_bind (wpAny_load hb (wpAny_pure ?_))
  refine wpAny_pure ?_
  show wpAny _ _ (mkIntGrown (b.toList.reverse.foldl (fun (acc : Int) (b : UInt8) => acc * 256 + (b.toNat : Int)) ((0 : Nat) : Int)) >>= fun v => _) _ _ s
  rw [KFB.foldI_eq, leN_fold]
  refine wpAny_bind (KFB.grown hn ?_)
  refine KFB.if_so (by decide +kernel) ?_
  exact wpAny_bind (wpAny_pure (wpAny_pure h))
theorem tree_by {t u : Tok} {P : Fin → Shared → Prop} (hl : b.size ≤ 8) (h : P (.done (.ret (.int (leN b.toList : Int) s.toks))) { s with toks := s.toks + 1 }) :
    wpAny (model prog w) A (Builtin.«int.from_bytes» ⟨[.type "int", .bytes b t, .str (PySem.Str.ofString "little") u], []⟩) P E s := by
  have hn : leN b.toList < 2 ^ 64 := by
    have h1 := leN_lt b.toList
    rw [Array.length_toList] at h1
    have h2 : 256 ^ b.size ≤ 256 ^ 8 := Nat.pow_le_pow_right (by decide) hl
    omega
  unfold Builtin.«int.from_bytes»
  refine wpAny_bind (wpAny_of_eq (a := true) KFB.type_int ?_)
  refine KFB.if_not rfl ?_
  refine wpAny_bind (wpAny_of_eq (a := true) F.conv_sub_int ?_)
  refine KFB.if_not rfl ?_
  refine wpAny_bind (wpAny_of_eq (a := [some (.bytes b t), some (.str (PySem.Str.ofString "little") u), none]) (by kernel_rfl) ?_)
  refine wpAny_bind (wpAny_of_eq (a := PySem.Str.ofString "little") (by kernel_rfl) ?_)
  refine wpAny_bind (wpAny_of_eq (a := false) rfl ?_)
  refine wpAny_bind (wpAny_of_eq (a := true) (by kernel_rfl) ?_)
  refine wpAny_bind (wpAny_of_eq (a := b) rfl ?_)
  show wpAny _ _ (mkIntGrown (b.toList.reverse.foldl (fun (acc : Int) (b : UInt8) => acc * 256 + (b.toNat : Int)) ((0 : Nat) : Int)) >>= fun v => _) _ _ s
  rw [KFB.foldI_eq, leN_fold]
  refine wpAny_bind (KFB.grown hn ?_)
  refine KFB.if_so (by decide +kernel) ?_
  exact wpAny_bind (wpAny_pure (wpAny_pure h))
theorem call_fb {x : Addr} {v : Value} {u : Tok} {z : Int} {Q : Value → Shared → Prop} (ho : KFB.StandsAt x s.heap)
    (tree : ∀ {P : Fin → Shared → Prop} {E' : Value → Shared → Prop} {A' : Around}, P (.done (.ret (.int z s.toks))) { s with toks := s.toks + 1 } → wpAny (model prog w) A' (Builtin.«int.from_bytes» ⟨[.type "int", v, .str (PySem.Str.ofString "little") u], []⟩) P E' s)
    (h : ∀ t k, Q (.int z t) { s with toks := k }) : wpAny (model prog w) A (call (.ref x) [v, .str (PySem.Str.ofString "little") u]) Q E s := by
  refine wpAny_call (codeAny_of_tree ?_)
  show wpAny _ A.in1 (callAny (.ref x) ⟨[v, .str (PySem.Str.ofString "little") u], []⟩) _ _ s
  simp only [callAny]
  refine wpAny_bind (wpAny_load ho ?_)
  simp only [KFB.bound, show (Value.type "builtin_function_or_method" == Value.type "method" || Value.type "builtin_function_or_method" == Value.type "builtin_function_or_method" || Value.type "builtin_function_or_method" == Value.type "method-wrapper") = true by decide, if_true]
  refine KFB.if_so (by decide) ?_
  refine wpAny_bind (wpAny_of_eq (a := ()) check_fb_ref ?_)
  refine wpAny_bind (wpAny_pure (wpAny_pure ?_))
  exact ⟨KFB.quiet_fb, codeAny_builtin KFB.entry_fb (tree (h _ _))⟩
end

/-- a value that is bytes, or a bytearray of the ledger -/
inductive IsBuf (news : List (Addr × Obj)) : Value → Array UInt8 → Prop
  | bytes (b : Array UInt8) (t : Tok) : IsBuf news (.bytes b t) b
  | arr (b : Array UInt8) (a : Addr) : (a, baObj b) ∈ news → IsBuf news (.ref a) b
theorem IsBuf.mono {news news' : List (Addr × Obj)} {v : Value} {b : Array UInt8} (h : IsBuf news v b) (hs : ∀ p ∈ news, p ∈ news') : IsBuf news' v b := by
  cases h with
  | bytes b t => exact .bytes b t
  | arr b a ha => exact .arr b a (hs _ ha)
theorem IsBuf.cons {news : List (Addr × Obj)} {v : Value} {b : Array UInt8} {p : Addr × Obj} (h : IsBuf news v b) : IsBuf (p :: news) v b := h.mono fun _ hq => .tail _ hq
section
variable {prog : Program} {w : World} {A : Around} {E : Value → Shared → Prop} {s : Shared} {h₀ : Heap} {L : Addr} {m : PySem.Str → Option Value} {news : List (Addr × Obj)} {v : Value} {b : Array UInt8} {value slice : PySem.Expr}
theorem len_buf {Q : Value → Shared → Prop} (N : News h₀ L s.heap news) (hv : IsBuf news v b) (hz : b.size ≤ 16777216) (h : ∀ t k, Q (.int b.size t) { s with toks := k }) : wpAny (model prog w) A (call (.builtin "len") [v]) Q E s := by
  cases hv with
  | bytes b t => exact len_bytes (by omega) (h _ _)
  | arr b a ha => exact len_ba (N.get ha) (by omega) h
theorem bytes_buf {Q : Value → Shared → Prop} (N : News h₀ L s.heap news) (hv : IsBuf news v b) (hz : b.size ≤ 16777216) (h : ∀ t k, Q (.bytes b t) { s with toks := k }) : wpAny (model prog w) A (call (.type "bytes") [v]) Q E s := by
  cases hv with
  | bytes b t => exact bytes_bytes (h t s.toks)
  | arr b a ha => exact bytes_ba (N.get ha) (by rw [sizeLine_eq]; exact hz) h
theorem from_buf {x : Addr} {u : Tok} {Q : Value → Shared → Prop} (N : News h₀ L s.heap news) (hx : (x, KFB.bound) ∈ news) (hv : IsBuf news v b) (hz : b.size ≤ 8) (h : ∀ t k, Q (.int (leN b.toList : Int) t) { s with toks := k }) :
    wpAny (model prog w) A (call (.ref x) [v, .str (PySem.Str.ofString "little") u]) Q E s := by
  cases hv with
  | bytes b t => exact call_fb (KFB.at_of N hx) (fun z => tree_by hz z) h
  | arr b a ha => exact call_fb (KFB.at_of N hx) (fun z => tree_ba (N.get ha) hz z) h
theorem slice_buf {i n : Nat} {t u : Tok} {Q : Value → Shared → Prop} {j : Int} (F : Fr h₀ L s.heap m) (N : News h₀ L s.heap news) (hv : IsBuf news v b) (hz : b.size ≤ 16777216) (hi : i ≤ b.size) (hj : j = (i : Int) + (n : Int))
    (h : ∀ v' tl h' k, Fr h₀ L h' m → News h₀ L h' (tl ++ news) → IsBuf (tl ++ news) v' (cutB b i n) → Q v' { s with heap := h', toks := k })
    (hs : ∀ v, subscripted slice false v (.ref s.heap.objs.size) = operate [.ref s.heap.objs.size, v] (getItem v (.ref s.heap.objs.size)) := by intro v; cases v <;> with_unfolding_all rfl)
    (ht : ∀ v r, letTemporaryGo value v r = pure () := by intro _ _; with_unfolding_all rfl) :
    wpAny (model prog w) A (subscriptTail value slice v (.ref s.heap.objs.size)) Q E { s with heap := s.heap.push { cls := .type "slice", data := .fields #[.int (i : Int) t, .int j u, .none] } } := by
  cases hv with
  | bytes b t' =>
    refine KBc.slice_K (ks := KBw.bInts b) F N rfl (.int _ _) (.int _ _) (by rw [KBw.ints_length]; exact hz) (fun h' t'' k F' N' _ => ?_) (hs _) (ht _)
    subst hj
    rw [picked_cut hi]
    exact h _ [] h' k F' N' (.bytes _ _)
  | arr b a ha => exact slice_ba hz F N (N.get ha) hi hj (fun x h' F' N' _ => h (.ref x) [(x, baObj (cutB b i n))] h' s.toks F' N' (.arr _ _ (.head _))) (hs _) (ht _)
theorem item_buf {i : Int} {t : Tok} {Q : Value → Shared → Prop} (N : News h₀ L s.heap news) (hv : IsBuf news v b) (hz : b.size ≤ 16777216) (h0 : 0 ≤ i) (h1 : i < b.size)
    (h : ∀ t k, Q (.int ((b.toList.getD i.toNat 0).toNat : Int) t) { s with toks := k })
    (hs : ∀ v, subscripted slice false v (.int i t) = operate [v, .int i t] (getItem v (.int i t)) := by intro v; cases v <;> with_unfolding_all rfl)
    (ht : ∀ v r, letTemporaryGo value v r = pure () := by intro _ _; with_unfolding_all rfl) : wpAny (model prog w) A (subscriptTail value slice v (.int i t)) Q E s := by
  cases hv with
  | bytes b t' => exact KBy.item_N (x := b.toList) (by rw [Array.length_toList]; omega) h0 (by rw [Array.length_toList]; exact h1) (h _ _) (hs _) (ht _)
  | arr b a ha => exact item_ba (N.get ha) h0 h1 (by omega) h (hs _) (ht _)
theorem ne_buf {Q : Value → Shared → Prop} (hu : A.units < cLine) (N : News h₀ L s.heap news) (hv : IsBuf news v b) (h : Q (.bool false) s) : wpAny (model prog w) A (compareOp .NotEq v v) Q E s := by
  cases hv with
  | bytes b t => exact ne_bytes (by rw [bne_self_eq_false]; exact h)
  | arr b a ha => exact ne_ba hu (N.get ha) (N.get ha) (by rw [bne_self_eq_false]; exact h)
theorem slice_bufI {x z j : Int} {t u : Tok} {Q : Value → Shared → Prop} (F : Fr h₀ L s.heap m) (N : News h₀ L s.heap news) (hv : IsBuf news v b) (hz : b.size ≤ 16777216) (h0 : 0 ≤ x) (hz0 : 0 ≤ z) (hi : x ≤ b.size) (hj : j = x + z)
    (h : ∀ v' tl h' k, Fr h₀ L h' m → News h₀ L h' (tl ++ news) → IsBuf (tl ++ news) v' (cutB b x.toNat z.toNat) → Q v' { s with heap := h', toks := k })
    (hs : ∀ v, subscripted slice false v (.ref s.heap.objs.size) = operate [.ref s.heap.objs.size, v] (getItem v (.ref s.heap.objs.size)) := by intro v; cases v <;> with_unfolding_all rfl)
    (ht : ∀ v r, letTemporaryGo value v r = pure () := by intro _ _; with_unfolding_all rfl) :
    wpAny (model prog w) A (subscriptTail value slice v (.ref s.heap.objs.size)) Q E { s with heap := s.heap.push { cls := .type "slice", data := .fields #[.int x t, .int j u, .none] } } := by
  obtain ⟨i, rfl⟩ := Int.eq_ofNat_of_zero_le h0
  obtain ⟨n, rfl⟩ := Int.eq_ofNat_of_zero_le hz0
  exact slice_buf F N hv hz (by omega) hj h hs ht
end
/-- the number of z octets at x -/
def numZ (b : Array UInt8) (x z : Int) : Int := (leN ((b.toList.drop x.toNat).take z.toNat) : Int)
theorem numZ_nonneg (b : Array UInt8) (x z : Int) : 0 ≤ numZ b x z := Int.natCast_nonneg _
theorem numZ_lt (b : Array UInt8) (x z : Int) : numZ b x z < ((256 ^ z.toNat : Nat) : Int) := by
  unfold numZ
  have h := leN_lt ((b.toList.drop x.toNat).take z.toNat)
  have h2 : 256 ^ ((b.toList.drop x.toNat).take z.toNat).length ≤ 256 ^ z.toNat := Nat.pow_le_pow_right (by decide) (by rw [List.length_take]; omega)
  omega
theorem numZ_one {b : Array UInt8} {x : Int} (h1 : x.toNat < b.size) : numZ b x 1 = ((b.toList.getD x.toNat 0).toNat : Int) := by
  unfold numZ
  have e : (b.toList.drop x.toNat).take (Int.toNat 1) = [b.toList.getD x.toNat 0] := by
    rw [show Int.toNat 1 = 1 from rfl, List.drop_eq_getElem_cons (by simpa using h1)]
    simp [h1]
  rw [e]; simp [leN]
end Mine

end
/-! text BaP -/
section
open PySem PySem.W PyProof.Rows PySem.Calls
set_option Elab.async false
set_option maxRecDepth 100000
namespace Mine
open Builtin

/-! bytearrays: what looks at the stack, in the path logic -/
section
variable {M : Model} {A : Around} {E : Value → Shared → Prop} {s : Shared} {a : Addr} {b : Array UInt8}
theorem wpP_if_false {α : Type} {c : Bool} {x y : Sem α} {Q : α → Shared → Prop} (hc : c = false) (h : wpP M A y Q E s) : wpP M A (if c = true then x else y) Q E s := by
  subst hc
  exact h
theorem wpP_if_true {α : Type} {c : Bool} {x y : Sem α} {Q : α → Shared → Prop} (hc : c = true) (h : wpP M A x Q E s) : wpP M A (if c = true then x else y) Q E s := by
  subst hc
  exact h
theorem wpP_of_eq {α : Type} {t : Sem α} {x : α} {Q : α → Shared → Prop} (h : t = pure x) (hQ : Q x s) : wpP M A t Q E s := h ▸ wpP_pure hQ
theorem guard_of {l : List (Code × Pos)} (hg : guardsOf l = []) {x : Code × Pos} (hx : x ∈ l) : x.1.isGuard = false := by
  cases h : x.1.isGuard with
  | false => rfl
  | true =>
    have : x.1 ∈ guardsOf l := by
      unfold guardsOf
      exact List.mem_filter.mpr ⟨List.mem_map_of_mem hx, h⟩
    rw [hg] at this; cases this
theorem held_of {l : List (Code × Pos)} (hl : heldAny l = false) {x : Code × Pos} (hx : x ∈ l) : heldCode x.1 = false := by
  unfold heldAny at hl
  rw [List.any_eq_false] at hl
  simpa using hl x hx
theorem exported_P {v : Value} {Q : Bool → Shared → Prop} (hg : A.guards = some []) (h : Q false s) : wpP M A (Bytes.exported v) Q E s := by
  unfold Bytes.exported
  refine wpP_bind (wpP_stack fun l hl hgl => wpP_pure ?_)
  have key : ∀ {f : Code × Pos → Bool}, (∀ x ∈ l, f x = false) → Q (l.any f) s := fun hf => by
    rw [List.any_eq_false.mpr fun x hx => by rw [hf x hx]; exact Bool.false_ne_true]
    exact h
  refine key fun x hx => ?_
  have h1 := guard_of (hgl [] hg) hx
  have h2 := held_of hl hx
  obtain ⟨c, p⟩ := x
  simp only at h1 h2
  cases c with
  | builtin id as =>
    obtain ⟨pos, kw⟩ := as
    have n : ∀ t : String, guardIds.contains t = true → ¬ id = t := fun t ht e => by
      subst e
      exact Bool.false_ne_true (h1.symm.trans ht)
    delta Bytes.exported.match_1
    dsimp only [Bytes.exported._sparseCasesOn_1]
    refine (dif_neg (n "bytearray.__contains__" (by decide +kernel))).trans ?_
    refine (dif_neg (n "bytearray.__mod__" (by decide +kernel))).trans ?_
    refine (dif_neg (n "bytearray.__rmod__" (by decide +kernel))).trans ?_
    refine (dif_neg (n "_struct.pack_into.held" (by decide +kernel))).trans ?_
    refine (dif_neg (n "bytearray.find.held" (by decide +kernel))).trans ?_
    cases pos with
    | nil => rfl
    | cons v tl =>
      show (Bytes.sameRef v _ && Bytes.decodersThatHold.contains id) = false
      rw [show Bytes.decodersThatHold.contains id = false from h2, Bool.and_false]
  | _ => rfl
theorem exports_ba {Q : Nat → Shared → Prop} (h : BaAt s.heap a b) (hQ : Q 0 s) : wpAny M A (Bytes.exportsOf (.ref a)) Q E s := by
  unfold Bytes.exportsOf
  exact wpAny_bind (wpAny_load h (wpAny_pure hQ))
theorem write_ba {f : Array UInt8 → Array UInt8} {Q : Unit → Shared → Prop} (h : BaAt s.heap a b) (hz : (f b).size ≤ sizeLine)
    (hQ : ∀ h', BaAt h' a (f b) → Heap.SameBut a s.heap h' → Q () { s with heap := h' }) : wpAny M A (Bytes.write (.ref a) f) Q E s := by
  unfold Bytes.write updateBytearray
  refine wpAny_bind (wpAny_load h ?_)
  refine wpAny_bind (wpAny_update h ?_)
  have h2 : (s.heap.update a (Obj.mapBytearray f)).get? a = some (baObj (f b)) := Heap.get?_update_self _ h rfl
  unfold lookBehind
  refine wpAny_bind (wpAny_loadPart h2 ?_)
  have e : (baObj (f b)).data.pastItsLine = none := by
    show (if (f b).size > sizeLine then _ else _) = _
    rw [if_neg (Nat.not_lt.mpr hz)]
  rw [e]
  exact wpAny_pure (hQ _ h2 (Heap.SameBut.update ..))
theorem resize_P {Q : Unit → Shared → Prop} (hg : A.guards = some []) (h : BaAt s.heap a b) (hQ : Q () s) : wpP M A (Bytes.checkResize (.ref a)) Q E s := by
  unfold Bytes.checkResize
  refine wpP_bind (wpP_bind (exported_P hg ?_))
  show wpP M A (Bytes.exportsOf (.ref a) >>= fun n => pure (decide (n > 0))) _ E s
  refine wpP_seq (exports_ba h ?_)
  refine wpP_pure ?_
  refine wpP_if_false rfl ?_
  exact wpP_pure hQ
end
section
variable {prog : Program} {w : World} {A : Around} {E : Value → Shared → Prop} {s : Shared} {a : Addr} {b : Array UInt8}
theorem ba_bind0 : Bytes.bindOptional "bytearray.__init__" "bytearray" ["source", "encoding", "errors"] [] [] = pure [none, none, none] := by kernel_rfl
theorem ba_bind1 (v : Value) : Bytes.bindOptional "bytearray.__init__" "bytearray" ["source", "encoding", "errors"] [v] [] = pure [some v, none, none] := by kernel_rfl
theorem init0_P {Q : Fin → Shared → Prop} (hg : A.guards = some []) (h : BaAt s.heap a b) (hQ : ∀ h', BaAt h' a #[] → Heap.SameBut a s.heap h' → Q (.done (.ret .none)) { s with heap := h' }) :
    wpP (model prog w) A («bytearray.__init__» ⟨[.ref a], []⟩) Q E s := by
  unfold Builtin.«bytearray.__init__»
  refine wpP_seq (ownRelease_ba h ?_)
  refine wpP_if_false rfl ?_
  refine wpP_bind (wpP_of_eq ba_bind0 ?_)
  refine wpP_bind (wpP_of_eq (x := ()) rfl ?_)
  refine wpP_bind (wpP_of_eq (x := ()) rfl ?_)
  refine wpP_bind (wpP_bind (exported_P hg ?_))
  show wpP _ A (Bytes.exportsOf (.ref a) >>= fun n => pure (decide (n > 0))) _ E s
  refine wpP_seq (exports_ba h ?_)
  refine wpP_pure ?_
  refine wpP_if_false rfl ?_
  refine wpP_seq (write_ba h (Nat.zero_le _) fun h' hb hs => ?_)
  refine wpP_bind (wpP_of_eq (x := ()) rfl ?_)
  exact wpP_pure (hQ h' hb hs)
theorem buffer_by {M : Model} {id : String} {full : Bool} {c : Array UInt8} {t : Tok} {Q : Option (Array UInt8) → Shared → Prop} (hQ : Q (some c) s) : wpAny M A (Bytes.buffer? id (.bytes c t) full) Q E s := by
  have hT := typeIs_bytes s c t
  unfold Bytes.buffer?
  refine wpAny_bind (wpAny_specialOf hT by_buffer ?_)
  have own : ∀ {Q : Bool → Shared → Prop}, Q true s → wpAny M A (Bytes.slotIsOwn (.bytes c t) "__buffer__") Q E s := fun hq => by
    unfold Bytes.slotIsOwn
    refine wpAny_bind (wpAny_specialOf hT by_buffer ?_)
    refine wpAny_ite ?_
    rw [if_neg (by decide +kernel)]
    rw [show String.dropRight "bytes.__buffer__" (String.length "__buffer__" + 1) = "bytes" by decide +kernel]
    exact wpAny_isInstance hT sub_bytes_bytes hq
  have rel : ∀ {Q : Bool → Shared → Prop}, Q false s → wpAny M A (Bytes.ownRelease (.bytes c t)) Q E s := fun hq => by
    unfold Bytes.ownRelease Bytes.slotIsOwn
    refine wpAny_bind (wpAny_bind (wpAny_specialOf hT by_release ?_))
    exact wpAny_pure (wpAny_pure hq)
  refine wpAny_bind (own ?_)
  refine wpAny_ite ?_
  rw [if_neg (by decide)]
  refine wpAny_bind (wpAny_specialOf hT by_buffer ?_)
  refine wpAny_bind (rel ?_)
  refine wpAny_ite ?_
  rw [if_neg (by decide)]
  exact wpAny_bind (wpAny_of_eq (a := c) rfl (wpAny_pure hQ))
theorem init1_P {c : Array UInt8} {t : Tok} {Q : Fin → Shared → Prop} (hg : A.guards = some []) (h : BaAt s.heap a b) (hz : c.size ≤ sizeLine) (hQ : ∀ h', BaAt h' a c → Heap.SameBut a s.heap h' → Q (.done (.ret .none)) { s with heap := h' }) :
    wpP (model prog w) A («bytearray.__init__» ⟨[.ref a, .bytes c t], []⟩) Q E s := by
  unfold Builtin.«bytearray.__init__»
  refine wpP_seq (ownRelease_ba h ?_)
  refine wpP_if_false rfl ?_
  refine wpP_bind (wpP_of_eq (ba_bind1 _) ?_)
  refine wpP_bind (wpP_of_eq (x := ()) rfl ?_)
  refine wpP_bind (wpP_of_eq (x := ()) rfl ?_)
  refine wpP_bind (wpP_bind (exported_P hg ?_))
  show wpP _ A (Bytes.exportsOf (.ref a) >>= fun n => pure (decide (n > 0))) _ E s
  refine wpP_seq (exports_ba h ?_)
  refine wpP_pure ?_
  refine wpP_if_false rfl ?_
  refine wpP_seq (write_ba h (Nat.zero_le _) fun h' hb hs => ?_)
  refine wpP_bind (wpP_of_eq (x := none) rfl ?_)
  refine wpP_if_false rfl ?_
  refine wpP_bind (wpP_of_eq (x := ()) rfl ?_)
  refine wpP_seq (wpAny_specialOf (typeIs_bytes _ _ _) by_no_index ?_)
  refine wpP_if_false rfl ?_
  refine wpP_seq (buffer_by ?_)
  refine wpP_seq (wpAny_rule ?_)
  refine wpP_seq (write_ba hb hz fun h2 hb2 hs2 => ?_)
  exact wpP_pure (hQ h2 hb2 (hs.trans hs2))
theorem append_P {i : Int} {t : Tok} {Q : Fin → Shared → Prop} (hg : A.guards = some []) (h : BaAt s.heap a b) (h0 : 0 ≤ i) (h1 : i < 256) (hz : b.size + 1 ≤ sizeLine)
    (hQ : ∀ h', BaAt h' a (b.push i.toNat.toUInt8) → Heap.SameBut a s.heap h' → Q (.done (.ret .none)) { s with heap := h' }) :
    wpP (model prog w) A («bytearray.append» ⟨[.ref a, .int i t], []⟩) Q E s := by
  unfold Builtin.«bytearray.append»
  refine wpP_bind (wpP_of_eq (x := (.ref a, .int i t)) rfl ?_)
  refine wpP_bind ?_
  unfold Bytes.byteValue
  refine wpP_bind (wpP_of_eq (x := i) rfl ?_)
  refine wpP_if_false (by rw [decide_eq_false (by omega), decide_eq_false (by omega)]; rfl) ?_
  refine wpP_pure ?_
  refine wpP_bind (resize_P hg h ?_)
  refine wpP_seq (write_ba h (by rw [Array.size_push]; exact hz) fun h' hb hs => ?_)
  exact wpP_pure (hQ h' hb hs)
end
end Mine

end
/-! text BaQ -/
section
open PySem PySem.W PyProof.Rows PySem.Calls
set_option Elab.async false
set_option maxRecDepth 100000
namespace Mine
open Builtin
theorem ba_mro : mroOf (.type "bytearray") = pure [.type "bytearray", .type "object"] := by rw [mroOf_type]; kernel_rfl
theorem ba_lookup_new : typeLookup (.type "bytearray") "__new__" = pure (some (.builtin "bytearray.__new__")) := by rw [typeLookup_type, builtinLookup_eq_fast]; kernel_rfl
theorem ba_called : TypeCalled "bytearray" "bytearray.__new__" "bytearray.__init__" :=
  ⟨by decide +kernel, by decide +kernel, ⟨_, _, ba_mro⟩, madeBy_type ba_mro ba_lookup_new (by decide +kernel), by decide +kernel, by rw [isSubtype_type]; kernel_rfl, ba_slot_init⟩
theorem ba_typeCall0 : checkTypeCall "bytearray" ⟨[], []⟩ = pure () := by kernel_rfl
theorem ba_typeCall1 (v : Value) : checkTypeCall "bytearray" ⟨[v], []⟩ = pure () := by kernel_rfl
theorem ba_newCall0 : checkBuiltinCall "bytearray.__new__" ⟨[.type "bytearray"], []⟩ = pure () := by kernel_rfl
theorem ba_newCall1 (v : Value) : checkBuiltinCall "bytearray.__new__" ⟨[.type "bytearray", v], []⟩ = pure () := by kernel_rfl
theorem ba_args_init0 (v : Value) : argsOk "bytearray.__init__" ⟨[v], []⟩ := by unfold argsOk; kernel_rfl
theorem ba_args_init1 (v u : Value) : argsOk "bytearray.__init__" ⟨[v, u], []⟩ := by unfold argsOk; kernel_rfl
theorem ba_entryN : entryFor table "bytearray.__new__" = some Builtin.«list.__new__» := 
  entryFor_alias (id' := "list.__new__") (by rw [fastTable_eq_tree]; kernel_rfl) (by decide +kernel) (by decide +kernel) (by rw [fastTable_eq_tree]; kernel_rfl)
theorem ba_plainN : plainId "bytearray.__new__" = true := by decide +kernel
set_option maxRecDepth 1000000 in
set_option maxHeartbeats 4000000 in
theorem ba_owner : ("bytearray.__new__".splitOn ".__new__").headD "" = "bytearray" := by simp +decide [String.splitOn, String.splitOnAux]

theorem ba_sub_self : isSubtype (.type "bytearray") (.type "bytearray") = pure true := by rw [isSubtype_type]; kernel_rfl
section
variable {prog : Program} {w : World} {A : Around} {E : Value → Shared → Prop} {s : Shared}
theorem code_ba_new (rest : List Value) (hc : checkBuiltinCall "bytearray.__new__" ⟨.type "bytearray" :: rest, []⟩ = pure ()) {Q₁ : Value → Shared → Prop}
    (h : Q₁ (.ref s.heap.objs.size) { s with heap := s.heap.push (baObj #[]) }) :
    codeAny (model prog w) A (.call (.builtin "bytearray.__new__") ⟨.type "bytearray" :: rest, []⟩) (wants Q₁ E) s := by
  refine codeAny_of_tree ?_
  show wpAny _ A.in1 (do checkBuiltinCall "bytearray.__new__" ⟨.type "bytearray" :: rest, []⟩; again (.builtin "bytearray.__new__" ⟨.type "bytearray" :: rest, []⟩)) _ _ s
  refine wpAny_bind (wpAny_of_eq hc (wpAny_pure ⟨plainId_quiet ba_plainN _, codeAny_builtin_stack ba_entryN rfl fun p st => ?_⟩))
  rw [Around.under_plainId ba_plainN _]
  have hsub := ba_sub_self
  have hown := ba_owner
  obtain ⟨hp, g, d, tk, os⟩ := s
  simp only [hown]
  wp_walk
  exact h

theorem codeP_builtin {id : String} {args : Args} {b : Builtin} {R : Result → Shared → Prop} (hb : entryFor table id = some b) (hh : Bytes.decodersThatHold.contains id = false)
    (h : wpP (model prog w) (A.under (.builtin id args)) (b args) (fun fin s' => match fin with | .done f => R (.ok f) s' | .again c' => c'.quiet = true ∧ codeP (model prog w) A c' R s') (fun e s' => R (.error e) s') s) :
    codeP (model prog w) A (.builtin id args) R s := by
  refine codeP_of_tree hh ?_
  show wpP _ _ (match entryFor table id with | some b => b args | none => unsupported ((withoutEnding? id "#data").getD id)) _ _ s
  rw [hb]; exact h
theorem codeP_call_builtin {id : String} {args : Args} {b : Builtin} {R : Result → Shared → Prop} (hq : plainId id = true) (hb : entryFor table id = some b) (hh : Bytes.decodersThatHold.contains id = false)
    (h : wpAny (model prog w) A.in1 (checkBuiltinCall id args) (fun _ s₁ => wpP (model prog w) A.in1 (b args) (fun fin s' => match fin with | .done f => R (.ok f) s' | .again c' => c'.quiet = true ∧ codeP (model prog w) A c' R s') (fun e s' => R (.error e) s') s₁) (fun e s' => R (.error e) s') s) :
    codeP (model prog w) A (.call (.builtin id) args) R s := by
  refine codeP_of_tree rfl ?_
  show wpP _ A.in1 (do checkBuiltinCall id args; again (.builtin id args)) _ _ s
  refine wpP_seq (wpAny_mono h (fun _ s₁ h₁ => wpP_pure ⟨plainId_quiet hq args, codeP_builtin hb hh ?_⟩) fun _ _ x => x)
  rw [Around.under_plainId hq args]
  exact h₁
/-- bytearray(..): the object is new -/
theorem newBa_P {args : List Value} {c : Array UInt8} {Q : Value → Shared → Prop} (hg : A.guards = some []) (ht : checkTypeCall "bytearray" ⟨args, []⟩ = pure ()) (hn : checkBuiltinCall "bytearray.__new__" ⟨.type "bytearray" :: args, []⟩ = pure ())
    (hok : ∀ v, argsOk "bytearray.__init__" ⟨v :: args, []⟩)
    (hi : ∀ {A : Around} {s : Shared} {a : Addr} {Q : Fin → Shared → Prop} {E : Value → Shared → Prop}, A.guards = some [] → BaAt s.heap a #[] → (∀ h', BaAt h' a c → Heap.SameBut a s.heap h' → Q (.done (.ret .none)) { s with heap := h' }) → wpP (model prog w) A («bytearray.__init__» ⟨.ref a :: args, []⟩) Q E s)
    (hQ : ∀ h', BaAt h' s.heap.objs.size c → (∀ b o, s.heap.get? b = some o → h'.get? b = some o) → Q (.ref s.heap.objs.size) { s with heap := h' }) :
    wpP (model prog w) A (call (.type "bytearray") args) Q E s := by
  have hpush : BaAt (s.heap.push (baObj #[])) s.heap.objs.size #[] := Heap.get?_push_size _ rfl
  refine wpP_call (codeP_of_tree rfl ?_)
  show wpP _ _ (callAny (.type "bytearray") _) _ _ _
  refine wpP_pure ⟨Code.quiet_builtin _ (by decide +kernel), codeP_builtin F.entry_type_call (by decide +kernel) ?_⟩
  rw [Around.under_plain (weight_type_call_type _ args []) rfl]
  unfold Builtin.«type.__call__»
  refine wpP_if_false ba_called.notType ?_
  refine wpP_if_false ba_called.canCreate ?_
  refine wpP_bind (wpP_of_eq (x := ()) ht ?_)
  refine wpP_bind (wpP_of_eq ba_mro ?_)
  refine wpP_if_false rfl ?_
  refine wpP_bind (wpP_of_eq ba_called.made ?_)
  refine wpP_bind (wpP_of_eq (x := .builtin "bytearray.__new__") rfl ?_)
  refine wpP_bind (wpP_holding (wpP_of (wpAny_call (codeAny_mono (code_ba_new (E := fun _ _ => False) args hn (Q₁ := fun v s' => v = .ref s.heap.objs.size ∧ s' = { s with heap := s.heap.push (baObj #[]) }) ⟨rfl, rfl⟩) ?_))))
  rintro r s' hr
  cases r with
  | error e => exact hr.elim
  | ok fl =>
    cases fl with
    | ret v =>
      obtain ⟨rfl, rfl⟩ := hr
      show wpP _ _ _ _ _ _
      have hT : Shared.TypeIs { s with heap := s.heap.push (baObj #[]) } (.ref s.heap.objs.size) "bytearray" := hpush.typeIs
      refine wpP_seq (wpAny_isInstance hT ba_sub_self ?_)
      refine wpP_if_false rfl ?_
      refine wpP_bind (wpP_holding ?_)
      unfold callSpecial?
      refine wpP_seq (wpAny_specialOf hT ba_slot_init.lookup ?_)
      refine wpP_holding ?_
      refine wpP_bind (wpP_of_eq (ba_slot_init.bind _) ?_)
      refine wpP_bind (wpP_call ?_)
      refine codeP_call_builtin ba_slot_init.plain ba_entry_init (by decide +kernel) (ba_slot_init.check _ _ _ _ _ _ _ _ hT (hok _) ?_)
      refine hi hg hpush fun h' hb hs => ?_
      refine wpP_pure ?_
      refine wpP_if_false rfl ?_
      refine wpP_pure ?_
      refine hQ h' hb fun b o e => ?_
      exact (hs.2 b (Nat.ne_of_lt (Heap.lt_size e))).trans (Heap.get?_push_of_some _ e)
    | next => exact hr.elim
    | brk => exact hr.elim
    | cont => exact hr.elim
end
end Mine

end
/-! text BaT -/
section
open PySem PySem.W PyProof.Rows PySem.Calls
set_option Elab.async false
set_option maxRecDepth 100000
namespace Mine
open Builtin
/-- b with the octets c laid at i -/
def putB (b c : Array UInt8) (i : Nat) : Array UInt8 := b.extract 0 i ++ c ++ b.extract (i + c.size) b.size
section
variable {prog : Program} {w : World} {A : Around} {E : Value → Shared → Prop} {s : Shared} {a sl : Addr} {b c : Array UInt8} {i : Nat} {t u v : Tok}
theorem bytearray0_P {Q : Value → Shared → Prop} (hg : A.guards = some []) (hQ : ∀ h', BaAt h' s.heap.objs.size #[] → (∀ b o, s.heap.get? b = some o → h'.get? b = some o) → Q (.ref s.heap.objs.size) { s with heap := h' }) :
    wpP (model prog w) A (call (.type "bytearray") []) Q E s :=
  newBa_P hg ba_typeCall0 ba_newCall0 ba_args_init0 (fun hg h hQ => init0_P hg h hQ) hQ
theorem bytearray1_P {Q : Value → Shared → Prop} (hg : A.guards = some []) (hz : c.size ≤ sizeLine) (hQ : ∀ h', BaAt h' s.heap.objs.size c → (∀ b o, s.heap.get? b = some o → h'.get? b = some o) → Q (.ref s.heap.objs.size) { s with heap := h' }) :
    wpP (model prog w) A (call (.type "bytearray") [.bytes c t]) Q E s :=
  newBa_P hg (ba_typeCall1 _) (ba_newCall1 _) (fun v => ba_args_init1 v _) (fun hg h hQ => init1_P hg h hz hQ) hQ
theorem sliceParts_P {l j : Int} {Q : Value × Value × Value → Shared → Prop} (hs : s.heap.IsSliceOf sl (.int l t) (.int j u) .none) (h : Q (rawInt l, rawInt j, .none) s) : wpAny (model prog w) A (Bytes.sliceParts (.ref sl)) Q E s := by
  obtain ⟨o, ho, hc, hd⟩ := hs
  unfold Bytes.sliceParts
  refine wpAny_bind (wpAny_field (x := .none) ho hd rfl ?_)
  kby_none
  refine wpAny_ite (KBy.ite_no (show ¬ ((Value.none == rawInt 0) = true) from Bool.false_ne_true) ?_)
  refine wpAny_bind (wpAny_field (x := .int l t) ho hd rfl ?_)
  kby_int
  refine wpAny_bind (wpAny_field (x := .int _ _) ho hd rfl ?_)
  kby_int
  exact wpAny_pure h
theorem setitem_P {Q : Fin → Shared → Prop} (hg : A.guards = some []) (h : BaAt s.heap a b) (hs : s.heap.IsSliceOf sl (.int (i : Int) t) (.int ((i : Int) + (c.size : Int)) u) .none) (hin : i + c.size ≤ b.size) (hz : b.size ≤ 16777216)
    (hQ : ∀ h', BaAt h' a (putB b c i) → (∀ x o, x ≠ a → s.heap.get? x = some o → h'.get? x = some o) → Q (.done (.ret .none)) { s with heap := h' }) :
    wpP (model prog w) A («bytearray.__setitem__» ⟨[.ref a, .ref sl, .bytes c v], []⟩) Q E s := by
  unfold Builtin.«bytearray.__setitem__»
  refine wpP_if_false rfl ?_
  have hT : s.TypeIs (.ref sl) "slice" := by obtain ⟨o, ho, hc, hd⟩ := hs; exact ⟨o, ho, hc⟩
  refine wpP_bind ?_
  unfold Bytes.subscript?
  refine wpP_seq (wpAny_specialOf hT slice_no_index (wpP_pure ?_))
  refine wpP_seq (wpAny_typeOf hT ?_)
  refine wpP_if_false rfl ?_
  refine wpP_seq (sliceParts_P hs ?_)
  refine wpP_seq (wpAny_isInstance (typeIs_bytes _ _ _) sub_bytes_ba ?_)
  refine wpP_if_true rfl ?_
  have hB := typeIs_bytes s c v
  refine wpP_bind (wpP_bind (wpP_bind ?_))
  refine wpP_of (wpAny_specialOf hB by_no_index (wpP_pure ?_))
  refine wpP_bind (wpP_bind ?_)
  refine wpP_of (wpAny_specialOf hB by_no_int (wpP_pure ?_))
  refine wpP_bind (wpP_bind ?_)
  refine wpP_of (wpAny_specialOf hB by_no_float (wpP_pure ?_))
  refine wpP_of (wpAny_isInstance hB sub_bytes_complex ?_)
  refine wpP_bind (wpP_of_eq (x := none) rfl ?_)
  refine wpP_if_false rfl ?_
  refine wpP_seq (wpAny_rule ?_)
  refine wpP_bind (bytearray1_P hg (by rw [sizeLine_eq]; omega) fun h' hb hk => ?_)
  have hs' : h'.IsSliceOf sl (.int (i : Int) t) (.int ((i : Int) + (c.size : Int)) u) .none := by obtain ⟨o, ho, hc, hd⟩ := hs; exact ⟨o, hk _ _ ho, hc, hd⟩
  refine wpP_bind (wpP_holding (wpP_of (sliceParts_P (s := { s with heap := h' }) hs' ?_)))
  refine wpP_seq (payload_ba (s := { s with heap := h' }) hb ?_)
  have h2 : BaAt h' a b := hk _ _ h
  refine wpP_seq (payload_ba (s := { s with heap := h' }) h2 ?_)
  have go : wpAny (model prog w) A (sliceIndices (rawPart (some (i : Int))) (rawPart (some ((i : Int) + (c.size : Int)))) (rawPart none) b.size) (fun r s' => r = ((i : Int), ((i : Int) + (c.size : Int)), (1 : Int)) ∧ s' = { s with heap := h' }) E { s with heap := h' } := by
    refine wpAny_of_eq (sliceIndices_raw (some (i : Int)) (some ((i : Int) + (c.size : Int))) none b.size (fun e => nomatch e)) ⟨?_, rfl⟩
    show (max 0 (min (if (i : Int) < 0 then (i : Int) + b.size else (i : Int)) b.size), max 0 (min (if (i : Int) + (c.size : Int) < 0 then (i : Int) + (c.size : Int) + b.size else (i : Int) + (c.size : Int)) b.size), (1 : Int)) = _
    rw [if_neg (by omega), if_neg (by omega), Int.min_eq_left (by omega), Int.min_eq_left (by omega), Int.max_eq_right (by omega), Int.max_eq_right (by omega)]
  refine wpP_seq (wpAny_mono go (fun r s' hr => ?_) fun _ _ x => x)
  obtain ⟨rfl, rfl⟩ := hr
  refine wpP_if_true rfl ?_
  refine wpP_seq (wpAny_rule ?_)
  have em : max (i : Int) ((i : Int) + (c.size : Int)) = ((i + c.size : Nat) : Int) := by omega
  refine wpP_if_false (by rw [em]; have : ((c.size : Nat) : Int) = ((i + c.size : Nat) : Int) - (i : Int) := by omega
                          rw [← this]; exact bne_self_eq_false _) ?_
  rw [em]
  have hne : s.heap.objs.size ≠ a := Nat.ne_of_gt (Heap.lt_size h)
  have hsz : (putB b c i).size = b.size := by unfold putB; simp; omega
  refine wpP_seq (write_ba (s := { s with heap := h' }) h2 (by show (putB b c i).size ≤ _; rw [hsz, sizeLine_eq]; exact hz) fun h3 hb3 hs3 => ?_)
  exact wpP_pure (hQ h3 hb3 fun x o hx e => (hs3.2 x hx).trans (hk x o e))
end
end Mine

end
/-! text PathQ -/
section
open PySem PySem.W PyProof.Rows PySem.Calls
set_option Elab.async false
set_option maxRecDepth 100000
namespace Mine
section
variable {M : Model} {A : Around} {E : Value → Shared → Prop} {s : Shared} {env : Env}
theorem wpP_Assign_Name {x pos' value pos} {Q : Flow → Shared → Prop}
    (h : wpP M A (eval value env) (fun v s₁ => wpAny M A (storeName env x v) (fun _ => Q .next) E s₁) E s)
    (hs : swapsWith value (some (.Name x pos')) pos.line env = pure false := by rfl) : wpP M A (exec (.Assign [.Name x pos'] value pos) env) Q E s := by
  rw [exec_Assign_Name env x pos' value pos hs]
  exact wpP_seq (wpAny_standAt (wpP_bind (wpP_mono h (fun v s₁ h₁ => wpP_seq (wpAny_standAt (wpP_seq (wpAny_bindName (wpAny_mono h₁ (fun _ _ x => wpP_pure x) fun _ _ x => x))))) fun _ _ x => x)))
theorem wpP_Assign_Subscript {o i pos' value pos} {Q : Flow → Shared → Prop}
    (h : wpAny M A (eval value env) (fun v s₁ => wpAny M A (eval o env) (fun ov s₂ => wpAny M A (eval i env) (fun iv s₃ => wpP M A (setItem ov iv v) (fun _ => Q .next) E s₃) E s₂) E s₁) E s)
    (hs : swapsWith value (some (.Subscript o i pos')) pos.line env = pure false := by rfl) : wpP M A (exec (.Assign [.Subscript o i pos'] value pos) env) Q E s := by
  rw [exec_Assign_Subscript o i pos' value pos hs]
  refine wpP_seq (wpAny_standAt (wpP_seq (wpAny_mono h (fun v s₁ h₁ => wpP_bind ?_) fun _ _ x => x)))
  rw [assign_Subscript]
  refine wpP_seq (wpAny_holding (wpAny_mono h₁ (fun ov s₂ h₂ => wpP_seq (wpAny_holding (wpAny_mono h₂ (fun iv s₃ h₃ => ?_) fun _ _ x => x))) fun _ _ x => x))
  exact wpP_seq (wpAny_standAt (wpP_bind (wpP_holding (wpP_mono h₃ (fun _ s₄ h₄ => wpP_of (wpAny_release (wpP_pure h₄))) fun _ _ x => x))))
theorem wpP_CallName {x p args pos} {Q : Value → Shared → Prop} (h : wpAny M A (eval (.Name x p) env) (fun f s₁ => wpP M A (callWith pos f [] (backTo pos (starEach args env)) []) Q E s₁) E s) :
    wpP M A (eval (.Call (.Name x p) args [] pos) env) Q E s := by
  show wpP M A (eval (.Name x p) env >>= fun f => callWith pos f [] (backTo pos (starEach args env)) []) Q E s
  exact wpP_seq h
theorem wpP_CallMeth {name : Str} {o : Expr} {apos pos : Pos} {args : List Expr} {pl : Sem Bool} {Q : Value → Shared → Prop}
    (h : wpAny M A (eval o env) (fun ov s₁ => wpAny M A (getMethod ov name pl) (fun fx s₂ => wpP M A (callWith pos fx.1 fx.2 (backTo pos (starEach args env)) []) Q E s₂) E s₁) E s)
    (he : eval (.Call (.Attribute o name apos) args [] pos) env = (eval o env >>= fun ov => standAt apos.atName >>= fun _ => holding [ov] (getMethod ov name pl) >>= fun fx => callWith pos fx.1 fx.2 (backTo pos (starEach args env)) []) := by rfl) :
    wpP M A (eval (.Call (.Attribute o name apos) args [] pos) env) Q E s := by
  rw [he]
  exact wpP_seq (wpAny_mono h (fun ov s₁ h₁ => wpP_seq (wpAny_standAt (wpP_seq (wpAny_holding (wpAny_mono h₁ (fun fx s₂ h₂ => h₂) fun _ _ x => x))))) fun _ _ x => x)
/-- a call of a def of the written part -/
theorem wpP_callWith_K {K : Frag} {f : Value} {pos : Pos} {first : List Value} {e : Expr} {rest : List Expr} {Q : Value → Shared → Prop} (hk : keepIn K f = true)
    (h : wpAny M A (spliced (backTo pos (starEach (e :: rest) env))) (fun vs s₁ => K.In s₁.heap ∧ wpP M A (call f (first ++ vs)) Q E s₁) E s)
    (he : starEach (e :: rest) env = (false, eval e env) :: starEach rest env := by rfl) (hplain : (backTo pos (starEach rest env)).any (·.1) = false := by rfl) :
    wpP M A (callWith pos f first (backTo pos (starEach (e :: rest) env)) []) Q E s := by
  rw [he] at h ⊢
  exact wpP_callWith (P := fun h => K.In h) (by show ((false || (backTo pos (starEach rest env)).any (·.1)) || false) = false; rw [hplain]; rfl) (fun h X => keeps_K hk h X) (evalArgs_plain h)
theorem keeps_builtin {id : String} (h : Heap) (_ : True) : ∃ k, (k = Keeper.frame ∨ k = Keeper.machine ∨ k = Keeper.boundFrame) ∧ Looks M h (keeperOf (.builtin id)) k := ⟨.machine, .inr (.inl rfl), Looks.of_pure rfl⟩
theorem keeps_typ {id : String} (h : Heap) (_ : True) : ∃ k, (k = Keeper.frame ∨ k = Keeper.machine ∨ k = Keeper.boundFrame) ∧ Looks M h (keeperOf (.type id)) k := ⟨.machine, .inr (.inl rfl), Looks.of_pure rfl⟩
theorem wpP_callWith_b {id : String} {pos : Pos} {first : List Value} {e : Expr} {rest : List Expr} {Q : Value → Shared → Prop}
    (h : wpAny M A (spliced (backTo pos (starEach (e :: rest) env))) (fun vs s₁ => wpP M A (call (.builtin id) (first ++ vs)) Q E s₁) E s)
    (he : starEach (e :: rest) env = (false, eval e env) :: starEach rest env := by rfl) (hplain : (backTo pos (starEach rest env)).any (·.1) = false := by rfl) :
    wpP M A (callWith pos (.builtin id) first (backTo pos (starEach (e :: rest) env)) []) Q E s := by
  rw [he] at h ⊢
  exact wpP_callWith (P := fun _ => True) (by show ((false || (backTo pos (starEach rest env)).any (·.1)) || false) = false; rw [hplain]; rfl) keeps_builtin (evalArgs_plain (wpAny_mono h (fun _ _ x => ⟨trivial, x⟩) fun _ _ x => x))
theorem wpP_callWith_t0 {id : String} {pos : Pos} {Q : Value → Shared → Prop} (h : wpP M A (call (.type id) []) Q E s) : wpP M A (callWith pos (.type id) [] (backTo pos (starEach [] env)) []) Q E s :=
  wpP_callWith (P := fun _ => True) rfl keeps_typ (evalArgs_nil3 ⟨trivial, h⟩)
end
section
variable {prog : Program} {w : World} {A : Around} {E : Value → Shared → Prop} {s : Shared} {a sl : Addr} {b c : Array UInt8} {i : Nat} {t u v : Tok}
theorem callAppend_P {i : Int} {Q : Value → Shared → Prop} (hg : A.guards = some []) (h : BaAt s.heap a b) (h0 : 0 ≤ i) (h1 : i < 256) (hz : b.size + 1 ≤ 16777216)
    (hQ : ∀ h', BaAt h' a (b.push i.toNat.toUInt8) → Heap.SameBut a s.heap h' → Q .none { s with heap := h' }) : wpP (model prog w) A (call (.builtin "bytearray.append") [.ref a, .int i t]) Q E s := by
  refine wpP_call (codeP_call_builtin ba_slot_append.plain ba_entry_append (by decide +kernel) (ba_slot_append.check _ _ _ _ _ _ _ _ h.typeIs (ba_args_append _ _) ?_))
  exact append_P hg h h0 h1 (by rw [sizeLine_eq]; exact hz) hQ
theorem setItem_P {Q : Unit → Shared → Prop} (hg : A.guards = some []) (h : BaAt s.heap a b) (hs : s.heap.IsSliceOf sl (.int (i : Int) t) (.int ((i : Int) + (c.size : Int)) u) .none) (hin : i + c.size ≤ b.size) (hz : b.size ≤ 16777216)
    (hQ : ∀ h', BaAt h' a (putB b c i) → (∀ x o, x ≠ a → s.heap.get? x = some o → h'.get? x = some o) → Q () { s with heap := h' }) : wpP (model prog w) A (setItem (.ref a) (.ref sl) (.bytes c v)) Q E s := by
  unfold setItem
  refine wpP_holding (wpP_bind ?_)
  unfold sequenceKey
  refine wpP_seq (wpAny_typeOf h.typeIs ?_)
  refine wpP_if_true (by decide) ?_
  refine wpP_pure ?_
  refine wpP_bind ?_
  unfold callSpecial?
  refine wpP_seq (wpAny_specialOf h.typeIs ba_slot_setitem.lookup ?_)
  refine wpP_holding ?_
  refine wpP_bind (wpP_of_eq (ba_slot_setitem.bind _) ?_)
  refine wpP_bind (wpP_call (codeP_call_builtin ba_slot_setitem.plain ba_entry_setitem (by decide +kernel) (ba_slot_setitem.check _ _ _ _ _ _ _ _ h.typeIs (ba_args_setitem _ _ _) ?_)))
  refine setitem_P hg h hs hin hz fun h' hb hk => ?_
  exact wpP_pure (wpP_pure (hQ h' hb hk))
end
end Mine

end
/-! text PutN -/
section
open PySem PySem.W PyProof.Rows PySem.Calls
set_option Elab.async false
set_option maxRecDepth 100000
namespace Mine
/-! reading back what was laid -/
theorem leN_little : ∀ (k : Nat) (l : List UInt8) (n : Int), l.map (fun c => ((c.toNat : Nat) : Int)) = KTBy.little k n → 0 ≤ n → n < 256 ^ k → (leN l : Int) = n
  | 0, l, n, h, h0, h1 => by
    have e : l = [] := by simpa [KTBy.little] using h
    subst e
    have : n < 1 := by simpa using h1
    show ((0 : Nat) : Int) = n
    omega
  | k + 1, [], n, h, _, _ => by cases h
  | k + 1, c :: r, n, h, h0, h1 => by
    have hh : ((c.toNat : Nat) : Int) = n % 256 ∧ r.map (fun c => ((c.toNat : Nat) : Int)) = KTBy.little k (n / 256) := by
      simpa [KTBy.little] using h
    have h2 : n / 256 < 256 ^ k := by
      rw [Int.pow_succ] at h1
      omega
    have e := leN_little k r (n / 256) hh.2 (by omega) h2
    show ((c.toNat + 256 * leN r : Nat) : Int) = n
    omega
theorem putB_list (b c : Array UInt8) (i : Nat) (hi : i + c.size ≤ b.size) : (putB b c i).toList = b.toList.take i ++ (c.toList ++ b.toList.drop (i + c.size)) := by
  unfold putB
  simp [List.append_assoc, List.take_of_length_le]
theorem putB_size (b c : Array UInt8) (i : Nat) (hi : i + c.size ≤ b.size) : (putB b c i).size = b.size := by
  unfold putB; simp; omega
theorem numZ_put {b c : Array UInt8} {x k n : Int} (h0 : 0 ≤ x) (hk : k = c.size) (hi : x + k ≤ b.size) {j : Nat} (hc : KBw.bInts c = KTBy.little j n) (hn0 : 0 ≤ n) (hn : n < 256 ^ j) : numZ (putB b c x.toNat) x k = n := by
  obtain ⟨i, rfl⟩ := Int.eq_ofNat_of_zero_le h0
  subst hk
  unfold numZ
  rw [Int.toNat_natCast, Int.toNat_natCast, putB_list _ _ _ (by omega)]
  have hl : (b.toList.take i).length = i := by simp; omega
  rw [List.drop_append_of_le_length (by omega), List.drop_of_length_le (by omega), List.nil_append, List.take_append_of_le_length (by simp), List.take_of_length_le (by simp)]
  exact leN_little j _ _ hc hn0 hn
theorem numZ_apart {b c : Array UInt8} {x y z : Int} (h0 : 0 ≤ x) (hy : 0 ≤ y) (hz : 0 ≤ z) (hi : x + c.size ≤ b.size) (ha : y + z ≤ x ∨ x + c.size ≤ y) : numZ (putB b c x.toNat) y z = numZ b y z := by
  obtain ⟨i, rfl⟩ := Int.eq_ofNat_of_zero_le h0
  obtain ⟨y, rfl⟩ := Int.eq_ofNat_of_zero_le hy
  obtain ⟨z, rfl⟩ := Int.eq_ofNat_of_zero_le hz
  unfold numZ
  simp only [Int.toNat_natCast]
  rw [putB_list _ _ _ (by omega)]
  have hl : (b.toList.take i).length = i := by simp; omega
  congr 2
  rcases ha with ha | ha
  · rw [List.drop_append_of_le_length (by omega), List.take_append_of_le_length (by simp; omega), List.drop_take, List.take_take]
    congr 1
    omega
  · rw [← List.append_assoc, List.drop_append, List.drop_of_length_le (by simp; omega), List.nil_append, List.drop_drop]
    congr 2
    simp
    omega
theorem bInts_size {c : Array UInt8} {k : Nat} {n : Int} (hc : KBw.bInts c = KTBy.little k n) : c.size = k := by
  have e := congrArg List.length hc
  rw [KTBy.little_length, KBw.ints_length] at e
  exact e
/-- the octets that _law_laid lays: the first i places stand -/
structure LaidTo (b : Array UInt8) (at' v : Int) (ps : List Int) (i : Nat) : Prop where
  size : b.size = 160
  a0 : 40 ≤ at'
  a1 : at' ≤ 80
  v0 : 0 ≤ v
  v1 : v ≤ 141
  va : v ≤ 24 ∨ 122 ≤ v
  pl : ps.length ≤ 6
  pq : ∀ q ∈ ps, q = 0 ∨ (4 ≤ q ∧ q ≤ 27)
  back : numZ b at' 4 = (at' - v).fmod 4294967296
  len : numZ b v 2 = 4 + 2 * (ps.length : Int)
  at' : ∀ j : Nat, j < i → numZ b (v + 4 + 2 * (j : Int)) 2 = ps.getD j 0
theorem getD_mem {ps : List Int} {j : Nat} (h : j < ps.length) : ps.getD j 0 ∈ ps := by
  rw [List.getD_eq_getElem?_getD, List.getElem?_eq_getElem h]
  exact List.getElem_mem h
theorem getD_bd {ps : List Int} {j : Nat} (h : j < ps.length) (hq : ∀ q ∈ ps, q = 0 ∨ (4 ≤ q ∧ q ≤ 27)) : 0 ≤ ps.getD j 0 ∧ ps.getD j 0 ≤ 27 := by
  have := hq _ (getD_mem h)
  omega
theorem fmod_small {n m : Int} (h0 : 0 ≤ n) (h1 : n < m) : n.fmod m = n := by
  rw [Int.fmod_eq_emod_of_nonneg _ (by omega)]
  exact Int.emod_eq_of_lt h0 h1
theorem laid_init {b c1 c2 : Array UInt8} {at' v : Int} {ps : List Int} (hb : b.size = 160) (a0 : 40 ≤ at') (a1 : at' ≤ 80) (v0 : 0 ≤ v) (v1 : v ≤ 141) (va : v ≤ 24 ∨ 122 ≤ v) (pl : ps.length ≤ 6) (pq : ∀ q ∈ ps, q = 0 ∨ (4 ≤ q ∧ q ≤ 27))
    (h1 : KBw.bInts c1 = KTBy.little 4 ((at' - v).fmod 4294967296)) (h2 : KBw.bInts c2 = KTBy.little 2 ((4 + 2 * (ps.length : Int)).fmod 65536)) : LaidTo (putB (putB b c1 at'.toNat) c2 v.toNat) at' v ps 0 := by
  have s1 := bInts_size h1
  have s2 := bInts_size h2
  have z1 := putB_size b c1 at'.toNat (by omega)
  have z2 := putB_size (putB b c1 at'.toNat) c2 v.toNat (by omega)
  have m0 := fmod_lo (at' - v) (n := 4294967296) (by decide)
  have m1 := fmod_hi (at' - v) (n := 4294967296) (by decide)
  refine ⟨by omega, a0, a1, v0, v1, va, pl, pq, ?_, ?_, fun j hj => absurd hj (Nat.not_lt_zero j)⟩
  · rw [numZ_apart v0 (by omega) (by omega) (by omega) (by omega)]
    exact numZ_put (by omega) (by omega) (by omega) h1 m0 m1
  · rw [fmod_small (by omega) (by omega)] at h2
    exact numZ_put v0 (by omega) (by omega) h2 (by omega) (by omega)
theorem laid_step {b c : Array UInt8} {at' v : Int} {ps : List Int} {i : Nat} (h : LaidTo b at' v ps i) (hi : i < ps.length) (hc : KBw.bInts c = KTBy.little 2 ((ps.getD i 0).fmod 65536)) : LaidTo (putB b c (v + 4 + 2 * (i : Int)).toNat) at' v ps (i + 1) := by
  obtain ⟨hb, a0, a1, v0, v1, va, pl, pq, hback, hlen, hat⟩ := h
  have sc := bInts_size hc
  have hq := getD_bd hi pq
  have z := putB_size b c (v + 4 + 2 * (i : Int)).toNat (by omega)
  have ap : ∀ y k : Int, 0 ≤ y → 0 ≤ k → (y + k ≤ v + 4 + 2 * (i : Int) ∨ v + 4 + 2 * (i : Int) + 2 ≤ y) → numZ (putB b c (v + 4 + 2 * (i : Int)).toNat) y k = numZ b y k :=
    fun y k hy hk ha => numZ_apart (by omega) hy hk (by omega) (by omega)
  refine ⟨by omega, a0, a1, v0, v1, va, pl, pq, ?_, ?_, fun j hj => ?_⟩
  · rw [ap _ _ (by omega) (by omega) (by omega)]; exact hback
  · rw [ap _ _ (by omega) (by omega) (by omega)]; exact hlen
  · by_cases e : j = i
    · subst e
      rw [fmod_small (by omega) (by omega)] at hc
      exact numZ_put (by omega) (by omega) (by omega) hc (by omega) (by omega)
    · rw [ap _ _ (by omega) (by omega) (by omega)]; exact hat j (by omega)
end Mine

end
/-! text Ctr1 -/
section
open PySem PySem.W PyProof.Rows PySem.Calls
set_option Elab.async false
set_option maxRecDepth 100000
set_option maxHeartbeats 8000000
namespace Mine

/-- what a def hands back from where it is called: the caller, whoever it is, goes on with a value of R, its frame and its ledger as they were -/
abbrev CtrV (w : World) (p : Program) (loose : List Str) (mean : ExcName → Option Value) (mg mb : Str → Option Value) (d : Nat) (f : Addr) (news : List (Addr × Obj)) (vs : List Value) (R : Value → Prop) : Prop :=
  ∀ (dp un : Nat) (gd : Option (List Code)) (cn : Str) (cs : Scope) (a : Addr) (ccd : Value) (cl : List (Str × Addr)) (outer : List Env) (A₀ : Around) (base h₀ : Heap) (L : Addr) (m : Str → Option Value) (s : Shared) (Q E : Value → Shared → Prop),
    Below A₀ base outer h₀ → Fr h₀ L s.heap m → (hd.heap_1 w.params).In h₀ → News h₀ L s.heap news → Top p loose mean mg mb h₀ → cs.kind = .function → dp + d < recursionLimit → un + 10 * d < cLine →
    (∀ (r : Value) (h' : Heap) (tk' : Nat), Fr h₀ L h' m → News h₀ L h' news → R r → Q r { s with heap := h', toks := tk' }) →
    wpAny (model PySem.Challenge.rw_jm0001_01.row.prog w) (ktrTop dp un gd cn cs L a ccd cl outer) (call (.ref f) vs) Q E s

theorem fillIt : (PySem.Challenge.rw_jm0001_01 = PySem.Challenge.rw_jm0001_01 ∧ hd.heap_1 = hd.heap_1) → True := by
  k_fill
  intro _
  trivial
theorem fb_is {w : World} {h : Heap} (X : (hd.heap_1 w.params).In h) : findCls (hd.heap_1 w.params) (.type "int") (.type "type") (PySem.Str.ofString "from_bytes") = some (.get (.builtin "classmethod_descriptor.__get__") (.builtin "int.from_bytes") .none (.type "int")) := by k_is
section
variable {w : World} {p : Program} {loose : List Str} {mean : ExcName → Option Value} {mg mb : Str → Option Value} {news : List (Addr × Obj)}

/-- _law_number -/
theorem number_c {v : Value} {b : Array UInt8} {x z : Int} {t u : Tok} (hv : IsBuf news v b) (hz : b.size ≤ 16777216) (h0 : 0 ≤ x) (hi : x ≤ b.size) (hz0 : 0 ≤ z) (hn : z ≤ 8) :
    CtrV w p loose mean mg mb 5 312 news [v, .int x t, .int z u] (fun r => ∃ t, r = .int (numZ b x z) t) := by
  intro dp un gd cn cs a ccd cl outer A₀ base h₀ L m s Q E B F X N T hk hd hu hret
  w_top on
  refine wpAny_call ?_
  k_dflt cell_enter
  (repeat' (first
    | ((with_reducible show wpAny _ _ (getMethod (Value.type "int") _ _) _ _ _); k_here; (with_reducible refine' KFB.getm ?kfbF ?kfbN ?kfbX ?kfbE ?_; (case kfbF => k_asm); (case kfbN => k_asm); (case kfbX => k_asm); (case kfbE => exact fb_is (by k_asm)); k_whole; intro x' h' F' N' l1; (try k_lt l1); (try k_sweep)))
    | ((with_reducible show wpAny _ _ (execs (_ :: _) _) _ _ _); k_here; (fail_if_success k_made); (with_reducible refine wpAny_execs_cons ?_); (try dsimp only))
    | (k_here; (with_reducible show wpAny _ _ (call (Value.ref _) [_, Value.str _ _]) _ _ _); kfb_any; k_dflt (refine' from_buf ?kbN ?kbX ?kbV ?kbZ ?_; (case kbN => k_asm); (case kbX => k_mem); (case kbV => first | assumption | exact IsBuf.cons (by assumption) | exact IsBuf.cons (IsBuf.cons (by assumption)) | exact IsBuf.cons (IsBuf.cons (IsBuf.cons (by assumption))) | exact IsBuf.mono (by assumption) (by intro p hp; simp [hp])); (case kbZ => (rw [cut_size]; omega))); intro t' k')
    | (k_here; (with_reducible show wpAny _ _ (subscriptTail _ (Expr.Slice _ _ none _) _ (Value.ref _)) _ _ _); (with_reducible rename Fr _ _ _ _ => F'); (with_reducible rename News _ _ _ _ => N'); (refine' slice_bufI (s := ⟨_, _, _, _, _⟩) F' N' ?kbV ?kbZ ?kbA ?kbB ?kbI ?kbJ ?_); (case kbV => first | assumption | exact IsBuf.cons (by assumption) | exact IsBuf.cons (IsBuf.cons (by assumption)) | exact IsBuf.cons (IsBuf.cons (IsBuf.cons (by assumption))) | exact IsBuf.mono (by assumption) (by intro p hp; simp [hp])); (case kbZ => assumption); (case kbJ => exact rfl); (case kbA => first | assumption | omega | decide); (case kbB => first | assumption | omega | decide); (case kbI => first | assumption | omega | decide); intro v' tl' h' k' F' N' V'; (try k_sweep))
    | (k_unfold; (try dsimp only)) | (k_end; wrow_close) | walk1 | (dsimp only; walk1) | (leave1; walk_say "STEP leave1"; try dsimp only) | fail "no step"))
  all_goals exact hret _ _ _ (by assumption) (cb_drop (by assumption) (by intro p hp; simp [hp])) ⟨_, rfl⟩
end

end Mine

end
/-! text Ctr2 -/
section
open PySem PySem.W PyProof.Rows PySem.Calls
set_option Elab.async false
set_option maxRecDepth 100000
set_option maxHeartbeats 8000000
namespace Mine
theorem fillIt2 : (PySem.Challenge.rw_jm0001_01 = PySem.Challenge.rw_jm0001_01 ∧ hd.heap_1 = hd.heap_1) → True := by
  k_fill
  intro _
  trivial
section
variable {w : World} {p : Program} {loose : List Str} {mean : ExcName → Option Value} {mg mb : Str → Option Value} {news : List (Addr × Obj)}

theorem enc0_c {v : Value} {b : Array UInt8} {x : Int} {t : Tok} (hv : IsBuf news v b) (hz : b.size ≤ 16777216) (h0 : 0 ≤ x) (hi : x + 1 ≤ b.size) :
    CtrV w p loose mean mg mb 8 28 news [.ref 111, v, .int x t] (fun r => r = .bool (numZ b x 1 != 0)) := by
  intro dp un gd cn cs a ccd cl outer A₀ base h₀ L m s Q E B F X N T hk hd hu hret
  rcases s with ⟨sh, sg, sd, sk, so⟩
  dsimp only at F N hret ⊢
  w_top on
  refine wpAny_call ?_
  k_dflt cell_enter
  (repeat' (first
    | ((with_reducible show wpAny _ _ _ _ _ (Shared.mk _ (Shared.gens _) _ _ _)); dsimp only)
    | ((with_reducible show wpAny _ _ (execs (_ :: _) _) _ _ _); k_here; (fail_if_success k_made); (with_reducible refine wpAny_execs_cons ?_); (try dsimp only))
    | ((with_reducible show wpAny _ _ (execs [] _) _ _ _); k_here; (fail_if_success k_made); (with_reducible refine wpAny_execs_nil ?_); (try dsimp only))
    | (k_here; (with_reducible show wpAny _ _ (subscriptTail _ _ _ (Value.int _ _)) _ _ _); k_dflt (refine' item_buf ?kbN ?kbV ?kbZ ?kbA ?kbB ?_; (case kbN => k_asm); (case kbV => first | assumption | exact IsBuf.cons (by assumption) | exact IsBuf.cons (IsBuf.cons (by assumption)) | exact IsBuf.cons (IsBuf.cons (IsBuf.cons (by assumption))) | exact IsBuf.mono (by assumption) (by intro p hp; simp [hp])); (case kbZ => assumption); (case kbA => first | assumption | omega | decide); (case kbB => first | assumption | omega | decide)); intro t' k')
    | (k_here; (with_reducible show wpAny _ _ (call (Value.builtin "len") [_]) _ _ _); k_dflt (refine' len_buf ?kbN ?kbV ?kbZ ?_; (case kbN => k_asm); (case kbV => first | assumption | exact IsBuf.cons (by assumption) | exact IsBuf.cons (IsBuf.cons (by assumption)) | exact IsBuf.cons (IsBuf.cons (IsBuf.cons (by assumption))) | exact IsBuf.mono (by assumption) (by intro p hp; simp [hp])); (case kbZ => assumption)); intro t' k')
    | ((with_reducible show wpAny _ _ (call (Value.ref _) _ _) _ _ _); k_here; k_dflt (refine wpAny_call ?_; (refine' code_def ?k1 ?k2 ?k3 ?k4 ?k5 ?kA ?kF ?kK ?k6 ?k7 ?k8 ?k9 ?kB ?_ ?c2 ?c3 ?c4 ?c5; (case kA => exact rfl); (case kF => exact rfl); (case kK => first | exact rfl | assumption); (case k1 => k_asm); (case k2 => k_asm); (case k3 => k_asm); (case k4 => k_asm); (case k5 => k_asm); (case k6 => k_is); (case k7 => k_is); (case k8 => ktr_room); (case k9 => first | exact BindsTo.of_eq rfl | exact binds_K (by k_in) rfl (by k_is) rfl rfl rfl); (case c5 => decide); (case kB => exact locs rfl); (case c2 => exact rfl); (case c3 => exact rfl); (case c4 => exact rfl); k_whole; intro g' L' h' FG' F' N' B' X' T'; (try dsimp only); (try k_lift B'); (try k_fold))))
    | (k_unfold; (try dsimp only)) | (k_end; wrow_close) | walk1 | (dsimp only; walk1) | (leave1; walk_say "STEP leave1"; try dsimp only) | fail "no step"))
  all_goals (refine hret _ _ _ (by assumption) (cb_drop (by assumption) (by intro p hp; simp [hp])) ?_)
  all_goals first
    | exact ⟨_, rfl⟩
    | (show _ = _; rw [numZ_one (by omega)])
    | (show _ = _; rw [numZ_one (by omega)]; rfl)
    | ((first | (rename ¬ ((_ : Int) * _ ≤ _) => ha) | (rename ((_ : Int) * _ ≤ _) => ha)); refine ⟨_, congrArg (fun z => Value.int z _) ?_⟩; (have e : numZ b x 1 = (leN (cutB b x.toNat (Int.toNat 1)).toList : Int) := rfl); rw [e]; simp only [Int.reduceMul, Int.reduceSub, Int.reduceToNat, Int.reducePow, Int.one_mul, ge_iff_le] at ha ⊢; first | (rw [if_pos ha]) | (rw [if_neg ha]))

theorem enc1_c {v : Value} {b : Array UInt8} {x : Int} {t : Tok} (hv : IsBuf news v b) (hz : b.size ≤ 16777216) (h0 : 0 ≤ x) (hi : x + 1 ≤ b.size) :
    CtrV w p loose mean mg mb 8 28 news [.ref 114, v, .int x t] (fun r => ∃ t, r = .int (numZ b x 1) t) := by
  intro dp un gd cn cs a ccd cl outer A₀ base h₀ L m s Q E B F X N T hk hd hu hret
  rcases s with ⟨sh, sg, sd, sk, so⟩
  dsimp only at F N hret ⊢
  w_top on
  refine wpAny_call ?_
  k_dflt cell_enter
  (repeat' (first
    | ((with_reducible show wpAny _ _ _ _ _ (Shared.mk _ (Shared.gens _) _ _ _)); dsimp only)
    | ((with_reducible show wpAny _ _ (getMethod (Value.type "int") _ _) _ _ _); k_here; (with_reducible refine' KFB.getm ?kfbF ?kfbN ?kfbX ?kfbE ?_; (case kfbF => k_asm); (case kfbN => k_asm); (case kfbX => k_asm); (case kfbE => exact fb_is (by k_asm)); k_whole; intro x' h' F' N' l1; (try k_lt l1); (try k_sweep)))
    | ((with_reducible show wpAny _ _ (execs (_ :: _) _) _ _ _); k_here; (fail_if_success k_made); (with_reducible refine wpAny_execs_cons ?_); (try dsimp only))
    | ((with_reducible show wpAny _ _ (execs [] _) _ _ _); k_here; (fail_if_success k_made); (with_reducible refine wpAny_execs_nil ?_); (try dsimp only))
    | (k_here; (with_reducible show wpAny _ _ (call (Value.builtin "len") [_]) _ _ _); k_dflt (refine' len_buf ?kbN ?kbV ?kbZ ?_; (case kbN => k_asm); (case kbV => first | assumption | exact IsBuf.cons (by assumption) | exact IsBuf.cons (IsBuf.cons (by assumption)) | exact IsBuf.cons (IsBuf.cons (IsBuf.cons (by assumption))) | exact IsBuf.mono (by assumption) (by intro p hp; simp [hp])); (case kbZ => assumption)); intro t' k')
    | (k_here; (with_reducible show wpAny _ _ (call (Value.ref _) [_, Value.str _ _]) _ _ _); kfb_any; k_dflt (refine' from_buf ?kbN ?kbX ?kbV ?kbZ ?_; (case kbN => k_asm); (case kbX => k_mem); (case kbV => first | assumption | exact IsBuf.cons (by assumption) | exact IsBuf.cons (IsBuf.cons (by assumption)) | exact IsBuf.cons (IsBuf.cons (IsBuf.cons (by assumption))) | exact IsBuf.mono (by assumption) (by intro p hp; simp [hp])); (case kbZ => (rw [cut_size]; omega))); intro t' k')
    | (k_here; (with_reducible show wpAny _ _ (subscriptTail _ (Expr.Slice _ _ none _) _ (Value.ref _)) _ _ _); (with_reducible rename Fr _ _ _ _ => F'); (with_reducible rename News _ _ _ _ => N'); (refine' slice_bufI (s := ⟨_, _, _, _, _⟩) F' N' ?kbV ?kbZ ?kbA ?kbB ?kbI ?kbJ ?_); (case kbV => first | assumption | exact IsBuf.cons (by assumption) | exact IsBuf.cons (IsBuf.cons (by assumption)) | exact IsBuf.cons (IsBuf.cons (IsBuf.cons (by assumption))) | exact IsBuf.mono (by assumption) (by intro p hp; simp [hp])); (case kbZ => assumption); (case kbJ => exact rfl); (case kbA => first | assumption | omega | decide); (case kbB => first | assumption | omega | decide); (case kbI => first | assumption | omega | decide); intro v' tl' h' k' F' N' V'; (try k_sweep))
    | ((with_reducible show wpAny _ _ (call (Value.ref _) _ _) _ _ _); k_here; k_dflt (refine wpAny_call ?_; (refine' code_def ?k1 ?k2 ?k3 ?k4 ?k5 ?kA ?kF ?kK ?k6 ?k7 ?k8 ?k9 ?kB ?_ ?c2 ?c3 ?c4 ?c5; (case kA => exact rfl); (case kF => exact rfl); (case kK => first | exact rfl | assumption); (case k1 => k_asm); (case k2 => k_asm); (case k3 => k_asm); (case k4 => k_asm); (case k5 => k_asm); (case k6 => k_is); (case k7 => k_is); (case k8 => ktr_room); (case k9 => first | exact BindsTo.of_eq rfl | exact binds_K (by k_in) rfl (by k_is) rfl rfl rfl); (case c5 => decide); (case kB => exact locs rfl); (case c2 => exact rfl); (case c3 => exact rfl); (case c4 => exact rfl); k_whole; intro g' L' h' FG' F' N' B' X' T'; (try dsimp only); (try k_lift B'); (try k_fold))))
    | (k_unfold; (try dsimp only)) | (k_end; wrow_close) | walk1 | (dsimp only; walk1) | (leave1; walk_say "STEP leave1"; try dsimp only) | fail "no step"))
  all_goals (refine hret _ _ _ (by assumption) (cb_drop (by assumption) (by intro p hp; simp [hp])) ?_)
  all_goals first
    | exact ⟨_, rfl⟩
    | (show _ = _; rw [numZ_one (by omega)])
    | (show _ = _; rw [numZ_one (by omega)]; rfl)
    | ((first | (rename ¬ ((_ : Int) * _ ≤ _) => ha) | (rename ((_ : Int) * _ ≤ _) => ha)); refine ⟨_, congrArg (fun z => Value.int z _) ?_⟩; (have e : numZ b x 1 = (leN (cutB b x.toNat (Int.toNat 1)).toList : Int) := rfl); rw [e]; simp only [Int.reduceMul, Int.reduceSub, Int.reduceToNat, Int.reducePow, Int.one_mul, ge_iff_le] at ha ⊢; first | (rw [if_pos ha]) | (rw [if_neg ha]))

theorem enc2_c {v : Value} {b : Array UInt8} {x : Int} {t : Tok} (hv : IsBuf news v b) (hz : b.size ≤ 16777216) (h0 : 0 ≤ x) (hi : x + 2 ≤ b.size) :
    CtrV w p loose mean mg mb 8 28 news [.ref 117, v, .int x t] (fun r => ∃ t, r = .int (numZ b x 2) t) := by
  intro dp un gd cn cs a ccd cl outer A₀ base h₀ L m s Q E B F X N T hk hd hu hret
  rcases s with ⟨sh, sg, sd, sk, so⟩
  dsimp only at F N hret ⊢
  w_top on
  refine wpAny_call ?_
  k_dflt cell_enter
  (repeat' (first
    | ((with_reducible show wpAny _ _ _ _ _ (Shared.mk _ (Shared.gens _) _ _ _)); dsimp only)
    | ((with_reducible show wpAny _ _ (getMethod (Value.type "int") _ _) _ _ _); k_here; (with_reducible refine' KFB.getm ?kfbF ?kfbN ?kfbX ?kfbE ?_; (case kfbF => k_asm); (case kfbN => k_asm); (case kfbX => k_asm); (case kfbE => exact fb_is (by k_asm)); k_whole; intro x' h' F' N' l1; (try k_lt l1); (try k_sweep)))
    | ((with_reducible show wpAny _ _ (execs (_ :: _) _) _ _ _); k_here; (fail_if_success k_made); (with_reducible refine wpAny_execs_cons ?_); (try dsimp only))
    | ((with_reducible show wpAny _ _ (execs [] _) _ _ _); k_here; (fail_if_success k_made); (with_reducible refine wpAny_execs_nil ?_); (try dsimp only))
    | (k_here; (with_reducible show wpAny _ _ (call (Value.builtin "len") [_]) _ _ _); k_dflt (refine' len_buf ?kbN ?kbV ?kbZ ?_; (case kbN => k_asm); (case kbV => first | assumption | exact IsBuf.cons (by assumption) | exact IsBuf.cons (IsBuf.cons (by assumption)) | exact IsBuf.cons (IsBuf.cons (IsBuf.cons (by assumption))) | exact IsBuf.mono (by assumption) (by intro p hp; simp [hp])); (case kbZ => assumption)); intro t' k')
    | (k_here; (with_reducible show wpAny _ _ (call (Value.ref _) [_, Value.str _ _]) _ _ _); kfb_any; k_dflt (refine' from_buf ?kbN ?kbX ?kbV ?kbZ ?_; (case kbN => k_asm); (case kbX => k_mem); (case kbV => first | assumption | exact IsBuf.cons (by assumption) | exact IsBuf.cons (IsBuf.cons (by assumption)) | exact IsBuf.cons (IsBuf.cons (IsBuf.cons (by assumption))) | exact IsBuf.mono (by assumption) (by intro p hp; simp [hp])); (case kbZ => (rw [cut_size]; omega))); intro t' k')
    | (k_here; (with_reducible show wpAny _ _ (subscriptTail _ (Expr.Slice _ _ none _) _ (Value.ref _)) _ _ _); (with_reducible rename Fr _ _ _ _ => F'); (with_reducible rename News _ _ _ _ => N'); (refine' slice_bufI (s := ⟨_, _, _, _, _⟩) F' N' ?kbV ?kbZ ?kbA ?kbB ?kbI ?kbJ ?_); (case kbV => first | assumption | exact IsBuf.cons (by assumption) | exact IsBuf.cons (IsBuf.cons (by assumption)) | exact IsBuf.cons (IsBuf.cons (IsBuf.cons (by assumption))) | exact IsBuf.mono (by assumption) (by intro p hp; simp [hp])); (case kbZ => assumption); (case kbJ => exact rfl); (case kbA => first | assumption | omega | decide); (case kbB => first | assumption | omega | decide); (case kbI => first | assumption | omega | decide); intro v' tl' h' k' F' N' V'; (try k_sweep))
    | ((with_reducible show wpAny _ _ (call (Value.ref _) _ _) _ _ _); k_here; k_dflt (refine wpAny_call ?_; (refine' code_def ?k1 ?k2 ?k3 ?k4 ?k5 ?kA ?kF ?kK ?k6 ?k7 ?k8 ?k9 ?kB ?_ ?c2 ?c3 ?c4 ?c5; (case kA => exact rfl); (case kF => exact rfl); (case kK => first | exact rfl | assumption); (case k1 => k_asm); (case k2 => k_asm); (case k3 => k_asm); (case k4 => k_asm); (case k5 => k_asm); (case k6 => k_is); (case k7 => k_is); (case k8 => ktr_room); (case k9 => first | exact BindsTo.of_eq rfl | exact binds_K (by k_in) rfl (by k_is) rfl rfl rfl); (case c5 => decide); (case kB => exact locs rfl); (case c2 => exact rfl); (case c3 => exact rfl); (case c4 => exact rfl); k_whole; intro g' L' h' FG' F' N' B' X' T'; (try dsimp only); (try k_lift B'); (try k_fold))))
    | (k_unfold; (try dsimp only)) | (k_end; wrow_close) | walk1 | (dsimp only; walk1) | (leave1; walk_say "STEP leave1"; try dsimp only) | fail "no step"))
  all_goals (refine hret _ _ _ (by assumption) (cb_drop (by assumption) (by intro p hp; simp [hp])) ?_)
  all_goals first
    | exact ⟨_, rfl⟩
    | (show _ = _; rw [numZ_one (by omega)])
    | (show _ = _; rw [numZ_one (by omega)]; rfl)
    | ((first | (rename ¬ ((_ : Int) * _ ≤ _) => ha) | (rename ((_ : Int) * _ ≤ _) => ha)); refine ⟨_, congrArg (fun z => Value.int z _) ?_⟩; (have e : numZ b x 2 = (leN (cutB b x.toNat (Int.toNat 2)).toList : Int) := rfl); rw [e]; simp only [Int.reduceMul, Int.reduceSub, Int.reduceToNat, Int.reducePow, Int.one_mul, ge_iff_le] at ha ⊢; first | (rw [if_pos ha]) | (rw [if_neg ha]))

theorem enc3_c {v : Value} {b : Array UInt8} {x : Int} {t : Tok} (hv : IsBuf news v b) (hz : b.size ≤ 16777216) (h0 : 0 ≤ x) (hi : x + 4 ≤ b.size) :
    CtrV w p loose mean mg mb 8 28 news [.ref 120, v, .int x t] (fun r => ∃ t, r = .int (numZ b x 4) t) := by
  intro dp un gd cn cs a ccd cl outer A₀ base h₀ L m s Q E B F X N T hk hd hu hret
  rcases s with ⟨sh, sg, sd, sk, so⟩
  dsimp only at F N hret ⊢
  w_top on
  refine wpAny_call ?_
  k_dflt cell_enter
  (repeat' (first
    | ((with_reducible show wpAny _ _ _ _ _ (Shared.mk _ (Shared.gens _) _ _ _)); dsimp only)
    | ((with_reducible show wpAny _ _ (getMethod (Value.type "int") _ _) _ _ _); k_here; (with_reducible refine' KFB.getm ?kfbF ?kfbN ?kfbX ?kfbE ?_; (case kfbF => k_asm); (case kfbN => k_asm); (case kfbX => k_asm); (case kfbE => exact fb_is (by k_asm)); k_whole; intro x' h' F' N' l1; (try k_lt l1); (try k_sweep)))
    | ((with_reducible show wpAny _ _ (execs (_ :: _) _) _ _ _); k_here; (fail_if_success k_made); (with_reducible refine wpAny_execs_cons ?_); (try dsimp only))
    | ((with_reducible show wpAny _ _ (execs [] _) _ _ _); k_here; (fail_if_success k_made); (with_reducible refine wpAny_execs_nil ?_); (try dsimp only))
    | (k_here; (with_reducible show wpAny _ _ (call (Value.builtin "len") [_]) _ _ _); k_dflt (refine' len_buf ?kbN ?kbV ?kbZ ?_; (case kbN => k_asm); (case kbV => first | assumption | exact IsBuf.cons (by assumption) | exact IsBuf.cons (IsBuf.cons (by assumption)) | exact IsBuf.cons (IsBuf.cons (IsBuf.cons (by assumption))) | exact IsBuf.mono (by assumption) (by intro p hp; simp [hp])); (case kbZ => assumption)); intro t' k')
    | (k_here; (with_reducible show wpAny _ _ (call (Value.ref _) [_, Value.str _ _]) _ _ _); kfb_any; k_dflt (refine' from_buf ?kbN ?kbX ?kbV ?kbZ ?_; (case kbN => k_asm); (case kbX => k_mem); (case kbV => first | assumption | exact IsBuf.cons (by assumption) | exact IsBuf.cons (IsBuf.cons (by assumption)) | exact IsBuf.cons (IsBuf.cons (IsBuf.cons (by assumption))) | exact IsBuf.mono (by assumption) (by intro p hp; simp [hp])); (case kbZ => (rw [cut_size]; omega))); intro t' k')
    | (k_here; (with_reducible show wpAny _ _ (subscriptTail _ (Expr.Slice _ _ none _) _ (Value.ref _)) _ _ _); (with_reducible rename Fr _ _ _ _ => F'); (with_reducible rename News _ _ _ _ => N'); (refine' slice_bufI (s := ⟨_, _, _, _, _⟩) F' N' ?kbV ?kbZ ?kbA ?kbB ?kbI ?kbJ ?_); (case kbV => first | assumption | exact IsBuf.cons (by assumption) | exact IsBuf.cons (IsBuf.cons (by assumption)) | exact IsBuf.cons (IsBuf.cons (IsBuf.cons (by assumption))) | exact IsBuf.mono (by assumption) (by intro p hp; simp [hp])); (case kbZ => assumption); (case kbJ => exact rfl); (case kbA => first | assumption | omega | decide); (case kbB => first | assumption | omega | decide); (case kbI => first | assumption | omega | decide); intro v' tl' h' k' F' N' V'; (try k_sweep))
    | ((with_reducible show wpAny _ _ (call (Value.ref _) _ _) _ _ _); k_here; k_dflt (refine wpAny_call ?_; (refine' code_def ?k1 ?k2 ?k3 ?k4 ?k5 ?kA ?kF ?kK ?k6 ?k7 ?k8 ?k9 ?kB ?_ ?c2 ?c3 ?c4 ?c5; (case kA => exact rfl); (case kF => exact rfl); (case kK => first | exact rfl | assumption); (case k1 => k_asm); (case k2 => k_asm); (case k3 => k_asm); (case k4 => k_asm); (case k5 => k_asm); (case k6 => k_is); (case k7 => k_is); (case k8 => ktr_room); (case k9 => first | exact BindsTo.of_eq rfl | exact binds_K (by k_in) rfl (by k_is) rfl rfl rfl); (case c5 => decide); (case kB => exact locs rfl); (case c2 => exact rfl); (case c3 => exact rfl); (case c4 => exact rfl); k_whole; intro g' L' h' FG' F' N' B' X' T'; (try dsimp only); (try k_lift B'); (try k_fold))))
    | (k_unfold; (try dsimp only)) | (k_end; wrow_close) | walk1 | (dsimp only; walk1) | (leave1; walk_say "STEP leave1"; try dsimp only) | fail "no step"))
  all_goals (refine hret _ _ _ (by assumption) (cb_drop (by assumption) (by intro p hp; simp [hp])) ?_)
  all_goals first
    | exact ⟨_, rfl⟩
    | (show _ = _; rw [numZ_one (by omega)])
    | (show _ = _; rw [numZ_one (by omega)]; rfl)
    | ((first | (rename ¬ ((_ : Int) * _ ≤ _) => ha) | (rename ((_ : Int) * _ ≤ _) => ha)); refine ⟨_, congrArg (fun z => Value.int z _) ?_⟩; (have e : numZ b x 4 = (leN (cutB b x.toNat (Int.toNat 4)).toList : Int) := rfl); rw [e]; simp only [Int.reduceMul, Int.reduceSub, Int.reduceToNat, Int.reducePow, Int.one_mul, ge_iff_le] at ha ⊢; first | (rw [if_pos ha]) | (rw [if_neg ha]))

theorem enc4_c {v : Value} {b : Array UInt8} {x : Int} {t : Tok} (hv : IsBuf news v b) (hz : b.size ≤ 16777216) (h0 : 0 ≤ x) (hi : x + 8 ≤ b.size) :
    CtrV w p loose mean mg mb 8 28 news [.ref 123, v, .int x t] (fun r => ∃ t, r = .int (numZ b x 8) t) := by
  intro dp un gd cn cs a ccd cl outer A₀ base h₀ L m s Q E B F X N T hk hd hu hret
  rcases s with ⟨sh, sg, sd, sk, so⟩
  dsimp only at F N hret ⊢
  w_top on
  refine wpAny_call ?_
  k_dflt cell_enter
  (repeat' (first
    | ((with_reducible show wpAny _ _ _ _ _ (Shared.mk _ (Shared.gens _) _ _ _)); dsimp only)
    | ((with_reducible show wpAny _ _ (getMethod (Value.type "int") _ _) _ _ _); k_here; (with_reducible refine' KFB.getm ?kfbF ?kfbN ?kfbX ?kfbE ?_; (case kfbF => k_asm); (case kfbN => k_asm); (case kfbX => k_asm); (case kfbE => exact fb_is (by k_asm)); k_whole; intro x' h' F' N' l1; (try k_lt l1); (try k_sweep)))
    | ((with_reducible show wpAny _ _ (execs (_ :: _) _) _ _ _); k_here; (fail_if_success k_made); (with_reducible refine wpAny_execs_cons ?_); (try dsimp only))
    | ((with_reducible show wpAny _ _ (execs [] _) _ _ _); k_here; (fail_if_success k_made); (with_reducible refine wpAny_execs_nil ?_); (try dsimp only))
    | (k_here; (with_reducible show wpAny _ _ (call (Value.builtin "len") [_]) _ _ _); k_dflt (refine' len_buf ?kbN ?kbV ?kbZ ?_; (case kbN => k_asm); (case kbV => first | assumption | exact IsBuf.cons (by assumption) | exact IsBuf.cons (IsBuf.cons (by assumption)) | exact IsBuf.cons (IsBuf.cons (IsBuf.cons (by assumption))) | exact IsBuf.mono (by assumption) (by intro p hp; simp [hp])); (case kbZ => assumption)); intro t' k')
    | (k_here; (with_reducible show wpAny _ _ (call (Value.ref _) [_, Value.str _ _]) _ _ _); kfb_any; k_dflt (refine' from_buf ?kbN ?kbX ?kbV ?kbZ ?_; (case kbN => k_asm); (case kbX => k_mem); (case kbV => first | assumption | exact IsBuf.cons (by assumption) | exact IsBuf.cons (IsBuf.cons (by assumption)) | exact IsBuf.cons (IsBuf.cons (IsBuf.cons (by assumption))) | exact IsBuf.mono (by assumption) (by intro p hp; simp [hp])); (case kbZ => (rw [cut_size]; omega))); intro t' k')
    | (k_here; (with_reducible show wpAny _ _ (subscriptTail _ (Expr.Slice _ _ none _) _ (Value.ref _)) _ _ _); (with_reducible rename Fr _ _ _ _ => F'); (with_reducible rename News _ _ _ _ => N'); (refine' slice_bufI (s := ⟨_, _, _, _, _⟩) F' N' ?kbV ?kbZ ?kbA ?kbB ?kbI ?kbJ ?_); (case kbV => first | assumption | exact IsBuf.cons (by assumption) | exact IsBuf.cons (IsBuf.cons (by assumption)) | exact IsBuf.cons (IsBuf.cons (IsBuf.cons (by assumption))) | exact IsBuf.mono (by assumption) (by intro p hp; simp [hp])); (case kbZ => assumption); (case kbJ => exact rfl); (case kbA => first | assumption | omega | decide); (case kbB => first | assumption | omega | decide); (case kbI => first | assumption | omega | decide); intro v' tl' h' k' F' N' V'; (try k_sweep))
    | ((with_reducible show wpAny _ _ (call (Value.ref _) _ _) _ _ _); k_here; k_dflt (refine wpAny_call ?_; (refine' code_def ?k1 ?k2 ?k3 ?k4 ?k5 ?kA ?kF ?kK ?k6 ?k7 ?k8 ?k9 ?kB ?_ ?c2 ?c3 ?c4 ?c5; (case kA => exact rfl); (case kF => exact rfl); (case kK => first | exact rfl | assumption); (case k1 => k_asm); (case k2 => k_asm); (case k3 => k_asm); (case k4 => k_asm); (case k5 => k_asm); (case k6 => k_is); (case k7 => k_is); (case k8 => ktr_room); (case k9 => first | exact BindsTo.of_eq rfl | exact binds_K (by k_in) rfl (by k_is) rfl rfl rfl); (case c5 => decide); (case kB => exact locs rfl); (case c2 => exact rfl); (case c3 => exact rfl); (case c4 => exact rfl); k_whole; intro g' L' h' FG' F' N' B' X' T'; (try dsimp only); (try k_lift B'); (try k_fold))))
    | (k_unfold; (try dsimp only)) | (k_end; wrow_close) | walk1 | (dsimp only; walk1) | (leave1; walk_say "STEP leave1"; try dsimp only) | fail "no step"))
  all_goals (refine hret _ _ _ (by assumption) (cb_drop (by assumption) (by intro p hp; simp [hp])) ?_)
  all_goals first
    | exact ⟨_, rfl⟩
    | (show _ = _; rw [numZ_one (by omega)])
    | (show _ = _; rw [numZ_one (by omega)]; rfl)
    | ((first | (rename ¬ ((_ : Int) * _ ≤ _) => ha) | (rename ((_ : Int) * _ ≤ _) => ha)); refine ⟨_, congrArg (fun z => Value.int z _) ?_⟩; (have e : numZ b x 8 = (leN (cutB b x.toNat (Int.toNat 8)).toList : Int) := rfl); rw [e]; simp only [Int.reduceMul, Int.reduceSub, Int.reduceToNat, Int.reducePow, Int.one_mul, ge_iff_le] at ha ⊢; first | (rw [if_pos ha]) | (rw [if_neg ha]))

theorem enc5_c {v : Value} {b : Array UInt8} {x : Int} {t : Tok} (hv : IsBuf news v b) (hz : b.size ≤ 16777216) (h0 : 0 ≤ x) (hi : x + 1 ≤ b.size) :
    CtrV w p loose mean mg mb 8 28 news [.ref 126, v, .int x t] (fun r => ∃ t, r = .int (if numZ b x 1 ≥ 128 then numZ b x 1 - 256 else numZ b x 1) t) := by
  intro dp un gd cn cs a ccd cl outer A₀ base h₀ L m s Q E B F X N T hk hd hu hret
  rcases s with ⟨sh, sg, sd, sk, so⟩
  dsimp only at F N hret ⊢
  w_top on
  refine wpAny_call ?_
  k_dflt cell_enter
  (repeat' (first
    | ((with_reducible show wpAny _ _ _ _ _ (Shared.mk _ (Shared.gens _) _ _ _)); dsimp only)
    | ((with_reducible show wpAny _ _ (getMethod (Value.type "int") _ _) _ _ _); k_here; (with_reducible refine' KFB.getm ?kfbF ?kfbN ?kfbX ?kfbE ?_; (case kfbF => k_asm); (case kfbN => k_asm); (case kfbX => k_asm); (case kfbE => exact fb_is (by k_asm)); k_whole; intro x' h' F' N' l1; (try k_lt l1); (try k_sweep)))
    | ((with_reducible show wpAny _ _ (execs (_ :: _) _) _ _ _); k_here; (fail_if_success k_made); (with_reducible refine wpAny_execs_cons ?_); (try dsimp only))
    | ((with_reducible show wpAny _ _ (execs [] _) _ _ _); k_here; (fail_if_success k_made); (with_reducible refine wpAny_execs_nil ?_); (try dsimp only))
    | (k_here; (with_reducible show wpAny _ _ (call (Value.builtin "len") [_]) _ _ _); k_dflt (refine' len_buf ?kbN ?kbV ?kbZ ?_; (case kbN => k_asm); (case kbV => first | assumption | exact IsBuf.cons (by assumption) | exact IsBuf.cons (IsBuf.cons (by assumption)) | exact IsBuf.cons (IsBuf.cons (IsBuf.cons (by assumption))) | exact IsBuf.mono (by assumption) (by intro p hp; simp [hp])); (case kbZ => assumption)); intro t' k')
    | (k_here; (with_reducible show wpAny _ _ (call (Value.ref _) [_, Value.str _ _]) _ _ _); kfb_any; k_dflt (refine' from_buf ?kbN ?kbX ?kbV ?kbZ ?_; (case kbN => k_asm); (case kbX => k_mem); (case kbV => first | assumption | exact IsBuf.cons (by assumption) | exact IsBuf.cons (IsBuf.cons (by assumption)) | exact IsBuf.cons (IsBuf.cons (IsBuf.cons (by assumption))) | exact IsBuf.mono (by assumption) (by intro p hp; simp [hp])); (case kbZ => (rw [cut_size]; omega))); intro t' k')
    | (k_here; (with_reducible show wpAny _ _ (subscriptTail _ (Expr.Slice _ _ none _) _ (Value.ref _)) _ _ _); (with_reducible rename Fr _ _ _ _ => F'); (with_reducible rename News _ _ _ _ => N'); (refine' slice_bufI (s := ⟨_, _, _, _, _⟩) F' N' ?kbV ?kbZ ?kbA ?kbB ?kbI ?kbJ ?_); (case kbV => first | assumption | exact IsBuf.cons (by assumption) | exact IsBuf.cons (IsBuf.cons (by assumption)) | exact IsBuf.cons (IsBuf.cons (IsBuf.cons (by assumption))) | exact IsBuf.mono (by assumption) (by intro p hp; simp [hp])); (case kbZ => assumption); (case kbJ => exact rfl); (case kbA => first | assumption | omega | decide); (case kbB => first | assumption | omega | decide); (case kbI => first | assumption | omega | decide); intro v' tl' h' k' F' N' V'; (try k_sweep))
    | ((with_reducible show wpAny _ _ (call (Value.ref _) _ _) _ _ _); k_here; k_dflt (refine wpAny_call ?_; (refine' code_def ?k1 ?k2 ?k3 ?k4 ?k5 ?kA ?kF ?kK ?k6 ?k7 ?k8 ?k9 ?kB ?_ ?c2 ?c3 ?c4 ?c5; (case kA => exact rfl); (case kF => exact rfl); (case kK => first | exact rfl | assumption); (case k1 => k_asm); (case k2 => k_asm); (case k3 => k_asm); (case k4 => k_asm); (case k5 => k_asm); (case k6 => k_is); (case k7 => k_is); (case k8 => ktr_room); (case k9 => first | exact BindsTo.of_eq rfl | exact binds_K (by k_in) rfl (by k_is) rfl rfl rfl); (case c5 => decide); (case kB => exact locs rfl); (case c2 => exact rfl); (case c3 => exact rfl); (case c4 => exact rfl); k_whole; intro g' L' h' FG' F' N' B' X' T'; (try dsimp only); (try k_lift B'); (try k_fold))))
    | (k_unfold; (try dsimp only)) | (k_end; wrow_close) | walk1 | (dsimp only; walk1) | (leave1; walk_say "STEP leave1"; try dsimp only) | fail "no step"))
  all_goals (refine hret _ _ _ (by assumption) (cb_drop (by assumption) (by intro p hp; simp [hp])) ?_)
  all_goals first
    | exact ⟨_, rfl⟩
    | (show _ = _; rw [numZ_one (by omega)])
    | (show _ = _; rw [numZ_one (by omega)]; rfl)
    | ((first | (rename ¬ ((_ : Int) * _ ≤ _) => ha) | (rename ((_ : Int) * _ ≤ _) => ha)); refine ⟨_, congrArg (fun z => Value.int z _) ?_⟩; (have e : numZ b x 1 = (leN (cutB b x.toNat (Int.toNat 1)).toList : Int) := rfl); rw [e]; simp only [Int.reduceMul, Int.reduceSub, Int.reduceToNat, Int.reducePow, Int.one_mul, ge_iff_le] at ha ⊢; first | (rw [if_pos ha]) | (rw [if_neg ha]))

theorem enc6_c {v : Value} {b : Array UInt8} {x : Int} {t : Tok} (hv : IsBuf news v b) (hz : b.size ≤ 16777216) (h0 : 0 ≤ x) (hi : x + 2 ≤ b.size) :
    CtrV w p loose mean mg mb 8 28 news [.ref 129, v, .int x t] (fun r => ∃ t, r = .int (if numZ b x 2 ≥ 32768 then numZ b x 2 - 65536 else numZ b x 2) t) := by
  intro dp un gd cn cs a ccd cl outer A₀ base h₀ L m s Q E B F X N T hk hd hu hret
  rcases s with ⟨sh, sg, sd, sk, so⟩
  dsimp only at F N hret ⊢
  w_top on
  refine wpAny_call ?_
  k_dflt cell_enter
  (repeat' (first
    | ((with_reducible show wpAny _ _ _ _ _ (Shared.mk _ (Shared.gens _) _ _ _)); dsimp only)
    | ((with_reducible show wpAny _ _ (getMethod (Value.type "int") _ _) _ _ _); k_here; (with_reducible refine' KFB.getm ?kfbF ?kfbN ?kfbX ?kfbE ?_; (case kfbF => k_asm); (case kfbN => k_asm); (case kfbX => k_asm); (case kfbE => exact fb_is (by k_asm)); k_whole; intro x' h' F' N' l1; (try k_lt l1); (try k_sweep)))
    | ((with_reducible show wpAny _ _ (execs (_ :: _) _) _ _ _); k_here; (fail_if_success k_made); (with_reducible refine wpAny_execs_cons ?_); (try dsimp only))
    | ((with_reducible show wpAny _ _ (execs [] _) _ _ _); k_here; (fail_if_success k_made); (with_reducible refine wpAny_execs_nil ?_); (try dsimp only))
    | (k_here; (with_reducible show wpAny _ _ (call (Value.builtin "len") [_]) _ _ _); k_dflt (refine' len_buf ?kbN ?kbV ?kbZ ?_; (case kbN => k_asm); (case kbV => first | assumption | exact IsBuf.cons (by assumption) | exact IsBuf.cons (IsBuf.cons (by assumption)) | exact IsBuf.cons (IsBuf.cons (IsBuf.cons (by assumption))) | exact IsBuf.mono (by assumption) (by intro p hp; simp [hp])); (case kbZ => assumption)); intro t' k')
    | (k_here; (with_reducible show wpAny _ _ (call (Value.ref _) [_, Value.str _ _]) _ _ _); kfb_any; k_dflt (refine' from_buf ?kbN ?kbX ?kbV ?kbZ ?_; (case kbN => k_asm); (case kbX => k_mem); (case kbV => first | assumption | exact IsBuf.cons (by assumption) | exact IsBuf.cons (IsBuf.cons (by assumption)) | exact IsBuf.cons (IsBuf.cons (IsBuf.cons (by assumption))) | exact IsBuf.mono (by assumption) (by intro p hp; simp [hp])); (case kbZ => (rw [cut_size]; omega))); intro t' k')
    | (k_here; (with_reducible show wpAny _ _ (subscriptTail _ (Expr.Slice _ _ none _) _ (Value.ref _)) _ _ _); (with_reducible rename Fr _ _ _ _ => F'); (with_reducible rename News _ _ _ _ => N'); (refine' slice_bufI (s := ⟨_, _, _, _, _⟩) F' N' ?kbV ?kbZ ?kbA ?kbB ?kbI ?kbJ ?_); (case kbV => first | assumption | exact IsBuf.cons (by assumption) | exact IsBuf.cons (IsBuf.cons (by assumption)) | exact IsBuf.cons (IsBuf.cons (IsBuf.cons (by assumption))) | exact IsBuf.mono (by assumption) (by intro p hp; simp [hp])); (case kbZ => assumption); (case kbJ => exact rfl); (case kbA => first | assumption | omega | decide); (case kbB => first | assumption | omega | decide); (case kbI => first | assumption | omega | decide); intro v' tl' h' k' F' N' V'; (try k_sweep))
    | ((with_reducible show wpAny _ _ (call (Value.ref _) _ _) _ _ _); k_here; k_dflt (refine wpAny_call ?_; (refine' code_def ?k1 ?k2 ?k3 ?k4 ?k5 ?kA ?kF ?kK ?k6 ?k7 ?k8 ?k9 ?kB ?_ ?c2 ?c3 ?c4 ?c5; (case kA => exact rfl); (case kF => exact rfl); (case kK => first | exact rfl | assumption); (case k1 => k_asm); (case k2 => k_asm); (case k3 => k_asm); (case k4 => k_asm); (case k5 => k_asm); (case k6 => k_is); (case k7 => k_is); (case k8 => ktr_room); (case k9 => first | exact BindsTo.of_eq rfl | exact binds_K (by k_in) rfl (by k_is) rfl rfl rfl); (case c5 => decide); (case kB => exact locs rfl); (case c2 => exact rfl); (case c3 => exact rfl); (case c4 => exact rfl); k_whole; intro g' L' h' FG' F' N' B' X' T'; (try dsimp only); (try k_lift B'); (try k_fold))))
    | (k_unfold; (try dsimp only)) | (k_end; wrow_close) | walk1 | (dsimp only; walk1) | (leave1; walk_say "STEP leave1"; try dsimp only) | fail "no step"))
  all_goals (refine hret _ _ _ (by assumption) (cb_drop (by assumption) (by intro p hp; simp [hp])) ?_)
  all_goals first
    | exact ⟨_, rfl⟩
    | (show _ = _; rw [numZ_one (by omega)])
    | (show _ = _; rw [numZ_one (by omega)]; rfl)
    | ((first | (rename ¬ ((_ : Int) * _ ≤ _) => ha) | (rename ((_ : Int) * _ ≤ _) => ha)); refine ⟨_, congrArg (fun z => Value.int z _) ?_⟩; (have e : numZ b x 2 = (leN (cutB b x.toNat (Int.toNat 2)).toList : Int) := rfl); rw [e]; simp only [Int.reduceMul, Int.reduceSub, Int.reduceToNat, Int.reducePow, Int.one_mul, ge_iff_le] at ha ⊢; first | (rw [if_pos ha]) | (rw [if_neg ha]))

theorem enc7_c {v : Value} {b : Array UInt8} {x : Int} {t : Tok} (hv : IsBuf news v b) (hz : b.size ≤ 16777216) (h0 : 0 ≤ x) (hi : x + 4 ≤ b.size) :
    CtrV w p loose mean mg mb 8 28 news [.ref 132, v, .int x t] (fun r => ∃ t, r = .int (if numZ b x 4 ≥ 2147483648 then numZ b x 4 - 4294967296 else numZ b x 4) t) := by
  intro dp un gd cn cs a ccd cl outer A₀ base h₀ L m s Q E B F X N T hk hd hu hret
  rcases s with ⟨sh, sg, sd, sk, so⟩
  dsimp only at F N hret ⊢
  w_top on
  refine wpAny_call ?_
  k_dflt cell_enter
  (repeat' (first
    | ((with_reducible show wpAny _ _ _ _ _ (Shared.mk _ (Shared.gens _) _ _ _)); dsimp only)
    | ((with_reducible show wpAny _ _ (getMethod (Value.type "int") _ _) _ _ _); k_here; (with_reducible refine' KFB.getm ?kfbF ?kfbN ?kfbX ?kfbE ?_; (case kfbF => k_asm); (case kfbN => k_asm); (case kfbX => k_asm); (case kfbE => exact fb_is (by k_asm)); k_whole; intro x' h' F' N' l1; (try k_lt l1); (try k_sweep)))
    | ((with_reducible show wpAny _ _ (execs (_ :: _) _) _ _ _); k_here; (fail_if_success k_made); (with_reducible refine wpAny_execs_cons ?_); (try dsimp only))
    | ((with_reducible show wpAny _ _ (execs [] _) _ _ _); k_here; (fail_if_success k_made); (with_reducible refine wpAny_execs_nil ?_); (try dsimp only))
    | (k_here; (with_reducible show wpAny _ _ (call (Value.builtin "len") [_]) _ _ _); k_dflt (refine' len_buf ?kbN ?kbV ?kbZ ?_; (case kbN => k_asm); (case kbV => first | assumption | exact IsBuf.cons (by assumption) | exact IsBuf.cons (IsBuf.cons (by assumption)) | exact IsBuf.cons (IsBuf.cons (IsBuf.cons (by assumption))) | exact IsBuf.mono (by assumption) (by intro p hp; simp [hp])); (case kbZ => assumption)); intro t' k')
    | (k_here; (with_reducible show wpAny _ _ (call (Value.ref _) [_, Value.str _ _]) _ _ _); kfb_any; k_dflt (refine' from_buf ?kbN ?kbX ?kbV ?kbZ ?_; (case kbN => k_asm); (case kbX => k_mem); (case kbV => first | assumption | exact IsBuf.cons (by assumption) | exact IsBuf.cons (IsBuf.cons (by assumption)) | exact IsBuf.cons (IsBuf.cons (IsBuf.cons (by assumption))) | exact IsBuf.mono (by assumption) (by intro p hp; simp [hp])); (case kbZ => (rw [cut_size]; omega))); intro t' k')
    | (k_here; (with_reducible show wpAny _ _ (subscriptTail _ (Expr.Slice _ _ none _) _ (Value.ref _)) _ _ _); (with_reducible rename Fr _ _ _ _ => F'); (with_reducible rename News _ _ _ _ => N'); (refine' slice_bufI (s := ⟨_, _, _, _, _⟩) F' N' ?kbV ?kbZ ?kbA ?kbB ?kbI ?kbJ ?_); (case kbV => first | assumption | exact IsBuf.cons (by assumption) | exact IsBuf.cons (IsBuf.cons (by assumption)) | exact IsBuf.cons (IsBuf.cons (IsBuf.cons (by assumption))) | exact IsBuf.mono (by assumption) (by intro p hp; simp [hp])); (case kbZ => assumption); (case kbJ => exact rfl); (case kbA => first | assumption | omega | decide); (case kbB => first | assumption | omega | decide); (case kbI => first | assumption | omega | decide); intro v' tl' h' k' F' N' V'; (try k_sweep))
    | ((with_reducible show wpAny _ _ (call (Value.ref _) _ _) _ _ _); k_here; k_dflt (refine wpAny_call ?_; (refine' code_def ?k1 ?k2 ?k3 ?k4 ?k5 ?kA ?kF ?kK ?k6 ?k7 ?k8 ?k9 ?kB ?_ ?c2 ?c3 ?c4 ?c5; (case kA => exact rfl); (case kF => exact rfl); (case kK => first | exact rfl | assumption); (case k1 => k_asm); (case k2 => k_asm); (case k3 => k_asm); (case k4 => k_asm); (case k5 => k_asm); (case k6 => k_is); (case k7 => k_is); (case k8 => ktr_room); (case k9 => first | exact BindsTo.of_eq rfl | exact binds_K (by k_in) rfl (by k_is) rfl rfl rfl); (case c5 => decide); (case kB => exact locs rfl); (case c2 => exact rfl); (case c3 => exact rfl); (case c4 => exact rfl); k_whole; intro g' L' h' FG' F' N' B' X' T'; (try dsimp only); (try k_lift B'); (try k_fold))))
    | (k_unfold; (try dsimp only)) | (k_end; wrow_close) | walk1 | (dsimp only; walk1) | (leave1; walk_say "STEP leave1"; try dsimp only) | fail "no step"))
  all_goals (refine hret _ _ _ (by assumption) (cb_drop (by assumption) (by intro p hp; simp [hp])) ?_)
  all_goals first
    | exact ⟨_, rfl⟩
    | (show _ = _; rw [numZ_one (by omega)])
    | (show _ = _; rw [numZ_one (by omega)]; rfl)
    | ((first | (rename ¬ ((_ : Int) * _ ≤ _) => ha) | (rename ((_ : Int) * _ ≤ _) => ha)); refine ⟨_, congrArg (fun z => Value.int z _) ?_⟩; (have e : numZ b x 4 = (leN (cutB b x.toNat (Int.toNat 4)).toList : Int) := rfl); rw [e]; simp only [Int.reduceMul, Int.reduceSub, Int.reduceToNat, Int.reducePow, Int.one_mul, ge_iff_le] at ha ⊢; first | (rw [if_pos ha]) | (rw [if_neg ha]))

theorem enc8_c {v : Value} {b : Array UInt8} {x : Int} {t : Tok} (hv : IsBuf news v b) (hz : b.size ≤ 16777216) (h0 : 0 ≤ x) (hi : x + 8 ≤ b.size) :
    CtrV w p loose mean mg mb 8 28 news [.ref 135, v, .int x t] (fun r => ∃ t, r = .int (if numZ b x 8 ≥ 9223372036854775808 then numZ b x 8 - 18446744073709551616 else numZ b x 8) t) := by
  intro dp un gd cn cs a ccd cl outer A₀ base h₀ L m s Q E B F X N T hk hd hu hret
  rcases s with ⟨sh, sg, sd, sk, so⟩
  dsimp only at F N hret ⊢
  w_top on
  refine wpAny_call ?_
  k_dflt cell_enter
  (repeat' (first
    | ((with_reducible show wpAny _ _ _ _ _ (Shared.mk _ (Shared.gens _) _ _ _)); dsimp only)
    | ((with_reducible show wpAny _ _ (getMethod (Value.type "int") _ _) _ _ _); k_here; (with_reducible refine' KFB.getm ?kfbF ?kfbN ?kfbX ?kfbE ?_; (case kfbF => k_asm); (case kfbN => k_asm); (case kfbX => k_asm); (case kfbE => exact fb_is (by k_asm)); k_whole; intro x' h' F' N' l1; (try k_lt l1); (try k_sweep)))
    | ((with_reducible show wpAny _ _ (execs (_ :: _) _) _ _ _); k_here; (fail_if_success k_made); (with_reducible refine wpAny_execs_cons ?_); (try dsimp only))
    | ((with_reducible show wpAny _ _ (execs [] _) _ _ _); k_here; (fail_if_success k_made); (with_reducible refine wpAny_execs_nil ?_); (try dsimp only))
    | (k_here; (with_reducible show wpAny _ _ (call (Value.builtin "len") [_]) _ _ _); k_dflt (refine' len_buf ?kbN ?kbV ?kbZ ?_; (case kbN => k_asm); (case kbV => first | assumption | exact IsBuf.cons (by assumption) | exact IsBuf.cons (IsBuf.cons (by assumption)) | exact IsBuf.cons (IsBuf.cons (IsBuf.cons (by assumption))) | exact IsBuf.mono (by assumption) (by intro p hp; simp [hp])); (case kbZ => assumption)); intro t' k')
    | (k_here; (with_reducible show wpAny _ _ (call (Value.ref _) [_, Value.str _ _]) _ _ _); kfb_any; k_dflt (refine' from_buf ?kbN ?kbX ?kbV ?kbZ ?_; (case kbN => k_asm); (case kbX => k_mem); (case kbV => first | assumption | exact IsBuf.cons (by assumption) | exact IsBuf.cons (IsBuf.cons (by assumption)) | exact IsBuf.cons (IsBuf.cons (IsBuf.cons (by assumption))) | exact IsBuf.mono (by assumption) (by intro p hp; simp [hp])); (case kbZ => (rw [cut_size]; omega))); intro t' k')
    | (k_here; (with_reducible show wpAny _ _ (subscriptTail _ (Expr.Slice _ _ none _) _ (Value.ref _)) _ _ _); (with_reducible rename Fr _ _ _ _ => F'); (with_reducible rename News _ _ _ _ => N'); (refine' slice_bufI (s := ⟨_, _, _, _, _⟩) F' N' ?kbV ?kbZ ?kbA ?kbB ?kbI ?kbJ ?_); (case kbV => first | assumption | exact IsBuf.cons (by assumption) | exact IsBuf.cons (IsBuf.cons (by assumption)) | exact IsBuf.cons (IsBuf.cons (IsBuf.cons (by assumption))) | exact IsBuf.mono (by assumption) (by intro p hp; simp [hp])); (case kbZ => assumption); (case kbJ => exact rfl); (case kbA => first | assumption | omega | decide); (case kbB => first | assumption | omega | decide); (case kbI => first | assumption | omega | decide); intro v' tl' h' k' F' N' V'; (try k_sweep))
    | ((with_reducible show wpAny _ _ (call (Value.ref _) _ _) _ _ _); k_here; k_dflt (refine wpAny_call ?_; (refine' code_def ?k1 ?k2 ?k3 ?k4 ?k5 ?kA ?kF ?kK ?k6 ?k7 ?k8 ?k9 ?kB ?_ ?c2 ?c3 ?c4 ?c5; (case kA => exact rfl); (case kF => exact rfl); (case kK => first | exact rfl | assumption); (case k1 => k_asm); (case k2 => k_asm); (case k3 => k_asm); (case k4 => k_asm); (case k5 => k_asm); (case k6 => k_is); (case k7 => k_is); (case k8 => ktr_room); (case k9 => first | exact BindsTo.of_eq rfl | exact binds_K (by k_in) rfl (by k_is) rfl rfl rfl); (case c5 => decide); (case kB => exact locs rfl); (case c2 => exact rfl); (case c3 => exact rfl); (case c4 => exact rfl); k_whole; intro g' L' h' FG' F' N' B' X' T'; (try dsimp only); (try k_lift B'); (try k_fold))))
    | (k_unfold; (try dsimp only)) | (k_end; wrow_close) | walk1 | (dsimp only; walk1) | (leave1; walk_say "STEP leave1"; try dsimp only) | fail "no step"))
  all_goals (refine hret _ _ _ (by assumption) (cb_drop (by assumption) (by intro p hp; simp [hp])) ?_)
  all_goals first
    | exact ⟨_, rfl⟩
    | (show _ = _; rw [numZ_one (by omega)])
    | (show _ = _; rw [numZ_one (by omega)]; rfl)
    | ((first | (rename ¬ ((_ : Int) * _ ≤ _) => ha) | (rename ((_ : Int) * _ ≤ _) => ha)); refine ⟨_, congrArg (fun z => Value.int z _) ?_⟩; (have e : numZ b x 8 = (leN (cutB b x.toNat (Int.toNat 8)).toList : Int) := rfl); rw [e]; simp only [Int.reduceMul, Int.reduceSub, Int.reduceToNat, Int.reducePow, Int.one_mul, ge_iff_le] at ha ⊢; first | (rw [if_pos ha]) | (rw [if_neg ha]))
end

end Mine

end
/-! text Ctr3 -/
section
open PySem PySem.W PyProof.Rows PySem.Calls
set_option Elab.async false
set_option maxRecDepth 100000
set_option maxHeartbeats 8000000
namespace Mine

theorem IsBuf.handed {news : List (Addr × Obj)} {v : Value} {b : Array UInt8} (h : IsBuf news v b) : handedIn v = true := by
  cases h <;> rfl
/-- the Table tb: its octets v, its place x -/
structure IsTab (news : List (Addr × Obj)) (tb d : Addr) (h1 h2 : Int) (t1 t2 : Tok) (n : Nat) (v : Value) (x : Int) (tx : Tok) : Prop where
  obj : (tb, instObj 287 d) ∈ news
  dict : (d, dictOf [⟨h1, .str (PySem.Str.ofString "Bytes") t1, v⟩, ⟨h2, .str (PySem.Str.ofString "Pos") t2, .int x tx⟩] n) ∈ news
theorem fillIt3 : (PySem.Challenge.rw_jm0001_01 = PySem.Challenge.rw_jm0001_01 ∧ hd.heap_1 = hd.heap_1) → True := by
  k_fill
  intro _
  trivial
section
variable {w : World} {p : Program} {loose : List Str} {mean : ExcName → Option Value} {mg mb : Str → Option Value} {news : List (Addr × Obj)}

theorem enfU_c {x : Int} {t : Tok} (h0 : 0 ≤ x) (hi : x ≤ 4294967295) : CtrV w p loose mean mg mb 4 207 news [.int x t, .ref 196] (fun r => r = .none) := by
  intro dp un gd cn cs a ccd cl outer A₀ base h₀ L m s Q E B F X N T hk hd hu hret
  w_top on
  refine wpAny_call ?_
  k_dflt cell_enter
  k_steps
  all_goals exact hret _ _ _ (by assumption) (cb_drop (by assumption) (by intro p hp; simp [hp])) rfl
theorem enfV_c {x : Int} {t : Tok} (h0 : 0 ≤ x) (hi : x ≤ 65535) : CtrV w p loose mean mg mb 4 207 news [.int x t, .ref 199] (fun r => r = .none) := by
  intro dp un gd cn cs a ccd cl outer A₀ base h₀ L m s Q E B F X N T hk hd hu hret
  w_top on
  refine wpAny_call ?_
  k_dflt cell_enter
  k_steps
  all_goals exact hret _ _ _ (by assumption) (cb_drop (by assumption) (by intro p hp; simp [hp])) rfl
end

section
variable {w : World} {p : Program} {loose : List Str} {mean : ExcName → Option Value} {mg mb : Str → Option Value} {news : List (Addr × Obj)}

theorem get0_c {tb d : Addr} {h1 h2 : Int} {t1 t2 tx t : Tok} {nn : Nat} {v : Value} {b : Array UInt8} {y x : Int} (hT : IsTab news tb d h1 h2 t1 t2 nn v y tx) (hv : IsBuf news v b) (hz : b.size ≤ 16777216) (h0 : 0 ≤ x) (hi : x + 1 ≤ b.size) :
    CtrV w p loose mean mg mb 12 270 news [.ref tb, .ref 166, .int x t] (fun r => r = .bool (numZ b x 1 != 0)) := by
  intro dp un gd cn cs a ccd cl outer A₀ base h₀ L m s Q E B F X N T hk hd hu hret
  w_top on
  refine wpAny_call ?_
  k_dflt cell_enter
  (repeat' (first
    | ((with_reducible show wpAny _ _ (getAttr (Value.ref _) _ _) _ _ _); k_here; (with_reducible rename IsTab _ _ _ _ _ _ _ _ _ _ _ => hT'); (with_reducible rename IsBuf _ _ _ => hV'); k_dflt (refine' get_own ?k1 ?k2 (InstAt.of_news ?kn hT'.obj hT'.dict) ?k4 ?k5 ?k6 ?k7 ?k8 ?k9 ?_; (case k1 => k_asm); (case k2 => k_asm); (case kn => k_asm); (case k4 => k_is); (case k5 => k_is); (case k6 => k_is); (case k7 => k_is); (case k8 => k_get); (case k9 => first | exact hV'.handed | k_handed); k_whole))
    | (k_here; (with_reducible show wpAny _ _ (call (Value.ref 28) [Value.ref 111, _, Value.int _ _]) _ _ _); k_dflt (refine' (enc0_c ?kaV ?kaZ ?kaA ?kaB) _ _ _ _ _ _ _ _ _ _ _ _ _ _ _ _ _ ?kcB ?kcF ?kcX ?kcN ?kcT ?kcK ?kcD ?kcU ?_; (case kcB => k_asm); (case kcF => k_asm); (case kcX => k_asm); (case kcN => k_asm); (case kcT => k_asm); (case kcK => first | exact rfl | assumption); (case kcD => ktr_room); (case kcU => ktr_units); (case kaV => first | assumption | exact IsBuf.cons (by assumption) | exact IsBuf.cons (IsBuf.cons (by assumption)) | exact IsBuf.cons (IsBuf.cons (IsBuf.cons (by assumption))) | exact IsBuf.mono (by assumption) (by intro p hp; simp [hp])); (case kaZ => assumption); (case kaA => first | assumption | omega | decide); (case kaB => first | assumption | omega | decide); (intro r' h' tk' F' N' R'; (try dsimp only); (try k_fold); (try k_sweep); (have e9 : r' = _ := R'; subst e9))))
    | (k_here; (with_reducible show wpAny _ _ (call (Value.ref 207) [Value.int _ _, Value.ref 196]) _ _ _); k_dflt (refine' (enfU_c ?kaA ?kaB) _ _ _ _ _ _ _ _ _ _ _ _ _ _ _ _ _ ?kcB ?kcF ?kcX ?kcN ?kcT ?kcK ?kcD ?kcU ?_; (case kcB => k_asm); (case kcF => k_asm); (case kcX => k_asm); (case kcN => k_asm); (case kcT => k_asm); (case kcK => first | exact rfl | assumption); (case kcD => ktr_room); (case kcU => ktr_units); (case kaA => first | assumption | omega | decide); (case kaB => first | assumption | omega | decide); (intro r' h' tk' F' N' R'; (try dsimp only); (try k_fold); (try k_sweep); (have e9 : r' = _ := R'; subst e9))))
    | ((with_reducible show wpAny _ _ (call (Value.ref _) _ _) _ _ _); k_here; k_dflt (refine wpAny_call ?_; (refine' code_def ?k1 ?k2 ?k3 ?k4 ?k5 ?kA ?kF ?kK ?k6 ?k7 ?k8 ?k9 ?kB ?_ ?c2 ?c3 ?c4 ?c5; (case kA => exact rfl); (case kF => exact rfl); (case kK => first | exact rfl | assumption); (case k1 => k_asm); (case k2 => k_asm); (case k3 => k_asm); (case k4 => k_asm); (case k5 => k_asm); (case k6 => k_is); (case k7 => k_is); (case k8 => ktr_room); (case k9 => first | exact BindsTo.of_eq rfl | exact binds_K (by k_in) rfl (by k_is) rfl rfl rfl); (case c5 => decide); (case kB => exact locs rfl); (case c2 => exact rfl); (case c3 => exact rfl); (case c4 => exact rfl); k_whole; intro g' L' h' FG' F' N' B' X' T'; (try dsimp only); (try k_lift B'); (try k_fold))))
    | (k_unfold; (try dsimp only)) | (k_end; wrow_close) | walk1 | (dsimp only; walk1) | (leave1; walk_say "STEP leave1"; try dsimp only) | fail "no step"))
  all_goals (refine hret _ _ _ (by assumption) (cb_drop (by assumption) (by intro p hp; simp [hp])) ?_)
  all_goals first | exact ⟨_, rfl⟩ | rfl

theorem get1_c {tb d : Addr} {h1 h2 : Int} {t1 t2 tx t : Tok} {nn : Nat} {v : Value} {b : Array UInt8} {y x : Int} (hT : IsTab news tb d h1 h2 t1 t2 nn v y tx) (hv : IsBuf news v b) (hz : b.size ≤ 16777216) (h0 : 0 ≤ x) (hi : x + 1 ≤ b.size) :
    CtrV w p loose mean mg mb 12 270 news [.ref tb, .ref 169, .int x t] (fun r => ∃ t, r = .int (numZ b x 1) t) := by
  intro dp un gd cn cs a ccd cl outer A₀ base h₀ L m s Q E B F X N T hk hd hu hret
  w_top on
  refine wpAny_call ?_
  k_dflt cell_enter
  (repeat' (first
    | ((with_reducible show wpAny _ _ (getAttr (Value.ref _) _ _) _ _ _); k_here; (with_reducible rename IsTab _ _ _ _ _ _ _ _ _ _ _ => hT'); (with_reducible rename IsBuf _ _ _ => hV'); k_dflt (refine' get_own ?k1 ?k2 (InstAt.of_news ?kn hT'.obj hT'.dict) ?k4 ?k5 ?k6 ?k7 ?k8 ?k9 ?_; (case k1 => k_asm); (case k2 => k_asm); (case kn => k_asm); (case k4 => k_is); (case k5 => k_is); (case k6 => k_is); (case k7 => k_is); (case k8 => k_get); (case k9 => first | exact hV'.handed | k_handed); k_whole))
    | (k_here; (with_reducible show wpAny _ _ (call (Value.ref 28) [Value.ref 114, _, Value.int _ _]) _ _ _); k_dflt (refine' (enc1_c ?kaV ?kaZ ?kaA ?kaB) _ _ _ _ _ _ _ _ _ _ _ _ _ _ _ _ _ ?kcB ?kcF ?kcX ?kcN ?kcT ?kcK ?kcD ?kcU ?_; (case kcB => k_asm); (case kcF => k_asm); (case kcX => k_asm); (case kcN => k_asm); (case kcT => k_asm); (case kcK => first | exact rfl | assumption); (case kcD => ktr_room); (case kcU => ktr_units); (case kaV => first | assumption | exact IsBuf.cons (by assumption) | exact IsBuf.cons (IsBuf.cons (by assumption)) | exact IsBuf.cons (IsBuf.cons (IsBuf.cons (by assumption))) | exact IsBuf.mono (by assumption) (by intro p hp; simp [hp])); (case kaZ => assumption); (case kaA => first | assumption | omega | decide); (case kaB => first | assumption | omega | decide); (intro r' h' tk' F' N' R'; (try dsimp only); (try k_fold); (try k_sweep); (obtain ⟨t9, e9⟩ := R'; subst e9))))
    | (k_here; (with_reducible show wpAny _ _ (call (Value.ref 207) [Value.int _ _, Value.ref 196]) _ _ _); k_dflt (refine' (enfU_c ?kaA ?kaB) _ _ _ _ _ _ _ _ _ _ _ _ _ _ _ _ _ ?kcB ?kcF ?kcX ?kcN ?kcT ?kcK ?kcD ?kcU ?_; (case kcB => k_asm); (case kcF => k_asm); (case kcX => k_asm); (case kcN => k_asm); (case kcT => k_asm); (case kcK => first | exact rfl | assumption); (case kcD => ktr_room); (case kcU => ktr_units); (case kaA => first | assumption | omega | decide); (case kaB => first | assumption | omega | decide); (intro r' h' tk' F' N' R'; (try dsimp only); (try k_fold); (try k_sweep); (have e9 : r' = _ := R'; subst e9))))
    | ((with_reducible show wpAny _ _ (call (Value.ref _) _ _) _ _ _); k_here; k_dflt (refine wpAny_call ?_; (refine' code_def ?k1 ?k2 ?k3 ?k4 ?k5 ?kA ?kF ?kK ?k6 ?k7 ?k8 ?k9 ?kB ?_ ?c2 ?c3 ?c4 ?c5; (case kA => exact rfl); (case kF => exact rfl); (case kK => first | exact rfl | assumption); (case k1 => k_asm); (case k2 => k_asm); (case k3 => k_asm); (case k4 => k_asm); (case k5 => k_asm); (case k6 => k_is); (case k7 => k_is); (case k8 => ktr_room); (case k9 => first | exact BindsTo.of_eq rfl | exact binds_K (by k_in) rfl (by k_is) rfl rfl rfl); (case c5 => decide); (case kB => exact locs rfl); (case c2 => exact rfl); (case c3 => exact rfl); (case c4 => exact rfl); k_whole; intro g' L' h' FG' F' N' B' X' T'; (try dsimp only); (try k_lift B'); (try k_fold))))
    | (k_unfold; (try dsimp only)) | (k_end; wrow_close) | walk1 | (dsimp only; walk1) | (leave1; walk_say "STEP leave1"; try dsimp only) | fail "no step"))
  all_goals (refine hret _ _ _ (by assumption) (cb_drop (by assumption) (by intro p hp; simp [hp])) ?_)
  all_goals first | exact ⟨_, rfl⟩ | rfl

theorem get2_c {tb d : Addr} {h1 h2 : Int} {t1 t2 tx t : Tok} {nn : Nat} {v : Value} {b : Array UInt8} {y x : Int} (hT : IsTab news tb d h1 h2 t1 t2 nn v y tx) (hv : IsBuf news v b) (hz : b.size ≤ 16777216) (h0 : 0 ≤ x) (hi : x + 2 ≤ b.size) :
    CtrV w p loose mean mg mb 12 270 news [.ref tb, .ref 172, .int x t] (fun r => ∃ t, r = .int (numZ b x 2) t) := by
  intro dp un gd cn cs a ccd cl outer A₀ base h₀ L m s Q E B F X N T hk hd hu hret
  w_top on
  refine wpAny_call ?_
  k_dflt cell_enter
  (repeat' (first
    | ((with_reducible show wpAny _ _ (getAttr (Value.ref _) _ _) _ _ _); k_here; (with_reducible rename IsTab _ _ _ _ _ _ _ _ _ _ _ => hT'); (with_reducible rename IsBuf _ _ _ => hV'); k_dflt (refine' get_own ?k1 ?k2 (InstAt.of_news ?kn hT'.obj hT'.dict) ?k4 ?k5 ?k6 ?k7 ?k8 ?k9 ?_; (case k1 => k_asm); (case k2 => k_asm); (case kn => k_asm); (case k4 => k_is); (case k5 => k_is); (case k6 => k_is); (case k7 => k_is); (case k8 => k_get); (case k9 => first | exact hV'.handed | k_handed); k_whole))
    | (k_here; (with_reducible show wpAny _ _ (call (Value.ref 28) [Value.ref 117, _, Value.int _ _]) _ _ _); k_dflt (refine' (enc2_c ?kaV ?kaZ ?kaA ?kaB) _ _ _ _ _ _ _ _ _ _ _ _ _ _ _ _ _ ?kcB ?kcF ?kcX ?kcN ?kcT ?kcK ?kcD ?kcU ?_; (case kcB => k_asm); (case kcF => k_asm); (case kcX => k_asm); (case kcN => k_asm); (case kcT => k_asm); (case kcK => first | exact rfl | assumption); (case kcD => ktr_room); (case kcU => ktr_units); (case kaV => first | assumption | exact IsBuf.cons (by assumption) | exact IsBuf.cons (IsBuf.cons (by assumption)) | exact IsBuf.cons (IsBuf.cons (IsBuf.cons (by assumption))) | exact IsBuf.mono (by assumption) (by intro p hp; simp [hp])); (case kaZ => assumption); (case kaA => first | assumption | omega | decide); (case kaB => first | assumption | omega | decide); (intro r' h' tk' F' N' R'; (try dsimp only); (try k_fold); (try k_sweep); (obtain ⟨t9, e9⟩ := R'; subst e9))))
    | (k_here; (with_reducible show wpAny _ _ (call (Value.ref 207) [Value.int _ _, Value.ref 196]) _ _ _); k_dflt (refine' (enfU_c ?kaA ?kaB) _ _ _ _ _ _ _ _ _ _ _ _ _ _ _ _ _ ?kcB ?kcF ?kcX ?kcN ?kcT ?kcK ?kcD ?kcU ?_; (case kcB => k_asm); (case kcF => k_asm); (case kcX => k_asm); (case kcN => k_asm); (case kcT => k_asm); (case kcK => first | exact rfl | assumption); (case kcD => ktr_room); (case kcU => ktr_units); (case kaA => first | assumption | omega | decide); (case kaB => first | assumption | omega | decide); (intro r' h' tk' F' N' R'; (try dsimp only); (try k_fold); (try k_sweep); (have e9 : r' = _ := R'; subst e9))))
    | ((with_reducible show wpAny _ _ (call (Value.ref _) _ _) _ _ _); k_here; k_dflt (refine wpAny_call ?_; (refine' code_def ?k1 ?k2 ?k3 ?k4 ?k5 ?kA ?kF ?kK ?k6 ?k7 ?k8 ?k9 ?kB ?_ ?c2 ?c3 ?c4 ?c5; (case kA => exact rfl); (case kF => exact rfl); (case kK => first | exact rfl | assumption); (case k1 => k_asm); (case k2 => k_asm); (case k3 => k_asm); (case k4 => k_asm); (case k5 => k_asm); (case k6 => k_is); (case k7 => k_is); (case k8 => ktr_room); (case k9 => first | exact BindsTo.of_eq rfl | exact binds_K (by k_in) rfl (by k_is) rfl rfl rfl); (case c5 => decide); (case kB => exact locs rfl); (case c2 => exact rfl); (case c3 => exact rfl); (case c4 => exact rfl); k_whole; intro g' L' h' FG' F' N' B' X' T'; (try dsimp only); (try k_lift B'); (try k_fold))))
    | (k_unfold; (try dsimp only)) | (k_end; wrow_close) | walk1 | (dsimp only; walk1) | (leave1; walk_say "STEP leave1"; try dsimp only) | fail "no step"))
  all_goals (refine hret _ _ _ (by assumption) (cb_drop (by assumption) (by intro p hp; simp [hp])) ?_)
  all_goals first | exact ⟨_, rfl⟩ | rfl

theorem get3_c {tb d : Addr} {h1 h2 : Int} {t1 t2 tx t : Tok} {nn : Nat} {v : Value} {b : Array UInt8} {y x : Int} (hT : IsTab news tb d h1 h2 t1 t2 nn v y tx) (hv : IsBuf news v b) (hz : b.size ≤ 16777216) (h0 : 0 ≤ x) (hi : x + 4 ≤ b.size) :
    CtrV w p loose mean mg mb 12 270 news [.ref tb, .ref 175, .int x t] (fun r => ∃ t, r = .int (numZ b x 4) t) := by
  intro dp un gd cn cs a ccd cl outer A₀ base h₀ L m s Q E B F X N T hk hd hu hret
  w_top on
  refine wpAny_call ?_
  k_dflt cell_enter
  (repeat' (first
    | ((with_reducible show wpAny _ _ (getAttr (Value.ref _) _ _) _ _ _); k_here; (with_reducible rename IsTab _ _ _ _ _ _ _ _ _ _ _ => hT'); (with_reducible rename IsBuf _ _ _ => hV'); k_dflt (refine' get_own ?k1 ?k2 (InstAt.of_news ?kn hT'.obj hT'.dict) ?k4 ?k5 ?k6 ?k7 ?k8 ?k9 ?_; (case k1 => k_asm); (case k2 => k_asm); (case kn => k_asm); (case k4 => k_is); (case k5 => k_is); (case k6 => k_is); (case k7 => k_is); (case k8 => k_get); (case k9 => first | exact hV'.handed | k_handed); k_whole))
    | (k_here; (with_reducible show wpAny _ _ (call (Value.ref 28) [Value.ref 120, _, Value.int _ _]) _ _ _); k_dflt (refine' (enc3_c ?kaV ?kaZ ?kaA ?kaB) _ _ _ _ _ _ _ _ _ _ _ _ _ _ _ _ _ ?kcB ?kcF ?kcX ?kcN ?kcT ?kcK ?kcD ?kcU ?_; (case kcB => k_asm); (case kcF => k_asm); (case kcX => k_asm); (case kcN => k_asm); (case kcT => k_asm); (case kcK => first | exact rfl | assumption); (case kcD => ktr_room); (case kcU => ktr_units); (case kaV => first | assumption | exact IsBuf.cons (by assumption) | exact IsBuf.cons (IsBuf.cons (by assumption)) | exact IsBuf.cons (IsBuf.cons (IsBuf.cons (by assumption))) | exact IsBuf.mono (by assumption) (by intro p hp; simp [hp])); (case kaZ => assumption); (case kaA => first | assumption | omega | decide); (case kaB => first | assumption | omega | decide); (intro r' h' tk' F' N' R'; (try dsimp only); (try k_fold); (try k_sweep); (obtain ⟨t9, e9⟩ := R'; subst e9))))
    | (k_here; (with_reducible show wpAny _ _ (call (Value.ref 207) [Value.int _ _, Value.ref 196]) _ _ _); k_dflt (refine' (enfU_c ?kaA ?kaB) _ _ _ _ _ _ _ _ _ _ _ _ _ _ _ _ _ ?kcB ?kcF ?kcX ?kcN ?kcT ?kcK ?kcD ?kcU ?_; (case kcB => k_asm); (case kcF => k_asm); (case kcX => k_asm); (case kcN => k_asm); (case kcT => k_asm); (case kcK => first | exact rfl | assumption); (case kcD => ktr_room); (case kcU => ktr_units); (case kaA => first | assumption | omega | decide); (case kaB => first | assumption | omega | decide); (intro r' h' tk' F' N' R'; (try dsimp only); (try k_fold); (try k_sweep); (have e9 : r' = _ := R'; subst e9))))
    | ((with_reducible show wpAny _ _ (call (Value.ref _) _ _) _ _ _); k_here; k_dflt (refine wpAny_call ?_; (refine' code_def ?k1 ?k2 ?k3 ?k4 ?k5 ?kA ?kF ?kK ?k6 ?k7 ?k8 ?k9 ?kB ?_ ?c2 ?c3 ?c4 ?c5; (case kA => exact rfl); (case kF => exact rfl); (case kK => first | exact rfl | assumption); (case k1 => k_asm); (case k2 => k_asm); (case k3 => k_asm); (case k4 => k_asm); (case k5 => k_asm); (case k6 => k_is); (case k7 => k_is); (case k8 => ktr_room); (case k9 => first | exact BindsTo.of_eq rfl | exact binds_K (by k_in) rfl (by k_is) rfl rfl rfl); (case c5 => decide); (case kB => exact locs rfl); (case c2 => exact rfl); (case c3 => exact rfl); (case c4 => exact rfl); k_whole; intro g' L' h' FG' F' N' B' X' T'; (try dsimp only); (try k_lift B'); (try k_fold))))
    | (k_unfold; (try dsimp only)) | (k_end; wrow_close) | walk1 | (dsimp only; walk1) | (leave1; walk_say "STEP leave1"; try dsimp only) | fail "no step"))
  all_goals (refine hret _ _ _ (by assumption) (cb_drop (by assumption) (by intro p hp; simp [hp])) ?_)
  all_goals first | exact ⟨_, rfl⟩ | rfl

theorem get4_c {tb d : Addr} {h1 h2 : Int} {t1 t2 tx t : Tok} {nn : Nat} {v : Value} {b : Array UInt8} {y x : Int} (hT : IsTab news tb d h1 h2 t1 t2 nn v y tx) (hv : IsBuf news v b) (hz : b.size ≤ 16777216) (h0 : 0 ≤ x) (hi : x + 8 ≤ b.size) :
    CtrV w p loose mean mg mb 12 270 news [.ref tb, .ref 178, .int x t] (fun r => ∃ t, r = .int (numZ b x 8) t) := by
  intro dp un gd cn cs a ccd cl outer A₀ base h₀ L m s Q E B F X N T hk hd hu hret
  w_top on
  refine wpAny_call ?_
  k_dflt cell_enter
  (repeat' (first
    | ((with_reducible show wpAny _ _ (getAttr (Value.ref _) _ _) _ _ _); k_here; (with_reducible rename IsTab _ _ _ _ _ _ _ _ _ _ _ => hT'); (with_reducible rename IsBuf _ _ _ => hV'); k_dflt (refine' get_own ?k1 ?k2 (InstAt.of_news ?kn hT'.obj hT'.dict) ?k4 ?k5 ?k6 ?k7 ?k8 ?k9 ?_; (case k1 => k_asm); (case k2 => k_asm); (case kn => k_asm); (case k4 => k_is); (case k5 => k_is); (case k6 => k_is); (case k7 => k_is); (case k8 => k_get); (case k9 => first | exact hV'.handed | k_handed); k_whole))
    | (k_here; (with_reducible show wpAny _ _ (call (Value.ref 28) [Value.ref 123, _, Value.int _ _]) _ _ _); k_dflt (refine' (enc4_c ?kaV ?kaZ ?kaA ?kaB) _ _ _ _ _ _ _ _ _ _ _ _ _ _ _ _ _ ?kcB ?kcF ?kcX ?kcN ?kcT ?kcK ?kcD ?kcU ?_; (case kcB => k_asm); (case kcF => k_asm); (case kcX => k_asm); (case kcN => k_asm); (case kcT => k_asm); (case kcK => first | exact rfl | assumption); (case kcD => ktr_room); (case kcU => ktr_units); (case kaV => first | assumption | exact IsBuf.cons (by assumption) | exact IsBuf.cons (IsBuf.cons (by assumption)) | exact IsBuf.cons (IsBuf.cons (IsBuf.cons (by assumption))) | exact IsBuf.mono (by assumption) (by intro p hp; simp [hp])); (case kaZ => assumption); (case kaA => first | assumption | omega | decide); (case kaB => first | assumption | omega | decide); (intro r' h' tk' F' N' R'; (try dsimp only); (try k_fold); (try k_sweep); (obtain ⟨t9, e9⟩ := R'; subst e9))))
    | (k_here; (with_reducible show wpAny _ _ (call (Value.ref 207) [Value.int _ _, Value.ref 196]) _ _ _); k_dflt (refine' (enfU_c ?kaA ?kaB) _ _ _ _ _ _ _ _ _ _ _ _ _ _ _ _ _ ?kcB ?kcF ?kcX ?kcN ?kcT ?kcK ?kcD ?kcU ?_; (case kcB => k_asm); (case kcF => k_asm); (case kcX => k_asm); (case kcN => k_asm); (case kcT => k_asm); (case kcK => first | exact rfl | assumption); (case kcD => ktr_room); (case kcU => ktr_units); (case kaA => first | assumption | omega | decide); (case kaB => first | assumption | omega | decide); (intro r' h' tk' F' N' R'; (try dsimp only); (try k_fold); (try k_sweep); (have e9 : r' = _ := R'; subst e9))))
    | ((with_reducible show wpAny _ _ (call (Value.ref _) _ _) _ _ _); k_here; k_dflt (refine wpAny_call ?_; (refine' code_def ?k1 ?k2 ?k3 ?k4 ?k5 ?kA ?kF ?kK ?k6 ?k7 ?k8 ?k9 ?kB ?_ ?c2 ?c3 ?c4 ?c5; (case kA => exact rfl); (case kF => exact rfl); (case kK => first | exact rfl | assumption); (case k1 => k_asm); (case k2 => k_asm); (case k3 => k_asm); (case k4 => k_asm); (case k5 => k_asm); (case k6 => k_is); (case k7 => k_is); (case k8 => ktr_room); (case k9 => first | exact BindsTo.of_eq rfl | exact binds_K (by k_in) rfl (by k_is) rfl rfl rfl); (case c5 => decide); (case kB => exact locs rfl); (case c2 => exact rfl); (case c3 => exact rfl); (case c4 => exact rfl); k_whole; intro g' L' h' FG' F' N' B' X' T'; (try dsimp only); (try k_lift B'); (try k_fold))))
    | (k_unfold; (try dsimp only)) | (k_end; wrow_close) | walk1 | (dsimp only; walk1) | (leave1; walk_say "STEP leave1"; try dsimp only) | fail "no step"))
  all_goals (refine hret _ _ _ (by assumption) (cb_drop (by assumption) (by intro p hp; simp [hp])) ?_)
  all_goals first | exact ⟨_, rfl⟩ | rfl

theorem get5_c {tb d : Addr} {h1 h2 : Int} {t1 t2 tx t : Tok} {nn : Nat} {v : Value} {b : Array UInt8} {y x : Int} (hT : IsTab news tb d h1 h2 t1 t2 nn v y tx) (hv : IsBuf news v b) (hz : b.size ≤ 16777216) (h0 : 0 ≤ x) (hi : x + 1 ≤ b.size) :
    CtrV w p loose mean mg mb 12 270 news [.ref tb, .ref 181, .int x t] (fun r => ∃ t, r = .int (if numZ b x 1 ≥ 128 then numZ b x 1 - 256 else numZ b x 1) t) := by
  intro dp un gd cn cs a ccd cl outer A₀ base h₀ L m s Q E B F X N T hk hd hu hret
  w_top on
  refine wpAny_call ?_
  k_dflt cell_enter
  (repeat' (first
    | ((with_reducible show wpAny _ _ (getAttr (Value.ref _) _ _) _ _ _); k_here; (with_reducible rename IsTab _ _ _ _ _ _ _ _ _ _ _ => hT'); (with_reducible rename IsBuf _ _ _ => hV'); k_dflt (refine' get_own ?k1 ?k2 (InstAt.of_news ?kn hT'.obj hT'.dict) ?k4 ?k5 ?k6 ?k7 ?k8 ?k9 ?_; (case k1 => k_asm); (case k2 => k_asm); (case kn => k_asm); (case k4 => k_is); (case k5 => k_is); (case k6 => k_is); (case k7 => k_is); (case k8 => k_get); (case k9 => first | exact hV'.handed | k_handed); k_whole))
    | (k_here; (with_reducible show wpAny _ _ (call (Value.ref 28) [Value.ref 126, _, Value.int _ _]) _ _ _); k_dflt (refine' (enc5_c ?kaV ?kaZ ?kaA ?kaB) _ _ _ _ _ _ _ _ _ _ _ _ _ _ _ _ _ ?kcB ?kcF ?kcX ?kcN ?kcT ?kcK ?kcD ?kcU ?_; (case kcB => k_asm); (case kcF => k_asm); (case kcX => k_asm); (case kcN => k_asm); (case kcT => k_asm); (case kcK => first | exact rfl | assumption); (case kcD => ktr_room); (case kcU => ktr_units); (case kaV => first | assumption | exact IsBuf.cons (by assumption) | exact IsBuf.cons (IsBuf.cons (by assumption)) | exact IsBuf.cons (IsBuf.cons (IsBuf.cons (by assumption))) | exact IsBuf.mono (by assumption) (by intro p hp; simp [hp])); (case kaZ => assumption); (case kaA => first | assumption | omega | decide); (case kaB => first | assumption | omega | decide); (intro r' h' tk' F' N' R'; (try dsimp only); (try k_fold); (try k_sweep); (obtain ⟨t9, e9⟩ := R'; subst e9))))
    | (k_here; (with_reducible show wpAny _ _ (call (Value.ref 207) [Value.int _ _, Value.ref 196]) _ _ _); k_dflt (refine' (enfU_c ?kaA ?kaB) _ _ _ _ _ _ _ _ _ _ _ _ _ _ _ _ _ ?kcB ?kcF ?kcX ?kcN ?kcT ?kcK ?kcD ?kcU ?_; (case kcB => k_asm); (case kcF => k_asm); (case kcX => k_asm); (case kcN => k_asm); (case kcT => k_asm); (case kcK => first | exact rfl | assumption); (case kcD => ktr_room); (case kcU => ktr_units); (case kaA => first | assumption | omega | decide); (case kaB => first | assumption | omega | decide); (intro r' h' tk' F' N' R'; (try dsimp only); (try k_fold); (try k_sweep); (have e9 : r' = _ := R'; subst e9))))
    | ((with_reducible show wpAny _ _ (call (Value.ref _) _ _) _ _ _); k_here; k_dflt (refine wpAny_call ?_; (refine' code_def ?k1 ?k2 ?k3 ?k4 ?k5 ?kA ?kF ?kK ?k6 ?k7 ?k8 ?k9 ?kB ?_ ?c2 ?c3 ?c4 ?c5; (case kA => exact rfl); (case kF => exact rfl); (case kK => first | exact rfl | assumption); (case k1 => k_asm); (case k2 => k_asm); (case k3 => k_asm); (case k4 => k_asm); (case k5 => k_asm); (case k6 => k_is); (case k7 => k_is); (case k8 => ktr_room); (case k9 => first | exact BindsTo.of_eq rfl | exact binds_K (by k_in) rfl (by k_is) rfl rfl rfl); (case c5 => decide); (case kB => exact locs rfl); (case c2 => exact rfl); (case c3 => exact rfl); (case c4 => exact rfl); k_whole; intro g' L' h' FG' F' N' B' X' T'; (try dsimp only); (try k_lift B'); (try k_fold))))
    | (k_unfold; (try dsimp only)) | (k_end; wrow_close) | walk1 | (dsimp only; walk1) | (leave1; walk_say "STEP leave1"; try dsimp only) | fail "no step"))
  all_goals (refine hret _ _ _ (by assumption) (cb_drop (by assumption) (by intro p hp; simp [hp])) ?_)
  all_goals first | exact ⟨_, rfl⟩ | rfl

theorem get6_c {tb d : Addr} {h1 h2 : Int} {t1 t2 tx t : Tok} {nn : Nat} {v : Value} {b : Array UInt8} {y x : Int} (hT : IsTab news tb d h1 h2 t1 t2 nn v y tx) (hv : IsBuf news v b) (hz : b.size ≤ 16777216) (h0 : 0 ≤ x) (hi : x + 2 ≤ b.size) :
    CtrV w p loose mean mg mb 12 270 news [.ref tb, .ref 184, .int x t] (fun r => ∃ t, r = .int (if numZ b x 2 ≥ 32768 then numZ b x 2 - 65536 else numZ b x 2) t) := by
  intro dp un gd cn cs a ccd cl outer A₀ base h₀ L m s Q E B F X N T hk hd hu hret
  w_top on
  refine wpAny_call ?_
  k_dflt cell_enter
  (repeat' (first
    | ((with_reducible show wpAny _ _ (getAttr (Value.ref _) _ _) _ _ _); k_here; (with_reducible rename IsTab _ _ _ _ _ _ _ _ _ _ _ => hT'); (with_reducible rename IsBuf _ _ _ => hV'); k_dflt (refine' get_own ?k1 ?k2 (InstAt.of_news ?kn hT'.obj hT'.dict) ?k4 ?k5 ?k6 ?k7 ?k8 ?k9 ?_; (case k1 => k_asm); (case k2 => k_asm); (case kn => k_asm); (case k4 => k_is); (case k5 => k_is); (case k6 => k_is); (case k7 => k_is); (case k8 => k_get); (case k9 => first | exact hV'.handed | k_handed); k_whole))
    | (k_here; (with_reducible show wpAny _ _ (call (Value.ref 28) [Value.ref 129, _, Value.int _ _]) _ _ _); k_dflt (refine' (enc6_c ?kaV ?kaZ ?kaA ?kaB) _ _ _ _ _ _ _ _ _ _ _ _ _ _ _ _ _ ?kcB ?kcF ?kcX ?kcN ?kcT ?kcK ?kcD ?kcU ?_; (case kcB => k_asm); (case kcF => k_asm); (case kcX => k_asm); (case kcN => k_asm); (case kcT => k_asm); (case kcK => first | exact rfl | assumption); (case kcD => ktr_room); (case kcU => ktr_units); (case kaV => first | assumption | exact IsBuf.cons (by assumption) | exact IsBuf.cons (IsBuf.cons (by assumption)) | exact IsBuf.cons (IsBuf.cons (IsBuf.cons (by assumption))) | exact IsBuf.mono (by assumption) (by intro p hp; simp [hp])); (case kaZ => assumption); (case kaA => first | assumption | omega | decide); (case kaB => first | assumption | omega | decide); (intro r' h' tk' F' N' R'; (try dsimp only); (try k_fold); (try k_sweep); (obtain ⟨t9, e9⟩ := R'; subst e9))))
    | (k_here; (with_reducible show wpAny _ _ (call (Value.ref 207) [Value.int _ _, Value.ref 196]) _ _ _); k_dflt (refine' (enfU_c ?kaA ?kaB) _ _ _ _ _ _ _ _ _ _ _ _ _ _ _ _ _ ?kcB ?kcF ?kcX ?kcN ?kcT ?kcK ?kcD ?kcU ?_; (case kcB => k_asm); (case kcF => k_asm); (case kcX => k_asm); (case kcN => k_asm); (case kcT => k_asm); (case kcK => first | exact rfl | assumption); (case kcD => ktr_room); (case kcU => ktr_units); (case kaA => first | assumption | omega | decide); (case kaB => first | assumption | omega | decide); (intro r' h' tk' F' N' R'; (try dsimp only); (try k_fold); (try k_sweep); (have e9 : r' = _ := R'; subst e9))))
    | ((with_reducible show wpAny _ _ (call (Value.ref _) _ _) _ _ _); k_here; k_dflt (refine wpAny_call ?_; (refine' code_def ?k1 ?k2 ?k3 ?k4 ?k5 ?kA ?kF ?kK ?k6 ?k7 ?k8 ?k9 ?kB ?_ ?c2 ?c3 ?c4 ?c5; (case kA => exact rfl); (case kF => exact rfl); (case kK => first | exact rfl | assumption); (case k1 => k_asm); (case k2 => k_asm); (case k3 => k_asm); (case k4 => k_asm); (case k5 => k_asm); (case k6 => k_is); (case k7 => k_is); (case k8 => ktr_room); (case k9 => first | exact BindsTo.of_eq rfl | exact binds_K (by k_in) rfl (by k_is) rfl rfl rfl); (case c5 => decide); (case kB => exact locs rfl); (case c2 => exact rfl); (case c3 => exact rfl); (case c4 => exact rfl); k_whole; intro g' L' h' FG' F' N' B' X' T'; (try dsimp only); (try k_lift B'); (try k_fold))))
    | (k_unfold; (try dsimp only)) | (k_end; wrow_close) | walk1 | (dsimp only; walk1) | (leave1; walk_say "STEP leave1"; try dsimp only) | fail "no step"))
  all_goals (refine hret _ _ _ (by assumption) (cb_drop (by assumption) (by intro p hp; simp [hp])) ?_)
  all_goals first | exact ⟨_, rfl⟩ | rfl

theorem get7_c {tb d : Addr} {h1 h2 : Int} {t1 t2 tx t : Tok} {nn : Nat} {v : Value} {b : Array UInt8} {y x : Int} (hT : IsTab news tb d h1 h2 t1 t2 nn v y tx) (hv : IsBuf news v b) (hz : b.size ≤ 16777216) (h0 : 0 ≤ x) (hi : x + 4 ≤ b.size) :
    CtrV w p loose mean mg mb 12 270 news [.ref tb, .ref 187, .int x t] (fun r => ∃ t, r = .int (if numZ b x 4 ≥ 2147483648 then numZ b x 4 - 4294967296 else numZ b x 4) t) := by
  intro dp un gd cn cs a ccd cl outer A₀ base h₀ L m s Q E B F X N T hk hd hu hret
  w_top on
  refine wpAny_call ?_
  k_dflt cell_enter
  (repeat' (first
    | ((with_reducible show wpAny _ _ (getAttr (Value.ref _) _ _) _ _ _); k_here; (with_reducible rename IsTab _ _ _ _ _ _ _ _ _ _ _ => hT'); (with_reducible rename IsBuf _ _ _ => hV'); k_dflt (refine' get_own ?k1 ?k2 (InstAt.of_news ?kn hT'.obj hT'.dict) ?k4 ?k5 ?k6 ?k7 ?k8 ?k9 ?_; (case k1 => k_asm); (case k2 => k_asm); (case kn => k_asm); (case k4 => k_is); (case k5 => k_is); (case k6 => k_is); (case k7 => k_is); (case k8 => k_get); (case k9 => first | exact hV'.handed | k_handed); k_whole))
    | (k_here; (with_reducible show wpAny _ _ (call (Value.ref 28) [Value.ref 132, _, Value.int _ _]) _ _ _); k_dflt (refine' (enc7_c ?kaV ?kaZ ?kaA ?kaB) _ _ _ _ _ _ _ _ _ _ _ _ _ _ _ _ _ ?kcB ?kcF ?kcX ?kcN ?kcT ?kcK ?kcD ?kcU ?_; (case kcB => k_asm); (case kcF => k_asm); (case kcX => k_asm); (case kcN => k_asm); (case kcT => k_asm); (case kcK => first | exact rfl | assumption); (case kcD => ktr_room); (case kcU => ktr_units); (case kaV => first | assumption | exact IsBuf.cons (by assumption) | exact IsBuf.cons (IsBuf.cons (by assumption)) | exact IsBuf.cons (IsBuf.cons (IsBuf.cons (by assumption))) | exact IsBuf.mono (by assumption) (by intro p hp; simp [hp])); (case kaZ => assumption); (case kaA => first | assumption | omega | decide); (case kaB => first | assumption | omega | decide); (intro r' h' tk' F' N' R'; (try dsimp only); (try k_fold); (try k_sweep); (obtain ⟨t9, e9⟩ := R'; subst e9))))
    | (k_here; (with_reducible show wpAny _ _ (call (Value.ref 207) [Value.int _ _, Value.ref 196]) _ _ _); k_dflt (refine' (enfU_c ?kaA ?kaB) _ _ _ _ _ _ _ _ _ _ _ _ _ _ _ _ _ ?kcB ?kcF ?kcX ?kcN ?kcT ?kcK ?kcD ?kcU ?_; (case kcB => k_asm); (case kcF => k_asm); (case kcX => k_asm); (case kcN => k_asm); (case kcT => k_asm); (case kcK => first | exact rfl | assumption); (case kcD => ktr_room); (case kcU => ktr_units); (case kaA => first | assumption | omega | decide); (case kaB => first | assumption | omega | decide); (intro r' h' tk' F' N' R'; (try dsimp only); (try k_fold); (try k_sweep); (have e9 : r' = _ := R'; subst e9))))
    | ((with_reducible show wpAny _ _ (call (Value.ref _) _ _) _ _ _); k_here; k_dflt (refine wpAny_call ?_; (refine' code_def ?k1 ?k2 ?k3 ?k4 ?k5 ?kA ?kF ?kK ?k6 ?k7 ?k8 ?k9 ?kB ?_ ?c2 ?c3 ?c4 ?c5; (case kA => exact rfl); (case kF => exact rfl); (case kK => first | exact rfl | assumption); (case k1 => k_asm); (case k2 => k_asm); (case k3 => k_asm); (case k4 => k_asm); (case k5 => k_asm); (case k6 => k_is); (case k7 => k_is); (case k8 => ktr_room); (case k9 => first | exact BindsTo.of_eq rfl | exact binds_K (by k_in) rfl (by k_is) rfl rfl rfl); (case c5 => decide); (case kB => exact locs rfl); (case c2 => exact rfl); (case c3 => exact rfl); (case c4 => exact rfl); k_whole; intro g' L' h' FG' F' N' B' X' T'; (try dsimp only); (try k_lift B'); (try k_fold))))
    | (k_unfold; (try dsimp only)) | (k_end; wrow_close) | walk1 | (dsimp only; walk1) | (leave1; walk_say "STEP leave1"; try dsimp only) | fail "no step"))
  all_goals (refine hret _ _ _ (by assumption) (cb_drop (by assumption) (by intro p hp; simp [hp])) ?_)
  all_goals first | exact ⟨_, rfl⟩ | rfl

theorem get8_c {tb d : Addr} {h1 h2 : Int} {t1 t2 tx t : Tok} {nn : Nat} {v : Value} {b : Array UInt8} {y x : Int} (hT : IsTab news tb d h1 h2 t1 t2 nn v y tx) (hv : IsBuf news v b) (hz : b.size ≤ 16777216) (h0 : 0 ≤ x) (hi : x + 8 ≤ b.size) :
    CtrV w p loose mean mg mb 12 270 news [.ref tb, .ref 190, .int x t] (fun r => ∃ t, r = .int (if numZ b x 8 ≥ 9223372036854775808 then numZ b x 8 - 18446744073709551616 else numZ b x 8) t) := by
  intro dp un gd cn cs a ccd cl outer A₀ base h₀ L m s Q E B F X N T hk hd hu hret
  w_top on
  refine wpAny_call ?_
  k_dflt cell_enter
  (repeat' (first
    | ((with_reducible show wpAny _ _ (getAttr (Value.ref _) _ _) _ _ _); k_here; (with_reducible rename IsTab _ _ _ _ _ _ _ _ _ _ _ => hT'); (with_reducible rename IsBuf _ _ _ => hV'); k_dflt (refine' get_own ?k1 ?k2 (InstAt.of_news ?kn hT'.obj hT'.dict) ?k4 ?k5 ?k6 ?k7 ?k8 ?k9 ?_; (case k1 => k_asm); (case k2 => k_asm); (case kn => k_asm); (case k4 => k_is); (case k5 => k_is); (case k6 => k_is); (case k7 => k_is); (case k8 => k_get); (case k9 => first | exact hV'.handed | k_handed); k_whole))
    | (k_here; (with_reducible show wpAny _ _ (call (Value.ref 28) [Value.ref 135, _, Value.int _ _]) _ _ _); k_dflt (refine' (enc8_c ?kaV ?kaZ ?kaA ?kaB) _ _ _ _ _ _ _ _ _ _ _ _ _ _ _ _ _ ?kcB ?kcF ?kcX ?kcN ?kcT ?kcK ?kcD ?kcU ?_; (case kcB => k_asm); (case kcF => k_asm); (case kcX => k_asm); (case kcN => k_asm); (case kcT => k_asm); (case kcK => first | exact rfl | assumption); (case kcD => ktr_room); (case kcU => ktr_units); (case kaV => first | assumption | exact IsBuf.cons (by assumption) | exact IsBuf.cons (IsBuf.cons (by assumption)) | exact IsBuf.cons (IsBuf.cons (IsBuf.cons (by assumption))) | exact IsBuf.mono (by assumption) (by intro p hp; simp [hp])); (case kaZ => assumption); (case kaA => first | assumption | omega | decide); (case kaB => first | assumption | omega | decide); (intro r' h' tk' F' N' R'; (try dsimp only); (try k_fold); (try k_sweep); (obtain ⟨t9, e9⟩ := R'; subst e9))))
    | (k_here; (with_reducible show wpAny _ _ (call (Value.ref 207) [Value.int _ _, Value.ref 196]) _ _ _); k_dflt (refine' (enfU_c ?kaA ?kaB) _ _ _ _ _ _ _ _ _ _ _ _ _ _ _ _ _ ?kcB ?kcF ?kcX ?kcN ?kcT ?kcK ?kcD ?kcU ?_; (case kcB => k_asm); (case kcF => k_asm); (case kcX => k_asm); (case kcN => k_asm); (case kcT => k_asm); (case kcK => first | exact rfl | assumption); (case kcD => ktr_room); (case kcU => ktr_units); (case kaA => first | assumption | omega | decide); (case kaB => first | assumption | omega | decide); (intro r' h' tk' F' N' R'; (try dsimp only); (try k_fold); (try k_sweep); (have e9 : r' = _ := R'; subst e9))))
    | ((with_reducible show wpAny _ _ (call (Value.ref _) _ _) _ _ _); k_here; k_dflt (refine wpAny_call ?_; (refine' code_def ?k1 ?k2 ?k3 ?k4 ?k5 ?kA ?kF ?kK ?k6 ?k7 ?k8 ?k9 ?kB ?_ ?c2 ?c3 ?c4 ?c5; (case kA => exact rfl); (case kF => exact rfl); (case kK => first | exact rfl | assumption); (case k1 => k_asm); (case k2 => k_asm); (case k3 => k_asm); (case k4 => k_asm); (case k5 => k_asm); (case k6 => k_is); (case k7 => k_is); (case k8 => ktr_room); (case k9 => first | exact BindsTo.of_eq rfl | exact binds_K (by k_in) rfl (by k_is) rfl rfl rfl); (case c5 => decide); (case kB => exact locs rfl); (case c2 => exact rfl); (case c3 => exact rfl); (case c4 => exact rfl); k_whole; intro g' L' h' FG' F' N' B' X' T'; (try dsimp only); (try k_lift B'); (try k_fold))))
    | (k_unfold; (try dsimp only)) | (k_end; wrow_close) | walk1 | (dsimp only; walk1) | (leave1; walk_say "STEP leave1"; try dsimp only) | fail "no step"))
  all_goals (refine hret _ _ _ (by assumption) (cb_drop (by assumption) (by intro p hp; simp [hp])) ?_)
  all_goals first | exact ⟨_, rfl⟩ | rfl

theorem get9_c {tb d : Addr} {h1 h2 : Int} {t1 t2 tx t : Tok} {nn : Nat} {v : Value} {b : Array UInt8} {y x : Int} (hT : IsTab news tb d h1 h2 t1 t2 nn v y tx) (hv : IsBuf news v b) (hz : b.size ≤ 16777216) (h0 : 0 ≤ x) (hi : x + 4 ≤ b.size) :
    CtrV w p loose mean mg mb 12 270 news [.ref tb, .ref 193, .int x t] (fun r => ∃ t, r = .int (if numZ b x 4 ≥ 2147483648 then numZ b x 4 - 4294967296 else numZ b x 4) t) := by
  intro dp un gd cn cs a ccd cl outer A₀ base h₀ L m s Q E B F X N T hk hd hu hret
  w_top on
  refine wpAny_call ?_
  k_dflt cell_enter
  (repeat' (first
    | ((with_reducible show wpAny _ _ (getAttr (Value.ref _) _ _) _ _ _); k_here; (with_reducible rename IsTab _ _ _ _ _ _ _ _ _ _ _ => hT'); (with_reducible rename IsBuf _ _ _ => hV'); k_dflt (refine' get_own ?k1 ?k2 (InstAt.of_news ?kn hT'.obj hT'.dict) ?k4 ?k5 ?k6 ?k7 ?k8 ?k9 ?_; (case k1 => k_asm); (case k2 => k_asm); (case kn => k_asm); (case k4 => k_is); (case k5 => k_is); (case k6 => k_is); (case k7 => k_is); (case k8 => k_get); (case k9 => first | exact hV'.handed | k_handed); k_whole))
    | (k_here; (with_reducible show wpAny _ _ (call (Value.ref 28) [Value.ref 132, _, Value.int _ _]) _ _ _); k_dflt (refine' (enc7_c ?kaV ?kaZ ?kaA ?kaB) _ _ _ _ _ _ _ _ _ _ _ _ _ _ _ _ _ ?kcB ?kcF ?kcX ?kcN ?kcT ?kcK ?kcD ?kcU ?_; (case kcB => k_asm); (case kcF => k_asm); (case kcX => k_asm); (case kcN => k_asm); (case kcT => k_asm); (case kcK => first | exact rfl | assumption); (case kcD => ktr_room); (case kcU => ktr_units); (case kaV => first | assumption | exact IsBuf.cons (by assumption) | exact IsBuf.cons (IsBuf.cons (by assumption)) | exact IsBuf.cons (IsBuf.cons (IsBuf.cons (by assumption))) | exact IsBuf.mono (by assumption) (by intro p hp; simp [hp])); (case kaZ => assumption); (case kaA => first | assumption | omega | decide); (case kaB => first | assumption | omega | decide); (intro r' h' tk' F' N' R'; (try dsimp only); (try k_fold); (try k_sweep); (obtain ⟨t9, e9⟩ := R'; subst e9))))
    | (k_here; (with_reducible show wpAny _ _ (call (Value.ref 207) [Value.int _ _, Value.ref 196]) _ _ _); k_dflt (refine' (enfU_c ?kaA ?kaB) _ _ _ _ _ _ _ _ _ _ _ _ _ _ _ _ _ ?kcB ?kcF ?kcX ?kcN ?kcT ?kcK ?kcD ?kcU ?_; (case kcB => k_asm); (case kcF => k_asm); (case kcX => k_asm); (case kcN => k_asm); (case kcT => k_asm); (case kcK => first | exact rfl | assumption); (case kcD => ktr_room); (case kcU => ktr_units); (case kaA => first | assumption | omega | decide); (case kaB => first | assumption | omega | decide); (intro r' h' tk' F' N' R'; (try dsimp only); (try k_fold); (try k_sweep); (have e9 : r' = _ := R'; subst e9))))
    | ((with_reducible show wpAny _ _ (call (Value.ref _) _ _) _ _ _); k_here; k_dflt (refine wpAny_call ?_; (refine' code_def ?k1 ?k2 ?k3 ?k4 ?k5 ?kA ?kF ?kK ?k6 ?k7 ?k8 ?k9 ?kB ?_ ?c2 ?c3 ?c4 ?c5; (case kA => exact rfl); (case kF => exact rfl); (case kK => first | exact rfl | assumption); (case k1 => k_asm); (case k2 => k_asm); (case k3 => k_asm); (case k4 => k_asm); (case k5 => k_asm); (case k6 => k_is); (case k7 => k_is); (case k8 => ktr_room); (case k9 => first | exact BindsTo.of_eq rfl | exact binds_K (by k_in) rfl (by k_is) rfl rfl rfl); (case c5 => decide); (case kB => exact locs rfl); (case c2 => exact rfl); (case c3 => exact rfl); (case c4 => exact rfl); k_whole; intro g' L' h' FG' F' N' B' X' T'; (try dsimp only); (try k_lift B'); (try k_fold))))
    | (k_unfold; (try dsimp only)) | (k_end; wrow_close) | walk1 | (dsimp only; walk1) | (leave1; walk_say "STEP leave1"; try dsimp only) | fail "no step"))
  all_goals (refine hret _ _ _ (by assumption) (cb_drop (by assumption) (by intro p hp; simp [hp])) ?_)
  all_goals first | exact ⟨_, rfl⟩ | rfl

theorem get10_c {tb d : Addr} {h1 h2 : Int} {t1 t2 tx t : Tok} {nn : Nat} {v : Value} {b : Array UInt8} {y x : Int} (hT : IsTab news tb d h1 h2 t1 t2 nn v y tx) (hv : IsBuf news v b) (hz : b.size ≤ 16777216) (h0 : 0 ≤ x) (hi : x + 4 ≤ b.size) :
    CtrV w p loose mean mg mb 12 270 news [.ref tb, .ref 196, .int x t] (fun r => ∃ t, r = .int (numZ b x 4) t) := by
  intro dp un gd cn cs a ccd cl outer A₀ base h₀ L m s Q E B F X N T hk hd hu hret
  w_top on
  refine wpAny_call ?_
  k_dflt cell_enter
  (repeat' (first
    | ((with_reducible show wpAny _ _ (getAttr (Value.ref _) _ _) _ _ _); k_here; (with_reducible rename IsTab _ _ _ _ _ _ _ _ _ _ _ => hT'); (with_reducible rename IsBuf _ _ _ => hV'); k_dflt (refine' get_own ?k1 ?k2 (InstAt.of_news ?kn hT'.obj hT'.dict) ?k4 ?k5 ?k6 ?k7 ?k8 ?k9 ?_; (case k1 => k_asm); (case k2 => k_asm); (case kn => k_asm); (case k4 => k_is); (case k5 => k_is); (case k6 => k_is); (case k7 => k_is); (case k8 => k_get); (case k9 => first | exact hV'.handed | k_handed); k_whole))
    | (k_here; (with_reducible show wpAny _ _ (call (Value.ref 28) [Value.ref 120, _, Value.int _ _]) _ _ _); k_dflt (refine' (enc3_c ?kaV ?kaZ ?kaA ?kaB) _ _ _ _ _ _ _ _ _ _ _ _ _ _ _ _ _ ?kcB ?kcF ?kcX ?kcN ?kcT ?kcK ?kcD ?kcU ?_; (case kcB => k_asm); (case kcF => k_asm); (case kcX => k_asm); (case kcN => k_asm); (case kcT => k_asm); (case kcK => first | exact rfl | assumption); (case kcD => ktr_room); (case kcU => ktr_units); (case kaV => first | assumption | exact IsBuf.cons (by assumption) | exact IsBuf.cons (IsBuf.cons (by assumption)) | exact IsBuf.cons (IsBuf.cons (IsBuf.cons (by assumption))) | exact IsBuf.mono (by assumption) (by intro p hp; simp [hp])); (case kaZ => assumption); (case kaA => first | assumption | omega | decide); (case kaB => first | assumption | omega | decide); (intro r' h' tk' F' N' R'; (try dsimp only); (try k_fold); (try k_sweep); (obtain ⟨t9, e9⟩ := R'; subst e9))))
    | (k_here; (with_reducible show wpAny _ _ (call (Value.ref 207) [Value.int _ _, Value.ref 196]) _ _ _); k_dflt (refine' (enfU_c ?kaA ?kaB) _ _ _ _ _ _ _ _ _ _ _ _ _ _ _ _ _ ?kcB ?kcF ?kcX ?kcN ?kcT ?kcK ?kcD ?kcU ?_; (case kcB => k_asm); (case kcF => k_asm); (case kcX => k_asm); (case kcN => k_asm); (case kcT => k_asm); (case kcK => first | exact rfl | assumption); (case kcD => ktr_room); (case kcU => ktr_units); (case kaA => first | assumption | omega | decide); (case kaB => first | assumption | omega | decide); (intro r' h' tk' F' N' R'; (try dsimp only); (try k_fold); (try k_sweep); (have e9 : r' = _ := R'; subst e9))))
    | ((with_reducible show wpAny _ _ (call (Value.ref _) _ _) _ _ _); k_here; k_dflt (refine wpAny_call ?_; (refine' code_def ?k1 ?k2 ?k3 ?k4 ?k5 ?kA ?kF ?kK ?k6 ?k7 ?k8 ?k9 ?kB ?_ ?c2 ?c3 ?c4 ?c5; (case kA => exact rfl); (case kF => exact rfl); (case kK => first | exact rfl | assumption); (case k1 => k_asm); (case k2 => k_asm); (case k3 => k_asm); (case k4 => k_asm); (case k5 => k_asm); (case k6 => k_is); (case k7 => k_is); (case k8 => ktr_room); (case k9 => first | exact BindsTo.of_eq rfl | exact binds_K (by k_in) rfl (by k_is) rfl rfl rfl); (case c5 => decide); (case kB => exact locs rfl); (case c2 => exact rfl); (case c3 => exact rfl); (case c4 => exact rfl); k_whole; intro g' L' h' FG' F' N' B' X' T'; (try dsimp only); (try k_lift B'); (try k_fold))))
    | (k_unfold; (try dsimp only)) | (k_end; wrow_close) | walk1 | (dsimp only; walk1) | (leave1; walk_say "STEP leave1"; try dsimp only) | fail "no step"))
  all_goals (refine hret _ _ _ (by assumption) (cb_drop (by assumption) (by intro p hp; simp [hp])) ?_)
  all_goals first | exact ⟨_, rfl⟩ | rfl

theorem get11_c {tb d : Addr} {h1 h2 : Int} {t1 t2 tx t : Tok} {nn : Nat} {v : Value} {b : Array UInt8} {y x : Int} (hT : IsTab news tb d h1 h2 t1 t2 nn v y tx) (hv : IsBuf news v b) (hz : b.size ≤ 16777216) (h0 : 0 ≤ x) (hi : x + 2 ≤ b.size) :
    CtrV w p loose mean mg mb 12 270 news [.ref tb, .ref 199, .int x t] (fun r => ∃ t, r = .int (numZ b x 2) t) := by
  intro dp un gd cn cs a ccd cl outer A₀ base h₀ L m s Q E B F X N T hk hd hu hret
  w_top on
  refine wpAny_call ?_
  k_dflt cell_enter
  (repeat' (first
    | ((with_reducible show wpAny _ _ (getAttr (Value.ref _) _ _) _ _ _); k_here; (with_reducible rename IsTab _ _ _ _ _ _ _ _ _ _ _ => hT'); (with_reducible rename IsBuf _ _ _ => hV'); k_dflt (refine' get_own ?k1 ?k2 (InstAt.of_news ?kn hT'.obj hT'.dict) ?k4 ?k5 ?k6 ?k7 ?k8 ?k9 ?_; (case k1 => k_asm); (case k2 => k_asm); (case kn => k_asm); (case k4 => k_is); (case k5 => k_is); (case k6 => k_is); (case k7 => k_is); (case k8 => k_get); (case k9 => first | exact hV'.handed | k_handed); k_whole))
    | (k_here; (with_reducible show wpAny _ _ (call (Value.ref 28) [Value.ref 117, _, Value.int _ _]) _ _ _); k_dflt (refine' (enc2_c ?kaV ?kaZ ?kaA ?kaB) _ _ _ _ _ _ _ _ _ _ _ _ _ _ _ _ _ ?kcB ?kcF ?kcX ?kcN ?kcT ?kcK ?kcD ?kcU ?_; (case kcB => k_asm); (case kcF => k_asm); (case kcX => k_asm); (case kcN => k_asm); (case kcT => k_asm); (case kcK => first | exact rfl | assumption); (case kcD => ktr_room); (case kcU => ktr_units); (case kaV => first | assumption | exact IsBuf.cons (by assumption) | exact IsBuf.cons (IsBuf.cons (by assumption)) | exact IsBuf.cons (IsBuf.cons (IsBuf.cons (by assumption))) | exact IsBuf.mono (by assumption) (by intro p hp; simp [hp])); (case kaZ => assumption); (case kaA => first | assumption | omega | decide); (case kaB => first | assumption | omega | decide); (intro r' h' tk' F' N' R'; (try dsimp only); (try k_fold); (try k_sweep); (obtain ⟨t9, e9⟩ := R'; subst e9))))
    | (k_here; (with_reducible show wpAny _ _ (call (Value.ref 207) [Value.int _ _, Value.ref 196]) _ _ _); k_dflt (refine' (enfU_c ?kaA ?kaB) _ _ _ _ _ _ _ _ _ _ _ _ _ _ _ _ _ ?kcB ?kcF ?kcX ?kcN ?kcT ?kcK ?kcD ?kcU ?_; (case kcB => k_asm); (case kcF => k_asm); (case kcX => k_asm); (case kcN => k_asm); (case kcT => k_asm); (case kcK => first | exact rfl | assumption); (case kcD => ktr_room); (case kcU => ktr_units); (case kaA => first | assumption | omega | decide); (case kaB => first | assumption | omega | decide); (intro r' h' tk' F' N' R'; (try dsimp only); (try k_fold); (try k_sweep); (have e9 : r' = _ := R'; subst e9))))
    | ((with_reducible show wpAny _ _ (call (Value.ref _) _ _) _ _ _); k_here; k_dflt (refine wpAny_call ?_; (refine' code_def ?k1 ?k2 ?k3 ?k4 ?k5 ?kA ?kF ?kK ?k6 ?k7 ?k8 ?k9 ?kB ?_ ?c2 ?c3 ?c4 ?c5; (case kA => exact rfl); (case kF => exact rfl); (case kK => first | exact rfl | assumption); (case k1 => k_asm); (case k2 => k_asm); (case k3 => k_asm); (case k4 => k_asm); (case k5 => k_asm); (case k6 => k_is); (case k7 => k_is); (case k8 => ktr_room); (case k9 => first | exact BindsTo.of_eq rfl | exact binds_K (by k_in) rfl (by k_is) rfl rfl rfl); (case c5 => decide); (case kB => exact locs rfl); (case c2 => exact rfl); (case c3 => exact rfl); (case c4 => exact rfl); k_whole; intro g' L' h' FG' F' N' B' X' T'; (try dsimp only); (try k_lift B'); (try k_fold))))
    | (k_unfold; (try dsimp only)) | (k_end; wrow_close) | walk1 | (dsimp only; walk1) | (leave1; walk_say "STEP leave1"; try dsimp only) | fail "no step"))
  all_goals (refine hret _ _ _ (by assumption) (cb_drop (by assumption) (by intro p hp; simp [hp])) ?_)
  all_goals first | exact ⟨_, rfl⟩ | rfl
end

end Mine

end
/-! text Ctr4 -/
section
open PySem PySem.W PyProof.Rows PySem.Calls
set_option Elab.async false
set_option maxRecDepth 100000
set_option maxHeartbeats 8000000
namespace Mine

def wd (k : Nat) : Int := [1, 1, 2, 4, 8, 1, 2, 4, 8].getD k 0
def flA (k : Nat) : Addr := [166, 169, 172, 175, 178, 181, 184, 187, 190].getD k 0
def i32 (b : Array UInt8) (x : Int) : Int := if numZ b x 4 ≥ 2147483648 then numZ b x 4 - 4294967296 else numZ b x 4
/-- the field of kind k at x (but for kind 0, a truth) -/
def fieldZ (b : Array UInt8) (x : Int) : Nat → Int
  | 5 => if numZ b x 1 ≥ 128 then numZ b x 1 - 256 else numZ b x 1
  | 6 => if numZ b x 2 ≥ 32768 then numZ b x 2 - 65536 else numZ b x 2
  | 7 => i32 b x
  | 8 => if numZ b x 8 ≥ 9223372036854775808 then numZ b x 8 - 18446744073709551616 else numZ b x 8
  | k => numZ b x (wd k)
def IsField (b : Array UInt8) (x : Int) (k : Nat) (r : Value) : Prop := if k = 0 then r = .bool (numZ b x 1 != 0) else ∃ t, r = .int (fieldZ b x k) t
/-- the default of kind k -/
def dfl (k : Nat) : Int := [0, 7, 700, 70000, 7, -7, -700, -70000, 0].getD k 0
def IsDfl (k : Nat) (r : Value) : Prop := if k = 0 then r = .bool false else ∃ t, r = .int (dfl k) t
def offZ (b : Array UInt8) (y slot : Int) : Int := if slot < numZ b (y - i32 b y) 2 then numZ b (y - i32 b y + slot) 2 else 0
theorem lt9 {k : Nat} (hk : k < 9) : k = 0 ∨ k = 1 ∨ k = 2 ∨ k = 3 ∨ k = 4 ∨ k = 5 ∨ k = 6 ∨ k = 7 ∨ k = 8 := by omega
theorem wd_pos {k : Nat} (hk : k < 9) : 1 ≤ wd k ∧ wd k ≤ 8 := by
  rcases lt9 hk with rfl | rfl | rfl | rfl | rfl | rfl | rfl | rfl | rfl <;> decide
theorem fillIt4 : (PySem.Challenge.rw_jm0001_01 = PySem.Challenge.rw_jm0001_01 ∧ hd.heap_1 = hd.heap_1) → True := by
  k_fill
  intro _
  trivial



section
variable {w : World} {p : Program} {loose : List Str} {mean : ExcName → Option Value} {mg mb : Str → Option Value} {news : List (Addr × Obj)}

theorem CtrV.mono {d d' : Nat} {f : Addr} {vs : List Value} {R R' : Value → Prop} (h : CtrV w p loose mean mg mb d f news vs R) (hR : ∀ r, R r → R' r) (hd : d ≤ d' := by decide) : CtrV w p loose mean mg mb d' f news vs R' :=
  fun dp un gd cn cs a ccd cl outer A₀ base h₀ L m s Q E B F X N T hk hd hu hret => h dp un gd cn cs a ccd cl outer A₀ base h₀ L m s Q E B F X N T hk (by omega) (by omega) fun r h' tk' F' N' hr => hret r h' tk' F' N' (hR r hr)
theorem get_c {k : Nat} (hk : k < 9) {tb d : Addr} {h1 h2 : Int} {t1 t2 tx t : Tok} {nn : Nat} {v : Value} {b : Array UInt8} {y x : Int} (hT : IsTab news tb d h1 h2 t1 t2 nn v y tx) (hv : IsBuf news v b) (hz : b.size ≤ 16777216) (h0 : 0 ≤ x) (hi : x + wd k ≤ b.size) :
    CtrV w p loose mean mg mb 12 270 news [.ref tb, .ref (flA k), .int x t] (IsField b x k) := by
  rcases lt9 hk with rfl | rfl | rfl | rfl | rfl | rfl | rfl | rfl | rfl
  · exact (get0_c hT hv hz h0 hi).mono fun r e => e
  · exact (get1_c hT hv hz h0 hi).mono fun r e => e
  · exact (get2_c hT hv hz h0 hi).mono fun r e => e
  · exact (get3_c hT hv hz h0 hi).mono fun r e => e
  · exact (get4_c hT hv hz h0 hi).mono fun r e => e
  · exact (get5_c hT hv hz h0 hi).mono fun r e => e
  · exact (get6_c hT hv hz h0 hi).mono fun r e => e
  · exact (get7_c hT hv hz h0 hi).mono fun r e => e
  · exact (get8_c hT hv hz h0 hi).mono fun r e => e
theorem getS_c {tb d : Addr} {h1 h2 : Int} {t1 t2 tx t : Tok} {nn : Nat} {v : Value} {b : Array UInt8} {y x : Int} (hT : IsTab news tb d h1 h2 t1 t2 nn v y tx) (hv : IsBuf news v b) (hz : b.size ≤ 16777216) (h0 : 0 ≤ x) (hi : x + 4 ≤ b.size) :
    CtrV w p loose mean mg mb 12 270 news [.ref tb, .ref 193, .int x t] (fun r => ∃ t, r = .int (i32 b x) t) := (get9_c hT hv hz h0 hi).mono fun r e => e
end



section
variable {w : World} {p : Program} {loose : List Str} {mean : ExcName → Option Value} {mg mb : Str → Option Value} {news : List (Addr × Obj)}

theorem off_c {tb d : Addr} {h1 h2 : Int} {t1 t2 tx t : Tok} {nn : Nat} {v : Value} {b : Array UInt8} {y : Int} {slot : Int} (hT : IsTab news tb d h1 h2 t1 t2 nn v y tx) (hv : IsBuf news v b) (hz : b.size ≤ 16777216) (hB : 0 ≤ y) (hA : y + 4 ≤ b.size) (h0 : 0 ≤ y - i32 b y) (h1' : y - i32 b y + 2 ≤ b.size) (hs0 : 0 ≤ slot) (h2' : slot < numZ b (y - i32 b y) 2 → y - i32 b y + slot + 2 ≤ b.size) :
    CtrV w p loose mean mg mb 16 228 news [.ref tb, .int slot t] (fun r => ∃ t, r = .int (offZ b y slot) t) := by
  intro dp un gd cn cs a ccd cl outer A₀ base h₀ L m s Q E B F X N T hk hd hu hret
  w_top on
  refine wpAny_call ?_
  k_dflt cell_enter
  (repeat' (first
    | (k_here; (with_reducible show wpAny _ _ (call (Value.ref 270) [Value.ref _, Value.ref 199, Value.int _ _]) _ _ _); k_dflt (refine' (get11_c ?kaT ?kaV ?kaZ ?kaA ?kaB) _ _ _ _ _ _ _ _ _ _ _ _ _ _ _ _ _ ?kcB ?kcF ?kcX ?kcN ?kcT ?kcK ?kcD ?kcU ?_; (case kcB => k_asm); (case kcF => k_asm); (case kcX => k_asm); (case kcN => k_asm); (case kcT => k_asm); (case kcK => first | exact rfl | assumption); (case kcD => ktr_room); (case kcU => ktr_units); (case kaT => assumption); (case kaV => assumption); (case kaZ => assumption); (case kaA => first | assumption | omega | decide); (case kaB => first | assumption | omega | decide); (intro r' h' tk' F' N' R'; (try dsimp only); (try k_fold); (try k_sweep); (obtain ⟨t9, e9⟩ := R'; subst e9))))
    | (k_here; (with_reducible show wpAny _ _ (call (Value.ref 270) [Value.ref _, Value.ref 193, Value.int _ _]) _ _ _); k_dflt (refine' (getS_c ?kaT ?kaV ?kaZ ?kaA ?kaB) _ _ _ _ _ _ _ _ _ _ _ _ _ _ _ _ _ ?kcB ?kcF ?kcX ?kcN ?kcT ?kcK ?kcD ?kcU ?_; (case kcB => k_asm); (case kcF => k_asm); (case kcX => k_asm); (case kcN => k_asm); (case kcT => k_asm); (case kcK => first | exact rfl | assumption); (case kcD => ktr_room); (case kcU => ktr_units); (case kaT => assumption); (case kaV => assumption); (case kaZ => assumption); (case kaA => first | assumption | omega | decide); (case kaB => first | assumption | omega | decide); (intro r' h' tk' F' N' R'; (try dsimp only); (try k_fold); (try k_sweep); (obtain ⟨t9, e9⟩ := R'; subst e9))))
    | ((with_reducible show wpAny _ _ (getMethod (Value.ref _) _ _) _ _ _); k_here; (with_reducible rename IsTab _ _ _ _ _ _ _ _ _ _ _ => hT'); k_dflt (refine' method_inst ?k1 ?k2 (InstAt.of_news ?kn hT'.obj hT'.dict) ?k4 ?k5 ?k6 ?k7 ?_; (case k1 => k_asm); (case k2 => k_asm); (case kn => k_asm); (case k4 => k_is); (case k5 => k_is); (case k6 => k_is); (case k7 => k_get); k_whole))
    | ((with_reducible show wpAny _ _ (getAttr (Value.ref _) _ _) _ _ _); k_here; (with_reducible rename IsTab _ _ _ _ _ _ _ _ _ _ _ => hT'); (with_reducible rename IsBuf _ _ _ => hV'); k_dflt (refine' get_own ?k1 ?k2 (InstAt.of_news ?kn hT'.obj hT'.dict) ?k4 ?k5 ?k6 ?k7 ?k8 ?k9 ?_; (case k1 => k_asm); (case k2 => k_asm); (case kn => k_asm); (case k4 => k_is); (case k5 => k_is); (case k6 => k_is); (case k7 => k_is); (case k8 => k_get); (case k9 => first | exact hV'.handed | k_handed); k_whole))
    | (k_unfold; (try dsimp only)) | (k_end; wrow_close) | walk1 | (dsimp only; walk1) | (leave1; walk_say "STEP leave1"; try dsimp only) | fail "no step"))
  all_goals (refine hret _ _ _ (by assumption) (cb_drop (by assumption) (by intro p hp; simp [hp])) ?_)
  all_goals (refine ⟨_, congrArg (fun z => Value.int z _) ?_⟩; unfold offZ; first | rw [if_pos (by omega)] | rw [if_neg (by omega)])
end

section
variable {w : World} {p : Program} {loose : List Str} {mean : ExcName → Option Value} {mg mb : Str → Option Value} {news : List (Addr × Obj)}

theorem voff_c {tb d : Addr} {h1 h2 : Int} {t1 t2 tx t : Tok} {nn : Nat} {v : Value} {b : Array UInt8} {y : Int} {slot dd : Int} {td : Tok} (hT : IsTab news tb d h1 h2 t1 t2 nn v y tx) (hv : IsBuf news v b) (hz : b.size ≤ 16777216) (hB : 0 ≤ y) (hA : y + 4 ≤ b.size) (h0 : 0 ≤ y - i32 b y) (h1' : y - i32 b y + 2 ≤ b.size) (hs0 : 0 ≤ slot) (h2' : slot < numZ b (y - i32 b y) 2 → y - i32 b y + slot + 2 ≤ b.size) (hs1 : slot ≤ 65535) (hd0 : 0 ≤ dd) (hd1 : dd ≤ 65535) :
    CtrV w p loose mean mg mb 20 284 news [.ref tb, .int slot t, .int dd td] (fun r => ∃ t, r = .int (if offZ b y slot = 0 then dd else offZ b y slot) t) := by
  intro dp un gd cn cs a ccd cl outer A₀ base h₀ L m s Q E B F X N T hk hd hu hret
  w_top on
  refine wpAny_call ?_
  k_dflt cell_enter
  (repeat' (first
    | (k_here; (with_reducible show wpAny _ _ (call (Value.ref 228) [Value.ref _, Value.int _ _]) _ _ _); k_dflt (refine' (off_c ?kaT ?kaV ?kaZ ?kaA ?kaB ?kaC ?kaD ?kaE ?kaF) _ _ _ _ _ _ _ _ _ _ _ _ _ _ _ _ _ ?kcB ?kcF ?kcX ?kcN ?kcT ?kcK ?kcD ?kcU ?_; (case kcB => k_asm); (case kcF => k_asm); (case kcX => k_asm); (case kcN => k_asm); (case kcT => k_asm); (case kcK => first | exact rfl | assumption); (case kcD => ktr_room); (case kcU => ktr_units); (case kaT => assumption); (case kaV => assumption); (case kaZ => assumption); (case kaA => first | assumption | omega | decide); (case kaB => first | assumption | omega | decide); (case kaC => first | assumption | omega | decide); (case kaD => first | assumption | omega | decide); (case kaE => first | assumption | omega | decide); (case kaF => assumption); (intro r' h' tk' F' N' R'; (try dsimp only); (try k_fold); (try k_sweep); (obtain ⟨t9, e9⟩ := R'; subst e9))))
    | ((with_reducible show wpAny _ _ (getMethod (Value.ref _) _ _) _ _ _); k_here; (with_reducible rename IsTab _ _ _ _ _ _ _ _ _ _ _ => hT'); k_dflt (refine' method_inst ?k1 ?k2 (InstAt.of_news ?kn hT'.obj hT'.dict) ?k4 ?k5 ?k6 ?k7 ?_; (case k1 => k_asm); (case k2 => k_asm); (case kn => k_asm); (case k4 => k_is); (case k5 => k_is); (case k6 => k_is); (case k7 => k_get); k_whole))
    | (k_here; (with_reducible show wpAny _ _ (call (Value.ref 207) [Value.int _ _, Value.ref 199]) _ _ _); k_dflt (refine' (enfV_c ?kaA ?kaB) _ _ _ _ _ _ _ _ _ _ _ _ _ _ _ _ _ ?kcB ?kcF ?kcX ?kcN ?kcT ?kcK ?kcD ?kcU ?_; (case kcB => k_asm); (case kcF => k_asm); (case kcX => k_asm); (case kcN => k_asm); (case kcT => k_asm); (case kcK => first | exact rfl | assumption); (case kcD => ktr_room); (case kcU => ktr_units); (case kaA => first | assumption | omega | decide); (case kaB => first | assumption | omega | decide); (intro r' h' tk' F' N' R'; (try dsimp only); (try k_fold); (try k_sweep); (have e9 : r' = _ := R'; subst e9))))
    | (k_unfold; (try dsimp only)) | (k_end; wrow_close) | walk1 | (dsimp only; walk1) | (leave1; walk_say "STEP leave1"; try dsimp only) | fail "no step"))
  all_goals (refine hret _ _ _ (by assumption) (cb_drop (by assumption) (by intro p hp; simp [hp])) ?_)
  all_goals (refine ⟨_, congrArg (fun z => Value.int z _) ?_⟩; first | rw [if_pos (by omega)] | rw [if_neg (by omega)])
end

end Mine

end
/-! text Ctr5 -/
section
open PySem PySem.W PyProof.Rows PySem.Calls
set_option Elab.async false
set_option maxRecDepth 100000
set_option maxHeartbeats 8000000
namespace Mine
theorem fillIt5 : (PySem.Challenge.rw_jm0001_01 = PySem.Challenge.rw_jm0001_01 ∧ hd.heap_1 = hd.heap_1) → True := by
  k_fill
  intro _
  trivial

section
variable {w : World} {p : Program} {loose : List Str} {mean : ExcName → Option Value} {mg mb : Str → Option Value} {news : List (Addr × Obj)}

theorem enfD0_c {t : Tok} : CtrV w p loose mean mg mb 4 207 news [Value.bool false, .ref 166] (fun r => r = .none) := by
  intro dp un gd cn cs a ccd cl outer A₀ base h₀ L m s Q E B F X N T hk hd hu hret
  w_top on
  refine wpAny_call ?_
  k_dflt cell_enter
  k_steps
  all_goals (refine hret _ _ _ (by assumption) (cb_drop (by assumption) (by intro p hp; simp [hp])) ?_)
  all_goals rfl

theorem enfD1_c {t : Tok} : CtrV w p loose mean mg mb 4 207 news [.int 7 t, .ref 169] (fun r => r = .none) := by
  intro dp un gd cn cs a ccd cl outer A₀ base h₀ L m s Q E B F X N T hk hd hu hret
  w_top on
  refine wpAny_call ?_
  k_dflt cell_enter
  k_steps
  all_goals (refine hret _ _ _ (by assumption) (cb_drop (by assumption) (by intro p hp; simp [hp])) ?_)
  all_goals rfl

theorem enfD2_c {t : Tok} : CtrV w p loose mean mg mb 4 207 news [.int 700 t, .ref 172] (fun r => r = .none) := by
  intro dp un gd cn cs a ccd cl outer A₀ base h₀ L m s Q E B F X N T hk hd hu hret
  w_top on
  refine wpAny_call ?_
  k_dflt cell_enter
  k_steps
  all_goals (refine hret _ _ _ (by assumption) (cb_drop (by assumption) (by intro p hp; simp [hp])) ?_)
  all_goals rfl

theorem enfD3_c {t : Tok} : CtrV w p loose mean mg mb 4 207 news [.int 70000 t, .ref 175] (fun r => r = .none) := by
  intro dp un gd cn cs a ccd cl outer A₀ base h₀ L m s Q E B F X N T hk hd hu hret
  w_top on
  refine wpAny_call ?_
  k_dflt cell_enter
  k_steps
  all_goals (refine hret _ _ _ (by assumption) (cb_drop (by assumption) (by intro p hp; simp [hp])) ?_)
  all_goals rfl

theorem enfD4_c {t : Tok} : CtrV w p loose mean mg mb 4 207 news [.int 7 t, .ref 178] (fun r => r = .none) := by
  intro dp un gd cn cs a ccd cl outer A₀ base h₀ L m s Q E B F X N T hk hd hu hret
  w_top on
  refine wpAny_call ?_
  k_dflt cell_enter
  k_steps
  all_goals (refine hret _ _ _ (by assumption) (cb_drop (by assumption) (by intro p hp; simp [hp])) ?_)
  all_goals rfl

theorem enfD5_c {t : Tok} : CtrV w p loose mean mg mb 4 207 news [.int (-7) t, .ref 181] (fun r => r = .none) := by
  intro dp un gd cn cs a ccd cl outer A₀ base h₀ L m s Q E B F X N T hk hd hu hret
  w_top on
  refine wpAny_call ?_
  k_dflt cell_enter
  k_steps
  all_goals (refine hret _ _ _ (by assumption) (cb_drop (by assumption) (by intro p hp; simp [hp])) ?_)
  all_goals rfl

theorem enfD6_c {t : Tok} : CtrV w p loose mean mg mb 4 207 news [.int (-700) t, .ref 184] (fun r => r = .none) := by
  intro dp un gd cn cs a ccd cl outer A₀ base h₀ L m s Q E B F X N T hk hd hu hret
  w_top on
  refine wpAny_call ?_
  k_dflt cell_enter
  k_steps
  all_goals (refine hret _ _ _ (by assumption) (cb_drop (by assumption) (by intro p hp; simp [hp])) ?_)
  all_goals rfl

theorem enfD7_c {t : Tok} : CtrV w p loose mean mg mb 4 207 news [.int (-70000) t, .ref 187] (fun r => r = .none) := by
  intro dp un gd cn cs a ccd cl outer A₀ base h₀ L m s Q E B F X N T hk hd hu hret
  w_top on
  refine wpAny_call ?_
  k_dflt cell_enter
  k_steps
  all_goals (refine hret _ _ _ (by assumption) (cb_drop (by assumption) (by intro p hp; simp [hp])) ?_)
  all_goals rfl

theorem enfD8_c {t : Tok} : CtrV w p loose mean mg mb 4 207 news [.int 0 t, .ref 190] (fun r => r = .none) := by
  intro dp un gd cn cs a ccd cl outer A₀ base h₀ L m s Q E B F X N T hk hd hu hret
  w_top on
  refine wpAny_call ?_
  k_dflt cell_enter
  k_steps
  all_goals (refine hret _ _ _ (by assumption) (cb_drop (by assumption) (by intro p hp; simp [hp])) ?_)
  all_goals rfl

theorem enfD_c {k : Nat} {dv : Value} (hk : k < 9) (hD : IsDfl k dv) : CtrV w p loose mean mg mb 4 207 news [dv, .ref (flA k)] (fun r => r = .none) := by
  rcases lt9 hk with rfl | rfl | rfl | rfl | rfl | rfl | rfl | rfl | rfl
  · obtain rfl : dv = .bool false := hD
    exact enfD0_c (t := 0)
  · obtain ⟨t, rfl⟩ : ∃ t, dv = .int (dfl 1) t := hD
    exact enfD1_c
  · obtain ⟨t, rfl⟩ : ∃ t, dv = .int (dfl 2) t := hD
    exact enfD2_c
  · obtain ⟨t, rfl⟩ : ∃ t, dv = .int (dfl 3) t := hD
    exact enfD3_c
  · obtain ⟨t, rfl⟩ : ∃ t, dv = .int (dfl 4) t := hD
    exact enfD4_c
  · obtain ⟨t, rfl⟩ : ∃ t, dv = .int (dfl 5) t := hD
    exact enfD5_c
  · obtain ⟨t, rfl⟩ : ∃ t, dv = .int (dfl 6) t := hD
    exact enfD6_c
  · obtain ⟨t, rfl⟩ : ∃ t, dv = .int (dfl 7) t := hD
    exact enfD7_c
  · obtain ⟨t, rfl⟩ : ∃ t, dv = .int (dfl 8) t := hD
    exact enfD8_c
end


section
variable {w : World} {p : Program} {loose : List Str} {mean : ExcName → Option Value} {mg mb : Str → Option Value} {news : List (Addr × Obj)}

theorem slot_c {tb d : Addr} {h1 h2 : Int} {t1 t2 tx t : Tok} {nn : Nat} {v : Value} {b : Array UInt8} {y : Int} {slot : Int} {k : Nat} {dv : Value} (hk9 : k < 9) (hD : IsDfl k dv) (hT : IsTab news tb d h1 h2 t1 t2 nn v y tx) (hv : IsBuf news v b) (hz : b.size ≤ 16777216) (hB : 0 ≤ y) (hA : y + 4 ≤ b.size) (h0 : 0 ≤ y - i32 b y) (h1' : y - i32 b y + 2 ≤ b.size) (hs0 : 0 ≤ slot) (h2' : slot < numZ b (y - i32 b y) 2 → y - i32 b y + slot + 2 ≤ b.size) (hs1 : slot ≤ 65535) (h3' : offZ b y slot ≠ 0 → 0 ≤ y + offZ b y slot ∧ y + offZ b y slot + wd k ≤ b.size) :
    CtrV w p loose mean mg mb 20 277 news [.ref tb, .int slot t, dv, .ref (flA k)] (fun r => (offZ b y slot = 0 ∧ r = dv) ∨ (offZ b y slot ≠ 0 ∧ IsField b (y + offZ b y slot) k r)) := by
  intro dp un gd cn cs a ccd cl outer A₀ base h₀ L m s Q E B F X N T hk hd hu hret
  w_top on
  refine wpAny_call ?_
  k_dflt cell_enter
  (repeat' (first
    | (k_here; (with_reducible show wpAny _ _ (call (Value.ref 270) [Value.ref _, Value.ref (flA _), Value.int _ _]) _ _ _); k_dflt (refine' (get_c ?kaK ?kaT ?kaV ?kaZ ?kaA ?kaB) _ _ _ _ _ _ _ _ _ _ _ _ _ _ _ _ _ ?kcB ?kcF ?kcX ?kcN ?kcT ?kcK ?kcD ?kcU ?_; (case kcB => k_asm); (case kcF => k_asm); (case kcX => k_asm); (case kcN => k_asm); (case kcT => k_asm); (case kcK => first | exact rfl | assumption); (case kcD => ktr_room); (case kcU => ktr_units); (case kaK => assumption); (case kaT => assumption); (case kaV => assumption); (case kaZ => assumption); (case kaA => first | assumption | omega | decide); (case kaB => first | assumption | omega | decide); (intro r' h' tk' F' N' R'; (try dsimp only); (try k_fold); (try k_sweep); skip)))
    | (k_here; (with_reducible show wpAny _ _ (call (Value.ref 207) [_, Value.ref (flA _)]) _ _ _); k_dflt (refine' (enfD_c ?kaK ?kaD) _ _ _ _ _ _ _ _ _ _ _ _ _ _ _ _ _ ?kcB ?kcF ?kcX ?kcN ?kcT ?kcK ?kcD ?kcU ?_; (case kcB => k_asm); (case kcF => k_asm); (case kcX => k_asm); (case kcN => k_asm); (case kcT => k_asm); (case kcK => first | exact rfl | assumption); (case kcD => ktr_room); (case kcU => ktr_units); (case kaK => assumption); (case kaD => assumption); (intro r' h' tk' F' N' R'; (try dsimp only); (try k_fold); (try k_sweep); (have e9 : r' = _ := R'; subst e9))))
    | (k_here; (with_reducible show wpAny _ _ (call (Value.ref 228) [Value.ref _, Value.int _ _]) _ _ _); k_dflt (refine' (off_c ?kaT ?kaV ?kaZ ?kaA ?kaB ?kaC ?kaD ?kaE ?kaF) _ _ _ _ _ _ _ _ _ _ _ _ _ _ _ _ _ ?kcB ?kcF ?kcX ?kcN ?kcT ?kcK ?kcD ?kcU ?_; (case kcB => k_asm); (case kcF => k_asm); (case kcX => k_asm); (case kcN => k_asm); (case kcT => k_asm); (case kcK => first | exact rfl | assumption); (case kcD => ktr_room); (case kcU => ktr_units); (case kaT => assumption); (case kaV => assumption); (case kaZ => assumption); (case kaA => first | assumption | omega | decide); (case kaB => first | assumption | omega | decide); (case kaC => first | assumption | omega | decide); (case kaD => first | assumption | omega | decide); (case kaE => first | assumption | omega | decide); (case kaF => assumption); (intro r' h' tk' F' N' R'; (try dsimp only); (try k_fold); (try k_sweep); (obtain ⟨t9, e9⟩ := R'; subst e9))))
    | (k_here; (with_reducible show wpAny _ _ (call (Value.ref 207) [Value.int _ _, Value.ref 199]) _ _ _); k_dflt (refine' (enfV_c ?kaA ?kaB) _ _ _ _ _ _ _ _ _ _ _ _ _ _ _ _ _ ?kcB ?kcF ?kcX ?kcN ?kcT ?kcK ?kcD ?kcU ?_; (case kcB => k_asm); (case kcF => k_asm); (case kcX => k_asm); (case kcN => k_asm); (case kcT => k_asm); (case kcK => first | exact rfl | assumption); (case kcD => ktr_room); (case kcU => ktr_units); (case kaA => first | assumption | omega | decide); (case kaB => first | assumption | omega | decide); (intro r' h' tk' F' N' R'; (try dsimp only); (try k_fold); (try k_sweep); (have e9 : r' = _ := R'; subst e9))))
    | ((with_reducible show wpAny _ _ (getMethod (Value.ref _) _ _) _ _ _); k_here; (with_reducible rename IsTab _ _ _ _ _ _ _ _ _ _ _ => hT'); k_dflt (refine' method_inst ?k1 ?k2 (InstAt.of_news ?kn hT'.obj hT'.dict) ?k4 ?k5 ?k6 ?k7 ?_; (case k1 => k_asm); (case k2 => k_asm); (case kn => k_asm); (case k4 => k_is); (case k5 => k_is); (case k6 => k_is); (case k7 => k_get); k_whole))
    | ((with_reducible show wpAny _ _ (getAttr (Value.ref _) _ _) _ _ _); k_here; (with_reducible rename IsTab _ _ _ _ _ _ _ _ _ _ _ => hT'); (with_reducible rename IsBuf _ _ _ => hV'); k_dflt (refine' get_own ?k1 ?k2 (InstAt.of_news ?kn hT'.obj hT'.dict) ?k4 ?k5 ?k6 ?k7 ?k8 ?k9 ?_; (case k1 => k_asm); (case k2 => k_asm); (case kn => k_asm); (case k4 => k_is); (case k5 => k_is); (case k6 => k_is); (case k7 => k_is); (case k8 => k_get); (case k9 => first | exact hV'.handed | k_handed); k_whole))
    | (k_unfold; (try dsimp only)) | (k_end; wrow_close) | walk1 | (dsimp only; walk1) | (leave1; walk_say "STEP leave1"; try dsimp only) | fail "no step"))
  all_goals (refine hret _ _ _ (by assumption) (cb_drop (by assumption) (by intro p hp; simp [hp])) ?_)
  all_goals first | exact .inl ⟨by first | assumption | omega, rfl⟩ | exact .inr ⟨by first | assumption | omega, by assumption⟩
end

end Mine

end
/-! text Ctr6 -/
section
open PySem PySem.W PyProof.Rows PySem.Calls
set_option Elab.async false
set_option maxRecDepth 100000
set_option maxHeartbeats 8000000
namespace Mine
theorem fillIt6 : (PySem.Challenge.rw_jm0001_01 = PySem.Challenge.rw_jm0001_01 ∧ hd.heap_1 = hd.heap_1) → True := by
  k_fill
  intro _
  trivial




section
variable {w : World} {p : Program} {loose : List Str} {mean : ExcName → Option Value} {mg mb : Str → Option Value} {news : List (Addr × Obj)}

theorem ind_c {tb d : Addr} {h1 h2 : Int} {t1 t2 tx t : Tok} {nn : Nat} {v : Value} {b : Array UInt8} {y : Int} {x : Int} (hT : IsTab news tb d h1 h2 t1 t2 nn v y tx) (hv : IsBuf news v b) (hz : b.size ≤ 16777216) (h0 : 0 ≤ x) (hi : x + 4 ≤ b.size) :
    CtrV w p loose mean mg mb 16 235 news [.ref tb, .int x t] (fun r => ∃ t, r = .int (x + numZ b x 4) t) := by
  intro dp un gd cn cs a ccd cl outer A₀ base h₀ L m s Q E B F X N T hk hd hu hret
  rcases s with ⟨sh, sg, sd, sk, so⟩
  dsimp only at F N hret ⊢
  w_top on
  refine wpAny_call ?_
  k_dflt cell_enter
  (repeat' (first
    | ((with_reducible show wpAny _ _ _ _ _ (Shared.mk _ (Shared.gens _) _ _ _)); dsimp only)
    | (k_here; (with_reducible show wpAny _ _ (call (Value.ref 28) [Value.ref 120, _, Value.int _ _]) _ _ _); k_dflt (refine' (enc3_c ?kaV ?kaZ ?kaA ?kaB) _ _ _ _ _ _ _ _ _ _ _ _ _ _ _ _ _ ?kcB ?kcF ?kcX ?kcN ?kcT ?kcK ?kcD ?kcU ?_; (case kcB => k_asm); (case kcF => k_asm); (case kcX => k_asm); (case kcN => k_asm); (case kcT => k_asm); (case kcK => first | exact rfl | assumption); (case kcD => ktr_room); (case kcU => ktr_units); (case kaV => first | assumption | exact IsBuf.cons (by assumption) | exact IsBuf.cons (IsBuf.cons (by assumption)) | exact IsBuf.cons (IsBuf.cons (IsBuf.cons (by assumption))) | exact IsBuf.mono (by assumption) (by intro p hp; simp [hp])); (case kaZ => assumption); (case kaA => first | assumption | omega | decide); (case kaB => first | assumption | omega | decide); (intro r' h' tk' F' N' R'; (try dsimp only); (try k_fold); (try k_sweep); (obtain ⟨t9, e9⟩ := R'; subst e9))))
    | (k_here; (with_reducible show wpAny _ _ (call (Value.ref 207) [Value.int _ _, Value.ref 196]) _ _ _); k_dflt (refine' (enfU_c ?kaA ?kaB) _ _ _ _ _ _ _ _ _ _ _ _ _ _ _ _ _ ?kcB ?kcF ?kcX ?kcN ?kcT ?kcK ?kcD ?kcU ?_; (case kcB => k_asm); (case kcF => k_asm); (case kcX => k_asm); (case kcN => k_asm); (case kcT => k_asm); (case kcK => first | exact rfl | assumption); (case kcD => ktr_room); (case kcU => ktr_units); (case kaA => first | assumption | omega | decide); (case kaB => first | assumption | omega | decide); (intro r' h' tk' F' N' R'; (try dsimp only); (try k_fold); (try k_sweep); (have e9 : r' = _ := R'; subst e9))))
    | ((with_reducible show wpAny _ _ (getAttr (Value.ref _) _ _) _ _ _); k_here; (with_reducible rename IsTab _ _ _ _ _ _ _ _ _ _ _ => hT'); (with_reducible rename IsBuf _ _ _ => hV'); k_dflt (refine' get_own ?k1 ?k2 (InstAt.of_news ?kn hT'.obj hT'.dict) ?k4 ?k5 ?k6 ?k7 ?k8 ?k9 ?_; (case k1 => k_asm); (case k2 => k_asm); (case kn => k_asm); (case k4 => k_is); (case k5 => k_is); (case k6 => k_is); (case k7 => k_is); (case k8 => k_get); (case k9 => first | exact hV'.handed | k_handed); k_whole))
    | (k_unfold; (try dsimp only)) | (k_end; wrow_close) | walk1 | (dsimp only; walk1) | (leave1; walk_say "STEP leave1"; try dsimp only) | fail "no step"))
  all_goals (refine hret _ _ _ (by assumption) (cb_drop (by assumption) (by intro p hp; simp [hp])) ?_)
  all_goals first | exact ⟨_, rfl⟩

theorem str_c {tb d : Addr} {h1 h2 : Int} {t1 t2 tx t : Tok} {nn : Nat} {v : Value} {b : Array UInt8} {y : Int} {x : Int} (hT : IsTab news tb d h1 h2 t1 t2 nn v y tx) (hv : IsBuf news v b) (hz : b.size ≤ 16777216) (h0 : 0 ≤ x) (hi : x + 4 ≤ b.size) (h0' : 0 ≤ x + numZ b x 4) (hi' : x + numZ b x 4 + 4 ≤ b.size) (h0'' : 0 ≤ numZ b (x + numZ b x 4) 4) :
    CtrV w p loose mean mg mb 16 242 news [.ref tb, .int x t] (fun r => ∃ t, r = .bytes (cutB b (x + numZ b x 4 + 4).toNat (numZ b (x + numZ b x 4) 4).toNat) t) := by
  intro dp un gd cn cs a ccd cl outer A₀ base h₀ L m s Q E B F X N T hk hd hu hret
  rcases s with ⟨sh, sg, sd, sk, so⟩
  dsimp only at F N hret ⊢
  w_top on
  refine wpAny_call ?_
  k_dflt cell_enter
  (repeat' (first
    | ((with_reducible show wpAny _ _ _ _ _ (Shared.mk _ (Shared.gens _) _ _ _)); dsimp only)
    | (k_here; (with_reducible show wpAny _ _ (call (Value.ref 28) [Value.ref 120, _, Value.int _ _]) _ _ _); k_dflt (refine' (enc3_c ?kaV ?kaZ ?kaA ?kaB) _ _ _ _ _ _ _ _ _ _ _ _ _ _ _ _ _ ?kcB ?kcF ?kcX ?kcN ?kcT ?kcK ?kcD ?kcU ?_; (case kcB => k_asm); (case kcF => k_asm); (case kcX => k_asm); (case kcN => k_asm); (case kcT => k_asm); (case kcK => first | exact rfl | assumption); (case kcD => ktr_room); (case kcU => ktr_units); (case kaV => first | assumption | exact IsBuf.cons (by assumption) | exact IsBuf.cons (IsBuf.cons (by assumption)) | exact IsBuf.cons (IsBuf.cons (IsBuf.cons (by assumption))) | exact IsBuf.mono (by assumption) (by intro p hp; simp [hp])); (case kaZ => assumption); (case kaA => first | assumption | omega | decide); (case kaB => first | assumption | omega | decide); (intro r' h' tk' F' N' R'; (try dsimp only); (try k_fold); (try k_sweep); (obtain ⟨t9, e9⟩ := R'; subst e9))))
    | (k_here; (with_reducible show wpAny _ _ (call (Value.ref 207) [Value.int _ _, Value.ref 196]) _ _ _); k_dflt (refine' (enfU_c ?kaA ?kaB) _ _ _ _ _ _ _ _ _ _ _ _ _ _ _ _ _ ?kcB ?kcF ?kcX ?kcN ?kcT ?kcK ?kcD ?kcU ?_; (case kcB => k_asm); (case kcF => k_asm); (case kcX => k_asm); (case kcN => k_asm); (case kcT => k_asm); (case kcK => first | exact rfl | assumption); (case kcD => ktr_room); (case kcU => ktr_units); (case kaA => first | assumption | omega | decide); (case kaB => first | assumption | omega | decide); (intro r' h' tk' F' N' R'; (try dsimp only); (try k_fold); (try k_sweep); (have e9 : r' = _ := R'; subst e9))))
    | ((with_reducible show wpAny _ _ (getAttr (Value.ref _) _ _) _ _ _); k_here; (with_reducible rename IsTab _ _ _ _ _ _ _ _ _ _ _ => hT'); (with_reducible rename IsBuf _ _ _ => hV'); k_dflt (refine' get_own ?k1 ?k2 (InstAt.of_news ?kn hT'.obj hT'.dict) ?k4 ?k5 ?k6 ?k7 ?k8 ?k9 ?_; (case k1 => k_asm); (case k2 => k_asm); (case kn => k_asm); (case k4 => k_is); (case k5 => k_is); (case k6 => k_is); (case k7 => k_is); (case k8 => k_get); (case k9 => first | exact hV'.handed | k_handed); k_whole))
    | (k_here; (with_reducible show wpAny _ _ (call (Value.type "bytes") [_]) _ _ _); k_dflt (refine' bytes_buf ?kbN ?kbV ?kbZ ?_; (case kbN => k_asm); (case kbV => first | assumption | exact IsBuf.cons (by assumption) | exact IsBuf.cons (IsBuf.cons (by assumption)) | exact IsBuf.cons (IsBuf.cons (IsBuf.cons (by assumption))) | exact IsBuf.mono (by assumption) (by intro p hp; simp [hp])); (case kbZ => first | assumption | (rw [cut_size]; omega))); intro t' k')
    | (k_here; (with_reducible show wpAny _ _ (subscriptTail _ (Expr.Slice _ _ none _) _ (Value.ref _)) _ _ _); (with_reducible rename Fr _ _ _ _ => F'); (with_reducible rename News _ _ _ _ => N'); (refine' slice_bufI (s := ⟨_, _, _, _, _⟩) F' N' ?kbV ?kbZ ?kbA ?kbB ?kbI ?kbJ ?_); (case kbV => first | assumption | exact IsBuf.cons (by assumption) | exact IsBuf.cons (IsBuf.cons (by assumption)) | exact IsBuf.cons (IsBuf.cons (IsBuf.cons (by assumption))) | exact IsBuf.mono (by assumption) (by intro p hp; simp [hp])); (case kbZ => assumption); (case kbJ => exact rfl); (case kbA => first | assumption | omega | decide); (case kbB => first | assumption | omega | decide); (case kbI => first | assumption | omega | decide); intro v' tl' h' k' F' N' V'; (try k_sweep))
    | (k_unfold; (try dsimp only)) | (k_end; wrow_close) | walk1 | (dsimp only; walk1) | (leave1; walk_say "STEP leave1"; try dsimp only) | fail "no step"))
  all_goals (refine hret _ _ _ (by assumption) (cb_drop (by assumption) (by intro p hp; simp [hp])) ?_)
  all_goals first | exact ⟨_, rfl⟩

theorem vlen_c {tb d : Addr} {h1 h2 : Int} {t1 t2 tx t : Tok} {nn : Nat} {v : Value} {b : Array UInt8} {y : Int} {x : Int} (hT : IsTab news tb d h1 h2 t1 t2 nn v y tx) (hv : IsBuf news v b) (hz : b.size ≤ 16777216) (hx0 : 0 ≤ x) (hx1 : x ≤ 4294967295) (h0 : 0 ≤ x + y) (hi : x + y + 4 ≤ b.size) (h0' : 0 ≤ x + y + numZ b (x + y) 4) (hi' : x + y + numZ b (x + y) 4 + 4 ≤ b.size) :
    CtrV w p loose mean mg mb 16 249 news [.ref tb, .int x t] (fun r => ∃ t, r = .int (numZ b (x + y + numZ b (x + y) 4) 4) t) := by
  intro dp un gd cn cs a ccd cl outer A₀ base h₀ L m s Q E B F X N T hk hd hu hret
  rcases s with ⟨sh, sg, sd, sk, so⟩
  dsimp only at F N hret ⊢
  w_top on
  refine wpAny_call ?_
  k_dflt cell_enter
  (repeat' (first
    | ((with_reducible show wpAny _ _ _ _ _ (Shared.mk _ (Shared.gens _) _ _ _)); dsimp only)
    | (k_here; (with_reducible show wpAny _ _ (call (Value.ref 28) [Value.ref 120, _, Value.int _ _]) _ _ _); k_dflt (refine' (enc3_c ?kaV ?kaZ ?kaA ?kaB) _ _ _ _ _ _ _ _ _ _ _ _ _ _ _ _ _ ?kcB ?kcF ?kcX ?kcN ?kcT ?kcK ?kcD ?kcU ?_; (case kcB => k_asm); (case kcF => k_asm); (case kcX => k_asm); (case kcN => k_asm); (case kcT => k_asm); (case kcK => first | exact rfl | assumption); (case kcD => ktr_room); (case kcU => ktr_units); (case kaV => first | assumption | exact IsBuf.cons (by assumption) | exact IsBuf.cons (IsBuf.cons (by assumption)) | exact IsBuf.cons (IsBuf.cons (IsBuf.cons (by assumption))) | exact IsBuf.mono (by assumption) (by intro p hp; simp [hp])); (case kaZ => assumption); (case kaA => first | assumption | omega | decide); (case kaB => first | assumption | omega | decide); (intro r' h' tk' F' N' R'; (try dsimp only); (try k_fold); (try k_sweep); (obtain ⟨t9, e9⟩ := R'; subst e9))))
    | (k_here; (with_reducible show wpAny _ _ (call (Value.ref 207) [Value.int _ _, Value.ref 196]) _ _ _); k_dflt (refine' (enfU_c ?kaA ?kaB) _ _ _ _ _ _ _ _ _ _ _ _ _ _ _ _ _ ?kcB ?kcF ?kcX ?kcN ?kcT ?kcK ?kcD ?kcU ?_; (case kcB => k_asm); (case kcF => k_asm); (case kcX => k_asm); (case kcN => k_asm); (case kcT => k_asm); (case kcK => first | exact rfl | assumption); (case kcD => ktr_room); (case kcU => ktr_units); (case kaA => first | assumption | omega | decide); (case kaB => first | assumption | omega | decide); (intro r' h' tk' F' N' R'; (try dsimp only); (try k_fold); (try k_sweep); (have e9 : r' = _ := R'; subst e9))))
    | ((with_reducible show wpAny _ _ (getAttr (Value.ref _) _ _) _ _ _); k_here; (with_reducible rename IsTab _ _ _ _ _ _ _ _ _ _ _ => hT'); (with_reducible rename IsBuf _ _ _ => hV'); k_dflt (refine' get_own ?k1 ?k2 (InstAt.of_news ?kn hT'.obj hT'.dict) ?k4 ?k5 ?k6 ?k7 ?k8 ?k9 ?_; (case k1 => k_asm); (case k2 => k_asm); (case kn => k_asm); (case k4 => k_is); (case k5 => k_is); (case k6 => k_is); (case k7 => k_is); (case k8 => k_get); (case k9 => first | exact hV'.handed | k_handed); k_whole))
    | (k_unfold; (try dsimp only)) | (k_end; wrow_close) | walk1 | (dsimp only; walk1) | (leave1; walk_say "STEP leave1"; try dsimp only) | fail "no step"))
  all_goals (refine hret _ _ _ (by assumption) (cb_drop (by assumption) (by intro p hp; simp [hp])) ?_)
  all_goals first | exact ⟨_, rfl⟩

theorem vec_c {tb d : Addr} {h1 h2 : Int} {t1 t2 tx t : Tok} {nn : Nat} {v : Value} {b : Array UInt8} {y : Int} {x : Int} (hT : IsTab news tb d h1 h2 t1 t2 nn v y tx) (hv : IsBuf news v b) (hz : b.size ≤ 16777216) (hx0 : 0 ≤ x) (hx1 : x ≤ 4294967295) (h0 : 0 ≤ x + y) (hi : x + y + 4 ≤ b.size) :
    CtrV w p loose mean mg mb 16 256 news [.ref tb, .int x t] (fun r => ∃ t, r = .int (x + y + numZ b (x + y) 4 + 4) t) := by
  intro dp un gd cn cs a ccd cl outer A₀ base h₀ L m s Q E B F X N T hk hd hu hret
  rcases s with ⟨sh, sg, sd, sk, so⟩
  dsimp only at F N hret ⊢
  w_top on
  refine wpAny_call ?_
  k_dflt cell_enter
  (repeat' (first
    | ((with_reducible show wpAny _ _ _ _ _ (Shared.mk _ (Shared.gens _) _ _ _)); dsimp only)
    | (k_here; (with_reducible show wpAny _ _ (call (Value.ref 270) [Value.ref _, Value.ref 196, Value.int _ _]) _ _ _); k_dflt (refine' (get10_c ?kaT ?kaV ?kaZ ?kaA ?kaB) _ _ _ _ _ _ _ _ _ _ _ _ _ _ _ _ _ ?kcB ?kcF ?kcX ?kcN ?kcT ?kcK ?kcD ?kcU ?_; (case kcB => k_asm); (case kcF => k_asm); (case kcX => k_asm); (case kcN => k_asm); (case kcT => k_asm); (case kcK => first | exact rfl | assumption); (case kcD => ktr_room); (case kcU => ktr_units); (case kaT => assumption); (case kaV => assumption); (case kaZ => assumption); (case kaA => first | assumption | omega | decide); (case kaB => first | assumption | omega | decide); (intro r' h' tk' F' N' R'; (try dsimp only); (try k_fold); (try k_sweep); (obtain ⟨t9, e9⟩ := R'; subst e9))))
    | (k_here; (with_reducible show wpAny _ _ (call (Value.ref 207) [Value.int _ _, Value.ref 196]) _ _ _); k_dflt (refine' (enfU_c ?kaA ?kaB) _ _ _ _ _ _ _ _ _ _ _ _ _ _ _ _ _ ?kcB ?kcF ?kcX ?kcN ?kcT ?kcK ?kcD ?kcU ?_; (case kcB => k_asm); (case kcF => k_asm); (case kcX => k_asm); (case kcN => k_asm); (case kcT => k_asm); (case kcK => first | exact rfl | assumption); (case kcD => ktr_room); (case kcU => ktr_units); (case kaA => first | assumption | omega | decide); (case kaB => first | assumption | omega | decide); (intro r' h' tk' F' N' R'; (try dsimp only); (try k_fold); (try k_sweep); (have e9 : r' = _ := R'; subst e9))))
    | ((with_reducible show wpAny _ _ (getMethod (Value.ref _) _ _) _ _ _); k_here; (with_reducible rename IsTab _ _ _ _ _ _ _ _ _ _ _ => hT'); k_dflt (refine' method_inst ?k1 ?k2 (InstAt.of_news ?kn hT'.obj hT'.dict) ?k4 ?k5 ?k6 ?k7 ?_; (case k1 => k_asm); (case k2 => k_asm); (case kn => k_asm); (case k4 => k_is); (case k5 => k_is); (case k6 => k_is); (case k7 => k_get); k_whole))
    | ((with_reducible show wpAny _ _ (getAttr (Value.ref _) _ _) _ _ _); k_here; (with_reducible rename IsTab _ _ _ _ _ _ _ _ _ _ _ => hT'); (with_reducible rename IsBuf _ _ _ => hV'); k_dflt (refine' get_own ?k1 ?k2 (InstAt.of_news ?kn hT'.obj hT'.dict) ?k4 ?k5 ?k6 ?k7 ?k8 ?k9 ?_; (case k1 => k_asm); (case k2 => k_asm); (case kn => k_asm); (case k4 => k_is); (case k5 => k_is); (case k6 => k_is); (case k7 => k_is); (case k8 => k_get); (case k9 => first | exact hV'.handed | k_handed); k_whole))
    | (k_unfold; (try dsimp only)) | (k_end; wrow_close) | walk1 | (dsimp only; walk1) | (leave1; walk_say "STEP leave1"; try dsimp only) | fail "no step"))
  all_goals (refine hret _ _ _ (by assumption) (cb_drop (by assumption) (by intro p hp; simp [hp])) ?_)
  all_goals first | exact ⟨_, rfl⟩
end

end Mine

end
/-! text Ctr7 -/
section
open PySem PySem.W PyProof.Rows PySem.Calls
set_option Elab.async false
set_option maxRecDepth 100000
set_option maxHeartbeats 8000000
namespace Mine

abbrev CtrN (w : World) (p : Program) (loose : List Str) (mean : ExcName → Option Value) (mg mb : Str → Option Value) (d : Nat) (f : Addr) (news : List (Addr × Obj)) (vs : List Value) (R : Value → List (Addr × Obj) → Prop) : Prop :=
  ∀ (dp un : Nat) (gd : Option (List Code)) (cn : Str) (cs : Scope) (a : Addr) (ccd : Value) (cl : List (Str × Addr)) (outer : List Env) (A₀ : Around) (base h₀ : Heap) (L : Addr) (m : Str → Option Value) (s : Shared) (Q E : Value → Shared → Prop),
    Below A₀ base outer h₀ → Fr h₀ L s.heap m → (hd.heap_1 w.params).In h₀ → News h₀ L s.heap news → Top p loose mean mg mb h₀ → cs.kind = .function → dp + d < recursionLimit → un + 10 * d < cLine →
    (∀ (r : Value) (tl : List (Addr × Obj)) (h' : Heap) (tk' : Nat), Fr h₀ L h' m → News h₀ L h' (tl ++ news) → R r tl → Q r { s with heap := h', toks := tk' }) →
    wpAny (model PySem.Challenge.rw_jm0001_01.row.prog w) (ktrTop dp un gd cn cs L a ccd cl outer) (call (.ref f) vs) Q E s

section
variable {prog : Program} {w : World} {A : Around} {E : Value → Shared → Prop} {s : Shared} {value slice : PySem.Expr} {a : Addr} {kk : Int} {u : Tok} {Q : Value → Shared → Prop}
theorem int9 {kk : Int} (h0 : 0 ≤ kk) (h9 : kk < 9) : kk = 0 ∨ kk = 1 ∨ kk = 2 ∨ kk = 3 ∨ kk = 4 ∨ kk = 5 ∨ kk = 6 ∨ kk = 7 ∨ kk = 8 := by omega
theorem item_fl (hl : s.heap.IsList a [Value.ref 166, Value.ref 169, Value.ref 172, Value.ref 175, Value.ref 178, Value.ref 181, Value.ref 184, Value.ref 187, Value.ref 190].toArray) (h0 : 0 ≤ kk) (h9 : kk < 9) (h : Q (.ref (flA kk.toNat)) s)
    (hs : subscripted slice false (.ref a) (.int kk u) = operate [.ref a, .int kk u] (getItem (.ref a) (.int kk u)) := by with_unfolding_all rfl) (hg : ∀ r, letTemporaryGo value (.ref a) r = pure () := by intro _; with_unfolding_all rfl) :
    wpAny (model prog w) A (subscriptTail value slice (.ref a) (.int kk u)) Q E s := by
  refine item_listL hl h0 (by omega) (x := .ref (flA kk.toNat)) ?_ h hs hg
  rcases int9 h0 h9 with rfl | rfl | rfl | rfl | rfl | rfl | rfl | rfl | rfl <;> rfl
theorem item_wd {a1 a2 a3 a4 a5 a6 a7 a8 a9 : Tok} (hl : s.heap.IsList a [Value.int 1 a1, Value.int 1 a2, Value.int 2 a3, Value.int 4 a4, Value.int 8 a5, Value.int 1 a6, Value.int 2 a7, Value.int 4 a8, Value.int 8 a9].toArray) (h0 : 0 ≤ kk) (h9 : kk < 9) (h : ∀ t, Q (.int (wd kk.toNat) t) s)
    (hs : subscripted slice false (.ref a) (.int kk u) = operate [.ref a, .int kk u] (getItem (.ref a) (.int kk u)) := by with_unfolding_all rfl) (hg : ∀ r, letTemporaryGo value (.ref a) r = pure () := by intro _; with_unfolding_all rfl) :
    wpAny (model prog w) A (subscriptTail value slice (.ref a) (.int kk u)) Q E s := by
  rcases int9 h0 h9 with rfl | rfl | rfl | rfl | rfl | rfl | rfl | rfl | rfl <;> exact item_listL hl h0 (by omega) rfl (h _) hs hg
end

section
variable {b : Array UInt8} {x kk : Int} {t : Tok}
theorem field_end0 (hk0 : 0 ≤ kk) (h : kk = 0) : IsField b x kk.toNat (.bool (numZ b x (wd kk.toNat) != 0)) := by subst h; rfl
theorem field_end1 (hk0 : 0 ≤ kk) (hk9 : kk < 9) (h : 4 < kk) (hn : 2 ^ (8 * wd kk.toNat - 1).toNat ≤ numZ b x (wd kk.toNat)) : IsField b x kk.toNat (.int (numZ b x (wd kk.toNat) - 2 ^ (8 * wd kk.toNat).toNat) t) := by
  rcases int9 hk0 hk9 with rfl | rfl | rfl | rfl | rfl | rfl | rfl | rfl | rfl
  all_goals first
    | omega
    | (refine ⟨t, congrArg (fun z => Value.int z t) ?_⟩; simp only [fieldZ, i32]; exact (if_pos hn).symm)
theorem field_end2 (hk0 : 0 ≤ kk) (h0 : kk ≠ 0) (hk9 : kk < 9) (h : ¬ 4 < kk) : IsField b x kk.toNat (.int (numZ b x (wd kk.toNat)) t) := by
  rcases int9 hk0 hk9 with rfl | rfl | rfl | rfl | rfl | rfl | rfl | rfl | rfl
  all_goals first
    | omega
    | exact ⟨t, rfl⟩
theorem field_end3 (hk0 : 0 ≤ kk) (hk9 : kk < 9) (h : 4 < kk) (hn : ¬ 2 ^ (8 * wd kk.toNat - 1).toNat ≤ numZ b x (wd kk.toNat)) : IsField b x kk.toNat (.int (numZ b x (wd kk.toNat)) t) := by
  rcases int9 hk0 hk9 with rfl | rfl | rfl | rfl | rfl | rfl | rfl | rfl | rfl
  all_goals first
    | omega
    | (refine ⟨t, congrArg (fun z => Value.int z t) ?_⟩; simp only [fieldZ, i32]; exact (if_neg hn).symm)
end
theorem fillIt7 : (PySem.Challenge.rw_jm0001_01 = PySem.Challenge.rw_jm0001_01 ∧ hd.heap_1 = hd.heap_1) → True := by
  k_fill
  intro _
  trivial


section
variable {w : World} {p : Program} {loose : List Str} {mean : ExcName → Option Value} {mg mb : Str → Option Value} {news : List (Addr × Obj)}

theorem flags_c {kk : Int} {t : Tok} (h0 : 0 ≤ kk) (h9 : kk < 9) : CtrV w p loose mean mg mb 4 305 news [.int kk t] (fun r => r = .ref (flA kk.toNat)) := by
  intro dp un gd cn cs a ccd cl outer A₀ base h₀ L m s Q E B F X N T hk hd hu hret
  rcases s with ⟨sh, sg, sd, sk, so⟩
  dsimp only at F N hret ⊢
  w_top on
  refine wpAny_call ?_
  k_dflt cell_enter
  (repeat' (first
    | ((with_reducible show wpAny _ _ _ _ _ (Shared.mk _ (Shared.gens _) _ _ _)); dsimp only)
    | (k_here; (with_reducible show wpAny _ _ (subscriptTail _ _ (Value.ref _) (Value.int _ _)) _ _ _); k_dflt (refine' item_fl (News.isList ?kbN ?kbM) ?kbA ?kbB ?_; (case kbN => k_asm); (case kbM => k_mem); (case kbA => first | assumption | omega | decide); (case kbB => first | assumption | omega | decide)); (try intro t'))
    | ((with_reducible show wpAny _ _ (execs (_ :: _) _) _ _ _); k_here; (fail_if_success k_made); (with_reducible refine wpAny_execs_cons ?_); (try dsimp only))
    | (k_unfold; (try dsimp only)) | (k_end; wrow_close) | walk1 | (dsimp only; walk1) | (leave1; walk_say "STEP leave1"; try dsimp only) | fail "no step"))
  all_goals (refine hret _ _ _ (by assumption) (cb_drop (by assumption) (by intro p hp; simp [hp])) ?_)
  all_goals rfl

theorem widths_c : CtrN w p loose mean mg mb 4 298 news [] (fun r tl => ∃ l a1 a2 a3 a4 a5 a6 a7 a8 a9, r = .ref l ∧ tl = [(l, listOf #[Value.int 1 a1, Value.int 1 a2, Value.int 2 a3, Value.int 4 a4, Value.int 8 a5, Value.int 1 a6, Value.int 2 a7, Value.int 4 a8, Value.int 8 a9] 0)]) := by
  intro dp un gd cn cs a ccd cl outer A₀ base h₀ L m s Q E B F X N T hk hd hu hret
  rcases s with ⟨sh, sg, sd, sk, so⟩
  dsimp only at F N hret ⊢
  w_top on
  refine wpAny_call ?_
  k_dflt cell_enter
  (repeat' (first
    | ((with_reducible show wpAny _ _ _ _ _ (Shared.mk _ (Shared.gens _) _ _ _)); dsimp only)
    | ((with_reducible show wpAny _ _ (execs (_ :: _) _) _ _ _); k_here; (fail_if_success k_made); (with_reducible refine wpAny_execs_cons ?_); (try dsimp only))
    | (k_unfold; (try dsimp only)) | (k_end; wrow_close) | walk1 | (dsimp only; walk1) | (leave1; walk_say "STEP leave1"; try dsimp only) | fail "no step"))
  all_goals exact hret _ _ _ _ (by assumption) (by assumption) ⟨_, _, _, _, _, _, _, _, _, _, rfl, rfl⟩
end

section
variable {w : World} {p : Program} {loose : List Str} {mean : ExcName → Option Value} {mg mb : Str → Option Value} {news : List (Addr × Obj)}

theorem field_c {v : Value} {b : Array UInt8} {x kk : Int} {t u : Tok} (hk0 : 0 ≤ kk) (hk9 : kk < 9) (hv : IsBuf news v b) (hz : b.size ≤ 16777216) (h0 : 0 ≤ x) (hi : x + wd kk.toNat ≤ b.size) :
    CtrV w p loose mean mg mb 10 319 news [v, .int x t, .int kk u] (IsField b x kk.toNat) := by
  have hw1 := (wd_pos (k := kk.toNat) (by omega)).1
  have hw2 := (wd_pos (k := kk.toNat) (by omega)).2
  have hw3 := hw1
  have hw4 := hw2
  have hw5 := hi
  unfold wd at hw3 hw4 hw5
  intro dp un gd cn cs a ccd cl outer A₀ base h₀ L m s Q E B F X N T hk hd hu hret
  rcases s with ⟨sh, sg, sd, sk, so⟩
  dsimp only at F N hret ⊢
  w_top on
  refine wpAny_call ?_
  k_dflt cell_enter
  (repeat' (first
    | ((with_reducible show wpAny _ _ _ _ _ (Shared.mk _ (Shared.gens _) _ _ _)); dsimp only)
    | ((with_reducible show wpAny _ _ (binaryOp Operator.Pow (Value.int _ _) (Value.int _ _)) _ _ _); k_here; (with_reducible refine pow_int_small (by omega) (by omega) (by decide) ?_))
    | (k_here; (with_reducible show wpAny _ _ (call (Value.ref 312) [_, Value.int _ _, Value.int _ _]) _ _ _); k_dflt (refine' (number_c ?kaV ?kaZ ?kaA ?kaB ?kaC ?kaD) _ _ _ _ _ _ _ _ _ _ _ _ _ _ _ _ _ ?kcB ?kcF ?kcX ?kcN ?kcT ?kcK ?kcD ?kcU ?_; (case kcB => k_asm); (case kcF => k_asm); (case kcX => k_asm); (case kcN => k_asm); (case kcT => k_asm); (case kcK => first | exact rfl | assumption); (case kcD => ktr_room); (case kcU => first | ktr_units | ((simp only [units_under_make, units_in1, units_deeper] at *); ktr_units)); (case kaV => first | assumption | exact IsBuf.cons (by assumption) | exact IsBuf.cons (IsBuf.cons (by assumption)) | exact IsBuf.cons (IsBuf.cons (IsBuf.cons (by assumption))) | exact IsBuf.mono (by assumption) (by intro p hp; simp [hp])); (case kaZ => assumption); (case kaA => first | assumption | omega | decide); (case kaB => first | assumption | omega | decide); (case kaC => first | assumption | omega | decide); (case kaD => first | assumption | omega | decide); (intro r' h' tk' F' N' R'; (try dsimp only); (try k_fold); (try k_sweep); (obtain ⟨t9, e9⟩ := R'; subst e9))))
    | ((with_reducible show wpAny _ _ (execs (_ :: _) _) _ _ _); k_here; (fail_if_success k_made); (with_reducible refine wpAny_execs_cons ?_); (try dsimp only))
    | ((with_reducible show wpAny _ _ (execs [] _) _ _ _); k_here; (fail_if_success k_made); (with_reducible refine wpAny_execs_nil ?_); (try dsimp only))
    | ((with_reducible show wpAny _ _ (call (Value.ref _) _ _) _ _ _); k_here; k_dflt (refine wpAny_call ?_; (refine' code_def ?k1 ?k2 ?k3 ?k4 ?k5 ?kA ?kF ?kK ?k6 ?k7 ?k8 ?k9 ?kB ?_ ?c2 ?c3 ?c4 ?c5; (case kA => exact rfl); (case kF => exact rfl); (case kK => first | exact rfl | assumption); (case k1 => k_asm); (case k2 => k_asm); (case k3 => k_asm); (case k4 => k_asm); (case k5 => k_asm); (case k6 => k_is); (case k7 => k_is); (case k8 => ktr_room); (case k9 => first | exact BindsTo.of_eq rfl | exact binds_K (by k_in) rfl (by k_is) rfl rfl rfl); (case c5 => decide); (case kB => exact locs rfl); (case c2 => exact rfl); (case c3 => exact rfl); (case c4 => exact rfl); k_whole; intro g' L' h' FG' F' N' B' X' T'; (try dsimp only); (try k_lift B'); (try k_fold))))
    | (k_unfold; (try dsimp only)) | (k_end; wrow_close) | walk1 | (dsimp only; walk1) | (leave1; walk_say "STEP leave1"; try dsimp only) | fail "no step"))
  all_goals (refine hret _ _ _ (by assumption) (cb_drop (by assumption) (by intro p hp; simp [hp])) ?_)
  all_goals first | exact field_end0 hk0 (by omega) | exact field_end1 hk0 hk9 (by omega) (by assumption) | exact field_end3 hk0 hk9 (by omega) (by assumption) | exact field_end2 hk0 (by omega) hk9 (by omega)
end

end Mine

end
/-! text Ctr8 -/
section
open PySem PySem.W PyProof.Rows PySem.Calls
set_option Elab.async false
set_option maxRecDepth 100000
set_option maxHeartbeats 8000000
namespace Mine

theorem IsTab.cons {news : List (Addr × Obj)} {tb d : Addr} {h1 h2 : Int} {t1 t2 : Tok} {n : Nat} {v : Value} {x : Int} {tx : Tok} {p : Addr × Obj} (h : IsTab news tb d h1 h2 t1 t2 n v x tx) : IsTab (p :: news) tb d h1 h2 t1 t2 n v x tx := ⟨.tail _ h.obj, .tail _ h.dict⟩
theorem fillIt8 : (PySem.Challenge.rw_jm0001_01 = PySem.Challenge.rw_jm0001_01 ∧ hd.heap_1 = hd.heap_1) → True := by
  k_fill
  intro _
  trivial




section
variable {w : World} {p : Program} {loose : List Str} {mean : ExcName → Option Value} {mg mb : Str → Option Value} {news : List (Addr × Obj)}

theorem offs_c {tb d : Addr} {h1 h2 : Int} {t1 t2 tx t : Tok} {nn : Nat} {v : Value} {b : Array UInt8} {y : Int} {x : Int} {u : Tok} (hT : IsTab news tb d h1 h2 t1 t2 nn v y tx) (hv : IsBuf news v b) (hz : b.size ≤ 16777216) (hy0 : 0 ≤ y) (hyx : y ≤ x) (hx4 : x + 4 ≤ b.size) (hs4 : x + numZ b x 4 + 4 ≤ b.size) (hse : x + numZ b x 4 + 4 + numZ b (x + numZ b x 4) 4 ≤ b.size) :
    CtrV w p loose mean mg mb 22 354 news [.ref tb, v, .int x u] (fun r => r = .bool true) := by
  have hq0 := numZ_nonneg b x 4
  have hq1 := numZ_nonneg b (x + numZ b x 4) 4
  have e1 : x - y + y = x := by omega
  have e2 : numZ b (x - y + y) 4 = numZ b x 4 := by rw [e1]
  have e3 : x + numZ b x 4 + 4 - 4 = x + numZ b x 4 := by omega
  have e4 : numZ b (x + numZ b x 4 + 4 - 4) 4 = numZ b (x + numZ b x 4) 4 := by rw [e3]
  have e5 : numZ b (x - y + y + numZ b (x - y + y) 4) 4 = numZ b (x + numZ b x 4) 4 := by rw [e2, e1]
  intro dp un gd cn cs a ccd cl outer A₀ base h₀ L m s Q E B F X N T hk hd hu hret
  rcases s with ⟨sh, sg, sd, sk, so⟩
  dsimp only at F N hret ⊢
  w_top on
  refine wpAny_call ?_
  k_dflt cell_enter
  (repeat' (first
    | ((with_reducible show wpAny _ _ _ _ _ (Shared.mk _ (Shared.gens _) _ _ _)); dsimp only)
    | (k_here; (with_reducible show wpAny _ _ (call (Value.ref 256) [Value.ref _, Value.int _ _]) _ _ _); k_dflt (refine' (vec_c ?kaT ?kaV ?kaZ ?kaA ?kaB ?kaC ?kaD) _ _ _ _ _ _ _ _ _ _ _ _ _ _ _ _ _ ?kcB ?kcF ?kcX ?kcN ?kcT ?kcK ?kcD ?kcU ?_; (case kcB => k_asm); (case kcF => k_asm); (case kcX => k_asm); (case kcN => k_asm); (case kcT => k_asm); (case kcK => first | exact rfl | assumption); (case kcD => ktr_room); (case kcU => ktr_units); (case kaT => first | assumption | exact IsTab.cons (by assumption) | exact IsTab.cons (IsTab.cons (by assumption))); (case kaV => first | assumption | exact IsBuf.cons (by assumption) | exact IsBuf.cons (IsBuf.cons (by assumption)) | exact IsBuf.cons (IsBuf.cons (IsBuf.cons (by assumption))) | exact IsBuf.mono (by assumption) (by intro p hp; simp [hp])); (case kaZ => assumption); (case kaA => first | assumption | omega | decide); (case kaB => first | assumption | omega | decide); (case kaC => first | assumption | omega | decide); (case kaD => first | assumption | omega | decide); (intro r' h' tk' F' N' R'; (try dsimp only); (try k_fold); (try k_sweep); (obtain ⟨t9, e9⟩ := R'; subst e9))))
    | (k_here; (with_reducible show wpAny _ _ (call (Value.ref 249) [Value.ref _, Value.int _ _]) _ _ _); k_dflt (refine' (vlen_c ?kaT ?kaV ?kaZ ?kaA ?kaB ?kaC ?kaD ?kaE ?kaG) _ _ _ _ _ _ _ _ _ _ _ _ _ _ _ _ _ ?kcB ?kcF ?kcX ?kcN ?kcT ?kcK ?kcD ?kcU ?_; (case kcB => k_asm); (case kcF => k_asm); (case kcX => k_asm); (case kcN => k_asm); (case kcT => k_asm); (case kcK => first | exact rfl | assumption); (case kcD => ktr_room); (case kcU => ktr_units); (case kaT => first | assumption | exact IsTab.cons (by assumption) | exact IsTab.cons (IsTab.cons (by assumption))); (case kaV => first | assumption | exact IsBuf.cons (by assumption) | exact IsBuf.cons (IsBuf.cons (by assumption)) | exact IsBuf.cons (IsBuf.cons (IsBuf.cons (by assumption))) | exact IsBuf.mono (by assumption) (by intro p hp; simp [hp])); (case kaZ => assumption); (case kaA => first | assumption | omega | decide); (case kaB => first | assumption | omega | decide); (case kaC => first | assumption | omega | decide); (case kaD => first | assumption | omega | decide); (case kaE => first | assumption | omega | decide); (case kaG => first | assumption | omega | decide); (intro r' h' tk' F' N' R'; (try dsimp only); (try k_fold); (try k_sweep); (obtain ⟨t9, e9⟩ := R'; subst e9))))
    | (k_here; (with_reducible show wpAny _ _ (call (Value.ref 242) [Value.ref _, Value.int _ _]) _ _ _); k_dflt (refine' (str_c ?kaT ?kaV ?kaZ ?kaA ?kaB ?kaC ?kaD ?kaE) _ _ _ _ _ _ _ _ _ _ _ _ _ _ _ _ _ ?kcB ?kcF ?kcX ?kcN ?kcT ?kcK ?kcD ?kcU ?_; (case kcB => k_asm); (case kcF => k_asm); (case kcX => k_asm); (case kcN => k_asm); (case kcT => k_asm); (case kcK => first | exact rfl | assumption); (case kcD => ktr_room); (case kcU => ktr_units); (case kaT => first | assumption | exact IsTab.cons (by assumption) | exact IsTab.cons (IsTab.cons (by assumption))); (case kaV => first | assumption | exact IsBuf.cons (by assumption) | exact IsBuf.cons (IsBuf.cons (by assumption)) | exact IsBuf.cons (IsBuf.cons (IsBuf.cons (by assumption))) | exact IsBuf.mono (by assumption) (by intro p hp; simp [hp])); (case kaZ => assumption); (case kaA => first | assumption | omega | decide); (case kaB => first | assumption | omega | decide); (case kaC => first | assumption | omega | decide); (case kaD => first | assumption | omega | decide); (case kaE => first | assumption | omega | decide); (intro r' h' tk' F' N' R'; (try dsimp only); (try k_fold); (try k_sweep); (obtain ⟨t9, e9⟩ := R'; subst e9))))
    | (k_here; (with_reducible show wpAny _ _ (call (Value.ref 235) [Value.ref _, Value.int _ _]) _ _ _); k_dflt (refine' (ind_c ?kaT ?kaV ?kaZ ?kaA ?kaB) _ _ _ _ _ _ _ _ _ _ _ _ _ _ _ _ _ ?kcB ?kcF ?kcX ?kcN ?kcT ?kcK ?kcD ?kcU ?_; (case kcB => k_asm); (case kcF => k_asm); (case kcX => k_asm); (case kcN => k_asm); (case kcT => k_asm); (case kcK => first | exact rfl | assumption); (case kcD => ktr_room); (case kcU => ktr_units); (case kaT => first | assumption | exact IsTab.cons (by assumption) | exact IsTab.cons (IsTab.cons (by assumption))); (case kaV => first | assumption | exact IsBuf.cons (by assumption) | exact IsBuf.cons (IsBuf.cons (by assumption)) | exact IsBuf.cons (IsBuf.cons (IsBuf.cons (by assumption))) | exact IsBuf.mono (by assumption) (by intro p hp; simp [hp])); (case kaZ => assumption); (case kaA => first | assumption | omega | decide); (case kaB => first | assumption | omega | decide); (intro r' h' tk' F' N' R'; (try dsimp only); (try k_fold); (try k_sweep); (obtain ⟨t9, e9⟩ := R'; subst e9))))
    | (k_here; (with_reducible show wpAny _ _ (call (Value.ref 312) [_, Value.int _ _, Value.int _ _]) _ _ _); k_dflt (refine' (number_c ?kaV ?kaZ ?kaA ?kaB ?kaC ?kaD) _ _ _ _ _ _ _ _ _ _ _ _ _ _ _ _ _ ?kcB ?kcF ?kcX ?kcN ?kcT ?kcK ?kcD ?kcU ?_; (case kcB => k_asm); (case kcF => k_asm); (case kcX => k_asm); (case kcN => k_asm); (case kcT => k_asm); (case kcK => first | exact rfl | assumption); (case kcD => ktr_room); (case kcU => ktr_units); (case kaV => first | assumption | exact IsBuf.cons (by assumption) | exact IsBuf.cons (IsBuf.cons (by assumption)) | exact IsBuf.cons (IsBuf.cons (IsBuf.cons (by assumption))) | exact IsBuf.mono (by assumption) (by intro p hp; simp [hp])); (case kaZ => assumption); (case kaA => first | assumption | omega | decide); (case kaB => first | assumption | omega | decide); (case kaC => first | assumption | omega | decide); (case kaD => first | assumption | omega | decide); (intro r' h' tk' F' N' R'; (try dsimp only); (try k_fold); (try k_sweep); (obtain ⟨t9, e9⟩ := R'; subst e9))))
    | (k_here; (with_reducible show wpAny _ _ (call (Value.ref 270) [Value.ref _, Value.ref 196, Value.int _ _]) _ _ _); k_dflt (refine' (get10_c ?kaT ?kaV ?kaZ ?kaA ?kaB) _ _ _ _ _ _ _ _ _ _ _ _ _ _ _ _ _ ?kcB ?kcF ?kcX ?kcN ?kcT ?kcK ?kcD ?kcU ?_; (case kcB => k_asm); (case kcF => k_asm); (case kcX => k_asm); (case kcN => k_asm); (case kcT => k_asm); (case kcK => first | exact rfl | assumption); (case kcD => ktr_room); (case kcU => ktr_units); (case kaT => first | assumption | exact IsTab.cons (by assumption) | exact IsTab.cons (IsTab.cons (by assumption))); (case kaV => first | assumption | exact IsBuf.cons (by assumption) | exact IsBuf.cons (IsBuf.cons (by assumption)) | exact IsBuf.cons (IsBuf.cons (IsBuf.cons (by assumption))) | exact IsBuf.mono (by assumption) (by intro p hp; simp [hp])); (case kaZ => assumption); (case kaA => first | assumption | omega | decide); (case kaB => first | assumption | omega | decide); (intro r' h' tk' F' N' R'; (try dsimp only); (try k_fold); (try k_sweep); (obtain ⟨t9, e9⟩ := R'; subst e9))))
    | (k_here; (with_reducible show wpAny _ _ (call (Value.ref 207) [Value.int _ _, Value.ref 196]) _ _ _); k_dflt (refine' (enfU_c ?kaA ?kaB) _ _ _ _ _ _ _ _ _ _ _ _ _ _ _ _ _ ?kcB ?kcF ?kcX ?kcN ?kcT ?kcK ?kcD ?kcU ?_; (case kcB => k_asm); (case kcF => k_asm); (case kcX => k_asm); (case kcN => k_asm); (case kcT => k_asm); (case kcK => first | exact rfl | assumption); (case kcD => ktr_room); (case kcU => ktr_units); (case kaA => first | assumption | omega | decide); (case kaB => first | assumption | omega | decide); (intro r' h' tk' F' N' R'; (try dsimp only); (try k_fold); (try k_sweep); (have e9 : r' = _ := R'; subst e9))))
    | ((with_reducible show wpAny _ _ (compareOp CmpOp.NotEq _ _) _ _ _); k_here; k_dflt (refine' ne_buf ?kU ?kN ?kV ?_; (case kU => first | ktr_units | (simp only [deeper_units, under_units]; ktr_units)); (case kN => k_asm); (case kV => first | assumption | exact IsBuf.cons (by assumption) | exact IsBuf.cons (IsBuf.cons (by assumption)) | exact IsBuf.cons (IsBuf.cons (IsBuf.cons (by assumption))) | exact IsBuf.mono (by assumption) (by intro p hp; simp [hp]))))
    | ((with_reducible show wpAny _ _ (getMethod (Value.ref _) _ _) _ _ _); k_here; (with_reducible rename IsTab _ _ _ _ _ _ _ _ _ _ _ => hT'); k_dflt (refine' method_inst ?k1 ?k2 (InstAt.of_news ?kn ?ko ?kd) ?k4 ?k5 ?k6 ?k7 ?_; (case k1 => k_asm); (case k2 => k_asm); (case kn => k_asm); (case ko => first | exact hT'.obj | exact .tail _ (.tail _ hT'.obj)); (case kd => first | exact hT'.dict | exact .tail _ (.tail _ hT'.dict)); (case k4 => k_is); (case k5 => k_is); (case k6 => k_is); (case k7 => k_get); k_whole))
    | ((with_reducible show wpAny _ _ (getAttr (Value.ref _) _ _) _ _ _); k_here; (with_reducible rename IsTab _ _ _ _ _ _ _ _ _ _ _ => hT'); (with_reducible rename IsBuf _ _ _ => hV'); k_dflt (refine' get_own ?k1 ?k2 (InstAt.of_news ?kn ?ko ?kd) ?k4 ?k5 ?k6 ?k7 ?k8 ?k9 ?_; (case k1 => k_asm); (case k2 => k_asm); (case kn => k_asm); (case ko => first | exact hT'.obj | exact .tail _ (.tail _ hT'.obj)); (case kd => first | exact hT'.dict | exact .tail _ (.tail _ hT'.dict)); (case k4 => k_is); (case k5 => k_is); (case k6 => k_is); (case k7 => k_is); (case k8 => k_get); (case k9 => first | exact hV'.handed | k_handed); k_whole))
    | (k_here; (with_reducible show wpAny _ _ (call (Value.type "bytes") [_]) _ _ _); k_dflt (refine' bytes_buf ?kbN ?kbV ?kbZ ?_; (case kbN => k_asm); (case kbV => first | assumption | exact IsBuf.cons (by assumption) | exact IsBuf.cons (IsBuf.cons (by assumption)) | exact IsBuf.cons (IsBuf.cons (IsBuf.cons (by assumption))) | exact IsBuf.mono (by assumption) (by intro p hp; simp [hp])); (case kbZ => first | assumption | (rw [cut_size]; omega))); intro t' k')
    | (k_here; (with_reducible show wpAny _ _ (subscriptTail _ (Expr.Slice _ _ none _) _ (Value.ref _)) _ _ _); (with_reducible rename Fr _ _ _ _ => F'); (with_reducible rename News _ _ _ _ => N'); (refine' slice_bufI (s := ⟨_, _, _, _, _⟩) F' N' ?kbV ?kbZ ?kbA ?kbB ?kbI ?kbJ ?_); (case kbV => first | assumption | exact IsBuf.cons (by assumption) | exact IsBuf.cons (IsBuf.cons (by assumption)) | exact IsBuf.cons (IsBuf.cons (IsBuf.cons (by assumption))) | exact IsBuf.mono (by assumption) (by intro p hp; simp [hp])); (case kbZ => assumption); (case kbJ => exact rfl); (case kbA => first | assumption | omega | decide); (case kbB => first | assumption | omega | decide); (case kbI => first | assumption | omega | decide); intro v' tl' h' k' F' N' V'; (try k_sweep))
    | ((with_reducible show wpAny _ _ (call (Value.ref _) _ _) _ _ _); k_here; k_dflt (refine wpAny_call ?_; (refine' code_def ?k1 ?k2 ?k3 ?k4 ?k5 ?kA ?kF ?kK ?k6 ?k7 ?k8 ?k9 ?kB ?_ ?c2 ?c3 ?c4 ?c5; (case kA => exact rfl); (case kF => exact rfl); (case kK => first | exact rfl | assumption); (case k1 => k_asm); (case k2 => k_asm); (case k3 => k_asm); (case k4 => k_asm); (case k5 => k_asm); (case k6 => k_is); (case k7 => k_is); (case k8 => ktr_room); (case k9 => first | exact BindsTo.of_eq rfl | exact binds_K (by k_in) rfl (by k_is) rfl rfl rfl); (case c5 => decide); (case kB => exact locs rfl); (case c2 => exact rfl); (case c3 => exact rfl); (case c4 => exact rfl); k_whole; intro g' L' h' FG' F' N' B' X' T'; (try dsimp only); (try k_lift B'); (try k_fold))))
    | ((with_reducible show wpAny _ _ (call (Value.ref _) _ _) _ _ _); k_here; k_dflt (refine' call_cls ?k1 ?k2 ?k3 ?k4 ?k5 ?k6 ?_; (case k1 => k_asm); (case k2 => k_asm); (case k3 => k_asm); (case k4 => k_is); (case k5 => k_is); (case k6 => k_is); k_whole; intro x' d' h' F' N' l1 l2; (try k_lt l1); (try k_lt2 l2); (try k_sweep); (refine' code_def ?k1 ?k2 ?k3 ?k4 ?k5 ?kA ?kF ?kK ?k6 ?k7 ?k8 ?k9 ?kB ?_ ?c2 ?c3 ?c4 ?c5; (case kA => exact rfl); (case kF => exact rfl); (case kK => first | exact rfl | assumption); (case k1 => k_asm); (case k2 => k_asm); (case k3 => k_asm); (case k4 => k_asm); (case k5 => k_asm); (case k6 => k_is); (case k7 => k_is); (case k8 => ktr_room); (case k9 => first | exact BindsTo.of_eq rfl | exact binds_K (by k_in) rfl (by k_is) rfl rfl rfl); (case c5 => decide); (case kB => exact locs rfl); (case c2 => exact rfl); (case c3 => exact rfl); (case c4 => exact rfl); k_whole; intro g' L' h' FG' F' N' B' X' T'; (try dsimp only); (try k_lift B'); (try k_fold))))
    | (k_unfold; (try dsimp only)) | (k_end; wrow_close) | walk1 | (dsimp only; walk1) | (leave1; walk_say "STEP leave1"; try dsimp only) | fail "no step"))
  all_goals (refine hret _ _ _ (by assumption) (cb_drop (by assumption) (by intro p hp; simp [hp])) ?_)
  all_goals first
    | exact congrArg Value.bool (beq_iff_eq.mpr (by omega))
    | exact congrArg Value.bool (beq_iff_eq.mpr (by rw [e4]; exact e5))
    | (refine congrArg Value.bool (beq_iff_eq.mpr ?_); rw [e4])
    | (exfalso; omega)
    | (exfalso; simp only [e4, e3, e2, e1, bne_self_eq_false] at *; omega)
    | (exfalso; simp_all; done)
end

end Mine

end
/-! text Ctr9 -/
section
open PySem PySem.W PyProof.Rows PySem.Calls
set_option Elab.async false
set_option maxRecDepth 100000
set_option maxHeartbeats 8000000
namespace Mine

/-- a def that catches: its caller is the law itself -/
abbrev CtrO (w : World) (p : Program) (loose : List Str) (mean : ExcName → Option Value) (mg mb : Str → Option Value) (d : Nat) (f : Addr) (news : List (Addr × Obj)) (vs : List Value) (R : Value → Prop) : Prop :=
  ∀ (dp un : Nat) (gd : Option (List Code)) (cn : Str) (cs : Scope) (a : Addr) (ccd : Value) (A₀ : Around) (base h₀ : Heap) (L : Addr) (m : Str → Option Value) (s : Shared) (Q E : Value → Shared → Prop),
    Below A₀ base [] h₀ → Fr h₀ L s.heap m → (hd.heap_1 w.params).In h₀ → News h₀ L s.heap news → Top p loose mean mg mb h₀ → (hd.heap_1 w.params).In base → Top p loose mean mg mb base → cs.kind = .function → dp + d < recursionLimit → un + 10 * d < cLine →
    (∀ (r : Value) (h' : Heap) (tk' : Nat), Fr h₀ L h' m → News h₀ L h' news → R r → Q r { s with heap := h', toks := tk' }) →
    wpAny (model PySem.Challenge.rw_jm0001_01.row.prog w) (ktrTop dp un gd cn cs L a ccd [] []) (call (.ref f) vs) Q E s
theorem fillIt9 : (PySem.Challenge.rw_jm0001_01 = PySem.Challenge.rw_jm0001_01 ∧ hd.heap_1 = hd.heap_1) → True := by
  k_fill
  intro _
  trivial



section
variable {w : World} {p : Program} {loose : List Str} {mean : ExcName → Option Value} {mg mb : Str → Option Value} {news : List (Addr × Obj)}

theorem lget_c {tb d : Addr} {h1 h2 : Int} {t1 t2 tx t : Tok} {nn : Nat} {v : Value} {b : Array UInt8} {y : Int} {x kk : Int} {u : Tok} (hT : IsTab news tb d h1 h2 t1 t2 nn v y tx) (hv : IsBuf news v b) (hz : b.size ≤ 16777216) (hk0 : 0 ≤ kk) (hk9 : kk < 9) (h0 : 0 ≤ x) (hi : x + wd kk.toNat ≤ b.size) :
    CtrV w p loose mean mg mb 20 333 news [.ref tb, .int kk u, .int x t] (IsField b x kk.toNat) := by
  intro dp un gd cn cs a ccd cl outer A₀ base h₀ L m s Q E B F X N T hk hd hu hret
  rcases s with ⟨sh, sg, sd, sk, so⟩
  dsimp only at F N hret ⊢
  w_top on
  refine wpAny_call ?_
  k_dflt cell_enter
  (repeat' (first
    | ((with_reducible show wpAny _ _ _ _ _ (Shared.mk _ (Shared.gens _) _ _ _)); dsimp only)
    | (k_here; (with_reducible show wpAny _ _ (call (Value.ref 270) [Value.ref _, Value.ref (flA _), Value.int _ _]) _ _ _); k_dflt (refine' (get_c ?kaH ?kaT ?kaV ?kaZ ?kaA ?kaB) _ _ _ _ _ _ _ _ _ _ _ _ _ _ _ _ _ ?kcB ?kcF ?kcX ?kcN ?kcT ?kcK ?kcD ?kcU ?_; (case kcB => k_asm); (case kcF => k_asm); (case kcX => k_asm); (case kcN => k_asm); (case kcT => k_asm); (case kcK => first | exact rfl | assumption); (case kcD => ktr_room); (case kcU => ktr_units); (case kaH => first | assumption | omega | decide); (case kaT => repeat (first | assumption | refine IsTab.cons ?_)); (case kaV => first | assumption | exact IsBuf.cons (by assumption) | exact IsBuf.cons (IsBuf.cons (by assumption)) | exact IsBuf.cons (IsBuf.cons (IsBuf.cons (by assumption))) | exact IsBuf.mono (by assumption) (by intro p hp; simp [hp])); (case kaZ => assumption); (case kaA => first | assumption | omega | decide); (case kaB => first | assumption | omega | decide); (intro r' h' tk' F' N' R'; (try dsimp only); (try k_fold); (try k_sweep); skip)))
    | (k_here; (with_reducible show wpAny _ _ (call (Value.ref 305) [Value.int _ _]) _ _ _); k_dflt (refine' (flags_c ?kaA ?kaB) _ _ _ _ _ _ _ _ _ _ _ _ _ _ _ _ _ ?kcB ?kcF ?kcX ?kcN ?kcT ?kcK ?kcD ?kcU ?_; (case kcB => k_asm); (case kcF => k_asm); (case kcX => k_asm); (case kcN => k_asm); (case kcT => k_asm); (case kcK => first | exact rfl | assumption); (case kcD => ktr_room); (case kcU => ktr_units); (case kaA => first | assumption | omega | decide); (case kaB => first | assumption | omega | decide); (intro r' h' tk' F' N' R'; (try dsimp only); (try k_fold); (try k_sweep); (have e9 : r' = _ := R'; subst e9))))
    | ((with_reducible show wpAny _ _ (getMethod (Value.ref _) _ _) _ _ _); k_here; (with_reducible rename IsTab _ _ _ _ _ _ _ _ _ _ _ => hT'); k_dflt (refine' method_inst ?k1 ?k2 (InstAt.of_news ?kn ?ko ?kd) ?k4 ?k5 ?k6 ?k7 ?_; (case k1 => k_asm); (case k2 => k_asm); (case kn => k_asm); (case ko => repeat (first | exact hT'.obj | refine List.Mem.tail _ ?_ | refine List.mem_append_right _ ?_)); (case kd => repeat (first | exact hT'.dict | refine List.Mem.tail _ ?_ | refine List.mem_append_right _ ?_)); (case k4 => k_is); (case k5 => k_is); (case k6 => k_is); (case k7 => k_get); k_whole))
    | (k_unfold; (try dsimp only)) | (k_end; wrow_close) | walk1 | (dsimp only; walk1) | (leave1; walk_say "STEP leave1"; try dsimp only) | fail "no step"))
  all_goals (refine hret _ _ _ (by assumption) (cb_drop (by assumption) (by intro p hp; simp [hp])) ?_)
  all_goals assumption
theorem flags0_c {t : Tok} : CtrV w p loose mean mg mb 4 305 news [.int 0 t] (fun r => r = .ref 166) := (flags_c (by decide) (by decide)).mono fun r e => e
theorem flags1_c {t : Tok} : CtrV w p loose mean mg mb 4 305 news [.int 1 t] (fun r => r = .ref 169) := (flags_c (by decide) (by decide)).mono fun r e => e
theorem flags2_c {t : Tok} : CtrV w p loose mean mg mb 4 305 news [.int 2 t] (fun r => r = .ref 172) := (flags_c (by decide) (by decide)).mono fun r e => e
theorem flags3_c {t : Tok} : CtrV w p loose mean mg mb 4 305 news [.int 3 t] (fun r => r = .ref 175) := (flags_c (by decide) (by decide)).mono fun r e => e
theorem flags4_c {t : Tok} : CtrV w p loose mean mg mb 4 305 news [.int 4 t] (fun r => r = .ref 178) := (flags_c (by decide) (by decide)).mono fun r e => e
theorem flags5_c {t : Tok} : CtrV w p loose mean mg mb 4 305 news [.int 5 t] (fun r => r = .ref 181) := (flags_c (by decide) (by decide)).mono fun r e => e
theorem flags6_c {t : Tok} : CtrV w p loose mean mg mb 4 305 news [.int 6 t] (fun r => r = .ref 184) := (flags_c (by decide) (by decide)).mono fun r e => e
theorem flags7_c {t : Tok} : CtrV w p loose mean mg mb 4 305 news [.int 7 t] (fun r => r = .ref 187) := (flags_c (by decide) (by decide)).mono fun r e => e
theorem flags8_c {t : Tok} : CtrV w p loose mean mg mb 4 305 news [.int 8 t] (fun r => r = .ref 190) := (flags_c (by decide) (by decide)).mono fun r e => e
end
section
variable {w : World} {p : Program} {loose : List Str} {mean : ExcName → Option Value} {mg mb : Str → Option Value} {news : List (Addr × Obj)}

theorem rget0_c {tb d : Addr} {h1 h2 : Int} {t1 t2 tx t : Tok} {nn : Nat} {v : Value} {b : Array UInt8} {y : Int} {x : Int} {u : Tok} (hT : IsTab news tb d h1 h2 t1 t2 nn v y tx) (hv : IsBuf news v b) (hz : b.size ≤ 16777216) (h0 : 0 ≤ x) (hx : x ≤ b.size) (hi : b.size < x + 1) :
    CtrO w p loose mean mg mb 24 333 news [.ref tb, .int 0 u, .int x t] (fun r => r = .none) := by
  intro dp un gd cn cs a ccd A₀ base h₀ L m s Q E B F X N T XB TB hk hd hu hret
  rcases s with ⟨sh, sg, sd, sk, so⟩
  dsimp only at F N hret ⊢
  w_top on
  refine wpAny_call ?_
  (refine' code_defS0 ?k1 ?k2 ?k3 ?k4 ?k5 ?kA ?k6 ?k7 ?k8 ?k9 ?kB ?_ ?cK ?c2 ?c3 ?c4 ?c5; (case kA => exact rfl); (case k2 => k_asm); (case k1 => k_asm); (case k3 => k_asm); (case k4 => k_asm); (case k5 => k_asm); (case k6 => k_is); (case k7 => k_is); (case k8 => ktr_room); (case k9 => first | exact BindsTo.of_eq rfl | exact binds_K (by k_in) rfl (by k_is) rfl rfl rfl); (case kB => exact locs rfl); (case cK => exact hk); (case c2 => exact rfl); (case c3 => exact rfl); (case c4 => exact rfl); (case c5 => decide); k_whole; intro g' L' h' FG' F' N' B' X' T' D'; (try dsimp only); (try k_lift B'); (try k_fold))
  (repeat' (first
    | ((with_reducible show wpAny _ _ _ _ _ (Shared.mk _ (Shared.gens _) _ _ _)); dsimp only)
    | (k_here; (with_reducible show wpAny _ _ (call (Value.ref 305) [Value.int 0 _]) _ _ _); k_dflt (refine' (flags0_c ) _ _ _ _ _ _ _ _ _ _ _ _ _ _ _ _ _ ?kcB ?kcF ?kcX ?kcN ?kcT ?kcK ?kcD ?kcU ?_; (case kcB => k_asm); (case kcF => k_asm); (case kcX => k_asm); (case kcN => k_asm); (case kcT => k_asm); (case kcK => first | exact rfl | assumption); (case kcD => ktr_room); (case kcU => ktr_units);  (intro r' h' tk' F' N' R'; (try dsimp only); (try k_fold); (try k_sweep); (have e9 : r' = _ := R'; subst e9))))
    | (k_here; (with_reducible show wpAny _ _ (call (Value.ref 207) [Value.int _ _, Value.ref 196]) _ _ _); k_dflt (refine' (enfU_c ?kaA ?kaB) _ _ _ _ _ _ _ _ _ _ _ _ _ _ _ _ _ ?kcB ?kcF ?kcX ?kcN ?kcT ?kcK ?kcD ?kcU ?_; (case kcB => k_asm); (case kcF => k_asm); (case kcX => k_asm); (case kcN => k_asm); (case kcT => k_asm); (case kcK => first | exact rfl | assumption); (case kcD => ktr_room); (case kcU => ktr_units); (case kaA => first | assumption | omega | decide); (case kaB => first | assumption | omega | decide); (intro r' h' tk' F' N' R'; (try dsimp only); (try k_fold); (try k_sweep); (have e9 : r' = _ := R'; subst e9))))
    | ((with_reducible show wpAny _ _ (getMethod (Value.ref _) _ _) _ _ _); k_here; (with_reducible rename IsTab _ _ _ _ _ _ _ _ _ _ _ => hT'); k_dflt (refine' method_inst ?k1 ?k2 (InstAt.of_news ?kn ?ko ?kd) ?k4 ?k5 ?k6 ?k7 ?_; (case k1 => k_asm); (case k2 => k_asm); (case kn => k_asm); (case ko => repeat (first | exact hT'.obj | refine List.Mem.tail _ ?_ | refine List.mem_append_right _ ?_)); (case kd => repeat (first | exact hT'.dict | refine List.Mem.tail _ ?_ | refine List.mem_append_right _ ?_)); (case k4 => k_is); (case k5 => k_is); (case k6 => k_is); (case k7 => k_get); k_whole))
    | ((with_reducible show wpAny _ _ (getAttr (Value.ref _) _ _) _ _ _); k_here; (with_reducible rename IsTab _ _ _ _ _ _ _ _ _ _ _ => hT'); (with_reducible rename IsBuf _ _ _ => hV'); k_dflt (refine' get_own ?k1 ?k2 (InstAt.of_news ?kn ?ko ?kd) ?k4 ?k5 ?k6 ?k7 ?k8 ?k9 ?_; (case k1 => k_asm); (case k2 => k_asm); (case kn => k_asm); (case ko => repeat (first | exact hT'.obj | refine List.Mem.tail _ ?_ | refine List.mem_append_right _ ?_)); (case kd => repeat (first | exact hT'.dict | refine List.Mem.tail _ ?_ | refine List.mem_append_right _ ?_)); (case k4 => k_is); (case k5 => k_is); (case k6 => k_is); (case k7 => k_is); (case k8 => k_get); (case k9 => first | exact hV'.handed | k_handed); k_whole))
    | (k_here; (with_reducible show wpAny _ _ (call (Value.builtin "len") [_]) _ _ _); k_dflt (refine' len_buf ?kbN ?kbV ?kbZ ?_; (case kbN => k_asm); (case kbV => first | assumption | exact IsBuf.cons (by assumption) | exact IsBuf.cons (IsBuf.cons (by assumption)) | exact IsBuf.cons (IsBuf.cons (IsBuf.cons (by assumption))) | exact IsBuf.mono (by assumption) (by intro p hp; simp [hp])); (case kbZ => assumption)); intro t' k')
    | ((with_reducible show wpAny _ _ (call (Value.ref _) _ _) _ _ _); k_here; k_dflt (refine wpAny_call ?_; (refine' code_def ?k1 ?k2 ?k3 ?k4 ?k5 ?kA ?kF ?kK ?k6 ?k7 ?k8 ?k9 ?kB ?_ ?c2 ?c3 ?c4 ?c5; (case kA => exact rfl); (case kF => exact rfl); (case kK => first | exact rfl | assumption); (case k1 => k_asm); (case k2 => k_asm); (case k3 => k_asm); (case k4 => k_asm); (case k5 => k_asm); (case k6 => k_is); (case k7 => k_is); (case k8 => ktr_room); (case k9 => first | exact BindsTo.of_eq rfl | exact binds_K (by k_in) rfl (by k_is) rfl rfl rfl); (case c5 => decide); (case kB => exact locs rfl); (case c2 => exact rfl); (case c3 => exact rfl); (case c4 => exact rfl); k_whole; intro g' L' h' FG' F' N' B' X' T'; (try dsimp only); (try k_lift B'); (try k_fold))))
    | (k_unfold; (try dsimp only)) | (k_end; wrow_close) | walk1 | (dsimp only; walk1) | (leave1; walk_say "STEP leave1"; try dsimp only) | fail "no step"))
  all_goals (refine hret _ _ _ (by assumption) (cb_drop (by assumption) (by intro p hp; simp [hp])) ?_)
  all_goals rfl

theorem rget1_c {tb d : Addr} {h1 h2 : Int} {t1 t2 tx t : Tok} {nn : Nat} {v : Value} {b : Array UInt8} {y : Int} {x : Int} {u : Tok} (hT : IsTab news tb d h1 h2 t1 t2 nn v y tx) (hv : IsBuf news v b) (hz : b.size ≤ 16777216) (h0 : 0 ≤ x) (hx : x ≤ b.size) (hi : b.size < x + 1) :
    CtrO w p loose mean mg mb 24 333 news [.ref tb, .int 1 u, .int x t] (fun r => r = .none) := by
  intro dp un gd cn cs a ccd A₀ base h₀ L m s Q E B F X N T XB TB hk hd hu hret
  rcases s with ⟨sh, sg, sd, sk, so⟩
  dsimp only at F N hret ⊢
  w_top on
  refine wpAny_call ?_
  (refine' code_defS0 ?k1 ?k2 ?k3 ?k4 ?k5 ?kA ?k6 ?k7 ?k8 ?k9 ?kB ?_ ?cK ?c2 ?c3 ?c4 ?c5; (case kA => exact rfl); (case k2 => k_asm); (case k1 => k_asm); (case k3 => k_asm); (case k4 => k_asm); (case k5 => k_asm); (case k6 => k_is); (case k7 => k_is); (case k8 => ktr_room); (case k9 => first | exact BindsTo.of_eq rfl | exact binds_K (by k_in) rfl (by k_is) rfl rfl rfl); (case kB => exact locs rfl); (case cK => exact hk); (case c2 => exact rfl); (case c3 => exact rfl); (case c4 => exact rfl); (case c5 => decide); k_whole; intro g' L' h' FG' F' N' B' X' T' D'; (try dsimp only); (try k_lift B'); (try k_fold))
  (repeat' (first
    | ((with_reducible show wpAny _ _ _ _ _ (Shared.mk _ (Shared.gens _) _ _ _)); dsimp only)
    | (k_here; (with_reducible show wpAny _ _ (call (Value.ref 305) [Value.int 1 _]) _ _ _); k_dflt (refine' (flags1_c ) _ _ _ _ _ _ _ _ _ _ _ _ _ _ _ _ _ ?kcB ?kcF ?kcX ?kcN ?kcT ?kcK ?kcD ?kcU ?_; (case kcB => k_asm); (case kcF => k_asm); (case kcX => k_asm); (case kcN => k_asm); (case kcT => k_asm); (case kcK => first | exact rfl | assumption); (case kcD => ktr_room); (case kcU => ktr_units);  (intro r' h' tk' F' N' R'; (try dsimp only); (try k_fold); (try k_sweep); (have e9 : r' = _ := R'; subst e9))))
    | (k_here; (with_reducible show wpAny _ _ (call (Value.ref 207) [Value.int _ _, Value.ref 196]) _ _ _); k_dflt (refine' (enfU_c ?kaA ?kaB) _ _ _ _ _ _ _ _ _ _ _ _ _ _ _ _ _ ?kcB ?kcF ?kcX ?kcN ?kcT ?kcK ?kcD ?kcU ?_; (case kcB => k_asm); (case kcF => k_asm); (case kcX => k_asm); (case kcN => k_asm); (case kcT => k_asm); (case kcK => first | exact rfl | assumption); (case kcD => ktr_room); (case kcU => ktr_units); (case kaA => first | assumption | omega | decide); (case kaB => first | assumption | omega | decide); (intro r' h' tk' F' N' R'; (try dsimp only); (try k_fold); (try k_sweep); (have e9 : r' = _ := R'; subst e9))))
    | ((with_reducible show wpAny _ _ (getMethod (Value.ref _) _ _) _ _ _); k_here; (with_reducible rename IsTab _ _ _ _ _ _ _ _ _ _ _ => hT'); k_dflt (refine' method_inst ?k1 ?k2 (InstAt.of_news ?kn ?ko ?kd) ?k4 ?k5 ?k6 ?k7 ?_; (case k1 => k_asm); (case k2 => k_asm); (case kn => k_asm); (case ko => repeat (first | exact hT'.obj | refine List.Mem.tail _ ?_ | refine List.mem_append_right _ ?_)); (case kd => repeat (first | exact hT'.dict | refine List.Mem.tail _ ?_ | refine List.mem_append_right _ ?_)); (case k4 => k_is); (case k5 => k_is); (case k6 => k_is); (case k7 => k_get); k_whole))
    | ((with_reducible show wpAny _ _ (getAttr (Value.ref _) _ _) _ _ _); k_here; (with_reducible rename IsTab _ _ _ _ _ _ _ _ _ _ _ => hT'); (with_reducible rename IsBuf _ _ _ => hV'); k_dflt (refine' get_own ?k1 ?k2 (InstAt.of_news ?kn ?ko ?kd) ?k4 ?k5 ?k6 ?k7 ?k8 ?k9 ?_; (case k1 => k_asm); (case k2 => k_asm); (case kn => k_asm); (case ko => repeat (first | exact hT'.obj | refine List.Mem.tail _ ?_ | refine List.mem_append_right _ ?_)); (case kd => repeat (first | exact hT'.dict | refine List.Mem.tail _ ?_ | refine List.mem_append_right _ ?_)); (case k4 => k_is); (case k5 => k_is); (case k6 => k_is); (case k7 => k_is); (case k8 => k_get); (case k9 => first | exact hV'.handed | k_handed); k_whole))
    | (k_here; (with_reducible show wpAny _ _ (call (Value.builtin "len") [_]) _ _ _); k_dflt (refine' len_buf ?kbN ?kbV ?kbZ ?_; (case kbN => k_asm); (case kbV => first | assumption | exact IsBuf.cons (by assumption) | exact IsBuf.cons (IsBuf.cons (by assumption)) | exact IsBuf.cons (IsBuf.cons (IsBuf.cons (by assumption))) | exact IsBuf.mono (by assumption) (by intro p hp; simp [hp])); (case kbZ => assumption)); intro t' k')
    | ((with_reducible show wpAny _ _ (call (Value.ref _) _ _) _ _ _); k_here; k_dflt (refine wpAny_call ?_; (refine' code_def ?k1 ?k2 ?k3 ?k4 ?k5 ?kA ?kF ?kK ?k6 ?k7 ?k8 ?k9 ?kB ?_ ?c2 ?c3 ?c4 ?c5; (case kA => exact rfl); (case kF => exact rfl); (case kK => first | exact rfl | assumption); (case k1 => k_asm); (case k2 => k_asm); (case k3 => k_asm); (case k4 => k_asm); (case k5 => k_asm); (case k6 => k_is); (case k7 => k_is); (case k8 => ktr_room); (case k9 => first | exact BindsTo.of_eq rfl | exact binds_K (by k_in) rfl (by k_is) rfl rfl rfl); (case c5 => decide); (case kB => exact locs rfl); (case c2 => exact rfl); (case c3 => exact rfl); (case c4 => exact rfl); k_whole; intro g' L' h' FG' F' N' B' X' T'; (try dsimp only); (try k_lift B'); (try k_fold))))
    | (k_unfold; (try dsimp only)) | (k_end; wrow_close) | walk1 | (dsimp only; walk1) | (leave1; walk_say "STEP leave1"; try dsimp only) | fail "no step"))
  all_goals (refine hret _ _ _ (by assumption) (cb_drop (by assumption) (by intro p hp; simp [hp])) ?_)
  all_goals rfl

theorem rget2_c {tb d : Addr} {h1 h2 : Int} {t1 t2 tx t : Tok} {nn : Nat} {v : Value} {b : Array UInt8} {y : Int} {x : Int} {u : Tok} (hT : IsTab news tb d h1 h2 t1 t2 nn v y tx) (hv : IsBuf news v b) (hz : b.size ≤ 16777216) (h0 : 0 ≤ x) (hx : x ≤ b.size) (hi : b.size < x + 2) :
    CtrO w p loose mean mg mb 24 333 news [.ref tb, .int 2 u, .int x t] (fun r => r = .none) := by
  intro dp un gd cn cs a ccd A₀ base h₀ L m s Q E B F X N T XB TB hk hd hu hret
  rcases s with ⟨sh, sg, sd, sk, so⟩
  dsimp only at F N hret ⊢
  w_top on
  refine wpAny_call ?_
  (refine' code_defS0 ?k1 ?k2 ?k3 ?k4 ?k5 ?kA ?k6 ?k7 ?k8 ?k9 ?kB ?_ ?cK ?c2 ?c3 ?c4 ?c5; (case kA => exact rfl); (case k2 => k_asm); (case k1 => k_asm); (case k3 => k_asm); (case k4 => k_asm); (case k5 => k_asm); (case k6 => k_is); (case k7 => k_is); (case k8 => ktr_room); (case k9 => first | exact BindsTo.of_eq rfl | exact binds_K (by k_in) rfl (by k_is) rfl rfl rfl); (case kB => exact locs rfl); (case cK => exact hk); (case c2 => exact rfl); (case c3 => exact rfl); (case c4 => exact rfl); (case c5 => decide); k_whole; intro g' L' h' FG' F' N' B' X' T' D'; (try dsimp only); (try k_lift B'); (try k_fold))
  (repeat' (first
    | ((with_reducible show wpAny _ _ _ _ _ (Shared.mk _ (Shared.gens _) _ _ _)); dsimp only)
    | (k_here; (with_reducible show wpAny _ _ (call (Value.ref 305) [Value.int 2 _]) _ _ _); k_dflt (refine' (flags2_c ) _ _ _ _ _ _ _ _ _ _ _ _ _ _ _ _ _ ?kcB ?kcF ?kcX ?kcN ?kcT ?kcK ?kcD ?kcU ?_; (case kcB => k_asm); (case kcF => k_asm); (case kcX => k_asm); (case kcN => k_asm); (case kcT => k_asm); (case kcK => first | exact rfl | assumption); (case kcD => ktr_room); (case kcU => ktr_units);  (intro r' h' tk' F' N' R'; (try dsimp only); (try k_fold); (try k_sweep); (have e9 : r' = _ := R'; subst e9))))
    | (k_here; (with_reducible show wpAny _ _ (call (Value.ref 207) [Value.int _ _, Value.ref 196]) _ _ _); k_dflt (refine' (enfU_c ?kaA ?kaB) _ _ _ _ _ _ _ _ _ _ _ _ _ _ _ _ _ ?kcB ?kcF ?kcX ?kcN ?kcT ?kcK ?kcD ?kcU ?_; (case kcB => k_asm); (case kcF => k_asm); (case kcX => k_asm); (case kcN => k_asm); (case kcT => k_asm); (case kcK => first | exact rfl | assumption); (case kcD => ktr_room); (case kcU => ktr_units); (case kaA => first | assumption | omega | decide); (case kaB => first | assumption | omega | decide); (intro r' h' tk' F' N' R'; (try dsimp only); (try k_fold); (try k_sweep); (have e9 : r' = _ := R'; subst e9))))
    | ((with_reducible show wpAny _ _ (getMethod (Value.ref _) _ _) _ _ _); k_here; (with_reducible rename IsTab _ _ _ _ _ _ _ _ _ _ _ => hT'); k_dflt (refine' method_inst ?k1 ?k2 (InstAt.of_news ?kn ?ko ?kd) ?k4 ?k5 ?k6 ?k7 ?_; (case k1 => k_asm); (case k2 => k_asm); (case kn => k_asm); (case ko => repeat (first | exact hT'.obj | refine List.Mem.tail _ ?_ | refine List.mem_append_right _ ?_)); (case kd => repeat (first | exact hT'.dict | refine List.Mem.tail _ ?_ | refine List.mem_append_right _ ?_)); (case k4 => k_is); (case k5 => k_is); (case k6 => k_is); (case k7 => k_get); k_whole))
    | ((with_reducible show wpAny _ _ (getAttr (Value.ref _) _ _) _ _ _); k_here; (with_reducible rename IsTab _ _ _ _ _ _ _ _ _ _ _ => hT'); (with_reducible rename IsBuf _ _ _ => hV'); k_dflt (refine' get_own ?k1 ?k2 (InstAt.of_news ?kn ?ko ?kd) ?k4 ?k5 ?k6 ?k7 ?k8 ?k9 ?_; (case k1 => k_asm); (case k2 => k_asm); (case kn => k_asm); (case ko => repeat (first | exact hT'.obj | refine List.Mem.tail _ ?_ | refine List.mem_append_right _ ?_)); (case kd => repeat (first | exact hT'.dict | refine List.Mem.tail _ ?_ | refine List.mem_append_right _ ?_)); (case k4 => k_is); (case k5 => k_is); (case k6 => k_is); (case k7 => k_is); (case k8 => k_get); (case k9 => first | exact hV'.handed | k_handed); k_whole))
    | (k_here; (with_reducible show wpAny _ _ (call (Value.builtin "len") [_]) _ _ _); k_dflt (refine' len_buf ?kbN ?kbV ?kbZ ?_; (case kbN => k_asm); (case kbV => first | assumption | exact IsBuf.cons (by assumption) | exact IsBuf.cons (IsBuf.cons (by assumption)) | exact IsBuf.cons (IsBuf.cons (IsBuf.cons (by assumption))) | exact IsBuf.mono (by assumption) (by intro p hp; simp [hp])); (case kbZ => assumption)); intro t' k')
    | ((with_reducible show wpAny _ _ (call (Value.ref _) _ _) _ _ _); k_here; k_dflt (refine wpAny_call ?_; (refine' code_def ?k1 ?k2 ?k3 ?k4 ?k5 ?kA ?kF ?kK ?k6 ?k7 ?k8 ?k9 ?kB ?_ ?c2 ?c3 ?c4 ?c5; (case kA => exact rfl); (case kF => exact rfl); (case kK => first | exact rfl | assumption); (case k1 => k_asm); (case k2 => k_asm); (case k3 => k_asm); (case k4 => k_asm); (case k5 => k_asm); (case k6 => k_is); (case k7 => k_is); (case k8 => ktr_room); (case k9 => first | exact BindsTo.of_eq rfl | exact binds_K (by k_in) rfl (by k_is) rfl rfl rfl); (case c5 => decide); (case kB => exact locs rfl); (case c2 => exact rfl); (case c3 => exact rfl); (case c4 => exact rfl); k_whole; intro g' L' h' FG' F' N' B' X' T'; (try dsimp only); (try k_lift B'); (try k_fold))))
    | (k_unfold; (try dsimp only)) | (k_end; wrow_close) | walk1 | (dsimp only; walk1) | (leave1; walk_say "STEP leave1"; try dsimp only) | fail "no step"))
  all_goals (refine hret _ _ _ (by assumption) (cb_drop (by assumption) (by intro p hp; simp [hp])) ?_)
  all_goals rfl

theorem rget3_c {tb d : Addr} {h1 h2 : Int} {t1 t2 tx t : Tok} {nn : Nat} {v : Value} {b : Array UInt8} {y : Int} {x : Int} {u : Tok} (hT : IsTab news tb d h1 h2 t1 t2 nn v y tx) (hv : IsBuf news v b) (hz : b.size ≤ 16777216) (h0 : 0 ≤ x) (hx : x ≤ b.size) (hi : b.size < x + 4) :
    CtrO w p loose mean mg mb 24 333 news [.ref tb, .int 3 u, .int x t] (fun r => r = .none) := by
  intro dp un gd cn cs a ccd A₀ base h₀ L m s Q E B F X N T XB TB hk hd hu hret
  rcases s with ⟨sh, sg, sd, sk, so⟩
  dsimp only at F N hret ⊢
  w_top on
  refine wpAny_call ?_
  (refine' code_defS0 ?k1 ?k2 ?k3 ?k4 ?k5 ?kA ?k6 ?k7 ?k8 ?k9 ?kB ?_ ?cK ?c2 ?c3 ?c4 ?c5; (case kA => exact rfl); (case k2 => k_asm); (case k1 => k_asm); (case k3 => k_asm); (case k4 => k_asm); (case k5 => k_asm); (case k6 => k_is); (case k7 => k_is); (case k8 => ktr_room); (case k9 => first | exact BindsTo.of_eq rfl | exact binds_K (by k_in) rfl (by k_is) rfl rfl rfl); (case kB => exact locs rfl); (case cK => exact hk); (case c2 => exact rfl); (case c3 => exact rfl); (case c4 => exact rfl); (case c5 => decide); k_whole; intro g' L' h' FG' F' N' B' X' T' D'; (try dsimp only); (try k_lift B'); (try k_fold))
  (repeat' (first
    | ((with_reducible show wpAny _ _ _ _ _ (Shared.mk _ (Shared.gens _) _ _ _)); dsimp only)
    | (k_here; (with_reducible show wpAny _ _ (call (Value.ref 305) [Value.int 3 _]) _ _ _); k_dflt (refine' (flags3_c ) _ _ _ _ _ _ _ _ _ _ _ _ _ _ _ _ _ ?kcB ?kcF ?kcX ?kcN ?kcT ?kcK ?kcD ?kcU ?_; (case kcB => k_asm); (case kcF => k_asm); (case kcX => k_asm); (case kcN => k_asm); (case kcT => k_asm); (case kcK => first | exact rfl | assumption); (case kcD => ktr_room); (case kcU => ktr_units);  (intro r' h' tk' F' N' R'; (try dsimp only); (try k_fold); (try k_sweep); (have e9 : r' = _ := R'; subst e9))))
    | (k_here; (with_reducible show wpAny _ _ (call (Value.ref 207) [Value.int _ _, Value.ref 196]) _ _ _); k_dflt (refine' (enfU_c ?kaA ?kaB) _ _ _ _ _ _ _ _ _ _ _ _ _ _ _ _ _ ?kcB ?kcF ?kcX ?kcN ?kcT ?kcK ?kcD ?kcU ?_; (case kcB => k_asm); (case kcF => k_asm); (case kcX => k_asm); (case kcN => k_asm); (case kcT => k_asm); (case kcK => first | exact rfl | assumption); (case kcD => ktr_room); (case kcU => ktr_units); (case kaA => first | assumption | omega | decide); (case kaB => first | assumption | omega | decide); (intro r' h' tk' F' N' R'; (try dsimp only); (try k_fold); (try k_sweep); (have e9 : r' = _ := R'; subst e9))))
    | ((with_reducible show wpAny _ _ (getMethod (Value.ref _) _ _) _ _ _); k_here; (with_reducible rename IsTab _ _ _ _ _ _ _ _ _ _ _ => hT'); k_dflt (refine' method_inst ?k1 ?k2 (InstAt.of_news ?kn ?ko ?kd) ?k4 ?k5 ?k6 ?k7 ?_; (case k1 => k_asm); (case k2 => k_asm); (case kn => k_asm); (case ko => repeat (first | exact hT'.obj | refine List.Mem.tail _ ?_ | refine List.mem_append_right _ ?_)); (case kd => repeat (first | exact hT'.dict | refine List.Mem.tail _ ?_ | refine List.mem_append_right _ ?_)); (case k4 => k_is); (case k5 => k_is); (case k6 => k_is); (case k7 => k_get); k_whole))
    | ((with_reducible show wpAny _ _ (getAttr (Value.ref _) _ _) _ _ _); k_here; (with_reducible rename IsTab _ _ _ _ _ _ _ _ _ _ _ => hT'); (with_reducible rename IsBuf _ _ _ => hV'); k_dflt (refine' get_own ?k1 ?k2 (InstAt.of_news ?kn ?ko ?kd) ?k4 ?k5 ?k6 ?k7 ?k8 ?k9 ?_; (case k1 => k_asm); (case k2 => k_asm); (case kn => k_asm); (case ko => repeat (first | exact hT'.obj | refine List.Mem.tail _ ?_ | refine List.mem_append_right _ ?_)); (case kd => repeat (first | exact hT'.dict | refine List.Mem.tail _ ?_ | refine List.mem_append_right _ ?_)); (case k4 => k_is); (case k5 => k_is); (case k6 => k_is); (case k7 => k_is); (case k8 => k_get); (case k9 => first | exact hV'.handed | k_handed); k_whole))
    | (k_here; (with_reducible show wpAny _ _ (call (Value.builtin "len") [_]) _ _ _); k_dflt (refine' len_buf ?kbN ?kbV ?kbZ ?_; (case kbN => k_asm); (case kbV => first | assumption | exact IsBuf.cons (by assumption) | exact IsBuf.cons (IsBuf.cons (by assumption)) | exact IsBuf.cons (IsBuf.cons (IsBuf.cons (by assumption))) | exact IsBuf.mono (by assumption) (by intro p hp; simp [hp])); (case kbZ => assumption)); intro t' k')
    | ((with_reducible show wpAny _ _ (call (Value.ref _) _ _) _ _ _); k_here; k_dflt (refine wpAny_call ?_; (refine' code_def ?k1 ?k2 ?k3 ?k4 ?k5 ?kA ?kF ?kK ?k6 ?k7 ?k8 ?k9 ?kB ?_ ?c2 ?c3 ?c4 ?c5; (case kA => exact rfl); (case kF => exact rfl); (case kK => first | exact rfl | assumption); (case k1 => k_asm); (case k2 => k_asm); (case k3 => k_asm); (case k4 => k_asm); (case k5 => k_asm); (case k6 => k_is); (case k7 => k_is); (case k8 => ktr_room); (case k9 => first | exact BindsTo.of_eq rfl | exact binds_K (by k_in) rfl (by k_is) rfl rfl rfl); (case c5 => decide); (case kB => exact locs rfl); (case c2 => exact rfl); (case c3 => exact rfl); (case c4 => exact rfl); k_whole; intro g' L' h' FG' F' N' B' X' T'; (try dsimp only); (try k_lift B'); (try k_fold))))
    | (k_unfold; (try dsimp only)) | (k_end; wrow_close) | walk1 | (dsimp only; walk1) | (leave1; walk_say "STEP leave1"; try dsimp only) | fail "no step"))
  all_goals (refine hret _ _ _ (by assumption) (cb_drop (by assumption) (by intro p hp; simp [hp])) ?_)
  all_goals rfl

theorem rget4_c {tb d : Addr} {h1 h2 : Int} {t1 t2 tx t : Tok} {nn : Nat} {v : Value} {b : Array UInt8} {y : Int} {x : Int} {u : Tok} (hT : IsTab news tb d h1 h2 t1 t2 nn v y tx) (hv : IsBuf news v b) (hz : b.size ≤ 16777216) (h0 : 0 ≤ x) (hx : x ≤ b.size) (hi : b.size < x + 8) :
    CtrO w p loose mean mg mb 24 333 news [.ref tb, .int 4 u, .int x t] (fun r => r = .none) := by
  intro dp un gd cn cs a ccd A₀ base h₀ L m s Q E B F X N T XB TB hk hd hu hret
  rcases s with ⟨sh, sg, sd, sk, so⟩
  dsimp only at F N hret ⊢
  w_top on
  refine wpAny_call ?_
  (refine' code_defS0 ?k1 ?k2 ?k3 ?k4 ?k5 ?kA ?k6 ?k7 ?k8 ?k9 ?kB ?_ ?cK ?c2 ?c3 ?c4 ?c5; (case kA => exact rfl); (case k2 => k_asm); (case k1 => k_asm); (case k3 => k_asm); (case k4 => k_asm); (case k5 => k_asm); (case k6 => k_is); (case k7 => k_is); (case k8 => ktr_room); (case k9 => first | exact BindsTo.of_eq rfl | exact binds_K (by k_in) rfl (by k_is) rfl rfl rfl); (case kB => exact locs rfl); (case cK => exact hk); (case c2 => exact rfl); (case c3 => exact rfl); (case c4 => exact rfl); (case c5 => decide); k_whole; intro g' L' h' FG' F' N' B' X' T' D'; (try dsimp only); (try k_lift B'); (try k_fold))
  (repeat' (first
    | ((with_reducible show wpAny _ _ _ _ _ (Shared.mk _ (Shared.gens _) _ _ _)); dsimp only)
    | (k_here; (with_reducible show wpAny _ _ (call (Value.ref 305) [Value.int 4 _]) _ _ _); k_dflt (refine' (flags4_c ) _ _ _ _ _ _ _ _ _ _ _ _ _ _ _ _ _ ?kcB ?kcF ?kcX ?kcN ?kcT ?kcK ?kcD ?kcU ?_; (case kcB => k_asm); (case kcF => k_asm); (case kcX => k_asm); (case kcN => k_asm); (case kcT => k_asm); (case kcK => first | exact rfl | assumption); (case kcD => ktr_room); (case kcU => ktr_units);  (intro r' h' tk' F' N' R'; (try dsimp only); (try k_fold); (try k_sweep); (have e9 : r' = _ := R'; subst e9))))
    | (k_here; (with_reducible show wpAny _ _ (call (Value.ref 207) [Value.int _ _, Value.ref 196]) _ _ _); k_dflt (refine' (enfU_c ?kaA ?kaB) _ _ _ _ _ _ _ _ _ _ _ _ _ _ _ _ _ ?kcB ?kcF ?kcX ?kcN ?kcT ?kcK ?kcD ?kcU ?_; (case kcB => k_asm); (case kcF => k_asm); (case kcX => k_asm); (case kcN => k_asm); (case kcT => k_asm); (case kcK => first | exact rfl | assumption); (case kcD => ktr_room); (case kcU => ktr_units); (case kaA => first | assumption | omega | decide); (case kaB => first | assumption | omega | decide); (intro r' h' tk' F' N' R'; (try dsimp only); (try k_fold); (try k_sweep); (have e9 : r' = _ := R'; subst e9))))
    | ((with_reducible show wpAny _ _ (getMethod (Value.ref _) _ _) _ _ _); k_here; (with_reducible rename IsTab _ _ _ _ _ _ _ _ _ _ _ => hT'); k_dflt (refine' method_inst ?k1 ?k2 (InstAt.of_news ?kn ?ko ?kd) ?k4 ?k5 ?k6 ?k7 ?_; (case k1 => k_asm); (case k2 => k_asm); (case kn => k_asm); (case ko => repeat (first | exact hT'.obj | refine List.Mem.tail _ ?_ | refine List.mem_append_right _ ?_)); (case kd => repeat (first | exact hT'.dict | refine List.Mem.tail _ ?_ | refine List.mem_append_right _ ?_)); (case k4 => k_is); (case k5 => k_is); (case k6 => k_is); (case k7 => k_get); k_whole))
    | ((with_reducible show wpAny _ _ (getAttr (Value.ref _) _ _) _ _ _); k_here; (with_reducible rename IsTab _ _ _ _ _ _ _ _ _ _ _ => hT'); (with_reducible rename IsBuf _ _ _ => hV'); k_dflt (refine' get_own ?k1 ?k2 (InstAt.of_news ?kn ?ko ?kd) ?k4 ?k5 ?k6 ?k7 ?k8 ?k9 ?_; (case k1 => k_asm); (case k2 => k_asm); (case kn => k_asm); (case ko => repeat (first | exact hT'.obj | refine List.Mem.tail _ ?_ | refine List.mem_append_right _ ?_)); (case kd => repeat (first | exact hT'.dict | refine List.Mem.tail _ ?_ | refine List.mem_append_right _ ?_)); (case k4 => k_is); (case k5 => k_is); (case k6 => k_is); (case k7 => k_is); (case k8 => k_get); (case k9 => first | exact hV'.handed | k_handed); k_whole))
    | (k_here; (with_reducible show wpAny _ _ (call (Value.builtin "len") [_]) _ _ _); k_dflt (refine' len_buf ?kbN ?kbV ?kbZ ?_; (case kbN => k_asm); (case kbV => first | assumption | exact IsBuf.cons (by assumption) | exact IsBuf.cons (IsBuf.cons (by assumption)) | exact IsBuf.cons (IsBuf.cons (IsBuf.cons (by assumption))) | exact IsBuf.mono (by assumption) (by intro p hp; simp [hp])); (case kbZ => assumption)); intro t' k')
    | ((with_reducible show wpAny _ _ (call (Value.ref _) _ _) _ _ _); k_here; k_dflt (refine wpAny_call ?_; (refine' code_def ?k1 ?k2 ?k3 ?k4 ?k5 ?kA ?kF ?kK ?k6 ?k7 ?k8 ?k9 ?kB ?_ ?c2 ?c3 ?c4 ?c5; (case kA => exact rfl); (case kF => exact rfl); (case kK => first | exact rfl | assumption); (case k1 => k_asm); (case k2 => k_asm); (case k3 => k_asm); (case k4 => k_asm); (case k5 => k_asm); (case k6 => k_is); (case k7 => k_is); (case k8 => ktr_room); (case k9 => first | exact BindsTo.of_eq rfl | exact binds_K (by k_in) rfl (by k_is) rfl rfl rfl); (case c5 => decide); (case kB => exact locs rfl); (case c2 => exact rfl); (case c3 => exact rfl); (case c4 => exact rfl); k_whole; intro g' L' h' FG' F' N' B' X' T'; (try dsimp only); (try k_lift B'); (try k_fold))))
    | (k_unfold; (try dsimp only)) | (k_end; wrow_close) | walk1 | (dsimp only; walk1) | (leave1; walk_say "STEP leave1"; try dsimp only) | fail "no step"))
  all_goals (refine hret _ _ _ (by assumption) (cb_drop (by assumption) (by intro p hp; simp [hp])) ?_)
  all_goals rfl

theorem rget5_c {tb d : Addr} {h1 h2 : Int} {t1 t2 tx t : Tok} {nn : Nat} {v : Value} {b : Array UInt8} {y : Int} {x : Int} {u : Tok} (hT : IsTab news tb d h1 h2 t1 t2 nn v y tx) (hv : IsBuf news v b) (hz : b.size ≤ 16777216) (h0 : 0 ≤ x) (hx : x ≤ b.size) (hi : b.size < x + 1) :
    CtrO w p loose mean mg mb 24 333 news [.ref tb, .int 5 u, .int x t] (fun r => r = .none) := by
  intro dp un gd cn cs a ccd A₀ base h₀ L m s Q E B F X N T XB TB hk hd hu hret
  rcases s with ⟨sh, sg, sd, sk, so⟩
  dsimp only at F N hret ⊢
  w_top on
  refine wpAny_call ?_
  (refine' code_defS0 ?k1 ?k2 ?k3 ?k4 ?k5 ?kA ?k6 ?k7 ?k8 ?k9 ?kB ?_ ?cK ?c2 ?c3 ?c4 ?c5; (case kA => exact rfl); (case k2 => k_asm); (case k1 => k_asm); (case k3 => k_asm); (case k4 => k_asm); (case k5 => k_asm); (case k6 => k_is); (case k7 => k_is); (case k8 => ktr_room); (case k9 => first | exact BindsTo.of_eq rfl | exact binds_K (by k_in) rfl (by k_is) rfl rfl rfl); (case kB => exact locs rfl); (case cK => exact hk); (case c2 => exact rfl); (case c3 => exact rfl); (case c4 => exact rfl); (case c5 => decide); k_whole; intro g' L' h' FG' F' N' B' X' T' D'; (try dsimp only); (try k_lift B'); (try k_fold))
  (repeat' (first
    | ((with_reducible show wpAny _ _ _ _ _ (Shared.mk _ (Shared.gens _) _ _ _)); dsimp only)
    | (k_here; (with_reducible show wpAny _ _ (call (Value.ref 305) [Value.int 5 _]) _ _ _); k_dflt (refine' (flags5_c ) _ _ _ _ _ _ _ _ _ _ _ _ _ _ _ _ _ ?kcB ?kcF ?kcX ?kcN ?kcT ?kcK ?kcD ?kcU ?_; (case kcB => k_asm); (case kcF => k_asm); (case kcX => k_asm); (case kcN => k_asm); (case kcT => k_asm); (case kcK => first | exact rfl | assumption); (case kcD => ktr_room); (case kcU => ktr_units);  (intro r' h' tk' F' N' R'; (try dsimp only); (try k_fold); (try k_sweep); (have e9 : r' = _ := R'; subst e9))))
    | (k_here; (with_reducible show wpAny _ _ (call (Value.ref 207) [Value.int _ _, Value.ref 196]) _ _ _); k_dflt (refine' (enfU_c ?kaA ?kaB) _ _ _ _ _ _ _ _ _ _ _ _ _ _ _ _ _ ?kcB ?kcF ?kcX ?kcN ?kcT ?kcK ?kcD ?kcU ?_; (case kcB => k_asm); (case kcF => k_asm); (case kcX => k_asm); (case kcN => k_asm); (case kcT => k_asm); (case kcK => first | exact rfl | assumption); (case kcD => ktr_room); (case kcU => ktr_units); (case kaA => first | assumption | omega | decide); (case kaB => first | assumption | omega | decide); (intro r' h' tk' F' N' R'; (try dsimp only); (try k_fold); (try k_sweep); (have e9 : r' = _ := R'; subst e9))))
    | ((with_reducible show wpAny _ _ (getMethod (Value.ref _) _ _) _ _ _); k_here; (with_reducible rename IsTab _ _ _ _ _ _ _ _ _ _ _ => hT'); k_dflt (refine' method_inst ?k1 ?k2 (InstAt.of_news ?kn ?ko ?kd) ?k4 ?k5 ?k6 ?k7 ?_; (case k1 => k_asm); (case k2 => k_asm); (case kn => k_asm); (case ko => repeat (first | exact hT'.obj | refine List.Mem.tail _ ?_ | refine List.mem_append_right _ ?_)); (case kd => repeat (first | exact hT'.dict | refine List.Mem.tail _ ?_ | refine List.mem_append_right _ ?_)); (case k4 => k_is); (case k5 => k_is); (case k6 => k_is); (case k7 => k_get); k_whole))
    | ((with_reducible show wpAny _ _ (getAttr (Value.ref _) _ _) _ _ _); k_here; (with_reducible rename IsTab _ _ _ _ _ _ _ _ _ _ _ => hT'); (with_reducible rename IsBuf _ _ _ => hV'); k_dflt (refine' get_own ?k1 ?k2 (InstAt.of_news ?kn ?ko ?kd) ?k4 ?k5 ?k6 ?k7 ?k8 ?k9 ?_; (case k1 => k_asm); (case k2 => k_asm); (case kn => k_asm); (case ko => repeat (first | exact hT'.obj | refine List.Mem.tail _ ?_ | refine List.mem_append_right _ ?_)); (case kd => repeat (first | exact hT'.dict | refine List.Mem.tail _ ?_ | refine List.mem_append_right _ ?_)); (case k4 => k_is); (case k5 => k_is); (case k6 => k_is); (case k7 => k_is); (case k8 => k_get); (case k9 => first | exact hV'.handed | k_handed); k_whole))
    | (k_here; (with_reducible show wpAny _ _ (call (Value.builtin "len") [_]) _ _ _); k_dflt (refine' len_buf ?kbN ?kbV ?kbZ ?_; (case kbN => k_asm); (case kbV => first | assumption | exact IsBuf.cons (by assumption) | exact IsBuf.cons (IsBuf.cons (by assumption)) | exact IsBuf.cons (IsBuf.cons (IsBuf.cons (by assumption))) | exact IsBuf.mono (by assumption) (by intro p hp; simp [hp])); (case kbZ => assumption)); intro t' k')
    | ((with_reducible show wpAny _ _ (call (Value.ref _) _ _) _ _ _); k_here; k_dflt (refine wpAny_call ?_; (refine' code_def ?k1 ?k2 ?k3 ?k4 ?k5 ?kA ?kF ?kK ?k6 ?k7 ?k8 ?k9 ?kB ?_ ?c2 ?c3 ?c4 ?c5; (case kA => exact rfl); (case kF => exact rfl); (case kK => first | exact rfl | assumption); (case k1 => k_asm); (case k2 => k_asm); (case k3 => k_asm); (case k4 => k_asm); (case k5 => k_asm); (case k6 => k_is); (case k7 => k_is); (case k8 => ktr_room); (case k9 => first | exact BindsTo.of_eq rfl | exact binds_K (by k_in) rfl (by k_is) rfl rfl rfl); (case c5 => decide); (case kB => exact locs rfl); (case c2 => exact rfl); (case c3 => exact rfl); (case c4 => exact rfl); k_whole; intro g' L' h' FG' F' N' B' X' T'; (try dsimp only); (try k_lift B'); (try k_fold))))
    | (k_unfold; (try dsimp only)) | (k_end; wrow_close) | walk1 | (dsimp only; walk1) | (leave1; walk_say "STEP leave1"; try dsimp only) | fail "no step"))
  all_goals (refine hret _ _ _ (by assumption) (cb_drop (by assumption) (by intro p hp; simp [hp])) ?_)
  all_goals rfl

theorem rget6_c {tb d : Addr} {h1 h2 : Int} {t1 t2 tx t : Tok} {nn : Nat} {v : Value} {b : Array UInt8} {y : Int} {x : Int} {u : Tok} (hT : IsTab news tb d h1 h2 t1 t2 nn v y tx) (hv : IsBuf news v b) (hz : b.size ≤ 16777216) (h0 : 0 ≤ x) (hx : x ≤ b.size) (hi : b.size < x + 2) :
    CtrO w p loose mean mg mb 24 333 news [.ref tb, .int 6 u, .int x t] (fun r => r = .none) := by
  intro dp un gd cn cs a ccd A₀ base h₀ L m s Q E B F X N T XB TB hk hd hu hret
  rcases s with ⟨sh, sg, sd, sk, so⟩
  dsimp only at F N hret ⊢
  w_top on
  refine wpAny_call ?_
  (refine' code_defS0 ?k1 ?k2 ?k3 ?k4 ?k5 ?kA ?k6 ?k7 ?k8 ?k9 ?kB ?_ ?cK ?c2 ?c3 ?c4 ?c5; (case kA => exact rfl); (case k2 => k_asm); (case k1 => k_asm); (case k3 => k_asm); (case k4 => k_asm); (case k5 => k_asm); (case k6 => k_is); (case k7 => k_is); (case k8 => ktr_room); (case k9 => first | exact BindsTo.of_eq rfl | exact binds_K (by k_in) rfl (by k_is) rfl rfl rfl); (case kB => exact locs rfl); (case cK => exact hk); (case c2 => exact rfl); (case c3 => exact rfl); (case c4 => exact rfl); (case c5 => decide); k_whole; intro g' L' h' FG' F' N' B' X' T' D'; (try dsimp only); (try k_lift B'); (try k_fold))
  (repeat' (first
    | ((with_reducible show wpAny _ _ _ _ _ (Shared.mk _ (Shared.gens _) _ _ _)); dsimp only)
    | (k_here; (with_reducible show wpAny _ _ (call (Value.ref 305) [Value.int 6 _]) _ _ _); k_dflt (refine' (flags6_c ) _ _ _ _ _ _ _ _ _ _ _ _ _ _ _ _ _ ?kcB ?kcF ?kcX ?kcN ?kcT ?kcK ?kcD ?kcU ?_; (case kcB => k_asm); (case kcF => k_asm); (case kcX => k_asm); (case kcN => k_asm); (case kcT => k_asm); (case kcK => first | exact rfl | assumption); (case kcD => ktr_room); (case kcU => ktr_units);  (intro r' h' tk' F' N' R'; (try dsimp only); (try k_fold); (try k_sweep); (have e9 : r' = _ := R'; subst e9))))
    | (k_here; (with_reducible show wpAny _ _ (call (Value.ref 207) [Value.int _ _, Value.ref 196]) _ _ _); k_dflt (refine' (enfU_c ?kaA ?kaB) _ _ _ _ _ _ _ _ _ _ _ _ _ _ _ _ _ ?kcB ?kcF ?kcX ?kcN ?kcT ?kcK ?kcD ?kcU ?_; (case kcB => k_asm); (case kcF => k_asm); (case kcX => k_asm); (case kcN => k_asm); (case kcT => k_asm); (case kcK => first | exact rfl | assumption); (case kcD => ktr_room); (case kcU => ktr_units); (case kaA => first | assumption | omega | decide); (case kaB => first | assumption | omega | decide); (intro r' h' tk' F' N' R'; (try dsimp only); (try k_fold); (try k_sweep); (have e9 : r' = _ := R'; subst e9))))
    | ((with_reducible show wpAny _ _ (getMethod (Value.ref _) _ _) _ _ _); k_here; (with_reducible rename IsTab _ _ _ _ _ _ _ _ _ _ _ => hT'); k_dflt (refine' method_inst ?k1 ?k2 (InstAt.of_news ?kn ?ko ?kd) ?k4 ?k5 ?k6 ?k7 ?_; (case k1 => k_asm); (case k2 => k_asm); (case kn => k_asm); (case ko => repeat (first | exact hT'.obj | refine List.Mem.tail _ ?_ | refine List.mem_append_right _ ?_)); (case kd => repeat (first | exact hT'.dict | refine List.Mem.tail _ ?_ | refine List.mem_append_right _ ?_)); (case k4 => k_is); (case k5 => k_is); (case k6 => k_is); (case k7 => k_get); k_whole))
    | ((with_reducible show wpAny _ _ (getAttr (Value.ref _) _ _) _ _ _); k_here; (with_reducible rename IsTab _ _ _ _ _ _ _ _ _ _ _ => hT'); (with_reducible rename IsBuf _ _ _ => hV'); k_dflt (refine' get_own ?k1 ?k2 (InstAt.of_news ?kn ?ko ?kd) ?k4 ?k5 ?k6 ?k7 ?k8 ?k9 ?_; (case k1 => k_asm); (case k2 => k_asm); (case kn => k_asm); (case ko => repeat (first | exact hT'.obj | refine List.Mem.tail _ ?_ | refine List.mem_append_right _ ?_)); (case kd => repeat (first | exact hT'.dict | refine List.Mem.tail _ ?_ | refine List.mem_append_right _ ?_)); (case k4 => k_is); (case k5 => k_is); (case k6 => k_is); (case k7 => k_is); (case k8 => k_get); (case k9 => first | exact hV'.handed | k_handed); k_whole))
    | (k_here; (with_reducible show wpAny _ _ (call (Value.builtin "len") [_]) _ _ _); k_dflt (refine' len_buf ?kbN ?kbV ?kbZ ?_; (case kbN => k_asm); (case kbV => first | assumption | exact IsBuf.cons (by assumption) | exact IsBuf.cons (IsBuf.cons (by assumption)) | exact IsBuf.cons (IsBuf.cons (IsBuf.cons (by assumption))) | exact IsBuf.mono (by assumption) (by intro p hp; simp [hp])); (case kbZ => assumption)); intro t' k')
    | ((with_reducible show wpAny _ _ (call (Value.ref _) _ _) _ _ _); k_here; k_dflt (refine wpAny_call ?_; (refine' code_def ?k1 ?k2 ?k3 ?k4 ?k5 ?kA ?kF ?kK ?k6 ?k7 ?k8 ?k9 ?kB ?_ ?c2 ?c3 ?c4 ?c5; (case kA => exact rfl); (case kF => exact rfl); (case kK => first | exact rfl | assumption); (case k1 => k_asm); (case k2 => k_asm); (case k3 => k_asm); (case k4 => k_asm); (case k5 => k_asm); (case k6 => k_is); (case k7 => k_is); (case k8 => ktr_room); (case k9 => first | exact BindsTo.of_eq rfl | exact binds_K (by k_in) rfl (by k_is) rfl rfl rfl); (case c5 => decide); (case kB => exact locs rfl); (case c2 => exact rfl); (case c3 => exact rfl); (case c4 => exact rfl); k_whole; intro g' L' h' FG' F' N' B' X' T'; (try dsimp only); (try k_lift B'); (try k_fold))))
    | (k_unfold; (try dsimp only)) | (k_end; wrow_close) | walk1 | (dsimp only; walk1) | (leave1; walk_say "STEP leave1"; try dsimp only) | fail "no step"))
  all_goals (refine hret _ _ _ (by assumption) (cb_drop (by assumption) (by intro p hp; simp [hp])) ?_)
  all_goals rfl

theorem rget7_c {tb d : Addr} {h1 h2 : Int} {t1 t2 tx t : Tok} {nn : Nat} {v : Value} {b : Array UInt8} {y : Int} {x : Int} {u : Tok} (hT : IsTab news tb d h1 h2 t1 t2 nn v y tx) (hv : IsBuf news v b) (hz : b.size ≤ 16777216) (h0 : 0 ≤ x) (hx : x ≤ b.size) (hi : b.size < x + 4) :
    CtrO w p loose mean mg mb 24 333 news [.ref tb, .int 7 u, .int x t] (fun r => r = .none) := by
  intro dp un gd cn cs a ccd A₀ base h₀ L m s Q E B F X N T XB TB hk hd hu hret
  rcases s with ⟨sh, sg, sd, sk, so⟩
  dsimp only at F N hret ⊢
  w_top on
  refine wpAny_call ?_
  (refine' code_defS0 ?k1 ?k2 ?k3 ?k4 ?k5 ?kA ?k6 ?k7 ?k8 ?k9 ?kB ?_ ?cK ?c2 ?c3 ?c4 ?c5; (case kA => exact rfl); (case k2 => k_asm); (case k1 => k_asm); (case k3 => k_asm); (case k4 => k_asm); (case k5 => k_asm); (case k6 => k_is); (case k7 => k_is); (case k8 => ktr_room); (case k9 => first | exact BindsTo.of_eq rfl | exact binds_K (by k_in) rfl (by k_is) rfl rfl rfl); (case kB => exact locs rfl); (case cK => exact hk); (case c2 => exact rfl); (case c3 => exact rfl); (case c4 => exact rfl); (case c5 => decide); k_whole; intro g' L' h' FG' F' N' B' X' T' D'; (try dsimp only); (try k_lift B'); (try k_fold))
  (repeat' (first
    | ((with_reducible show wpAny _ _ _ _ _ (Shared.mk _ (Shared.gens _) _ _ _)); dsimp only)
    | (k_here; (with_reducible show wpAny _ _ (call (Value.ref 305) [Value.int 7 _]) _ _ _); k_dflt (refine' (flags7_c ) _ _ _ _ _ _ _ _ _ _ _ _ _ _ _ _ _ ?kcB ?kcF ?kcX ?kcN ?kcT ?kcK ?kcD ?kcU ?_; (case kcB => k_asm); (case kcF => k_asm); (case kcX => k_asm); (case kcN => k_asm); (case kcT => k_asm); (case kcK => first | exact rfl | assumption); (case kcD => ktr_room); (case kcU => ktr_units);  (intro r' h' tk' F' N' R'; (try dsimp only); (try k_fold); (try k_sweep); (have e9 : r' = _ := R'; subst e9))))
    | (k_here; (with_reducible show wpAny _ _ (call (Value.ref 207) [Value.int _ _, Value.ref 196]) _ _ _); k_dflt (refine' (enfU_c ?kaA ?kaB) _ _ _ _ _ _ _ _ _ _ _ _ _ _ _ _ _ ?kcB ?kcF ?kcX ?kcN ?kcT ?kcK ?kcD ?kcU ?_; (case kcB => k_asm); (case kcF => k_asm); (case kcX => k_asm); (case kcN => k_asm); (case kcT => k_asm); (case kcK => first | exact rfl | assumption); (case kcD => ktr_room); (case kcU => ktr_units); (case kaA => first | assumption | omega | decide); (case kaB => first | assumption | omega | decide); (intro r' h' tk' F' N' R'; (try dsimp only); (try k_fold); (try k_sweep); (have e9 : r' = _ := R'; subst e9))))
    | ((with_reducible show wpAny _ _ (getMethod (Value.ref _) _ _) _ _ _); k_here; (with_reducible rename IsTab _ _ _ _ _ _ _ _ _ _ _ => hT'); k_dflt (refine' method_inst ?k1 ?k2 (InstAt.of_news ?kn ?ko ?kd) ?k4 ?k5 ?k6 ?k7 ?_; (case k1 => k_asm); (case k2 => k_asm); (case kn => k_asm); (case ko => repeat (first | exact hT'.obj | refine List.Mem.tail _ ?_ | refine List.mem_append_right _ ?_)); (case kd => repeat (first | exact hT'.dict | refine List.Mem.tail _ ?_ | refine List.mem_append_right _ ?_)); (case k4 => k_is); (case k5 => k_is); (case k6 => k_is); (case k7 => k_get); k_whole))
    | ((with_reducible show wpAny _ _ (getAttr (Value.ref _) _ _) _ _ _); k_here; (with_reducible rename IsTab _ _ _ _ _ _ _ _ _ _ _ => hT'); (with_reducible rename IsBuf _ _ _ => hV'); k_dflt (refine' get_own ?k1 ?k2 (InstAt.of_news ?kn ?ko ?kd) ?k4 ?k5 ?k6 ?k7 ?k8 ?k9 ?_; (case k1 => k_asm); (case k2 => k_asm); (case kn => k_asm); (case ko => repeat (first | exact hT'.obj | refine List.Mem.tail _ ?_ | refine List.mem_append_right _ ?_)); (case kd => repeat (first | exact hT'.dict | refine List.Mem.tail _ ?_ | refine List.mem_append_right _ ?_)); (case k4 => k_is); (case k5 => k_is); (case k6 => k_is); (case k7 => k_is); (case k8 => k_get); (case k9 => first | exact hV'.handed | k_handed); k_whole))
    | (k_here; (with_reducible show wpAny _ _ (call (Value.builtin "len") [_]) _ _ _); k_dflt (refine' len_buf ?kbN ?kbV ?kbZ ?_; (case kbN => k_asm); (case kbV => first | assumption | exact IsBuf.cons (by assumption) | exact IsBuf.cons (IsBuf.cons (by assumption)) | exact IsBuf.cons (IsBuf.cons (IsBuf.cons (by assumption))) | exact IsBuf.mono (by assumption) (by intro p hp; simp [hp])); (case kbZ => assumption)); intro t' k')
    | ((with_reducible show wpAny _ _ (call (Value.ref _) _ _) _ _ _); k_here; k_dflt (refine wpAny_call ?_; (refine' code_def ?k1 ?k2 ?k3 ?k4 ?k5 ?kA ?kF ?kK ?k6 ?k7 ?k8 ?k9 ?kB ?_ ?c2 ?c3 ?c4 ?c5; (case kA => exact rfl); (case kF => exact rfl); (case kK => first | exact rfl | assumption); (case k1 => k_asm); (case k2 => k_asm); (case k3 => k_asm); (case k4 => k_asm); (case k5 => k_asm); (case k6 => k_is); (case k7 => k_is); (case k8 => ktr_room); (case k9 => first | exact BindsTo.of_eq rfl | exact binds_K (by k_in) rfl (by k_is) rfl rfl rfl); (case c5 => decide); (case kB => exact locs rfl); (case c2 => exact rfl); (case c3 => exact rfl); (case c4 => exact rfl); k_whole; intro g' L' h' FG' F' N' B' X' T'; (try dsimp only); (try k_lift B'); (try k_fold))))
    | (k_unfold; (try dsimp only)) | (k_end; wrow_close) | walk1 | (dsimp only; walk1) | (leave1; walk_say "STEP leave1"; try dsimp only) | fail "no step"))
  all_goals (refine hret _ _ _ (by assumption) (cb_drop (by assumption) (by intro p hp; simp [hp])) ?_)
  all_goals rfl

theorem rget8_c {tb d : Addr} {h1 h2 : Int} {t1 t2 tx t : Tok} {nn : Nat} {v : Value} {b : Array UInt8} {y : Int} {x : Int} {u : Tok} (hT : IsTab news tb d h1 h2 t1 t2 nn v y tx) (hv : IsBuf news v b) (hz : b.size ≤ 16777216) (h0 : 0 ≤ x) (hx : x ≤ b.size) (hi : b.size < x + 8) :
    CtrO w p loose mean mg mb 24 333 news [.ref tb, .int 8 u, .int x t] (fun r => r = .none) := by
  intro dp un gd cn cs a ccd A₀ base h₀ L m s Q E B F X N T XB TB hk hd hu hret
  rcases s with ⟨sh, sg, sd, sk, so⟩
  dsimp only at F N hret ⊢
  w_top on
  refine wpAny_call ?_
  (refine' code_defS0 ?k1 ?k2 ?k3 ?k4 ?k5 ?kA ?k6 ?k7 ?k8 ?k9 ?kB ?_ ?cK ?c2 ?c3 ?c4 ?c5; (case kA => exact rfl); (case k2 => k_asm); (case k1 => k_asm); (case k3 => k_asm); (case k4 => k_asm); (case k5 => k_asm); (case k6 => k_is); (case k7 => k_is); (case k8 => ktr_room); (case k9 => first | exact BindsTo.of_eq rfl | exact binds_K (by k_in) rfl (by k_is) rfl rfl rfl); (case kB => exact locs rfl); (case cK => exact hk); (case c2 => exact rfl); (case c3 => exact rfl); (case c4 => exact rfl); (case c5 => decide); k_whole; intro g' L' h' FG' F' N' B' X' T' D'; (try dsimp only); (try k_lift B'); (try k_fold))
  (repeat' (first
    | ((with_reducible show wpAny _ _ _ _ _ (Shared.mk _ (Shared.gens _) _ _ _)); dsimp only)
    | (k_here; (with_reducible show wpAny _ _ (call (Value.ref 305) [Value.int 8 _]) _ _ _); k_dflt (refine' (flags8_c ) _ _ _ _ _ _ _ _ _ _ _ _ _ _ _ _ _ ?kcB ?kcF ?kcX ?kcN ?kcT ?kcK ?kcD ?kcU ?_; (case kcB => k_asm); (case kcF => k_asm); (case kcX => k_asm); (case kcN => k_asm); (case kcT => k_asm); (case kcK => first | exact rfl | assumption); (case kcD => ktr_room); (case kcU => ktr_units);  (intro r' h' tk' F' N' R'; (try dsimp only); (try k_fold); (try k_sweep); (have e9 : r' = _ := R'; subst e9))))
    | (k_here; (with_reducible show wpAny _ _ (call (Value.ref 207) [Value.int _ _, Value.ref 196]) _ _ _); k_dflt (refine' (enfU_c ?kaA ?kaB) _ _ _ _ _ _ _ _ _ _ _ _ _ _ _ _ _ ?kcB ?kcF ?kcX ?kcN ?kcT ?kcK ?kcD ?kcU ?_; (case kcB => k_asm); (case kcF => k_asm); (case kcX => k_asm); (case kcN => k_asm); (case kcT => k_asm); (case kcK => first | exact rfl | assumption); (case kcD => ktr_room); (case kcU => ktr_units); (case kaA => first | assumption | omega | decide); (case kaB => first | assumption | omega | decide); (intro r' h' tk' F' N' R'; (try dsimp only); (try k_fold); (try k_sweep); (have e9 : r' = _ := R'; subst e9))))
    | ((with_reducible show wpAny _ _ (getMethod (Value.ref _) _ _) _ _ _); k_here; (with_reducible rename IsTab _ _ _ _ _ _ _ _ _ _ _ => hT'); k_dflt (refine' method_inst ?k1 ?k2 (InstAt.of_news ?kn ?ko ?kd) ?k4 ?k5 ?k6 ?k7 ?_; (case k1 => k_asm); (case k2 => k_asm); (case kn => k_asm); (case ko => repeat (first | exact hT'.obj | refine List.Mem.tail _ ?_ | refine List.mem_append_right _ ?_)); (case kd => repeat (first | exact hT'.dict | refine List.Mem.tail _ ?_ | refine List.mem_append_right _ ?_)); (case k4 => k_is); (case k5 => k_is); (case k6 => k_is); (case k7 => k_get); k_whole))
    | ((with_reducible show wpAny _ _ (getAttr (Value.ref _) _ _) _ _ _); k_here; (with_reducible rename IsTab _ _ _ _ _ _ _ _ _ _ _ => hT'); (with_reducible rename IsBuf _ _ _ => hV'); k_dflt (refine' get_own ?k1 ?k2 (InstAt.of_news ?kn ?ko ?kd) ?k4 ?k5 ?k6 ?k7 ?k8 ?k9 ?_; (case k1 => k_asm); (case k2 => k_asm); (case kn => k_asm); (case ko => repeat (first | exact hT'.obj | refine List.Mem.tail _ ?_ | refine List.mem_append_right _ ?_)); (case kd => repeat (first | exact hT'.dict | refine List.Mem.tail _ ?_ | refine List.mem_append_right _ ?_)); (case k4 => k_is); (case k5 => k_is); (case k6 => k_is); (case k7 => k_is); (case k8 => k_get); (case k9 => first | exact hV'.handed | k_handed); k_whole))
    | (k_here; (with_reducible show wpAny _ _ (call (Value.builtin "len") [_]) _ _ _); k_dflt (refine' len_buf ?kbN ?kbV ?kbZ ?_; (case kbN => k_asm); (case kbV => first | assumption | exact IsBuf.cons (by assumption) | exact IsBuf.cons (IsBuf.cons (by assumption)) | exact IsBuf.cons (IsBuf.cons (IsBuf.cons (by assumption))) | exact IsBuf.mono (by assumption) (by intro p hp; simp [hp])); (case kbZ => assumption)); intro t' k')
    | ((with_reducible show wpAny _ _ (call (Value.ref _) _ _) _ _ _); k_here; k_dflt (refine wpAny_call ?_; (refine' code_def ?k1 ?k2 ?k3 ?k4 ?k5 ?kA ?kF ?kK ?k6 ?k7 ?k8 ?k9 ?kB ?_ ?c2 ?c3 ?c4 ?c5; (case kA => exact rfl); (case kF => exact rfl); (case kK => first | exact rfl | assumption); (case k1 => k_asm); (case k2 => k_asm); (case k3 => k_asm); (case k4 => k_asm); (case k5 => k_asm); (case k6 => k_is); (case k7 => k_is); (case k8 => ktr_room); (case k9 => first | exact BindsTo.of_eq rfl | exact binds_K (by k_in) rfl (by k_is) rfl rfl rfl); (case c5 => decide); (case kB => exact locs rfl); (case c2 => exact rfl); (case c3 => exact rfl); (case c4 => exact rfl); k_whole; intro g' L' h' FG' F' N' B' X' T'; (try dsimp only); (try k_lift B'); (try k_fold))))
    | (k_unfold; (try dsimp only)) | (k_end; wrow_close) | walk1 | (dsimp only; walk1) | (leave1; walk_say "STEP leave1"; try dsimp only) | fail "no step"))
  all_goals (refine hret _ _ _ (by assumption) (cb_drop (by assumption) (by intro p hp; simp [hp])) ?_)
  all_goals rfl
end

end Mine

end
/-! text Ctr10 -/
section
open PySem PySem.W PyProof.Rows PySem.Calls
set_option Elab.async false
set_option maxRecDepth 100000
set_option maxHeartbeats 8000000
namespace Mine

/-- a def that is left by a TypeError -/
abbrev CtrE (w : World) (p : Program) (loose : List Str) (mean : ExcName → Option Value) (mg mb : Str → Option Value) (d : Nat) (f : Addr) (news : List (Addr × Obj)) (vs : List Value) : Prop :=
  ∀ (dp un : Nat) (gd : Option (List Code)) (cn : Str) (cs : Scope) (a : Addr) (ccd : Value) (cl : List (Str × Addr)) (outer : List Env) (A₀ : Around) (base h₀ : Heap) (L : Addr) (m : Str → Option Value) (s : Shared) (Q E : Value → Shared → Prop),
    Below A₀ base outer h₀ → Fr h₀ L s.heap m → (hd.heap_1 w.params).In h₀ → News h₀ L s.heap news → Top p loose mean mg mb h₀ → cs.kind = .function → dp + d < recursionLimit → un + 10 * d < cLine →
    (∀ (g' : Heap) (e : Addr) (h' : Heap) (tk' : Nat), Fr h₀ L g' m → RaisedSN base g' (envX cn cs L a ccd cl :: outer) e (.type "TypeError") news h' → RaisedN base (envX cn cs L a ccd cl :: outer) e (.type "TypeError") news h' → g'.UpToSlots h' → E (.ref e) { s with heap := h', toks := tk' }) →
    wpAny (model PySem.Challenge.rw_jm0001_01.row.prog w) (ktrTop dp un gd cn cs L a ccd cl outer) (call (.ref f) vs) Q E s
section
variable {prog : Program} {w : World} {A : Around} {E : Value → Shared → Prop} {s : Shared} {p : Bool} {n : Int} {u : Tok} {Q : Value → Shared → Prop}
theorem gives_le_bi : Gives (Builtin.«int.__le__» ⟨[.bool p, .int n u], []⟩) (.val (Value.bool (decide ((if p = true then (1 : Int) else 0) ≤ n)))) :=
  .of_wp fun M A E s Q h => by obtain ⟨hp, g, d, tk, os⟩ := s; wp_walk; exact ⟨_, rfl, h⟩
theorem gives_ge_bi : Gives (Builtin.«int.__ge__» ⟨[.bool p, .int n u], []⟩) (.val (Value.bool (decide ((if p = true then (1 : Int) else 0) ≥ n)))) :=
  .of_wp fun M A E s Q h => by obtain ⟨hp, g, d, tk, os⟩ := s; wp_walk; exact ⟨_, rfl, h⟩
theorem le_bi (h : Q (.bool (decide ((if p = true then (1 : Int) else 0) ≤ n))) s) : wpAny (model prog w) A (compareOp .LtE (.bool p) (.int n u)) Q E s := by
  show wpAny _ A (richCompare .LtE _ _) Q E s
  exact wpAny_richCompare_left rfl (typeIs_int s n u) (by decide) F.sub_int_bool F.slot_bool_le (call_gives F.slot_bool_le rfl F.entry_int_le (F.args_int_le_2 _ _) gives_le_bi ⟨nofun, h⟩)
theorem le_ib (h : Q (.bool (decide ((if p = true then (1 : Int) else 0) ≥ n))) s) : wpAny (model prog w) A (compareOp .LtE (.int n u) (.bool p)) Q E s := by
  show wpAny _ A (richCompare .LtE _ _) Q E s
  exact PySem.SeqAt.rc_sub_first_or (typeIs_int s n u) rfl (by decide) F.sub_bool_int F.slot_bool_ge_refl (call_gives F.slot_bool_ge rfl F.entry_int_ge (F.args_int_ge_2 _ _) gives_ge_bi ⟨nofun, h⟩) (.inl rfl)
end
section
variable {x : Int} {n : PySem.Str}
theorem numLen (hl : -1180591620717411303424 < x) (hh : x < 1180591620717411303424) : (PySem.Str.ofString (toString x)).length ≤ 31 := by
  cases x with
  | ofNat m =>
    have p : (10 : Int) ^ 30 = 1000000000000000000000000000000 := by decide
    have h' : Int.ofNat m < (10 : Int) ^ 30 := by rw [p]; omega
    exact Nat.le_trans (toString_length_le (v := Int.ofNat m) (k := 30) (Int.natCast_nonneg m) (by decide) h') (by decide)
  | negSucc m =>
    have p : (10 : Int) ^ 30 = 1000000000000000000000000000000 := by decide
    have h := toString_length_le (v := ((m + 1 : Nat) : Int)) (k := 30) (Int.natCast_nonneg _) (by decide) (by omega)
    rw [PySem.ofString_length] at h ⊢
    have e : toString (Int.negSucc m) = "-" ++ toString ((m + 1 : Nat) : Int) := rfl
    rw [e, String.length_append]
    have e2 : ("-" : String).length = 1 := rfl
    omega
theorem app31 {a b : PySem.Str} {k : Nat} (ha : a.length ≤ k) (hb : b.length ≤ 31) : (a ++ b).length ≤ k + 31 := KT.len_app ha hb
theorem toLine {a : Nat} (h : a ≤ 500) : a ≤ sizeLine := by rw [sizeLine_eq]; omega
end
def hiM (k : Nat) : Int := [1, 255, 65535, 4294967295, 18446744073709551615, 127, 32767, 2147483647, 9223372036854775807].getD k 0
theorem fillIt10 : (PySem.Challenge.rw_jm0001_01 = PySem.Challenge.rw_jm0001_01 ∧ hd.heap_1 = hd.heap_1) → True := by
  k_fill
  intro _
  trivial
section
variable {w : World} {p : Program} {loose : List Str} {mean : ExcName → Option Value} {mg mb : Str → Option Value} {news : List (Addr × Obj)}

theorem enfE0_c {x : Int} {t : Tok} (h0 : 1 < x) (hl : -1180591620717411303424 < x) (hh : x < 1180591620717411303424) : CtrE w p loose mean mg mb 4 207 news [.int x t, .ref 166] := by
  intro dp un gd cn cs a ccd cl outer A₀ base h₀ L m s Q E B F X N T hk hd hu hret
  rcases s with ⟨sh, sg, sd, sk, so⟩
  dsimp only at F N hret ⊢
  w_top on
  have kd0 : KtsDicts [] h₀ := ktsDicts_nil
  refine wpAny_call ?_
  k_dflt cell_enter
  (repeat' (first
    | ((with_reducible show wpAny _ _ (exec (Stmt.Raise _ _ _) _) _ _ _); k_here; (with_reducible refine' Raise_new ?kbA ?_); (case kbA => exact rfl))
    | ((with_reducible show wpAny _ _ _ _ _ (Shared.mk _ (Shared.gens _) _ _ _)); dsimp only)
    | (k_here; (first | (with_reducible show wpAny _ _ (joinParts _ []) _ _ _) | (with_reducible show wpAny _ _ (joinParts _ (evalEach [] _)) _ _ _)); (try (with_reducible refine joinParts_nilE ?_)); (with_reducible refine' joinParts_nil ?_ ?kcL); (case kcL => (with_reducible refine toLine ?_); (repeat' (first | decide | (with_reducible refine app31 ?_ ?_) | (with_reducible exact numLen (by assumption) (by assumption))))))
    | ((with_reducible show _ ∧ _); (with_reducible show PySem.Str.length _ ≤ sizeLine ∧ wpAny _ _ (joinParts _ _) _ _ _); refine ⟨toLine ?kcL, ?_⟩; (case kcL => (repeat' (first | decide | (with_reducible refine app31 ?_ ?_) | (with_reducible exact numLen (by assumption) (by assumption))))))
    | ((with_reducible show wpAny _ _ (compareOp CmpOp.LtE _ _) _ _ _); k_here; first | (with_reducible refine le_bi ?_) | (with_reducible refine le_ib ?_))
    | (k_unfold; (try dsimp only)) | (k_end; wrow_close) | walk1 | (dsimp only; walk1) | (leave1; walk_say "STEP leave1"; try dsimp only) | fail "no step"))
  all_goals exact hret _ _ _ _ (by assumption) (by assumption) (by assumption) (by assumption)

theorem enfE1_c {x : Int} {t : Tok} (h0 : 255 < x) (hl : -1180591620717411303424 < x) (hh : x < 1180591620717411303424) : CtrE w p loose mean mg mb 4 207 news [.int x t, .ref 169] := by
  intro dp un gd cn cs a ccd cl outer A₀ base h₀ L m s Q E B F X N T hk hd hu hret
  rcases s with ⟨sh, sg, sd, sk, so⟩
  dsimp only at F N hret ⊢
  w_top on
  have kd0 : KtsDicts [] h₀ := ktsDicts_nil
  refine wpAny_call ?_
  k_dflt cell_enter
  (repeat' (first
    | ((with_reducible show wpAny _ _ (exec (Stmt.Raise _ _ _) _) _ _ _); k_here; (with_reducible refine' Raise_new ?kbA ?_); (case kbA => exact rfl))
    | ((with_reducible show wpAny _ _ _ _ _ (Shared.mk _ (Shared.gens _) _ _ _)); dsimp only)
    | (k_here; (first | (with_reducible show wpAny _ _ (joinParts _ []) _ _ _) | (with_reducible show wpAny _ _ (joinParts _ (evalEach [] _)) _ _ _)); (try (with_reducible refine joinParts_nilE ?_)); (with_reducible refine' joinParts_nil ?_ ?kcL); (case kcL => (with_reducible refine toLine ?_); (repeat' (first | decide | (with_reducible refine app31 ?_ ?_) | (with_reducible exact numLen (by assumption) (by assumption))))))
    | ((with_reducible show _ ∧ _); (with_reducible show PySem.Str.length _ ≤ sizeLine ∧ wpAny _ _ (joinParts _ _) _ _ _); refine ⟨toLine ?kcL, ?_⟩; (case kcL => (repeat' (first | decide | (with_reducible refine app31 ?_ ?_) | (with_reducible exact numLen (by assumption) (by assumption))))))
    | (k_unfold; (try dsimp only)) | (k_end; wrow_close) | walk1 | (dsimp only; walk1) | (leave1; walk_say "STEP leave1"; try dsimp only) | fail "no step"))
  all_goals exact hret _ _ _ _ (by assumption) (by assumption) (by assumption) (by assumption)

theorem enfE2_c {x : Int} {t : Tok} (h0 : 65535 < x) (hl : -1180591620717411303424 < x) (hh : x < 1180591620717411303424) : CtrE w p loose mean mg mb 4 207 news [.int x t, .ref 172] := by
  intro dp un gd cn cs a ccd cl outer A₀ base h₀ L m s Q E B F X N T hk hd hu hret
  rcases s with ⟨sh, sg, sd, sk, so⟩
  dsimp only at F N hret ⊢
  w_top on
  have kd0 : KtsDicts [] h₀ := ktsDicts_nil
  refine wpAny_call ?_
  k_dflt cell_enter
  (repeat' (first
    | ((with_reducible show wpAny _ _ (exec (Stmt.Raise _ _ _) _) _ _ _); k_here; (with_reducible refine' Raise_new ?kbA ?_); (case kbA => exact rfl))
    | ((with_reducible show wpAny _ _ _ _ _ (Shared.mk _ (Shared.gens _) _ _ _)); dsimp only)
    | (k_here; (first | (with_reducible show wpAny _ _ (joinParts _ []) _ _ _) | (with_reducible show wpAny _ _ (joinParts _ (evalEach [] _)) _ _ _)); (try (with_reducible refine joinParts_nilE ?_)); (with_reducible refine' joinParts_nil ?_ ?kcL); (case kcL => (with_reducible refine toLine ?_); (repeat' (first | decide | (with_reducible refine app31 ?_ ?_) | (with_reducible exact numLen (by assumption) (by assumption))))))
    | ((with_reducible show _ ∧ _); (with_reducible show PySem.Str.length _ ≤ sizeLine ∧ wpAny _ _ (joinParts _ _) _ _ _); refine ⟨toLine ?kcL, ?_⟩; (case kcL => (repeat' (first | decide | (with_reducible refine app31 ?_ ?_) | (with_reducible exact numLen (by assumption) (by assumption))))))
    | (k_unfold; (try dsimp only)) | (k_end; wrow_close) | walk1 | (dsimp only; walk1) | (leave1; walk_say "STEP leave1"; try dsimp only) | fail "no step"))
  all_goals exact hret _ _ _ _ (by assumption) (by assumption) (by assumption) (by assumption)

theorem enfE3_c {x : Int} {t : Tok} (h0 : 4294967295 < x) (hl : -1180591620717411303424 < x) (hh : x < 1180591620717411303424) : CtrE w p loose mean mg mb 4 207 news [.int x t, .ref 175] := by
  intro dp un gd cn cs a ccd cl outer A₀ base h₀ L m s Q E B F X N T hk hd hu hret
  rcases s with ⟨sh, sg, sd, sk, so⟩
  dsimp only at F N hret ⊢
  w_top on
  have kd0 : KtsDicts [] h₀ := ktsDicts_nil
  refine wpAny_call ?_
  k_dflt cell_enter
  (repeat' (first
    | ((with_reducible show wpAny _ _ (exec (Stmt.Raise _ _ _) _) _ _ _); k_here; (with_reducible refine' Raise_new ?kbA ?_); (case kbA => exact rfl))
    | ((with_reducible show wpAny _ _ _ _ _ (Shared.mk _ (Shared.gens _) _ _ _)); dsimp only)
    | (k_here; (first | (with_reducible show wpAny _ _ (joinParts _ []) _ _ _) | (with_reducible show wpAny _ _ (joinParts _ (evalEach [] _)) _ _ _)); (try (with_reducible refine joinParts_nilE ?_)); (with_reducible refine' joinParts_nil ?_ ?kcL); (case kcL => (with_reducible refine toLine ?_); (repeat' (first | decide | (with_reducible refine app31 ?_ ?_) | (with_reducible exact numLen (by assumption) (by assumption))))))
    | ((with_reducible show _ ∧ _); (with_reducible show PySem.Str.length _ ≤ sizeLine ∧ wpAny _ _ (joinParts _ _) _ _ _); refine ⟨toLine ?kcL, ?_⟩; (case kcL => (repeat' (first | decide | (with_reducible refine app31 ?_ ?_) | (with_reducible exact numLen (by assumption) (by assumption))))))
    | (k_unfold; (try dsimp only)) | (k_end; wrow_close) | walk1 | (dsimp only; walk1) | (leave1; walk_say "STEP leave1"; try dsimp only) | fail "no step"))
  all_goals exact hret _ _ _ _ (by assumption) (by assumption) (by assumption) (by assumption)

theorem enfE4_c {x : Int} {t : Tok} (h0 : 18446744073709551615 < x) (hl : -1180591620717411303424 < x) (hh : x < 1180591620717411303424) : CtrE w p loose mean mg mb 4 207 news [.int x t, .ref 178] := by
  intro dp un gd cn cs a ccd cl outer A₀ base h₀ L m s Q E B F X N T hk hd hu hret
  rcases s with ⟨sh, sg, sd, sk, so⟩
  dsimp only at F N hret ⊢
  w_top on
  have kd0 : KtsDicts [] h₀ := ktsDicts_nil
  refine wpAny_call ?_
  k_dflt cell_enter
  (repeat' (first
    | ((with_reducible show wpAny _ _ (exec (Stmt.Raise _ _ _) _) _ _ _); k_here; (with_reducible refine' Raise_new ?kbA ?_); (case kbA => exact rfl))
    | ((with_reducible show wpAny _ _ _ _ _ (Shared.mk _ (Shared.gens _) _ _ _)); dsimp only)
    | (k_here; (first | (with_reducible show wpAny _ _ (joinParts _ []) _ _ _) | (with_reducible show wpAny _ _ (joinParts _ (evalEach [] _)) _ _ _)); (try (with_reducible refine joinParts_nilE ?_)); (with_reducible refine' joinParts_nil ?_ ?kcL); (case kcL => (with_reducible refine toLine ?_); (repeat' (first | decide | (with_reducible refine app31 ?_ ?_) | (with_reducible exact numLen (by assumption) (by assumption))))))
    | ((with_reducible show _ ∧ _); (with_reducible show PySem.Str.length _ ≤ sizeLine ∧ wpAny _ _ (joinParts _ _) _ _ _); refine ⟨toLine ?kcL, ?_⟩; (case kcL => (repeat' (first | decide | (with_reducible refine app31 ?_ ?_) | (with_reducible exact numLen (by assumption) (by assumption))))))
    | (k_unfold; (try dsimp only)) | (k_end; wrow_close) | walk1 | (dsimp only; walk1) | (leave1; walk_say "STEP leave1"; try dsimp only) | fail "no step"))
  all_goals exact hret _ _ _ _ (by assumption) (by assumption) (by assumption) (by assumption)

theorem enfE5_c {x : Int} {t : Tok} (h0 : 127 < x) (hl : -1180591620717411303424 < x) (hh : x < 1180591620717411303424) : CtrE w p loose mean mg mb 4 207 news [.int x t, .ref 181] := by
  intro dp un gd cn cs a ccd cl outer A₀ base h₀ L m s Q E B F X N T hk hd hu hret
  rcases s with ⟨sh, sg, sd, sk, so⟩
  dsimp only at F N hret ⊢
  w_top on
  have kd0 : KtsDicts [] h₀ := ktsDicts_nil
  refine wpAny_call ?_
  k_dflt cell_enter
  (repeat' (first
    | ((with_reducible show wpAny _ _ (exec (Stmt.Raise _ _ _) _) _ _ _); k_here; (with_reducible refine' Raise_new ?kbA ?_); (case kbA => exact rfl))
    | ((with_reducible show wpAny _ _ _ _ _ (Shared.mk _ (Shared.gens _) _ _ _)); dsimp only)
    | (k_here; (first | (with_reducible show wpAny _ _ (joinParts _ []) _ _ _) | (with_reducible show wpAny _ _ (joinParts _ (evalEach [] _)) _ _ _)); (try (with_reducible refine joinParts_nilE ?_)); (with_reducible refine' joinParts_nil ?_ ?kcL); (case kcL => (with_reducible refine toLine ?_); (repeat' (first | decide | (with_reducible refine app31 ?_ ?_) | (with_reducible exact numLen (by assumption) (by assumption))))))
    | ((with_reducible show _ ∧ _); (with_reducible show PySem.Str.length _ ≤ sizeLine ∧ wpAny _ _ (joinParts _ _) _ _ _); refine ⟨toLine ?kcL, ?_⟩; (case kcL => (repeat' (first | decide | (with_reducible refine app31 ?_ ?_) | (with_reducible exact numLen (by assumption) (by assumption))))))
    | (k_unfold; (try dsimp only)) | (k_end; wrow_close) | walk1 | (dsimp only; walk1) | (leave1; walk_say "STEP leave1"; try dsimp only) | fail "no step"))
  all_goals exact hret _ _ _ _ (by assumption) (by assumption) (by assumption) (by assumption)

theorem enfE6_c {x : Int} {t : Tok} (h0 : 32767 < x) (hl : -1180591620717411303424 < x) (hh : x < 1180591620717411303424) : CtrE w p loose mean mg mb 4 207 news [.int x t, .ref 184] := by
  intro dp un gd cn cs a ccd cl outer A₀ base h₀ L m s Q E B F X N T hk hd hu hret
  rcases s with ⟨sh, sg, sd, sk, so⟩
  dsimp only at F N hret ⊢
  w_top on
  have kd0 : KtsDicts [] h₀ := ktsDicts_nil
  refine wpAny_call ?_
  k_dflt cell_enter
  (repeat' (first
    | ((with_reducible show wpAny _ _ (exec (Stmt.Raise _ _ _) _) _ _ _); k_here; (with_reducible refine' Raise_new ?kbA ?_); (case kbA => exact rfl))
    | ((with_reducible show wpAny _ _ _ _ _ (Shared.mk _ (Shared.gens _) _ _ _)); dsimp only)
    | (k_here; (first | (with_reducible show wpAny _ _ (joinParts _ []) _ _ _) | (with_reducible show wpAny _ _ (joinParts _ (evalEach [] _)) _ _ _)); (try (with_reducible refine joinParts_nilE ?_)); (with_reducible refine' joinParts_nil ?_ ?kcL); (case kcL => (with_reducible refine toLine ?_); (repeat' (first | decide | (with_reducible refine app31 ?_ ?_) | (with_reducible exact numLen (by assumption) (by assumption))))))
    | ((with_reducible show _ ∧ _); (with_reducible show PySem.Str.length _ ≤ sizeLine ∧ wpAny _ _ (joinParts _ _) _ _ _); refine ⟨toLine ?kcL, ?_⟩; (case kcL => (repeat' (first | decide | (with_reducible refine app31 ?_ ?_) | (with_reducible exact numLen (by assumption) (by assumption))))))
    | (k_unfold; (try dsimp only)) | (k_end; wrow_close) | walk1 | (dsimp only; walk1) | (leave1; walk_say "STEP leave1"; try dsimp only) | fail "no step"))
  all_goals exact hret _ _ _ _ (by assumption) (by assumption) (by assumption) (by assumption)

theorem enfE7_c {x : Int} {t : Tok} (h0 : 2147483647 < x) (hl : -1180591620717411303424 < x) (hh : x < 1180591620717411303424) : CtrE w p loose mean mg mb 4 207 news [.int x t, .ref 187] := by
  intro dp un gd cn cs a ccd cl outer A₀ base h₀ L m s Q E B F X N T hk hd hu hret
  rcases s with ⟨sh, sg, sd, sk, so⟩
  dsimp only at F N hret ⊢
  w_top on
  have kd0 : KtsDicts [] h₀ := ktsDicts_nil
  refine wpAny_call ?_
  k_dflt cell_enter
  (repeat' (first
    | ((with_reducible show wpAny _ _ (exec (Stmt.Raise _ _ _) _) _ _ _); k_here; (with_reducible refine' Raise_new ?kbA ?_); (case kbA => exact rfl))
    | ((with_reducible show wpAny _ _ _ _ _ (Shared.mk _ (Shared.gens _) _ _ _)); dsimp only)
    | (k_here; (first | (with_reducible show wpAny _ _ (joinParts _ []) _ _ _) | (with_reducible show wpAny _ _ (joinParts _ (evalEach [] _)) _ _ _)); (try (with_reducible refine joinParts_nilE ?_)); (with_reducible refine' joinParts_nil ?_ ?kcL); (case kcL => (with_reducible refine toLine ?_); (repeat' (first | decide | (with_reducible refine app31 ?_ ?_) | (with_reducible exact numLen (by assumption) (by assumption))))))
    | ((with_reducible show _ ∧ _); (with_reducible show PySem.Str.length _ ≤ sizeLine ∧ wpAny _ _ (joinParts _ _) _ _ _); refine ⟨toLine ?kcL, ?_⟩; (case kcL => (repeat' (first | decide | (with_reducible refine app31 ?_ ?_) | (with_reducible exact numLen (by assumption) (by assumption))))))
    | (k_unfold; (try dsimp only)) | (k_end; wrow_close) | walk1 | (dsimp only; walk1) | (leave1; walk_say "STEP leave1"; try dsimp only) | fail "no step"))
  all_goals exact hret _ _ _ _ (by assumption) (by assumption) (by assumption) (by assumption)

theorem enfE8_c {x : Int} {t : Tok} (h0 : 9223372036854775807 < x) (hl : -1180591620717411303424 < x) (hh : x < 1180591620717411303424) : CtrE w p loose mean mg mb 4 207 news [.int x t, .ref 190] := by
  intro dp un gd cn cs a ccd cl outer A₀ base h₀ L m s Q E B F X N T hk hd hu hret
  rcases s with ⟨sh, sg, sd, sk, so⟩
  dsimp only at F N hret ⊢
  w_top on
  have kd0 : KtsDicts [] h₀ := ktsDicts_nil
  refine wpAny_call ?_
  k_dflt cell_enter
  (repeat' (first
    | ((with_reducible show wpAny _ _ (exec (Stmt.Raise _ _ _) _) _ _ _); k_here; (with_reducible refine' Raise_new ?kbA ?_); (case kbA => exact rfl))
    | ((with_reducible show wpAny _ _ _ _ _ (Shared.mk _ (Shared.gens _) _ _ _)); dsimp only)
    | (k_here; (first | (with_reducible show wpAny _ _ (joinParts _ []) _ _ _) | (with_reducible show wpAny _ _ (joinParts _ (evalEach [] _)) _ _ _)); (try (with_reducible refine joinParts_nilE ?_)); (with_reducible refine' joinParts_nil ?_ ?kcL); (case kcL => (with_reducible refine toLine ?_); (repeat' (first | decide | (with_reducible refine app31 ?_ ?_) | (with_reducible exact numLen (by assumption) (by assumption))))))
    | ((with_reducible show _ ∧ _); (with_reducible show PySem.Str.length _ ≤ sizeLine ∧ wpAny _ _ (joinParts _ _) _ _ _); refine ⟨toLine ?kcL, ?_⟩; (case kcL => (repeat' (first | decide | (with_reducible refine app31 ?_ ?_) | (with_reducible exact numLen (by assumption) (by assumption))))))
    | (k_unfold; (try dsimp only)) | (k_end; wrow_close) | walk1 | (dsimp only; walk1) | (leave1; walk_say "STEP leave1"; try dsimp only) | fail "no step"))
  all_goals exact hret _ _ _ _ (by assumption) (by assumption) (by assumption) (by assumption)

theorem enfUL_c {x : Int} {t : Tok} (h0 : x < 0) (hl : -1180591620717411303424 < x) (hh : x < 1180591620717411303424) : CtrE w p loose mean mg mb 4 207 news [.int x t, .ref 196] := by
  intro dp un gd cn cs a ccd cl outer A₀ base h₀ L m s Q E B F X N T hk hd hu hret
  rcases s with ⟨sh, sg, sd, sk, so⟩
  dsimp only at F N hret ⊢
  w_top on
  have kd0 : KtsDicts [] h₀ := ktsDicts_nil
  refine wpAny_call ?_
  k_dflt cell_enter
  (repeat' (first
    | ((with_reducible show wpAny _ _ (exec (Stmt.Raise _ _ _) _) _ _ _); k_here; (with_reducible refine' Raise_new ?kbA ?_); (case kbA => exact rfl))
    | ((with_reducible show wpAny _ _ _ _ _ (Shared.mk _ (Shared.gens _) _ _ _)); dsimp only)
    | (k_here; (first | (with_reducible show wpAny _ _ (joinParts _ []) _ _ _) | (with_reducible show wpAny _ _ (joinParts _ (evalEach [] _)) _ _ _)); (try (with_reducible refine joinParts_nilE ?_)); (with_reducible refine' joinParts_nil ?_ ?kcL); (case kcL => (with_reducible refine toLine ?_); (repeat' (first | decide | (with_reducible refine app31 ?_ ?_) | (with_reducible exact numLen (by assumption) (by assumption))))))
    | ((with_reducible show _ ∧ _); (with_reducible show PySem.Str.length _ ≤ sizeLine ∧ wpAny _ _ (joinParts _ _) _ _ _); refine ⟨toLine ?kcL, ?_⟩; (case kcL => (repeat' (first | decide | (with_reducible refine app31 ?_ ?_) | (with_reducible exact numLen (by assumption) (by assumption))))))
    | (k_unfold; (try dsimp only)) | (k_end; wrow_close) | walk1 | (dsimp only; walk1) | (leave1; walk_say "STEP leave1"; try dsimp only) | fail "no step"))
  all_goals exact hret _ _ _ _ (by assumption) (by assumption) (by assumption) (by assumption)

theorem enfUH_c {x : Int} {t : Tok} (h0 : 4294967295 < x) (hl : -1180591620717411303424 < x) (hh : x < 1180591620717411303424) : CtrE w p loose mean mg mb 4 207 news [.int x t, .ref 196] := by
  intro dp un gd cn cs a ccd cl outer A₀ base h₀ L m s Q E B F X N T hk hd hu hret
  rcases s with ⟨sh, sg, sd, sk, so⟩
  dsimp only at F N hret ⊢
  w_top on
  have kd0 : KtsDicts [] h₀ := ktsDicts_nil
  refine wpAny_call ?_
  k_dflt cell_enter
  (repeat' (first
    | ((with_reducible show wpAny _ _ (exec (Stmt.Raise _ _ _) _) _ _ _); k_here; (with_reducible refine' Raise_new ?kbA ?_); (case kbA => exact rfl))
    | ((with_reducible show wpAny _ _ _ _ _ (Shared.mk _ (Shared.gens _) _ _ _)); dsimp only)
    | (k_here; (first | (with_reducible show wpAny _ _ (joinParts _ []) _ _ _) | (with_reducible show wpAny _ _ (joinParts _ (evalEach [] _)) _ _ _)); (try (with_reducible refine joinParts_nilE ?_)); (with_reducible refine' joinParts_nil ?_ ?kcL); (case kcL => (with_reducible refine toLine ?_); (repeat' (first | decide | (with_reducible refine app31 ?_ ?_) | (with_reducible exact numLen (by assumption) (by assumption))))))
    | ((with_reducible show _ ∧ _); (with_reducible show PySem.Str.length _ ≤ sizeLine ∧ wpAny _ _ (joinParts _ _) _ _ _); refine ⟨toLine ?kcL, ?_⟩; (case kcL => (repeat' (first | decide | (with_reducible refine app31 ?_ ?_) | (with_reducible exact numLen (by assumption) (by assumption))))))
    | (k_unfold; (try dsimp only)) | (k_end; wrow_close) | walk1 | (dsimp only; walk1) | (leave1; walk_say "STEP leave1"; try dsimp only) | fail "no step"))
  all_goals exact hret _ _ _ _ (by assumption) (by assumption) (by assumption) (by assumption)

theorem enfVH_c {x : Int} {t : Tok} (h0 : 65535 < x) (hl : -1180591620717411303424 < x) (hh : x < 1180591620717411303424) : CtrE w p loose mean mg mb 4 207 news [.int x t, .ref 199] := by
  intro dp un gd cn cs a ccd cl outer A₀ base h₀ L m s Q E B F X N T hk hd hu hret
  rcases s with ⟨sh, sg, sd, sk, so⟩
  dsimp only at F N hret ⊢
  w_top on
  have kd0 : KtsDicts [] h₀ := ktsDicts_nil
  refine wpAny_call ?_
  k_dflt cell_enter
  (repeat' (first
    | ((with_reducible show wpAny _ _ (exec (Stmt.Raise _ _ _) _) _ _ _); k_here; (with_reducible refine' Raise_new ?kbA ?_); (case kbA => exact rfl))
    | ((with_reducible show wpAny _ _ _ _ _ (Shared.mk _ (Shared.gens _) _ _ _)); dsimp only)
    | (k_here; (first | (with_reducible show wpAny _ _ (joinParts _ []) _ _ _) | (with_reducible show wpAny _ _ (joinParts _ (evalEach [] _)) _ _ _)); (try (with_reducible refine joinParts_nilE ?_)); (with_reducible refine' joinParts_nil ?_ ?kcL); (case kcL => (with_reducible refine toLine ?_); (repeat' (first | decide | (with_reducible refine app31 ?_ ?_) | (with_reducible exact numLen (by assumption) (by assumption))))))
    | ((with_reducible show _ ∧ _); (with_reducible show PySem.Str.length _ ≤ sizeLine ∧ wpAny _ _ (joinParts _ _) _ _ _); refine ⟨toLine ?kcL, ?_⟩; (case kcL => (repeat' (first | decide | (with_reducible refine app31 ?_ ?_) | (with_reducible exact numLen (by assumption) (by assumption))))))
    | (k_unfold; (try dsimp only)) | (k_end; wrow_close) | walk1 | (dsimp only; walk1) | (leave1; walk_say "STEP leave1"; try dsimp only) | fail "no step"))
  all_goals exact hret _ _ _ _ (by assumption) (by assumption) (by assumption) (by assumption)

theorem enfU_E {x : Int} {t : Tok} (h0 : x < 0 ∨ 4294967295 < x) (hl : -1180591620717411303424 < x) (hh : x < 1180591620717411303424) : CtrE w p loose mean mg mb 4 207 news [.int x t, .ref 196] := by
  rcases h0 with h | h
  · exact enfUL_c h hl hh
  · exact enfUH_c h hl hh
theorem enfK_E {x : Int} {t : Tok} {k : Nat} (hk : k < 9) (h0 : hiM k < x) (hl : -1180591620717411303424 < x) (hh : x < 1180591620717411303424) : CtrE w p loose mean mg mb 4 207 news [.int x t, .ref (flA k)] := by
  rcases lt9 hk with rfl | rfl | rfl | rfl | rfl | rfl | rfl | rfl | rfl
  · exact enfE0_c h0 hl hh
  · exact enfE1_c h0 hl hh
  · exact enfE2_c h0 hl hh
  · exact enfE3_c h0 hl hh
  · exact enfE4_c h0 hl hh
  · exact enfE5_c h0 hl hh
  · exact enfE6_c h0 hl hh
  · exact enfE7_c h0 hl hh
  · exact enfE8_c h0 hl hh
end

end Mine

end
/-! text ForT -/
section
open PySem PySem.W PyProof.Rows PySem.Calls
set_option Elab.async false
set_option maxRecDepth 100000
namespace Mine
section
variable {prog : Program} {w : World} {A : Around} {E : Value → Shared → Prop} {s : Shared} {name : Str} {scope : Scope} {L a : Addr} {cd : Value} {px pos : Pos} {iter : PySem.Expr} {body : List Stmt} {c : Nat} {g : Heap} {m : Str → Option Value} {news : List (Addr × Obj)} {Q : Flow → Shared → Prop} {x ac : Str}
theorem fr_keeps {h h' : Heap} (F : Fr g L h m) (hk : ∀ b o, h.get? b = some o → h'.get? b = some o) : Fr g L h' m := by
  obtain ⟨⟨o, es, n, h1, h2, h3, h4⟩, k, ab⟩ := F
  exact ⟨⟨o, es, n, hk _ _ h1, h2, h3, h4⟩, fun b o e => hk _ _ (k b o e), ab⟩
theorem news_keeps {h h' : Heap} (N : News g L h news) (hk : ∀ b o, h.get? b = some o → h'.get? b = some o) : News g L h' news := fun p hp => ⟨hk _ _ (N p hp).1, (N p hp).2⟩

/-- a for loop over a range, turn by turn; the ground may turn (P); one count ac goes along -/
theorem for_turns (P : Heap → Prop) (ac : Str) (hxa : x ≠ ac) (hh : A.handled = none) (hsc : scope.kind = .function) (hxl : (envOf name scope L a cd).kindOf x = some .local)
    (F : Fr g L s.heap m) (N : News g L s.heap news) (hP : P g) (h0 : ∃ t, m ac = some (.int 0 t)) (hcs : Builtin.Range.small 0 c 1 = true) (hcz : Builtin.Range.rangeSize 0 c 1 = (c : Int))
    (hev : wpAny (model prog w) A (eval iter (envOf name scope L a cd)) (fun v s₁ => ∃ r t u v' h' tk', v = .ref r ∧ s₁ = { s with heap := h', toks := tk' } ∧ IsRange h' r 0 c 1 t u v' ∧ (∀ b o, s.heap.get? b = some o → h'.get? b = some o)) E s)
    (turn : ∀ (i : Nat), i < c → ∀ (z : Int), z = (i : Int) → ∀ (g' : Heap) (I : Addr) (o : Obj) (h : Heap) (tk : Nat) (t ta : Tok), P g' → Fr g' L h (fun y => if y = x then some (.int z t) else if y = ac then some (.int z ta) else m y) → News g' L h ((I, o) :: news) →
      wpAny (model prog w) A (execs body (envOf name scope L a cd)) (fun f s' => f = .next ∧ ∃ g'' h' tk' m'' ta', s' = { s with heap := h', toks := tk' } ∧ P g'' ∧ m'' ac = some (.int (z + 1) ta') ∧ (∀ y, y ≠ ac → y ≠ x → m'' y = m y) ∧ Fr g'' L h' m'' ∧ News g'' L h' ((I, o) :: news))
        (notedBy (model prog w) A (envOf name scope L a cd) fun e s' => cameBackBy (model prog w) A (envOf name scope L a cd) E e s') { s with heap := h, toks := tk })
    (fin : ∀ (g' h : Heap) (tk : Nat) (ta : Tok) (u : Option Value), P g' → Fr g' L h (fun y => if y = ac then some (.int c ta) else if y = x then u else m y) → News g' L h news → Q .next { s with heap := h, toks := tk })
    (hs : ∀ x, foldedSetIterable iter (envOf name scope L a cd) x = pure x := by intro _; rfl) :
    wpAny (model prog w) A (exec (.For (.Name x px) iter body [] pos) (envOf name scope L a cd)) Q E s := by
  refine wpAny_For (wpAny_mono hev (fun v s₁ h₁ => ?_) fun _ _ e => e) hs
  obtain ⟨r, t, u, v', h', tk', rfl, rfl, hr, hk⟩ := h₁
  refine wpAny_pyIter_range hr hcs ?_
  have F1 := fr_keeps F hk
  have N1 := news_keeps N hk
  have hI0 : g.get? h'.objs.size = none := next_is_new F1
  have hIn : ∀ p ∈ news, p.1 ≠ h'.objs.size := fun p hp => Nat.ne_of_lt (Heap.lt_size (N1 p hp).1)
  let J : Nat → Shared → Prop := fun n s' => ∃ (i : Nat) (g' hp : Heap) (tk : Nat) (m' : Str → Option Value) (ta : Tok), n + i = c ∧ s' = { s with heap := hp, toks := tk } ∧ P g' ∧ m' ac = some (.int (i : Int) ta) ∧ (∀ y, y ≠ ac → y ≠ x → m' y = m y) ∧ Fr g' L hp m' ∧ News g' L hp ((h'.objs.size, itR (i : Int) ((c : Int) - (i : Int))) :: news)
  refine codeAny_forLoop_any J (fun n s' hJ => ?_) c ?_
  · obtain ⟨i, g', hp, tk, m', ta, hni, rfl, hPg, hac, hoth, F2, N2⟩ := hJ
    have hit : IsRangeIter hp h'.objs.size (i : Int) ((c : Int) - (i : Int)) 1 := (N2 _ (.head _)).1
    have hILe : h'.objs.size ≠ L := (N2 _ (.head _)).2.1
    have hIg : g'.get? h'.objs.size = none := (N2 _ (.head _)).2.2
    by_cases hic : i = c
    · subst hic
      refine wpAny_pyNext_range_end hh hit (by omega) (fun h3 hext => ?_)
      refine wpAny_execs_nil ?_
      have F3 : Fr g' L h3 m' := by
        obtain ⟨⟨o, es, n, h1, h2, h4, h5⟩, k, ab⟩ := F2
        exact ⟨⟨o, es, n, hext _ _ (Ne.symm hILe) h1, h2, h4, h5⟩, fun b o e => hext _ _ (fun q => by rw [q, hIg] at e; cases e) (k b o e), ab⟩
      have N3 : News g' L h3 news := fun p hp => ⟨hext _ _ (hIn p hp) (N2 p (.tail _ hp)).1, (N2 p (.tail _ hp)).2⟩
      refine fin g' h3 _ ta (m' x) hPg ?_ N3
      have e : m' = (fun y => if y = ac then some (.int (i : Int) ta) else if y = x then m' x else m y) := by
        funext y
        by_cases hy : y = ac
        · rw [if_pos hy, hy]; exact hac
        · rw [if_neg hy]
          by_cases hy2 : y = x
          · rw [if_pos hy2, hy2]
          · rw [if_neg hy2]; exact hoth y hy hy2
      rw [← e]
      exact F3
    · refine wpAny_pyNext_range_item hit (by omega) (fun h3 hit3 hsb => ?_)
      refine wpAny_of_eq (a := ()) (by rfl) ?_
      have F3 : Fr g' L h3 m' := by
        obtain ⟨⟨o, es, n, h1, h2, h4, h5⟩, k, ab⟩ := F2
        exact ⟨⟨o, es, n, (hsb.2 _ (Ne.symm hILe)).trans h1, h2, h4, h5⟩, fun b o e => (hsb.2 _ (fun q => by rw [q, hIg] at e; cases e)).trans (k b o e), ab⟩
      have N3 : News g' L h3 ((h'.objs.size, itR ((i : Int) + 1) ((c : Int) - (i : Int) - 1)) :: news) := fun p hp => by
        rcases List.mem_cons.mp hp with rfl | hp
        · exact ⟨hit3, hILe, hIg⟩
        · exact ⟨(hsb.2 _ (hIn p hp)).trans (N2 p (.tail _ hp)).1, (N2 p (.tail _ hp)).2⟩
      refine wpAny_assign_Name ?_
      refine stN F3 N3 (fun h4 F4 N4 => ?_) hsc hxl
      have e : (fun y => if y = x then some (Value.int (i : Int) tk) else m' y) = (fun y => if y = x then some (.int (i : Int) tk) else if y = ac then some (.int (i : Int) ta) else m y) := by
        funext y
        by_cases hy : y = x
        · rw [if_pos hy, if_pos hy]
        · rw [if_neg hy, if_neg hy]
          by_cases hy2 : y = ac
          · rw [if_pos hy2, hy2]; exact hac
          · rw [if_neg hy2]; exact hoth y hy2 hy
      rw [e] at F4
      refine wpAny_mono (turn i (by omega) _ rfl g' _ _ h4 _ tk ta hPg F4 N4) (fun f s4 h5 => ?_) fun _ _ e => e
      obtain ⟨rfl, g5, h5, tk5, m5, ta5, rfl, hP5, hac5, hoth5, F5, N5⟩ := h5
      refine ⟨n - 1, by omega, i + 1, g5, h5, tk5, m5, ta5, by omega, rfl, hP5, hac5, hoth5, F5, ?_⟩
      have e2 : itR (((i + 1 : Nat) : Int)) ((c : Int) - ((i + 1 : Nat) : Int)) = itR ((i : Int) + 1) ((c : Int) - (i : Int) - 1) := by
        have e3 : (c : Int) - ((i + 1 : Nat) : Int) = (c : Int) - (i : Int) - 1 := by omega
        rw [e3]
        rfl
      rw [e2]
      exact N5
  · obtain ⟨t0, e0⟩ := h0
    refine ⟨0, g, _, _, m, t0, by omega, rfl, hP, e0, fun _ _ _ => rfl, F1.push _, fun p hp => ?_⟩
    rcases List.mem_cons.mp hp with rfl | hp
    · refine ⟨?_, ?_, hI0⟩
      · show (h'.push _).get? _ = _
        rw [hcz]
        simpa [itR] using Heap.get?_push_size h' (o := itR 0 c) rfl
      · exact Ne.symm (Nat.ne_of_lt F1.ns.lt)
    · exact ⟨Heap.get?_push_of_some _ (N1 p hp).1, (N1 p hp).2⟩

def TurnP (fs : List Addr) (A₀ : Around) (base : Heap) (outer : List Env) (K : Frag) (p : Program) (loose : List Str) (mean : ExcName → Option Value) (mg mb : Str → Option Value) (g₀ g : Heap) : Prop :=
  KtsTurn fs g₀ g ∧ Below A₀ base outer g ∧ K.In g ∧ Top p loose mean mg mb g ∧ KtsDicts fs g
def RangeEnd (s : Shared) (cI : Int) (v : Value) (s₁ : Shared) : Prop := ∃ r t u v' h' tk', v = .ref r ∧ s₁ = { s with heap := h', toks := tk' } ∧ IsRange h' r 0 cI 1 t u v' ∧ (∀ b o, s.heap.get? b = some o → h'.get? b = some o)
def TurnEnd (P : Heap → Prop) (s : Shared) (L : Addr) (x ac : Str) (z : Int) (m : Str → Option Value) (all : List (Addr × Obj)) (f : Flow) (s' : Shared) : Prop :=
  f = .next ∧ ∃ g'' h' tk' m'' ta', s' = { s with heap := h', toks := tk' } ∧ P g'' ∧ m'' ac = some (.int (z + 1) ta') ∧ (∀ y, y ≠ ac → y ≠ x → m'' y = m y) ∧ Fr g'' L h' m'' ∧ News g'' L h' all
section
variable {fs : List Addr} {A₀ : Around} {base : Heap} {outer : List Env} {K : Frag} {p : Program} {loose : List Str} {mean : ExcName → Option Value} {mg mb : Str → Option Value}
theorem for_turnsP (ac : Str) (cI : Int) (B : Below A₀ base outer g) (X : K.In g) (T : Top p loose mean mg mb g) (D : KtsDicts fs g) (F : Fr g L s.heap m) (N : News g L s.heap news)
    (hxa : x ≠ ac) (hh : A.handled = none) (hsc : scope.kind = .function) (hxl : (envOf name scope L a cd).kindOf x = some .local)
    (h0 : ∃ t, m ac = some (.int 0 t)) (hcI : cI = (c : Int)) (hcs : Builtin.Range.small 0 cI 1 = true) (hcz : Builtin.Range.rangeSize 0 cI 1 = cI)
    (hev : wpAny (model prog w) A (eval iter (envOf name scope L a cd)) (RangeEnd s cI) E s)
    (turn : ∀ (z : Int), 0 ≤ z → z < cI → ∀ (g' : Heap) (I : Addr) (o : Obj) (h : Heap) (tk : Nat) (t ta : Tok), TurnP fs A₀ base outer K p loose mean mg mb g g' → Fr g' L h (fun y => if y = x then some (.int z t) else if y = ac then some (.int z ta) else m y) → News g' L h ((I, o) :: news) →
      wpAny (model prog w) A (execs body (envOf name scope L a cd)) (TurnEnd (TurnP fs A₀ base outer K p loose mean mg mb g) s L x ac z m ((I, o) :: news))
        (notedBy (model prog w) A (envOf name scope L a cd) fun e s' => cameBackBy (model prog w) A (envOf name scope L a cd) E e s') { s with heap := h, toks := tk })
    (fin : ∀ (g' h : Heap) (tk : Nat) (ta : Tok) (u : Option Value), TurnP fs A₀ base outer K p loose mean mg mb g g' → Fr g' L h (fun y => if y = ac then some (.int cI ta) else if y = x then u else m y) → News g' L h news → Q .next { s with heap := h, toks := tk })
    (hs : ∀ x, foldedSetIterable iter (envOf name scope L a cd) x = pure x := by intro _; rfl) :
    wpAny (model prog w) A (exec (.For (.Name x px) iter body [] pos) (envOf name scope L a cd)) Q E s := by
  subst hcI
  refine for_turns (c := c) (TurnP fs A₀ base outer K p loose mean mg mb g) ac hxa hh hsc hxl F N ⟨KtsTurn.refl, B, X, T, D⟩ h0 hcs hcz hev (fun i hi z hz g' I o h tk t ta hP F' N' => ?_) fin hs
  exact turn z (by omega) (by omega) g' I o h tk t ta hP F' N'
theorem lt11 {z : Int} (h0 : 0 ≤ z) (h : z < 11) : z = 0 ∨ z = 1 ∨ z = 2 ∨ z = 3 ∨ z = 4 ∨ z = 5 ∨ z = 6 ∨ z = 7 ∨ z = 8 ∨ z = 9 ∨ z = 10 := by omega
theorem for_turns11 (ac : Str) (B : Below A₀ base outer g) (X : K.In g) (T : Top p loose mean mg mb g) (D : KtsDicts fs g) (F : Fr g L s.heap m) (N : News g L s.heap news)
    (hxa : x ≠ ac) (hh : A.handled = none) (hsc : scope.kind = .function) (hxl : (envOf name scope L a cd).kindOf x = some .local)
    (h0 : ∃ t, m ac = some (.int 0 t)) 
    (hev : wpAny (model prog w) A (eval iter (envOf name scope L a cd)) (RangeEnd s 11) E s)
    (t0 : ∀ (g' : Heap) (I : Addr) (o : Obj) (h : Heap) (tk : Nat) (t ta : Tok), TurnP fs A₀ base outer K p loose mean mg mb g g' → Fr g' L h (fun y => if y = x then some (.int 0 t) else if y = ac then some (.int 0 ta) else m y) → News g' L h ((I, o) :: news) →
      wpAny (model prog w) A (execs body (envOf name scope L a cd)) (TurnEnd (TurnP fs A₀ base outer K p loose mean mg mb g) s L x ac 0 m ((I, o) :: news))
        (notedBy (model prog w) A (envOf name scope L a cd) fun e s' => cameBackBy (model prog w) A (envOf name scope L a cd) E e s') { s with heap := h, toks := tk })
    (t1 : ∀ (g' : Heap) (I : Addr) (o : Obj) (h : Heap) (tk : Nat) (t ta : Tok), TurnP fs A₀ base outer K p loose mean mg mb g g' → Fr g' L h (fun y => if y = x then some (.int 1 t) else if y = ac then some (.int 1 ta) else m y) → News g' L h ((I, o) :: news) →
      wpAny (model prog w) A (execs body (envOf name scope L a cd)) (TurnEnd (TurnP fs A₀ base outer K p loose mean mg mb g) s L x ac 1 m ((I, o) :: news))
        (notedBy (model prog w) A (envOf name scope L a cd) fun e s' => cameBackBy (model prog w) A (envOf name scope L a cd) E e s') { s with heap := h, toks := tk })
    (t2 : ∀ (g' : Heap) (I : Addr) (o : Obj) (h : Heap) (tk : Nat) (t ta : Tok), TurnP fs A₀ base outer K p loose mean mg mb g g' → Fr g' L h (fun y => if y = x then some (.int 2 t) else if y = ac then some (.int 2 ta) else m y) → News g' L h ((I, o) :: news) →
      wpAny (model prog w) A (execs body (envOf name scope L a cd)) (TurnEnd (TurnP fs A₀ base outer K p loose mean mg mb g) s L x ac 2 m ((I, o) :: news))
        (notedBy (model prog w) A (envOf name scope L a cd) fun e s' => cameBackBy (model prog w) A (envOf name scope L a cd) E e s') { s with heap := h, toks := tk })
    (t3 : ∀ (g' : Heap) (I : Addr) (o : Obj) (h : Heap) (tk : Nat) (t ta : Tok), TurnP fs A₀ base outer K p loose mean mg mb g g' → Fr g' L h (fun y => if y = x then some (.int 3 t) else if y = ac then some (.int 3 ta) else m y) → News g' L h ((I, o) :: news) →
      wpAny (model prog w) A (execs body (envOf name scope L a cd)) (TurnEnd (TurnP fs A₀ base outer K p loose mean mg mb g) s L x ac 3 m ((I, o) :: news))
        (notedBy (model prog w) A (envOf name scope L a cd) fun e s' => cameBackBy (model prog w) A (envOf name scope L a cd) E e s') { s with heap := h, toks := tk })
    (t4 : ∀ (g' : Heap) (I : Addr) (o : Obj) (h : Heap) (tk : Nat) (t ta : Tok), TurnP fs A₀ base outer K p loose mean mg mb g g' → Fr g' L h (fun y => if y = x then some (.int 4 t) else if y = ac then some (.int 4 ta) else m y) → News g' L h ((I, o) :: news) →
      wpAny (model prog w) A (execs body (envOf name scope L a cd)) (TurnEnd (TurnP fs A₀ base outer K p loose mean mg mb g) s L x ac 4 m ((I, o) :: news))
        (notedBy (model prog w) A (envOf name scope L a cd) fun e s' => cameBackBy (model prog w) A (envOf name scope L a cd) E e s') { s with heap := h, toks := tk })
    (t5 : ∀ (g' : Heap) (I : Addr) (o : Obj) (h : Heap) (tk : Nat) (t ta : Tok), TurnP fs A₀ base outer K p loose mean mg mb g g' → Fr g' L h (fun y => if y = x then some (.int 5 t) else if y = ac then some (.int 5 ta) else m y) → News g' L h ((I, o) :: news) →
      wpAny (model prog w) A (execs body (envOf name scope L a cd)) (TurnEnd (TurnP fs A₀ base outer K p loose mean mg mb g) s L x ac 5 m ((I, o) :: news))
        (notedBy (model prog w) A (envOf name scope L a cd) fun e s' => cameBackBy (model prog w) A (envOf name scope L a cd) E e s') { s with heap := h, toks := tk })
    (t6 : ∀ (g' : Heap) (I : Addr) (o : Obj) (h : Heap) (tk : Nat) (t ta : Tok), TurnP fs A₀ base outer K p loose mean mg mb g g' → Fr g' L h (fun y => if y = x then some (.int 6 t) else if y = ac then some (.int 6 ta) else m y) → News g' L h ((I, o) :: news) →
      wpAny (model prog w) A (execs body (envOf name scope L a cd)) (TurnEnd (TurnP fs A₀ base outer K p loose mean mg mb g) s L x ac 6 m ((I, o) :: news))
        (notedBy (model prog w) A (envOf name scope L a cd) fun e s' => cameBackBy (model prog w) A (envOf name scope L a cd) E e s') { s with heap := h, toks := tk })
    (t7 : ∀ (g' : Heap) (I : Addr) (o : Obj) (h : Heap) (tk : Nat) (t ta : Tok), TurnP fs A₀ base outer K p loose mean mg mb g g' → Fr g' L h (fun y => if y = x then some (.int 7 t) else if y = ac then some (.int 7 ta) else m y) → News g' L h ((I, o) :: news) →
      wpAny (model prog w) A (execs body (envOf name scope L a cd)) (TurnEnd (TurnP fs A₀ base outer K p loose mean mg mb g) s L x ac 7 m ((I, o) :: news))
        (notedBy (model prog w) A (envOf name scope L a cd) fun e s' => cameBackBy (model prog w) A (envOf name scope L a cd) E e s') { s with heap := h, toks := tk })
    (t8 : ∀ (g' : Heap) (I : Addr) (o : Obj) (h : Heap) (tk : Nat) (t ta : Tok), TurnP fs A₀ base outer K p loose mean mg mb g g' → Fr g' L h (fun y => if y = x then some (.int 8 t) else if y = ac then some (.int 8 ta) else m y) → News g' L h ((I, o) :: news) →
      wpAny (model prog w) A (execs body (envOf name scope L a cd)) (TurnEnd (TurnP fs A₀ base outer K p loose mean mg mb g) s L x ac 8 m ((I, o) :: news))
        (notedBy (model prog w) A (envOf name scope L a cd) fun e s' => cameBackBy (model prog w) A (envOf name scope L a cd) E e s') { s with heap := h, toks := tk })
    (t9 : ∀ (g' : Heap) (I : Addr) (o : Obj) (h : Heap) (tk : Nat) (t ta : Tok), TurnP fs A₀ base outer K p loose mean mg mb g g' → Fr g' L h (fun y => if y = x then some (.int 9 t) else if y = ac then some (.int 9 ta) else m y) → News g' L h ((I, o) :: news) →
      wpAny (model prog w) A (execs body (envOf name scope L a cd)) (TurnEnd (TurnP fs A₀ base outer K p loose mean mg mb g) s L x ac 9 m ((I, o) :: news))
        (notedBy (model prog w) A (envOf name scope L a cd) fun e s' => cameBackBy (model prog w) A (envOf name scope L a cd) E e s') { s with heap := h, toks := tk })
    (t10 : ∀ (g' : Heap) (I : Addr) (o : Obj) (h : Heap) (tk : Nat) (t ta : Tok), TurnP fs A₀ base outer K p loose mean mg mb g g' → Fr g' L h (fun y => if y = x then some (.int 10 t) else if y = ac then some (.int 10 ta) else m y) → News g' L h ((I, o) :: news) →
      wpAny (model prog w) A (execs body (envOf name scope L a cd)) (TurnEnd (TurnP fs A₀ base outer K p loose mean mg mb g) s L x ac 10 m ((I, o) :: news))
        (notedBy (model prog w) A (envOf name scope L a cd) fun e s' => cameBackBy (model prog w) A (envOf name scope L a cd) E e s') { s with heap := h, toks := tk })
    (fin : ∀ (g' h : Heap) (tk : Nat) (ta : Tok) (u : Option Value), TurnP fs A₀ base outer K p loose mean mg mb g g' → Fr g' L h (fun y => if y = ac then some (.int 11 ta) else if y = x then u else m y) → News g' L h news → Q .next { s with heap := h, toks := tk })
    (hs : ∀ x, foldedSetIterable iter (envOf name scope L a cd) x = pure x := by intro _; rfl) :
    wpAny (model prog w) A (exec (.For (.Name x px) iter body [] pos) (envOf name scope L a cd)) Q E s := by
  refine for_turnsP (c := 11) ac 11 B X T D F N hxa hh hsc hxl h0 (by decide) (by decide) (by decide) hev (fun z h0 h1 => ?_) fin hs
  rcases lt11 h0 h1 with rfl | rfl | rfl | rfl | rfl | rfl | rfl | rfl | rfl | rfl | rfl
  · exact t0
  · exact t1
  · exact t2
  · exact t3
  · exact t4
  · exact t5
  · exact t6
  · exact t7
  · exact t8
  · exact t9
  · exact t10
end
end
end Mine

end
/-! text Ctr11 -/
section
open PySem PySem.W PyProof.Rows PySem.Calls
set_option Elab.async false
set_option maxRecDepth 100000
set_option maxHeartbeats 8000000
namespace Mine

section
variable {prog : Program} {w : World} {A : Around} {E : Value → Shared → Prop} {s : Shared} {t u : Tok} {Q : Value → Shared → Prop}
theorem pow2_8 (h : Q (.int 256 s.toks) { s with toks := s.toks + 1 }) : wpAny (model prog w) A (binaryOp .Pow (.int 2 t) (.int 8 u)) Q E s := by
  refine pow_int_small (by decide) (by decide) (by decide) ?_
  have e : (2 : Int) ^ (8 : Int).toNat = 256 := by decide
  rw [e]
  exact h
theorem pow2_16 (h : Q (.int 65536 s.toks) { s with toks := s.toks + 1 }) : wpAny (model prog w) A (binaryOp .Pow (.int 2 t) (.int 16 u)) Q E s := by
  refine pow_int_small (by decide) (by decide) (by decide) ?_
  have e : (2 : Int) ^ (16 : Int).toNat = 65536 := by decide
  rw [e]
  exact h
theorem pow2_32 (h : Q (.int 4294967296 s.toks) { s with toks := s.toks + 1 }) : wpAny (model prog w) A (binaryOp .Pow (.int 2 t) (.int 32 u)) Q E s := by
  refine pow_int_small (by decide) (by decide) (by decide) ?_
  have e : (2 : Int) ^ (32 : Int).toNat = 4294967296 := by decide
  rw [e]
  exact h
theorem pow2_64 (h : Q (.int 18446744073709551616 s.toks) { s with toks := s.toks + 1 }) : wpAny (model prog w) A (binaryOp .Pow (.int 2 t) (.int 64 u)) Q E s := by
  refine pow_int_small (by decide) (by decide) (by decide) ?_
  have e : (2 : Int) ^ (64 : Int).toNat = 18446744073709551616 := by decide
  rw [e]
  exact h
theorem pow2_7 (h : Q (.int 128 s.toks) { s with toks := s.toks + 1 }) : wpAny (model prog w) A (binaryOp .Pow (.int 2 t) (.int 7 u)) Q E s := by
  refine pow_int_small (by decide) (by decide) (by decide) ?_
  have e : (2 : Int) ^ (7 : Int).toNat = 128 := by decide
  rw [e]
  exact h
theorem pow2_15 (h : Q (.int 32768 s.toks) { s with toks := s.toks + 1 }) : wpAny (model prog w) A (binaryOp .Pow (.int 2 t) (.int 15 u)) Q E s := by
  refine pow_int_small (by decide) (by decide) (by decide) ?_
  have e : (2 : Int) ^ (15 : Int).toNat = 32768 := by decide
  rw [e]
  exact h
theorem pow2_31 (h : Q (.int 2147483648 s.toks) { s with toks := s.toks + 1 }) : wpAny (model prog w) A (binaryOp .Pow (.int 2 t) (.int 31 u)) Q E s := by
  refine pow_int_small (by decide) (by decide) (by decide) ?_
  have e : (2 : Int) ^ (31 : Int).toNat = 2147483648 := by decide
  rw [e]
  exact h
theorem pow2_63 (h : Q (.int 9223372036854775808 s.toks) { s with toks := s.toks + 1 }) : wpAny (model prog w) A (binaryOp .Pow (.int 2 t) (.int 63 u)) Q E s := by
  refine pow_int_small (by decide) (by decide) (by decide) ?_
  have e : (2 : Int) ^ (63 : Int).toNat = 9223372036854775808 := by decide
  rw [e]
  exact h

theorem execs_one {st : Stmt} {env : Env} {Q : Flow → Shared → Prop} (h : wpAny (model prog w) A (exec st env) Q E s) : wpAny (model prog w) A (execs [st] env) Q E s := by
  refine wpAny_execs_cons (wpAny_mono h (fun f s' hq => ?_) fun _ _ e => e)
  cases f <;> first | exact wpAny_execs_nil hq | exact hq
def CndB (V1 V2 : Int) : Prop := (V1 < 0 ∨ 4294967295 < V1) ∧ -1180591620717411303424 < V1 ∧ V1 < 1180591620717411303424 ∧ (V2 < 0 ∨ 4294967295 < V2) ∧ -1180591620717411303424 < V2 ∧ V2 < 1180591620717411303424
structure Cut2 (s : Shared) (g : Heap) (L : Addr) (m : Str → Option Value) (news : List (Addr × Obj)) (x1 x2 : Str) (C : Int → Int → Prop) (f : Flow) (s' : Shared) : Prop where
  on : f = .next ∧ ∃ V1 V2 t1 t2 h tk, s' = { s with heap := h, toks := tk } ∧ C V1 V2 ∧ Fr g L h (fun y => if y = x2 then some (.int V2 t2) else if y = x1 then some (.int V1 t1) else m y) ∧ News g L h news
theorem wpAny_cut2 {env : Env} {g : Heap} {L : Addr} {m : Str → Option Value} {news : List (Addr × Obj)} {x1 x2 : Str} {st : Stmt} {rest : List Stmt} {Q : Flow → Shared → Prop} (C : Int → Int → Prop) (_F : Fr g L s.heap m) (_N : News g L s.heap news)
    (h1 : wpAny (model prog w) A (exec st env) (Cut2 s g L m news x1 x2 C) E s)
    (h2 : ∀ V1 V2 t1 t2 h tk, C V1 V2 → Fr g L h (fun y => if y = x2 then some (.int V2 t2) else if y = x1 then some (.int V1 t1) else m y) → News g L h news → wpAny (model prog w) A (execs rest env) Q E { s with heap := h, toks := tk }) :
    wpAny (model prog w) A (execs (st :: rest) env) Q E s := by
  refine wpAny_execs_cons (wpAny_mono h1 (fun f s' hf => ?_) fun _ _ e => e)
  obtain ⟨rfl, V1, V2, t1, t2, h, tk, rfl, hC, F, N⟩ := hf.on
  exact h2 V1 V2 t1 t2 h tk hC F N
theorem ite_cut {c : Prop} [Decidable c] {P Q : Prop} (h1 : P) (h2 : Q) : if c then P else Q := by
  by_cases h : c
  · rw [if_pos h]; exact h1
  · rw [if_neg h]; exact h2
theorem out0 {a b : Int} : [a, b].getD (Int.toNat 0) 0 = a := rfl
theorem out1 {a b : Int} : [a, b].getD (Int.toNat 1) 0 = b := rfl
def hiZ (k : Nat) : Int := [1, 256, 65536, 4294967296, 18446744073709551616, 128, 32768, 2147483648, 9223372036854775808].getD k 0
theorem hi3 {kk d : Int} (h0 : 0 ≤ kk) (h9 : kk < 9) (hd0 : 0 ≤ d) (hd3 : d < 3) : (hiM kk.toNat < hiZ kk.toNat + d + if (kk == 0) = true then 1 else 0) ∧ (-1180591620717411303424 < hiZ kk.toNat + d + if (kk == 0) = true then 1 else 0) ∧ (hiZ kk.toNat + d + (if (kk == 0) = true then 1 else 0) < 1180591620717411303424) := by
  rcases int9 h0 h9 with rfl | rfl | rfl | rfl | rfl | rfl | rfl | rfl | rfl
  all_goals (refine ⟨?_, ?_, ?_⟩ <;> simp [hiM, hiZ] <;> omega)
def IsHigh (k : Nat) (r : Value) : Prop := if k = 0 then r = .bool true else ∃ t, r = .int (hiZ k) t
theorem item_hi {value slice : PySem.Expr} {D : Addr} {kk : Int} {a1 a2 a3 a4 a5 a6 a7 a8 : Tok} (hl : IsTup s.heap D [Value.bool true, Value.int 256 a1, Value.int 65536 a2, Value.int 4294967296 a3, Value.int 18446744073709551616 a4, Value.int 128 a5, Value.int 32768 a6, Value.int 2147483648 a7, Value.int 9223372036854775808 a8].toArray)
    (h0 : 0 ≤ kk) (h9 : kk < 9) (h : ∀ v, IsHigh kk.toNat v → Q v s)
    (hs : subscripted slice false (.ref D) (.int kk u) = operate [.ref D, .int kk u] (getItem (.ref D) (.int kk u)) := by with_unfolding_all rfl) :
    wpAny (model prog w) A (subscriptTail value slice (.ref D) (.int kk u)) Q E s := by
  rcases int9 h0 h9 with rfl | rfl | rfl | rfl | rfl | rfl | rfl | rfl | rfl
  · exact tail_any hl.typeIs slot_tuple_getitem.lookup (PyProof.Rows.getItem_tuple hl (by decide) (by decide) (by rfl) (by rfl) (h _ rfl)) hs
  · exact tail_any hl.typeIs slot_tuple_getitem.lookup (PyProof.Rows.getItem_tuple hl (by decide) (by decide) (by rfl) (by rfl) (h _ ⟨_, rfl⟩)) hs
  · exact tail_any hl.typeIs slot_tuple_getitem.lookup (PyProof.Rows.getItem_tuple hl (by decide) (by decide) (by rfl) (by rfl) (h _ ⟨_, rfl⟩)) hs
  · exact tail_any hl.typeIs slot_tuple_getitem.lookup (PyProof.Rows.getItem_tuple hl (by decide) (by decide) (by rfl) (by rfl) (h _ ⟨_, rfl⟩)) hs
  · exact tail_any hl.typeIs slot_tuple_getitem.lookup (PyProof.Rows.getItem_tuple hl (by decide) (by decide) (by rfl) (by rfl) (h _ ⟨_, rfl⟩)) hs
  · exact tail_any hl.typeIs slot_tuple_getitem.lookup (PyProof.Rows.getItem_tuple hl (by decide) (by decide) (by rfl) (by rfl) (h _ ⟨_, rfl⟩)) hs
  · exact tail_any hl.typeIs slot_tuple_getitem.lookup (PyProof.Rows.getItem_tuple hl (by decide) (by decide) (by rfl) (by rfl) (h _ ⟨_, rfl⟩)) hs
  · exact tail_any hl.typeIs slot_tuple_getitem.lookup (PyProof.Rows.getItem_tuple hl (by decide) (by decide) (by rfl) (by rfl) (h _ ⟨_, rfl⟩)) hs
  · exact tail_any hl.typeIs slot_tuple_getitem.lookup (PyProof.Rows.getItem_tuple hl (by decide) (by decide) (by rfl) (by rfl) (h _ ⟨_, rfl⟩)) hs

theorem add_hi {k : Nat} {v : Value} {z : Int} (hv : IsHigh k v) (h : ∀ t, Q (.int (hiZ k + z) t) { s with toks := s.toks + 1 }) : wpAny (model prog w) A (binaryOp .Add v (.int z u)) Q E s := by
  unfold IsHigh at hv
  split at hv
  · subst hv
    rename_i e
    subst e
    exact IntBool.add_bool_int (h _)
  · obtain ⟨t, rfl⟩ := hv
    exact add_int (h _)
theorem isTup_news {h₀ h : Heap} {L D : Addr} {news : List (Addr × Obj)} {its : Array Value} {n : Nat} (N : News h₀ L h news) (hm : (D, ({ cls := .type "tuple", data := .seq its n } : Obj)) ∈ news) : IsTup h D its := ⟨_, N.get hm, rfl, _, rfl⟩
end
theorem fillIt11 : (PySem.Challenge.rw_jm0001_01 = PySem.Challenge.rw_jm0001_01 ∧ hd.heap_1 = hd.heap_1) → True := by
  k_fill
  intro _
  trivial



section
variable {w : World} {p : Program} {loose : List Str} {mean : ExcName → Option Value} {mg mb : Str → Option Value} {news : List (Addr × Obj)}

theorem refd_c {tb d : Addr} {h1 h2 : Int} {t1 t2 tx t : Tok} {nn : Nat} {v : Value} {b : Array UInt8} {y : Int} {kk dr : Int} {u : Tok} (hT : IsTab news tb d h1 h2 t1 t2 nn v y tx) (hv : IsBuf news v b) (hz : b.size ≤ 16777216) (hk0 : 0 ≤ kk) (hk9 : kk < 9) (hd0 : 0 ≤ dr) :
    CtrO w p loose mean mg mb 24 347 news [.ref tb, .int kk u, .int dr t] (fun r => r = .bool true) := by
  have f70000 := fmod_lo dr (n := 70000) (by decide)
  have e70000 := fmod_hi dr (n := 70000) (by decide)
  have f9 := fmod_lo dr (n := 9) (by decide)
  have e9 := fmod_hi dr (n := 9) (by decide)
  have f3 := fmod_lo dr (n := 3) (by decide)
  have e3 := fmod_hi dr (n := 3) (by decide)
  have f5 := fmod_lo dr (n := 5) (by decide)
  have e5 := fmod_hi dr (n := 5) (by decide)
  have f7 := fmod_lo dr (n := 7) (by decide)
  have e7 := fmod_hi dr (n := 7) (by decide)
  obtain ⟨hh1, hh2, hh3⟩ := hi3 hk0 hk9 f3 e3
  intro dp un gd cn cs a ccd A₀ base h₀ L m s Q E B F X N T XB TB hk hd hu hret
  rcases s with ⟨sh, sg, sd, sk, so⟩
  dsimp only at F N hret ⊢
  w_top on
  refine wpAny_call ?_
  (refine' code_defS0 ?k1 ?k2 ?k3 ?k4 ?k5 ?kA ?k6 ?k7 ?k8 ?k9 ?kB ?_ ?cK ?c2 ?c3 ?c4 ?c5; (case kA => exact rfl); (case k2 => k_asm); (case k1 => k_asm); (case k3 => k_asm); (case k4 => k_asm); (case k5 => k_asm); (case k6 => k_is); (case k7 => k_is); (case k8 => ktr_room); (case k9 => first | exact BindsTo.of_eq rfl | exact binds_K (by k_in) rfl (by k_is) rfl rfl rfl); (case kB => exact locs rfl); (case cK => exact hk); (case c2 => exact rfl); (case c3 => exact rfl); (case c4 => exact rfl); (case c5 => decide); k_whole; intro g' L' h' FG' F' N' B' X' T' D'; (try dsimp only); (try k_lift B'); (try k_fold))
  (repeat' (first
    | ((with_reducible show wpAny _ _ _ _ _ (Shared.mk _ (Shared.gens _) _ _ _)); dsimp only)
    | ((with_reducible show Cut2 _ _ _ _ _ _ _ _ _ _); k_here; (refine' Cut2.mk ?_); (refine' ⟨rfl, _, _, _, _, _, _, rfl, ?kq1, ?kq2, ?kq3⟩); (case kq2 => assumption); (case kq1 => (unfold CndB; (try simp only [out0, out1]); (refine' ⟨?_, ?_, ?_, ?_, ?_, ?_⟩ <;> omega))); (case kq3 => exact cb_drop (by assumption) (fun p hp => by first | exact hp | exact .tail _ hp | exact .tail _ (.tail _ hp) | exact .tail _ (.tail _ (.tail _ hp)))))
    | ((with_reducible show (if ((Int.fmod (Int.fdiv _ 7) 2) == 0) = true then _ else _)); (with_reducible refine ite_cut ?_ ?_) <;> (try dsimp only))
    | (k_here; (with_reducible show wpAny _ _ (execs (Stmt.Assign [Expr.Tuple _ _ _] (Expr.IfExp _ _ _ _) _ :: _) _) _ _ _); (with_reducible rename Fr _ _ _ _ => F9); (with_reducible rename News _ _ _ _ => N9); (with_reducible refine' wpAny_cut2 (x1 := PySem.Str.ofString "below") (x2 := PySem.Str.ofString "beyond") CndB F9 N9 ?_ ?_); all_goals (first | (intro V1 V2 t1' t2' h9 tk9 hC9 F8 N8; (unfold CndB at hC9); obtain ⟨hc1, hc2, hc3, hc4, hc5, hc6⟩ := hC9; clear F9 N9; (try dsimp only); (try k_fold)) | skip))
    | (k_here; (unfold TurnEnd TurnP); (refine' ⟨rfl, _, _, _, _, _, rfl, ⟨?kq1, ?kq2, ?kq3, ?kq4, ?kq5⟩, ?kq6, ?kq7, ?kq8, ?kq9⟩); (case kq8 => assumption); (case kq1 => first | assumption | exact KtsTurn.refl); (case kq2 => assumption); (case kq3 => assumption); (case kq4 => assumption); (case kq5 => assumption); (case kq6 => exact if_pos rfl); (case kq7 => (intro y h1 h2; simp [h1, h2])); (case kq9 => exact cb_drop (by assumption) (fun p hp => by first | exact hp | exact .tail _ hp | exact .tail _ (.tail _ hp) | exact .tail _ (.tail _ (.tail _ hp)) | exact .tail _ (.tail _ (.tail _ (.tail _ hp))))))
    | ((with_reducible show RangeEnd _ _ _ _); (unfold RangeEnd); exact ⟨_, _, _, _, _, _, rfl, rfl, by assumption, by assumption⟩)
    | ((with_reducible show InitBack _ _ _ _); k_here; (dsimp only [InitBack]))
    | ((with_reducible show wpAny _ _ (exec (Stmt.For _ _ _ _ _) _) _ _ _); k_here; (with_reducible rename Below _ _ _ _ => B9); (with_reducible rename KtsDicts _ _ => D9); (with_reducible rename Fr _ _ _ _ => F9); (with_reducible rename News _ _ _ _ => N9); (with_unfolding_all refine' for_turns11 (PySem.Str.ofString "many") B9 ?kX ?kT D9 F9 N9 ?k1 ?k2 ?k3 ?k4 ?k5 ?_ ?_ ?_ ?_ ?_ ?_ ?_ ?_ ?_ ?_ ?_ ?_ ?_); (case kX => k_asm); (case kT => k_asm); (case k1 => decide); (case k2 => with_unfolding_all rfl); (case k3 => exact rfl); (case k4 => first | exact rfl | with_unfolding_all exact rfl | decide); (case k5 => exact ⟨_, rfl⟩); all_goals (first | (intro g9 I9 o9 h9 tk9 t9 ta9 hP9 F9 N9; unfold TurnP at hP9; obtain ⟨T9, B9, X9, P9, D9⟩ := hP9; (try k_lift B9)) | (intro g9 h9 tk9 ta9 u9 hP9 F9 N9; unfold TurnP at hP9; obtain ⟨T9, B9, X9, P9, D9⟩ := hP9; (try k_lift B9)) | skip))
    | (k_here; (with_reducible show wpAny _ _ (execs [_] _) _ _ _); (with_reducible refine execs_one ?_); (try dsimp only); (try k_fold))
    | ((with_reducible show wpAny _ _ (binaryOp Operator.Add _ _) _ _ _); k_here; k_dflt (refine' add_hi ?kbH ?_; (case kbH => assumption)); intro t')
    | (k_here; (with_reducible show wpAny _ _ (subscriptTail _ _ (Value.ref _) (Value.int _ _)) _ _ _); k_dflt (refine' item_hi (isTup_news ?kbN ?kbM) ?kbA ?kbB ?_; (case kbN => k_asm); (case kbM => k_mem); (case kbA => first | assumption | omega | decide); (case kbB => first | assumption | omega | decide)); intro v' hI')
    | ((with_reducible show wpAny _ _ (binaryOp Operator.Pow (Value.int _ _) (Value.int _ _)) _ _ _); k_here; first | (with_reducible refine pow2_8 ?_) | (with_reducible refine pow2_16 ?_) | (with_reducible refine pow2_32 ?_) | (with_reducible refine pow2_64 ?_) | (with_reducible refine pow2_7 ?_) | (with_reducible refine pow2_15 ?_) | (with_reducible refine pow2_31 ?_) | (with_reducible refine pow2_63 ?_))
    | (k_here; (with_reducible show wpAny _ _ (call (Value.ref 207) [Value.int _ _, Value.ref (flA _)]) _ _ _); k_dflt (refine' (enfK_E ?kaK ?kaA ?kaL ?kaH) _ _ _ _ _ _ _ _ _ _ _ _ _ _ _ _ _ ?kcB ?kcF ?kcX ?kcN ?kcT ?kcK ?kcD ?kcU ?_; (case kcB => k_asm); (case kcF => k_asm); (case kcX => k_asm); (case kcN => k_asm); (case kcT => k_asm); (case kcK => first | exact rfl | assumption); (case kcD => ktr_room); (case kcU => first | ktr_units | ((simp only [units_under_make, units_in1, units_deeper] at *); ktr_units)); (case kaK => first | assumption | omega | decide); (case kaA => first | assumption | omega | (simp only [out0, out1]; omega) | decide); (case kaL => first | assumption | omega | (simp only [out0, out1]; omega) | decide); (case kaH => first | assumption | omega | (simp only [out0, out1]; omega) | decide); (intro g' e' h' tk' F' S' R' U'; (try dsimp only at S' R' U' ⊢); (try k_fold))))
    | (k_here; (with_reducible show wpAny _ _ (call (Value.ref 207) [Value.int _ _, Value.ref 199]) _ _ _); k_dflt (refine' (enfVH_c ?kaA ?kaL ?kaH) _ _ _ _ _ _ _ _ _ _ _ _ _ _ _ _ _ ?kcB ?kcF ?kcX ?kcN ?kcT ?kcK ?kcD ?kcU ?_; (case kcB => k_asm); (case kcF => k_asm); (case kcX => k_asm); (case kcN => k_asm); (case kcT => k_asm); (case kcK => first | exact rfl | assumption); (case kcD => ktr_room); (case kcU => first | ktr_units | ((simp only [units_under_make, units_in1, units_deeper] at *); ktr_units)); (case kaA => first | assumption | omega | (simp only [out0, out1]; omega) | decide); (case kaL => first | assumption | omega | (simp only [out0, out1]; omega) | decide); (case kaH => first | assumption | omega | (simp only [out0, out1]; omega) | decide); (intro g' e' h' tk' F' S' R' U'; (try dsimp only at S' R' U' ⊢); (try k_fold))))
    | (k_here; (with_reducible show wpAny _ _ (call (Value.ref 207) [Value.int _ _, Value.ref 196]) _ _ _); k_dflt (refine' (enfU_E ?kaA ?kaL ?kaH) _ _ _ _ _ _ _ _ _ _ _ _ _ _ _ _ _ ?kcB ?kcF ?kcX ?kcN ?kcT ?kcK ?kcD ?kcU ?_; (case kcB => k_asm); (case kcF => k_asm); (case kcX => k_asm); (case kcN => k_asm); (case kcT => k_asm); (case kcK => first | exact rfl | assumption); (case kcD => ktr_room); (case kcU => first | ktr_units | ((simp only [units_under_make, units_in1, units_deeper] at *); ktr_units)); (case kaA => first | assumption | omega | (simp only [out0, out1]; omega) | decide); (case kaL => first | assumption | omega | (simp only [out0, out1]; omega) | decide); (case kaH => first | assumption | omega | (simp only [out0, out1]; omega) | decide); (intro g' e' h' tk' F' S' R' U'; (try dsimp only at S' R' U' ⊢); (try k_fold))))
    | (k_here; (with_reducible show wpAny _ _ (call (Value.ref 305) [Value.int _ _]) _ _ _); k_dflt (refine' (flags_c ?kaA ?kaB) _ _ _ _ _ _ _ _ _ _ _ _ _ _ _ _ _ ?kcB ?kcF ?kcX ?kcN ?kcT ?kcK ?kcD ?kcU ?_; (case kcB => k_asm); (case kcF => k_asm); (case kcX => k_asm); (case kcN => k_asm); (case kcT => k_asm); (case kcK => first | exact rfl | assumption); (case kcD => ktr_room); (case kcU => first | ktr_units | ((simp only [units_under_make, units_in1, units_deeper] at *); ktr_units)); (case kaA => first | assumption | omega | decide); (case kaB => first | assumption | omega | decide); (intro r' h' tk' F' N' R'; (try dsimp only); (try k_fold); (try k_sweep); (have e9 : r' = _ := R'; subst e9))))
    | (k_here; (with_reducible show wpAny _ _ (call (Value.ref 207) [Value.int _ _, Value.ref 199]) _ _ _); k_dflt (refine' (enfV_c ?kaA ?kaB) _ _ _ _ _ _ _ _ _ _ _ _ _ _ _ _ _ ?kcB ?kcF ?kcX ?kcN ?kcT ?kcK ?kcD ?kcU ?_; (case kcB => k_asm); (case kcF => k_asm); (case kcX => k_asm); (case kcN => k_asm); (case kcT => k_asm); (case kcK => first | exact rfl | assumption); (case kcD => ktr_room); (case kcU => first | ktr_units | ((simp only [units_under_make, units_in1, units_deeper] at *); ktr_units)); (case kaA => first | assumption | omega | decide); (case kaB => first | assumption | omega | decide); (intro r' h' tk' F' N' R'; (try dsimp only); (try k_fold); (try k_sweep); (have e9 : r' = _ := R'; subst e9))))
    | (k_here; (with_reducible show wpAny _ _ (call (Value.ref 207) [Value.int _ _, Value.ref 196]) _ _ _); k_dflt (refine' (enfU_c ?kaA ?kaB) _ _ _ _ _ _ _ _ _ _ _ _ _ _ _ _ _ ?kcB ?kcF ?kcX ?kcN ?kcT ?kcK ?kcD ?kcU ?_; (case kcB => k_asm); (case kcF => k_asm); (case kcX => k_asm); (case kcN => k_asm); (case kcT => k_asm); (case kcK => first | exact rfl | assumption); (case kcD => ktr_room); (case kcU => first | ktr_units | ((simp only [units_under_make, units_in1, units_deeper] at *); ktr_units)); (case kaA => first | assumption | omega | decide); (case kaB => first | assumption | omega | decide); (intro r' h' tk' F' N' R'; (try dsimp only); (try k_fold); (try k_sweep); (have e9 : r' = _ := R'; subst e9))))
    | ((with_reducible show wpAny _ _ (getMethod (Value.ref _) _ _) _ _ _); k_here; (with_reducible rename IsTab _ _ _ _ _ _ _ _ _ _ _ => hT'); k_dflt (refine' method_inst ?k1 ?k2 (InstAt.of_news ?kn ?ko ?kd) ?k4 ?k5 ?k6 ?k7 ?_; (case k1 => k_asm); (case k2 => k_asm); (case kn => k_asm); (case ko => repeat (first | exact hT'.obj | refine List.Mem.tail _ ?_ | refine List.mem_append_right _ ?_)); (case kd => repeat (first | exact hT'.dict | refine List.Mem.tail _ ?_ | refine List.mem_append_right _ ?_)); (case k4 => k_is); (case k5 => k_is); (case k6 => k_is); (case k7 => k_get); k_whole))
    | ((with_reducible show wpAny _ _ (getAttr (Value.ref _) _ _) _ _ _); k_here; (with_reducible rename IsTab _ _ _ _ _ _ _ _ _ _ _ => hT'); (with_reducible rename IsBuf _ _ _ => hV'); k_dflt (refine' get_own ?k1 ?k2 (InstAt.of_news ?kn ?ko ?kd) ?k4 ?k5 ?k6 ?k7 ?k8 ?k9 ?_; (case k1 => k_asm); (case k2 => k_asm); (case kn => k_asm); (case ko => repeat (first | exact hT'.obj | refine List.Mem.tail _ ?_ | refine List.mem_append_right _ ?_)); (case kd => repeat (first | exact hT'.dict | refine List.Mem.tail _ ?_ | refine List.mem_append_right _ ?_)); (case k4 => k_is); (case k5 => k_is); (case k6 => k_is); (case k7 => k_is); (case k8 => k_get); (case k9 => first | exact hV'.handed | k_handed); k_whole))
    | ((with_reducible show wpAny _ _ (compareOp CmpOp.Is (Value.ref _) (Value.ref _)) _ _ _); k_here; (with_reducible refine wpAny_is_ref_self ?_))
    | ((with_reducible show wpAny _ _ (call (Value.ref _) _ _) _ _ _); k_here; k_dflt (refine wpAny_call ?_; (refine' code_def ?k1 ?k2 ?k3 ?k4 ?k5 ?kA ?kF ?kK ?k6 ?k7 ?k8 ?k9 ?kB ?_ ?c2 ?c3 ?c4 ?c5; (case kA => exact rfl); (case kF => exact rfl); (case kK => first | exact rfl | assumption); (case k1 => k_asm); (case k2 => k_asm); (case k3 => k_asm); (case k4 => k_asm); (case k5 => k_asm); (case k6 => k_is); (case k7 => k_is); (case k8 => ktr_room); (case k9 => first | exact BindsTo.of_eq rfl | exact binds_K (by k_in) rfl (by k_is) rfl rfl rfl); (case c5 => decide); (case kB => exact locs rfl); (case c2 => exact rfl); (case c3 => exact rfl); (case c4 => exact rfl); k_whole; intro g' L' h' FG' F' N' B' X' T'; (try dsimp only); (try k_lift B'); (try k_fold))))
    | ((with_reducible show wpAny _ _ (call (Value.ref _) _ _) _ _ _); k_here; k_dflt (refine' call_cls ?k1 ?k2 ?k3 ?k4 ?k5 ?k6 ?_; (case k1 => k_asm); (case k2 => k_asm); (case k3 => k_asm); (case k4 => k_is); (case k5 => k_is); (case k6 => k_is); k_whole; intro x' d' h' F' N' l1 l2; (try k_lt l1); (try k_lt2 l2); (try k_sweep); (refine' code_def ?k1 ?k2 ?k3 ?k4 ?k5 ?kA ?kF ?kK ?k6 ?k7 ?k8 ?k9 ?kB ?_ ?c2 ?c3 ?c4 ?c5; (case kA => exact rfl); (case kF => exact rfl); (case kK => first | exact rfl | assumption); (case k1 => k_asm); (case k2 => k_asm); (case k3 => k_asm); (case k4 => k_asm); (case k5 => k_asm); (case k6 => k_is); (case k7 => k_is); (case k8 => ktr_room); (case k9 => first | exact BindsTo.of_eq rfl | exact binds_K (by k_in) rfl (by k_is) rfl rfl rfl); (case c5 => decide); (case kB => exact locs rfl); (case c2 => exact rfl); (case c3 => exact rfl); (case c4 => exact rfl); k_whole; intro g' L' h' FG' F' N' B' X' T'; (try dsimp only); (try k_lift B'); (try k_fold))))
    | (k_unfold; (try dsimp only)) | (k_end; wrow_close) | walk1 | (dsimp only; walk1) | (leave1; walk_say "STEP leave1"; try dsimp only) | fail "no step"))
  all_goals (refine hret _ _ _ (by assumption) (cb_drop (by assumption) (by intro p hp; simp [hp])) ?_)
  all_goals rfl
end

end Mine

end
/-! text Put1 -/
section
open PySem PySem.W PyProof.Rows PySem.Calls
set_option Elab.async false
set_option maxRecDepth 100000
set_option maxHeartbeats 8000000
namespace Mine

section
variable {prog : Program} {w : World} {A A₀ : Around} {E : Value → Shared → Prop} {s : Shared} {K : Frag} {L : Addr} {h₀ base : Heap} {m mg mb : Str → Option Value} {news : List (Addr × Obj)} {p : Program} {loose : List Str} {mean : ExcName → Option Value}
/-- a def of the written part is entered, in the path form -/
theorem codeP_defK {env : Env} {outer : List Env} {R : Result → Shared → Prop} {name qual : Str} {params : Arguments} {body : List Stmt} {scope : Scope} {dV kV doc pm cdv ct oc : Value} {an od : Option Addr} {osl : Array (Option Value)} {f : Addr} {args : Args} {binds : List (Str × Value)}
    (B : Below A₀ base outer h₀) (F : Fr h₀ L s.heap m) (X₀ : K.In h₀) (N : News h₀ L s.heap news) (T : Top p loose mean mg mb h₀) (hA : A.frames = some (env :: outer)) (hf : env.frame = some L) (hke : env.scope.kind = .function)
    (ho : K.lookup f = some ⟨oc, od, .func (fnOf name qual params body scope dV kV doc pm an cdv ct), osl⟩) (hcd : codeIn K cdv qual = true) (hroom : A.depth < recursionLimit)
    (hbind : BindsTo s (fnOf name qual params body scope dV kV doc pm an cdv ct) args binds) (hloc : ∀ y ∈ binds, scope.names.lookup y.1 = some .local)
    (h : ∀ g L' h₁, Fr h₀ L g m → Fr g L' h₁ (fun y => binds.reverse.lookup y) → News g L' h₁ news → Below A base (env :: outer) g → K.In g → Top p loose mean mg mb g →
      wpP (model prog w) (A.deeper (envOf qual scope L' f cdv)) (execs body (envOf qual scope L' f cdv))
        (fun fl s' => LeaveK h₀ L m g R (match fl with | .ret v => v | _ => .none) s') (fun _ _ => False)
        { s with heap := h₁, toks := s.toks + binds.length })
    (hco : scope.isCoroutine = false) (hgen : scope.isGenerator = false) (hk : scope.kind = .function)
    (hcell : ∀ x ∈ scope.names, x.2 ≠ .cell) : codeP (model prog w) A (.call (.ref f) args) R s := by
  obtain ⟨FG, BG, st, lv⟩ := groundX (R := R) B F N hA hf hke
  refine codeP_call_def (fd := fnOf name qual params body scope dV kV doc pm an cdv ct) (body := body) (binds := binds) hroom ((X₀.keeps F.keep) _ _ ho) rfl (T.nolimit.keeps F.keep) (codeRec_of (X₀.keeps F.keep) hcd) rfl hbind hcell hloc (fun h₁ hns hk₁ => ?_) hco hgen hk
  exact wpP_mono (h _ s.heap.objs.size h₁ FG ⟨hns, fun b o e => hk₁ b o (of_hideAll _ e), Nat.le_of_eq (hideAll_size _ _)⟩
    (fun p hp => ⟨hk₁ _ _ (N p hp).1, Nat.ne_of_lt (Heap.lt_size (N p hp).1), hideAll_none _ (List.mem_map_of_mem hp)⟩) BG (X₀.keeps st) (T.keeps st)) (fun fl s' hl => lv _ _ hl) fun _ _ y => y
/-- one bytearray of the ledger is written -/
theorem News.reset {h h' : Heap} {a : Addr} {b b' : Array UInt8} {rest : List (Addr × Obj)} (N : News h₀ L h news) (hm : (a, baObj b) ∈ news) (hb : BaAt h' a b') (hk : ∀ x o, x ≠ a → h.get? x = some o → h'.get? x = some o)
    (hr : ∀ p ∈ rest, p ∈ news ∧ p.2.cls ≠ .type "bytearray") : News h₀ L h' ((a, baObj b') :: rest) := fun p hp => by
  rcases List.mem_cons.mp hp with rfl | hp
  · exact ⟨hb, (N _ hm).2⟩
  · obtain ⟨h1, h2⟩ := hr p hp
    refine ⟨hk _ _ (N.ne_of_cls h1 hm h2) (N p h1).1, (N p h1).2⟩
theorem Fr.reset {h h' : Heap} {a : Addr} {b : Array UInt8} (F : Fr h₀ L h m) (N : News h₀ L h news) (hm : (a, baObj b) ∈ news) (hk : ∀ x o, x ≠ a → h.get? x = some o → h'.get? x = some o) : Fr h₀ L h' m := by
  obtain ⟨oL, es, ep, hL, hLd, hLk, hLf⟩ := F.ns
  have ha := N _ hm
  refine ⟨⟨oL, es, ep, hk _ _ (fun e => ha.2.1 e.symm) hL, hLd, hLk, hLf⟩, fun x o e => hk _ _ (fun e' => ?_) (F.keep x o e), F.above⟩
  subst e'
  rw [ha.2.2] at e; cases e
end
/-- what a def hands back in the path form: the ledger may have turned -/
abbrev CtrP (w : World) (p : Program) (loose : List Str) (mean : ExcName → Option Value) (mg mb : Str → Option Value) (d : Nat) (f : Addr) (news : List (Addr × Obj)) (vs : List Value) (R : Value → List (Addr × Obj) → Prop) : Prop :=
  ∀ (dp un : Nat) (cn : Str) (cs : Scope) (a : Addr) (ccd : Value) (cl : List (Str × Addr)) (outer : List Env) (A₀ : Around) (base h₀ : Heap) (L : Addr) (m : Str → Option Value) (s : Shared) (Q E : Value → Shared → Prop),
    Below A₀ base outer h₀ → Fr h₀ L s.heap m → (hd.heap_1 w.params).In h₀ → News h₀ L s.heap news → Top p loose mean mg mb h₀ → cs.kind = .function → dp + d < recursionLimit → un + 10 * d < cLine →
    (∀ (r : Value) (news' : List (Addr × Obj)) (h' : Heap) (tk' : Nat), Fr h₀ L h' m → News h₀ L h' news' → R r news' → Q r { s with heap := h', toks := tk' }) →
    wpP (model PySem.Challenge.rw_jm0001_01.row.prog w) (ktrTop dp un (some []) cn cs L a ccd cl outer) (call (.ref f) vs) Q E s
theorem fillItP : (PySem.Challenge.rw_jm0001_01 = PySem.Challenge.rw_jm0001_01 ∧ hd.heap_1 = hd.heap_1) → True := by
  k_fill
  intro _
  trivial
def leB : Nat → Int → List Int := KTBy.little

section
variable {prog : Program} {w : World} {A : Around} {E : Value → Shared → Prop} {s : Shared} {t u : Tok} {Q : Value → Shared → Prop}
theorem pow2p_16 (h : Q (.int 65536 s.toks) { s with toks := s.toks + 1 }) : wpAny (model prog w) A (binaryOp .Pow (.int 2 t) (.int 16 u)) Q E s := by
  refine pow_int_small (by decide) (by decide) (by decide) ?_
  have e : (2 : Int) ^ (16 : Int).toNat = 65536 := by decide
  rw [e]
  exact h
theorem pow2p_32 (h : Q (.int 4294967296 s.toks) { s with toks := s.toks + 1 }) : wpAny (model prog w) A (binaryOp .Pow (.int 2 t) (.int 32 u)) Q E s := by
  refine pow_int_small (by decide) (by decide) (by decide) ?_
  have e : (2 : Int) ^ (32 : Int).toNat = 4294967296 := by decide
  rw [e]
  exact h
end
section
variable {w : World} {p : Program} {loose : List Str} {mean : ExcName → Option Value} {mg mb : Str → Option Value} {news : List (Addr × Obj)}

theorem put2_P {ba : Addr} {rest : List (Addr × Obj)} {b : Array UInt8} {x n : Int} {t u v : Tok} (hm : (ba, baObj b) ∈ news) (hr : ∀ p ∈ rest, p ∈ news ∧ p.2.cls ≠ .type "bytearray") (hz : b.size ≤ 16777216) (h0 : 0 ≤ x) (hi : x + 2 ≤ b.size) :
    CtrP w p loose mean mg mb 8 326 news [.ref ba, .int x t, .int n u, .int 2 v] (fun r news' => r = .none ∧ ∃ c : Array UInt8, KBw.bInts c = KTBy.little 2 (Int.fmod n 65536) ∧ news' = (ba, baObj (putB b c x.toNat)) :: rest) := by
  obtain ⟨i, rfl⟩ := Int.eq_ofNat_of_zero_le h0
  have f1 := fmod_lo n (n := 65536) (by decide)
  have f2 := fmod_hi n (n := 65536) (by decide)
  intro dp un cn cs a ccd cl outer A₀ base h₀ L m s Q E B F X N T hk hd hu hret
  w_top on
  refine wpP_call ?_
  k_dflt (refine' codeP_defK ?k1 ?k2 ?k3 ?k4 ?k5 ?kA ?kF ?kK ?k6 ?k7 ?k8 ?k9 ?kB ?_ ?c2 ?c3 ?c4 ?c5; (case kA => exact rfl); (case kF => exact rfl); (case kK => first | exact rfl | assumption); (case k1 => k_asm); (case k2 => k_asm); (case k3 => k_asm); (case k4 => k_asm); (case k5 => k_asm); (case k6 => k_is); (case k7 => k_is); (case k8 => ktr_room); (case k9 => first | exact BindsTo.of_eq rfl | exact binds_K (by k_in) rfl (by k_is) rfl rfl rfl); (case c5 => decide); (case kB => exact locs rfl); (case c2 => exact rfl); (case c3 => exact rfl); (case c4 => exact rfl); k_whole; intro g' L' h' FG' F' N' B' X' T'; (try dsimp only); (try k_lift B'); (try k_fold))
  refine wpP_execs_cons (wpP_Assign_Subscript ?_)
  (repeat' (first
    | ((with_reducible show wpAny _ _ (binaryOp Operator.Pow (Value.int _ _) (Value.int _ _)) _ _ _); k_here; first | (with_reducible refine pow2p_16 ?_) | (with_reducible refine pow2p_32 ?_) | (refine pow2p_16 ?_) | (refine pow2p_32 ?_))
    | (k_unfold; (try dsimp only)) | (k_end; wrow_close) | walk1 | (dsimp only; walk1) | (leave1; walk_say "STEP leave1"; try dsimp only) | fail "no step"))
  (with_unfolding_all refine KTBy.to_little (k := 2) (B := 65536) (by decide) (by decide) f1 f2 ?_)
  intro c t' k' hc hc'
  (try dsimp only); (try k_fold)
  k_steps
  have hcs : c.size = 2 := by
    have e := congrArg List.length hc
    rw [hc', KBw.ints_length] at e
    exact e
  refine setItem_P (i := i) (c := c) (b := b) rfl (Heap.get?_push_of_some _ (N' _ hm).1) (by rw [hcs]; exact Heap.IsSliceOf.new _ _ _ _) (by rw [hcs]; omega) hz fun h2 hb2 hk2 => ?_
  have hk3 : ∀ y o, y ≠ ba → h'.get? y = some o → h2.get? y = some o := fun y o hy e => hk2 y o hy (Heap.get?_push_of_some _ e)
  refine wpP_of (wpAny_execs_nil ?_)
  exact leaveK_ (Fr.reset F' N' hm hk3) (News.reset N' hm hb2 hk3 hr) fun kF kN => hret _ _ _ _ kF kN ⟨rfl, c, hc, rfl⟩

theorem put4_P {ba : Addr} {rest : List (Addr × Obj)} {b : Array UInt8} {x n : Int} {t u v : Tok} (hm : (ba, baObj b) ∈ news) (hr : ∀ p ∈ rest, p ∈ news ∧ p.2.cls ≠ .type "bytearray") (hz : b.size ≤ 16777216) (h0 : 0 ≤ x) (hi : x + 4 ≤ b.size) :
    CtrP w p loose mean mg mb 8 326 news [.ref ba, .int x t, .int n u, .int 4 v] (fun r news' => r = .none ∧ ∃ c : Array UInt8, KBw.bInts c = KTBy.little 4 (Int.fmod n 4294967296) ∧ news' = (ba, baObj (putB b c x.toNat)) :: rest) := by
  obtain ⟨i, rfl⟩ := Int.eq_ofNat_of_zero_le h0
  have f1 := fmod_lo n (n := 4294967296) (by decide)
  have f2 := fmod_hi n (n := 4294967296) (by decide)
  intro dp un cn cs a ccd cl outer A₀ base h₀ L m s Q E B F X N T hk hd hu hret
  w_top on
  refine wpP_call ?_
  k_dflt (refine' codeP_defK ?k1 ?k2 ?k3 ?k4 ?k5 ?kA ?kF ?kK ?k6 ?k7 ?k8 ?k9 ?kB ?_ ?c2 ?c3 ?c4 ?c5; (case kA => exact rfl); (case kF => exact rfl); (case kK => first | exact rfl | assumption); (case k1 => k_asm); (case k2 => k_asm); (case k3 => k_asm); (case k4 => k_asm); (case k5 => k_asm); (case k6 => k_is); (case k7 => k_is); (case k8 => ktr_room); (case k9 => first | exact BindsTo.of_eq rfl | exact binds_K (by k_in) rfl (by k_is) rfl rfl rfl); (case c5 => decide); (case kB => exact locs rfl); (case c2 => exact rfl); (case c3 => exact rfl); (case c4 => exact rfl); k_whole; intro g' L' h' FG' F' N' B' X' T'; (try dsimp only); (try k_lift B'); (try k_fold))
  refine wpP_execs_cons (wpP_Assign_Subscript ?_)
  (repeat' (first
    | ((with_reducible show wpAny _ _ (binaryOp Operator.Pow (Value.int _ _) (Value.int _ _)) _ _ _); k_here; (refine pow2p_32 ?_))
    | (k_unfold; (try dsimp only)) | (k_end; wrow_close) | walk1 | (dsimp only; walk1) | (leave1; walk_say "STEP leave1"; try dsimp only) | fail "no step"))
  (with_unfolding_all refine KTBy.to_little (k := 4) (B := 4294967296) (by decide) (by decide) f1 f2 ?_)
  intro c t' k' hc hc'
  (try dsimp only); (try k_fold)
  k_steps
  have hcs : c.size = 4 := by
    have e := congrArg List.length hc
    rw [hc', KBw.ints_length] at e
    exact e
  refine setItem_P (i := i) (c := c) (b := b) rfl (Heap.get?_push_of_some _ (N' _ hm).1) (by rw [hcs]; exact Heap.IsSliceOf.new _ _ _ _) (by rw [hcs]; omega) hz fun h2 hb2 hk2 => ?_
  have hk3 : ∀ y o, y ≠ ba → h'.get? y = some o → h2.get? y = some o := fun y o hy e => hk2 y o hy (Heap.get?_push_of_some _ e)
  refine wpP_of (wpAny_execs_nil ?_)
  exact leaveK_ (Fr.reset F' N' hm hk3) (News.reset N' hm hb2 hk3 hr) fun kF kN => hret _ _ _ _ kF kN ⟨rfl, c, hc, rfl⟩
end

end Mine

end
/-! text ForP -/
section
open PySem PySem.W PyProof.Rows PySem.Calls
set_option Elab.async false
set_option maxRecDepth 100000
namespace Mine
section
variable {prog : Program} {w : World} {A : Around} {E : Value → Shared → Prop} {s : Shared} {name : Str} {scope : Scope} {L a : Addr} {cd : Value} {px pos : Pos} {iter : PySem.Expr} {body : List Stmt} {c : Nat} {g : Heap} {m : Str → Option Value} {news : List (Addr × Obj)} {Q : Flow → Shared → Prop} {x : Str}
theorem fr_but {h h' : Heap} {a : Addr} (F : Fr g L h m) (hL : a ≠ L) (hg : g.get? a = none) (hk : ∀ b o, b ≠ a → h.get? b = some o → h'.get? b = some o) : Fr g L h' m := by
  obtain ⟨⟨o, es, n, h1, h2, h4, h5⟩, k, ab⟩ := F
  exact ⟨⟨o, es, n, hk _ _ (Ne.symm hL) h1, h2, h4, h5⟩, fun b o e => hk _ _ (fun q => by rw [q, hg] at e; cases e) (k b o e), ab⟩
/-- a for loop over a range in the path form: I says what the locals and the ledger are ahead of turn i -/
theorem for_P (I : Nat → (Str → Option Value) → List (Addr × Obj) → Prop) (hh : A.handled = none) (hsc : scope.kind = .function) (hxl : (envOf name scope L a cd).kindOf x = some .local)
    (hcs : Builtin.Range.small 0 c 1 = true) (hcz : Builtin.Range.rangeSize 0 c 1 = (c : Int))
    (hev : wpAny (model prog w) A (eval iter (envOf name scope L a cd)) (fun v s₁ => ∃ r t u v' h' tk', v = .ref r ∧ s₁ = { s with heap := h', toks := tk' } ∧ IsRange h' r 0 c 1 t u v' ∧ Fr g L h' m ∧ News g L h' news) E s)
    (h0 : I 0 m news) (hno : ∀ i m' news', I i m' news' → ∀ p ∈ news', p.2.cls ≠ .type "range_iterator")
    (turn : ∀ (i : Nat), i < c → ∀ (m' : Str → Option Value) (news' : List (Addr × Obj)) (It : Addr) (o : Obj) (h : Heap) (tk : Nat) (t : Tok), I i m' news' → o.cls = .type "range_iterator" → Fr g L h (fun y => if y = x then some (.int (i : Int) t) else m' y) → News g L h ((It, o) :: news') →
      wpP (model prog w) A (execs body (envOf name scope L a cd)) (fun f s' => f = .next ∧ ∃ h' tk' m'' news'', s' = { s with heap := h', toks := tk' } ∧ I (i + 1) m'' news'' ∧ Fr g L h' m'' ∧ News g L h' ((It, o) :: news'')) (fun _ _ => False) { s with heap := h, toks := tk })
    (fin : ∀ (h : Heap) (tk : Nat) (m' : Str → Option Value) (news' : List (Addr × Obj)), I c m' news' → Fr g L h m' → News g L h news' → Q .next { s with heap := h, toks := tk })
    (hs : ∀ x, foldedSetIterable iter (envOf name scope L a cd) x = pure x := by intro _; rfl) :
    wpP (model prog w) A (exec (.For (.Name x px) iter body [] pos) (envOf name scope L a cd)) Q E s := by
  refine wpP_For (wpAny_mono hev (fun v s₁ h₁ => ?_) fun _ _ e => e) hs
  obtain ⟨r, t, u, v', h', tk', rfl, rfl, hr, F1, N1⟩ := h₁
  refine wpAny_pyIter_range hr hcs ?_
  have hI0 : g.get? h'.objs.size = none := next_is_new F1
  let J : Nat → Shared → Prop := fun n s' => ∃ (i : Nat) (hp : Heap) (tk : Nat) (m' : Str → Option Value) (news' : List (Addr × Obj)), n + i = c ∧ s' = { s with heap := hp, toks := tk } ∧ I i m' news' ∧ Fr g L hp m' ∧ News g L hp ((h'.objs.size, itR (i : Int) ((c : Int) - (i : Int))) :: news')
  refine codeP_forLoop J (fun n s' hJ => ?_) c _ ?_
  · obtain ⟨i, hp, tk, m', news', hni, rfl, hIi, F2, N2⟩ := hJ
    have hit : IsRangeIter hp h'.objs.size (i : Int) ((c : Int) - (i : Int)) 1 := (N2 _ (.head _)).1
    have hILe : h'.objs.size ≠ L := (N2 _ (.head _)).2.1
    have hIg : g.get? h'.objs.size = none := (N2 _ (.head _)).2.2
    have hIn : ∀ p ∈ news', p.1 ≠ h'.objs.size := fun p hp' => N2.ne_of_cls (.tail _ hp') (.head _) (hno i m' news' hIi p hp')
    by_cases hic : i = c
    · subst hic
      refine wpAny_pyNext_range_end hh hit (by omega) (fun h3 hext => ?_)
      have F3 : Fr g L h3 m' := fr_but F2 hILe hIg hext
      have N3 : News g L h3 news' := fun p hp => ⟨hext _ _ (hIn p hp) (N2 p (.tail _ hp)).1, (N2 p (.tail _ hp)).2⟩
      exact fin h3 _ m' news' hIi F3 N3
    · refine wpAny_pyNext_range_item hit (by omega) (fun h3 hit3 hsb => ?_)
      refine wpAny_of_eq (a := ()) (by rfl) ?_
      have F3 : Fr g L h3 m' := fr_but F2 hILe hIg fun b o hb e => (hsb.2 b hb).trans e
      have N3 : News g L h3 ((h'.objs.size, itR ((i : Int) + 1) ((c : Int) - (i : Int) - 1)) :: news') := fun p hp => by
        rcases List.mem_cons.mp hp with rfl | hp
        · exact ⟨hit3, hILe, hIg⟩
        · exact ⟨(hsb.2 _ (hIn p hp)).trans (N2 p (.tail _ hp)).1, (N2 p (.tail _ hp)).2⟩
      refine wpAny_assign_Name ?_
      refine stN F3 N3 (fun h4 F4 N4 => ?_) hsc hxl
      refine wpP_mono (turn i (by omega) m' news' _ _ h4 _ tk hIi rfl F4 N4) (fun f s4 h5 => ?_) fun _ _ e => e
      obtain ⟨rfl, h5, tk5, m5, n5, rfl, hI5, F5, N5⟩ := h5
      refine ⟨n - 1, by omega, i + 1, h5, tk5, m5, n5, by omega, rfl, hI5, F5, ?_⟩
      have e2 : itR (((i + 1 : Nat) : Int)) ((c : Int) - ((i + 1 : Nat) : Int)) = itR ((i : Int) + 1) ((c : Int) - (i : Int) - 1) := by
        have e3 : (c : Int) - ((i + 1 : Nat) : Int) = (c : Int) - (i : Int) - 1 := by omega
        rw [e3]
        rfl
      rw [e2]
      exact N5
  · refine ⟨0, _, _, m, news, by omega, rfl, h0, F1.push _, fun p hp => ?_⟩
    rcases List.mem_cons.mp hp with rfl | hp
    · refine ⟨?_, ?_, hI0⟩
      · show (h'.push _).get? _ = _
        rw [hcz]
        simpa [itR] using Heap.get?_push_size h' (o := itR 0 c) rfl
      · exact Ne.symm (Nat.ne_of_lt F1.ns.lt)
    · exact ⟨Heap.get?_push_of_some _ (N1 p hp).1, (N1 p hp).2⟩
theorem fun_ac {ac : Str} {m m' : Str → Option Value} {v : Option Value} (hoth : ∀ y, y ≠ ac → y ≠ x → m' y = m y) : (fun y => if y = x then v else m' y) = (fun y => if y = x then v else if y = ac then m' ac else m y) := by
  funext y
  by_cases hy : y = x
  · rw [if_pos hy, if_pos hy]
  · rw [if_neg hy, if_neg hy]
    by_cases hy2 : y = ac
    · rw [if_pos hy2, hy2]
    · rw [if_neg hy2]; exact hoth y hy2 hy
theorem fun_end {ac : Str} {m m' : Str → Option Value} (hoth : ∀ y, y ≠ ac → y ≠ x → m' y = m y) : m' = (fun y => if y = ac then m' ac else if y = x then m' x else m y) := by
  funext y
  by_cases hy : y = ac
  · rw [if_pos hy, hy]
  · rw [if_neg hy]
    by_cases hy2 : y = x
    · rw [if_pos hy2, hy2]
    · rw [if_neg hy2]; exact hoth y hy hy2
/-- the same, where one more local (ac) changes -/
theorem for_P1 (ac : Str) (I : Nat → Option Value → List (Addr × Obj) → Prop) (hxa : x ≠ ac) (hh : A.handled = none) (hsc : scope.kind = .function) (hxl : (envOf name scope L a cd).kindOf x = some .local)
    (hcs : Builtin.Range.small 0 c 1 = true) (hcz : Builtin.Range.rangeSize 0 c 1 = (c : Int))
    (F : Fr g L s.heap m) (N : News g L s.heap news) (hev : wpAny (model prog w) A (eval iter (envOf name scope L a cd)) (RangeEnd s (c : Int)) E s)
    (h0 : I 0 (m ac) news) (hno : ∀ i u news', I i u news' → ∀ p ∈ news', p.2.cls ≠ .type "range_iterator")
    (turn : ∀ (i : Nat), i < c → ∀ (z : Int), z = (i : Int) → ∀ (ua : Option Value) (news' : List (Addr × Obj)) (It : Addr) (o : Obj) (h : Heap) (tk : Nat) (t : Tok), I i ua news' → o.cls = .type "range_iterator" → Fr g L h (fun y => if y = x then some (.int z t) else if y = ac then ua else m y) → News g L h ((It, o) :: news') →
      wpP (model prog w) A (execs body (envOf name scope L a cd)) (fun f s' => f = .next ∧ ∃ h' tk' m'' news'', s' = { s with heap := h', toks := tk' } ∧ (∀ y, y ≠ ac → y ≠ x → m'' y = m y) ∧ I (i + 1) (m'' ac) news'' ∧ Fr g L h' m'' ∧ News g L h' ((It, o) :: news'')) (fun _ _ => False) { s with heap := h, toks := tk })
    (fin : ∀ (h : Heap) (tk : Nat) (ua u : Option Value) (news' : List (Addr × Obj)), I c ua news' → Fr g L h (fun y => if y = ac then ua else if y = x then u else m y) → News g L h news' → Q .next { s with heap := h, toks := tk })
    (hs : ∀ x, foldedSetIterable iter (envOf name scope L a cd) x = pure x := by intro _; rfl) :
    wpP (model prog w) A (exec (.For (.Name x px) iter body [] pos) (envOf name scope L a cd)) Q E s := by
  refine for_P (I := fun i m' news' => (∀ y, y ≠ ac → y ≠ x → m' y = m y) ∧ I i (m' ac) news') hh hsc hxl hcs hcz (wpAny_mono hev (fun v s₁ h => by obtain ⟨r, t, u, v', h', tk', rfl, rfl, hr, hk⟩ := h; exact ⟨r, t, u, v', h', tk', rfl, rfl, hr, fr_keeps F hk, news_keeps N hk⟩) fun _ _ e => e) ⟨fun _ _ _ => rfl, h0⟩ (fun i m' news' h => hno i _ news' h.2) (fun i hi m' news' It o h tk t hIi ho F1 N1 => ?_) (fun h tk m' news' hIc F1 N1 => ?_) hs
  · obtain ⟨hoth, hI⟩ := hIi
    rw [fun_ac hoth] at F1
    refine wpP_mono (turn i hi _ rfl (m' ac) news' It o h tk t hI ho F1 N1) (fun f s' hf => ?_) fun _ _ x => x
    obtain ⟨rfl, h', tk', m'', n'', rfl, h1, h2, F2, N2⟩ := hf
    exact ⟨rfl, h', tk', m'', n'', rfl, ⟨h1, h2⟩, F2, N2⟩
  · obtain ⟨hoth, hI⟩ := hIc
    rw [fun_end hoth] at F1
    exact fin h tk (m' ac) (m' x) news' hI F1 N1
end
end Mine

end
/-! text Laid -/
section
open PySem PySem.W PyProof.Rows PySem.Calls
set_option Elab.async false
set_option maxRecDepth 100000
set_option maxHeartbeats 8000000
namespace Mine

section
variable {g h h2 : Heap} {L : Addr} {m : Str → Option Value} {news : List (Addr × Obj)}
theorem News.newBa {b : Array UInt8} (F : Fr g L h m) (N : News g L h news) (hb : BaAt h2 h.objs.size b) (hk : ∀ b o, h.get? b = some o → h2.get? b = some o) : News g L h2 ((h.objs.size, baObj b) :: news) := fun p hp => by
  rcases List.mem_cons.mp hp with rfl | hp
  · exact ⟨hb, Ne.symm (Nat.ne_of_lt F.ns.lt), next_is_new F⟩
  · exact ⟨hk _ _ (N p hp).1, (N p hp).2⟩
end
section
variable {prog : Program} {w : World} {A : Around} {E : Value → Shared → Prop} {s : Shared} {D : Addr} {ys : List Value} {zs : List Int} {u : Tok} {Q : Value → Shared → Prop}
theorem isList_news {h₀ h : Heap} {L D : Addr} {news : List (Addr × Obj)} {its : Array Value} {n : Nat} (N : News h₀ L h news) (hm : (D, ({ cls := .type "list", data := .seq its n } : Obj)) ∈ news) : h.IsList D its := News.isList N hm
theorem item_ints {value slice : PySem.Expr} {i : Int} (hl : s.heap.IsList D ys.toArray) (hI : IntsAre ys zs) (h0 : 0 ≤ i) (h1 : i < zs.length) (hz : zs.length ≤ 1000) (h : ∀ t, Q (.int (zs.getD i.toNat 0) t) s)
    (hs : subscripted slice false (.ref D) (.int i u) = operate [.ref D, .int i u] (getItem (.ref D) (.int i u)) := by with_unfolding_all rfl) (hg : ∀ r, letTemporaryGo value (.ref D) r = pure () := by intro _; with_unfolding_all rfl) :
    wpAny (model prog w) A (subscriptTail value slice (.ref D) (.int i u)) Q E s := by
  have hi : i.toNat < zs.length := by omega
  have e : zs[i.toNat]? = some (zs.getD i.toNat 0) := by simp [List.getD, hi]
  obtain ⟨t, ht⟩ := hI.get _ _ e
  exact item_listL hl h0 (by omega) ht (h t) hs hg
end
theorem method_ba {M : Model} {A : Around} {E : Value → Shared → Prop} {s : Shared} {h₀ : Heap} {L ba : Addr} {news : List (Addr × Obj)} {b : Array UInt8} {pl : Sem Bool} {Q : Value × List Value → Shared → Prop} (N : News h₀ L s.heap news) (hm : (ba, baObj b) ∈ news) (h : Q (.builtin "bytearray.append", [.ref ba]) s) :
    wpAny M A (getMethod (.ref ba) (PySem.Str.ofString "append") pl) Q E s :=
  getMethod_builtin ⟨_, (N _ hm).1, rfl⟩ ba_plain ba_slot_append ba_type_append (fun a e => by cases e; exact ⟨_, (N _ hm).1, rfl⟩) h
theorem News.swap {g h : Heap} {L : Addr} {p q : Addr × Obj} {news : List (Addr × Obj)} (N : News g L h (p :: q :: news)) : News g L h (q :: p :: news) := fun x hx => by
  rcases List.mem_cons.mp hx with rfl | hx
  · exact N _ (.tail _ (.head _))
  · rcases List.mem_cons.mp hx with rfl | hx
    · exact N _ (.head _)
    · exact N _ (.tail _ (.tail _ hx))
theorem same_keeps {h h' : Heap} {a : Addr} (hs : Heap.SameBut a h h') : ∀ y o, y ≠ a → h.get? y = some o → h'.get? y = some o := fun y _ hy e => (hs.2 y hy).trans e
section
variable {M : Model} {A : Around} {E : Value → Shared → Prop} {s : Shared} {env : Env} {g : Heap} {L : Addr} {m : Str → Option Value} {news : List (Addr × Obj)}
def CutV (s : Shared) (g : Heap) (L : Addr) (m : Str → Option Value) (news : List (Addr × Obj)) (x : Str) (C : Int → Prop) (f : Flow) (s' : Shared) : Prop :=
  f = .next ∧ ∃ V t h tk, s' = { s with heap := h, toks := tk } ∧ C V ∧ Fr g L h (fun y => if y = x then some (.int V t) else m y) ∧ News g L h news
/-- one local takes a number of C: what else the way there was is left behind -/
theorem wpP_cutV {x : Str} {st : Stmt} {rest : List Stmt} {Q : Flow → Shared → Prop} {h0 : Heap} {k0 : Nat} (C : Int → Prop) (_F : Fr g L h0 m) (_N : News g L h0 news)
    (h1 : wpAny M A (exec st env) (CutV s g L m news x C) E { s with heap := h0, toks := k0 })
    (h2 : ∀ V t h tk, C V → Fr g L h (fun y => if y = x then some (.int V t) else m y) → News g L h news → wpP M A (execs rest env) Q E { s with heap := h, toks := tk }) : wpP M A (execs (st :: rest) env) Q E { s with heap := h0, toks := k0 } := by
  refine wpP_execs_cons (wpP_of (wpAny_mono h1 (fun f s' hf => ?_) fun _ _ e => e))
  obtain ⟨rfl, V, t, h, tk, rfl, hC, F, N⟩ := hf
  exact h2 V t h tk hC F N
end
theorem IntsAre.snoc {t : Tok} {n : Int} : ∀ {vs : List Value} {ns : List Int}, IntsAre vs ns → IntsAre (vs ++ [.int n t]) (ns ++ [n])
  | _, _, .nil => .cons n t .nil
  | _, _, .cons k t' h => .cons k t' (IntsAre.snoc h)
section
variable {prog : Program} {w : World} {A : Around} {E : Value → Shared → Prop} {s : Shared} {g : Heap} {L : Addr} {m : Str → Option Value} {news : List (Addr × Obj)} {t u : Tok}
theorem append_pl {It ba pa : Addr} {o ob : Obj} {its : Array Value} {n : Nat} {x : Value} {Q : Value → Shared → Prop} (F : Fr g L s.heap m) (N : News g L s.heap ((It, o) :: (pa, W.listOf its n) :: (ba, ob) :: news)) (ho : o.cls = .type "range_iterator") (hb : ba < pa) (hlt : AllLt pa news) (hsz : its.size ≤ sizeLine)
    (h : ∀ h', Fr g L h' m → News g L h' ((It, o) :: (pa, W.listOf (its.push x) (n + 1)) :: (ba, ob) :: news) → Q .none { s with heap := h' }) : wpAny (model prog w) A (call (.builtin "list.append") [.ref pa, x]) Q E s := by
  have z := N (pa, W.listOf its n) (.tail _ (.head _))
  refine append_at (hsz := hsz) z.1 fun h' hs ho' => h h' (F.change hs z.2.1 z.2.2) ?_
  have hne : It ≠ pa := N.ne_of_cls (p := (pa, W.listOf its n)) (q := (It, o)) (.head _) (.tail _ (.head _)) (by show o.cls ≠ _; rw [ho]; exact (by decide : Value.type "range_iterator" ≠ Value.type "list"))
  exact news_set (pre := [(It, o)]) N (by intro p hp; cases hp with | head => exact hne | tail _ q => exact nomatch q) (by
    intro p hp
    rcases List.mem_cons.mp hp with rfl | hp
    · exact Nat.ne_of_lt hb
    · exact Nat.ne_of_lt (ktn_ltOf hlt p hp)) hs ho'
theorem pow25 {n : Int} {Q : Value → Shared → Prop} (h0 : 0 ≤ n) (h1 : n ≤ 6) (h : ∀ P : Int, 0 < P → P < 1073741824 → Q (.int P s.toks) { s with toks := s.toks + 1 }) : wpAny (model prog w) A (binaryOp .Pow (.int 25 t) (.int n u)) Q E s := by
  have h2 : n = 0 ∨ n = 1 ∨ n = 2 ∨ n = 3 ∨ n = 4 ∨ n = 5 ∨ n = 6 := by omega
  exact pow_int_small h0 (by omega) (by decide) (h _ (by rcases h2 with rfl | rfl | rfl | rfl | rfl | rfl | rfl <;> decide) (by rcases h2 with rfl | rfl | rfl | rfl | rfl | rfl | rfl <;> decide))
end
theorem pl_push {pa ba : Addr} {b : Array UInt8} {news : List (Addr × Obj)} {its : Array Value} {ps : List Int} {k i : Nat} {n : Int} {t : Tok} (h1 : ps.length = i) (h2 : IntsAre its.toList ps) (h3 : ∀ q ∈ ps, q = 0 ∨ (4 ≤ q ∧ q ≤ 27)) (hn : n = 0 ∨ (4 ≤ n ∧ n ≤ 27)) :
    ∃ its' ps' k', ps'.length = i + 1 ∧ IntsAre its'.toList ps' ∧ (∀ q ∈ ps', q = 0 ∨ (4 ≤ q ∧ q ≤ 27)) ∧ (pa, W.listOf (its.push (.int n t)) (k + 1)) :: (ba, baObj b) :: news = (pa, W.listOf its' k') :: (ba, baObj b) :: news := by
  refine ⟨_, ps ++ [n], _, ?_, ?_, ?_, rfl⟩
  · rw [List.length_append]; simp [h1]
  · rw [Array.toList_push]; exact IntsAre.snoc h2
  · intro q hq
    rcases List.mem_append.mp hq with hq | hq
    · exact h3 q hq
    · rw [List.mem_singleton] at hq; subst hq; exact hn
def AndK (a b : Prop) : Prop := a ∧ b
theorem wpP_callWith_K2 {M : Model} {A : Around} {E : Value → Shared → Prop} {s : Shared} {env : Env} {K : Frag} {f : Value} {pos : Pos} {first : List Value} {e : PySem.Expr} {rest : List PySem.Expr} {Q : Value → Shared → Prop} (hk : keepIn K f = true)
    (h : wpAny M A (spliced (backTo pos (starEach (e :: rest) env))) (fun vs s₁ => AndK (K.In s₁.heap) (wpP M A (call f (first ++ vs)) Q E s₁)) E s)
    (he : starEach (e :: rest) env = (false, eval e env) :: starEach rest env := by rfl) (hplain : (backTo pos (starEach rest env)).any (·.1) = false := by rfl) :
    wpP M A (callWith pos f first (backTo pos (starEach (e :: rest) env)) []) Q E s :=
  wpP_callWith_K hk h he hplain
theorem range_ok : ∀ c : Nat, c < 8 → Builtin.Range.small 0 (c : Int) 1 = true ∧ Builtin.Range.rangeSize 0 (c : Int) 1 = (c : Int) := by decide
def atOf (zs : List Int) : Int := 40 + Int.fmod (zs.getD 1 0) 41
theorem fillItLd : (PySem.Challenge.rw_jm0001_01 = PySem.Challenge.rw_jm0001_01 ∧ hd.heap_1 = hd.heap_1) → True := by
  k_fill
  intro _
  trivial
section
variable {w : World} {p : Program} {loose : List Str} {mean : ExcName → Option Value} {mg mb : Str → Option Value} {news : List (Addr × Obj)}

theorem fr_letLaid {g h : Heap} {L : Addr} {m : Str → Option Value} {P : Prop} (F : Fr g L h m) (k : let m1 := m; Fr g L h m1 → P) : P := k F
theorem laid_P {dl : Addr} {ys : List Value} {zs : List Int} (hm : (dl, LCg.lst ys) ∈ news) (hI : IntsAre ys zs) (h6 : 6 ≤ zs.length) (hz1 : zs.length ≤ 1000) (hpos : ∀ z ∈ zs, 0 ≤ z) (hcl : ∀ p ∈ news, p.2.cls = .type "list") :
    CtrP w p loose mean mg mb 20 340 news [.ref dl] (fun r news' => ∃ tp ba pa b at' v ps ta ws k, r = .ref tp ∧ LaidTo b at' v ps ps.length ∧ news' = (tp, { cls := .type "tuple", data := .seq #[.ref ba, .int at' ta, .ref pa] }) :: (ba, baObj b) :: (pa, W.listOf ws k) :: news) := by
  have hl6 : ys.length = zs.length := hI.length
  intro dp un cn cs a ccd cl outer A₀ base h₀ L m s Q E B F X N T hk hd hu hret
  w_top on
  refine wpP_call ?_
  k_dflt (refine' codeP_defK ?k1 ?k2 ?k3 ?k4 ?k5 ?kA ?kF ?kK ?k6 ?k7 ?k8 ?k9 ?kB ?_ ?c2 ?c3 ?c4 ?c5; (case kA => exact rfl); (case kF => exact rfl); (case kK => first | exact rfl | assumption); (case k1 => k_asm); (case k2 => k_asm); (case k3 => k_asm); (case k4 => k_asm); (case k5 => k_asm); (case k6 => k_is); (case k7 => k_is); (case k8 => ktr_room); (case k9 => first | exact BindsTo.of_eq rfl | exact binds_K (by k_in) rfl (by k_is) rfl rfl rfl); (case c5 => decide); (case kB => exact locs rfl); (case c2 => exact rfl); (case c3 => exact rfl); (case c4 => exact rfl); k_whole; intro g' L' h' FG' F' N' B' X' T'; (try dsimp only); (try k_lift B'); (try k_fold))
  refine wpP_execs_cons (wpP_Assign_Name (wpP_CallName ?_))
  (repeat' (first | ((with_reducible show wpAny _ _ _ _ _ (Shared.mk _ _ _ (Shared.toks _ + 1) _)); dsimp only) | (k_unfold; (try dsimp only)) | (k_end; wrow_close) | walk1 | (dsimp only; walk1) | (leave1; walk_say "STEP leave1"; try dsimp only) | fail "no step"))
  refine wpP_callWith_t0 (bytearray0_P rfl fun h2 hb2 hk2 => ?_)
  with_reducible rename Fr _ _ _ _ => F9
  with_reducible rename News _ _ _ _ => N9
  have F2 := fr_keeps F9 hk2
  have N2 := News.newBa F9 N9 hb2 hk2
  clear F9 N9 hb2 hk2
  generalize h'.objs.size = ba at *
  (repeat' (first | ((with_reducible show wpAny _ _ _ _ _ (Shared.mk _ _ _ (Shared.toks _ + 1) _)); dsimp only) | (k_unfold; (try dsimp only)) | (k_end; wrow_close) | walk1 | (dsimp only; walk1) | (leave1; walk_say "STEP leave1"; try dsimp only) | fail "no step"))
  refine wpP_execs_cons (wpP_of ?_)
  (repeat' (first
    | ((with_reducible show wpAny _ _ _ _ _ (Shared.mk _ _ _ (Shared.toks _ + 1) _)); dsimp only)
    | (k_here; (with_reducible show wpAny _ _ (call (Value.builtin "sum") [Value.ref _]) _ _ _); (with_unfolding_all refine' sumK ?k0 ?k1 ?k2 (isList_news ?k3 ?k5) ?k4 ?_; (case k0 => with_unfolding_all rfl); (case k1 => k_asm); (case k2 => k_asm); (case k3 => k_asm); (case k5 => repeat (first | exact List.Mem.head _ | assumption | refine List.Mem.tail _ ?_ | refine List.mem_append_right _ ?_)); (case k4 => assumption); k_whole); intro h' tk' t' F' N')
    | (k_unfold; (try dsimp only)) | (k_end; wrow_close) | walk1 | (dsimp only; walk1) | (leave1; walk_say "STEP leave1"; try dsimp only) | fail "no step"))
  refine wpP_execs_cons ?_
  with_reducible rename Fr _ _ _ _ => F9
  with_reducible rename News _ _ _ _ => N9
  refine for_P1 (c := 160) (PySem.Str.ofString "state") (fun i u news' => ∃ st t b, u = some (.int st t) ∧ b.size = i ∧ news' = (ba, baObj b) :: news) (by decide) rfl rfl rfl (by decide) (by decide) F9 N9 ?_ ?_ ?_ ?_ ?_
  case refine_1 =>
    (repeat' (first | ((with_reducible show wpAny _ _ _ _ _ (Shared.mk _ _ _ (Shared.toks _ + 1) _)); dsimp only) | (k_unfold; (try dsimp only)) | (k_end; wrow_close) | walk1 | (dsimp only; walk1) | (leave1; walk_say "STEP leave1"; try dsimp only) | fail "no step"))
    all_goals (unfold RangeEnd; exact ⟨_, _, _, _, _, _, rfl, rfl, by assumption, by assumption⟩)
  case refine_2 => exact ⟨_, _, _, if_pos rfl, rfl, rfl⟩
  case refine_3 =>
    rintro i u news' ⟨st, t, b, rfl, hb, rfl⟩ p hp
    rcases List.mem_cons.mp hp with rfl | hp
    · exact (by decide : Value.type "bytearray" ≠ Value.type "range_iterator")
    · rw [hcl p hp]; decide
  case refine_4 =>
    intro i hi z hz ua news' It o h4 tk4 t4 hI4 ho F4 N4
    obtain ⟨st, t5, b, rfl, hb, rfl⟩ := hI4
    clear F9 N9
    refine wpP_execs_cons (wpP_of ?_)
    (repeat' (first | ((with_reducible show wpAny _ _ _ _ _ (Shared.mk _ _ _ (Shared.toks _ + 1) _)); dsimp only) | (k_unfold; (try dsimp only)) | (k_end; wrow_close) | walk1 | (dsimp only; walk1) | (leave1; walk_say "STEP leave1"; try dsimp only) | fail "no step"))
    refine wpP_execs_cons (wpP_Expr (wpP_CallMeth ?_))
    (repeat' (first
    | ((with_reducible show wpAny _ _ _ _ _ (Shared.mk _ _ _ (Shared.toks _ + 1) _)); dsimp only)
      | (k_here; (with_reducible show wpAny _ _ (getMethod (Value.ref _) (PySem.Str.ofString "append") _) _ _ _); k_dflt (refine' method_ba ?kbN ?kbM ?_; (case kbN => k_asm); (case kbM => repeat (first | exact List.Mem.head _ | assumption | refine List.Mem.tail _ ?_ | refine List.mem_append_right _ ?_))))
      | (k_unfold; (try dsimp only)) | (k_end; wrow_close) | walk1 | (dsimp only; walk1) | (leave1; walk_say "STEP leave1"; try dsimp only) | fail "no step"))
    dsimp only
    refine wpP_callWith_b ?_
    (repeat' (first | ((with_reducible show wpAny _ _ _ _ _ (Shared.mk _ _ _ (Shared.toks _ + 1) _)); dsimp only) | (k_unfold; (try dsimp only)) | (k_end; wrow_close) | walk1 | (dsimp only; walk1) | (leave1; walk_say "STEP leave1"; try dsimp only) | fail "no step"))
    with_reducible rename Fr _ _ _ _ => F5
    with_reducible rename News _ _ _ _ => N5
    have hm5 : (ba, baObj b) ∈ (It, o) :: (ba, baObj b) :: news := .tail _ (.head _)
    refine callAppend_P (b := b) rfl (N5 _ hm5).1 (fmod_lo _ (by decide)) (fmod_hi _ (by decide)) (by omega) fun h6 hb6 hk6 => ?_
    have hk7 := same_keeps hk6
    have F6 := Fr.reset F5 N5 hm5 hk7
    have N6 := News.reset (rest := (It, o) :: news) N5 hm5 hb6 hk7 (by
      intro p hp
      rcases List.mem_cons.mp hp with rfl | hp
      · exact ⟨.head _, by rw [ho]; decide⟩
      · exact ⟨.tail _ (.tail _ hp), by rw [hcl p hp]; decide⟩)
    refine wpP_of (wpAny_execs_nil ?_)
    refine ⟨rfl, h6, _, _, _, rfl, ?_, ⟨_, _, _, if_pos rfl, ?_, rfl⟩, F6, News.swap N6⟩
    · intro y h1 h2; simp [h1, h2]
    · simp [hb]
  case refine_5 =>
    intro h5 tk5 ua u5 news' hI5 F5 N5
    refine fr_letLaid F5 ?_; clear F5; intro m5 F5
    obtain ⟨st, t5, b, rfl, hb, rfl⟩ := hI5
    clear F9 N9
    dsimp only
    have f41 := fmod_lo (zs.getD (Int.toNat 1) 0) (n := 41) (by decide)
    have e41 := fmod_hi (zs.getD (Int.toNat 1) 0) (n := 41) (by decide)
    have f25 := fmod_lo (zs.getD (Int.toNat 2) 0) (n := 25) (by decide)
    have e25 := fmod_hi (zs.getD (Int.toNat 2) 0) (n := 25) (by decide)
    have f20 := fmod_lo (zs.getD (Int.toNat 2) 0) (n := 20) (by decide)
    have e20 := fmod_hi (zs.getD (Int.toNat 2) 0) (n := 20) (by decide)
    have f7 := fmod_lo (zs.getD (Int.toNat 3) 0) (n := 7) (by decide)
    have e7 := fmod_hi (zs.getD (Int.toNat 3) 0) (n := 7) (by decide)
    refine wpP_cutV (x := PySem.Str.ofString "at") (fun V => 40 ≤ V ∧ V ≤ 80) F5 N5 ?_ ?_
    · (repeat' (first
    | ((with_reducible show wpAny _ _ _ _ _ (Shared.mk _ _ _ (Shared.toks _ + 1) _)); dsimp only)
      | (k_here; (with_reducible show wpAny _ _ (subscriptTail _ _ (Value.ref _) (Value.int _ _)) _ _ _); k_dflt (refine' item_ints (isList_news ?kbN ?kbM) ?kbI ?kbA ?kbB ?kbZ ?_; (case kbN => k_asm); (case kbM => repeat (first | exact List.Mem.head _ | assumption | refine List.Mem.tail _ ?_ | refine List.mem_append_right _ ?_)); (case kbI => assumption); (case kbZ => assumption); (case kbA => first | assumption | omega | decide); (case kbB => first | assumption | omega | decide)); intro t')
      | (k_unfold; (try dsimp only)) | (k_end; wrow_close) | walk1 | (dsimp only; walk1) | (leave1; walk_say "STEP leave1"; try dsimp only) | fail "no step"))
      all_goals (unfold CutV); all_goals (refine ⟨rfl, _, _, _, _, rfl, ?_, by assumption, by assumption⟩; exact ⟨by omega, by omega⟩)
    clear F5 N5
    intro at' tA h6 tk6 hA F6 N6
    refine fr_letLaid F6 ?_; clear F6; intro m6 F6
    refine wpP_cutV (x := PySem.Str.ofString "v") (fun V => 0 ≤ V ∧ V ≤ 141 ∧ (V ≤ 24 ∨ 122 ≤ V)) F6 N6 ?_ ?_
    · (repeat' (first
    | ((with_reducible show wpAny _ _ _ _ _ (Shared.mk _ _ _ (Shared.toks _ + 1) _)); dsimp only)
      | (k_here; (with_reducible show wpAny _ _ (subscriptTail _ _ (Value.ref _) (Value.int _ _)) _ _ _); k_dflt (refine' item_ints (isList_news ?kbN ?kbM) ?kbI ?kbA ?kbB ?kbZ ?_; (case kbN => k_asm); (case kbM => repeat (first | exact List.Mem.head _ | assumption | refine List.Mem.tail _ ?_ | refine List.mem_append_right _ ?_)); (case kbI => assumption); (case kbZ => assumption); (case kbA => first | assumption | omega | decide); (case kbB => first | assumption | omega | decide)); intro t')
      | (k_unfold; (try dsimp only)) | (k_end; wrow_close) | walk1 | (dsimp only; walk1) | (leave1; walk_say "STEP leave1"; try dsimp only) | fail "no step"))
      all_goals (unfold CutV); all_goals (refine ⟨rfl, _, _, _, _, rfl, ?_, by assumption, by assumption⟩; exact ⟨by omega, by omega, by omega⟩)
    clear F6 N6
    intro v tV h7 tk7 hV F7 N7
    refine fr_letLaid F7 ?_; clear F7; intro m7 F7
    refine wpP_execs_cons (wpP_of ?_)
    (repeat' (first | ((with_reducible show wpAny _ _ _ _ _ (Shared.mk _ _ _ (Shared.toks _ + 1) _)); dsimp only) | (k_unfold; (try dsimp only)) | (k_end; wrow_close) | walk1 | (dsimp only; walk1) | (leave1; walk_say "STEP leave1"; try dsimp only) | fail "no step"))
    dsimp only
    with_reducible rename Fr _ _ _ _ => F8
    with_reducible rename News _ _ _ _ => N8
    rename_i pa h8 lpa h8b
    obtain ⟨lp1, lp2⟩ := lpa
    obtain ⟨c7, hc7⟩ := Int.eq_ofNat_of_zero_le f7
    have hr7 := range_ok c7 (by omega)
    refine wpP_execs_cons ?_
    refine for_P1 (c := c7) (PySem.Str.ofString "digit") (fun i u news' => ∃ its ps k, ps.length = i ∧ IntsAre its.toList ps ∧ (∀ q ∈ ps, q = 0 ∨ (4 ≤ q ∧ q ≤ 27)) ∧ news' = (pa, W.listOf its k) :: (ba, baObj b) :: news) (by decide) rfl rfl rfl hr7.1 hr7.2 F8 N8 ?_ ?_ ?_ ?_ ?_
    case refine_1 =>
      (repeat' (first
    | ((with_reducible show wpAny _ _ _ _ _ (Shared.mk _ _ _ (Shared.toks _ + 1) _)); dsimp only)
        | (k_here; (with_reducible show wpAny _ _ (subscriptTail _ _ (Value.ref _) (Value.int _ _)) _ _ _); k_dflt (refine' item_ints (isList_news ?kbN ?kbM) ?kbI ?kbA ?kbB ?kbZ ?_; (case kbN => k_asm); (case kbM => repeat (first | exact List.Mem.head _ | assumption | refine List.Mem.tail _ ?_ | refine List.mem_append_right _ ?_)); (case kbI => assumption); (case kbZ => assumption); (case kbA => first | assumption | omega | decide); (case kbB => first | assumption | omega | decide)); intro t')
        | (k_unfold; (try dsimp only)) | (k_end; wrow_close) | walk1 | (dsimp only; walk1) | (leave1; walk_say "STEP leave1"; try dsimp only) | fail "no step"))
      all_goals (unfold RangeEnd; rw [← hc7]; exact ⟨_, _, _, _, _, _, rfl, rfl, by assumption, by assumption⟩)
    case refine_2 => exact ⟨_, [], _, rfl, .nil, (fun q hq => nomatch hq), rfl⟩
    case refine_3 =>
      rintro i u news' ⟨its, ps, k, h1, h2, h3, rfl⟩ p hp
      rcases List.mem_cons.mp hp with rfl | hp
      · exact (by decide : Value.type "list" ≠ Value.type "range_iterator")
      rcases List.mem_cons.mp hp with rfl | hp
      · exact (by decide : Value.type "bytearray" ≠ Value.type "range_iterator")
      · rw [hcl p hp]; decide
    case refine_4 =>
      intro i hi z hz ua news' It o h9 tk9 t9 hI9 ho F9 N9
      refine fr_letLaid F9 ?_; clear F9; intro m9 F9
      obtain ⟨its, ps, k, h1, h2, h3, rfl⟩ := hI9
      clear F8 N8
      have h2l := h2.length
      have hsz : its.size ≤ sizeLine := by rw [sizeLine_eq]; simp at h2l; omega
      refine wpP_cutV (x := PySem.Str.ofString "digit") (fun V => 0 ≤ V ∧ V < 25) F9 N9 ?_ ?_
      · (repeat' (first
    | ((with_reducible show wpAny _ _ _ _ _ (Shared.mk _ _ _ (Shared.toks _ + 1) _)); dsimp only)
        | ((with_reducible show wpAny _ _ (binaryOp Operator.FloorDiv (Value.int _ _) (Value.int _ _)) _ _ _); k_here; (with_reducible refine floordiv_int (by omega) ?_ (Or.inl (PyProof.noPylong_small (by omega)))))
        | ((with_reducible show wpAny _ _ (binaryOp Operator.Pow (Value.int _ _) (Value.int _ _)) _ _ _); k_here; k_dflt (refine' pow25 ?kbA ?kbB ?_; (case kbA => first | assumption | omega | decide); (case kbB => first | assumption | omega | decide)); intro pP hpP hpQ)
        | (k_here; (with_reducible show wpAny _ _ (subscriptTail _ _ (Value.ref _) (Value.int _ _)) _ _ _); k_dflt (refine' item_ints (isList_news ?kbN ?kbM) ?kbI ?kbA ?kbB ?kbZ ?_; (case kbN => k_asm); (case kbM => repeat (first | exact List.Mem.head _ | assumption | refine List.Mem.tail _ ?_ | refine List.mem_append_right _ ?_)); (case kbI => assumption); (case kbZ => assumption); (case kbA => first | assumption | omega | decide); (case kbB => first | assumption | omega | decide)); intro t')
        | (k_unfold; (try dsimp only)) | (k_end; wrow_close) | walk1 | (dsimp only; walk1) | (leave1; walk_say "STEP leave1"; try dsimp only) | fail "no step"))
        all_goals (unfold CutV); all_goals (refine ⟨rfl, _, _, _, _, rfl, ?_, by assumption, by assumption⟩; exact ⟨fmod_lo _ (by decide), fmod_hi _ (by decide)⟩)
      clear F9 N9
      intro dg tD h10 tk10 hD F10 N10
      refine fr_letLaid F10 ?_; clear F10; intro m10 F10
      refine wpP_execs_cons (wpP_of ?_)
      (repeat' (first
    | ((with_reducible show wpAny _ _ _ _ _ (Shared.mk _ _ _ (Shared.toks _ + 1) _)); dsimp only)
        | (k_here; (show wpAny _ _ (call (Value.builtin "list.append") [Value.ref _, _]) _ _ _); k_dflt (refine' append_pl ?kbF ?kbN ?kbO ?kbA ?kbB ?kbZ ?_; (case kbF => k_asm); (case kbN => k_asm); (case kbO => assumption); (case kbA => first | assumption | exact And.left (by assumption)); (case kbB => first | assumption | exact And.right (by assumption)); (case kbZ => assumption)); intro h' F' N'; (try k_sweep))
        | (k_unfold; (try dsimp only)) | (k_end; wrow_close) | walk1 | (dsimp only; walk1) | (leave1; walk_say "STEP leave1"; try dsimp only) | fail "no step"))
      all_goals (dsimp only; refine wpP_of (wpAny_execs_nil ?_); refine ⟨rfl, _, _, _, _, rfl, ?_, pl_push h1 h2 h3 ?_, by assumption, by assumption⟩)
      all_goals first | (intro y hy1 hy2; simp +zetaDelta [hy1, hy2]; done) | omega
    case refine_5 =>
      intro h9 tk9 ua u9 news' hI9 F9 N9
      refine fr_letLaid F9 ?_; clear F9; intro m9 F9
      obtain ⟨its, ps, k, h1, h2, h3, rfl⟩ := hI9
      clear F8 N8
      dsimp only
      have hps6 : ps.length ≤ 6 := by omega
      obtain ⟨ws, rfl⟩ : ∃ ws : List Value, its = ws.toArray := ⟨its.toList, by simp⟩
      have hIw : IntsAre ws ps := by simpa using h2
      have hwl : ps.length ≤ 1000 := by omega
      clear h2
      refine wpP_execs_cons (wpP_Expr (wpP_CallName ?_))
      (repeat' (first | ((with_reducible show wpAny _ _ _ _ _ (Shared.mk _ _ _ (Shared.toks _ + 1) _)); dsimp only) | (k_unfold; (try dsimp only)) | (k_end; wrow_close) | walk1 | (dsimp only; walk1) | (leave1; walk_say "STEP leave1"; try dsimp only) | fail "no step"))
      refine wpP_callWith_K2 (K := Mine.hd.heap_1 w.params) (by k_is) ?_
      (repeat' (first | ((with_reducible show wpAny _ _ _ _ _ (Shared.mk _ _ _ (Shared.toks _ + 1) _)); dsimp only) | (k_unfold; (try dsimp only)) | (k_end; wrow_close) | walk1 | (dsimp only; walk1) | (leave1; walk_say "STEP leave1"; try dsimp only) | fail "no step"))
      unfold AndK
      with_reducible rename Fr _ _ _ _ => F10
      with_reducible rename News _ _ _ _ => N10
      refine ⟨X'.keeps F10.keep, ?_⟩
      refine (put4_P (rest := (pa, W.listOf ws.toArray k) :: news) (b := b) (.tail _ (.head _)) ?_ (by omega) (by omega) (by omega)) _ _ _ _ _ _ _ _ _ _ _ _ _ _ _ _ B' F10 X' N10 T' rfl (by ktr_room) (by ktr_units) ?_
      · intro p hp
        rcases List.mem_cons.mp hp with rfl | hp
        · exact ⟨.head _, (by decide : Value.type "list" ≠ Value.type "bytearray")⟩
        · exact ⟨.tail _ (.tail _ hp), by rw [hcl p hp]; decide⟩
      rintro r n11 h11 tk11 F11 N11 ⟨rfl, c1, hc1, rfl⟩
      dsimp only
      clear F10 N10
      have sc1 := bInts_size hc1
      have sb1 := putB_size b c1 at'.toNat (by omega)
      refine wpP_execs_cons (wpP_Expr (wpP_CallName ?_))
      (repeat' (first | ((with_reducible show wpAny _ _ _ _ _ (Shared.mk _ _ _ (Shared.toks _ + 1) _)); dsimp only) | (k_unfold; (try dsimp only)) | (k_end; wrow_close) | walk1 | (dsimp only; walk1) | (leave1; walk_say "STEP leave1"; try dsimp only) | fail "no step"))
      refine wpP_callWith_K2 (K := Mine.hd.heap_1 w.params) (by k_is) ?_
      (repeat' (first | ((with_reducible show wpAny _ _ _ _ _ (Shared.mk _ _ _ (Shared.toks _ + 1) _)); dsimp only) | (k_unfold; (try dsimp only)) | (k_end; wrow_close) | walk1 | (dsimp only; walk1) | (leave1; walk_say "STEP leave1"; try dsimp only) | fail "no step"))
      unfold AndK
      with_reducible rename Fr _ _ _ _ => F12
      with_reducible rename News _ _ _ _ => N12
      refine ⟨X'.keeps F12.keep, ?_⟩
      refine (put2_P (rest := (pa, W.listOf ws.toArray k) :: news) (b := putB b c1 at'.toNat) (.head _) ?_ (by omega) (by omega) (by omega)) _ _ _ _ _ _ _ _ _ _ _ _ _ _ _ _ B' F12 X' N12 T' rfl (by ktr_room) (by ktr_units) ?_
      · intro p hp
        rcases List.mem_cons.mp hp with rfl | hp
        · exact ⟨.tail _ (.head _), (by decide : Value.type "list" ≠ Value.type "bytearray")⟩
        · exact ⟨.tail _ (.tail _ hp), by rw [hcl p hp]; decide⟩
      rintro r n13 h13 tk13 F13 N13 ⟨rfl, c2, hc2, rfl⟩
      dsimp only
      clear F12 N12
      have hL0 := laid_init hb hA.1 hA.2 hV.1 hV.2.1 hV.2.2 hps6 h3 hc1 hc2
      generalize putB (putB b c1 at'.toNat) c2 v.toNat = b0 at *
      clear hc1 hc2 sc1 sb1
      have hr10 := range_ok ps.length (by omega)
      refine wpP_execs_cons ?_
      refine for_P1 (c := ps.length) (PySem.Str.ofString "digit") (fun i u news' => ∃ b, LaidTo b at' v ps i ∧ news' = (ba, baObj b) :: (pa, W.listOf ws.toArray k) :: news) (by decide) rfl rfl rfl hr10.1 hr10.2 F13 N13 ?_ ?_ ?_ ?_ ?_
      case refine_1 =>
        (repeat' (first | ((with_reducible show wpAny _ _ _ _ _ (Shared.mk _ _ _ (Shared.toks _ + 1) _)); dsimp only) | (k_unfold; (try dsimp only)) | (k_end; wrow_close) | walk1 | (dsimp only; walk1) | (leave1; walk_say "STEP leave1"; try dsimp only) | fail "no step"))
        all_goals (unfold RangeEnd; exact ⟨_, _, _, _, _, _, rfl, rfl, by assumption, by assumption⟩)
      case refine_2 => exact ⟨_, hL0, rfl⟩
      case refine_3 =>
        rintro i u news' ⟨b, h1, rfl⟩ p hp
        rcases List.mem_cons.mp hp with rfl | hp
        · exact (by decide : Value.type "bytearray" ≠ Value.type "range_iterator")
        rcases List.mem_cons.mp hp with rfl | hp
        · exact (by decide : Value.type "list" ≠ Value.type "range_iterator")
        · rw [hcl p hp]; decide
      case refine_4 =>
        intro i hi z hz ua news' It o h14 tk14 t14 hI14 ho F14 N14
        refine fr_letLaid F14 ?_; clear F14; intro m14 F14
        obtain ⟨b9, hL9, rfl⟩ := hI14
        clear F13 N13
        have hb9 := hL9.size
        refine wpP_execs_cons (wpP_Expr (wpP_CallName ?_))
        (repeat' (first | ((with_reducible show wpAny _ _ _ _ _ (Shared.mk _ _ _ (Shared.toks _ + 1) _)); dsimp only) | (k_unfold; (try dsimp only)) | (k_end; wrow_close) | walk1 | (dsimp only; walk1) | (leave1; walk_say "STEP leave1"; try dsimp only) | fail "no step"))
        refine wpP_callWith_K2 (K := Mine.hd.heap_1 w.params) (by k_is) ?_
        (repeat' (first
    | ((with_reducible show wpAny _ _ _ _ _ (Shared.mk _ _ _ (Shared.toks _ + 1) _)); dsimp only)
          | (k_here; (with_reducible show wpAny _ _ (subscriptTail _ _ (Value.ref _) (Value.int _ _)) _ _ _); k_dflt (refine' item_ints (isList_news ?kbN ?kbM) ?kbI ?kbA ?kbB ?kbZ ?_; (case kbN => k_asm); (case kbM => repeat (first | exact List.Mem.head _ | assumption | refine List.Mem.tail _ ?_ | refine List.mem_append_right _ ?_)); (case kbI => assumption); (case kbZ => assumption); (case kbA => first | assumption | omega | decide); (case kbB => first | assumption | omega | decide)); intro t')
          | (k_unfold; (try dsimp only)) | (k_end; wrow_close) | walk1 | (dsimp only; walk1) | (leave1; walk_say "STEP leave1"; try dsimp only) | fail "no step"))
        unfold AndK
        with_reducible rename Fr _ _ _ _ => F15
        with_reducible rename News _ _ _ _ => N15
        refine ⟨X'.keeps F15.keep, ?_⟩
        refine (put2_P (rest := (It, o) :: (pa, W.listOf ws.toArray k) :: news) (b := b9) (.tail _ (.head _)) ?_ (by omega) (by omega) (by omega)) _ _ _ _ _ _ _ _ _ _ _ _ _ _ _ _ B' F15 X' N15 T' rfl (by ktr_room) (by ktr_units) ?_
        · intro p hp
          rcases List.mem_cons.mp hp with rfl | hp
          · exact ⟨.head _, by rw [ho]; decide⟩
          rcases List.mem_cons.mp hp with rfl | hp
          · exact ⟨.tail _ (.tail _ (.head _)), (by decide : Value.type "list" ≠ Value.type "bytearray")⟩
          · exact ⟨.tail _ (.tail _ (.tail _ hp)), by rw [hcl p hp]; decide⟩
        rintro r n16 h16 tk16 F16 N16 ⟨rfl, c3, hc3, rfl⟩
        dsimp only
        subst hz
        rw [Int.toNat_natCast] at hc3
        refine wpP_of (wpAny_execs_nil ?_)
        refine ⟨rfl, _, _, _, _, rfl, ?_, ⟨_, laid_step hL9 hi hc3, rfl⟩, F16, News.swap N16⟩
        intro y hy1 hy2; simp +zetaDelta [hy1, hy2]
      case refine_5 =>
        intro h14 tk14 ua u14 news' hI14 F14 N14
        refine fr_letLaid F14 ?_; clear F14; intro m14 F14
        obtain ⟨b9, hL9, rfl⟩ := hI14
        clear F13 N13
        dsimp only
        refine wpP_execs_cons (wpP_of ?_)
        (repeat' (first | ((with_reducible show wpAny _ _ _ _ _ (Shared.mk _ _ _ (Shared.toks _ + 1) _)); dsimp only) | (k_unfold; (try dsimp only)) | (k_end; wrow_close) | walk1 | (dsimp only; walk1) | (leave1; walk_say "STEP leave1"; try dsimp only) | fail "no step"))
        exact hret _ _ _ _ (by assumption) (by assumption) ⟨_, ba, pa, b9, at', v, ps, tA, ws.toArray, k, rfl, hL9, rfl⟩
end

end Mine

end
/-! text LawN -/
section
open PySem PySem.W PyProof.Rows PySem.Calls
set_option Elab.async false
set_option maxRecDepth 100000
namespace Mine
/-- what the law's octets say -/
structure LawO (o : Array UInt8) (y v : Int) (ps : List Int) : Prop where
  size : o.size = 160
  a0 : 40 ≤ y
  a1 : y ≤ 80
  v0 : 0 ≤ v
  v1 : v ≤ 141
  pl : ps.length ≤ 6
  pq : ∀ q ∈ ps, q = 0 ∨ (4 ≤ q ∧ q ≤ 27)
  back : i32 o y = y - v
  len : numZ o v 2 = 4 + 2 * (ps.length : Int)
  at' : ∀ j : Nat, j < ps.length → numZ o (v + 4 + 2 * (j : Int)) 2 = ps.getD j 0
  r0 : 4 ≤ numZ o (y + 28) 4
  r1 : numZ o (y + 28) 4 ≤ 8
  s1 : numZ o (y + 28 + numZ o (y + 28) 4) 4 ≤ 11
theorem law_octets {b c1 c2 : Array UInt8} {y v q z : Int} {ps : List Int} (hL : LaidTo b y v ps ps.length) (h1 : KBw.bInts c1 = KTBy.little 4 ((4 + q).fmod 4294967296)) (q0 : 0 ≤ q) (q1 : q < 5) (h2 : KBw.bInts c2 = KTBy.little 4 (z.fmod 4294967296)) (z0 : 0 ≤ z) (z1 : z < 12) :
    LawO (putB (putB b c1 (y + 28).toNat) c2 (y + 28 + 4 + q).toNat) y v ps := by
  obtain ⟨hb, a0, a1, v0, v1, va, pl, pq, hback, hlen, hat⟩ := hL
  have t1 := bInts_size h1
  have t2 := bInts_size h2
  have e1 := putB_size b c1 (y + 28).toNat (by omega)
  have e2 := putB_size (putB b c1 (y + 28).toNat) c2 (y + 28 + 4 + q).toNat (by omega)
  rw [fmod_small (by omega) (by omega)] at h1 h2
  have ap : ∀ p k : Int, 0 ≤ p → 0 ≤ k → (p + k ≤ y + 28 ∨ y + 28 + 4 + q + 4 ≤ p) → numZ (putB (putB b c1 (y + 28).toNat) c2 (y + 28 + 4 + q).toNat) p k = numZ b p k := fun p k hp hk ha => by
    rw [numZ_apart (by omega) hp hk (by omega) (by omega), numZ_apart (by omega) hp hk (by omega) (by omega)]
  have n1 : numZ (putB (putB b c1 (y + 28).toNat) c2 (y + 28 + 4 + q).toNat) (y + 28) 4 = 4 + q := by
    rw [numZ_apart (by omega) (by omega) (by omega) (by omega) (by omega)]
    exact numZ_put (by omega) (by omega) (by omega) h1 (by omega) (by omega)
  have n2 : numZ (putB (putB b c1 (y + 28).toNat) c2 (y + 28 + 4 + q).toNat) (y + 28 + 4 + q) 4 = z := numZ_put (by omega) (by omega) (by omega) h2 (by omega) (by omega)
  refine ⟨by omega, a0, a1, v0, v1, pl, pq, ?_, ?_, fun j hj => ?_, by omega, by omega, ?_⟩
  · have e : numZ (putB (putB b c1 (y + 28).toNat) c2 (y + 28 + 4 + q).toNat) y 4 = (y - v).fmod 4294967296 := by
      rw [ap _ _ (by omega) (by omega) (by omega)]; exact hback
    unfold i32
    rw [e]
    by_cases hs : 0 ≤ y - v
    · rw [fmod_small hs (by omega), if_neg (by omega)]
    · have e3 : (y - v).fmod 4294967296 = y - v + 4294967296 := by
        rw [Int.fmod_eq_emod_of_nonneg _ (by omega)]
        omega
      rw [e3, if_pos (by omega)]
      omega
  · rw [ap _ _ (by omega) (by omega) (by omega)]; exact hlen
  · rw [ap _ _ (by omega) (by omega) (by omega)]; exact hat j hj
  · rw [n1, show y + 28 + (4 + q) = y + 28 + 4 + q by omega, n2]; omega
theorem LawO.off {o : Array UInt8} {y v : Int} {ps : List Int} (h : LawO o y v ps) {z : Int} (h0 : 0 ≤ z) : offZ o y (4 + 2 * z) = ps.getD z.toNat 0 := by
  obtain ⟨j, rfl⟩ := Int.eq_ofNat_of_zero_le h0
  unfold offZ
  rw [h.back, show y - (y - v) = v by omega, h.len, Int.toNat_natCast]
  by_cases hj : j < ps.length
  · rw [if_pos (by omega), ← h.at' j hj]
    congr 1
    omega
  · rw [if_neg (by omega), List.getD_eq_getElem?_getD, List.getElem?_eq_none (by omega)]
    rfl
theorem LawO.num {o : Array UInt8} {y v : Int} {ps : List Int} (h : LawO o y v ps) {z : Int} (h0 : 0 ≤ z) (h1 : 4 + 2 * z < 4 + 2 * (ps.length : Int)) : numZ o (v + 4 + 2 * z) 2 = ps.getD z.toNat 0 := by
  obtain ⟨j, rfl⟩ := Int.eq_ofNat_of_zero_le h0
  rw [Int.toNat_natCast]
  exact h.at' j (by omega)
theorem LawO.pq' {o : Array UInt8} {y v : Int} {ps : List Int} (h : LawO o y v ps) (j : Nat) : ps.getD j 0 = 0 ∨ (4 ≤ ps.getD j 0 ∧ ps.getD j 0 ≤ 27) := by
  by_cases hj : j < ps.length
  · exact h.pq _ (getD_mem hj)
  · left
    rw [List.getD_eq_getElem?_getD, List.getElem?_eq_none (by omega)]
    rfl
theorem LawO.far {o : Array UInt8} {y v : Int} {ps : List Int} (h : LawO o y v ps) {z : Int} (h0 : 0 ≤ z) (h1 : ps.length ≤ z) : ps.getD z.toNat 0 = 0 := by
  rw [List.getD_eq_getElem?_getD, List.getElem?_eq_none (by omega)]
  rfl
end Mine

end
/-! text LawR -/
section
open PySem PySem.W PyProof.Rows PySem.Calls
set_option Elab.async false
set_option maxRecDepth 100000
namespace Mine
/-- two values that no comparison tells apart, of the same kind -/
inductive Same : Value → Value → Prop
  | bool (b : Bool) : Same (.bool b) (.bool b)
  | int (z : Int) (t u : Tok) : Same (.int z t) (.int z u)
theorem IsField.same {b : Array UInt8} {x : Int} {k : Nat} {v u : Value} (h1 : IsField b x k v) (h2 : IsField b x k u) : Same v u := by
  unfold IsField at h1 h2
  split at h1
  · rename_i e
    rw [if_pos e] at h2
    subst h1 h2
    exact .bool _
  · rename_i e
    rw [if_neg e] at h2
    obtain ⟨t, rfl⟩ := h1
    obtain ⟨t', rfl⟩ := h2
    exact .int _ _ _
theorem IsDfl.same {k : Nat} {v : Value} (h1 : IsDfl k v) : Same v v := by
  unfold IsDfl at h1
  split at h1
  · subst h1; exact .bool _
  · obtain ⟨t, rfl⟩ := h1; exact .int _ _ _
/-- what _law_get answers -/
def IsGet (b : Array UInt8) (x : Int) (k : Nat) (v : Value) : Prop := if x + wd k ≤ b.size then IsField b x k v else v = .none
theorem IsGet.cases {b : Array UInt8} {x : Int} {k : Nat} {v u : Value} (h1 : IsGet b x k v) (h2 : IsGet b x k u) : Same v u ∨ (v = .none ∧ u = .none) := by
  unfold IsGet at h1 h2
  split at h1
  · rename_i e
    rw [if_pos e] at h2
    exact .inl (h1.same h2)
  · rename_i e
    rw [if_neg e] at h2
    exact .inr ⟨h1, h2⟩
section
variable {prog : Program} {w : World} {A : Around} {E : Value → Shared → Prop} {s : Shared} {v u : Value} {Q : Value → Shared → Prop}
theorem ne_same (hS : Same v u) (h : Q (.bool false) s) : wpAny (model prog w) A (compareOp .NotEq v u) Q E s := by
  cases hS with
  | bool b => exact ne_bool (by rw [bne_self_eq_false]; exact h)
  | int z t u => exact ne_int (by rw [bne_self_eq_false]; exact h)
theorem ne_get {b : Array UInt8} {x : Int} {k : Nat} (h1 : IsGet b x k v) (h2 : IsGet b x k u) (h : Q (.bool false) s) : wpAny (model prog w) A (compareOp .NotEq v u) Q E s := by
  rcases h1.cases h2 with hS | ⟨rfl, rfl⟩
  · exact ne_same hS h
  · exact EqNone.ne_none_none h
theorem item_dfl {value slice : PySem.Expr} {D : Addr} {kk : Int} {t a1 a2 a3 a4 a5 a6 a7 a8 : Tok} (hl : IsTup s.heap D [Value.bool false, Value.int 7 a1, Value.int 700 a2, Value.int 70000 a3, Value.int 7 a4, Value.int (0 - 7) a5, Value.int (0 - 700) a6, Value.int (0 - 70000) a7, Value.int 0 a8].toArray)
    (h0 : 0 ≤ kk) (h9 : kk < 9) (h : ∀ v, IsDfl kk.toNat v → Q v s)
    (hs : subscripted slice false (.ref D) (.int kk t) = operate [.ref D, .int kk t] (getItem (.ref D) (.int kk t)) := by with_unfolding_all rfl) :
    wpAny (model prog w) A (subscriptTail value slice (.ref D) (.int kk t)) Q E s := by
  rcases int9 h0 h9 with rfl | rfl | rfl | rfl | rfl | rfl | rfl | rfl | rfl
  · exact tail_any hl.typeIs slot_tuple_getitem.lookup (PyProof.Rows.getItem_tuple hl (by decide) (by decide) (by rfl) (by rfl) (h _ rfl)) hs
  · exact tail_any hl.typeIs slot_tuple_getitem.lookup (PyProof.Rows.getItem_tuple hl (by decide) (by decide) (by rfl) (by rfl) (h _ ⟨_, rfl⟩)) hs
  · exact tail_any hl.typeIs slot_tuple_getitem.lookup (PyProof.Rows.getItem_tuple hl (by decide) (by decide) (by rfl) (by rfl) (h _ ⟨_, rfl⟩)) hs
  · exact tail_any hl.typeIs slot_tuple_getitem.lookup (PyProof.Rows.getItem_tuple hl (by decide) (by decide) (by rfl) (by rfl) (h _ ⟨_, rfl⟩)) hs
  · exact tail_any hl.typeIs slot_tuple_getitem.lookup (PyProof.Rows.getItem_tuple hl (by decide) (by decide) (by rfl) (by rfl) (h _ ⟨_, rfl⟩)) hs
  · exact tail_any hl.typeIs slot_tuple_getitem.lookup (PyProof.Rows.getItem_tuple hl (by decide) (by decide) (by rfl) (by rfl) (h _ ⟨_, rfl⟩)) hs
  · exact tail_any hl.typeIs slot_tuple_getitem.lookup (PyProof.Rows.getItem_tuple hl (by decide) (by decide) (by rfl) (by rfl) (h _ ⟨_, rfl⟩)) hs
  · exact tail_any hl.typeIs slot_tuple_getitem.lookup (PyProof.Rows.getItem_tuple hl (by decide) (by decide) (by rfl) (by rfl) (h _ ⟨_, rfl⟩)) hs
  · exact tail_any hl.typeIs slot_tuple_getitem.lookup (PyProof.Rows.getItem_tuple hl (by decide) (by decide) (by rfl) (by rfl) (h _ ⟨_, rfl⟩)) hs
end
def boolOf : Value → Bool
  | .bool _ => true
  | _ => false
theorem Same.boolOf {v u : Value} (h : Same v u) : boolOf v = boolOf u := by cases h <;> rfl
section
variable {prog : Program} {w : World} {A : Around} {E : Value → Shared → Prop} {s : Shared} {v u : Value} {Q : Value → Shared → Prop}
theorem isi_int_bool {z : Int} {t : Tok} (h : Q (.bool false) { s with toks := s.toks + 1 }) : wpAny (model prog w) A (call (.builtin "isinstance") [.int z t, .type "bool"]) Q E s := by
  w_top on
  walk_at "call builtin:isinstance"
  exact h
theorem isi_bool_bool {b : Bool} (h : Q (.bool true) s) : wpAny (model prog w) A (call (.builtin "isinstance") [.bool b, .type "bool"]) Q E s := by
  w_top on
  walk_at "call builtin:isinstance"
  exact h
theorem isi_same (hS : Same v u) (h : ∀ k, Q (.bool (boolOf v)) { s with toks := k }) : wpAny (model prog w) A (call (.builtin "isinstance") [v, .type "bool"]) Q E s := by
  cases hS with
  | bool b => exact isi_bool_bool (h s.toks)
  | int z t u => exact isi_int_bool (h _)
theorem isi_same2 (hS : Same u v) (h : ∀ k, Q (.bool (boolOf u)) { s with toks := k }) : wpAny (model prog w) A (call (.builtin "isinstance") [v, .type "bool"]) Q E s := by
  cases hS with
  | bool b => exact isi_bool_bool (h s.toks)
  | int z t u => exact isi_int_bool (h _)
theorem ne_bool_self {b : Bool} (h : Q (.bool false) s) : wpAny (model prog w) A (compareOp .NotEq (.bool b) (.bool b)) Q E s := ne_bool (by rw [bne_self_eq_false]; exact h)
end
section
variable {w : World} {p : Program} {loose : List Str} {mean : ExcName → Option Value} {mg mb : Str → Option Value} {news : List (Addr × Obj)}
theorem CtrV.toO {d : Nat} {f : Addr} {vs : List Value} {R R' : Value → Prop} (h : CtrV w p loose mean mg mb d f news vs R) (hR : ∀ r, R r → R' r) (hd : d ≤ 24) : CtrO w p loose mean mg mb 24 f news vs R' := by
  intro dp un gd cn cs a ccd A₀ base h₀ L m s Q E B F X N T XB TB hk hdp hu hret
  exact h dp un gd cn cs a ccd [] [] A₀ base h₀ L m s Q E B F X N T hk (by omega) (by omega) fun r h' tk' F' N' hr => hret r h' tk' F' N' (hR r hr)
theorem CtrO.mono {d : Nat} {f : Addr} {vs : List Value} {R R' : Value → Prop} (h : CtrO w p loose mean mg mb d f news vs R) (hR : ∀ r, R r → R' r) : CtrO w p loose mean mg mb d f news vs R' := by
  intro dp un gd cn cs a ccd A₀ base h₀ L m s Q E B F X N T XB TB hk hdp hu hret
  exact h dp un gd cn cs a ccd A₀ base h₀ L m s Q E B F X N T XB TB hk hdp hu fun r h' tk' F' N' hr => hret r h' tk' F' N' (hR r hr)
theorem lawget_c {tb d : Addr} {h1 h2 : Int} {t1 t2 tx t : Tok} {nn : Nat} {v : Value} {b : Array UInt8} {y x kk : Int} {u : Tok} (hT : IsTab news tb d h1 h2 t1 t2 nn v y tx) (hv : IsBuf news v b) (hz : b.size ≤ 16777216) (hk0 : 0 ≤ kk) (hk9 : kk < 9) (h0 : 0 ≤ x) (hx : x ≤ b.size) :
    CtrO w p loose mean mg mb 24 333 news [.ref tb, .int kk u, .int x t] (IsGet b x kk.toNat) := by
  by_cases hi : x + wd kk.toNat ≤ b.size
  · exact (lget_c hT hv hz hk0 hk9 h0 hi).toO (fun r hr => by unfold IsGet; rw [if_pos hi]; exact hr) (by decide)
  · have key : CtrO w p loose mean mg mb 24 333 news [.ref tb, .int kk u, .int x t] (fun r => r = .none) := by
      rcases int9 hk0 hk9 with rfl | rfl | rfl | rfl | rfl | rfl | rfl | rfl | rfl
      · exact rget0_c hT hv hz h0 hx (by have : wd (0 : Int).toNat = 1 := rfl; omega)
      · exact rget1_c hT hv hz h0 hx (by have : wd (1 : Int).toNat = 1 := rfl; omega)
      · exact rget2_c hT hv hz h0 hx (by have : wd (2 : Int).toNat = 2 := rfl; omega)
      · exact rget3_c hT hv hz h0 hx (by have : wd (3 : Int).toNat = 4 := rfl; omega)
      · exact rget4_c hT hv hz h0 hx (by have : wd (4 : Int).toNat = 8 := rfl; omega)
      · exact rget5_c hT hv hz h0 hx (by have : wd (5 : Int).toNat = 1 := rfl; omega)
      · exact rget6_c hT hv hz h0 hx (by have : wd (6 : Int).toNat = 2 := rfl; omega)
      · exact rget7_c hT hv hz h0 hx (by have : wd (7 : Int).toNat = 4 := rfl; omega)
      · exact rget8_c hT hv hz h0 hx (by have : wd (8 : Int).toNat = 8 := rfl; omega)
    exact key.mono fun r hr => by unfold IsGet; rw [if_neg hi]; exact hr
end
section
variable {w : World} {p : Program} {loose : List Str} {mean : ExcName → Option Value} {mg mb : Str → Option Value} {news : List (Addr × Obj)} {tb d : Addr} {h1 h2 : Int} {t1 t2 tx t : Tok} {nn : Nat} {vo : Value} {o : Array UInt8} {y v z P : Int} {ps : List Int}
theorem off_l (hO : LawO o y v ps) (hT : IsTab news tb d h1 h2 t1 t2 nn vo y tx) (hv : IsBuf news vo o) (h0 : 0 ≤ z) (hP : P = ps.getD z.toNat 0) : CtrV w p loose mean mg mb 16 228 news [.ref tb, .int (4 + 2 * z) t] (fun r => ∃ t, r = .int P t) := by
  have hs := hO.size; have a0 := hO.a0; have a1 := hO.a1; have v0 := hO.v0; have v1 := hO.v1; have hb := hO.back; have hl := hO.len; have pl := hO.pl
  have e : y - i32 o y = v := by omega
  have := off_c (w := w) (p := p) (loose := loose) (mean := mean) (mg := mg) (mb := mb) (slot := 4 + 2 * z) (t := t) hT hv (by omega) (by omega) (by omega) (by omega) (by omega) (by omega) (fun h => by rw [e] at h ⊢; omega)
  rw [hO.off h0, ← hP] at this
  exact this
theorem voff_l {td : Tok} (hO : LawO o y v ps) (hT : IsTab news tb d h1 h2 t1 t2 nn vo y tx) (hv : IsBuf news vo o) (h0 : 0 ≤ z) (h8 : z < 8) (hP : P = ps.getD z.toNat 0) : CtrV w p loose mean mg mb 20 284 news [.ref tb, .int (4 + 2 * z) t, .int 9 td] (fun r => ∃ q t, r = .int q t ∧ (P = 0 → q = 9) ∧ (P ≠ 0 → q = P)) := by
  have hs := hO.size; have a0 := hO.a0; have a1 := hO.a1; have v0 := hO.v0; have v1 := hO.v1; have hb := hO.back; have hl := hO.len; have pl := hO.pl
  have e : y - i32 o y = v := by omega
  have := voff_c (w := w) (p := p) (loose := loose) (mean := mean) (mg := mg) (mb := mb) (slot := 4 + 2 * z) (dd := 9) (td := td) (t := t) hT hv (by omega) (by omega) (by omega) (by omega) (by omega) (by omega) (fun h => by rw [e] at h ⊢; omega) (by omega) (by omega) (by omega)
  rw [hO.off h0, ← hP] at this
  refine this.mono fun r hr => ?_
  obtain ⟨t, rfl⟩ := hr
  exact ⟨_, t, rfl, fun h => if_pos h, fun h => if_neg h⟩
theorem slot_l {kk : Int} {dv : Value} (hk0 : 0 ≤ kk) (hk9 : kk < 9) (hD : IsDfl kk.toNat dv) (hO : LawO o y v ps) (hT : IsTab news tb d h1 h2 t1 t2 nn vo y tx) (hv : IsBuf news vo o) (h0 : 0 ≤ z) (h8 : z < 8) (hP : P = ps.getD z.toNat 0) :
    CtrV w p loose mean mg mb 20 277 news [.ref tb, .int (4 + 2 * z) t, dv, .ref (flA kk.toNat)] (fun r => (P = 0 ∧ r = dv) ∨ (P ≠ 0 ∧ IsField o (y + P) kk.toNat r)) := by
  have hs := hO.size; have a0 := hO.a0; have a1 := hO.a1; have v0 := hO.v0; have v1 := hO.v1; have hb := hO.back; have hl := hO.len; have pl := hO.pl
  have e : y - i32 o y = v := by omega
  have hq := hO.pq' z.toNat
  rw [← hP] at hq
  have hw := (wd_pos (k := kk.toNat) (by omega)).2
  have ho : offZ o y (4 + 2 * z) = P := (hO.off h0).trans hP.symm
  have := slot_c (w := w) (p := p) (loose := loose) (mean := mean) (mg := mg) (mb := mb) (slot := 4 + 2 * z) (k := kk.toNat) (dv := dv) (t := t) (by omega) hD hT hv (by omega) (by omega) (by omega) (by omega) (by omega) (by omega) (fun h => by rw [e] at h ⊢; omega) (by omega) (fun h => by rw [ho]; omega)
  rw [ho] at this
  exact this
end
section
variable {M : Model} {A : Around} {E : Value → Shared → Prop} {s : Shared} {env : Env} {g : Heap} {L : Addr} {m : Str → Option Value} {news : List (Addr × Obj)}
def CutN (s : Shared) (g : Heap) (L : Addr) (m : Str → Option Value) (x : Str) (C : Value → List (Addr × Obj) → Prop) (f : Flow) (s' : Shared) : Prop :=
  f = .next ∧ ∃ V h tk news', s' = { s with heap := h, toks := tk } ∧ C V news' ∧ Fr g L h (fun y => if y = x then some V else m y) ∧ News g L h news'
/-- one local takes a value, the ledger may turn: what else the way there was is left behind -/
theorem wpP_cutN {x : Str} {st : Stmt} {rest : List Stmt} {Q : Flow → Shared → Prop} {h0 : Heap} {k0 : Nat} (C : Value → List (Addr × Obj) → Prop) (_F : Fr g L h0 m)
    (h1 : wpAny M A (exec st env) (CutN s g L m x C) E { s with heap := h0, toks := k0 })
    (h2 : ∀ V h tk news', C V news' → Fr g L h (fun y => if y = x then some V else m y) → News g L h news' → wpP M A (execs rest env) Q E { s with heap := h, toks := tk }) : wpP M A (execs (st :: rest) env) Q E { s with heap := h0, toks := k0 } := by
  refine wpP_execs_cons (wpP_of (wpAny_mono h1 (fun f s' hf => ?_) fun _ _ e => e))
  obtain ⟨rfl, V, h, tk, n', rfl, hC, F, N⟩ := hf
  exact h2 V h tk n' hC F N
def CutS (s : Shared) (g : Heap) (L : Addr) (m : Str → Option Value) (news : List (Addr × Obj)) (f : Flow) (s' : Shared) : Prop :=
  f = .next ∧ ∃ h tk, s' = { s with heap := h, toks := tk } ∧ Fr g L h m ∧ News g L h news
/-- a statement that leaves the locals as they are -/
theorem wpP_cutS {st : Stmt} {rest : List Stmt} {Q : Flow → Shared → Prop} {h0 : Heap} {k0 : Nat} (_F : Fr g L h0 m) (_N : News g L h0 news)
    (h1 : wpAny M A (exec st env) (CutS s g L m news) E { s with heap := h0, toks := k0 })
    (h2 : ∀ h tk, Fr g L h m → News g L h news → wpP M A (execs rest env) Q E { s with heap := h, toks := tk }) : wpP M A (execs (st :: rest) env) Q E { s with heap := h0, toks := k0 } := by
  refine wpP_execs_cons (wpP_of (wpAny_mono h1 (fun f s' hf => ?_) fun _ _ e => e))
  obtain ⟨rfl, h, tk, rfl, F, N⟩ := hf
  exact h2 h tk F N
end
section
variable {prog : Program} {w : World} {A : Around} {E : Value → Shared → Prop} {s : Shared} {name : Str} {scope : Scope} {L a : Addr} {cd : Value} {px pos : Pos} {iter : PySem.Expr} {body : List Stmt} {c : Nat} {g : Heap} {m : Str → Option Value} {news : List (Addr × Obj)} {Q : Flow → Shared → Prop} {x : Str}
theorem fun_six {a1 a2 a3 a4 a5 a6 : Str} {m m' : Str → Option Value} {v : Option Value} (hoth : ∀ y, y ≠ x → y ≠ a1 → y ≠ a2 → y ≠ a3 → y ≠ a4 → y ≠ a5 → y ≠ a6 → m' y = m y) :
    (fun y => if y = x then v else m' y) = (fun y => if y = x then v else if y = a1 then m' y else if y = a2 then m' y else if y = a3 then m' y else if y = a4 then m' y else if y = a5 then m' y else if y = a6 then m' y else m y) := by
  funext y
  by_cases e0 : y = x
  · rw [if_pos e0, if_pos e0]
  by_cases e1 : y = a1
  · rw [if_neg e0, if_neg e0, if_pos e1]
  by_cases e2 : y = a2
  · rw [if_neg e0, if_neg e0, if_neg e1, if_pos e2]
  by_cases e3 : y = a3
  · rw [if_neg e0, if_neg e0, if_neg e1, if_neg e2, if_pos e3]
  by_cases e4 : y = a4
  · rw [if_neg e0, if_neg e0, if_neg e1, if_neg e2, if_neg e3, if_pos e4]
  by_cases e5 : y = a5
  · rw [if_neg e0, if_neg e0, if_neg e1, if_neg e2, if_neg e3, if_neg e4, if_pos e5]
  by_cases e6 : y = a6
  · rw [if_neg e0, if_neg e0, if_neg e1, if_neg e2, if_neg e3, if_neg e4, if_neg e5, if_pos e6]
  rw [if_neg e0, if_neg e0, if_neg e1, if_neg e2, if_neg e3, if_neg e4, if_neg e5, if_neg e6]
  exact hoth y e0 e1 e2 e3 e4 e5 e6
def TurnSix (g : Heap) (L : Addr) (m : Str → Option Value) (news : List (Addr × Obj)) (x a1 a2 a3 a4 a5 a6 : Str) (s : Shared) (f : Flow) (s' : Shared) : Prop :=
  f = .next ∧ ∃ h' tk' m'', s' = { s with heap := h', toks := tk' } ∧ (∀ y, y ≠ x → y ≠ a1 → y ≠ a2 → y ≠ a3 → y ≠ a4 → y ≠ a5 → y ≠ a6 → m'' y = m y) ∧ Fr g L h' m'' ∧ News g L h' news
/-- a for loop whose body changes six locals and no more -/
theorem for_six (a1 a2 a3 a4 a5 a6 : Str) (hh : A.handled = none) (hsc : scope.kind = .function) (hxl : (envOf name scope L a cd).kindOf x = some .local)
    (hcs : Builtin.Range.small 0 c 1 = true) (hcz : Builtin.Range.rangeSize 0 c 1 = (c : Int))
    (F : Fr g L s.heap m) (N : News g L s.heap news) (hev : wpAny (model prog w) A (eval iter (envOf name scope L a cd)) (RangeEnd s (c : Int)) E s)
    (hno : ∀ p ∈ news, p.2.cls ≠ .type "range_iterator")
    (turn : ∀ (z : Int), 0 ≤ z → z < c → ∀ (u : Str → Option Value) (It : Addr) (o : Obj) (h : Heap) (tk : Nat) (t : Tok), o.cls = .type "range_iterator" → Fr g L h (fun y => if y = x then some (.int z t) else if y = a1 then u y else if y = a2 then u y else if y = a3 then u y else if y = a4 then u y else if y = a5 then u y else if y = a6 then u y else m y) → News g L h ((It, o) :: news) →
      wpP (model prog w) A (execs body (envOf name scope L a cd)) (TurnSix g L m ((It, o) :: news) x a1 a2 a3 a4 a5 a6 { s with heap := h, toks := tk }) (fun _ _ => False) { s with heap := h, toks := tk })
    (fin : ∀ (h : Heap) (tk : Nat) (u : Str → Option Value), Fr g L h (fun y => if y = x then u y else if y = a1 then u y else if y = a2 then u y else if y = a3 then u y else if y = a4 then u y else if y = a5 then u y else if y = a6 then u y else m y) → News g L h news → Q .next { s with heap := h, toks := tk })
    (hs : ∀ x, foldedSetIterable iter (envOf name scope L a cd) x = pure x := by intro _; rfl) :
    wpP (model prog w) A (exec (.For (.Name x px) iter body [] pos) (envOf name scope L a cd)) Q E s := by
  refine for_P (I := fun i m' news' => (∀ y, y ≠ x → y ≠ a1 → y ≠ a2 → y ≠ a3 → y ≠ a4 → y ≠ a5 → y ≠ a6 → m' y = m y) ∧ news' = news) hh hsc hxl hcs hcz (wpAny_mono hev (fun v s₁ h => by obtain ⟨r, t, u, v', h', tk', rfl, rfl, hr, hk⟩ := h; exact ⟨r, t, u, v', h', tk', rfl, rfl, hr, fr_keeps F hk, news_keeps N hk⟩) fun _ _ e => e) ⟨fun _ _ _ _ _ _ _ _ => rfl, rfl⟩ (fun i m' news' h => by obtain ⟨_, rfl⟩ := h; exact hno) (fun i hi m' news' It o h tk t hIi ho F1 N1 => ?_) (fun h tk m' news' hIc F1 N1 => ?_) hs
  · obtain ⟨hoth, rfl⟩ := hIi
    rw [fun_six hoth] at F1
    refine wpP_mono (turn i (by omega) (by omega) m' It o h tk t ho F1 N1) (fun f s' hf => ?_) fun _ _ x => x
    obtain ⟨rfl, h', tk', m'', rfl, h1, F2, N2⟩ := hf
    exact ⟨rfl, h', tk', m'', _, rfl, ⟨h1, rfl⟩, F2, N2⟩
  · obtain ⟨hoth, rfl⟩ := hIc
    have e : m' = (fun y => if y = x then m' y else m' y) := by funext y; split <;> rfl
    have e2 := fun_six (x := x) (v := none) hoth
    refine fin h tk m' ?_ N1
    have e3 : (fun y => if y = x then m' y else if y = a1 then m' y else if y = a2 then m' y else if y = a3 then m' y else if y = a4 then m' y else if y = a5 then m' y else if y = a6 then m' y else m y) = m' := by
      funext y
      have := congrFun e2 y
      by_cases e0 : y = x
      · rw [if_pos e0]
      · rw [if_neg e0] at this ⊢
        rw [if_neg e0] at this
        exact this.symm
    rw [e3]
    exact F1
end
end Mine

end
/-! text Law -/
section
open PySem PySem.W PyProof.Rows PySem.Calls
set_option Elab.async false
set_option maxRecDepth 100000
set_option maxHeartbeats 8000000
namespace Mine

section
variable {prog : Program} {w : World} {A : Around} {R : Result → Shared → Prop} {s : Shared}
theorem call_fullP {name : Str} {params : Arguments} {body : List Stmt} {scope : Scope}
    {dV kV pm cd doc : Value} {a : Addr} {o : Obj} {args : Args} {binds : List (Str × Value)}
    (hroom : A.depth < recursionLimit) (ho : s.heap.get? a = some o) (hdata : o.data = .func { docDef name params body scope pm cd doc with defaults := dV, kwdefaults := kV }) (hlim : s.heap.NoLimit) (hcd : s.heap.CodeRec cd name)
    (hbind : BindsTo s { docDef name params body scope pm cd doc with defaults := dV, kwdefaults := kV } args binds)
    (hloc : ∀ x ∈ binds, scope.names.lookup x.1 = some .local)
    (h : ∀ h₁, Fr s.heap s.heap.objs.size h₁ (fun x => binds.reverse.lookup x) →
      wpP (model prog w) (A.deeper (envOf name scope s.heap.objs.size a cd)) (execs body (envOf name scope s.heap.objs.size a cd))
        (fun f s' => R (.ok (.ret (match f with | .ret v => v | _ => .none))) s') (fun _ _ => False) { s with heap := h₁, toks := s.toks + binds.length })
    (hco : scope.isCoroutine = false := by rfl) (hgen : scope.isGenerator = false := by rfl) (hk : scope.kind = .function := by rfl)
    (hcell : ∀ x ∈ scope.names, x.2 ≠ .cell := by decide) :
    codeP (model prog w) A (.call (.ref a) args) R s :=
  codeP_call_def hroom ho hdata hlim hcd rfl hbind hcell hloc (fun h₁ hns hkeep => h h₁ ⟨hns, hkeep, Nat.le_refl _⟩) hco hgen hk
end
theorem law_good {cl : Str → Option Addr} {mean : ExcName → Option Value} {args : List WData} {s₁ s' : Shared} (hk : ∀ b o, s₁.heap.get? b = some o → s'.heap.get? b = some o) (hos : s'.os = s₁.os) (hg : s'.gens = #[]) :
    GoodWG PySem.Challenge.rw_jm0001_01.row.claim cl mean args s₁ (.ok (.ret (.bool true))) s' := by
  refine GoodW.toG ⟨.inl ⟨.bool true, .bool true, [], rfl, fun cls => ?_, (.bool true), ?_, fun h => ⟨List.nodup_nil, fun a ha => nomatch ha⟩⟩, hk, hos, hg⟩
  · rfl
  · exact postW_of (by wrow_shape) (by wtm_val) rfl

theorem draws_facts (ns : List Int) : 6 ≤ (List.map (fun k' : Int => if k' < 0 then -k' else k') (List.take 6 ns ++ (List.replicate (Int.toNat 6) [(0 : Int)]).flatten)).length ∧ (List.map (fun k' : Int => if k' < 0 then -k' else k') (List.take 6 ns ++ (List.replicate (Int.toNat 6) [(0 : Int)]).flatten)).length ≤ 1000 ∧
    ∀ z ∈ List.map (fun k' : Int => if k' < 0 then -k' else k') (List.take 6 ns ++ (List.replicate (Int.toNat 6) [(0 : Int)]).flatten), 0 ≤ z := by
  have e : (List.map (fun k' : Int => if k' < 0 then -k' else k') (List.take 6 ns ++ (List.replicate (Int.toNat 6) [(0 : Int)]).flatten)).length = min 6 ns.length + 6 := by
    rw [List.length_map, List.length_append, List.length_take]
    rfl
  refine ⟨by omega, by omega, fun z hz => ?_⟩
  obtain ⟨k, _, rfl⟩ := List.mem_map.mp hz
  split <;> omega
theorem int_eq {a b : Int} {t : Tok} (h : a = b) : ∃ t', Value.int a t = .int b t' := ⟨t, by rw [h]⟩
theorem back_of {o : Array UInt8} {y z : Int} {r : Value} (hf : IsField o y (Int.toNat 7) r) (hb : i32 o y = z) : ∃ t, r = .int z t := by
  obtain ⟨t, rfl⟩ := (show ∃ t, r = .int (fieldZ o y 7) t from hf)
  exact ⟨t, by rw [← hb]; rfl⟩
theorem place_of {o : Array UInt8} {y v z P : Int} {ps : List Int} (hO : LawO o y v ps) (h0 : 0 ≤ z) (h1 : 4 + 2 * z < 4 + 2 * (ps.length : Int)) (hP : P = numZ o (v + 4 + 2 * z) 2) : P = ps.getD z.toNat 0 := hP.trans (hO.num h0 h1)
theorem getD_pos {zs : List Int} (h : ∀ z ∈ zs, 0 ≤ z) (j : Nat) : 0 ≤ zs.getD j 0 := by
  by_cases hj : j < zs.length
  · exact h _ (getD_mem hj)
  · rw [List.getD_eq_getElem?_getD, List.getElem?_eq_none (by omega)]
    exact Int.le_refl 0



theorem fr_letLaw {g h : Heap} {L : Addr} {m : Str → Option Value} {P : Prop} (F : Fr g L h m) (k : let m1 := m; Fr g L h m1 → P) : P := k F
theorem law_h.tw10020860653926454654 : True := trivial
theorem law_h.tw10061849888834990260 : True := trivial
theorem law_h.tw10085857168915102866 : True := trivial
theorem law_h.tw10212247439595784428 : True := trivial
theorem law_h.tw10224321626380944337 : True := trivial
theorem law_h.tw10284747036116793114 : True := trivial
theorem law_h.tw10312309056005993309 : True := trivial
theorem law_h.tw10338044449126278600 : True := trivial
theorem law_h.tw10459211900489347480 : True := trivial
theorem law_h.tw10519051858842980473 : True := trivial
theorem law_h.tw10530444040281436672 : True := trivial
theorem law_h.tw10567181725692482881 : True := trivial
theorem law_h.tw10599418304310853416 : True := trivial
theorem law_h.tw1060168005820241295 : True := trivial
theorem law_h.tw10811705185109304195 : True := trivial
theorem law_h.tw10855733373193698131 : True := trivial
theorem law_h.tw10861729498125152871 : True := trivial
theorem law_h.tw1086312054410620589 : True := trivial
theorem law_h.tw10864978189966598895 : True := trivial
theorem law_h.tw10979548970753781881 : True := trivial
theorem law_h.tw10980855351820549879 : True := trivial
theorem law_h.tw11048564494561744889 : True := trivial
theorem law_h.tw11100799189752261007 : True := trivial
theorem law_h.tw11146851028461585686 : True := trivial
theorem law_h.tw11180249523831894844 : True := trivial
theorem law_h.tw1120937836173973796 : True := trivial
theorem law_h.tw11218243566387507994 : True := trivial
theorem law_h.tw11259105871740359407 : True := trivial
theorem law_h.tw11281402508556600322 : True := trivial
theorem law_h.tw11442783717377108935 : True := trivial
theorem law_h.tw1146168445695314310 : True := trivial
theorem law_h.tw11523121644235516575 : True := trivial
theorem law_h.tw11587544270509854611 : True := trivial
theorem law_h.tw1159350384236923801 : True := trivial
theorem law_h.tw11650286770572464928 : True := trivial
theorem law_h.tw11663676352202728102 : True := trivial
theorem law_h.tw1167794697043531114 : True := trivial
theorem law_h.tw11711746396753997170 : True := trivial
theorem law_h.tw11756746157591808638 : True := trivial
theorem law_h.tw11963734421578785756 : True := trivial
theorem law_h.tw11993913396387599418 : True := trivial
theorem law_h.tw12033433053259066013 : True := trivial
theorem law_h.tw12057689524779618144 : True := trivial
theorem law_h.tw12078350431226743584 : True := trivial
theorem law_h.tw12134009663911149797 : True := trivial
theorem law_h.tw12137585336036643505 : True := trivial
theorem law_h.tw12194772340900088001 : True := trivial
theorem law_h.tw12197472780155798512 : True := trivial
theorem law_h.tw1221574517483992601 : True := trivial
theorem law_h.tw12244869057865505795 : True := trivial
theorem law_h.tw12270450051816772761 : True := trivial
theorem law_h.tw12292119573615000915 : True := trivial
theorem law_h.tw12344552902760874043 : True := trivial
theorem law_h.tw12473908486785766676 : True := trivial
theorem law_h.tw12489308804756533332 : True := trivial
theorem law_h.tw12546474872057912733 : True := trivial
theorem law_h.tw12594973520127229082 : True := trivial
theorem law_h.tw12623458635132983771 : True := trivial
theorem law_h.tw12627005606343055636 : True := trivial
theorem law_h.tw12730019892055020062 : True := trivial
theorem law_h.tw12776970887855030827 : True := trivial
theorem law_h.tw12787630508402368242 : True := trivial
theorem law_h.tw12861629388853566563 : True := trivial
theorem law_h.tw1289993123720384276 : True := trivial
theorem law_h.tw12940751365276076097 : True := trivial
theorem law_h.tw1298564077349880462 : True := trivial
theorem law_h.tw13032034309751100067 : True := trivial
theorem law_h.tw13081196021828851641 : True := trivial
theorem law_h.tw13215354256124517062 : True := trivial
theorem law_h.tw13280263009338512658 : True := trivial
theorem law_h.tw13321995138562110619 : True := trivial
theorem law_h.tw13615371131612364826 : True := trivial
theorem law_h.tw13663167041517585560 : True := trivial
theorem law_h.tw13725760741609566806 : True := trivial
theorem law_h.tw1372595423854673451 : True := trivial
theorem law_h.tw13734468294757604535 : True := trivial
theorem law_h.tw13908524781771446681 : True := trivial
theorem law_h.tw13944938002986718764 : True := trivial
theorem law_h.tw13983819890424301115 : True := trivial
theorem law_h.tw14056115346209105369 : True := trivial
theorem law_h.tw14106256307109200732 : True := trivial
theorem law_h.tw14121557462793320623 : True := trivial
theorem law_h.tw14223454990151854870 : True := trivial
theorem law_h.tw14262916366627068999 : True := trivial
theorem law_h.tw14336483891534402874 : True := trivial
theorem law_h.tw14357774549384262681 : True := trivial
theorem law_h.tw1436005096726989491 : True := trivial
theorem law_h.tw14372481727599071811 : True := trivial
theorem law_h.tw14473242014265761922 : True := trivial
theorem law_h.tw14502511545211506124 : True := trivial
theorem law_h.tw1454285017712923051 : True := trivial
theorem law_h.tw14553424743940860956 : True := trivial
theorem law_h.tw1457142510704975599 : True := trivial
theorem law_h.tw14659687156018143621 : True := trivial
theorem law_h.tw14777720777215996757 : True := trivial
theorem law_h.tw14781958764610906203 : True := trivial
theorem law_h.tw14939644612344398011 : True := trivial
theorem law_h.tw14999178978478994520 : True := trivial
theorem law_h.tw15039953360355103731 : True := trivial
theorem law_h.tw15073499523001483178 : True := trivial
theorem law_h.tw1507876362570422848 : True := trivial
theorem law_h.tw15080474256791301818 : True := trivial
theorem law_h.tw15105893439609843204 : True := trivial
theorem law_h.tw15106124130814269971 : True := trivial
theorem law_h.tw15123246534333288649 : True := trivial
theorem law_h.tw15134437288293599739 : True := trivial
theorem law_h.tw15145078477195450007 : True := trivial
theorem law_h.tw15172563811814121291 : True := trivial
theorem law_h.tw15258543538235913403 : True := trivial
theorem law_h.tw15283051034114661457 : True := trivial
theorem law_h.tw15290745977022396172 : True := trivial
theorem law_h.tw15294186797458585451 : True := trivial
theorem law_h.tw15297461799016900542 : True := trivial
theorem law_h.tw15314744879636704226 : True := trivial
theorem law_h.tw15350247497175985179 : True := trivial
theorem law_h.tw15387518916465042991 : True := trivial
theorem law_h.tw1543175730864752555 : True := trivial
theorem law_h.tw15443084443597909709 : True := trivial
theorem law_h.tw15474477676111776766 : True := trivial
theorem law_h.tw15520502405250874931 : True := trivial
theorem law_h.tw15542898783067319777 : True := trivial
theorem law_h.tw15629748493932377316 : True := trivial
theorem law_h.tw15655026431361952242 : True := trivial
theorem law_h.tw15678886324392870510 : True := trivial
theorem law_h.tw15827961128558220636 : True := trivial
theorem law_h.tw1583495596603424314 : True := trivial
theorem law_h.tw1584559674983721894 : True := trivial
theorem law_h.tw15856198963492575196 : True := trivial
theorem law_h.tw15936168878090408511 : True := trivial
theorem law_h.tw15997230683379623435 : True := trivial
theorem law_h.tw16014769470536193936 : True := trivial
theorem law_h.tw16105367370271369268 : True := trivial
theorem law_h.tw16160262683111090854 : True := trivial
theorem law_h.tw16204359722984809025 : True := trivial
theorem law_h.tw16310433372318639616 : True := trivial
theorem law_h.tw16513808114465484972 : True := trivial
theorem law_h.tw16527444731933178421 : True := trivial
theorem law_h.tw16579313610400561997 : True := trivial
theorem law_h.tw16585323585894807889 : True := trivial
theorem law_h.tw16642220313675571149 : True := trivial
theorem law_h.tw16675347182418876136 : True := trivial
theorem law_h.tw16700114363006015121 : True := trivial
theorem law_h.tw16721686437555241456 : True := trivial
theorem law_h.tw16756277575667948801 : True := trivial
theorem law_h.tw16767344523483789560 : True := trivial
theorem law_h.tw16792299246923423721 : True := trivial
theorem law_h.tw16794389897307801264 : True := trivial
theorem law_h.tw16815044284225044710 : True := trivial
theorem law_h.tw16825227032737407663 : True := trivial
theorem law_h.tw16909864269700248572 : True := trivial
theorem law_h.tw16910329489865334922 : True := trivial
theorem law_h.tw16945548424246930515 : True := trivial
theorem law_h.tw17022041145819979170 : True := trivial
theorem law_h.tw1707891140905854355 : True := trivial
theorem law_h.tw17100683656991710148 : True := trivial
theorem law_h.tw17108480646541503172 : True := trivial
theorem law_h.tw17138275988122248901 : True := trivial
theorem law_h.tw17174321342658860226 : True := trivial
theorem law_h.tw17256759379631987885 : True := trivial
theorem law_h.tw17265566930183409153 : True := trivial
theorem law_h.tw1726797767472857524 : True := trivial
theorem law_h.tw17297952575930402453 : True := trivial
theorem law_h.tw17337860957357375698 : True := trivial
theorem law_h.tw17443042225029120868 : True := trivial
theorem law_h.tw17521508113329716645 : True := trivial
theorem law_h.tw17528092017317435722 : True := trivial
theorem law_h.tw17621700502413743759 : True := trivial
theorem law_h.tw1763511018392989585 : True := trivial
theorem law_h.tw17675107839122393720 : True := trivial
theorem law_h.tw17710243002467820594 : True := trivial
theorem law_h.tw17724395057441367339 : True := trivial
theorem law_h.tw17768808249892333886 : True := trivial
theorem law_h.tw17808867409464347841 : True := trivial
theorem law_h.tw17944621943337986630 : True := trivial
theorem law_h.tw18013665041155522918 : True := trivial
theorem law_h.tw18030032161689693125 : True := trivial
theorem law_h.tw18098170931880322299 : True := trivial
theorem law_h.tw18104581183522864828 : True := trivial
theorem law_h.tw18123989275950122157 : True := trivial
theorem law_h.tw18128815656234663693 : True := trivial
theorem law_h.tw1813958445715112256 : True := trivial
theorem law_h.tw18207678660487605472 : True := trivial
theorem law_h.tw18237154445978048405 : True := trivial
theorem law_h.tw18249111170492942660 : True := trivial
theorem law_h.tw1828414412317945950 : True := trivial
theorem law_h.tw18398353966352195752 : True := trivial
theorem law_h.tw1844816597753144074 : True := trivial
theorem law_h.tw1883168887334120570 : True := trivial
theorem law_h.tw2000808803529291219 : True := trivial
theorem law_h.tw2099377581227673497 : True := trivial
theorem law_h.tw213777537639782141 : True := trivial
theorem law_h.tw2144734700179567367 : True := trivial
theorem law_h.tw2183495927085842146 : True := trivial
theorem law_h.tw2258966454087154164 : True := trivial
theorem law_h.tw2277708861243612741 : True := trivial
theorem law_h.tw2293619104564618759 : True := trivial
theorem law_h.tw230999368937197173 : True := trivial
theorem law_h.tw2404572985477512668 : True := trivial
theorem law_h.tw2444953001287629589 : True := trivial
theorem law_h.tw2494391726093133503 : True := trivial
theorem law_h.tw2560297936767344135 : True := trivial
theorem law_h.tw2564518036447412466 : True := trivial
theorem law_h.tw2575513694451096207 : True := trivial
theorem law_h.tw2597636504623313533 : True := trivial
theorem law_h.tw2661893067217410722 : True := trivial
theorem law_h.tw2681328187560096214 : True := trivial
theorem law_h.tw2690309195618600136 : True := trivial
theorem law_h.tw2698878598566780446 : True := trivial
theorem law_h.tw2747234016247151644 : True := trivial
theorem law_h.tw2812942133479266415 : True := trivial
theorem law_h.tw2863607406333837984 : True := trivial
theorem law_h.tw2945261653264520249 : True := trivial
theorem law_h.tw2980966558070815264 : True := trivial
theorem law_h.tw3050336003817271364 : True := trivial
theorem law_h.tw3080580232307829016 : True := trivial
theorem law_h.tw3110474712745733310 : True := trivial
theorem law_h.tw3147976596196484368 : True := trivial
theorem law_h.tw3198660380592135776 : True := trivial
theorem law_h.tw3239160932324662043 : True := trivial
theorem law_h.tw325335360841076838 : True := trivial
theorem law_h.tw3346568575283978116 : True := trivial
theorem law_h.tw3413439849331814833 : True := trivial
theorem law_h.tw3433581975219827602 : True := trivial
theorem law_h.tw3513769884196741071 : True := trivial
theorem law_h.tw3523213997256516702 : True := trivial
theorem law_h.tw3555719697652020074 : True := trivial
theorem law_h.tw36000841498574815 : True := trivial
theorem law_h.tw3600606255284853384 : True := trivial
theorem law_h.tw3612661755275957217 : True := trivial
theorem law_h.tw3818248021883630589 : True := trivial
theorem law_h.tw3821631481947330881 : True := trivial
theorem law_h.tw3868883403888041427 : True := trivial
theorem law_h.tw4005872289919406532 : True := trivial
theorem law_h.tw4083252361536761917 : True := trivial
theorem law_h.tw4101993418301387746 : True := trivial
theorem law_h.tw417101223067684121 : True := trivial
theorem law_h.tw4186684563907883344 : True := trivial
theorem law_h.tw4198272010991038418 : True := trivial
theorem law_h.tw4221878148890489340 : True := trivial
theorem law_h.tw4328360987740664627 : True := trivial
theorem law_h.tw4389869770911735134 : True := trivial
theorem law_h.tw4477705932123718814 : True := trivial
theorem law_h.tw4582429008326322698 : True := trivial
theorem law_h.tw4599475950715820674 : True := trivial
theorem law_h.tw4612228662722329349 : True := trivial
theorem law_h.tw4653008909166697969 : True := trivial
theorem law_h.tw4667150822126873512 : True := trivial
theorem law_h.tw4670387905351354986 : True := trivial
theorem law_h.tw4672415937679367561 : True := trivial
theorem law_h.tw4688198131251335697 : True := trivial
theorem law_h.tw4702334123320758038 : True := trivial
theorem law_h.tw483930875933317032 : True := trivial
theorem law_h.tw4879770822033008126 : True := trivial
theorem law_h.tw4889922157265295442 : True := trivial
theorem law_h.tw5015864377585636301 : True := trivial
theorem law_h.tw5171180553805350102 : True := trivial
theorem law_h.tw5181852484696131815 : True := trivial
theorem law_h.tw5198092824095205036 : True := trivial
theorem law_h.tw5210819987380389982 : True := trivial
theorem law_h.tw5236820236856646895 : True := trivial
theorem law_h.tw526357261845179834 : True := trivial
theorem law_h.tw5304123028815026051 : True := trivial
theorem law_h.tw5305966954538185166 : True := trivial
theorem law_h.tw5316557406064960950 : True := trivial
theorem law_h.tw5411155721629109860 : True := trivial
theorem law_h.tw5418752085722734971 : True := trivial
theorem law_h.tw5446192061241003756 : True := trivial
theorem law_h.tw5448204417142831341 : True := trivial
theorem law_h.tw5591741821565237823 : True := trivial
theorem law_h.tw5602988545803979047 : True := trivial
theorem law_h.tw5626560960525030025 : True := trivial
theorem law_h.tw5688586817573723670 : True := trivial
theorem law_h.tw5694200235891735742 : True := trivial
theorem law_h.tw5755326211006895591 : True := trivial
theorem law_h.tw5755791924912656346 : True := trivial
theorem law_h.tw5764508737563245789 : True := trivial
theorem law_h.tw6045280484133179500 : True := trivial
theorem law_h.tw6095340157441932104 : True := trivial
theorem law_h.tw6095594860233442026 : True := trivial
theorem law_h.tw6099215554688298104 : True := trivial
theorem law_h.tw6231434263401201462 : True := trivial
theorem law_h.tw6256141154821500736 : True := trivial
theorem law_h.tw6257587234602565674 : True := trivial
theorem law_h.tw6294081486658474264 : True := trivial
theorem law_h.tw6376454682023426040 : True := trivial
theorem law_h.tw6386913659259682980 : True := trivial
theorem law_h.tw6429415506401252223 : True := trivial
theorem law_h.tw6512573816737950896 : True := trivial
theorem law_h.tw6576515485836428188 : True := trivial
theorem law_h.tw658616155063491793 : True := trivial
theorem law_h.tw6622975680156772181 : True := trivial
theorem law_h.tw662806308966520245 : True := trivial
theorem law_h.tw6769671927260132455 : True := trivial
theorem law_h.tw6781884286033080583 : True := trivial
theorem law_h.tw6785569398167724695 : True := trivial
theorem law_h.tw6821926699096988424 : True := trivial
theorem law_h.tw682426726710376783 : True := trivial
theorem law_h.tw6861093811959855290 : True := trivial
theorem law_h.tw6871313449988959613 : True := trivial
theorem law_h.tw6893290813630340955 : True := trivial
theorem law_h.tw6909616214092620855 : True := trivial
theorem law_h.tw700966930856002956 : True := trivial
theorem law_h.tw7055094813664366637 : True := trivial
theorem law_h.tw7070887630361327864 : True := trivial
theorem law_h.tw7187757056765488243 : True := trivial
theorem law_h.tw7211998531844745633 : True := trivial
theorem law_h.tw7244384405579353392 : True := trivial
theorem law_h.tw7282595492853681305 : True := trivial
theorem law_h.tw7356719984924007359 : True := trivial
theorem law_h.tw7405644105395255553 : True := trivial
theorem law_h.tw7415271812275143414 : True := trivial
theorem law_h.tw7438014356731505903 : True := trivial
theorem law_h.tw7440926435177769355 : True := trivial
theorem law_h.tw7455228066149417024 : True := trivial
theorem law_h.tw7464959790382358774 : True := trivial
theorem law_h.tw7467264337153839798 : True := trivial
theorem law_h.tw7537443686840782647 : True := trivial
theorem law_h.tw7636877078000370166 : True := trivial
theorem law_h.tw7637397240205111922 : True := trivial
theorem law_h.tw7784494191991308330 : True := trivial
theorem law_h.tw7818912699721913540 : True := trivial
theorem law_h.tw7849909003140947734 : True := trivial
theorem law_h.tw7857885552414010462 : True := trivial
theorem law_h.tw7877520667538000881 : True := trivial
theorem law_h.tw7888864304214678527 : True := trivial
theorem law_h.tw7911583109810434945 : True := trivial
theorem law_h.tw796121181299739361 : True := trivial
theorem law_h.tw8002109242631555064 : True := trivial
theorem law_h.tw8043702166185493091 : True := trivial
theorem law_h.tw8111556027571088305 : True := trivial
theorem law_h.tw8149000456017493144 : True := trivial
theorem law_h.tw8189233316522450478 : True := trivial
theorem law_h.tw8267709936840557068 : True := trivial
theorem law_h.tw8276845543182176557 : True := trivial
theorem law_h.tw8294133082308591640 : True := trivial
theorem law_h.tw8316510375372608085 : True := trivial
theorem law_h.tw8391187901572760965 : True := trivial
theorem law_h.tw8454872952363657402 : True := trivial
theorem law_h.tw8458530001779020356 : True := trivial
theorem law_h.tw8479001673314400389 : True := trivial
theorem law_h.tw8648170216677109781 : True := trivial
theorem law_h.tw8656949681543523555 : True := trivial
theorem law_h.tw8756616797346094107 : True := trivial
theorem law_h.tw8784319718759615847 : True := trivial
theorem law_h.tw8872114772816722739 : True := trivial
theorem law_h.tw8875805133555970126 : True := trivial
theorem law_h.tw8910193736074278325 : True := trivial
theorem law_h.tw8922994173894747949 : True := trivial
theorem law_h.tw8927179104161158204 : True := trivial
theorem law_h.tw893136042214641935 : True := trivial
theorem law_h.tw9012391780470885789 : True := trivial
theorem law_h.tw9061393913539905050 : True := trivial
theorem law_h.tw9084761696372888963 : True := trivial
theorem law_h.tw9239665110864921781 : True := trivial
theorem law_h.tw9261229937095904526 : True := trivial
theorem law_h.tw927079590703423905 : True := trivial
theorem law_h.tw9271371268478323303 : True := trivial
theorem law_h.tw9330404763703168528 : True := trivial
theorem law_h.tw9338835385996864171 : True := trivial
theorem law_h.tw9406964455339865464 : True := trivial
theorem law_h.tw9482403192057678299 : True := trivial
theorem law_h.tw9482680118686510990 : True := trivial
theorem law_h.tw9495644251674130553 : True := trivial
theorem law_h.tw9724632500686814398 : True := trivial
theorem law_h.tw9754850559023064547 : True := trivial
theorem law_h.tw9855652004909429516 : True := trivial
theorem law_h.tw9859138582875358482 : True := trivial
theorem law_h.tw9925312274304511048 : True := trivial
theorem law_h.tw9925962537293175989 : True := trivial
theorem law_h.tw9929728405605171425 : True := trivial
set_option Elab.async true in
theorem law_h : PySem.Challenge.rw_jm0001_01.Holds := by
  w_on
  o_law
  k_head
  (case hw => w_witness2)
  k_fill
  intro w s₀ s₁ mg mb G Y fa o pm cd doc dV kV ho hd' hcd hD hmg hg args vals as hpre hlay hrd hwl hlo
  have KX : (Mine.hd.heap_1 w.params).In _ := kIn_of Y
  refine Ground.open G ?_
  intro T B D TE TW
  clear B D TE TW hmg Y G
  wrow_args hpre hlay hrd hwl hlo
  rename_i ns hs1 hl0 hL1 hr1 hl2 as4 as3 sl its as0 hL ra w1 r0 hI hr2 hc1 hc2
  clear hs1 hl0 hL1 hr1 hl2 ra w1 r0 hr2 hc2
  refine look_of (law_good (fun _ _ e => e) rfl hg) ?_
  have hret : ∀ (h' : Heap) (tk' : Nat), (∀ b o, s₁.heap.get? b = some o → h'.get? b = some o) → GoodWG PySem.Challenge.rw_jm0001_01.row.claim (classAt s₀.heap) (ExcName.means s₀.heap) [ofPy (PyData.list (List.map PyData.int ns))] s₁ (.ok (.ret (.bool true))) { s₁ with heap := h', toks := tk' } :=
    fun h' tk' hk => law_good hk rfl hg
  clear hg
  generalize GoodWG PySem.Challenge.rw_jm0001_01.row.claim (classAt s₀.heap) (ExcName.means s₀.heap) [ofPy (PyData.list (List.map PyData.int ns))] s₁ = QQ at *
  refine wpP_call ?_
  w_top on
  have K0 := below_caller s₁.heap
  have he := Dflts.none hD rfl; subst he
  refine call_fullP (binds := [(PySem.Str.ofString "script", .ref sl)]) (by decide) ho hd' (Top.nolimit T) hcd (BindsTo.of_eq rfl) (locs (by rfl)) fun h₁ F => ?_
  clear ho hd' hcd hD
  have N : News s₁.heap s₁.heap.objs.size h₁ [] := .nil
  (try dsimp only); (try k_fold)
  refine wpP_cutN (x := PySem.Str.ofString "draws") (fun V news' => ∃ D ys zs, V = .ref D ∧ news' = [(D, LCg.lst ys)] ∧ IntsAre ys zs ∧ 6 ≤ zs.length ∧ zs.length ≤ 1000 ∧ ∀ z ∈ zs, 0 ≤ z) F ?_ ?_
  · (repeat' (first | ((with_reducible show wpAny _ _ _ _ _ (Shared.mk _ _ _ (Shared.toks _ + 1) _)); dsimp only) | (k_unfold; (try dsimp only)) | (k_end; wrow_close) | walk1 | (dsimp only; walk1) | (leave1; walk_say "STEP leave1"; try dsimp only) | fail "no step"))
    with_reducible rename Fr _ _ _ _ => F9
    with_reducible rename News _ _ _ _ => N9
    unfold CutN
    exact ⟨rfl, _, _, _, _, rfl, ⟨_, ys, _, rfl, rfl, by assumption, draws_facts ns⟩, F9, fun p hp => N9 p (by rw [List.mem_singleton] at hp; subst hp; exact .head _)⟩
  rintro V h1 tk1 n1 ⟨D, ys, zs, rfl, rfl, hIz, h6, hz1, hpos⟩ F1 N1
  refine fr_letLaw F1 ?_; clear F1; intro m1 F1
  clear F N hL hI hc1
  have hmD : (D, LCg.lst ys) ∈ [(D, LCg.lst ys)] := .head _
  have hcl : ∀ p ∈ [(D, LCg.lst ys)], p.2.cls = .type "list" := by intro p hp; rw [List.mem_singleton] at hp; subst hp; rfl
  refine wpP_execs_cons (wpP_Assign_Tuple (wpP_CallName ?_))
  (repeat' (first | ((with_reducible show wpAny _ _ _ _ _ (Shared.mk _ _ _ (Shared.toks _ + 1) _)); dsimp only) | (k_unfold; (try dsimp only)) | (k_end; wrow_close) | walk1 | (dsimp only; walk1) | (leave1; walk_say "STEP leave1"; try dsimp only) | fail "no step"))
  refine wpP_callWith_K2 (K := Mine.hd.heap_1 w.params) (by k_is) ?_
  (repeat' (first | ((with_reducible show wpAny _ _ _ _ _ (Shared.mk _ _ _ (Shared.toks _ + 1) _)); dsimp only) | (k_unfold; (try dsimp only)) | (k_end; wrow_close) | walk1 | (dsimp only; walk1) | (leave1; walk_say "STEP leave1"; try dsimp only) | fail "no step"))
  unfold AndK
  with_reducible rename Fr _ _ _ _ => F9
  with_reducible rename News _ _ _ _ => N9
  refine ⟨KX.keeps F9.keep, ?_⟩
  refine (laid_P hmD hIz h6 hz1 hpos hcl) _ _ _ _ _ _ _ _ _ _ _ _ _ _ _ _ K0 F9 KX N9 T rfl (by ktr_room) (by ktr_units) ?_
  rintro r n2 h2 tk2 F2 N2 ⟨tp, ba, pa, b, y, v, ps, ta, ws, k, rfl, hLd, rfl⟩
  clear F9 N9
  refine wpP_of ?_
  (repeat' (first | ((with_reducible show wpAny _ _ _ _ _ (Shared.mk _ _ _ (Shared.toks _ + 1) _)); dsimp only) | (k_unfold; (try dsimp only)) | (k_end; wrow_close) | walk1 | (dsimp only; walk1) | (leave1; walk_say "STEP leave1"; try dsimp only) | fail "no step"))
  (try dsimp only)
  with_reducible rename Fr _ _ _ _ => F3
  with_reducible rename News _ _ _ _ => N3
  have hb0 := hLd.size
  have hya := hLd.a0
  have hyb := hLd.a1
  refine wpP_cutV (x := PySem.Str.ofString "row") (fun V => V = y + 28) F3 N3 ?_ ?_
  · (repeat' (first | ((with_reducible show wpAny _ _ _ _ _ (Shared.mk _ _ _ (Shared.toks _ + 1) _)); dsimp only) | (k_unfold; (try dsimp only)) | (k_end; wrow_close) | walk1 | (dsimp only; walk1) | (leave1; walk_say "STEP leave1"; try dsimp only) | fail "no step"))
    all_goals (unfold CutV); all_goals (refine ⟨rfl, _, _, _, _, rfl, rfl, by assumption, by assumption⟩)
  rintro V tR h3 tk3 rfl F4 N4
  refine fr_letLaw F4 ?_; clear F4; intro m4 F4
  clear F3 N3
  have f5 := fmod_lo (zs.getD (Int.toNat 5) 0) (n := 5) (by decide)
  have e5 := fmod_hi (zs.getD (Int.toNat 5) 0) (n := 5) (by decide)
  have f12 := fmod_lo (Int.fdiv (zs.getD (Int.toNat 5) 0) 5) (n := 12) (by decide)
  have e12 := fmod_hi (Int.fdiv (zs.getD (Int.toNat 5) 0) 5) (n := 12) (by decide)
  refine wpP_execs_cons (wpP_Expr (wpP_CallName ?_))
  (repeat' (first | ((with_reducible show wpAny _ _ _ _ _ (Shared.mk _ _ _ (Shared.toks _ + 1) _)); dsimp only) | (k_unfold; (try dsimp only)) | (k_end; wrow_close) | walk1 | (dsimp only; walk1) | (leave1; walk_say "STEP leave1"; try dsimp only) | fail "no step"))
  refine wpP_callWith_K2 (K := Mine.hd.heap_1 w.params) (by k_is) ?_
  (repeat' (first
    | ((with_reducible show wpAny _ _ _ _ _ (Shared.mk _ _ _ (Shared.toks _ + 1) _)); dsimp only)
    | (k_here; (with_reducible show wpAny _ _ (subscriptTail _ _ (Value.ref _) (Value.int _ _)) _ _ _); k_dflt (refine' item_ints (isList_news ?kbN ?kbM) ?kbI ?kbA ?kbB ?kbZ ?_; (case kbN => k_asm); (case kbM => repeat (first | exact List.Mem.head _ | assumption | refine List.Mem.tail _ ?_ | refine List.mem_append_right _ ?_)); (case kbI => assumption); (case kbZ => assumption); (case kbA => first | assumption | omega | decide); (case kbB => first | assumption | omega | decide)); intro t')
    | (k_unfold; (try dsimp only)) | (k_end; wrow_close) | walk1 | (dsimp only; walk1) | (leave1; walk_say "STEP leave1"; try dsimp only) | fail "no step"))
  unfold AndK
  with_reducible rename Fr _ _ _ _ => F9
  with_reducible rename News _ _ _ _ => N9
  refine ⟨KX.keeps F9.keep, ?_⟩
  refine (put4_P (rest := [(D, LCg.lst ys)]) (b := b) (.tail _ (.head _)) ?_ (by omega) (by omega) (by omega)) _ _ _ _ _ _ _ _ _ _ _ _ _ _ _ _ K0 F9 KX N9 T rfl (by ktr_room) (by ktr_units) ?_
  · intro p hp
    rw [List.mem_singleton] at hp; subst hp
    exact ⟨.tail _ (.tail _ (.tail _ (.head _))), (by decide : Value.type "list" ≠ Value.type "bytearray")⟩
  rintro r n5 h5 tk5 F5 N5 ⟨rfl, c1, hc1, rfl⟩
  dsimp only
  clear F9 N9
  have sc1 := bInts_size hc1
  have sb1 := putB_size b c1 (y + 28).toNat (by omega)
  refine wpP_execs_cons (wpP_Expr (wpP_CallName ?_))
  (repeat' (first | ((with_reducible show wpAny _ _ _ _ _ (Shared.mk _ _ _ (Shared.toks _ + 1) _)); dsimp only) | (k_unfold; (try dsimp only)) | (k_end; wrow_close) | walk1 | (dsimp only; walk1) | (leave1; walk_say "STEP leave1"; try dsimp only) | fail "no step"))
  refine wpP_callWith_K2 (K := Mine.hd.heap_1 w.params) (by k_is) ?_
  (repeat' (first
    | ((with_reducible show wpAny _ _ _ _ _ (Shared.mk _ _ _ (Shared.toks _ + 1) _)); dsimp only)
    | ((with_reducible show wpAny _ _ (binaryOp Operator.FloorDiv (Value.int _ _) (Value.int _ _)) _ _ _); k_here; (with_reducible refine floordiv_int (by omega) ?_ (Or.inl (PyProof.noPylong_small (by omega)))))
    | (k_here; (with_reducible show wpAny _ _ (subscriptTail _ _ (Value.ref _) (Value.int _ _)) _ _ _); k_dflt (refine' item_ints (isList_news ?kbN ?kbM) ?kbI ?kbA ?kbB ?kbZ ?_; (case kbN => k_asm); (case kbM => repeat (first | exact List.Mem.head _ | assumption | refine List.Mem.tail _ ?_ | refine List.mem_append_right _ ?_)); (case kbI => assumption); (case kbZ => assumption); (case kbA => first | assumption | omega | decide); (case kbB => first | assumption | omega | decide)); intro t')
    | (k_unfold; (try dsimp only)) | (k_end; wrow_close) | walk1 | (dsimp only; walk1) | (leave1; walk_say "STEP leave1"; try dsimp only) | fail "no step"))
  unfold AndK
  with_reducible rename Fr _ _ _ _ => F9
  with_reducible rename News _ _ _ _ => N9
  refine ⟨KX.keeps F9.keep, ?_⟩
  refine (put4_P (rest := [(D, LCg.lst ys)]) (b := putB b c1 (y + 28).toNat) (.head _) ?_ (by omega) (by omega) (by omega)) _ _ _ _ _ _ _ _ _ _ _ _ _ _ _ _ K0 F9 KX N9 T rfl (by ktr_room) (by ktr_units) ?_
  · intro p hp
    rw [List.mem_singleton] at hp; subst hp
    exact ⟨.tail _ (.head _), (by decide : Value.type "list" ≠ Value.type "bytearray")⟩
  rintro r n6 h6b tk6 F6 N6 ⟨rfl, c2, hc2, rfl⟩
  dsimp only
  clear F9 N9
  have hO := law_octets hLd hc1 f5 e5 hc2 f12 e12
  generalize putB (putB b c1 (y + 28).toNat) c2 (y + 28 + 4 + (zs.getD (Int.toNat 5) 0).fmod 5).toNat = o at *
  clear hc1 hc2 sc1 sb1 f12 e12 f5 e5 hLd hcl hmD hb0
  have hoz : o.size = 160 := hO.size
  have ho16 : o.size ≤ 16777216 := by omega
  obtain ⟨nw, hnw⟩ : ∃ nw, nw = [(ba, baObj o), (D, LCg.lst ys)] := ⟨_, rfl⟩
  have hB0 : IsBuf nw (.ref ba) o := by rw [hnw]; exact .arr _ _ (.head _)
  have hmD : (D, LCg.lst ys) ∈ nw := by rw [hnw]; exact .tail _ (.head _)
  have hnr : ∀ p ∈ nw, p.2.cls ≠ .type "range_iterator" := by
    rw [hnw]
    intro p hp
    rcases List.mem_cons.mp hp with rfl | hp
    · exact (by decide : Value.type "bytearray" ≠ Value.type "range_iterator")
    rw [List.mem_singleton] at hp; subst hp
    exact (by decide : Value.type "list" ≠ Value.type "range_iterator")
  rw [← hnw] at N6
  clear hnw
  refine wpP_cutN (x := PySem.Str.ofString "octets") (fun V news' => IsBuf nw V o ∧ news' = nw) F6 ?_ ?_
  · (repeat' (first
    | ((with_reducible show wpAny _ _ _ _ _ (Shared.mk _ _ _ (Shared.toks _ + 1) _)); dsimp only)
    | ((with_reducible show wpAny _ _ (binaryOp Operator.FloorDiv (Value.int _ _) (Value.int _ _)) _ _ _); k_here; (with_reducible refine floordiv_int (by omega) ?_ (Or.inl (PyProof.noPylong_small (by omega)))))
    | (k_here; (with_reducible show wpAny _ _ (subscriptTail _ _ (Value.ref _) (Value.int _ _)) _ _ _); k_dflt (refine' item_ints (isList_news ?kbN ?kbM) ?kbI ?kbA ?kbB ?kbZ ?_; (case kbN => k_asm); (case kbM => repeat (first | exact List.Mem.head _ | assumption | refine List.Mem.tail _ ?_ | refine List.mem_append_right _ ?_)); (case kbI => assumption); (case kbZ => assumption); (case kbA => first | assumption | omega | decide); (case kbB => first | assumption | omega | decide)); intro t')
    | (k_here; (with_reducible show wpAny _ _ (call (Value.type "bytes") [_]) _ _ _); k_dflt (refine' bytes_buf ?kbN ?kbV ?kbZ ?_; (case kbN => k_asm); (case kbV => first | assumption | exact IsBuf.cons (by assumption) | exact IsBuf.cons (IsBuf.cons (by assumption)) | exact IsBuf.cons (IsBuf.cons (IsBuf.cons (by assumption))) | exact IsBuf.mono (by assumption) (by intro p hp; simp [hp])); (case kbZ => first | assumption | (rw [cut_size]; omega))); intro t' k')
    | (k_unfold; (try dsimp only)) | (k_end; wrow_close) | walk1 | (dsimp only; walk1) | (leave1; walk_say "STEP leave1"; try dsimp only) | fail "no step"))
    all_goals (unfold CutN); all_goals (refine ⟨rfl, _, _, _, _, rfl, ⟨?_, rfl⟩, by assumption, by assumption⟩; first | assumption | exact IsBuf.bytes _ _)
  rintro VO h7 tk7 n7 ⟨hVO, rfl⟩ F7 N7
  refine fr_letLaw F7 ?_; clear F7; intro m7 F7
  clear F6 N6 hB0
  refine wpP_cutN (x := PySem.Str.ofString "t") (fun V news' => ∃ tb dx h1 h2 t1 t2 nn tx, V = .ref tb ∧ IsTab news' tb dx h1 h2 t1 t2 nn VO y tx ∧ (∀ p ∈ n7, p ∈ news') ∧ (∀ p ∈ news', p.2.cls ≠ .type "range_iterator")) F7 ?_ ?_
  · (repeat' (first
    | ((with_reducible show wpAny _ _ _ _ _ (Shared.mk _ _ _ (Shared.toks _ + 1) _)); dsimp only)
    | ((with_reducible show wpAny _ _ (call (Value.ref _) _ _) _ _ _); k_here; k_dflt (refine wpAny_call ?_; (refine' code_def ?k1 ?k2 ?k3 ?k4 ?k5 ?kA ?kF ?kK ?k6 ?k7 ?k8 ?k9 ?kB ?_ ?c2 ?c3 ?c4 ?c5; (case kA => exact rfl); (case kF => exact rfl); (case kK => first | exact rfl | assumption); (case k1 => k_asm); (case k2 => k_asm); (case k3 => k_asm); (case k4 => k_asm); (case k5 => k_asm); (case k6 => k_is); (case k7 => k_is); (case k8 => ktr_room); (case k9 => first | exact BindsTo.of_eq rfl | exact binds_K (by k_in) rfl (by k_is) rfl rfl rfl); (case c5 => decide); (case kB => exact locs rfl); (case c2 => exact rfl); (case c3 => exact rfl); (case c4 => exact rfl); k_whole; intro g' L' h' FG' F' N' B' X' T'; (try dsimp only); (try k_lift B'); (try k_fold))))
    | ((with_reducible show wpAny _ _ (call (Value.ref _) _ _) _ _ _); k_here; k_dflt (refine' call_cls ?k1 ?k2 ?k3 ?k4 ?k5 ?k6 ?_; (case k1 => k_asm); (case k2 => k_asm); (case k3 => k_asm); (case k4 => k_is); (case k5 => k_is); (case k6 => k_is); k_whole; intro x' d' h' F' N' l1 l2; (try k_lt l1); (try k_lt2 l2); (try k_sweep); (refine' code_def ?k1 ?k2 ?k3 ?k4 ?k5 ?kA ?kF ?kK ?k6 ?k7 ?k8 ?k9 ?kB ?_ ?c2 ?c3 ?c4 ?c5; (case kA => exact rfl); (case kF => exact rfl); (case kK => first | exact rfl | assumption); (case k1 => k_asm); (case k2 => k_asm); (case k3 => k_asm); (case k4 => k_asm); (case k5 => k_asm); (case k6 => k_is); (case k7 => k_is); (case k8 => ktr_room); (case k9 => first | exact BindsTo.of_eq rfl | exact binds_K (by k_in) rfl (by k_is) rfl rfl rfl); (case c5 => decide); (case kB => exact locs rfl); (case c2 => exact rfl); (case c3 => exact rfl); (case c4 => exact rfl); k_whole; intro g' L' h' FG' F' N' B' X' T'; (try dsimp only); (try k_lift B'); (try k_fold))))
    | (k_unfold; (try dsimp only)) | (k_end; wrow_close) | walk1 | (dsimp only; walk1) | (leave1; walk_say "STEP leave1"; try dsimp only) | fail "no step"))
    with_reducible rename Fr _ _ _ _ => F9
    with_reducible rename News _ _ _ _ => N9
    unfold CutN
    refine ⟨rfl, _, _, _, _, rfl, ?_, F9, N9⟩
    refine ⟨_, _, _, _, _, _, _, _, rfl, ⟨.head _, .tail _ (.head _)⟩, fun p hp => .tail _ (.tail _ hp), ?_⟩
    intro p hp
    rcases List.mem_cons.mp hp with rfl | hp
    · intro h; cases h
    rcases List.mem_cons.mp hp with rfl | hp
    · exact (by decide : Value.type "dict" ≠ Value.type "range_iterator")
    exact hnr p hp
  rintro V h8 tk8 nT ⟨tb, dx, hh1, hh2, tt1, tt2, nn, tx, rfl, hT, hsub, hnT⟩ F8 N8
  refine fr_letLaw F8 ?_; clear F8; intro m8 F8
  have hVT : IsBuf nT VO o := hVO.mono hsub
  have hmT : (D, LCg.lst ys) ∈ nT := hsub _ hmD
  clear hVO hmD hsub hnr N7 F7
  have hva := hO.v0
  have hvb := hO.v1
  have hback := hO.back
  have hlen := hO.len
  have hpl := hO.pl
  have hw7 : wd (Int.toNat 7) = 4 := rfl
  refine wpP_cutN (x := PySem.Str.ofString "back") (fun V news' => (∃ t, V = .int (y - v) t) ∧ news' = nT) F8 ?_ ?_
  · (repeat' (first
    | ((with_reducible show wpAny _ _ _ _ _ (Shared.mk _ _ _ (Shared.toks _ + 1) _)); dsimp only)
    | (k_here; (with_reducible show wpAny _ _ (call (Value.ref 319) [_, Value.int _ _, Value.int _ _]) _ _ _); k_dflt (refine' (field_c ?kaA ?kaB ?kaV ?kaZ ?kaC ?kaD) _ _ _ _ _ _ _ _ _ _ _ _ _ _ _ _ _ ?kcB ?kcF ?kcX ?kcN ?kcT ?kcK ?kcD ?kcU ?_; (case kcB => k_asm); (case kcF => k_asm); (case kcX => k_asm); (case kcN => k_asm); (case kcT => k_asm); (case kcK => first | exact rfl | assumption); (case kcD => ktr_room); (case kcU => first | ktr_units | ((simp only [units_under_make, units_in1, units_deeper] at *); ktr_units)); (case kaA => first | assumption | omega | decide); (case kaB => first | assumption | omega | decide); (case kaV => first | assumption | exact IsBuf.cons (by assumption) | exact IsBuf.cons (IsBuf.cons (by assumption)) | exact IsBuf.cons (IsBuf.cons (IsBuf.cons (by assumption))) | exact IsBuf.mono (by assumption) (by intro p hp; simp [hp])); (case kaZ => assumption); (case kaC => first | assumption | omega | decide); (case kaD => first | assumption | omega | decide); (intro r' h' tk' F' N' R'; (try dsimp only); (try k_fold); (try k_sweep); skip)))
    | (k_unfold; (try dsimp only)) | (k_end; wrow_close) | walk1 | (dsimp only; walk1) | (leave1; walk_say "STEP leave1"; try dsimp only) | fail "no step"))
    all_goals (unfold CutN); all_goals (refine ⟨rfl, _, _, _, _, rfl, ⟨?_, rfl⟩, by assumption, cb_drop (by assumption) (fun p hp => by first | exact hp | exact .tail _ hp | exact .tail _ (.tail _ hp) | exact .tail _ (.tail _ (.tail _ hp)) | exact .tail _ (.tail _ (.tail _ (.tail _ hp))) | exact .tail _ (.tail _ (.tail _ (.tail _ (.tail _ hp)))))⟩)
    all_goals (with_reducible rename IsField _ _ _ _ => hf9; exact back_of hf9 hback)
  rintro V h9 tk9 n9 ⟨⟨tB, rfl⟩, rfl⟩ F9 N9
  refine fr_letLaw F9 ?_; clear F9; intro m9 F9
  clear F8 N8 hw7
  refine wpP_cutN (x := PySem.Str.ofString "v") (fun V news' => (∃ t, V = .int v t) ∧ news' = n9) F9 ?_ ?_
  · (repeat' (first | ((with_reducible show wpAny _ _ _ _ _ (Shared.mk _ _ _ (Shared.toks _ + 1) _)); dsimp only) | (k_unfold; (try dsimp only)) | (k_end; wrow_close) | walk1 | (dsimp only; walk1) | (leave1; walk_say "STEP leave1"; try dsimp only) | fail "no step"))
    all_goals (unfold CutN); all_goals (refine ⟨rfl, _, _, _, _, rfl, ⟨?_, rfl⟩, by assumption, cb_drop (by assumption) (fun p hp => by first | exact hp | exact .tail _ hp | exact .tail _ (.tail _ hp) | exact .tail _ (.tail _ (.tail _ hp)) | exact .tail _ (.tail _ (.tail _ (.tail _ hp))) | exact .tail _ (.tail _ (.tail _ (.tail _ (.tail _ hp)))))⟩); all_goals (exact int_eq (by omega))
  rintro V h10 tk10 n10 ⟨⟨tV, rfl⟩, rfl⟩ F10 N10
  refine fr_letLaw F10 ?_; clear F10; intro m10 F10
  clear F9 N9
  refine wpP_cutN (x := PySem.Str.ofString "size") (fun V news' => (∃ t, V = .int (4 + 2 * (ps.length : Int)) t) ∧ news' = n10) F10 ?_ ?_
  · (repeat' (first
    | ((with_reducible show wpAny _ _ _ _ _ (Shared.mk _ _ _ (Shared.toks _ + 1) _)); dsimp only)
    | (k_here; (with_reducible show wpAny _ _ (call (Value.ref 312) [_, Value.int _ _, Value.int _ _]) _ _ _); k_dflt (refine' (number_c ?kaV ?kaZ ?kaA ?kaB ?kaC ?kaD) _ _ _ _ _ _ _ _ _ _ _ _ _ _ _ _ _ ?kcB ?kcF ?kcX ?kcN ?kcT ?kcK ?kcD ?kcU ?_; (case kcB => k_asm); (case kcF => k_asm); (case kcX => k_asm); (case kcN => k_asm); (case kcT => k_asm); (case kcK => first | exact rfl | assumption); (case kcD => ktr_room); (case kcU => first | ktr_units | ((simp only [units_under_make, units_in1, units_deeper] at *); ktr_units)); (case kaV => first | assumption | exact IsBuf.cons (by assumption) | exact IsBuf.cons (IsBuf.cons (by assumption)) | exact IsBuf.cons (IsBuf.cons (IsBuf.cons (by assumption))) | exact IsBuf.mono (by assumption) (by intro p hp; simp [hp])); (case kaZ => assumption); (case kaA => first | assumption | omega | decide); (case kaB => first | assumption | omega | decide); (case kaC => first | assumption | omega | decide); (case kaD => first | assumption | omega | decide); (intro r' h' tk' F' N' R'; (try dsimp only); (try k_fold); (try k_sweep); (obtain ⟨t9, e9⟩ := R'; subst e9))))
    | (k_unfold; (try dsimp only)) | (k_end; wrow_close) | walk1 | (dsimp only; walk1) | (leave1; walk_say "STEP leave1"; try dsimp only) | fail "no step"))
    all_goals (unfold CutN); all_goals (refine ⟨rfl, _, _, _, _, rfl, ⟨?_, rfl⟩, by assumption, cb_drop (by assumption) (fun p hp => by first | exact hp | exact .tail _ hp | exact .tail _ (.tail _ hp) | exact .tail _ (.tail _ (.tail _ hp)) | exact .tail _ (.tail _ (.tail _ (.tail _ hp))) | exact .tail _ (.tail _ (.tail _ (.tail _ (.tail _ hp)))))⟩); all_goals (exact int_eq (by omega))
  rintro V h11 tk11 nw ⟨⟨tS, rfl⟩, rfl⟩ F11 N11
  refine fr_letLaw F11 ?_; clear F11; intro m11 F11
  clear F10 N10
  have hr8 := range_ok 8
  refine wpP_execs_cons ?_
  refine for_six (c := 8) (PySem.Str.ofString "place") (PySem.Str.ofString "k") (PySem.Str.ofString "default") (PySem.Str.ofString "due") (PySem.Str.ofString "told") (PySem.Str.ofString "end") rfl rfl rfl (by decide) (by decide) F11 N11 ?_ hnT ?_ ?_
  · (repeat' (first | ((with_reducible show wpAny _ _ _ _ _ (Shared.mk _ _ _ (Shared.toks _ + 1) _)); dsimp only) | (k_unfold; (try dsimp only)) | (k_end; wrow_close) | walk1 | (dsimp only; walk1) | (leave1; walk_say "STEP leave1"; try dsimp only) | fail "no step"))
    all_goals (unfold RangeEnd; exact ⟨_, _, _, _, _, _, rfl, rfl, by assumption, by assumption⟩)
  · intro z hz0 hz8 u It ob h12 tk12 t12 hob F12 N12
    clear F11 N11
    have hz8 : z < 8 := hz8
    have hVI : IsBuf ((It, ob) :: nw) VO o := hVT.cons
    have hTI : IsTab ((It, ob) :: nw) tb dx hh1 hh2 tt1 tt2 nn VO y tx := hT.cons
    have hmI : (D, LCg.lst ys) ∈ (It, ob) :: nw := .tail _ hmT
    generalize (It, ob) :: nw = nI at *
    clear hVT hT hmT hnT
    refine wpP_cutN (x := PySem.Str.ofString "place") (fun V news' => (∃ P t, V = .int P t ∧ P = ps.getD z.toNat 0) ∧ news' = nI) F12 ?_ ?_
    · (repeat' (first
    | ((with_reducible show wpAny _ _ _ _ _ (Shared.mk _ _ _ (Shared.toks _ + 1) _)); dsimp only)
      | (k_here; (with_reducible show wpAny _ _ (call (Value.ref 312) [_, Value.int _ _, Value.int _ _]) _ _ _); k_dflt (refine' (number_c ?kaV ?kaZ ?kaA ?kaB ?kaC ?kaD) _ _ _ _ _ _ _ _ _ _ _ _ _ _ _ _ _ ?kcB ?kcF ?kcX ?kcN ?kcT ?kcK ?kcD ?kcU ?_; (case kcB => k_asm); (case kcF => k_asm); (case kcX => k_asm); (case kcN => k_asm); (case kcT => k_asm); (case kcK => first | exact rfl | assumption); (case kcD => ktr_room); (case kcU => first | ktr_units | ((simp only [units_under_make, units_in1, units_deeper] at *); ktr_units)); (case kaV => first | assumption | exact IsBuf.cons (by assumption) | exact IsBuf.cons (IsBuf.cons (by assumption)) | exact IsBuf.cons (IsBuf.cons (IsBuf.cons (by assumption))) | exact IsBuf.mono (by assumption) (by intro p hp; simp [hp])); (case kaZ => assumption); (case kaA => first | assumption | omega | decide); (case kaB => first | assumption | omega | decide); (case kaC => first | assumption | omega | decide); (case kaD => first | assumption | omega | decide); (intro r' h' tk' F' N' R'; (try dsimp only); (try k_fold); (try k_sweep); (obtain ⟨t9, e9⟩ := R'; subst e9))))
      | (k_unfold; (try dsimp only)) | (k_end; wrow_close) | walk1 | (dsimp only; walk1) | (leave1; walk_say "STEP leave1"; try dsimp only) | fail "no step"))
      all_goals (unfold CutN); all_goals (refine ⟨rfl, _, _, _, _, rfl, ⟨?_, rfl⟩, by assumption, cb_drop (by assumption) (fun p hp => by first | exact hp | exact .tail _ hp | exact .tail _ (.tail _ hp) | exact .tail _ (.tail _ (.tail _ hp)) | exact .tail _ (.tail _ (.tail _ (.tail _ hp))) | exact .tail _ (.tail _ (.tail _ (.tail _ (.tail _ hp)))))⟩)
      all_goals first
        | exact ⟨_, _, rfl, place_of hO hz0 (by omega) rfl⟩
        | exact ⟨_, _, rfl, (hO.far hz0 (by omega)).symm⟩
    rintro V h13 tk13 n13 ⟨⟨P, tP, rfl, hP⟩, rfl⟩ F13 N13
    refine fr_letLaw F13 ?_; clear F13; intro m13 F13
    clear F12 N12
    have hPq : P = 0 ∨ (4 ≤ P ∧ P ≤ 27) := by rw [hP]; exact hO.pq' _
    refine wpP_cutN (x := PySem.Str.ofString "k") (fun V news' => (∃ kk t, V = .int kk t ∧ 0 ≤ kk ∧ kk < 9) ∧ news' = n13) F13 ?_ ?_
    · (repeat' (first
    | ((with_reducible show wpAny _ _ _ _ _ (Shared.mk _ _ _ (Shared.toks _ + 1) _)); dsimp only)
      | ((with_reducible show wpAny _ _ (binaryOp Operator.FloorDiv (Value.int _ _) (Value.int _ _)) _ _ _); k_here; (with_reducible refine floordiv_int (by omega) ?_ (Or.inl (PyProof.noPylong_small (by omega)))))
      | (k_here; (with_reducible show wpAny _ _ (subscriptTail _ _ (Value.ref _) (Value.int _ _)) _ _ _); k_dflt (refine' item_ints (isList_news ?kbN ?kbM) ?kbI ?kbA ?kbB ?kbZ ?_; (case kbN => k_asm); (case kbM => repeat (first | exact List.Mem.head _ | assumption | refine List.Mem.tail _ ?_ | refine List.mem_append_right _ ?_)); (case kbI => assumption); (case kbZ => assumption); (case kbA => first | assumption | omega | decide); (case kbB => first | assumption | omega | decide)); intro t')
      | (k_unfold; (try dsimp only)) | (k_end; wrow_close) | walk1 | (dsimp only; walk1) | (leave1; walk_say "STEP leave1"; try dsimp only) | fail "no step"))
      all_goals (unfold CutN); all_goals (refine ⟨rfl, _, _, _, _, rfl, ⟨?_, rfl⟩, by assumption, cb_drop (by assumption) (fun p hp => by first | exact hp | exact .tail _ hp | exact .tail _ (.tail _ hp) | exact .tail _ (.tail _ (.tail _ hp)) | exact .tail _ (.tail _ (.tail _ (.tail _ hp))) | exact .tail _ (.tail _ (.tail _ (.tail _ (.tail _ hp)))))⟩)
      all_goals exact ⟨_, _, rfl, fmod_lo _ (by decide), fmod_hi _ (by decide)⟩
    rintro V h14 tk14 n14 ⟨⟨kk, tK, rfl, hk0, hk9⟩, rfl⟩ F14 N14
    refine fr_letLaw F14 ?_; clear F14; intro m14 F14
    clear F13 N13
    have hw8 := (wd_pos (k := kk.toNat) (by omega)).2
    have hwd : wd kk.toNat = ([1, 1, 2, 4, 8, 1, 2, 4, 8] : List Int).getD kk.toNat 0 := rfl
    have hw1 := (wd_pos (k := kk.toNat) (by omega)).1
    refine wpP_cutN (x := PySem.Str.ofString "default") (fun V news' => IsDfl kk.toNat V ∧ news' = n14) F14 ?_ ?_
    · (repeat' (first
    | ((with_reducible show wpAny _ _ _ _ _ (Shared.mk _ _ _ (Shared.toks _ + 1) _)); dsimp only)
      | (k_here; (with_reducible show wpAny _ _ (subscriptTail _ _ (Value.ref _) (Value.int _ _)) _ _ _); k_dflt (refine' item_dfl (isTup_news ?kbN ?kbM) ?kbA ?kbB ?_; (case kbN => k_asm); (case kbM => k_mem); (case kbA => first | assumption | omega | decide); (case kbB => first | assumption | omega | decide)); intro v' hI')
      | (k_unfold; (try dsimp only)) | (k_end; wrow_close) | walk1 | (dsimp only; walk1) | (leave1; walk_say "STEP leave1"; try dsimp only) | fail "no step"))
      all_goals (unfold CutN); all_goals (refine ⟨rfl, _, _, _, _, rfl, ⟨by assumption, rfl⟩, by assumption, cb_drop (by assumption) (fun p hp => by first | exact hp | exact .tail _ hp | exact .tail _ (.tail _ hp) | exact .tail _ (.tail _ (.tail _ hp)) | exact .tail _ (.tail _ (.tail _ (.tail _ hp))) | exact .tail _ (.tail _ (.tail _ (.tail _ (.tail _ hp)))))⟩)
    rintro DV h15 tk15 n15 ⟨hDV, rfl⟩ F15 N15
    refine fr_letLaw F15 ?_; clear F15; intro m15 F15
    clear F14 N14
    refine wpP_cutS F15 N15 ?_ ?_
    · (repeat' (first
    | ((with_reducible show wpAny _ _ _ _ _ (Shared.mk _ _ _ (Shared.toks _ + 1) _)); dsimp only)
      | (k_here; (with_reducible show wpAny _ _ (call (Value.ref 284) [Value.ref _, Value.int _ _, Value.int _ _]) _ _ _); k_dflt (refine' (voff_l ?kaO ?kaT ?kaV ?kaA ?kaB ?kaP) _ _ _ _ _ _ _ _ _ _ _ _ _ _ _ _ _ ?kcB ?kcF ?kcX ?kcN ?kcT ?kcK ?kcD ?kcU ?_; (case kcB => k_asm); (case kcF => k_asm); (case kcX => k_asm); (case kcN => k_asm); (case kcT => k_asm); (case kcK => first | exact rfl | assumption); (case kcD => ktr_room); (case kcU => first | ktr_units | ((simp only [units_under_make, units_in1, units_deeper] at *); ktr_units)); (case kaO => assumption); (case kaT => repeat (first | assumption | refine IsTab.cons ?_)); (case kaV => first | assumption | exact IsBuf.cons (by assumption) | exact IsBuf.cons (IsBuf.cons (by assumption)) | exact IsBuf.cons (IsBuf.cons (IsBuf.cons (by assumption))) | exact IsBuf.mono (by assumption) (by intro p hp; simp [hp])); (case kaA => first | assumption | omega | decide); (case kaB => first | assumption | omega | decide); (case kaP => assumption); (intro r' h' tk' F' N' R'; (try dsimp only); (try k_fold); (try k_sweep); (obtain ⟨q9, t9, e9, c9, d9⟩ := R'; subst e9))))
      | (k_here; (with_reducible show wpAny _ _ (call (Value.ref 228) [Value.ref _, Value.int _ _]) _ _ _); k_dflt (refine' (off_l ?kaO ?kaT ?kaV ?kaA ?kaP) _ _ _ _ _ _ _ _ _ _ _ _ _ _ _ _ _ ?kcB ?kcF ?kcX ?kcN ?kcT ?kcK ?kcD ?kcU ?_; (case kcB => k_asm); (case kcF => k_asm); (case kcX => k_asm); (case kcN => k_asm); (case kcT => k_asm); (case kcK => first | exact rfl | assumption); (case kcD => ktr_room); (case kcU => first | ktr_units | ((simp only [units_under_make, units_in1, units_deeper] at *); ktr_units)); (case kaO => assumption); (case kaT => repeat (first | assumption | refine IsTab.cons ?_)); (case kaV => first | assumption | exact IsBuf.cons (by assumption) | exact IsBuf.cons (IsBuf.cons (by assumption)) | exact IsBuf.cons (IsBuf.cons (IsBuf.cons (by assumption))) | exact IsBuf.mono (by assumption) (by intro p hp; simp [hp])); (case kaA => first | assumption | omega | decide); (case kaP => assumption); (intro r' h' tk' F' N' R'; (try dsimp only); (try k_fold); (try k_sweep); (obtain ⟨t9, e9⟩ := R'; subst e9))))
      | ((with_reducible show wpAny _ _ (getMethod (Value.ref _) _ _) _ _ _); k_here; (with_reducible rename IsTab _ _ _ _ _ _ _ _ _ _ _ => hT'); k_dflt (refine' method_inst ?k1 ?k2 (InstAt.of_news ?kn ?ko ?kd) ?k4 ?k5 ?k6 ?k7 ?_; (case k1 => k_asm); (case k2 => k_asm); (case kn => k_asm); (case ko => repeat (first | exact hT'.obj | refine List.Mem.tail _ ?_ | refine List.mem_append_right _ ?_)); (case kd => repeat (first | exact hT'.dict | refine List.Mem.tail _ ?_ | refine List.mem_append_right _ ?_)); (case k4 => k_is); (case k5 => k_is); (case k6 => k_is); (case k7 => k_get); k_whole))
      | (k_unfold; (try dsimp only)) | (k_end; wrow_close) | walk1 | (dsimp only; walk1) | (leave1; walk_say "STEP leave1"; try dsimp only) | fail "no step"))
      all_goals (unfold CutS); all_goals first | exact ⟨rfl, _, _, rfl, by assumption, cb_drop (by assumption) (fun p hp => by first | exact hp | exact .tail _ hp | exact .tail _ (.tail _ hp) | exact .tail _ (.tail _ (.tail _ hp)) | exact .tail _ (.tail _ (.tail _ (.tail _ hp))) | exact .tail _ (.tail _ (.tail _ (.tail _ (.tail _ hp)))))⟩ | (exfalso; omega)
    intro h16 tk16 F16 N16
    clear F15 N15
    refine wpP_cutN (x := PySem.Str.ofString "due") (fun V news' => ((0 < P → IsField o (y + P) kk.toNat V) ∧ (P = 0 → V = DV)) ∧ news' = n15) F16 ?_ ?_
    · (repeat' (first
    | ((with_reducible show wpAny _ _ _ _ _ (Shared.mk _ _ _ (Shared.toks _ + 1) _)); dsimp only)
      | (k_here; (with_reducible show wpAny _ _ (call (Value.ref 319) [_, Value.int _ _, Value.int _ _]) _ _ _); k_dflt (refine' (field_c ?kaA ?kaB ?kaV ?kaZ ?kaC ?kaD) _ _ _ _ _ _ _ _ _ _ _ _ _ _ _ _ _ ?kcB ?kcF ?kcX ?kcN ?kcT ?kcK ?kcD ?kcU ?_; (case kcB => k_asm); (case kcF => k_asm); (case kcX => k_asm); (case kcN => k_asm); (case kcT => k_asm); (case kcK => first | exact rfl | assumption); (case kcD => ktr_room); (case kcU => first | ktr_units | ((simp only [units_under_make, units_in1, units_deeper] at *); ktr_units)); (case kaA => first | assumption | omega | decide); (case kaB => first | assumption | omega | decide); (case kaV => first | assumption | exact IsBuf.cons (by assumption) | exact IsBuf.cons (IsBuf.cons (by assumption)) | exact IsBuf.cons (IsBuf.cons (IsBuf.cons (by assumption))) | exact IsBuf.mono (by assumption) (by intro p hp; simp [hp])); (case kaZ => assumption); (case kaC => first | assumption | omega | decide); (case kaD => first | assumption | omega | decide); (intro r' h' tk' F' N' R'; (try dsimp only); (try k_fold); (try k_sweep); skip)))
      | (k_unfold; (try dsimp only)) | (k_end; wrow_close) | walk1 | (dsimp only; walk1) | (leave1; walk_say "STEP leave1"; try dsimp only) | fail "no step"))
      all_goals (unfold CutN); all_goals (refine ⟨rfl, _, _, _, _, rfl, ⟨?_, rfl⟩, by assumption, cb_drop (by assumption) (fun p hp => by first | exact hp | exact .tail _ hp | exact .tail _ (.tail _ hp) | exact .tail _ (.tail _ (.tail _ hp)) | exact .tail _ (.tail _ (.tail _ (.tail _ hp))) | exact .tail _ (.tail _ (.tail _ (.tail _ (.tail _ hp)))))⟩)
      all_goals first
        | exact ⟨fun _ => by assumption, fun h => by omega⟩
        | exact ⟨fun h => by omega, fun _ => rfl⟩
    rintro DU h17 tk17 n17 ⟨⟨hdu1, hdu2⟩, rfl⟩ F17 N17
    refine fr_letLaw F17 ?_; clear F17; intro m17 F17
    clear F16 N16
    refine wpP_cutN (x := PySem.Str.ofString "told") (fun V news' => ((P = 0 ∧ V = DV) ∨ (P ≠ 0 ∧ IsField o (y + P) kk.toNat V)) ∧ news' = n17) F17 ?_ ?_
    · (repeat' (first
    | ((with_reducible show wpAny _ _ _ _ _ (Shared.mk _ _ _ (Shared.toks _ + 1) _)); dsimp only)
      | (k_here; (with_reducible show wpAny _ _ (call (Value.ref 305) [Value.int _ _]) _ _ _); k_dflt (refine' (flags_c ?kaA ?kaB) _ _ _ _ _ _ _ _ _ _ _ _ _ _ _ _ _ ?kcB ?kcF ?kcX ?kcN ?kcT ?kcK ?kcD ?kcU ?_; (case kcB => k_asm); (case kcF => k_asm); (case kcX => k_asm); (case kcN => k_asm); (case kcT => k_asm); (case kcK => first | exact rfl | assumption); (case kcD => ktr_room); (case kcU => first | ktr_units | ((simp only [units_under_make, units_in1, units_deeper] at *); ktr_units)); (case kaA => first | assumption | omega | decide); (case kaB => first | assumption | omega | decide); (intro r' h' tk' F' N' R'; (try dsimp only); (try k_fold); (try k_sweep); (have e9 : r' = _ := R'; subst e9))))
      | (k_here; (with_reducible show wpAny _ _ (call (Value.ref 277) [Value.ref _, Value.int _ _, _, Value.ref (flA _)]) _ _ _); k_dflt (refine' (slot_l ?kaA ?kaB ?kaD ?kaO ?kaT ?kaV ?kaC ?kaE ?kaP) _ _ _ _ _ _ _ _ _ _ _ _ _ _ _ _ _ ?kcB ?kcF ?kcX ?kcN ?kcT ?kcK ?kcD ?kcU ?_; (case kcB => k_asm); (case kcF => k_asm); (case kcX => k_asm); (case kcN => k_asm); (case kcT => k_asm); (case kcK => first | exact rfl | assumption); (case kcD => ktr_room); (case kcU => first | ktr_units | ((simp only [units_under_make, units_in1, units_deeper] at *); ktr_units)); (case kaA => first | assumption | omega | decide); (case kaB => first | assumption | omega | decide); (case kaD => assumption); (case kaO => assumption); (case kaT => repeat (first | assumption | refine IsTab.cons ?_)); (case kaV => first | assumption | exact IsBuf.cons (by assumption) | exact IsBuf.cons (IsBuf.cons (by assumption)) | exact IsBuf.cons (IsBuf.cons (IsBuf.cons (by assumption))) | exact IsBuf.mono (by assumption) (by intro p hp; simp [hp])); (case kaC => first | assumption | omega | decide); (case kaE => first | assumption | omega | decide); (case kaP => assumption); (intro r' h' tk' F' N' R'; (try dsimp only); (try k_fold); (try k_sweep); skip)))
      | ((with_reducible show wpAny _ _ (getMethod (Value.ref _) _ _) _ _ _); k_here; (with_reducible rename IsTab _ _ _ _ _ _ _ _ _ _ _ => hT'); k_dflt (refine' method_inst ?k1 ?k2 (InstAt.of_news ?kn ?ko ?kd) ?k4 ?k5 ?k6 ?k7 ?_; (case k1 => k_asm); (case k2 => k_asm); (case kn => k_asm); (case ko => repeat (first | exact hT'.obj | refine List.Mem.tail _ ?_ | refine List.mem_append_right _ ?_)); (case kd => repeat (first | exact hT'.dict | refine List.Mem.tail _ ?_ | refine List.mem_append_right _ ?_)); (case k4 => k_is); (case k5 => k_is); (case k6 => k_is); (case k7 => k_get); k_whole))
      | (k_unfold; (try dsimp only)) | (k_end; wrow_close) | walk1 | (dsimp only; walk1) | (leave1; walk_say "STEP leave1"; try dsimp only) | fail "no step"))
      all_goals (unfold CutN); all_goals (refine ⟨rfl, _, _, _, _, rfl, ⟨by assumption, rfl⟩, by assumption, cb_drop (by assumption) (fun p hp => by first | exact hp | exact .tail _ hp | exact .tail _ (.tail _ hp) | exact .tail _ (.tail _ (.tail _ hp)) | exact .tail _ (.tail _ (.tail _ (.tail _ hp))) | exact .tail _ (.tail _ (.tail _ (.tail _ (.tail _ hp)))))⟩)
    rintro WT h18 tk18 n18 ⟨hwt, rfl⟩ F18 N18
    refine fr_letLaw F18 ?_; clear F18; intro m18 F18
    clear F17 N17
    have hS : Same WT DU := by
      rcases hwt with ⟨e1, e2⟩ | ⟨e1, e2⟩
      · rw [e2, hdu2 e1]; exact hDV.same
      · exact e2.same (hdu1 (by omega))
    clear hdu1 hdu2 hwt hDV
    refine wpP_cutS F18 N18 ?_ ?_
    · with_reducible refine wpAny_If ?_
      (repeat' (first
    | ((with_reducible show wpAny _ _ _ _ _ (Shared.mk _ _ _ (Shared.toks _ + 1) _)); dsimp only)
        | (k_here; (with_reducible show wpAny _ _ (call (Value.builtin "isinstance") [_, Value.type "bool"]) _ _ _); first | (with_reducible refine isi_same (by assumption) ?_) | (with_reducible refine isi_same2 (by assumption) ?_); intro k')
        | ((with_reducible show wpAny _ _ (compareOp CmpOp.NotEq (Value.bool _) (Value.bool _)) _ _ _); k_here; (with_reducible refine ne_bool_self ?_))
        | ((with_reducible show wpAny _ _ (compareOp CmpOp.NotEq _ _) _ _ _); k_here; (with_reducible refine ne_same (by assumption) ?_))
        | (k_unfold; (try dsimp only)) | (k_end; wrow_close) | walk1 | (dsimp only; walk1) | (leave1; walk_say "STEP leave1"; try dsimp only) | fail "no step"))
      all_goals (unfold CutS); all_goals first | exact ⟨rfl, _, _, rfl, by assumption, cb_drop (by assumption) (fun p hp => by first | exact hp | exact .tail _ hp | exact .tail _ (.tail _ hp) | exact .tail _ (.tail _ (.tail _ hp)) | exact .tail _ (.tail _ (.tail _ (.tail _ hp))) | exact .tail _ (.tail _ (.tail _ (.tail _ (.tail _ hp)))))⟩ | (exfalso; omega)
    intro h19 tk19 F19 N19
    clear F18 N18 hS
    have f12 := fmod_lo (zs.getD (Int.toNat 4) 0 + z) (n := 12) (by decide)
    have e12 := fmod_hi (zs.getD (Int.toNat 4) 0 + z) (n := 12) (by decide)
    refine wpP_cutN (x := PySem.Str.ofString "end") (fun V news' => (∃ e t, V = .int e t ∧ 149 ≤ e ∧ e ≤ 160) ∧ news' = n18) F19 ?_ ?_
    · (repeat' (first
    | ((with_reducible show wpAny _ _ _ _ _ (Shared.mk _ _ _ (Shared.toks _ + 1) _)); dsimp only)
      | (k_here; (with_reducible show wpAny _ _ (subscriptTail _ _ (Value.ref _) (Value.int _ _)) _ _ _); k_dflt (refine' item_ints (isList_news ?kbN ?kbM) ?kbI ?kbA ?kbB ?kbZ ?_; (case kbN => k_asm); (case kbM => repeat (first | exact List.Mem.head _ | assumption | refine List.Mem.tail _ ?_ | refine List.mem_append_right _ ?_)); (case kbI => assumption); (case kbZ => assumption); (case kbA => first | assumption | omega | decide); (case kbB => first | assumption | omega | decide)); intro t')
      | (k_here; (with_reducible show wpAny _ _ (call (Value.builtin "len") [_]) _ _ _); k_dflt (refine' len_buf ?kbN ?kbV ?kbZ ?_; (case kbN => k_asm); (case kbV => first | assumption | exact IsBuf.cons (by assumption) | exact IsBuf.cons (IsBuf.cons (by assumption)) | exact IsBuf.cons (IsBuf.cons (IsBuf.cons (by assumption))) | exact IsBuf.mono (by assumption) (by intro p hp; simp [hp])); (case kbZ => assumption)); intro t' k')
      | (k_unfold; (try dsimp only)) | (k_end; wrow_close) | walk1 | (dsimp only; walk1) | (leave1; walk_say "STEP leave1"; try dsimp only) | fail "no step"))
      all_goals (unfold CutN); all_goals (refine ⟨rfl, _, _, _, _, rfl, ⟨?_, rfl⟩, by assumption, cb_drop (by assumption) (fun p hp => by first | exact hp | exact .tail _ hp | exact .tail _ (.tail _ hp) | exact .tail _ (.tail _ (.tail _ hp)) | exact .tail _ (.tail _ (.tail _ (.tail _ hp))) | exact .tail _ (.tail _ (.tail _ (.tail _ (.tail _ hp)))))⟩)
      all_goals (refine ⟨_, _, rfl, ?_, ?_⟩ <;> omega)
    rintro V h20 tk20 n20 ⟨⟨e, tE, rfl, he0, he1⟩, rfl⟩ F20 N20
    refine fr_letLaw F20 ?_; clear F20; intro m20 F20
    clear F19 N19 f12 e12
    refine wpP_cutN (x := PySem.Str.ofString "due") (fun V news' => IsGet o e kk.toNat V ∧ news' = n20) F20 ?_ ?_
    · (repeat' (first
    | ((with_reducible show wpAny _ _ (callWith _ (Value.ref _) _ (backTo _ (starEach [] _)) []) _ _ _); k_here; (with_reducible refine' callWith_K0 ?k1 ?k2 ?_); (case k1 => exact Frag.In.keeps KX F20.keep); (case k2 => k_is); k_whole)
    | ((with_reducible show wpAny _ _ _ _ _ (Shared.mk _ _ _ (Shared.toks _ + 1) _)); dsimp only)
      | (k_here; (with_reducible show wpAny _ _ (call (Value.ref 319) [_, Value.int _ _, Value.int _ _]) _ _ _); k_dflt (refine' (field_c ?kaA ?kaB ?kaV ?kaZ ?kaC ?kaD) _ _ _ _ _ _ _ _ _ _ _ _ _ _ _ _ _ ?kcB ?kcF ?kcX ?kcN ?kcT ?kcK ?kcD ?kcU ?_; (case kcB => k_asm); (case kcF => k_asm); (case kcX => k_asm); (case kcN => k_asm); (case kcT => k_asm); (case kcK => first | exact rfl | assumption); (case kcD => ktr_room); (case kcU => first | ktr_units | ((simp only [units_under_make, units_in1, units_deeper] at *); ktr_units)); (case kaA => first | assumption | omega | decide); (case kaB => first | assumption | omega | decide); (case kaV => first | assumption | exact IsBuf.cons (by assumption) | exact IsBuf.cons (IsBuf.cons (by assumption)) | exact IsBuf.cons (IsBuf.cons (IsBuf.cons (by assumption))) | exact IsBuf.mono (by assumption) (by intro p hp; simp [hp])); (case kaZ => assumption); (case kaC => first | assumption | omega | decide); (case kaD => first | assumption | omega | decide); (intro r' h' tk' F' N' R'; (try dsimp only); (try k_fold); (try k_sweep); skip)))
      | (k_here; (with_reducible show wpAny _ _ (call (Value.builtin "len") [_]) _ _ _); k_dflt (refine' len_buf ?kbN ?kbV ?kbZ ?_; (case kbN => k_asm); (case kbV => first | assumption | exact IsBuf.cons (by assumption) | exact IsBuf.cons (IsBuf.cons (by assumption)) | exact IsBuf.cons (IsBuf.cons (IsBuf.cons (by assumption))) | exact IsBuf.mono (by assumption) (by intro p hp; simp [hp])); (case kbZ => assumption)); intro t' k')
      | ((with_reducible show wpAny _ _ (call (Value.ref _) _ _) _ _ _); k_here; k_dflt (refine wpAny_call ?_; (refine' code_def ?k1 ?k2 ?k3 ?k4 ?k5 ?kA ?kF ?kK ?k6 ?k7 ?k8 ?k9 ?kB ?_ ?c2 ?c3 ?c4 ?c5; (case kA => exact rfl); (case kF => exact rfl); (case kK => first | exact rfl | assumption); (case k1 => k_asm); (case k2 => k_asm); (case k3 => k_asm); (case k4 => k_asm); (case k5 => k_asm); (case k6 => k_is); (case k7 => k_is); (case k8 => ktr_room); (case k9 => first | exact BindsTo.of_eq rfl | exact binds_K (by k_in) rfl (by k_is) rfl rfl rfl); (case c5 => decide); (case kB => exact locs rfl); (case c2 => exact rfl); (case c3 => exact rfl); (case c4 => exact rfl); k_whole; intro g' L' h' FG' F' N' B' X' T'; (try dsimp only); (try k_lift B'); (try k_fold))))
      | (k_unfold; (try dsimp only)) | (k_end; wrow_close) | walk1 | (dsimp only; walk1) | (leave1; walk_say "STEP leave1"; try dsimp only) | fail "no step"))
      all_goals (unfold CutN); all_goals (refine ⟨rfl, _, _, _, _, rfl, ⟨?_, rfl⟩, by assumption, cb_drop (by assumption) (fun p hp => by first | exact hp | exact .tail _ hp | exact .tail _ (.tail _ hp) | exact .tail _ (.tail _ (.tail _ hp)) | exact .tail _ (.tail _ (.tail _ (.tail _ hp))) | exact .tail _ (.tail _ (.tail _ (.tail _ (.tail _ hp)))))⟩)
      all_goals (unfold IsGet)
      all_goals first
        | (rw [if_pos (by omega)]; assumption)
        | rw [if_neg (by omega)]
    rintro DG h21 tk21 n21 ⟨hDG, rfl⟩ F21 N21
    refine fr_letLaw F21 ?_; clear F21; intro m21 F21
    clear F20 N20
    refine wpP_cutS F21 N21 ?_ ?_
    · with_reducible refine wpAny_If ?_
      (repeat' (first
    | ((with_reducible show wpAny _ _ _ _ _ (Shared.mk _ _ _ (Shared.toks _ + 1) _)); dsimp only)
        | ((with_reducible show wpAny _ _ (compareOp CmpOp.NotEq _ _) _ _ _); k_here; (with_reducible refine ne_get (by assumption) (by assumption) ?_))
        | (k_here; (with_reducible show wpAny _ _ (call (Value.ref 333) [Value.ref _, Value.int _ _, Value.int _ _]) _ _ _); k_dflt (refine' (lawget_c ?kaT ?kaV ?kaZ ?kaA ?kaB ?kaC ?kaD) _ _ _ _ _ _ _ _ _ _ _ _ _ _ _ ?kcB ?kcF ?kcX ?kcN ?kcT ?kcY ?kcS ?kcK ?kcD ?kcU ?_; (case kcB => k_asm); (case kcF => k_asm); (case kcX => k_asm); (case kcN => k_asm); (case kcT => k_asm); (case kcY => k_asm); (case kcS => k_asm); (case kcK => first | exact rfl | assumption); (case kcD => ktr_room); (case kcU => first | ktr_units | ((simp only [units_under_make, units_in1, units_deeper] at *); ktr_units)); (case kaT => repeat (first | assumption | refine IsTab.cons ?_)); (case kaV => first | assumption | exact IsBuf.cons (by assumption) | exact IsBuf.cons (IsBuf.cons (by assumption)) | exact IsBuf.cons (IsBuf.cons (IsBuf.cons (by assumption))) | exact IsBuf.mono (by assumption) (by intro p hp; simp [hp])); (case kaZ => assumption); (case kaA => first | assumption | omega | decide); (case kaB => first | assumption | omega | decide); (case kaC => first | assumption | omega | decide); (case kaD => first | assumption | omega | decide); (intro r' h' tk' F' N' R'; (try dsimp only); (try k_fold); (try k_sweep); skip)))
        | (k_unfold; (try dsimp only)) | (k_end; wrow_close) | walk1 | (dsimp only; walk1) | (leave1; walk_say "STEP leave1"; try dsimp only) | fail "no step"))
      all_goals (unfold CutS); all_goals first | exact ⟨rfl, _, _, rfl, by assumption, cb_drop (by assumption) (fun p hp => by first | exact hp | exact .tail _ hp | exact .tail _ (.tail _ hp) | exact .tail _ (.tail _ (.tail _ hp)) | exact .tail _ (.tail _ (.tail _ (.tail _ hp))) | exact .tail _ (.tail _ (.tail _ (.tail _ (.tail _ hp)))))⟩ | (exfalso; omega)
    intro h22 tk22 F22 N22
    clear F21 N21
    refine wpP_of (wpAny_execs_nil ?_)
    unfold TurnSix
    refine ⟨rfl, _, _, _, rfl, ?_, F22, N22⟩
    intro y q0 q1 q2 q3 q4 q5 q6
    simp +zetaDelta [q0, q1, q2, q3, q4, q5, q6]
  intro h12 tk12 u F12 N12
  refine fr_letLaw F12 ?_; clear F12; intro m12 F12
  clear F11 N11
  dsimp only
  have hr0 := hO.r0
  have hr1 := hO.r1
  have hs1 := hO.s1
  have f9 := fmod_lo (zs.getD (Int.toNat 1) 0) (n := 9) (by decide)
  have e9 := fmod_hi (zs.getD (Int.toNat 1) 0) (n := 9) (by decide)
  have hd5 := getD_pos hpos (Int.toNat 5)
  refine wpP_cutS F12 N12 ?_ ?_
  · (repeat' (first
    | ((with_reducible show wpAny _ _ _ _ _ (Shared.mk _ _ _ (Shared.toks _ + 1) _)); dsimp only)
    | (k_here; (with_reducible show wpAny _ _ (call (Value.ref 354) [Value.ref _, _, Value.int _ _]) _ _ _); k_dflt (refine' (offs_c (t := default) ?kaT ?kaV ?kaZ ?kaA ?kaB ?kaC ?kaD ?kaE) _ _ _ _ _ _ _ _ _ _ _ _ _ _ _ _ _ ?kcB ?kcF ?kcX ?kcN ?kcT ?kcK ?kcD ?kcU ?_; (case kcB => k_asm); (case kcF => k_asm); (case kcX => k_asm); (case kcN => k_asm); (case kcT => k_asm); (case kcK => first | exact rfl | assumption); (case kcD => ktr_room); (case kcU => first | ktr_units | ((simp only [units_under_make, units_in1, units_deeper] at *); ktr_units)); (case kaT => repeat (first | assumption | refine IsTab.cons ?_)); (case kaV => first | assumption | exact IsBuf.cons (by assumption) | exact IsBuf.cons (IsBuf.cons (by assumption)) | exact IsBuf.cons (IsBuf.cons (IsBuf.cons (by assumption))) | exact IsBuf.mono (by assumption) (by intro p hp; simp [hp])); (case kaZ => assumption); (case kaA => first | assumption | omega | decide); (case kaB => first | assumption | omega | decide); (case kaC => first | assumption | omega | decide); (case kaD => first | assumption | omega | decide); (case kaE => first | assumption | omega | decide); (intro r' h' tk' F' N' R'; (try dsimp only); (try k_fold); (try k_sweep); (have e9 : r' = _ := R'; subst e9))))
    | (k_unfold; (try dsimp only)) | (k_end; wrow_close) | walk1 | (dsimp only; walk1) | (leave1; walk_say "STEP leave1"; try dsimp only) | fail "no step"))
    all_goals (unfold CutS); all_goals first | exact ⟨rfl, _, _, rfl, by assumption, cb_drop (by assumption) (fun p hp => by first | exact hp | exact .tail _ hp | exact .tail _ (.tail _ hp) | exact .tail _ (.tail _ (.tail _ hp)) | exact .tail _ (.tail _ (.tail _ (.tail _ hp))) | exact .tail _ (.tail _ (.tail _ (.tail _ (.tail _ hp)))))⟩ | (exfalso; omega)
  intro h13 tk13 F13 N13
  clear F12 N12
  refine wpP_of ?_
  · (repeat' (first
    | ((with_reducible show wpAny _ _ _ _ _ (Shared.mk _ _ _ (Shared.toks _ + 1) _)); dsimp only)
    | (k_here; (with_reducible show wpAny _ _ (call (Value.ref 347) [Value.ref _, Value.int _ _, Value.int _ _]) _ _ _); k_dflt (refine' (refd_c ?kaT ?kaV ?kaZ ?kaA ?kaB ?kaC) _ _ _ _ _ _ _ _ _ _ _ _ _ _ _ ?kcB ?kcF ?kcX ?kcN ?kcT ?kcY ?kcS ?kcK ?kcD ?kcU ?_; (case kcB => k_asm); (case kcF => k_asm); (case kcX => k_asm); (case kcN => k_asm); (case kcT => k_asm); (case kcY => k_asm); (case kcS => k_asm); (case kcK => first | exact rfl | assumption); (case kcD => ktr_room); (case kcU => first | ktr_units | ((simp only [units_under_make, units_in1, units_deeper] at *); ktr_units)); (case kaT => repeat (first | assumption | refine IsTab.cons ?_)); (case kaV => first | assumption | exact IsBuf.cons (by assumption) | exact IsBuf.cons (IsBuf.cons (by assumption)) | exact IsBuf.cons (IsBuf.cons (IsBuf.cons (by assumption))) | exact IsBuf.mono (by assumption) (by intro p hp; simp [hp])); (case kaZ => assumption); (case kaA => first | assumption | omega | decide); (case kaB => first | assumption | omega | decide); (case kaC => first | assumption | omega | decide); (intro r' h' tk' F' N' R'; (try dsimp only); (try k_fold); (try k_sweep); (have e9 : r' = _ := R'; subst e9))))
    | (k_here; (with_reducible show wpAny _ _ (subscriptTail _ _ (Value.ref _) (Value.int _ _)) _ _ _); k_dflt (refine' item_ints (isList_news ?kbN ?kbM) ?kbI ?kbA ?kbB ?kbZ ?_; (case kbN => k_asm); (case kbM => repeat (first | exact List.Mem.head _ | assumption | refine List.Mem.tail _ ?_ | refine List.mem_append_right _ ?_)); (case kbI => assumption); (case kbZ => assumption); (case kbA => first | assumption | omega | decide); (case kbB => first | assumption | omega | decide)); intro t')
    | (k_unfold; (try dsimp only)) | (k_end; wrow_close) | walk1 | (dsimp only; walk1) | (leave1; walk_say "STEP leave1"; try dsimp only) | fail "no step"))
    with_reducible rename Fr _ _ _ _ => F14
    exact hret _ _ F14.keep

end Mine

end
theorem PySem.Challenge.cw_jm0001_01_holds : PySem.Challenge.rw_jm0001_01.Holds :=
  Mine.law_h
