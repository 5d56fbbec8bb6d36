import PyProof.Rows.All
import Wide.All
import OpenK.AllK
import Wide.FinOn
import PySem.Challenge.RW_pe0015_02
set_option Elab.async false
section
open PySem PySem.W PyProof.Rows PySem.Calls PySem.Spec
set_option maxRecDepth 100000
namespace Mine

/-- a heap keeps another -/
abbrev Kp (h h' : Heap) : Prop := ∀ b o, h.get? b = some o → h'.get? b = some o

theorem enterP {prog : Program} {w : World} {A : Around} {s : Shared} {K : Frag} {p : Program} {loose : List Str} {mean : ExcName → Option Value} {mg mb : Str → Option Value}
    {R : Result → Shared → Prop} {name qual : Str} {params : Arguments} {body : List Stmt} {scope : Scope} {dV kV doc pm cdv ct oc : Value} {an od : Option Addr} {osl : Array (Option Value)} {f : Addr} {args : Args} {binds : List (Str × Value)}
    (X : K.In s.heap) (T : Top p loose mean mg mb s.heap)
    (ho : K.lookup f = some ⟨oc, od, .func (fnOf name qual params body scope dV kV doc pm an cdv ct), osl⟩) (hcd : codeIn K cdv qual = true) (hroom : A.depth < recursionLimit)
    (hbind : BindsTo s (fnOf name qual params body scope dV kV doc pm an cdv ct) args binds) (hloc : ∀ y ∈ binds, scope.names.lookup y.1 = some .local)
    (h : ∀ L h₁, Fr s.heap L h₁ (fun y => binds.reverse.lookup y) → News s.heap L h₁ [] →
      wpAny (model prog w) (A.deeper (envOf qual scope L f cdv)) (execs body (envOf qual scope L f cdv))
        (fun fl s' => R (.ok (.ret (match fl with | .ret v => v | _ => .none))) s') (fun _ _ => False)
        { s with heap := h₁, toks := s.toks + binds.length })
    (hco : scope.isCoroutine = false) (hgen : scope.isGenerator = false) (hk : scope.kind = .function)
    (hcell : ∀ x ∈ scope.names, x.2 ≠ .cell) : codeAny (model prog w) A (.call (.ref f) args) R s := by
  refine codeAny_call_def (fd := fnOf name qual params body scope dV kV doc pm an cdv ct) (body := body) (binds := binds) hroom (X _ _ ho) rfl T.nolimit (codeRec_of X hcd) rfl hbind hcell hloc (fun h₁ hns hk₁ => ?_) hco hgen hk
  exact wpAny_mono (h s.heap.objs.size h₁ ⟨hns, hk₁, Nat.le_refl _⟩ News.nil) (fun fl s' hl => hl) fun _ _ y => y.elim

theorem enterC {prog : Program} {w : World} {A : Around} {s : Shared} {K : Frag} {p : Program} {loose : List Str} {mean : ExcName → Option Value} {mg mb : Str → Option Value}
    {R : Result → Shared → Prop} {name qual : Str} {params : Arguments} {body : List Stmt} {scope : Scope} {dV kV doc pm cdv ct oc : Value} {an od : Option Addr} {osl : Array (Option Value)} {f : Addr} {args : Args} {binds : List (Str × Value)}
    (X : K.In s.heap) (T : Top p loose mean mg mb s.heap)
    (ho : K.lookup f = some ⟨oc, od, .func (fnOf name qual params body scope dV kV doc pm an cdv ct), osl⟩) (hcd : codeIn K cdv qual = true) (hroom : A.depth < recursionLimit)
    (hbind : BindsTo s (fnOf name qual params body scope dV kV doc pm an cdv ct) args binds)
    (hkind : (binds.all fun y => scope.names.lookup y.1 == some .local || scope.names.lookup y.1 == some .cell) = true)
    (hnd : ((cellsFrom 0 scope.names []).map (·.1)).Nodup)
    (h : ∀ L h₁ tk cells, Fr s.heap L h₁ (bindL (envOfC qual scope L f cdv).kindOf binds fun _ => none) → News s.heap L h₁ cells →
      CellsAre (bindC (envOfC qual scope L f cdv).kindOf binds fun _ => none) (cellsFrom (L + 1) scope.names []) cells →
      wpAny (model prog w) (A.deeper (envOfC qual scope L f cdv)) (execs body (envOfC qual scope L f cdv))
        (fun fl s' => R (.ok (.ret (match fl with | .ret v => v | _ => .none))) s') (fun _ _ => False)
        { s with heap := h₁, toks := tk })
    (hco : scope.isCoroutine = false) (hgen : scope.isGenerator = false) (hk : scope.kind = .function) :
    codeAny (model prog w) A (.call (.ref f) args) R s := by
  refine codeAny_call_function hroom (X _ _ ho) rfl hco hgen rfl (codeRec_of X hcd) (hbind _ _ _ _ ?_)
  refine wpAny_newFunctionEnv_cells hk (kindsX hkind _) fun env' he s' x => ?_
  subst he
  refine ⟨T.nolimit.keeps x.toInCall.keep, codeAny_func ?_⟩
  obtain ⟨h₁, tk, rfl, _⟩ := x.done
  have hk₁ := x.toInCall.keep
  obtain ⟨cells, NC, Y⟩ := Cl.news (h₀ := s.heap) (Nat.le_refl _) fun n c hm => ⟨x.cell n c (lookup_of_mem_nodup (cellsFrom_names scope.names 0 (s.heap.objs.size + 1) [] [] rfl ▸ hnd) hm), x.above n c hm⟩
  exact wpAny_mono (h s.heap.objs.size h₁ tk cells ⟨x.toInCall.ns, hk₁, Nat.le_refl _⟩ NC Y) (fun fl s' hl => hl) fun _ _ y => y.elim

theorem band1 (n : Int) : Builtin.bitAnd n 1 = n % 2 := by
  have h := kbt_mask n 1
  simpa using h

def crcStep (n : Int) : Int := if n % 2 = 1 then Builtin.bitXor (n / 2) 3988292384 else n / 2
theorem crcStep_odd {a : Int} (h : Builtin.bitAnd a 1 ≠ 0) : crcStep a = Builtin.bitXor (a.fdiv (2 ^ (1 : Int).toNat)) 3988292384 := by
  rw [band1] at h
  unfold crcStep
  rw [if_pos (by omega), Int.fdiv_eq_ediv_of_nonneg _ (by decide)]
  rfl
theorem crcStep_even {a : Int} (h : Builtin.bitAnd a 1 = 0) : crcStep a = a.fdiv (2 ^ (1 : Int).toNat) := by
  rw [band1] at h
  unfold crcStep
  rw [if_neg (by omega), Int.fdiv_eq_ediv_of_nonneg _ (by decide)]
  rfl
def crc8 (n : Int) : Int := (rangeKs 0 8).foldl (fun a _ => crcStep a) n
end Mine
end

section
open PySem PySem.W PyProof.Rows PySem.Calls
set_option maxRecDepth 100000
namespace Mine
open Sem (wp)

/-- a call of a decoder that holds its argument (what bytearray.__init__ looks for on the stack) -/
def isDec : Code → Bool
  | .builtin id _ => Builtin.Bytes.decodersThatHold.contains id
  | _ => false
/-- no decoder on the stack below -/
def NdB (Γ : Ctx) : Prop := ∀ x ∈ Γ.below, isDec x.1 = false
def Nd (Γ : Ctx) : Prop := isDec Γ.code = false ∧ NdB Γ

/-- as wpAny; with the flag: over the contexts whose stack holds no decoder -/
def wpB (b : Bool) {α : Type} (M : Model) (A : Around) (t : Sem α) (Q : α → Shared → Prop) (E : Value → Shared → Prop) (s : Shared) : Prop :=
  ∀ Γ p, Γ.In A → (b = true → Nd Γ) → wp M Γ t (fun a _ s' => Q a s') (fun e _ s' => E e s') p s
def codeB (b : Bool) (M : Model) (A : Around) (c : Code) (R : Result → Shared → Prop) (s : Shared) : Prop :=
  ∀ Γ p, Γ.code = c → Γ.Below A → (b = true → NdB Γ) → wpCode M Γ R p s

section
variable {b : Bool} {α β : Type} {M : Model} {A : Around} {E : Value → Shared → Prop} {s : Shared}

theorem wpB_of {t : Sem α} {Q : α → Shared → Prop} (h : wpAny M A t Q E s) : wpB b M A t Q E s := fun Γ p hΓ _ => h Γ p hΓ
theorem wpAny_of_wpB {t : Sem α} {Q : α → Shared → Prop} (h : wpB false M A t Q E s) : wpAny M A t Q E s := fun Γ p hΓ => h Γ p hΓ (fun e => by cases e)
theorem codeB_of {c : Code} {R : Result → Shared → Prop} (h : codeAny M A c R s) : codeB b M A c R s := fun Γ p hc hΓ _ => h Γ p hc hΓ
theorem wpB_pure {a : α} {Q : α → Shared → Prop} (h : Q a s) : wpB b M A (pure a) Q E s := fun _ _ _ _ => h
theorem wpB_mono {t : Sem α} {Q Q' : α → Shared → Prop} {E' : Value → Shared → Prop} (h : wpB b M A t Q E s) (hQ : ∀ a s, Q a s → Q' a s) (hE : ∀ e s, E e s → E' e s) : wpB b M A t Q' E' s :=
  fun Γ p hΓ hN => Sem.wp_mono M Γ t (fun a _ s => hQ a s) (fun e _ s => hE e s) p s (h Γ p hΓ hN)
theorem wpB_bind {m : Sem α} {f : α → Sem β} {Q : β → Shared → Prop} (h : wpB b M A m (fun a s' => wpB b M A (f a) Q E s') E s) : wpB b M A (m >>= f) Q E s := fun Γ p hΓ hN => by
  rw [Sem.wp_bind']
  exact Sem.wp_mono M Γ m (fun a p' s' h' => h' Γ p' hΓ hN) (fun _ _ _ h' => h') p s (h Γ p hΓ hN)
/-- the first part by the library's rules, the rest in ours -/
theorem wpB_bindA {m : Sem α} {f : α → Sem β} {Q : β → Shared → Prop} (h : wpAny M A m (fun a s' => wpB b M A (f a) Q E s') E s) : wpB b M A (m >>= f) Q E s := wpB_bind (wpB_of h)
theorem wpB_holding {vs : List Value} {m : Sem α} {Q : α → Shared → Prop} (h : wpB b M A m Q E s) : wpB b M A (holding vs m) Q E s :=
  fun Γ p hΓ hN => by rw [Sem.wp_holding]; exact h Γ p hΓ hN
theorem wpB_attempt {m : Sem α} {Q : Except Value α → Shared → Prop} (h : wpB b M A m (fun a => Q (.ok a)) (fun e => Q (.error e)) s) : wpB b M A m.attempt Q E s :=
  fun Γ p hΓ hN => by rw [Sem.wp_attempt]; exact h Γ p hΓ hN
theorem wpB_onRaise {m : Sem α} {k : Value → Sem Unit} {Q : α → Shared → Prop} (h : wpB b M A m Q (fun _ _ => False) s) : wpB b M A (m.onRaise k) Q E s := fun Γ p hΓ hN => by
  rw [Sem.wp_onRaise]
  exact Sem.wp_mono M Γ m (fun _ _ _ h' => h') (fun e p' s' h' => h'.elim) p s (h Γ p hΓ hN)
theorem wpB_eq {t t' : Sem α} {Q : α → Shared → Prop} (e : t = t') (h : wpB b M A t' Q E s) : wpB b M A t Q E s := by rw [e]; exact h
theorem wpB_ite {c : Prop} [Decidable c] {x y : Sem α} {Q : α → Shared → Prop} (h1 : c → wpB b M A x Q E s) (h2 : ¬ c → wpB b M A y Q E s) : wpB b M A (if c then x else y) Q E s := by
  split
  · exact h1 (by assumption)
  · exact h2 (by assumption)

theorem nd_enter {Γ : Ctx} (h : Nd Γ) (c : Code) (hd : Option Value) (p : Pos) : NdB (Γ.enter c hd p) := fun x hx => by
  have : x ∈ (Γ.code, p) :: Γ.below := hx
  rcases List.mem_cons.mp this with rfl | hx
  · exact h.1
  · exact h.2 x hx
theorem wpB_run {c : Code} {h : Option Value} {Q : Flow → Shared → Prop} (hc : codeB b M (A.mark h) c (fun r s' => match r with | .ok f => Q f s' | .error e => E e s') s) (hnb : h ≠ some byPass := by intro x; cases x) : wpB b M A (run c h) Q E s :=
  fun Γ p hΓ hN => by rw [Sem.wp_run]; exact hc _ p rfl (hΓ.enter c h p hnb) fun e => nd_enter (hN e) c h p
theorem wpB_call {f : Value} {pos : List Value} {kw : List (Str × Value)} {Q : Value → Shared → Prop}
    (hc : codeB b M A (.call f ⟨pos, kw⟩) (fun r s' => match r with | .ok (.ret v) => Q v s' | .ok _ => False | .error e => E e s') s) : wpB b M A (call f pos kw) Q E s :=
  fun Γ p hΓ hN => by unfold call; rw [Sem.wp_runValue]; exact hc _ p rfl (hΓ.enter _ none p (by intro x; cases x)) fun e => nd_enter (hN e) _ none p
theorem codeB_mono {c : Code} {R R' : Result → Shared → Prop} (h : codeB b M A c R s) (hR : ∀ r s, R r s → R' r s) : codeB b M A c R' s :=
  fun Γ p hc hΓ hN => wpCode_mono hR (h Γ p hc hΓ hN)
theorem codeB_of_tree {c : Code} {R : Result → Shared → Prop} (hd : isDec c = false)
    (h : wpB b M (A.under c) (M.den c) (fun fin s' => match fin with | .done f => R (.ok f) s' | .again c' => c'.quiet = true ∧ codeB b M A c' R s') (fun e s' => R (.error e) s') s) : codeB b M A c R s := fun Γ p hc hΓ hN => by
  rw [wpCode_iff_wp, hc]
  refine Sem.wp_mono M Γ _ (fun fin p' s' h' => ?_) (fun _ _ _ h' => h') p s (h Γ p (hc ▸ hΓ.in) fun e => ⟨hc ▸ hd, hN e⟩)
  cases fin with
  | done f => exact h'
  | again c' => exact ⟨h'.1, h'.2 (Γ.goto c') p' rfl (hΓ.goto c') (fun e => hN e)⟩
theorem codeB_loop {c : Code} {R : Result → Shared → Prop} (hd : isDec c = false) (hq : c.quiet = true) (I : Nat → Shared → Prop)
    (turn : ∀ n s, I n s → wpB b M (A.under c) (M.den c)
      (fun fin s' => match fin with
        | .done f => R (.ok f) s'
        | .again c' => (c' = c ∧ ∃ m, m < n ∧ I m s') ∨ (c'.quiet = true ∧ codeB b M A c' R s')) (fun e s' => R (.error e) s') s)
    (n : Nat) (h : I n s) : codeB b M A c R s := by
  induction n using Nat.strongRecOn generalizing s with
  | ind n ih =>
    refine codeB_of_tree hd (wpB_mono (turn n s h) (fun fin s' hf => ?_) fun _ _ h' => h')
    cases fin with
    | done f => exact hf
    | again c' =>
      rcases hf with ⟨rfl, m, hm, hI⟩ | hf
      · exact ⟨hq, ih m hm hI⟩
      · exact hf
end

section
variable {b : Bool} {M : Model} {A : Around} {E : Value → Shared → Prop} {s : Shared} {env : Env}

theorem wpB_execs_cons {st rest} {Q : Flow → Shared → Prop}
    (h : wpB b M A (exec st env) (fun f s' => match f with | .next => wpB b M A (execs rest env) Q E s' | f => Q f s') E s) : wpB b M A (execs (st :: rest) env) Q E s := fun Γ p hΓ hN => by
  rw [execs_cons, Sem.wp_bind']
  refine Sem.wp_mono M Γ _ (fun f p' s' h' => ?_) (fun _ _ _ h' => h') _ _ (h Γ p hΓ hN)
  cases f <;> first | exact h' Γ p' hΓ hN | exact h'
theorem wpB_Assign_Name {x pos' value pos} {Q : Flow → Shared → Prop} (h : wpB b M A (eval value env) (fun v s₁ => wpAny M A (storeName env x v) (fun _ => Q .next) E s₁) E s)
    (hs : swapsWith value (some (.Name x pos')) pos.line env = pure false := by rfl) : wpB b M A (exec (.Assign [.Name x pos'] value pos) env) Q E s := fun Γ p hΓ hN => by
  simp only [exec_Assign_Name env x pos' value pos hs, Sem.wp_bind', Sem.wp_cmd_standAt, Sem.wp_bindName, Sem.wp_pure']
  exact Sem.wp_mono M Γ _ (fun v _ s₁ h₁ => h₁ Γ _ hΓ) (fun _ _ _ h' => h') _ _ (h Γ _ hΓ hN)
theorem wpB_Return {e pos} {Q : Flow → Shared → Prop} (h : wpB b M A (eval e env) (fun v => Q (.ret v)) E s) : wpB b M A (exec (.Return (some e) pos) env) Q E s := fun Γ p hΓ hN => by
  simp only [exec_Return_some, Sem.wp_bind', Sem.wp_cmd_standAt, Sem.wp_pure']; exact h Γ _ hΓ hN
theorem wpB_Compare1 {l op r pos} {Q : Value → Shared → Prop}
    (h : wpB b M A (eval l env) (fun a s₁ => wpB b M A (eval r env) (fun c s₂ => wpAny M A (compareOp op a c) Q E s₂) E s₁) E s)
    (hm : behindInMarks op r = false := by with_unfolding_all rfl) : wpB b M A (eval (.Compare l [op] [r] pos) env) Q E s := fun Γ p hΓ hN => by
  simp only [eval_Compare1, markedBehindIn_of_false hm, Sem.wp_bind', Sem.wp_holding, Sem.wp_cmd_standAt, Sem.wp_operate]
  exact Sem.wp_mono M Γ _ (fun a p₁ s₁ h₁ => Sem.wp_mono M Γ _ (fun b _ s₂ h₂ => h₂ Γ _ hΓ) (fun _ _ _ h' => h') _ _ (h₁ Γ p₁ hΓ hN))
    (fun _ _ _ h' => h') _ _ (h Γ p hΓ hN)
theorem wpB_Call {func : Expr} {args : List Expr} {pos : Pos} {Q : Value → Shared → Prop}
    (h : wpAny M A (eval func env) (fun f s₁ => wpB b M A (callWith pos f [] (backTo pos (starEach args env)) []) Q E s₁) E s)
    (he : eval (.Call func args [] pos) env = (do callWith pos (← eval func env) [] (backTo pos (starEach args env)) (backToKw pos (keywordEach [] env))) := by rfl) :
    wpB b M A (eval (.Call func args [] pos) env) Q E s := by
  rw [he]; exact wpB_bindA h
theorem wpB_tail {t : Sem Value} {Q : Value → Shared → Prop} (ht : wpB b M A t Q E s) : wpB b M A (t >>= fun r => holding [r] point >>= fun _ => pure r) Q E s :=
  wpB_bind (wpB_mono ht (fun r s₂ hr => wpB_of (wpAny_bind (wpAny_holding (wpAny_point (wpAny_pure hr))))) fun _ _ x => x)
theorem wpB_callWith {P : Heap → Prop} {f : Value} {pos : Pos} {first : List Value} {args : List (Bool × Sem Value)} {Q : Value → Shared → Prop} (hplain : args.any (·.1) = false)
    (hk : ∀ h, P h → ∃ k, (k = Keeper.frame ∨ k = Keeper.machine ∨ k = Keeper.boundFrame) ∧ Looks M h (keeperOf f) k)
    (h : wpAny M A (evalArgs f true args []) (fun a s₁ => P s₁.heap ∧ wpB b M A (call f (first ++ a.pos) a.kw) Q E s₁) E s) : wpB b M A (callWith pos f first args []) Q E s := by
  unfold callWith
  refine wpB_bindA (wpAny_holding (wpAny_mono h (fun a s₁ h₁ => wpB_bindA (wpAny_standAt ?_)) fun _ _ x => x))
  obtain ⟨k, hk', L⟩ := hk _ h₁.1
  simp only [hplain, List.any_nil, Bool.or_false]
  refine wpB_bindA (L.here ?_)
  have marked (mk : Value) : wpB b M A (callMarked mk f (first ++ a.pos) a.kw) Q E s₁ := by
    unfold callMarked
    intro Γ p hΓ hN
    rw [Sem.wp_keep]
    exact h₁.2 Γ p hΓ hN
  rcases hk' with rfl | rfl | rfl <;> dsimp only <;> first | exact wpB_tail h₁.2 | (split <;> first | exact wpB_tail h₁.2 | exact wpB_tail (marked _))
end
end Mine
end

section
open PySem PySem.W PyProof.Rows PySem.Calls
set_option maxRecDepth 100000
namespace Mine
open Sem (wp)
section
variable {b : Bool} {prog : Program} {w : World} {A : Around} {R : Result → Shared → Prop} {s : Shared}

theorem codeB_func {body env} (h : wpB b (model prog w) (A.deeper env) (execs body env) (fun f s' => R (.ok (.ret (match f with | .ret v => v | _ => .none))) s') (fun _ _ => False) s) :
    codeB b (model prog w) A (.func body env) R s := by
  refine codeB_of_tree rfl ?_
  show wpB b _ (A.deeper env) (do point; match ← (execs body env).onRaise (leaving env) with | .ret v => ret v | _ => ret .none) _ _ s
  refine wpB_bindA (wpAny_point (wpB_bind (wpB_onRaise (wpB_mono h (fun f s' h' => ?_) fun _ _ h' => h'))))
  cases f <;> exact wpB_pure h'

theorem codeB_call_function {a : Addr} {args : Args} {o : Obj} {fd : FuncData} {body : List Stmt} (hroom : A.depth < recursionLimit)
    (ho : s.heap.get? a = some o)
    (hd' : o.data = .func fd) (hco : fd.scope.isCoroutine = false) (hgen : fd.scope.isGenerator = false) (hbody : fd.body = .stmts body) (hcd : s.heap.CodeRec fd.code fd.qualname)
    (h : wpAny (model prog w) A.in1 (bindArgs fd args) (fun binds s₁ =>
      wpAny (model prog w) A.in1 (newFunctionEnv fd.scope fd.globals fd.closure binds (fd.qualname ++ ".<locals>.") (some a) fd.code none fd.builtins)
        (fun env s₂ => s₂.heap.NoLimit ∧ codeB b (model prog w) A (.func body env) R s₂) (fun e s' => R (.error e) s') s₁) (fun e s' => R (.error e) s') s) :
    codeB b (model prog w) A (.call (.ref a) args) R s := by
  refine codeB_of_tree rfl (wpB_of ?_)
  show wpAny _ A.in1 (callAny (.ref a) args) _ _ s
  simp only [callAny]
  refine wpAny_bind (wpAny_load ho ?_)
  obtain ⟨c, oc, vs, tq, hc, hoc, hdc, hq⟩ := hcd
  simp only [hd', callFunction, hco, hgen, hbody, hc]
  rw [hc] at h
  refine wpAny_bind (m := field (.ref c) 1) (wpAny_field hoc hdc hq (wpAny_bind (wpAny_pure ?_)))
  exact wpAny_bind (wpAny_mono h (fun binds s₁ h₁ => wpAny_bind (wpAny_mono h₁ (fun env s₂ h₂ => wpAny_bind (wpAny_enterFrame h₂.1 hroom
    (wpAny_pure (And.intro rfl h₂.2)))) fun _ _ h' => h')) fun _ _ h' => h')

theorem enterPB {K : Frag} {p : Program} {loose : List Str} {mean : ExcName → Option Value} {mg mb : Str → Option Value}
    {name qual : Str} {params : Arguments} {body : List Stmt} {scope : Scope} {dV kV doc pm cdv ct oc : Value} {an od : Option Addr} {osl : Array (Option Value)} {f : Addr} {args : Args} {binds : List (Str × Value)}
    (X : K.In s.heap) (T : Top p loose mean mg mb s.heap)
    (ho : K.lookup f = some ⟨oc, od, .func (fnOf name qual params body scope dV kV doc pm an cdv ct), osl⟩) (hcd : codeIn K cdv qual = true) (hroom : A.depth < recursionLimit)
    (hbind : BindsTo s (fnOf name qual params body scope dV kV doc pm an cdv ct) args binds) (hloc : ∀ y ∈ binds, scope.names.lookup y.1 = some .local)
    (h : ∀ L h₁, Fr s.heap L h₁ (fun y => binds.reverse.lookup y) → News s.heap L h₁ [] →
      wpB b (model prog w) (A.deeper (envOf qual scope L f cdv)) (execs body (envOf qual scope L f cdv))
        (fun fl s' => R (.ok (.ret (match fl with | .ret v => v | _ => .none))) s') (fun _ _ => False)
        { s with heap := h₁, toks := s.toks + binds.length })
    (hco : scope.isCoroutine = false) (hgen : scope.isGenerator = false) (hk : scope.kind = .function)
    (hcell : ∀ x ∈ scope.names, x.2 ≠ .cell) : codeB b (model prog w) A (.call (.ref f) args) R s := by
  refine codeB_call_function (fd := fnOf name qual params body scope dV kV doc pm an cdv ct) (body := body) hroom (X _ _ ho) rfl hco hgen rfl (codeRec_of X hcd) (hbind _ _ _ _ ?_)
  refine wpAny_newFunctionEnv hcell hloc (fun h₀ hns₀ hsb₀ => ⟨T.nolimit.fresh _ hsb₀, codeB_func ?_⟩) hk
  exact h s.heap.objs.size h₀ ⟨hns₀, fun b o e => hsb₀.extBut b o (Nat.ne_of_lt (Heap.lt_size e)) (Heap.get?_push_of_some _ e), Nat.le_refl _⟩ News.nil

theorem enterCB {K : Frag} {p : Program} {loose : List Str} {mean : ExcName → Option Value} {mg mb : Str → Option Value}
    {name qual : Str} {params : Arguments} {body : List Stmt} {scope : Scope} {dV kV doc pm cdv ct oc : Value} {an od : Option Addr} {osl : Array (Option Value)} {f : Addr} {args : Args} {binds : List (Str × Value)}
    (X : K.In s.heap) (T : Top p loose mean mg mb s.heap)
    (ho : K.lookup f = some ⟨oc, od, .func (fnOf name qual params body scope dV kV doc pm an cdv ct), osl⟩) (hcd : codeIn K cdv qual = true) (hroom : A.depth < recursionLimit)
    (hbind : BindsTo s (fnOf name qual params body scope dV kV doc pm an cdv ct) args binds)
    (hkind : (binds.all fun y => scope.names.lookup y.1 == some .local || scope.names.lookup y.1 == some .cell) = true)
    (hnd : ((cellsFrom 0 scope.names []).map (·.1)).Nodup)
    (h : ∀ L h₁ tk cells, Fr s.heap L h₁ (bindL (envOfC qual scope L f cdv).kindOf binds fun _ => none) → News s.heap L h₁ cells →
      CellsAre (bindC (envOfC qual scope L f cdv).kindOf binds fun _ => none) (cellsFrom (L + 1) scope.names []) cells →
      wpB b (model prog w) (A.deeper (envOfC qual scope L f cdv)) (execs body (envOfC qual scope L f cdv))
        (fun fl s' => R (.ok (.ret (match fl with | .ret v => v | _ => .none))) s') (fun _ _ => False)
        { s with heap := h₁, toks := tk })
    (hco : scope.isCoroutine = false) (hgen : scope.isGenerator = false) (hk : scope.kind = .function) :
    codeB b (model prog w) A (.call (.ref f) args) R s := by
  refine codeB_call_function (fd := fnOf name qual params body scope dV kV doc pm an cdv ct) hroom (X _ _ ho) rfl hco hgen rfl (codeRec_of X hcd) (hbind _ _ _ _ ?_)
  refine wpAny_newFunctionEnv_cells hk (kindsX hkind _) fun env' he s' x => ?_
  subst he
  refine ⟨T.nolimit.keeps x.toInCall.keep, codeB_func ?_⟩
  obtain ⟨h₁, tk, rfl, _⟩ := x.done
  have hk₁ := x.toInCall.keep
  obtain ⟨cells, NC, Y⟩ := Cl.news (h₀ := s.heap) (Nat.le_refl _) fun n c hm => ⟨x.cell n c (lookup_of_mem_nodup (cellsFrom_names scope.names 0 (s.heap.objs.size + 1) [] [] rfl ▸ hnd) hm), x.above n c hm⟩
  exact h s.heap.objs.size h₁ tk cells ⟨x.toInCall.ns, hk₁, Nat.le_refl _⟩ NC Y
end

section
variable {b : Bool} {M : Model} {A : Around} {E : Value → Shared → Prop} {s : Shared} {env : Env}
theorem wpB_List {elts : List Expr} {pos : Pos} {Q : Value → Shared → Prop}
    (h : wpB b M A (spliced (backTo pos (starEach elts env))) (fun vs s₁ => wpAny M A (newList vs) Q E s₁) E s) : wpB b M A (eval (.List elts pos) env) Q E s := by
  show wpB b M A (do standAt pos; newList (← spliced (backTo pos (starEach elts env)))) Q E s
  exact wpB_bindA (wpAny_standAt (wpB_bind (wpB_mono h (fun _ _ x => wpB_of x) fun _ _ x => x)))
theorem wpB_args_nil {pos : Pos} {Q : List Value → Shared → Prop} (h : Q [] s) : wpB b M A (spliced (backTo pos (starEach [] env))) Q E s := wpB_of (args_nil h)
theorem wpB_args_cons {e : Expr} {rest : List Expr} {pos : Pos} {Q : List Value → Shared → Prop}
    (h : wpB b M A (eval e env) (fun v s₁ => wpB b M A (spliced (backTo pos (starEach rest env))) (fun vs s₂ => Q (v :: vs) s₂) E s₁) E s)
    (he : starEach (e :: rest) env = (false, eval e env) :: starEach rest env := by rfl) : wpB b M A (spliced (backTo pos (starEach (e :: rest) env))) Q E s := by
  rw [he]
  show wpB b M A (spliced ((false, eval e env) :: backTo pos (starEach rest env))) Q E s
  rw [spliced]
  refine wpB_bind (wpB_mono h (fun v s₁ h₁ => ?_) fun _ _ x => x)
  simp only [Bool.false_eq_true, if_false]
  exact wpB_bindA (wpAny_pure (wpB_bind (wpB_holding (wpB_mono h₁ (fun vs s₂ h₂ => wpB_pure h₂) fun _ _ x => x))))
end
end Mine
end

section
open PySem PySem.W PyProof.Rows PySem.Calls
set_option maxRecDepth 100000
namespace Mine
open Sem (wp)
open Builtin.Bytes
namespace BA
theorem mro : mroOf (.type "bytearray") = pure [.type "bytearray", .type "object"] := by rw [mroOf_type]; kernel_rfl
theorem lookup_new : typeLookup (.type "bytearray") "__new__" = pure (some (.builtin "bytearray.__new__")) := by rw [typeLookup_type, builtinLookup_eq_fast]; kernel_rfl
theorem slot_init : Slot "bytearray" "__init__" "bytearray.__init__" :=
  .of (owner := "bytearray") (n := "__init__") (by rw [typeLookup_type, builtinLookup_eq_fast]; kernel_rfl) (by decide +kernel) (by decide +kernel) (by decide +kernel)
    (by first | exact .inl (by decide +kernel) | exact .inr (by decide +kernel)) (by rw [isSubtype_type]; kernel_rfl)
theorem slot_setitem : Slot "bytearray" "__setitem__" "bytearray.__setitem__" :=
  .of (owner := "bytearray") (n := "__setitem__") (by rw [typeLookup_type, builtinLookup_eq_fast]; kernel_rfl) (by decide +kernel) (by decide +kernel) (by decide +kernel)
    (by first | exact .inl (by decide +kernel) | exact .inr (by decide +kernel)) (by rw [isSubtype_type]; kernel_rfl)
theorem called : TypeCalled "bytearray" "bytearray.__new__" "bytearray.__init__" :=
  ⟨by decide +kernel, by decide +kernel, ⟨_, _, mro⟩, madeBy_type mro lookup_new (by decide +kernel), by decide +kernel, by rw [isSubtype_type]; kernel_rfl, slot_init⟩
theorem typeCall (a : Value) : checkTypeCall "bytearray" ⟨[a], []⟩ = pure () := by kernel_rfl
theorem newCall (a : Value) : checkBuiltinCall "bytearray.__new__" ⟨[.type "bytearray", a], []⟩ = pure () := by kernel_rfl
theorem plain_new : plainId "bytearray.__new__" = true := by decide +kernel
theorem plain_init : plainId "bytearray.__init__" = true := by decide +kernel
theorem entry_new : entryFor table "bytearray.__new__" = some Builtin.«list.__new__» := entryFor_alias (id' := "list.__new__") (by kernel_rfl) rfl (by decide +kernel) (by kernel_rfl)
theorem entry_init : entryFor table "bytearray.__init__" = some Builtin.«bytearray.__init__» := by first | exact entryFor_of_fast (by kernel_rfl) | exact entryFor_of_tree (by kernel_rfl)
theorem entry_setitem : entryFor table "bytearray.__setitem__" = some Builtin.«bytearray.__setitem__» := by first | exact entryFor_of_fast (by kernel_rfl) | exact entryFor_of_tree (by kernel_rfl)
theorem args_init (a c : Value) : argsOk "bytearray.__init__" ⟨[a, c], []⟩ := by unfold argsOk; kernel_rfl
theorem args_setitem (a c d : Value) : argsOk "bytearray.__setitem__" ⟨[a, c, d], []⟩ := by unfold argsOk; kernel_rfl
theorem sub : isSubtype (.type "bytearray") (.type "bytearray") = pure true := by rw [isSubtype_type]; kernel_rfl
theorem look_release : typeLookup (.type "bytearray") "__release_buffer__" = pure (some (.builtin "bytearray.__release_buffer__")) := by rw [typeLookup_type, builtinLookup_eq_fast]; kernel_rfl
theorem look_buffer : typeLookup (.type "bytearray") "__buffer__" = pure (some (.builtin "bytearray.__buffer__")) := by rw [typeLookup_type, builtinLookup_eq_fast]; kernel_rfl
theorem no_bytes : typeLookup (.type "bytearray") "__bytes__" = pure none := by rw [typeLookup_type, builtinLookup_eq_fast]; kernel_rfl
theorem noIndex : typeLookup (.type "bytearray") "__index__" = pure none := by rw [typeLookup_type, builtinLookup_eq_fast]; kernel_rfl
theorem int_index : typeLookup (.type "int") "__index__" = pure (some (.builtin "int.__index__")) := by rw [typeLookup_type, builtinLookup_eq_fast]; kernel_rfl
theorem bind1 (v : Value) : bindOptional "bytearray.__init__" "bytearray" ["source", "encoding", "errors"] [v] [] = pure [some v, none, none] := by kernel_rfl
set_option maxRecDepth 1000000 in
set_option maxHeartbeats 4000000 in
theorem owner_new : ("bytearray.__new__".splitOn ".__new__").headD "" = "bytearray" := by simp +decide [String.splitOn, String.splitOnAux]
theorem drop_release : "bytearray.__release_buffer__".dropRight ("__release_buffer__".length + 1) = "bytearray" := by decide +kernel
theorem drop_buffer : "bytearray.__buffer__".dropRight ("__buffer__".length + 1) = "bytearray" := by decide +kernel
theorem ends_release : "bytearray.__release_buffer__".endsWith ("." ++ "__release_buffer__") = true := by decide +kernel
theorem ends_buffer : "bytearray.__buffer__".endsWith ("." ++ "__buffer__") = true := by decide +kernel
end BA
abbrev baObj (x : Array UInt8) : Obj := { cls := .type "bytearray", data := .bytearray x }
section
variable {prog : Program} {w : World} {M : Model} {A : Around} {E : Value → Shared → Prop} {s : Shared}

theorem own_of {a : Addr} {id name T : String} {Q : Bool → Shared → Prop} (hT : s.TypeIs (.ref a) T) (hl : typeLookup (.type T) (name : Str) = pure (some (.builtin id)))
    (he : id.endsWith ("." ++ name) = true) (hd : id.dropRight (name.length + 1) = T) (hs : isSubtype (.type T) (.type T) = pure true) (h : Q true s) : wpAny M A (slotIsOwn (.ref a) name) Q E s := by
  unfold slotIsOwn
  refine wpAny_bind (wpAny_specialOf hT hl ?_)
  dsimp only
  rw [he, hd]
  exact wpAny_isInstance hT hs h
theorem release_ba {a : Addr} {Q : Bool → Shared → Prop} (hT : s.TypeIs (.ref a) "bytearray") (h : Q false s) : wpAny M A (ownRelease (.ref a)) Q E s := by
  unfold ownRelease
  exact wpAny_bind (own_of hT BA.look_release BA.ends_release BA.drop_release BA.sub (wpAny_pure h))
theorem typeIs_ba {a : Addr} {x : Array UInt8} (h : s.heap.get? a = some (baObj x)) : s.TypeIs (.ref a) "bytearray" := ⟨_, h, rfl⟩
theorem payload_ba {a : Addr} {x : Array UInt8} {Q : Array UInt8 → Shared → Prop} (ho : s.heap.get? a = some (baObj x)) (h : Q x s) : wpAny M A (payload (.ref a)) Q E s := by
  unfold payload payload?
  exact wpAny_bind (wpAny_bind (wpAny_load ho (wpAny_pure (wpAny_pure h))))
theorem write_ba {a : Addr} {x : Array UInt8} {f : Array UInt8 → Array UInt8} {Q : Unit → Shared → Prop} (ho : s.heap.get? a = some (baObj x)) (hz : (f x).size ≤ sizeLine)
    (h : ∀ h', h'.get? a = some (baObj (f x)) → Heap.SameBut a s.heap h' → Q () { s with heap := h' }) : wpAny M A (write (.ref a) f) Q E s := by
  show wpAny _ _ (updateBytearray a f) _ _ _
  unfold updateBytearray
  refine wpAny_bind (wpAny_load ho ?_)
  show wpAny _ _ (update a (Obj.mapBytearray f) >>= fun _ => lookBehind a) _ _ _
  refine wpAny_bind (wpAny_update ho ?_)
  have h2 : (s.heap.update a (Obj.mapBytearray f)).get? a = some (baObj (f x)) := Heap.get?_update_self (Obj.mapBytearray f) ho rfl
  refine wpAny_lookBehind h2 ?_ (h _ h2 (Heap.SameBut.update ..))
  show (if (f x).size > sizeLine then some "bytearray:memory" else none) = none
  rw [if_neg (Nat.not_lt.mpr hz)]

theorem byteValue_int {v : Int} {t : Tok} {Q : UInt8 → Shared → Prop} (h0 : 0 ≤ v) (h1 : v < 256) (h : Q v.toNat.toUInt8 s) : wpAny M A (byteValue (.int v t)) Q E s := by
  unfold byteValue
  refine wpAny_bind (wpAny_of_eq (rfl : asIndex (.int v t) = pure v) ?_)
  refine bm_if_false (by simp only [Bool.or_eq_false_iff, decide_eq_false_iff_not]; omega) ?_
  exact wpAny_pure h
theorem subscript_int {k : Int} {t : Tok} {Q : Option Int → Shared → Prop} (h0 : 0 ≤ k) (h1 : k < 2 ^ 63) (h : Q (some k) s) : wpAny M A (subscript? (.int k t)) Q E s := by
  unfold subscript?
  refine wpAny_bind (wpAny_specialOf (typeIs_int s k t) BA.int_index ?_)
  refine bm_if_false rfl ?_
  refine wpAny_bind (wpAny_of_eq (rfl : asIndex (.int k t) = pure k) ?_)
  refine bm_if_false (by
    have : fitsIndex k = true := by
      unfold fitsIndex
      simp only [Bool.and_eq_true, decide_eq_true_eq]
      omega
    rw [this]; rfl) ?_
  exact wpAny_pure h

theorem setItem_ba {a : Addr} {x : Array UInt8} {k v : Int} {t u : Tok} {Q : Unit → Shared → Prop} (ho : s.heap.get? a = some (baObj x)) (h0 : 0 ≤ k) (hfit : k < 2 ^ 63) (hn : k < x.size) (v0 : 0 ≤ v) (v1 : v < 256) (hz : x.size ≤ sizeLine)
    (hQ : ∀ h', h'.get? a = some (baObj (x.setIfInBounds k.toNat v.toNat.toUInt8)) → Heap.SameBut a s.heap h' → Q () { s with heap := h' }) :
    wpAny (model prog w) A (setItem (.ref a) (.int k t) (.int v u)) Q E s := by
  have hT := typeIs_ba ho
  unfold setItem
  try with_reducible refine wpAny_holding ?_
  first | refine wpAny_bind (wpAny_pure ?_) | skip
  refine wpAny_bind (wpAny_sequenceKey hT (by decide) ?_)
  refine wpAny_bind (wpAny_callSpecial?_slot (name := Str.ofString "__setitem__") hT BA.slot_setitem (wpAny_call_entry BA.slot_setitem hT BA.entry_setitem ?_ (BA.args_setitem _ _ _)))
  unfold Builtin.«bytearray.__setitem__»
  refine bm_if_false rfl ?_
  refine wpAny_bind (subscript_int h0 hfit ?_)
  refine wpAny_bind (byteValue_int v0 v1 ?_)
  refine wpAny_bind (payload_ba ho ?_)
  rw [seqIndex_of h0 hn]
  refine wpAny_bind (write_ba ho (by simpa using hz) fun h' h1 h2 => ?_)
  exact wpAny_pure ⟨.none, rfl, wpAny_pure (hQ h' h1 h2)⟩
end
end Mine
end

section
open PySem PySem.W PyProof.Rows PySem.Calls
set_option maxRecDepth 100000
namespace Mine
open Sem (wp)
open Builtin.Bytes
section
variable {prog : Program} {w : World} {M : Model} {A : Around} {E : Value → Shared → Prop} {s : Shared}

theorem bytes_new_ba {a : Addr} {x : Array UInt8} {Q : Value → Shared → Prop} (ho : s.heap.get? a = some (baObj x)) (hz : x.size ≤ sizeLine) (hQ : Q (.bytes x s.toks) { s with toks := s.toks + 1 }) :
    codeAny (model prog w) A (.call (.builtin "bytes.__new__") ⟨[.type "bytes", .ref a], []⟩) (wants Q E) s := by
  refine codeAny_of_tree ?_
  show wpAny _ A.in1 (do checkBuiltinCall "bytes.__new__" ⟨[.type "bytes", .ref a], []⟩; again (.builtin "bytes.__new__" ⟨[.type "bytes", .ref a], []⟩)) _ _ s
  refine wpAny_bind (wpAny_of_eq (F.bm_newCall _) (wpAny_pure ⟨plainId_quiet F.bm_plain _, codeAny_builtin F.bm_entry ?_⟩))
  rw [Around.under_plainId F.bm_plain _]
  have hT := typeIs_ba ho
  unfold Builtin.«bytes.__new__»
  refine wpAny_bind (wpAny_of_eq (a := true) rfl ?_)
  refine bm_if_false rfl ?_
  refine wpAny_bind (wpAny_of_eq F.bm_sub ?_)
  refine bm_if_false rfl ?_
  refine wpAny_bind (wpAny_of_eq (F.bm_bind _) ?_)
  refine wpAny_bind (wpAny_of_eq (a := ()) rfl ?_)
  refine wpAny_bind (wpAny_of_eq (a := ()) rfl ?_)
  refine bm_if_false rfl ?_
  refine wpAny_bind (wpAny_specialOf hT BA.no_bytes ?_)
  refine wpAny_bind (wpAny_bind ?_)
  show wpAny _ _ (load a >>= _) _ _ _
  refine wpAny_bind (wpAny_load ho ?_)
  refine wpAny_pure (wpAny_pure ?_)
  refine bm_if_false rfl ?_
  refine wpAny_bind (wpAny_specialOf hT BA.noIndex ?_)
  refine bm_if_true rfl ?_
  first
    | show wpAny _ _ (Builtin.Bytes.buffer? "bytes.__new__" (.ref a) true >>= _) _ _ _
    | (refine wpAny_bind ?_; show wpAny _ _ (Builtin.Bytes.buffer? "bytes.__new__" (.ref a) true >>= _) _ _ _)
  refine wpAny_bind ?_
  unfold Builtin.Bytes.buffer?
  refine wpAny_bind (wpAny_specialOf hT BA.look_buffer ?_)
  refine wpAny_bind (own_of hT BA.look_buffer BA.ends_buffer BA.drop_buffer BA.sub ?_)
  refine bm_if_false rfl ?_
  refine wpAny_bind (wpAny_specialOf hT BA.look_buffer ?_)
  refine wpAny_bind (release_ba hT ?_)
  refine bm_if_false rfl ?_
  refine wpAny_bind (payload_ba ho ?_)
  refine wpAny_pure ?_
  refine wpAny_bind (wpAny_rule ?_)
  refine wpAny_bind (wpAny_mkBytes ?_ hz)
  show wpAny _ _ (if (Value.type "bytes" == Value.type "bytes") = true then _ else _) _ _ _
  refine bm_if_true (by decide) ?_
  first
    | exact wpAny_pure hQ
    | exact wpAny_bind (wpAny_pure (wpAny_pure hQ))
    | exact wpAny_pure (wpAny_pure hQ)
    | exact wpAny_bind (wpAny_pure (wpAny_pure (wpAny_pure hQ)))

theorem call_bytes_ba {a : Addr} {x : Array UInt8} {Q : Value → Shared → Prop} (ho : s.heap.get? a = some (baObj x)) (hz : x.size ≤ sizeLine) (hQ : Q (.bytes x s.toks) { s with toks := s.toks + 1 }) :
    wpAny (model prog w) A (call (.type "bytes") [.ref a]) Q E s := by
  refine callType_codes (Q₁ := fun obj s₁ => s₁.TypeIs obj "bytes" ∧ Q obj s₁) F.bm_called (F.bm_typeCall _) F.entry_object_init
    (bytes_new_ba ho hz ⟨PySem.W.typeIs_bytes _ _ _, hQ⟩) fun obj s₁ h₁ => ?_
  exact ⟨h₁.1, F.args_object_init_2 obj _, object_init_meets F.bm_called.init.lookup F.bm_called.made (by decide) prog w A.in1 _ s₁ ⟨h₁.1, rfl, h₁.2⟩⟩
end
end Mine
end

section
open PySem PySem.W PyProof.Rows PySem.Calls
set_option maxRecDepth 100000
namespace Mine
open Sem (wp)
open Builtin.Bytes
section
variable {prog : Program} {w : World} {M : Model} {A : Around} {E : Value → Shared → Prop} {s : Shared}

theorem code_ba_new (a : Value) {Q₁ : Value → Shared → Prop} (h : Q₁ (.ref s.heap.objs.size) { s with heap := s.heap.push (baObj #[]) }) :
    codeAny (model prog w) A (.call (.builtin "bytearray.__new__") ⟨[.type "bytearray", a], []⟩) (wants Q₁ E) s := by
  refine codeAny_of_tree ?_
  show wpAny _ A.in1 (do checkBuiltinCall "bytearray.__new__" ⟨[.type "bytearray", a], []⟩; again (.builtin "bytearray.__new__" ⟨[.type "bytearray", a], []⟩)) _ _ s
  refine wpAny_bind (wpAny_of_eq (BA.newCall a) (wpAny_pure ⟨plainId_quiet BA.plain_new _, codeAny_builtin_stack BA.entry_new rfl fun p st => ?_⟩))
  rw [Around.under_plainId BA.plain_new _]
  have hsub := BA.sub
  have hown := BA.owner_new
  obtain ⟨hp, g, d, tk, os⟩ := s
  simp only [hown]
  wp_walk
  exact h

theorem guard_no {id : String} {args : Args} (h : (Code.builtin id args).isGuard = false) (hc : guardIds.contains id = true) : False := by
  have q : guardIds.contains id = false := h
  rw [hc] at q; cases q

/-- nothing on the stack holds it -/
theorem exported_no {Γ : PySem.Ctx} {p : Pos} {self : Value} {Q : Bool → Pos → Shared → Prop} {E' : Value → Pos → Shared → Prop} (hg : guardsOf ((Γ.code, p) :: Γ.below) = []) (hN : Nd Γ) (h : Q false p s) : wp M Γ (exported self) Q E' p s := by
  unfold exported
  rw [Sem.wp_bind']
  show wp M Γ stack _ _ p s
  unfold stack
  rw [Sem.wp_stack]
  have fin : ∀ z, z = false → Q z p s := fun z e => by subst e; exact h
  refine fin _ (List.any_eq_false.mpr fun x hx => ?_)
  have hd : isDec x.1 = false := by
    rcases List.mem_cons.mp hx with rfl | hx
    · exact hN.1
    · exact hN.2 x hx
  have hgd : x.1.isGuard = false := by
    cases q : x.1.isGuard with
    | false => rfl
    | true =>
      have : x.1 ∈ guardsOf ((Γ.code, p) :: Γ.below) := List.mem_filter.mpr ⟨List.mem_map_of_mem hx, q⟩
      rw [hg] at this; cases this
  obtain ⟨c, q⟩ := x
  dsimp only at hd hgd
  split
  · rename_i e; cases e; exact (guard_no hgd (by decide +kernel)).elim
  · rename_i e; cases e; exact (guard_no hgd (by decide +kernel)).elim
  · rename_i e; cases e; exact (guard_no hgd (by decide +kernel)).elim
  · rename_i e; cases e; exact (guard_no hgd (by decide +kernel)).elim
  · rename_i e; cases e; exact (guard_no hgd (by decide +kernel)).elim
  · rename_i e
    cases e
    have : decodersThatHold.contains _ = false := hd
    rw [this, Bool.and_false]
    exact Bool.false_ne_true
  · exact Bool.false_ne_true
end
end Mine
end

section
open PySem PySem.W PyProof.Rows PySem.Calls
set_option maxRecDepth 100000
namespace Mine
open Sem (wp)
open Builtin.Bytes
section
variable {prog : Program} {w : World} {M : Model} {A : Around} {E : Value → Shared → Prop} {s : Shared}

theorem wpB_exported {self : Value} {Q : Bool → Shared → Prop} (hg : A.guards = some []) (h : Q false s) : wpB true M A (exported self) Q E s := fun Γ p hΓ hN =>
  exported_no (by rw [guardsOf_cons]; exact hΓ.2.2.2.1 [] hg) (hN rfl) h
theorem wpB_if_false {b : Bool} {α : Type} {M : Model} {c : Bool} {x y : Sem α} {Q : α → Shared → Prop} (hc : c = false) (h : wpB b M A y Q E s) : wpB b M A (if c = true then x else y) Q E s := by
  subst hc
  exact h
theorem wpB_if_true {b : Bool} {α : Type} {M : Model} {c : Bool} {x y : Sem α} {Q : α → Shared → Prop} (hc : c = true) (h : wpB b M A x Q E s) : wpB b M A (if c = true then x else y) Q E s := by
  subst hc
  exact h

theorem init_ba {a : Addr} {n : Int} {t : Tok} {R : Fin → Shared → Prop} (hg : A.guards = some []) (ho : s.heap.get? a = some (baObj #[])) (h0 : 0 ≤ n) (hz : n ≤ 16777216)
    (hQ : ∀ h', h'.get? a = some (baObj (Array.replicate n.toNat 0)) → Heap.SameBut a s.heap h' → R (.done (.ret .none)) { s with heap := h' }) :
    wpB true (model prog w) A (Builtin.«bytearray.__init__» ⟨[.ref a, .int n t], []⟩) R E s := by
  have hT := typeIs_ba ho
  unfold Builtin.«bytearray.__init__»
  refine wpB_bindA (release_ba hT ?_)
  refine wpB_if_false rfl ?_
  refine wpB_bindA (wpAny_of_eq (BA.bind1 _) ?_)
  refine wpB_bindA (wpAny_of_eq (a := ()) rfl ?_)
  refine wpB_bindA (wpAny_of_eq (a := ()) rfl ?_)
  refine wpB_bind (wpB_bind (wpB_exported hg ?_))
  refine wpB_of ?_
  have hex : wpAny (model prog w) A (exportsOf (.ref a)) (fun k s' => k = 0 ∧ s' = s) E s := by
    unfold exportsOf
    exact wpAny_bind (wpAny_load ho (wpAny_pure ⟨rfl, rfl⟩))
  show wpAny _ _ (exportsOf (.ref a) >>= fun k => pure (decide (k > 0))) _ _ _
  refine wpAny_bind (wpAny_mono hex ?_ fun _ _ h => h)
  rintro k s' ⟨rfl, rfl⟩
  refine wpAny_pure ?_
  refine wpB_if_false rfl ?_
  refine wpB_bindA (write_ba ho (Nat.zero_le _) fun h₁ h1 h2 => ?_)
  refine wpB_bindA (wpAny_of_eq (a := none) rfl ?_)
  refine wpB_if_false rfl ?_
  refine wpB_bindA (wpAny_of_eq (a := ()) rfl ?_)
  refine wpB_bindA (wpAny_specialOf (typeIs_int _ n t) BA.int_index ?_)
  refine wpB_if_true rfl ?_
  refine wpB_bindA (wpAny_attempt (wpAny_of_eq (rfl : asIndex (.int n t) = pure n) ?_))
  dsimp only
  refine wpB_if_false (by
    have : fitsIndex n = true := by
      unfold fitsIndex
      simp only [Bool.and_eq_true, decide_eq_true_eq]
      omega
    rw [this]; rfl) ?_
  refine wpB_ite (fun h => absurd h (by omega)) fun _ => ?_
  refine wpB_if_false (by
    have : n ≠ 2 ^ 63 - 1 := by omega
    simpa using this) ?_
  refine wpB_if_false (by
    unfold tooLong
    have : ¬ n.toNat > sizeLine := by rw [sizeLine_eq]; omega
    exact decide_eq_false this) ?_
  refine wpB_bindA (wpAny_rule ?_)
  refine wpB_ite (fun hp => ?_) fun hp => ?_
  · refine wpB_bindA (write_ba h1 (by simp only [Array.size_replicate]; rw [sizeLine_eq]; omega) fun h₂ h3 h4 => ?_)
    exact wpB_of (wpAny_pure (hQ h₂ h3 (h2.trans h4)))
  · have e : n = 0 := by omega
    subst e
    exact wpB_of (wpAny_pure (hQ h₁ h1 h2))
end
end Mine
end

section
open PySem PySem.W PyProof.Rows PySem.Calls
set_option maxRecDepth 100000
namespace Mine
open Sem (wp)
open Builtin.Bytes
section
variable {prog : Program} {w : World} {M : Model} {A : Around} {E : Value → Shared → Prop} {s : Shared}

theorem codeB_builtin {b : Bool} {R : Result → Shared → Prop} {id : String} {args : Args} {bb : Builtin} (hd : decodersThatHold.contains id = false) (hb : entryFor table id = some bb)
    (h : wpB b (model prog w) (A.under (.builtin id args)) (bb args)
      (fun fin s' => match fin with | .done f => R (.ok f) s' | .again c' => c'.quiet = true ∧ codeB b (model prog w) A c' R s') (fun e s' => R (.error e) s') s) :
    codeB b (model prog w) A (.builtin id args) R s := by
  refine codeB_of_tree hd ?_
  show wpB _ _ _ (match entryFor table id with | some b => b args | none => unsupported ((withoutEnding? id "#data").getD id)) _ _ s
  rw [hb]; exact h
theorem codeB_call_builtin {b : Bool} {R : Result → Shared → Prop} {id : String} {args : Args} {bb : Builtin} (hd : decodersThatHold.contains id = false) (hq : plainId id = true) (hb : entryFor table id = some bb)
    (h : wpAny (model prog w) A.in1 (checkBuiltinCall id args) (fun _ s₁ => wpB b (model prog w) A.in1 (bb args)
      (fun fin s' => match fin with | .done f => R (.ok f) s' | .again c' => c'.quiet = true ∧ codeB b (model prog w) A c' R s') (fun e s' => R (.error e) s') s₁)
      (fun e s' => R (.error e) s') s) : codeB b (model prog w) A (.call (.builtin id) args) R s := by
  refine codeB_of_tree rfl (wpB_of ?_)
  show wpAny _ A.in1 (do checkBuiltinCall id args; again (.builtin id args)) _ _ s
  refine wpAny_bind (wpAny_mono h (fun _ s₁ h₁ => wpAny_pure (And.intro (plainId_quiet hq args) (codeB_builtin hd hb ?_))) fun _ _ h' => h')
  rw [Around.under_plainId hq args]
  exact h₁

theorem call_bytearray {n : Int} {t : Tok} {Q : Value → Shared → Prop} (hg : A.guards = some []) (h0 : 0 ≤ n) (hz : n ≤ 16777216)
    (hQ : ∀ h', h'.get? s.heap.objs.size = some (baObj (Array.replicate n.toNat 0)) → Kp s.heap h' → Q (.ref s.heap.objs.size) { s with heap := h' }) :
    wpB true (model prog w) A (call (.type "bytearray") [.int n t]) Q E s := by
  refine wpB_call (codeB_of_tree rfl (wpB_of ?_))
  show wpAny _ _ (callAny (.type "bytearray") _) _ _ _
  refine wpAny_pure ⟨Code.quiet_builtin _ (by decide +kernel), codeB_builtin (by decide +kernel) F.entry_type_call ?_⟩
  rw [Around.under_plain (weight_type_call_type "bytearray" [.int n t] []) rfl]
  unfold Builtin.«type.__call__»
  refine wpB_if_false (by decide +kernel) ?_
  refine wpB_if_false (by decide +kernel) ?_
  refine wpB_bindA (wpAny_of_eq (BA.typeCall _) ?_)
  refine wpB_bindA (wpAny_of_eq BA.mro ?_)
  refine wpB_if_false rfl ?_
  refine wpB_bindA (wpAny_of_eq BA.called.made ?_)
  refine wpB_bindA (wpAny_pure ?_)
  refine wpB_bindA (wpAny_holding (wpAny_call (code_ba_new _ ?_)))
  have h1 : (s.heap.push (baObj #[])).get? s.heap.objs.size = some (baObj #[]) := Heap.get?_push_size _ rfl
  have hT : ({ s with heap := s.heap.push (baObj #[]) } : Shared).TypeIs (.ref s.heap.objs.size) "bytearray" := ⟨_, h1, rfl⟩
  refine wpB_bindA (wpAny_isInstance hT BA.sub ?_)
  refine wpB_if_false rfl ?_
  refine wpB_bind (wpB_holding ?_)
  unfold callSpecial?
  refine wpB_bindA (wpAny_specialOf hT BA.slot_init.lookup ?_)
  dsimp only
  refine wpB_holding ?_
  rw [BA.slot_init.bind]
  refine wpB_bindA (wpAny_pure ?_)
  refine wpB_bind (wpB_call (codeB_call_builtin (by decide +kernel) BA.plain_init BA.entry_init (BA.slot_init.check _ _ _ _ _ _ _ _ hT (BA.args_init _ _) ?_)))
  refine init_ba hg h1 h0 hz fun h' h2 h3 => ?_
  refine wpB_pure ?_
  refine wpB_if_false (by decide +kernel) ?_
  refine wpB_pure ?_
  exact hQ h' h2 fun b o e => h3.extBut b o (Nat.ne_of_lt (Heap.lt_size e)) (Heap.get?_push_of_some _ e)
end
end Mine
end

section
open PySem PySem.W PyProof.Rows PySem.Calls
set_option maxRecDepth 100000
namespace Mine
section
variable {prog : Program} {w : World} {A : Around} {E : Value → Shared → Prop} {s : Shared} {env : Env} {h₀ : Heap} {x : Str} {body : List Stmt} {Q : Flow → Shared → Prop}

theorem rangeC_inv {r : Addr} {a₀ b₀ c : Int} {t₀ u₀ v₀ : Tok} {n : Nat} {m₀ : Str → Option Value} {news : List (Addr × Obj)} (J : Nat → (Str → Option Value) → List (Addr × Obj) → Prop)
    (hh : A.handled = none) (hr : IsRange s.heap r a₀ b₀ c t₀ u₀ v₀) (hsmall : Builtin.Range.small a₀ b₀ c = true) (hn : Builtin.Range.rangeSize a₀ b₀ c = (n : Int)) (F : Fr h₀ env.locals s.heap m₀) (N : News h₀ env.locals s.heap news) (hj : J 0 m₀ news)
    (turn : ∀ (i : Nat) t m₁ nx h tk own, i < n → nx.map (·.1) = news.map (·.1) → OwnOff own (news.map (·.1)) → J i m₁ nx → Fr h₀ env.locals h (fun y => if y = x then some (.int (a₀ + i * c) t) else m₁ y) → News h₀ env.locals h (nx ++ own) →
      wpAny (model prog w) A (execs body env) (InvPostN h₀ env.locals (J (i + 1)) own (news.map (·.1)) { s with heap := h, toks := tk } Q) E { s with heap := h, toks := tk })
    (done : ∀ m₁ nx h tk, J n m₁ nx → Fr h₀ env.locals h m₁ → News h₀ env.locals h nx → Q .next { s with heap := h, toks := tk }) :
    wpAny (model prog w) A (pyIter (.ref r)) (fun it s₂ => LoopAtV prog w A h₀ env x body Q E it s₂) E s := by
  refine wpAny_pyIter_range hr hsmall ?_
  have W := Walks.range (prog := prog) (w := w) hh s.heap.objs.size a₀ c n
  refine loop_invN J W ?_ ?_ ?_ ?_ (by show IsRangeIter _ _ _ _ _; rw [hn]; simpa using Heap.get?_push_size _ rfl) (F.push _) (fun p hp => ⟨Heap.get?_push_of_some _ (N p hp).1, (N p hp).2⟩) hj ?_ ?_
  · intro hm
    exact absurd F.ns.lt ((List.mem_singleton.mp hm) ▸ Nat.lt_irrefl _)
  · intro b hb
    rw [List.mem_singleton.mp hb]
    exact next_is_new F
  · intro p hp hI
    exact absurd (Heap.lt_size (N p hp).1) ((List.mem_singleton.mp hI) ▸ Nat.lt_irrefl _)
  · intro p hp hI
    exact absurd (Heap.lt_size (N p hp).1) ((List.mem_singleton.mp hI) ▸ Nat.lt_irrefl _)
  · rintro i v m₁ nx h tk own hi ⟨t, rfl⟩ hadr ho hJ F' N'
    exact turn i t m₁ nx h tk own hi hadr ho hJ F' N'
  · intro m₁ nx h tk hJ F₁ N₁
    exact done m₁ nx h tk hJ F₁ N₁
end
section
variable {b : Bool} {M : Model} {A : Around} {E : Value → Shared → Prop} {s : Shared} {env : Env}
theorem wpB_callWith_type {T : String} {pos : Pos} {e : Expr} {rest : List Expr} {Q : Value → Shared → Prop}
    (h : wpAny M A (spliced (backTo pos (starEach (e :: rest) env))) (fun vs s₁ => wpB b M A (call (.type T) vs) Q E s₁) E s)
    (he : starEach (e :: rest) env = (false, eval e env) :: starEach rest env := by rfl) (hplain : (backTo pos (starEach rest env)).any (·.1) = false := by rfl) :
    wpB b M A (callWith pos (.type T) [] (backTo pos (starEach (e :: rest) env)) []) Q E s := by
  rw [he] at h ⊢
  refine wpB_callWith (P := fun _ => True) (by show (false || (backTo pos (starEach rest env)).any (·.1)) = false; rw [hplain]; rfl) (fun _ _ => ⟨.machine, .inr (.inl rfl), Looks.of_pure rfl⟩)
    (evalArgs_plain (wpAny_mono h (fun vs s₁ h₁ => ⟨trivial, h₁⟩) fun _ _ x => x))
theorem wpB_callWith_fn {K : Frag} {f : Value} {pos : Pos} {e : Expr} {rest : List Expr} {Q : Value → Shared → Prop} (hk : keepIn K f = true)
    (h : wpAny M A (spliced (backTo pos (starEach (e :: rest) env))) (fun vs s₁ => K.In s₁.heap ∧ wpB b M A (call f vs) Q E s₁) E s)
    (he : starEach (e :: rest) env = (false, eval e env) :: starEach rest env := by rfl) (hplain : (backTo pos (starEach rest env)).any (·.1) = false := by rfl) :
    wpB b M A (callWith pos f [] (backTo pos (starEach (e :: rest) env)) []) Q E s := by
  rw [he] at h ⊢
  exact wpB_callWith (P := K.In) (by show (false || (backTo pos (starEach rest env)).any (·.1)) = false; rw [hplain]; rfl) (keeps_K hk) (evalArgs_plain h)
end
theorem call_bytearray' {prog : Program} {w : World} {A : Around} {E : Value → Shared → Prop} {s : Shared} {n : Int} {t : Tok} {Q : Value → Shared → Prop} (hg : A.guards = some []) (h0 : 0 ≤ n) (hz : n ≤ 16777216)
    (hQ : ∀ a h', s.heap.get? a = none → h'.get? a = some (baObj (Array.replicate n.toNat 0)) → Kp s.heap h' → Q (.ref a) { s with heap := h' }) :
    wpB true (model prog w) A (call (.type "bytearray") [.int n t]) Q E s :=
  call_bytearray hg h0 hz fun h' h1 h2 => hQ _ h' (by
    cases q : s.heap.get? s.heap.objs.size with
    | none => rfl
    | some o => exact absurd (Heap.lt_size q) (Nat.lt_irrefl _)) h1 h2
theorem newsAdd {h₀ h h' : Heap} {L a : Addr} {m : Str → Option Value} {o : Obj} {news : List (Addr × Obj)} (F : Fr h₀ L h m) (N : News h₀ L h news) (hk : Kp h h') (hn : h.get? a = none) (ha : h'.get? a = some o) : News h₀ L h' ((a, o) :: news) := fun p hp => by
  rcases List.mem_cons.mp hp with rfl | hp
  · refine ⟨ha, ?_, ?_⟩
    · intro e
      obtain ⟨oL, _, _, hL, _⟩ := F.ns
      rw [← e] at hL
      rw [hn] at hL; cases hL
    · cases q : h₀.get? a with
      | none => rfl
      | some x => rw [F.keep _ _ q] at hn; cases hn
  · exact N.grown hk p hp
theorem map1 {m m₀ : Str → Option Value} {x : Str} {v : Option Value} (h : ∀ z, z ≠ x → m z = m₀ z) : (fun z => if z = x then v else m z) = fun z => if z = x then v else m₀ z := by
  funext z
  by_cases h1 : z = x
  · rw [if_pos h1, if_pos h1]
  · rw [if_neg h1, if_neg h1]; exact h z h1
theorem map1' {m m₀ : Str → Option Value} {x : Str} (h : ∀ z, z ≠ x → m z = m₀ z) : m = fun z => if z = x then m z else m₀ z := by
  funext z
  by_cases h1 : z = x
  · rw [if_pos h1]
  · rw [if_neg h1]; exact h z h1
theorem map2 {m m₀ : Str → Option Value} {x y : Str} {v : Option Value} (h : ∀ z, z ≠ x → z ≠ y → m z = m₀ z) : (fun z => if z = x then v else m z) = fun z => if z = x then v else if z = y then m z else m₀ z := by
  funext z
  by_cases h1 : z = x
  · rw [if_pos h1, if_pos h1]
  · rw [if_neg h1, if_neg h1]
    by_cases h2 : z = y
    · rw [if_pos h2]
    · rw [if_neg h2]; exact h z h1 h2
theorem map2' {m m₀ : Str → Option Value} {x y : Str} (h : ∀ z, z ≠ x → z ≠ y → m z = m₀ z) : m = fun z => if z = x then m z else if z = y then m z else m₀ z := by
  funext z
  by_cases h1 : z = x
  · rw [if_pos h1]
  · rw [if_neg h1]
    by_cases h2 : z = y
    · rw [if_pos h2]
    · rw [if_neg h2]; exact h z h1 h2

theorem small_step {b c : Int} (hb : 0 ≤ b) (hb' : b < 2 ^ 40) (hc : 1 ≤ c) (hc' : c < 2 ^ 40) : Builtin.Range.small 0 b c = true := by
  have h1 : (b - 0 - 1) / c ≤ b := by
    have h2 : (b - 1) / c ≤ b := by
      by_cases h : 1 ≤ b
      · exact Int.le_trans (Int.ediv_le_self _ (by omega)) (by omega)
      · have : b = 0 := by omega
        subst this
        exact Int.le_trans (Int.ediv_le_ediv (by omega) (show (0:Int) - 1 ≤ 0 by decide)) (by simp)
    simpa using h2
  have h3 : -1 ≤ (b - 0 - 1) / c := by
    have := Int.ediv_le_ediv (show (0:Int) < c by omega) (show (-1 : Int) ≤ b - 0 - 1 by omega)
    have e : (-1 : Int) / c = -1 := by
      rw [Int.ediv_eq_iff_of_pos (by omega)]
      omega
    omega
  unfold Builtin.Range.small
  simp only [Builtin.Range.rangeFitsLong, Builtin.Range.rangeSize, Bool.and_eq_true, Bool.or_eq_true, decide_eq_true_eq, beq_iff_eq, show c > 0 by omega, if_true]
  split <;> omega
theorem size_step (q wd : Nat) (hw : 1 ≤ wd) : Builtin.Range.rangeSize 0 ((q * wd : Nat) : Int) (wd : Int) = (q : Int) := by
  unfold Builtin.Range.rangeSize
  rw [if_pos (by omega)]
  by_cases hq : q = 0
  · subst hq
    simp
  · have hp : 0 < q * wd := Nat.mul_pos (by omega) (by omega)
    rw [if_pos (by omega)]
    have e : ((q * wd : Nat) : Int) - 0 - 1 = ((wd : Int) - 1) + (wd : Int) * ((q : Int) - 1) := by
      rw [Int.mul_sub, Int.natCast_mul, Int.mul_comm]; omega
    rw [e, Int.add_mul_ediv_left _ _ (by omega), Int.ediv_eq_zero_of_lt (by omega) (by omega)]
    omega
/-- one word turned about: w octets from i on -/
def swapW (d : Array UInt8) (i w : Nat) (x : Array UInt8) : Nat → Array UInt8
  | 0 => x
  | j + 1 => (swapW d i w x j).setIfInBounds (i + w - 1 - j) (d.getD (i + j) 0)
theorem swap_eq (d : Array UInt8) (iw wd j : Nat) (x : Array UInt8) (hj : j < wd) : (swapW d iw wd x j).setIfInBounds ((iw : Int) + wd - 1 - j).toNat (((d.toList.getD ((iw : Int) + j).toNat 0).toNat : Nat) : Int).toNat.toUInt8 = swapW d iw wd x (j + 1) := by
  have e1 : ((iw : Int) + wd - 1 - j).toNat = iw + wd - 1 - j := by omega
  have e2 : ((iw : Int) + j).toNat = iw + j := by omega
  rw [e1, e2, Int.toNat_natCast, swapW]
  congr 1
  obtain ⟨l⟩ := d
  simp
def swapF (d : Array UInt8) (w : Nat) : Nat → Array UInt8
  | 0 => Array.replicate d.size 0
  | k + 1 => swapW d (k * w) w (swapF d w k) w
theorem swapW_size (d : Array UInt8) (i w : Nat) (x : Array UInt8) : ∀ j, (swapW d i w x j).size = x.size
  | 0 => rfl
  | j + 1 => by rw [swapW, Array.size_setIfInBounds, swapW_size d i w x j]
theorem swapF_size (d : Array UInt8) (w : Nat) : ∀ k, (swapF d w k).size = d.size
  | 0 => by simp [swapF]
  | k + 1 => by rw [swapF, swapW_size, swapF_size d w k]
end Mine
end

section
open PySem PySem.W PyProof.Rows PySem.Calls
set_option maxRecDepth 100000
namespace Mine

/-- the frame of a comprehension's block -/
abbrev cenvX (scope : Scope) (cl : List (Str × Addr)) (C : Addr) (env : Env) : Env :=
  { scope := relabel scope env, locals := C, globals := env.globals, cells := cellsFrom (C + 1) scope.names cl, qual := env.qual, func := none, code := env.code, frame := env.frame, builtins := env.builtins }
/-- the cells that the block makes for itself -/
abbrev cellsX (scope : Scope) (C : Addr) : List Addr := (cellsFrom (C + 1) scope.names []).map (·.2)
def CellsLive (scope : Scope) (C : Addr) (h : Heap) : Prop := ∀ c ∈ cellsX scope C, ∃ v, h.IsCell c v
abbrev lsObj (ys : List Value) (n : Nat) : Obj := { cls := .type "list", data := .seq ys.toArray n }

section
variable {b : Bool} {prog : Program} {w : World} {A : Around} {env : Env}

theorem newCompEnv {M : Model} {E : Value → Shared → Prop} {s : Shared} {scope : Scope} {cl : List (Str × Addr)} {Q : Env → Shared → Prop}
    (hQ : ∀ h', h'.Ns s.heap.objs.size (fun _ => none) → Kp s.heap h' → CellsLive scope s.heap.objs.size h' → (∀ c ∈ cellsX scope s.heap.objs.size, s.heap.objs.size < c) →
      Q { scope := scope, locals := s.heap.objs.size, globals := env.globals, cells := cellsFrom (s.heap.objs.size + 1) scope.names cl, qual := env.qual, func := none, code := env.code, frame := env.frame, builtins := env.builtins } { s with heap := h' }) :
    wpAny M A (newFunctionEnv scope env.globals cl [] env.qual none .none (some env)) Q E s := by
  simp only [newFunctionEnv, Option.isSome_some, if_true]
  refine wpAny_bind (wpAny_alloc ?_)
  refine wpAny_bind (wpAny_layCells _ (fun name kind cells => by cases kind == NameKind.cell <;> simp) _ _ _ _ ?_)
  have ok := cellsFrom_ok scope.names (s.heap.push { cls := .type "dict", data := .dict #[] }) (s.heap.objs.size + 1) [] ⟨fun _ _ hm => (nomatch hm), List.Pairwise.nil⟩ (by rw [Heap.size_push]; exact Nat.le_refl _)
  rw [Heap.size_push] at ok
  rw [show ({ s with heap := s.heap.push { cls := .type "dict", data := .dict #[] } } : Shared).heap.objs.size = s.heap.objs.size + 1 from Heap.size_push ..]
  rw [List.forIn_nil]
  refine wpAny_bind (wpAny_pure (wpAny_pure ?_))
  refine hQ _ ((Heap.Ns.new s.heap (.type "dict")).keeps (pushCells_keeps _ _)) (fun b o e => pushCells_keeps _ _ b o (Heap.get?_push_of_some _ e)) (fun c hc => ?_) (fun c hc => ?_)
  · obtain ⟨⟨n, c'⟩, hm, rfl⟩ := List.mem_map.mp hc
    exact ⟨none, (ok.empty n c' hm).1⟩
  · obtain ⟨⟨n, c'⟩, hm, rfl⟩ := List.mem_map.mp hc
    exact (ok.empty n c' hm).2

theorem append_ls {s : Shared} {E : Value → Shared → Prop} {l : Addr} {ys : List Value} {n : Nat} {y : Value} {Q : Value → Shared → Prop} (hl : s.heap.get? l = some (lsObj ys n)) (hz : ys.length ≤ sizeLine)
    (hQ : ∀ h' n', h'.get? l = some (lsObj (ys ++ [y]) n') → Heap.SameBut l s.heap h' → Q .none { s with heap := h' }) :
    wpAny (model prog w) A (call (.builtin "list.append") [.ref l, y]) Q E s := by
  have hL : s.heap.IsList l ys.toArray := ⟨_, hl, rfl, n, rfl⟩
  refine wpAny_call_entry slot_list_append hL.typeIs entry_list_append ?_ (args_list_append _ _)
  show wpAny _ _ (updateSeq l (·.push y) >>= fun _ => ret .none) _ _ s
  refine wpAny_bind ?_
  refine wpAny_updateSeq hl rfl (wpAny_pure ⟨.none, rfl, ?_⟩) (by simpa using hz)
  have e := Heap.get?_update_self (Obj.mapSeq (·.push y)) hl rfl
  have e2 : Obj.mapSeq (·.push y) (lsObj ys n) = lsObj (ys ++ [y]) (n + 1) := by
    simp only [Obj.mapSeq, List.push_toArray, List.size_toArray, List.length_append, List.length_singleton]
    rw [if_neg (by simp)]
  rw [e2] at e
  exact hQ _ _ e (Heap.SameBut.update ..)
end
end Mine
end

section
open PySem PySem.W PyProof.Rows PySem.Calls
set_option maxRecDepth 100000
namespace Mine
section
variable {b : Bool} {prog : Program} {w : World} {A : Around} {env : Env}

theorem Paired.mono {α β : Type} {F F' : α → β → Prop} (h : ∀ a b, F a b → F' a b) : ∀ {l₁ : List α} {l₂ : List β}, Paired F l₁ l₂ → Paired F' l₁ l₂
  | _, _, .nil => .nil
  | _, _, .cons x t => .cons (h _ _ x) (Paired.mono h t)

/-- the loop of a list comprehension of one clause: each item's element, the objects that the element brings, the list so far -/
theorem codeB_compWalk {elt target iter : Expr} {ifs : List Expr} {scope : Scope} {cl : List (Str × Addr)} {pos : Pos} {s₂ : Shared} {I D C : Addr} {fp wr : List Addr} {n : Nat} {P : Nat → Value → Prop} {St : Nat → Heap → Prop} {R : Result → Shared → Prop}
    (W : Walks prog w A I fp wr n P St) (hsz : n ≤ sizeLine) (Tg : Value → Heap → Prop) (p : Value → Bool) (G : Value → Value → List (Addr × Obj) → Prop)
    (hD : s₂.heap.get? D = none) (hC : s₂.heap.get? C = none) (hcx : ∀ c ∈ cellsX scope C, s₂.heap.get? c = none) (hDC : D ≠ C) (hDx : D ∉ cellsX scope C) (hCx : C ∉ cellsX scope C) (hfp : ∀ x ∈ fp, x ≠ D ∧ x ≠ C ∧ x ∉ cellsX scope C)
    (hwl : ∀ i h, St i h → ∀ x ∈ wr, ∃ o, h.get? x = some o)
    (hlet : ∀ i v (s₃ : Shared) (Q : Unit → Shared → Prop), P i v → St (i + 1) s₃.heap → Q () s₃ → wpAny (model prog w) A (letOwnedTupleGo target (.ref I) v) Q (fun _ _ => False) s₃)
    (htg : ∀ i v h₃ tk₃ m (Q : Unit → Shared → Prop), P i v → Heap.Ns h₃ C m → CellsLive scope C h₃ → (∀ x o, x ∉ wr → s₂.heap.get? x = some o → h₃.get? x = some o) →
      (∀ h₄ tk m', h₄.Ns C m' → CellsLive scope C h₄ → Tg v h₄ → (∀ x o, x ≠ C → x ∉ cellsX scope C → h₃.get? x = some o → h₄.get? x = some o) → Q () { s₂ with heap := h₄, toks := tk }) →
      wpAny (model prog w) A (assign target (cenvX scope cl C env) v) Q (fun _ _ => False) { s₂ with heap := h₃, toks := tk₃ })
    (htests : ∀ i v h₃ tk₃, P i v → Tg v h₃ → (∀ x o, x ∉ wr → s₂.heap.get? x = some o → h₃.get? x = some o) →
      wpAny (model prog w) A (forIn ifs true fun c r => if r = true then do let ok ← isTrue c (cenvX scope cl C env) (eval c (cenvX scope cl C env)); pure (ForInStep.yield ok) else pure (ForInStep.yield r))
        (fun ok s₄ => ok = p v ∧ ∃ tk, s₄ = { s₂ with heap := h₃, toks := tk }) (fun _ _ => False) { s₂ with heap := h₃, toks := tk₃ })
    (helt : ∀ i v h₃ tk₃, P i v → p v = true → Tg v h₃ → (∀ x o, x ∉ wr → s₂.heap.get? x = some o → h₃.get? x = some o) →
      wpB b (model prog w) A (eval elt (cenvX scope cl C env))
        (fun y s₄ => ∃ h₄ tk own, s₄ = { s₂ with heap := h₄, toks := tk } ∧ Kp h₃ h₄ ∧ G v y own ∧ ∀ q ∈ own, h₃.get? q.1 = none ∧ h₄.get? q.1 = some q.2) (fun _ _ => False) { s₂ with heap := h₃, toks := tk₃ })
    (hR : ∀ h' tk m' k (vs : List Value) (rows : List (Value × List (Addr × Obj))), h'.Ns C m' → h'.get? D = some (lsObj (rows.map (·.1)) k) → vs.length = n → (∀ j v, vs[j]? = some v → P j v) → Paired (fun v r => G v r.1 r.2) (vs.filter p) rows →
      (∀ r ∈ rows, ∀ q ∈ r.2, s₂.heap.get? q.1 = none ∧ h'.get? q.1 = some q.2 ∧ q.1 ≠ C) → (∀ x o, x ∉ wr → s₂.heap.get? x = some o → h'.get? x = some o) → R (.ok .next) { s₂ with heap := h', toks := tk })
    {h₀ : Heap} {tk₀ : Nat} {m₀ : Str → Option Value} (hst : St 0 h₀) (hacc : h₀.get? D = some (lsObj [] 0)) (hns : h₀.Ns C m₀) (hcl : CellsLive scope C h₀) (hk0 : ∀ x o, x ∉ wr → s₂.heap.get? x = some o → h₀.get? x = some o) :
    codeB b (model prog w) A (.compLoop (.ListComp elt [⟨target, iter, ifs, 0⟩] scope pos) 0 (.ref I) (.ref D) (cenvX scope cl C env)) R { s₂ with heap := h₀, toks := tk₀ } := by
  have hCw : C ∉ wr := fun h => (hfp C (W.sub _ h)).2.1 rfl
  have hDw : D ∉ wr := fun h => (hfp D (W.sub _ h)).1 rfl
  have hxw : ∀ c ∈ cellsX scope C, c ∉ wr := fun c hc h => (hfp c (W.sub _ h)).2.2 hc
  refine codeB_loop rfl rfl
    (fun k s' => ∃ h' tk m' k', ∃ (vs : List Value) (rows : List (Value × List (Addr × Obj))), s' = { s₂ with heap := h', toks := tk } ∧ St vs.length h' ∧ h'.get? D = some (lsObj (rows.map (·.1)) k') ∧ rows.length ≤ vs.length ∧ h'.Ns C m' ∧ CellsLive scope C h' ∧ (∀ j v, vs[j]? = some v → P j v) ∧
      Paired (fun v r => G v r.1 r.2) (vs.filter p) rows ∧ vs.length ≤ n ∧ k = n + 1 - vs.length ∧
      (∀ r ∈ rows, ∀ q ∈ r.2, s₂.heap.get? q.1 = none ∧ h'.get? q.1 = some q.2 ∧ q.1 ≠ C ∧ q.1 ≠ D ∧ q.1 ∉ cellsX scope C ∧ q.1 ∉ wr) ∧
      (∀ x o, x ∉ wr → s₂.heap.get? x = some o → h'.get? x = some o)) ?_ (n + 1)
    ⟨h₀, tk₀, m₀, 0, [], [], rfl, hst, hacc, Nat.le_refl _, hns, hcl, by simp, by simpa using Paired.nil, Nat.zero_le _, rfl, by simp, hk0⟩
  rintro k s' ⟨H, tk, m', k', vs, rows, rfl, hst', hacc', hrl, hns', hcl', hP, hF, hi, rfl, hown, hk⟩
  show wpB b _ A ((compTurn (.ListComp elt [⟨target, iter, ifs, 0⟩] scope pos) 0 (.ref I) (.ref D) (cenvX scope cl C env)).onRaise (fun x => do noteFrame x (cenvX scope cl C env); theTreesLotGoes x)) _ _ _
  refine wpB_onRaise ?_
  rw [compTurn_list]
  refine wpB_bindA (wpAny_standAt ?_)
  by_cases hlt : vs.length < n
  · refine wpB_bindA (W.item _ _ _ _ hlt hst' fun v h₁ tk₁ hv hst₁ hk₁ => ?_)
    dsimp only
    refine wpB_bindA (hlet _ v _ _ hv hst₁ ?_)
    have hns₁ : h₁.Ns C m' := hns'.at' fun o e => hk₁ _ o hCw e
    have hcl₁ : CellsLive scope C h₁ := fun c hc => by
      obtain ⟨v, o, ho, hd⟩ := hcl' c hc
      exact ⟨v, o, hk₁ _ _ (hxw c hc) ho, hd⟩
    have hacc₁ := hk₁ _ _ hDw hacc'
    refine wpB_bindA (htg _ v h₁ tk₁ m' _ hv hns₁ hcl₁ (fun x o hx e => hk₁ x o hx (hk x o hx e)) fun h₂ tk₂ m₂ hns₂ hcl₂ hT₂ hk₂ => ?_)
    have keep₂ : ∀ x o, x ∉ wr → s₂.heap.get? x = some o → h₂.get? x = some o := fun x o hx e => hk₂ x o (by rintro rfl; rw [hC] at e; cases e) (fun hc => by rw [hcx x hc] at e; cases e) (hk₁ x o hx (hk x o hx e))
    have hacc₂ := hk₂ _ _ hDC hDx hacc₁
    have hst₂ : St (vs.length + 1) h₂ := W.frame _ _ _ hst₁ fun x hx o e => hk₂ x o (hfp x hx).2.1 (hfp x hx).2.2 e
    have hown₂ : ∀ r ∈ rows, ∀ q ∈ r.2, s₂.heap.get? q.1 = none ∧ h₂.get? q.1 = some q.2 ∧ q.1 ≠ C ∧ q.1 ≠ D ∧ q.1 ∉ cellsX scope C ∧ q.1 ∉ wr := fun r hr q hq => by
      obtain ⟨a1, a2, a3, a4, a5, a6⟩ := hown r hr q hq
      exact ⟨a1, hk₂ _ _ a3 a5 (hk₁ _ _ a6 a2), a3, a4, a5, a6⟩
    have hP' : ∀ j v', (vs ++ [v])[j]? = some v' → P j v' := fun j v' hj => by
      by_cases hl : j < vs.length
      · rw [List.getElem?_append_left hl] at hj; exact hP j v' hj
      · rw [List.getElem?_append_right (Nat.not_lt.mp hl)] at hj
        have hj0 : j - vs.length = 0 := by
          cases q : j - vs.length with
          | zero => rfl
          | succ z => rw [q] at hj; simp at hj
        rw [hj0] at hj
        have : j = vs.length := by omega
        subst this
        simp at hj; rw [← hj]; exact hv
    refine wpB_bindA (wpAny_mono (htests _ v h₂ tk₂ hv hT₂ keep₂) (fun ok s₄ ho => ?_) fun _ _ x => x)
    obtain ⟨rfl, tk₃, rfl⟩ := ho
    cases hp : p v with
    | false =>
      refine wpB_of (wpAny_pure (.inl ⟨rfl, n + 1 - (vs ++ [v]).length, by rw [List.length_append, List.length_singleton]; omega, h₂, tk₃, m₂, k', vs ++ [v], rows, rfl, by rw [List.length_append]; exact hst₂, hacc₂, by rw [List.length_append]; omega, hns₂, hcl₂, hP', ?_, by rw [List.length_append, List.length_singleton]; omega, rfl, hown₂, keep₂⟩))
      rw [List.filter_append]
      simpa [hp] using hF
    | true =>
      refine wpB_bind (wpB_bind (wpB_mono (helt _ v h₂ tk₃ hv hp hT₂ keep₂) (fun y s₅ h₅ => ?_) fun _ _ x => x.elim))
      obtain ⟨h₄, tk₄, own, rfl, hk₄, hG, hfr⟩ := h₅
      refine wpB_bindA (append_ls (hk₄ _ _ hacc₂) (by rw [List.length_map]; omega) fun h₅ k₅ ha₅ hs₅ => ?_)
      have live : ∀ x o, x ≠ D → h₂.get? x = some o → h₅.get? x = some o := fun x o hx e => hs₅.extBut x o hx (hk₄ x o e)
      refine wpB_of (wpAny_pure (wpB_of (wpAny_pure (.inl ⟨rfl, n + 1 - (vs ++ [v]).length, by rw [List.length_append, List.length_singleton]; omega, h₅, tk₄, m₂, k₅, vs ++ [v], rows ++ [(y, own)], rfl, ?_, ?_, ?_, ?_, ?_, hP', ?_, by rw [List.length_append, List.length_singleton]; omega, rfl, ?_, ?_⟩))))
      · rw [List.length_append]
        exact W.frame _ _ _ hst₂ fun x hx o e => live x o (hfp x hx).1 e
      · rw [List.map_append]; exact ha₅
      · rw [List.length_append, List.length_append, List.length_singleton, List.length_singleton]; omega
      · exact hns₂.at' fun o e => live _ o (Ne.symm hDC) e
      · intro c hc
        obtain ⟨v, o, ho, hd⟩ := hcl₂ c hc
        exact ⟨v, o, live c o (fun e => hDx (e ▸ hc)) ho, hd⟩
      · rw [List.filter_append]
        simp only [List.filter_cons, hp, if_true, List.filter_nil]
        exact hF.snoc hG
      · intro r hr q hq
        rcases List.mem_append.mp hr with hr | hr
        · obtain ⟨a1, a2, a3, a4, a5, a6⟩ := hown₂ r hr q hq
          exact ⟨a1, live _ _ a4 a2, a3, a4, a5, a6⟩
        · rw [List.mem_singleton.mp hr] at hq
          obtain ⟨f1, f2⟩ := hfr q hq
          have nC : q.1 ≠ C := by
            intro e
            obtain ⟨o, _, _, ho, _⟩ := hns₂
            rw [← e, f1] at ho; cases ho
          have nD : q.1 ≠ D := by
            intro e
            rw [e, hacc₂] at f1; cases f1
          have nx : q.1 ∉ cellsX scope C := fun hc => by
            obtain ⟨_, o, ho, _⟩ := hcl₂ _ hc
            rw [f1] at ho; cases ho
          have nw : q.1 ∉ wr := fun hc => by
            obtain ⟨o, ho⟩ := hwl _ _ hst₂ _ hc
            rw [f1] at ho; cases ho
          have nn : s₂.heap.get? q.1 = none := by
            cases e : s₂.heap.get? q.1 with
            | none => rfl
            | some o => rw [keep₂ _ _ nw e] at f1; cases f1
          exact ⟨nn, hs₅.extBut _ _ nD f2, nC, nD, nx, nw⟩
      · intro x o hx e
        exact live x o (by rintro rfl; rw [hD] at e; cases e) (keep₂ x o hx e)
  · have hin : vs.length = n := by omega
    rw [hin] at hst'
    refine wpB_of (wpAny_bind (W.done _ _ _ hst' fun h₁ tk₁ hk₁ => wpAny_pure ?_))
    refine hR h₁ tk₁ m' k' vs rows (hns'.at' fun o e => hk₁ _ o hCw e) (hk₁ _ _ hDw hacc') hin hP hF (fun r hr q hq => ?_) fun x o hx e => hk₁ x o hx (hk x o hx e)
    obtain ⟨a1, a2, a3, a4, a5, a6⟩ := hown r hr q hq
    exact ⟨a1, hk₁ _ _ a6 a2, a3⟩
end
end Mine
end

section
open PySem PySem.W PyProof.Rows PySem.Calls
set_option maxRecDepth 100000
namespace Mine
section
variable {b : Bool} {prog : Program} {w : World} {A : Around} {env : Env}

structure CompAt (b : Bool) (prog : Program) (w : World) (A : Around) (env : Env) (scope : Scope) (cl : List (Str × Addr)) (target : Expr) (ifs : List Expr) (elt : Expr) (s₂ : Shared) (I : Addr) (wr : List Addr) (n : Nat) (P : Nat → Value → Prop)
    (p : Value → Bool) (G : Value → Value → List (Addr × Obj) → Prop) : Type where
  fp : List Addr
  St : Nat → Heap → Prop
  W : Walks prog w A I fp wr n P St
  sz : n ≤ sizeLine
  st : St 0 s₂.heap
  lo : ∀ x ∈ fp, x < s₂.heap.objs.size
  wl : ∀ i h, St i h → ∀ x ∈ wr, ∃ o, h.get? x = some o
  Tg : Addr → Value → Heap → Prop
  lt : ∀ i v (s₃ : Shared) (Q : Unit → Shared → Prop), P i v → St (i + 1) s₃.heap → Q () s₃ → wpAny (model prog w) A (letOwnedTupleGo target (.ref I) v) Q (fun _ _ => False) s₃
  tg : ∀ C i v h₃ tk₃ m (Q : Unit → Shared → Prop), P i v → Heap.Ns h₃ C m → CellsLive scope C h₃ → C ∉ cellsX scope C → (∀ x o, x ∉ wr → s₂.heap.get? x = some o → h₃.get? x = some o) →
      (∀ h₄ tk m', h₄.Ns C m' → CellsLive scope C h₄ → Tg C v h₄ → (∀ x o, x ≠ C → x ∉ cellsX scope C → h₃.get? x = some o → h₄.get? x = some o) → Q () { s₂ with heap := h₄, toks := tk }) →
      wpAny (model prog w) A (assign target (cenvX scope cl C env) v) Q (fun _ _ => False) { s₂ with heap := h₃, toks := tk₃ }
  tests : ∀ C i v h₃ tk₃, P i v → Tg C v h₃ → (∀ x o, x ∉ wr → s₂.heap.get? x = some o → h₃.get? x = some o) →
      wpAny (model prog w) A (forIn ifs true fun c r => if r = true then do let ok ← isTrue c (cenvX scope cl C env) (eval c (cenvX scope cl C env)); pure (ForInStep.yield ok) else pure (ForInStep.yield r))
        (fun ok s₄ => ok = p v ∧ ∃ tk, s₄ = { s₂ with heap := h₃, toks := tk }) (fun _ _ => False) { s₂ with heap := h₃, toks := tk₃ }
  elt : ∀ C i v h₃ tk₃, s₂.heap.objs.size < C → P i v → p v = true → Tg C v h₃ → (∀ x o, x ∉ wr → s₂.heap.get? x = some o → h₃.get? x = some o) →
      wpB b (model prog w) A (eval elt (cenvX scope cl C env))
        (fun y s₄ => ∃ h₄ tk own, s₄ = { s₂ with heap := h₄, toks := tk } ∧ Kp h₃ h₄ ∧ G v y own ∧ ∀ q ∈ own, h₃.get? q.1 = none ∧ h₄.get? q.1 = some q.2) (fun _ _ => False) { s₂ with heap := h₃, toks := tk₃ }

/-- what a comprehension leaves: a new list, the objects of its items -/
structure CompEnd (s₂ : Shared) (wr : List Addr) (n : Nat) (P : Nat → Value → Prop) (p : Value → Bool) (G : Value → Value → List (Addr × Obj) → Prop) (D : Addr) (h' : Heap) (k : Nat) (vs : List Value) (rows : List (Value × List (Addr × Obj))) : Prop where
  new : s₂.heap.get? D = none
  lst : h'.get? D = some (lsObj (rows.map (·.1)) k)
  len : vs.length = n
  items : ∀ j v, vs[j]? = some v → P j v
  pairs : Paired (fun v r => G v r.1 r.2) (vs.filter p) rows
  owns : ∀ r ∈ rows, ∀ q ∈ r.2, s₂.heap.get? q.1 = none ∧ h'.get? q.1 = some q.2
  keep : ∀ x o, x ∉ wr → s₂.heap.get? x = some o → h'.get? x = some o

theorem gone {h : Heap} {a : Addr} (ha : h.objs.size ≤ a) : h.get? a = none := by
  cases e : h.get? a with
  | none => rfl
  | some o => exact absurd (Heap.lt_size e) (Nat.not_lt.mpr ha)

theorem comp_core {elt target iter : Expr} {ifs : List Expr} {scope : Scope} {cl : List (Str × Addr)} {pos : Pos} {s₂ : Shared} {I : Addr} {wr : List Addr} {n : Nat} {P : Nat → Value → Prop} {p : Value → Bool} {G : Value → Value → List (Addr × Obj) → Prop}
    (c : CompAt b prog w A env scope cl target ifs elt s₂ I wr n P p G) {RR : Value → Addr → Result → Shared → Prop}
    (hRR : ∀ D C h' tk m' k vs rows, s₂.heap.get? C = none → D ≠ C → h'.Ns C m' → CompEnd s₂ wr n P p G D h' k vs rows → (∀ r ∈ rows, ∀ q ∈ r.2, q.1 ≠ C) → RR (.ref D) C (.ok .next) { s₂ with heap := h', toks := tk }) :
    wpB b (model prog w) A (newList []) (fun acc s₃ => wpB b (model prog w) A (newFunctionEnv scope env.globals cl [] env.qual none .none (some env)) (fun cenv s₄ =>
      codeB b (model prog w) A (.compStart (.ListComp elt [⟨target, iter, ifs, 0⟩] scope pos) 0 (.ref I) acc { cenv with scope := relabel scope env }) (RR acc cenv.locals) s₄) (fun _ _ => False) s₃) (fun _ _ => False) s₂ := by
  refine wpB_of (wpAny_newObj_type (wpB_of (newCompEnv fun h₁ hns₁ hk₁ hcl₁ hlo₁ => ?_)))
  dsimp only at hns₁ hk₁ hcl₁ hlo₁ ⊢
  generalize hH2 : s₂.heap.push { cls := .type "list", dict := none, data := .seq ([] : List Value).toArray } = H2 at hns₁ hk₁ hcl₁ hlo₁ ⊢
  have hC : H2.objs.size = s₂.heap.objs.size + 1 := by rw [← hH2, Heap.size_push]
  have hDC : s₂.heap.objs.size ≠ H2.objs.size := Nat.ne_of_lt (by omega)
  have old : Kp s₂.heap h₁ := fun x o e => hk₁ x o (hH2 ▸ Heap.get?_push_of_some _ e)
  have hacc : h₁.get? s₂.heap.objs.size = some (lsObj [] 0) := hk₁ _ _ (hH2 ▸ Heap.get?_push_size _ rfl)
  have loop : codeB b (model prog w) A (.compLoop (.ListComp elt [⟨target, iter, ifs, 0⟩] scope pos) 0 (.ref I) (.ref s₂.heap.objs.size) (cenvX scope cl H2.objs.size env)) (RR (.ref s₂.heap.objs.size) H2.objs.size) { s₂ with heap := h₁ } := by
    refine codeB_compWalk (tk₀ := s₂.toks) c.W c.sz (c.Tg H2.objs.size) p G (gone (Nat.le_refl _)) (gone (by omega)) (fun x hx => gone (by have := hlo₁ x hx; omega)) hDC (fun hx => by have := hlo₁ _ hx; omega) (fun hx => by have := hlo₁ _ hx; omega)
      (fun x hx => ?_) c.wl c.lt (fun i v h₃ tk₃ m Q hv hn hl hk hQ => c.tg H2.objs.size i v h₃ tk₃ m Q hv hn hl (fun hx => by have := hlo₁ _ hx; omega) hk hQ) (fun i v h₃ tk₃ hv ht hk => c.tests H2.objs.size i v h₃ tk₃ hv ht hk)
      (fun i v h₃ tk₃ hv hp ht hk => c.elt H2.objs.size i v h₃ tk₃ (by omega) hv hp ht hk) ?_ (c.W.frame _ _ _ c.st fun x _ o e => old x o e) hacc hns₁ hcl₁ (fun x o _ e => old x o e)
    · have h1 : x < s₂.heap.objs.size := c.lo x hx
      have h2 : x < H2.objs.size := Nat.lt_trans h1 (by omega)
      exact ⟨Nat.ne_of_lt h1, Nat.ne_of_lt h2, fun hc => Nat.lt_asymm h2 (hlo₁ _ hc)⟩
    · intro h' tk m' k vs rows hns hl hlen hP hF hown hk
      exact hRR _ _ h' tk m' k vs rows (gone (by omega)) hDC hns ⟨gone (Nat.le_refl _), hl, hlen, hP, hF, fun r hr q hq => ⟨(hown r hr q hq).1, (hown r hr q hq).2.1⟩, hk⟩ fun r hr q hq => (hown r hr q hq).2.2
  refine codeB_of_tree rfl ?_
  show wpB b _ A ((compStart (.ListComp elt [⟨target, iter, ifs, 0⟩] scope pos) 0 (.ref I) (.ref s₂.heap.objs.size) (cenvX scope cl H2.objs.size env)).onRaise (fun x => do noteFrame x (cenvX scope cl H2.objs.size env); standAt theWindowsPlace)) _ _ _
  refine wpB_onRaise ?_
  unfold compStart
  show wpB b _ _ (ask >>= _) _ _ _
  refine wpB_bindA (wpAny_askSetting ?_)
  refine wpB_ite (fun _ => ?_) fun _ => ?_
  · first
      | exact wpB_pure (And.intro rfl loop)
      | exact wpB_bindA (wpAny_pure (wpB_pure (And.intro rfl loop)))
  · refine wpB_bindA (wpAny_rule ?_)
    show wpB b _ _ (standAt iter.pos >>= _) _ _ _
    refine wpB_bindA (wpAny_standAt (wpB_bindA (c.W.self 0 _ _ _ (c.W.frame _ _ _ c.st fun x _ o e => old x o e) ?_)))
    exact wpB_pure (And.intro rfl loop)
end
end Mine
end

section
open PySem PySem.W PyProof.Rows PySem.Calls
set_option maxRecDepth 100000
namespace Mine
section
variable {b : Bool} {prog : Program} {w : World} {A : Around} {env : Env} {E : Value → Shared → Prop} {s : Shared}

theorem CompEnd.sameBut {s₂ : Shared} {wr : List Addr} {n : Nat} {P : Nat → Value → Prop} {p : Value → Bool} {G : Value → Value → List (Addr × Obj) → Prop} {D C : Addr} {h' h'' : Heap} {k : Nat} {vs : List Value} {rows : List (Value × List (Addr × Obj))}
    (c : CompEnd s₂ wr n P p G D h' k vs rows) (hs : Heap.SameBut C h' h'') (hC : s₂.heap.get? C = none) (hDC : D ≠ C) (hq : ∀ r ∈ rows, ∀ q ∈ r.2, q.1 ≠ C) : CompEnd s₂ wr n P p G D h'' k vs rows :=
  ⟨c.new, hs.extBut _ _ hDC c.lst, c.len, c.items, c.pairs, fun r hr q hq' => ⟨(c.owns r hr q hq').1, hs.extBut _ _ (hq r hr q hq') (c.owns r hr q hq').2⟩, fun x o hx e => hs.extBut x o (by rintro rfl; rw [hC] at e; cases e) (c.keep x o hx e)⟩

abbrev CompAny (b : Bool) (prog : Program) (w : World) (A : Around) (env : Env) (scope : Scope) (cl : List (Str × Addr)) (target : Expr) (ifs : List Expr) (elt : Expr) (Q : Value → Shared → Prop) (it : Value) (s₂ : Shared) : Prop :=
  ∃ I wr n P p G, it = .ref I ∧ (∃ _ : CompAt b prog w A env scope cl target ifs elt s₂ I wr n P p G, True) ∧ ∀ D h' tk k vs rows, CompEnd s₂ wr n P p G D h' k vs rows → Q (.ref D) { s₂ with heap := h', toks := tk }

theorem wpB_ListComp {elt target iter : Expr} {ifs : List Expr} {scope : Scope} {cl : List (Str × Addr)} {pos : Pos} {Q : Value → Shared → Prop}
    (hclos : closureFor scope env = pure cl) (hkind : scope.kind = .function) (hnames : ∀ x ∈ scope.names, x.2 = .local → scope.names.lookup x.1 = some .local)
    (h : wpB b (model prog w) A (eval iter env) (fun xv s₁ => wpAny (model prog w) A (pyIter xv) (fun it s₂ => CompAny b prog w A env scope cl target ifs elt Q it s₂) (fun _ _ => False) s₁) (fun _ _ => False) s)
    (hs : ∀ x, foldedSetIterable iter env x = pure x := by intro _; rfl) :
    wpB b (model prog w) A (eval (.ListComp elt [⟨target, iter, ifs, 0⟩] scope pos) env) Q E s := by
  rw [eval_ListComp]
  unfold comprehension
  rw [hclos]
  refine wpB_bind (wpB_mono h (fun x s₁ h₁ => wpB_bindA (wpAny_standAt (wpB_bindA (wpAny_of_eq (hs x) ?_)))) fun _ _ f => f.elim)
  refine wpB_bindA (wpAny_holding (wpAny_mono h₁ (fun it s₂ h₂ => ?_) fun _ _ f => f.elim))
  obtain ⟨I, wr, n, P, p, G, rfl, ⟨c, _⟩, hQ⟩ := h₂
  refine wpB_bind (wpB_mono (comp_core (iter := iter) (pos := pos) c (RR := fun acc C r s' => (∃ f, r = .ok f) ∧ (∃ m, s'.heap.Ns C m) ∧ ∀ h', Heap.SameBut C s'.heap h' → Q acc { s' with heap := h' }) ?_) (fun acc s₃ h₃ => ?_) fun _ _ f => f.elim)
  · intro D C h' tk m' k vs rows hC hDC hns ce hq
    exact ⟨⟨_, rfl⟩, ⟨m', hns⟩, fun h'' hs'' => hQ D h'' tk k vs rows (ce.sameBut hs'' hC hDC hq)⟩
  · refine wpB_bindA (wpAny_pure (wpB_bind (wpB_mono h₃ (fun cenv s₄ h₄ => ?_) fun _ _ f => f.elim)))
    dsimp only
    have hv : ∀ x ∈ (scope.names.filter fun x => (x.2 == .local || x.2 == .cell) && x.1 != (".0" : Str)).reverse, x.2 = .local →
        Env.kindOf { cenv with scope := relabel scope env } x.1 = some .local := fun x hx hl => lookup_relabel_local (hnames x (List.mem_filter.mp (List.mem_reverse.mp hx)).1 hl)
    refine wpB_holding (wpB_bind (wpB_attempt (wpB_holding (wpB_run (codeB_mono h₄ fun r s' hr => ?_)))))
    obtain ⟨⟨f, rfl⟩, ⟨m, hn⟩, hr⟩ := hr
    exact wpB_of (wpAny_bind (wpAny_holding (wpAny_comp_letGo (cenv := { cenv with scope := relabel scope env }) hkind _ s' m hv hn fun h' m' _ hs' => wpAny_pure (hr h' hs'))))

/-- the same, stored at once into a local name of the frame -/
theorem wpB_Assign_ListComp {elt target iter : Expr} {ifs : List Expr} {scope : Scope} {cl : List (Str × Addr)} {pos py spos : Pos} {y : Str} {Q : Flow → Shared → Prop}
    (hsw : swapsWith (.ListComp elt [⟨target, iter, ifs, 0⟩] scope pos) (some (.Name y py)) spos.line env = pure true)
    (hclos : closureFor scope env = pure cl) (hkind : scope.kind = .function) (hnames : ∀ x ∈ scope.names, x.2 = .local → scope.names.lookup x.1 = some .local)
    (hy : env.kindOf y = some .local) (hp : (env.scope.kind == .class || (env.scope.kind == .module && env.locals != env.globals)) = false)
    (h : wpB b (model prog w) A (eval iter env) (fun xv s₁ => wpAny (model prog w) A (pyIter xv) (fun it s₂ => ∃ I wr n P p G m, it = .ref I ∧ (∃ _ : CompAt b prog w A env scope cl target ifs elt s₂ I wr n P p G, True) ∧ s₂.heap.Ns env.locals m ∧ env.locals ∉ wr ∧
      ∀ D h' h'' tk k vs rows, CompEnd s₂ wr n P p G D h' k vs rows → h''.Ns env.locals (fun z => if z = y then some (.ref D) else m z) → (∀ x o, x ≠ env.locals → s₂.heap.get? x = some o → h'.get? x = some o → h''.get? x = some o) → h''.get? D = some (lsObj (rows.map (·.1)) k) → (∀ r ∈ rows, ∀ q ∈ r.2, h''.get? q.1 = some q.2) →
        Q .next { s₂ with heap := h'', toks := tk }) (fun _ _ => False) s₁) (fun _ _ => False) s)
    (hs : ∀ x, foldedSetIterable iter env x = pure x := by intro _; rfl) :
    wpB b (model prog w) A (exec (.Assign [.Name y py] (.ListComp elt [⟨target, iter, ifs, 0⟩] scope pos) spos) env) Q E s := by
  rw [exec_Assign_Name_used _ _ _ _ hsw]
  refine wpB_bindA (wpAny_standAt (wpB_bind ?_))
  show wpB b _ A (do let _ ← comprehension (.ListComp elt [⟨target, iter, ifs, 0⟩] scope pos) scope env _ (newList []) false (eval iter env) (some (assign (.Name y py) env))) _ _ s
  refine wpB_bind (wpB_mono (Q := fun _ s' => Q .next s') (E := fun _ _ => False) ?_ (fun _ s' hq => wpB_pure (wpB_pure hq)) fun _ _ f => f.elim)
  unfold comprehension
  rw [hclos]
  refine wpB_bind (wpB_mono h (fun x s₁ h₁ => wpB_bindA (wpAny_standAt (wpB_bindA (wpAny_of_eq (hs x) ?_)))) fun _ _ f => f.elim)
  refine wpB_bindA (wpAny_holding (wpAny_mono h₁ (fun it s₂ h₂ => ?_) fun _ _ f => f.elim))
  obtain ⟨I, wr, n, P, p, G, m, rfl, ⟨c, _⟩, hn, hLw, hQ⟩ := h₂
  refine wpB_ite (fun _ => ?_) (fun hc => absurd rfl hc)
  refine wpB_bindA (wpAny_standAt ?_)
  refine wpB_bind (wpB_mono (comp_core (iter := iter) (pos := pos) c (RR := fun acc C r s' => (∃ f, r = .ok f) ∧ wpAny (model prog w) A (assign (.Name y py) env acc) (fun _ s'' => (∃ m, s''.heap.Ns C m) ∧ ∀ h', Heap.SameBut C s''.heap h' → Q .next { s'' with heap := h' }) (fun _ _ => False) s') ?_) (fun acc s₃ h₃ => ?_) fun _ _ f => f.elim)
  · intro D C h' tk m' k vs rows hC hDC hnsC ce hq
    refine ⟨⟨_, rfl⟩, ?_⟩
    have hLC : env.locals ≠ C := by rintro rfl; obtain ⟨o, _, _, ho, _⟩ := hn; rw [hC] at ho; cases ho
    have hLD : env.locals ≠ D := by rintro rfl; obtain ⟨o, _, _, ho, _⟩ := hn; rw [ce.new] at ho; cases ho
    have hqL : ∀ r ∈ rows, ∀ q ∈ r.2, q.1 ≠ env.locals := fun r hr q hq e => by
      obtain ⟨o, _, _, ho, _⟩ := hn
      rw [← e, (ce.owns r hr q hq).1] at ho; cases ho
    refine wpAny_assign_Name (wpAny_storeName_local hy (hn.at' fun o e => ce.keep _ o hLw e) (fun h₂ hn₂ hs₂ => ?_) hp)
    refine ⟨⟨m', hnsC.sameBut hs₂ (Ne.symm hLC)⟩, fun h₃ hs₃ => ?_⟩
    refine hQ D h' h₃ _ k vs rows ce (hn₂.sameBut hs₃ hLC) (fun x o hx e e2 => ?_) (hs₃.extBut _ _ hDC (hs₂.extBut _ _ (Ne.symm hLD) ce.lst)) fun r hr q hq' => hs₃.extBut _ _ (hq r hr q hq') (hs₂.extBut _ _ (hqL r hr q hq') (ce.owns r hr q hq').2)
    exact hs₃.extBut x o (by rintro rfl; rw [hC] at e; cases e) (hs₂.extBut x o hx e2)
  · refine wpB_bindA (wpAny_pure (wpB_bind (wpB_mono h₃ (fun cenv s₄ h₄ => ?_) fun _ _ f => f.elim)))
    dsimp only
    have hv : ∀ x ∈ (scope.names.filter fun x => (x.2 == .local || x.2 == .cell) && x.1 != (".0" : Str)).reverse, x.2 = .local →
        Env.kindOf { cenv with scope := relabel scope env } x.1 = some .local := fun x hx hl => lookup_relabel_local (hnames x (List.mem_filter.mp (List.mem_reverse.mp hx)).1 hl)
    have hv' : ∀ x ∈ (scope.names.filter fun x => (x.2 == .local || x.2 == .cell) && x.1 != (".0" : Str)).reverse.drop 1 ++ (scope.names.filter fun x => (x.2 == .local || x.2 == .cell) && x.1 != (".0" : Str)).reverse.take 1,
        x.2 = .local → Env.kindOf { cenv with scope := relabel scope env } x.1 = some .local := fun x hx hl => by
      rcases List.mem_append.mp hx with h1 | h1
      · exact hv x (List.mem_of_mem_drop h1) hl
      · exact hv x (List.mem_of_mem_take h1) hl
    refine wpB_holding (wpB_bind (wpB_attempt (wpB_holding (wpB_run (codeB_mono h₄ fun r s' hr => ?_)))))
    obtain ⟨⟨f, rfl⟩, hr⟩ := hr
    refine wpB_of (wpAny_bind (wpAny_rule (wpAny_bind (wpAny_holding (wpAny_mono hr (fun _ s'' hr' => ?_) fun _ _ h' => h'.elim)))))
    obtain ⟨⟨m, hn⟩, hr'⟩ := hr'
    exact wpAny_bind (wpAny_comp_letGo (cenv := { cenv with scope := relabel scope env }) hkind _ s'' m hv' hn fun h' m' _ hs' => wpAny_pure (hr' h' hs'))
end
end Mine
end

section
open PySem PySem.W PyProof.Rows PySem.Calls
set_option maxRecDepth 100000
namespace Mine
section
variable {b : Bool} {M : Model} {A : Around} {E : Value → Shared → Prop} {s : Shared} {env : Env}
theorem evalArgsB {f : Value} {x : Sem Value} {rest : List (Bool × Sem Value)} {Q : Args → Shared → Prop}
    (h : wpB b M A (spliced ((false, x) :: rest)) (fun vs s' => Q ⟨vs, []⟩ s') E s) : wpB b M A (evalArgs f true ((false, x) :: rest) []) Q E s := by
  unfold evalArgs
  show wpB b M A (spliced ((false, x) :: rest) >>= _) Q E s
  refine wpB_bind (wpB_mono h (fun vs s' h' => ?_) fun _ _ x => x)
  exact wpB_of (wpAny_holding (wpAny_bind (wpAny_pure (wpAny_bind (wpAny_pure (wpAny_pure h'))))))
theorem callWithB {P : Heap → Prop} {f : Value} {pos : Pos} {first : List Value} {args : List (Bool × Sem Value)} {Q : Value → Shared → Prop} (hplain : args.any (·.1) = false)
    (hk : ∀ h, P h → ∃ k, (k = Keeper.frame ∨ k = Keeper.machine ∨ k = Keeper.boundFrame) ∧ Looks M h (keeperOf f) k)
    (h : wpB b M A (evalArgs f true args []) (fun a s₁ => P s₁.heap ∧ wpB b M A (call f (first ++ a.pos) a.kw) Q E s₁) E s) : wpB b M A (callWith pos f first args []) Q E s := by
  unfold callWith
  refine wpB_bind (wpB_holding (wpB_mono h (fun a s₁ h₁ => wpB_bindA (wpAny_standAt ?_)) fun _ _ x => x))
  obtain ⟨k, hk', L⟩ := hk _ h₁.1
  simp only [hplain, List.any_nil, Bool.or_false]
  refine wpB_bindA (L.here ?_)
  have marked (mk : Value) : wpB b M A (callMarked mk f (first ++ a.pos) a.kw) Q E s₁ := by
    unfold callMarked
    intro Γ p hΓ hN
    rw [Sem.wp_keep]
    exact h₁.2 Γ p hΓ hN
  rcases hk' with rfl | rfl | rfl <;> dsimp only <;> first | exact wpB_tail h₁.2 | (split <;> first | exact wpB_tail h₁.2 | exact wpB_tail (marked _))
theorem callWithB_type {T : String} {pos : Pos} {e : Expr} {rest : List Expr} {Q : Value → Shared → Prop}
    (h : wpB b M A (spliced (backTo pos (starEach (e :: rest) env))) (fun vs s₁ => wpB b M A (call (.type T) vs) Q E s₁) E s)
    (he : starEach (e :: rest) env = (false, eval e env) :: starEach rest env := by rfl) (hplain : (backTo pos (starEach rest env)).any (·.1) = false := by rfl) :
    wpB b M A (callWith pos (.type T) [] (backTo pos (starEach (e :: rest) env)) []) Q E s := by
  rw [he] at h ⊢
  refine callWithB (P := fun _ => True) (by show (false || (backTo pos (starEach rest env)).any (·.1)) = false; rw [hplain]; rfl) (fun _ _ => ⟨.machine, .inr (.inl rfl), Looks.of_pure rfl⟩)
    (evalArgsB (wpB_mono h (fun vs s₁ h₁ => ⟨trivial, h₁⟩) fun _ _ x => x))
theorem callWithB_builtin {T : String} {pos : Pos} {e : Expr} {rest : List Expr} {Q : Value → Shared → Prop}
    (h : wpB b M A (spliced (backTo pos (starEach (e :: rest) env))) (fun vs s₁ => wpB b M A (call (.builtin T) vs) Q E s₁) E s)
    (he : starEach (e :: rest) env = (false, eval e env) :: starEach rest env := by rfl) (hplain : (backTo pos (starEach rest env)).any (·.1) = false := by rfl) :
    wpB b M A (callWith pos (.builtin T) [] (backTo pos (starEach (e :: rest) env)) []) Q E s := by
  rw [he] at h ⊢
  refine callWithB (P := fun _ => True) (by show (false || (backTo pos (starEach rest env)).any (·.1)) = false; rw [hplain]; rfl) (fun _ _ => ⟨.machine, .inr (.inl rfl), Looks.of_pure rfl⟩)
    (evalArgsB (wpB_mono h (fun vs s₁ h₁ => ⟨trivial, h₁⟩) fun _ _ x => x))
theorem callWithB_fn {K : Frag} {f : Value} {pos : Pos} {e : Expr} {rest : List Expr} {Q : Value → Shared → Prop} (hk : keepIn K f = true)
    (h : wpB b M A (spliced (backTo pos (starEach (e :: rest) env))) (fun vs s₁ => K.In s₁.heap ∧ wpB b M A (call f vs) Q E s₁) E s)
    (he : starEach (e :: rest) env = (false, eval e env) :: starEach rest env := by rfl) (hplain : (backTo pos (starEach rest env)).any (·.1) = false := by rfl) :
    wpB b M A (callWith pos f [] (backTo pos (starEach (e :: rest) env)) []) Q E s := by
  rw [he] at h ⊢
  exact callWithB (P := K.In) (by show (false || (backTo pos (starEach rest env)).any (·.1)) = false; rw [hplain]; rfl) (keeps_K hk) (evalArgsB h)
theorem wpB_BinOp {l op r pos} {Q : Value → Shared → Prop}
    (h : wpB b M A (eval l env) (fun a s₁ => wpB b M A (eval r env) (fun c s₂ => wpAny M A (binaryOp op a c) Q E s₂) E s₁) E s) : wpB b M A (eval (.BinOp l op r pos) env) Q E s := fun Γ p hΓ hN => by
  simp only [eval_BinOp, Sem.wp_bind', Sem.wp_holding, Sem.wp_cmd_standAt, Sem.wp_operate]
  exact Sem.wp_mono M Γ _ (fun a p₁ s₁ h₁ => Sem.wp_mono M Γ _ (fun b _ s₂ h₂ => h₂ Γ _ hΓ) (fun _ _ _ h' => h') _ _ (h₁ Γ p₁ hΓ hN))
    (fun _ _ _ h' => h') _ _ (h Γ p hΓ hN)

/-- names, by their kinds, in any frame -/
theorem nmL {m : Str → Option Value} {x : Str} {pos : Pos} {v : Value} {Q : Value → Shared → Prop} (hn : s.heap.Ns env.locals m) (hv : m x = some v) (h : Q v s)
    (hk : env.scope.kind = .function := by rfl) (hx : env.kindOf x = some .local := by rfl) (hd : (x == ("__debug__" : Str)) = false := by decide) : wpAny M A (eval (.Name x pos) env) Q E s :=
  wpAny_Name (wpAny_loadName_local hk hx hn hv h) hd
theorem nmC {c : Addr} {x : Str} {pos : Pos} {v : Value} {Q : Value → Shared → Prop} (hc : env.cells.lookup x = some c) (hv : s.heap.IsCell c (some v)) (h : Q v s)
    (hk : env.scope.kind = .function := by rfl) (hx : env.kindOf x = some .cell := by rfl) (hd : (x == ("__debug__" : Str)) = false := by decide) : wpAny M A (eval (.Name x pos) env) Q E s :=
  wpAny_Name (wpAny_loadName_cell hk hx hc hv h) hd
theorem nmG {K : Frag} {p : Program} {loose : List Str} {mean : ExcName → Option Value} {mg mb : Str → Option Value} {x : Str} {pos : Pos} {v : Value} {Q : Value → Shared → Prop} (X : K.In s.heap) (T : Top p loose mean mg mb s.heap) (e : nsIn K mainGlobals x = some (some v)) (h : Q v s)
    (hg : env.globals = mainGlobals := by rfl) (hk : env.scope.kind = .function := by rfl) (hx : env.kindOf x = some .globalImplicit := by rfl) (hd : (x == ("__debug__" : Str)) = false := by decide) : wpAny M A (eval (.Name x pos) env) Q E s :=
  Name_function_global hk hx (loadGlobal_global (env := env) (by rw [hg]; exact T.g) (mg_of X T.g e) h) hd
theorem nmB {K : Frag} {p : Program} {loose : List Str} {mean : ExcName → Option Value} {mg mb : Str → Option Value} {x : Str} {pos : Pos} {v : Value} {Q : Value → Shared → Prop} (X : K.In s.heap) (T : Top p loose mean mg mb s.heap) (e : nsIn K mainGlobals x = some none) (hv : bootBuiltins x = some v) (hn : x ≠ "__name__") (h : Q v s)
    (hg : env.globals = mainGlobals := by rfl) (hb : env.builtins = builtinsNs := by rfl) (hk : env.scope.kind = .function := by rfl) (hx : env.kindOf x = some .globalImplicit := by rfl) (hd : (x == ("__debug__" : Str)) = false := by decide) : wpAny M A (eval (.Name x pos) env) Q E s :=
  Name_function_global hk hx (loadGlobal_builtin (env := env) (by rw [hg]; exact T.g) (mg_none_of X T.g e) (by rw [hb]; exact T.b) ((T.builtins x hn).trans hv) h) hd
end

section
variable {prog : Program} {w : World} {A : Around} {env : Env} {scope : Scope} {cl : List (Str × Addr)} {s₂ : Shared} {wr : List Addr} {P : Nat → Value → Prop} {St : Nat → Heap → Prop}
abbrev TgL (x : Str) (C : Addr) (v : Value) (h : Heap) : Prop := ∃ m, h.Ns C m ∧ m x = some v
theorem tg_local {x : Str} {px : Pos} (hx : scope.names.lookup x = some .local) (hk : scope.kind = .function) : ∀ C i v h₃ tk₃ m (Q : Unit → Shared → Prop), P i v → Heap.Ns h₃ C m → CellsLive scope C h₃ → C ∉ cellsX scope C → (∀ x o, x ∉ wr → s₂.heap.get? x = some o → h₃.get? x = some o) →
      (∀ h₄ tk m', h₄.Ns C m' → CellsLive scope C h₄ → TgL x C v h₄ → (∀ x o, x ≠ C → x ∉ cellsX scope C → h₃.get? x = some o → h₄.get? x = some o) → Q () { s₂ with heap := h₄, toks := tk }) →
      wpAny (model prog w) A (assign (.Name x px) (cenvX scope cl C env) v) Q (fun _ _ => False) { s₂ with heap := h₃, toks := tk₃ } := by
  intro C i v h₃ tk₃ m Q _ hn hcl hCx _ hQ
  refine wpAny_assign_Name (wpAny_storeName_local (env := cenvX scope cl C env) (m := m) (lookup_relabel_local hx) hn (fun h₄ hn₄ hs₄ => ?_) (by simp [relabel, hk]))
  refine hQ h₄ _ _ hn₄ (fun c hc => ?_) ⟨_, hn₄, by simp⟩ fun x o hx _ e => hs₄.extBut x o hx e
  obtain ⟨v, o, ho, hd⟩ := hcl c hc
  exact ⟨v, o, hs₄.extBut c o (fun e => hCx (by have e' : c = C := e; rw [e'] at hc; exact hc)) ho, hd⟩
theorem tg_cell {x : Str} {px : Pos} {c : Addr → Addr} (hc : ∀ C, (cellsFrom (C + 1) scope.names cl).lookup x = some (c C)) (hin : ∀ C, c C ∈ cellsX scope C) (hx : (relabel scope env).names.lookup x = some .cell) (hk : scope.kind = .function) : ∀ C i v h₃ tk₃ m (Q : Unit → Shared → Prop), P i v → Heap.Ns h₃ C m → CellsLive scope C h₃ → C ∉ cellsX scope C → (∀ x o, x ∉ wr → s₂.heap.get? x = some o → h₃.get? x = some o) →
      (∀ h₄ tk m', h₄.Ns C m' → CellsLive scope C h₄ → h₄.IsCell (c C) (some v) → (∀ x o, x ≠ C → x ∉ cellsX scope C → h₃.get? x = some o → h₄.get? x = some o) → Q () { s₂ with heap := h₄, toks := tk }) →
      wpAny (model prog w) A (assign (.Name x px) (cenvX scope cl C env) v) Q (fun _ _ => False) { s₂ with heap := h₃, toks := tk₃ } := by
  intro C i v h₃ tk₃ m Q _ hn hcl hCx _ hQ
  obtain ⟨v₀, hv₀⟩ := hcl _ (hin C)
  refine wpAny_assign_Name (wpAny_storeName_cell (env := cenvX scope cl C env) hk hx (hc C) hv₀ fun h₄ hc₄ hs₄ => ?_)
  have hne : C ≠ c C := fun e => hCx (by have z := hin C; rw [← e] at z; exact z)
  refine hQ h₄ _ m (hn.sameBut hs₄ hne) (fun c' hc' => ?_) hc₄ fun x o _ hx e => hs₄.extBut x o (fun e => hx (e ▸ hin C)) e
  by_cases he : c' = c C
  · subst he; exact ⟨_, hc₄⟩
  · obtain ⟨v', hv'⟩ := hcl c' hc'
    exact ⟨v', hv'.sameBut hs₄ he⟩
theorem lt_name {x : Str} {px : Pos} {I : Addr} : ∀ i v (s₃ : Shared) (Q : Unit → Shared → Prop), P i v → St (i + 1) s₃.heap → Q () s₃ → wpAny (model prog w) A (letOwnedTupleGo (.Name x px) (.ref I) v) Q (fun _ _ => False) s₃ :=
  fun _ _ _ _ _ _ h => wpAny_pure h
theorem tests_nil {Tg : Addr → Value → Heap → Prop} : ∀ C i v h₃ tk₃, P i v → Tg C v h₃ → (∀ x o, x ∉ wr → s₂.heap.get? x = some o → h₃.get? x = some o) →
      wpAny (model prog w) A (forIn ([] : List Expr) true fun c r => if r = true then do let ok ← isTrue c (cenvX scope cl C env) (eval c (cenvX scope cl C env)); pure (ForInStep.yield ok) else pure (ForInStep.yield r))
        (fun ok s₄ => ok = (fun _ : Value => true) v ∧ ∃ tk, s₄ = { s₂ with heap := h₃, toks := tk }) (fun _ _ => False) { s₂ with heap := h₃, toks := tk₃ } :=
  fun _ _ _ _ tk₃ _ _ _ => wpAny_tests_nil ⟨rfl, tk₃, rfl⟩
end
end Mine
end

section
open PySem PySem.W PyProof.Rows PySem.Calls
set_option maxRecDepth 100000
namespace Mine
theorem Paired.at {α β : Type} {F : α → β → Prop} : ∀ {l₁ : List α} {l₂ : List β}, Paired F l₁ l₂ → ∀ (i : Nat) (r : β), l₂[i]? = some r → ∃ v, l₁[i]? = some v ∧ F v r
  | _, _, .nil, i, r, h => by simp at h
  | _, _, .cons (a := a) x t, 0, r, h => by
    simp at h; subst h
    exact ⟨a, by simp, x⟩
  | _, _, .cons x t, i + 1, r, h => by
    simp at h
    obtain ⟨v, h1, h2⟩ := Paired.at t i r h
    exact ⟨v, by simpa using h1, h2⟩

theorem flt_t {α : Type} (l : List α) : l.filter (fun _ => true) = l := by
  induction l with
  | nil => rfl
  | cons x l ih => simp [ih]
theorem flt_f {α : Type} (l : List α) : l.filter (fun _ => false) = [] := by
  induction l with
  | nil => rfl
  | cons x l ih => simp [ih]
section
variable {b : Bool} {prog : Program} {w : World} {A : Around} {env : Env} {scope : Scope} {cl : List (Str × Addr)} {s : Shared} {target elt : Expr} {ifs : List Expr} {Q : Value → Shared → Prop}

/-- what a comprehension over n items leaves, told of the state ahead of it -/
structure Comped (s : Shared) (n : Nat) (F : Nat → Value → List (Addr × Obj) → Prop) (D : Addr) (h' : Heap) (k : Nat) (rows : List (Value × List (Addr × Obj))) : Prop where
  new : s.heap.get? D = none
  keep : Kp s.heap h'
  lst : h'.get? D = some (lsObj (rows.map (·.1)) k)
  len : rows.length = n
  each : ∀ i r, rows[i]? = some r → F i r.1 r.2
  owns : ∀ r ∈ rows, ∀ q ∈ r.2, s.heap.get? q.1 = none ∧ h'.get? q.1 = some q.2

theorem comp_iter {I : Addr} {fp : List Addr} {n : Nat} {P : Nat → Value → Prop} {St : Nat → Heap → Prop} {o : Obj} (pb : Bool) (W : Walks prog w A I fp [I] n P St) (hI : I = s.heap.objs.size) (ho : o.isFreed = false) (hsz : n ≤ sizeLine) (hst : St 0 (s.heap.push o)) (hfp : ∀ x ∈ fp, x ≤ s.heap.objs.size)
    (hwl : ∀ i h, St i h → ∃ o, h.get? I = some o) (Tg : Addr → Value → Heap → Prop) (F : Nat → Value → List (Addr × Obj) → Prop) (G : Value → Value → List (Addr × Obj) → Prop) (hGF : ∀ i v y own, P i v → G v y own → F i y own)
    (hlt : ∀ i v (s₃ : Shared) (Q : Unit → Shared → Prop), P i v → St (i + 1) s₃.heap → Q () s₃ → wpAny (model prog w) A (letOwnedTupleGo target (.ref I) v) Q (fun _ _ => False) s₃)
    (htg : ∀ C i v h₃ tk₃ m (Q : Unit → Shared → Prop), P i v → Heap.Ns h₃ C m → CellsLive scope C h₃ → C ∉ cellsX scope C → (∀ x o', x ∉ [I] → (s.heap.push o).get? x = some o' → h₃.get? x = some o') →
      (∀ h₄ tk m', h₄.Ns C m' → CellsLive scope C h₄ → Tg C v h₄ → (∀ x o, x ≠ C → x ∉ cellsX scope C → h₃.get? x = some o → h₄.get? x = some o) → Q () { s with heap := h₄, toks := tk }) →
      wpAny (model prog w) A (assign target (cenvX scope cl C env) v) Q (fun _ _ => False) { s with heap := h₃, toks := tk₃ })
    (htests : ∀ C i v h₃ tk₃, P i v → Tg C v h₃ → Kp s.heap h₃ →
      wpAny (model prog w) A (forIn ifs true fun c r => if r = true then do let ok ← isTrue c (cenvX scope cl C env) (eval c (cenvX scope cl C env)); pure (ForInStep.yield ok) else pure (ForInStep.yield r))
        (fun ok s₄ => ok = pb ∧ ∃ tk, s₄ = { s with heap := h₃, toks := tk }) (fun _ _ => False) { s with heap := h₃, toks := tk₃ })
    (helt : ∀ C i v h₃ tk₃, s.heap.objs.size < C → P i v → pb = true → Tg C v h₃ → Kp s.heap h₃ →
      wpB b (model prog w) A (eval elt (cenvX scope cl C env))
        (fun y s₄ => ∃ h₄ tk own, s₄ = { s with heap := h₄, toks := tk } ∧ Kp h₃ h₄ ∧ G v y own ∧ ∀ q ∈ own, h₃.get? q.1 = none ∧ h₄.get? q.1 = some q.2) (fun _ _ => False) { s with heap := h₃, toks := tk₃ })
    (hQ : ∀ D h' tk k rows, Comped s (if pb then n else 0) F D h' k rows → Q (.ref D) { s with heap := h', toks := tk }) :
    CompAny b prog w A env scope cl target ifs elt Q (.ref I) { s with heap := s.heap.push o } := by
  have low : ∀ h₃ : Heap, (∀ x o', x ∉ [I] → (s.heap.push o).get? x = some o' → h₃.get? x = some o') → Kp s.heap h₃ := fun h₃ hk x o' e =>
    hk x o' (fun hm => by have := Heap.lt_size e; rw [List.mem_singleton.mp hm, hI] at this; exact Nat.lt_irrefl _ this) (Heap.get?_push_of_some _ e)
  refine ⟨I, [I], n, P, fun _ => pb, G, rfl, ⟨⟨fp, St, W, hsz, hst, fun x hx => ?_, fun i h hs x hx => ?_, Tg, hlt, fun C i v h₃ tk₃ m Q hv hn hl hC hk hq => htg C i v h₃ tk₃ m Q hv hn hl hC hk hq, fun C i v h₃ tk₃ hv ht hk => htests C i v h₃ tk₃ hv ht (low h₃ hk),
    fun C i v h₃ tk₃ hC hv hp ht hk => helt C i v h₃ tk₃ ?_ hv hp ht (low h₃ hk)⟩, trivial⟩, ?_⟩
  · show x < (s.heap.push o).objs.size
    rw [Heap.size_push]
    exact Nat.lt_succ_of_le (hfp x hx)
  · rw [List.mem_singleton.mp hx]; exact hwl i h hs
  · have : (s.heap.push o).objs.size < C := hC
    rw [Heap.size_push] at this
    exact Nat.lt_of_succ_lt this
  · intro D h' tk k vs rows ce
    have hD : s.heap.get? D = none := by
      cases e : s.heap.get? D with
      | none => rfl
      | some o' => have z := ce.new; rw [show (s.heap.push o).get? D = some o' from Heap.get?_push_of_some _ e] at z; cases z
    refine hQ D h' tk k rows ⟨hD, low h' ce.keep, ce.lst, ?_, ?_, fun r hr q hq => ⟨?_, (ce.owns r hr q hq).2⟩⟩
    · have hl := ce.pairs.length
      cases pb with
      | true => rw [← hl, flt_t, ce.len]; rfl
      | false => rw [← hl, flt_f]; rfl
    · intro i r hr
      obtain ⟨v, h1, h2⟩ := Paired.at ce.pairs i r hr
      cases pb with
      | true =>
        rw [flt_t] at h1
        exact hGF i v _ _ (ce.items i v h1) h2
      | false => rw [flt_f] at h1; simp at h1
    · cases e : s.heap.get? q.1 with
      | none => rfl
      | some o' =>
        have z := (ce.owns r hr q hq).1
        rw [show (s.heap.push o).get? q.1 = some o' from Heap.get?_push_of_some _ e] at z; cases z

theorem comp_range {r : Addr} {a₀ b₀ c : Int} {t₀ u₀ v₀ : Tok} {n : Nat} (hh : A.handled = none) (hr : IsRange s.heap r a₀ b₀ c t₀ u₀ v₀) (hsmall : Builtin.Range.small a₀ b₀ c = true) (hn : Builtin.Range.rangeSize a₀ b₀ c = (n : Int)) (hsz : n ≤ sizeLine)
    (Tg : Addr → Value → Heap → Prop) (F : Nat → Value → List (Addr × Obj) → Prop)
    (hlt : ∀ i v (s₃ : Shared) (Q : Unit → Shared → Prop), (i < n ∧ ∃ t, v = .int (a₀ + i * c) t) → True → Q () s₃ → wpAny (model prog w) A (letOwnedTupleGo target (.ref s.heap.objs.size) v) Q (fun _ _ => False) s₃)
    (htg : ∀ C (i : Nat) v h₃ tk₃ m (Q : Unit → Shared → Prop), True → Heap.Ns h₃ C m → CellsLive scope C h₃ → C ∉ cellsX scope C → (∀ x o', x ∉ ([] : List Addr) → s.heap.get? x = some o' → h₃.get? x = some o') →
      (∀ h₄ tk m', h₄.Ns C m' → CellsLive scope C h₄ → Tg C v h₄ → (∀ x o, x ≠ C → x ∉ cellsX scope C → h₃.get? x = some o → h₄.get? x = some o) → Q () { s with heap := h₄, toks := tk }) →
      wpAny (model prog w) A (assign target (cenvX scope cl C env) v) Q (fun _ _ => False) { s with heap := h₃, toks := tk₃ })
    (helt : ∀ C (i : Nat) t h₃ tk₃, s.heap.objs.size < C → i < n → Tg C (.int (a₀ + i * c) t) h₃ → Kp s.heap h₃ →
      wpB b (model prog w) A (eval elt (cenvX scope cl C env))
        (fun y s₄ => ∃ h₄ tk own, s₄ = { s with heap := h₄, toks := tk } ∧ Kp h₃ h₄ ∧ F i y own ∧ ∀ q ∈ own, h₃.get? q.1 = none ∧ h₄.get? q.1 = some q.2) (fun _ _ => False) { s with heap := h₃, toks := tk₃ })
    (hQ : ∀ D h' tk k rows, Comped s n F D h' k rows → Q (.ref D) { s with heap := h', toks := tk }) (hc : c ≠ 0 := by decide) :
    wpAny (model prog w) A (pyIter (.ref r)) (fun it s₂ => CompAny b prog w A env scope cl target [] elt Q it s₂) (fun _ _ => False) s := by
  refine wpAny_pyIter_range hr hsmall ?_
  refine comp_iter (St := fun i h => IsRangeIter h s.heap.objs.size (a₀ + (i : Nat) * c) ((n : Int) - (i : Nat)) c) true (Walks.range (prog := prog) (w := w) hh s.heap.objs.size a₀ c n).bound rfl rfl hsz (by show IsRangeIter _ _ _ _ _; rw [hn]; simpa using Heap.get?_push_size _ rfl) (fun x hx => by rw [List.mem_singleton.mp hx]; exact Nat.le_refl _)
    (fun i h hs => ⟨_, hs⟩) Tg F (fun v y own => ∃ i : Nat, (∃ t, v = .int (a₀ + i * c) t) ∧ F i y own) ?_ (fun i v s₃ Q hv _ h => hlt i v s₃ Q hv trivial h) (fun C i v h₃ tk₃ m Q _ hn hl hC hk hq => htg C i v h₃ tk₃ m Q trivial hn hl hC (fun x o' _ e => hk x o' ?_ (Heap.get?_push_of_some _ e)) hq) (fun C i v h₃ tk₃ _ _ _ => wpAny_tests_nil ⟨rfl, tk₃, rfl⟩) ?_ (fun D h' tk k rows hc => hQ D h' tk k rows hc)
  · rintro i v y own ⟨_, t, rfl⟩ ⟨j, ⟨t', e⟩, hF⟩
    have e1 : a₀ + (i : Int) * c = a₀ + (j : Int) * c := by injection e
    have e2 : (i : Int) * c = (j : Int) * c := by omega
    have e3 : (i : Int) = j := Int.eq_of_mul_eq_mul_right hc e2
    have : i = j := by omega
    subst this; exact hF
  · intro hm
    have := Heap.lt_size e; rw [List.mem_singleton.mp hm] at this; exact Nat.lt_irrefl _ this
  · rintro C i v h₃ tk₃ hC ⟨hi, t, rfl⟩ _ ht hk
    refine wpB_mono (helt C i t h₃ tk₃ hC hi ht hk) (fun y s₄ h => ?_) fun _ _ f => f
    obtain ⟨h₄, tk, own, e, hk4, hF, ho⟩ := h
    exact ⟨h₄, tk, own, e, hk4, ⟨i, ⟨t, rfl⟩, hF⟩, ho⟩
end
end Mine
end

section
open PySem PySem.W PyProof.Rows PySem.Calls
set_option maxRecDepth 100000
namespace Mine
section
variable {b : Bool} {prog : Program} {w : World} {A : Around} {env : Env} {scope : Scope} {cl : List (Str × Addr)} {s : Shared} {target elt : Expr} {ifs : List Expr} {Q : Value → Shared → Prop}

theorem four_of {α : Type} {l : List α} (h : l.length = 4) : ∃ a b c d, l = [a, b, c, d] := by
  match l, h with
  | [a, b, c, d], _ => exact ⟨a, b, c, d, rfl⟩
theorem octEq (n i : Nat) {k : Int} (hk : k.toNat = i) : ((n : Int).fdiv (256 ^ k.toNat)).fmod 256 = ((n / 256 ^ i % 256 : Nat) : Int) := by
  rw [hk, Int.fdiv_eq_ediv_of_nonneg _ (Int.pow_nonneg (by decide)), Int.fmod_eq_emod_of_nonneg _ (by decide), Int.natCast_emod, Int.natCast_ediv, Int.natCast_pow]
  rfl
def oct4 (n : Nat) : List UInt8 := [(n / 256 ^ 0 % 256).toUInt8, (n / 256 ^ 1 % 256).toUInt8, (n / 256 ^ 2 % 256).toUInt8, (n / 256 ^ 3 % 256).toUInt8]
/-- an element's end, shut for the walk -/
def EltEnd (s : Shared) (h₃ : Heap) (F : Value → List (Addr × Obj) → Prop) (y : Value) (s₄ : Shared) : Prop :=
  ∃ h₄ tk own, s₄ = { s with heap := h₄, toks := tk } ∧ Kp h₃ h₄ ∧ F y own ∧ ∀ q ∈ own, h₃.get? q.1 = none ∧ h₄.get? q.1 = some q.2
theorem EltEnd.plain {s : Shared} {h₃ h₄ : Heap} {tk : Nat} {F : Value → List (Addr × Obj) → Prop} {y : Value} (hk : Kp h₃ h₄) (h : F y []) : EltEnd s h₃ F y { s with heap := h₄, toks := tk } := ⟨h₄, tk, [], rfl, hk, h, fun _ h => nomatch h⟩
theorem elt_any {h₃ : Heap} {F : Value → List (Addr × Obj) → Prop} {M : Model} {t : Sem Value} {s' : Shared} (h : wpAny M A t (EltEnd s h₃ F) (fun _ _ => False) s') :
    wpB b M A t (fun y s₄ => ∃ h₄ tk own, s₄ = { s with heap := h₄, toks := tk } ∧ Kp h₃ h₄ ∧ F y own ∧ ∀ q ∈ own, h₃.get? q.1 = none ∧ h₄.get? q.1 = some q.2) (fun _ _ => False) s' := wpB_of h
theorem elt_B {h₃ : Heap} {F : Value → List (Addr × Obj) → Prop} {M : Model} {t : Sem Value} {s' : Shared} (h : wpB b M A t (EltEnd s h₃ F) (fun _ _ => False) s') :
    wpB b M A t (fun y s₄ => ∃ h₄ tk own, s₄ = { s with heap := h₄, toks := tk } ∧ Kp h₃ h₄ ∧ F y own ∧ ∀ q ∈ own, h₃.get? q.1 = none ∧ h₄.get? q.1 = some q.2) (fun _ _ => False) s' := h

theorem listIter_push {h : Heap} {l : Addr} {items : List Value} (hl : h.IsList l items.toArray) : (h.push { cls := .type "list_iterator", data := .fields #[.ref l, .int 0 0] }).IsListIter h.objs.size l 0 ∧ (h.push { cls := .type "list_iterator", data := .fields #[.ref l, .int 0 0] }).IsList l items.toArray :=
  ⟨⟨_, Heap.get?_push_size _ rfl, rfl, rfl⟩, hl.at fun o e => Heap.get?_push_of_some _ e⟩
theorem isList_lt {h : Heap} {l : Addr} {items : Array Value} (hl : h.IsList l items) : l < h.objs.size := let ⟨_, ho, _⟩ := hl; Heap.lt_size ho

theorem comp_list {l : Addr} {items : List Value} (pb : Bool) (hh : A.handled = none) (hl : s.heap.IsList l items.toArray) (hsz : items.length ≤ sizeLine)
    (Tg : Addr → Value → Heap → Prop) (G : Value → Value → List (Addr × Obj) → Prop)
    (hlt : ∀ (i : Nat) v (s₃ : Shared) (Q : Unit → Shared → Prop), items[i]? = some v → s₃.heap.IsListIter s.heap.objs.size l (i + 1) → Q () s₃ → wpAny (model prog w) A (letOwnedTupleGo target (.ref s.heap.objs.size) v) Q (fun _ _ => False) s₃)
    (htg : ∀ C (i : Nat) v h₃ tk₃ m (Q : Unit → Shared → Prop), v ∈ items → Heap.Ns h₃ C m → CellsLive scope C h₃ → C ∉ cellsX scope C → (∀ x o', x ∉ ([] : List Addr) → s.heap.get? x = some o' → h₃.get? x = some o') →
      (∀ h₄ tk m', h₄.Ns C m' → CellsLive scope C h₄ → Tg C v h₄ → (∀ x o, x ≠ C → x ∉ cellsX scope C → h₃.get? x = some o → h₄.get? x = some o) → Q () { s with heap := h₄, toks := tk }) →
      wpAny (model prog w) A (assign target (cenvX scope cl C env) v) Q (fun _ _ => False) { s with heap := h₃, toks := tk₃ })
    (htests : ∀ C v h₃ tk₃, v ∈ items → Tg C v h₃ → Kp s.heap h₃ →
      wpAny (model prog w) A (forIn ifs true fun c r => if r = true then do let ok ← isTrue c (cenvX scope cl C env) (eval c (cenvX scope cl C env)); pure (ForInStep.yield ok) else pure (ForInStep.yield r))
        (fun ok s₄ => ok = pb ∧ ∃ tk, s₄ = { s with heap := h₃, toks := tk }) (fun _ _ => False) { s with heap := h₃, toks := tk₃ })
    (helt : ∀ C v h₃ tk₃, s.heap.objs.size < C → v ∈ items → pb = true → Tg C v h₃ → Kp s.heap h₃ →
      wpB b (model prog w) A (eval elt (cenvX scope cl C env))
        (fun y s₄ => ∃ h₄ tk own, s₄ = { s with heap := h₄, toks := tk } ∧ Kp h₃ h₄ ∧ G v y own ∧ ∀ q ∈ own, h₃.get? q.1 = none ∧ h₄.get? q.1 = some q.2) (fun _ _ => False) { s with heap := h₃, toks := tk₃ })
    (hQ : ∀ D h' tk k rows, Comped s (if pb then items.length else 0) (fun i y own => ∃ v, items[i]? = some v ∧ G v y own) D h' k rows → Q (.ref D) { s with heap := h', toks := tk }) :
    wpAny (model prog w) A (pyIter (.ref l)) (fun it s₂ => CompAny b prog w A env scope cl target ifs elt Q it s₂) (fun _ _ => False) s := by
  have hlt' : l < s.heap.objs.size := isList_lt hl
  have hne : l ≠ s.heap.objs.size := Nat.ne_of_lt hlt'
  refine wpAny_pyIter_list hl ?_
  have W := Walks.list (prog := prog) (w := w) hh s.heap.objs.size l hne items.toArray
  rw [List.size_toArray] at W
  have mem : ∀ {i : Nat} {v : Value}, items.toArray[i]? = some v → items[i]? = some v := fun {i v} h => by rw [List.getElem?_toArray] at h; exact h
  refine comp_iter (St := fun i h => h.IsListIter s.heap.objs.size l i ∧ h.IsList l items.toArray) pb W rfl rfl hsz (listIter_push hl) (fun x hx => ?_) (fun i h hs => ?_) Tg (fun i y own => ∃ v, items[i]? = some v ∧ G v y own) G
    (fun i v y own hP hG => ⟨v, mem hP, hG⟩) (fun i v s₃ Q hv hs h => hlt i v s₃ Q (mem hv) hs.1 h) (fun C i v h₃ tk₃ m Q hv hn hl hC hk hq => htg C i v h₃ tk₃ m Q (List.mem_of_getElem? (mem hv)) hn hl hC (fun x o' _ e => hk x o' ?_ (Heap.get?_push_of_some _ e)) hq)
    (fun C i v h₃ tk₃ hv ht hk => htests C v h₃ tk₃ (List.mem_of_getElem? (mem hv)) ht hk) (fun C i v h₃ tk₃ hC hv hp ht hk => helt C v h₃ tk₃ hC (List.mem_of_getElem? (mem hv)) hp ht hk) hQ
  · rcases List.mem_cons.mp hx with rfl | hx
    · exact Nat.le_refl _
    · rw [List.mem_singleton.mp hx]; exact Nat.le_of_lt hlt'
  · obtain ⟨⟨o, ho, _⟩, _⟩ := hs
    exact ⟨o, ho⟩
  · intro hm
    have := Heap.lt_size e; rw [List.mem_singleton.mp hm] at this; exact Nat.lt_irrefl _ this

theorem comp_tuple {l : Addr} {items : List Value} (hh : A.handled = none) (hl : s.heap.IsTuple l items.toArray) (hsz : items.length ≤ sizeLine)
    (Tg : Addr → Value → Heap → Prop) (G : Value → Value → List (Addr × Obj) → Prop)
    (hlt : ∀ (i : Nat) v (s₃ : Shared) (Q : Unit → Shared → Prop), items[i]? = some v → True → Q () s₃ → wpAny (model prog w) A (letOwnedTupleGo target (.ref s.heap.objs.size) v) Q (fun _ _ => False) s₃)
    (htg : ∀ C (i : Nat) v h₃ tk₃ m (Q : Unit → Shared → Prop), v ∈ items → Heap.Ns h₃ C m → CellsLive scope C h₃ → C ∉ cellsX scope C → (∀ x o', x ∉ ([] : List Addr) → s.heap.get? x = some o' → h₃.get? x = some o') →
      (∀ h₄ tk m', h₄.Ns C m' → CellsLive scope C h₄ → Tg C v h₄ → (∀ x o, x ≠ C → x ∉ cellsX scope C → h₃.get? x = some o → h₄.get? x = some o) → Q () { s with heap := h₄, toks := tk }) →
      wpAny (model prog w) A (assign target (cenvX scope cl C env) v) Q (fun _ _ => False) { s with heap := h₃, toks := tk₃ })
    (helt : ∀ C v h₃ tk₃, s.heap.objs.size < C → v ∈ items → Tg C v h₃ → Kp s.heap h₃ →
      wpB b (model prog w) A (eval elt (cenvX scope cl C env))
        (fun y s₄ => ∃ h₄ tk own, s₄ = { s with heap := h₄, toks := tk } ∧ Kp h₃ h₄ ∧ G v y own ∧ ∀ q ∈ own, h₃.get? q.1 = none ∧ h₄.get? q.1 = some q.2) (fun _ _ => False) { s with heap := h₃, toks := tk₃ })
    {QQ : Value → Shared → Prop} (hQ : ∀ it s₂, (∃ o, s₂ = { s with heap := s.heap.push o } ∧ ∃ c : CompAt b prog w A env scope cl target [] elt s₂ s.heap.objs.size [s.heap.objs.size] items.length (fun i v => items[i]? = some v) (fun _ => true) G, True) → it = .ref s.heap.objs.size → QQ it s₂) :
    wpAny (model prog w) A (pyIter (.ref l)) QQ (fun _ _ => False) s := by
  have hlt' : l < s.heap.objs.size := let ⟨_, ho, _⟩ := hl; Heap.lt_size ho
  have hne : l ≠ s.heap.objs.size := Nat.ne_of_lt hlt'
  refine wpAny_pyIter_tuple hl (hQ _ _ ⟨_, rfl, ?_⟩ rfl)
  have W := Walks.tuple (prog := prog) (w := w) hh s.heap.objs.size l hne items.toArray
  rw [List.size_toArray] at W
  have W' : Walks prog w A s.heap.objs.size [s.heap.objs.size, l] [s.heap.objs.size] items.length (fun i v => items[i]? = some v) (fun i h => h.IsTupleIter s.heap.objs.size l i ∧ h.IsTuple l items.toArray) := by simpa using W
  have low : ∀ h₃ : Heap, (∀ x o', x ∉ [s.heap.objs.size] → (s.heap.push { cls := .type "tuple_iterator", data := .fields #[.ref l, .int 0 0] }).get? x = some o' → h₃.get? x = some o') → Kp s.heap h₃ := fun h₃ hk x o' e =>
    hk x o' (fun hm => by have := Heap.lt_size e; rw [List.mem_singleton.mp hm] at this; exact Nat.lt_irrefl _ this) (Heap.get?_push_of_some _ e)
  refine ⟨⟨_, _, W', hsz, ⟨⟨_, Heap.get?_push_size _ rfl, rfl, rfl⟩, hl.at fun o e => Heap.get?_push_of_some _ e⟩, fun x hx => ?_, fun i h hs x hx => ?_, Tg, fun i v s₃ Q hv _ h => hlt i v s₃ Q hv trivial h,
    fun C i v h₃ tk₃ m Q hv hn hl hC hk hq => htg C i v h₃ tk₃ m Q (List.mem_of_getElem? hv) hn hl hC (fun x o' _ e => low h₃ hk x o' e) hq, fun C i v h₃ tk₃ _ _ _ => wpAny_tests_nil ⟨rfl, tk₃, rfl⟩,
    fun C i v h₃ tk₃ hC hv _ ht hk => helt C v h₃ tk₃ ?_ (List.mem_of_getElem? hv) ht (low h₃ hk)⟩, trivial⟩
  · show x < (s.heap.push _).objs.size
    rw [Heap.size_push]
    rcases List.mem_cons.mp hx with rfl | hx
    · exact Nat.lt_succ_self _
    · rw [List.mem_singleton.mp hx]; exact Nat.lt_succ_of_lt hlt'
  · obtain ⟨⟨o, ho, _⟩, _⟩ := hs
    rw [List.mem_singleton.mp hx]; exact ⟨o, ho⟩
  · have : (s.heap.push { cls := .type "tuple_iterator", data := .fields #[.ref l, .int 0 0] }).objs.size < C := hC
    rw [Heap.size_push] at this
    exact Nat.lt_of_succ_lt this
end
end Mine
end

section
open PySem PySem.W PyProof.Rows PySem.Calls
set_option maxRecDepth 100000
namespace Mine
section
variable {prog : Program} {w : World} {A : Around} {E : Value → Shared → Prop} {s : Shared}
theorem preSum_list (ns : List Int) : preSum (fun i => ns.getD i 0) ns.length = ns.sum := by
  rw [preSum_getD, List.take_length]
theorem call_sum_list {D : Addr} {vs : List Value} {ns : List Int} {Q : Value → Shared → Prop} (hh : A.handled = none) (hl : s.heap.IsList D vs.toArray) (hi : IntsAre vs ns)
    (hQ : ∀ h' tk t', Kp s.heap h' → Q (.int ns.sum t') { s with heap := h', toks := tk }) : wpAny (model prog w) A (call (.builtin "sum") [.ref D]) Q E s := by
  have hlt' : D < s.heap.objs.size := isList_lt hl
  have hne : D ≠ s.heap.objs.size := Nat.ne_of_lt hlt'
  refine call_sum_walkG (wpAny_pyIter_list hl ?_)
  have W := Walks.list (prog := prog) (w := w) (A := A.in1) hh s.heap.objs.size D hne vs.toArray
  refine ⟨_, _, _, _, _, _, fun i => ns.getD i 0, rfl, W, listIter_push hl, fun x hx => ?_, fun i v hv => ?_, fun h' tk t' hk => ?_⟩
  · show x < (s.heap.push _).objs.size
    rw [Heap.size_push]
    rcases List.mem_cons.mp hx with rfl | hx
    · exact Nat.lt_succ_self _
    · rw [List.mem_singleton.mp hx]; exact Nat.lt_succ_of_lt hlt'
  · rw [List.getElem?_toArray] at hv
    obtain ⟨n, t, rfl, hn⟩ := IntsAre.at hi i v hv
    exact ⟨t, by show _ = Value.int (ns.getD i 0) t; rw [List.getD_eq_getElem?_getD, hn]; rfl⟩
  · rw [show vs.toArray.size = ns.length from hi.length, preSum_list]
    exact hQ h' tk t' fun x o e => hk x o (fun hm => by have := Heap.lt_size e; rw [List.mem_singleton.mp hm] at this; exact Nat.lt_irrefl _ this) (Heap.get?_push_of_some _ e)
theorem item_ls {value slice : PySem.Expr} {l : Addr} {vs : List Value} {k : Int} {u : Tok} {v : Value} {Q : Value → Shared → Prop}
    (hl : s.heap.IsList l vs.toArray) (h0 : 0 ≤ k) (hhi : k < 2 ^ 63) (hx : vs[k.toNat]? = some v) (h : Q v s)
    (hs : subscripted slice false (.ref l) (.int k u) = operate [.ref l, .int k u] (getItem (.ref l) (.int k u)) := by with_unfolding_all rfl) :
    wpAny (model prog w) A (subscriptTail value slice (.ref l) (.int k u)) Q E s :=
  tail_any hl.typeIs slot_list_getitem.lookup (wpAny_getItem_list hl h0 hhi (by rw [List.getElem?_toArray]; exact hx) h) hs
end
end Mine
end

section
open PySem PySem.W PyProof.Rows PySem.Calls
set_option maxRecDepth 100000
namespace Mine
section
variable {b : Bool} {prog : Program} {w : World} {A : Around} {E : Value → Shared → Prop} {s : Shared} {env : Env}

theorem wpB_runOwn {c : Code} {Q : Flow → Shared → Prop} (hc : codeB b (model prog w) A c (fun r s' => match r with | .ok f => Q f s' | .error _ => False) s) : wpB b (model prog w) A (runOwn c env) Q E s := by
  unfold runOwn
  exact wpB_onRaise (wpB_run (codeB_mono hc fun r s' h => by cases r <;> exact h))
theorem wpB_For {target iter : Expr} {body : List Stmt} {pos : Pos} {Q : Flow → Shared → Prop}
    (h : wpB b (model prog w) A (eval iter env) (fun xv s₁ => wpAny (model prog w) A (pyIter xv) (fun it s₂ => codeB b (model prog w) A (.forLoop target it body [] env) (fun r s' => match r with | .ok f => Q f s' | .error _ => False) s₂) (fun _ _ => False) s₁) (fun _ _ => False) s)
    (hs : ∀ x, foldedSetIterable iter env x = pure x := by intro _; rfl) : wpB b (model prog w) A (exec (.For target iter body [] pos) env) Q E s := by
  rw [exec_For]
  exact wpB_bindA (wpAny_standAt (wpB_bind (wpB_mono h (fun x s₁ h₁ => wpB_bindA (wpAny_of_eq (hs x) (wpB_bindA (wpAny_standAt (wpB_bindA (wpAny_holding
    (wpAny_mono h₁ (fun it s₂ h₂ => wpB_runOwn h₂) fun _ _ h' => h'.elim))))))) fun _ _ h' => h'.elim)))

/-- a for over any source, by what holds between its turns -/
theorem codeB_forWalk {target : Expr} {body : List Stmt} {I : Addr} {fp wr : List Addr} {n : Nat} {P : Nat → Value → Prop} {St : Nat → Heap → Prop} {Q : Flow → Shared → Prop} (W : Walks prog w A I fp wr n P St)
    (J : Nat → Heap → Prop) (hJ : ∀ i h h₁, J i h → (∀ x o, x ∉ wr → h.get? x = some o → h₁.get? x = some o) → J i h₁)
    (hlet : ∀ v, letOwnedTupleGo target (.ref I) v = pure ())
    (turn : ∀ (i : Nat) v h tk, i < n → P i v → St (i + 1) h → J i h → wpAny (model prog w) A (assign target env v) (fun _ s₂ => wpB b (model prog w) A (execs body env)
      (fun f s₃ => f = .next ∧ ∃ h₃ tk₃, s₃ = { s with heap := h₃, toks := tk₃ } ∧ J (i + 1) h₃ ∧ ∀ x ∈ fp, ∀ o, h.get? x = some o → h₃.get? x = some o) (fun _ _ => False) s₂) (fun _ _ => False) { s with heap := h, toks := tk })
    (done : ∀ h tk, J n h → Q .next { s with heap := h, toks := tk }) (h0 : St 0 s.heap) (hj0 : J 0 s.heap) :
    codeB b (model prog w) A (.forLoop target (.ref I) body [] env) (fun r s' => match r with | .ok f => Q f s' | .error _ => False) s := by
  refine codeB_loop rfl rfl (fun k s' => ∃ h tk i, s' = { s with heap := h, toks := tk } ∧ St i h ∧ J i h ∧ i ≤ n ∧ k = n + 1 - i) ?_ (n + 1) ⟨s.heap, s.toks, 0, rfl, h0, hj0, Nat.zero_le _, rfl⟩
  rintro k s' ⟨h, tk, i, rfl, hst, hj, hi, rfl⟩
  show wpB b _ _ ((forTurn target (.ref I) body [] env).onRaise (fun x => do noteFrame x env; theTreesLotGoes x)) _ _ _
  refine wpB_onRaise ?_
  simp only [forTurn]
  refine wpB_bindA (wpAny_standAt ?_)
  by_cases hlt : i < n
  · refine wpB_bind (wpB_onRaise (wpB_of (W.item i _ _ _ hlt hst fun v h₁ tk₁ hv hst₁ hk₁ => ?_)))
    refine wpB_bindA (wpAny_of_eq (hlet v) ?_)
    refine wpB_bindA (wpAny_mono (turn i v h₁ tk₁ hlt hv hst₁ (hJ i h h₁ hj hk₁)) (fun _ s₂ h₂ => ?_) fun _ _ f => f.elim)
    refine wpB_bind (wpB_mono h₂ (fun f s₃ h₃ => ?_) fun _ _ f => f.elim)
    obtain ⟨rfl, h₃', tk₃, rfl, hj₃, hfp⟩ := h₃
    exact wpB_pure (.inl ⟨rfl, n + 1 - (i + 1), by omega, h₃', tk₃, i + 1, rfl, W.frame _ _ _ hst₁ hfp, hj₃, by omega, rfl⟩)
  · have e : i = n := by omega
    subst e
    refine wpB_bind (wpB_onRaise (wpB_of (W.done _ _ _ hst fun h₁ tk₁ hk₁ => ?_)))
    refine wpB_pure (.inr ⟨rfl, codeB_of (codeAny_block (wpAny_execs_nil ?_))⟩)
    exact done h₁ tk₁ (hJ _ h h₁ hj hk₁)
theorem wpB_Assign_Tuple {M : Model} {elts k tpos value pos} {Q : Flow → Shared → Prop}
    (h : wpB b M A (eval value env) (fun v s₁ => wpAny M A (assign (.Tuple elts k tpos) env v) (fun _ => Q .next) E s₁) E s)
    (hs : swapsWithSole [.Tuple elts k tpos] value pos.line env = pure false := by rfl)
    (hw : swappedStores [.Tuple elts k tpos] value env = pure none := by rfl) :
    wpB b M A (exec (.Assign [.Tuple elts k tpos] value pos) env) Q E s := by
  rw [exec_Assign]
  refine wpB_bindA (wpAny_standAt ?_)
  rw [hs]
  refine wpB_bindA (wpAny_pure ?_)
  rw [if_neg (by decide)]
  refine wpB_bind (wpB_mono h (fun v s₁ h₁ => ?_) fun _ _ x => x)
  rw [hw]
  refine wpB_of (wpAny_bind (wpAny_pure ?_))
  show wpAny M A (do assignAll v [assign (.Tuple elts k tpos) env]; pure .next) Q E s₁
  exact wpAny_bind (wpAny_mono h₁ (fun _ _ x => wpAny_pure x) fun _ _ x => x)
end
theorem fr_but {h₀ h h₁ : Heap} {L I : Addr} {m : Str → Option Value} (F : Fr h₀ L h m) (hL : L ≠ I) (h0 : h₀.get? I = none) (hk : ∀ x o, x ∉ [I] → h.get? x = some o → h₁.get? x = some o) : Fr h₀ L h₁ m :=
  ⟨F.ns.at' fun o e => hk _ o (fun hm => hL (List.mem_singleton.mp hm)) e, fun b o e => hk b o (fun hm => by rw [List.mem_singleton.mp hm, h0] at e; cases e) (F.keep b o e), F.above⟩
theorem news_but {h₀ h h₁ : Heap} {L I : Addr} {news : List (Addr × Obj)} (N : News h₀ L h news) (hn : ∀ p ∈ news, p.1 ≠ I) (hk : ∀ x o, x ∉ [I] → h.get? x = some o → h₁.get? x = some o) : News h₀ L h₁ news :=
  fun p hp => ⟨hk _ _ (fun hm => hn p hp (List.mem_singleton.mp hm)) (N p hp).1, (N p hp).2⟩
theorem isListIter_of {h : Heap} {I l : Addr} {i : Nat} (x : h.IsListIter I l i) : ∃ o, h.get? I = some o := let ⟨o, ho, _⟩ := x; ⟨o, ho⟩
theorem octet_of (z : Int) : ∃ q : Nat, q < 256 ∧ z.fmod 256 = (q : Int) := by
  rw [Int.fmod_eq_emod_of_nonneg _ (by decide)]
  exact ⟨(z % 256).toNat, by omega, by omega⟩
theorem mapAt {m : Str → Option Value} {y : Str} {v : Option Value} (h : m y = v) : m = fun z => if z = y then v else m z := by
  funext z
  by_cases e : z = y
  · rw [if_pos e, e, h]
  · rw [if_neg e]
/-- nothing of the next address yet -/
theorem new_ne {h₀ h : Heap} {L : Addr} {m : Str → Option Value} {news : List (Addr × Obj)} (F : Fr h₀ L h m) (N : News h₀ L h news) : L ≠ h.objs.size ∧ h₀.get? h.objs.size = none ∧ ∀ p ∈ news, p.1 ≠ h.objs.size :=
  ⟨Nat.ne_of_lt F.ns.lt, next_is_new F, fun p hp => Nat.ne_of_lt (Heap.lt_size (N p hp).1)⟩
end Mine
end

section
open PySem PySem.W PyProof.Rows PySem.Calls
set_option maxRecDepth 100000
namespace Mine
section
variable {b : Bool} {prog : Program} {w : World} {A : Around} {env : Env} {scope : Scope} {cl : List (Str × Addr)} {s : Shared} {target elt : Expr} {ifs : List Expr}
/-- what an assigned comprehension leaves -/
structure AsgEnd (s : Shared) (L : Addr) (y : Str) (m : Str → Option Value) (n : Nat) (F : Nat → Value → List (Addr × Obj) → Prop) (D : Addr) (h' : Heap) (k : Nat) (rows : List (Value × List (Addr × Obj))) : Prop where
  new : s.heap.get? D = none
  ns : h'.Ns L (fun z => if z = y then some (.ref D) else m z)
  keep : ∀ x o, x ≠ L → s.heap.get? x = some o → h'.get? x = some o
  lst : h'.get? D = some (lsObj (rows.map (·.1)) k)
  len : rows.length = n
  each : ∀ i r, rows[i]? = some r → F i r.1 r.2
  owns : ∀ r ∈ rows, ∀ q ∈ r.2, s.heap.get? q.1 = none ∧ h'.get? q.1 = some q.2
def AsgAny (b : Bool) (prog : Program) (w : World) (A : Around) (env : Env) (scope : Scope) (cl : List (Str × Addr)) (target : Expr) (ifs : List Expr) (elt : Expr) (y : Str) (Q : Flow → Shared → Prop) (it : Value) (s₂ : Shared) : Prop :=
  ∃ I wr n P p G m, it = .ref I ∧ (∃ _ : CompAt b prog w A env scope cl target ifs elt s₂ I wr n P p G, True) ∧ s₂.heap.Ns env.locals m ∧ env.locals ∉ wr ∧
      ∀ D h' h'' tk k vs rows, CompEnd s₂ wr n P p G D h' k vs rows → h''.Ns env.locals (fun z => if z = y then some (.ref D) else m z) → (∀ x o, x ≠ env.locals → s₂.heap.get? x = some o → h'.get? x = some o → h''.get? x = some o) → h''.get? D = some (lsObj (rows.map (·.1)) k) → (∀ r ∈ rows, ∀ q ∈ r.2, h''.get? q.1 = some q.2) →
        Q .next { s₂ with heap := h'', toks := tk }
theorem asg_of {m : Str → Option Value} {y : Str} {o : Obj} {n : Nat} {P : Nat → Value → Prop} {G : Value → Value → List (Addr × Obj) → Prop} {Q : Flow → Shared → Prop} {F : Nat → Value → List (Addr × Obj) → Prop}
    (c : CompAt b prog w A env scope cl target ifs elt { s with heap := s.heap.push o } s.heap.objs.size [s.heap.objs.size] n P (fun _ => true) G) (hGF : ∀ i v y own, P i v → G v y own → F i y own) (hn : s.heap.Ns env.locals m)
    (hQ : ∀ D h' tk k rows, AsgEnd s env.locals y m n F D h' k rows → Q .next { s with heap := h', toks := tk }) :
    AsgAny b prog w A env scope cl target ifs elt y Q (.ref s.heap.objs.size) { s with heap := s.heap.push o } := by
  refine ⟨_, _, _, _, _, _, m, rfl, ⟨c, trivial⟩, hn.at' fun o e => Heap.get?_push_of_some _ e, fun hm => ?_, fun D h' h'' tk k vs rows ce hns hk hD hq => hQ D h'' tk k rows ⟨?_, hns, fun x o' hx e => ?_, hD, ?_, ?_, fun r hr q hq' => ⟨?_, hq r hr q hq'⟩⟩⟩
  · have := hn.lt; rw [List.mem_singleton.mp hm] at this; exact Nat.lt_irrefl _ this
  · cases e : s.heap.get? D with
    | none => rfl
    | some o' => have z := ce.new; rw [show (s.heap.push o).get? D = some o' from Heap.get?_push_of_some _ e] at z; cases z
  · have e' : (s.heap.push o).get? x = some o' := Heap.get?_push_of_some _ e
    refine hk x o' hx e' (ce.keep x o' (fun hm => ?_) e')
    have := Heap.lt_size e; rw [List.mem_singleton.mp hm] at this; exact Nat.lt_irrefl _ this
  · rw [← ce.pairs.length, flt_t, ce.len]
  · intro i r hr
    obtain ⟨v, h1, h2⟩ := Paired.at ce.pairs i r hr
    rw [flt_t] at h1
    exact hGF i v _ _ (ce.items i v h1) h2
  · cases e : s.heap.get? q.1 with
    | none => rfl
    | some o' => have z := (ce.owns r hr q hq').1; rw [show (s.heap.push o).get? q.1 = some o' from Heap.get?_push_of_some _ e] at z; cases z
theorem AsgEnd.fr {h₀ : Heap} {L : Addr} {y : Str} {m : Str → Option Value} {n : Nat} {F : Nat → Value → List (Addr × Obj) → Prop} {D : Addr} {h' : Heap} {k : Nat} {rows : List (Value × List (Addr × Obj))} (e : AsgEnd s L y m n F D h' k rows) (f : Fr h₀ L s.heap m) : Fr h₀ L h' (fun z => if z = y then some (.ref D) else m z) :=
  ⟨e.ns, fun b o x => e.keep b o (Nat.ne_of_lt (Nat.lt_of_lt_of_le (Heap.lt_size x) f.above)) (f.keep b o x), f.above⟩
theorem AsgEnd.news {h₀ : Heap} {L : Addr} {y : Str} {m : Str → Option Value} {n : Nat} {F : Nat → Value → List (Addr × Obj) → Prop} {D : Addr} {h' : Heap} {k : Nat} {rows : List (Value × List (Addr × Obj))} {news : List (Addr × Obj)} {o : Obj} (e : AsgEnd s L y m n F D h' k rows) (f : Fr h₀ L s.heap m) (N : News h₀ L s.heap news) (hl : h'.get? D = some o) :
    News h₀ L h' ((D, o) :: news) := fun p hp => by
  rcases List.mem_cons.mp hp with rfl | hp
  · refine ⟨hl, fun he => ?_, ?_⟩
    · have hD : D = L := he
      obtain ⟨o', _, _, ho, _⟩ := f.ns
      rw [← hD, e.new] at ho; cases ho
    · show h₀.get? D = none
      cases x : h₀.get? D with
      | none => rfl
      | some o' => have z := f.keep D o' x; rw [e.new] at z; cases z
  · exact ⟨e.keep _ _ (N p hp).2.1 (N p hp).1, (N p hp).2⟩
theorem comp_tupleA {l : Addr} {items : List Value} {m : Str → Option Value} {y : Str} {Q : Flow → Shared → Prop} (hh : A.handled = none) (hl : s.heap.IsTuple l items.toArray) (hsz : items.length ≤ sizeLine) (hn : s.heap.Ns env.locals m)
    (Tg : Addr → Value → Heap → Prop) (G : Value → Value → List (Addr × Obj) → Prop)
    (hlt : ∀ (i : Nat) v (s₃ : Shared) (Q : Unit → Shared → Prop), items[i]? = some v → True → Q () s₃ → wpAny (model prog w) A (letOwnedTupleGo target (.ref s.heap.objs.size) v) Q (fun _ _ => False) s₃)
    (htg : ∀ C (i : Nat) v h₃ tk₃ m (Q : Unit → Shared → Prop), v ∈ items → Heap.Ns h₃ C m → CellsLive scope C h₃ → C ∉ cellsX scope C → (∀ x o', x ∉ ([] : List Addr) → s.heap.get? x = some o' → h₃.get? x = some o') →
      (∀ h₄ tk m', h₄.Ns C m' → CellsLive scope C h₄ → Tg C v h₄ → (∀ x o, x ≠ C → x ∉ cellsX scope C → h₃.get? x = some o → h₄.get? x = some o) → Q () { s with heap := h₄, toks := tk }) →
      wpAny (model prog w) A (assign target (cenvX scope cl C env) v) Q (fun _ _ => False) { s with heap := h₃, toks := tk₃ })
    (helt : ∀ C v h₃ tk₃, s.heap.objs.size < C → v ∈ items → Tg C v h₃ → Kp s.heap h₃ →
      wpB b (model prog w) A (eval elt (cenvX scope cl C env))
        (fun y s₄ => ∃ h₄ tk own, s₄ = { s with heap := h₄, toks := tk } ∧ Kp h₃ h₄ ∧ G v y own ∧ ∀ q ∈ own, h₃.get? q.1 = none ∧ h₄.get? q.1 = some q.2) (fun _ _ => False) { s with heap := h₃, toks := tk₃ })
    (hQ : ∀ D h' tk k rows, AsgEnd s env.locals y m items.length (fun i y own => ∃ v, items[i]? = some v ∧ G v y own) D h' k rows → Q .next { s with heap := h', toks := tk }) :
    wpAny (model prog w) A (pyIter (.ref l)) (fun it s₂ => AsgAny b prog w A env scope cl target [] elt y Q it s₂) (fun _ _ => False) s := by
  refine comp_tuple (scope := scope) (cl := cl) (env := env) (target := target) (elt := elt) (b := b) hh hl hsz Tg G hlt htg helt ?_
  rintro it s₂ ⟨o, rfl, c, -⟩ rfl
  exact asg_of c (fun i v y own hv hG => ⟨v, hv, hG⟩) hn hQ
theorem wpB_Assign_ListComp' {E : Value → Shared → Prop} {iter : Expr} {pos py spos : Pos} {y : Str} {Q : Flow → Shared → Prop}
    (hsw : swapsWith (.ListComp elt [⟨target, iter, ifs, 0⟩] scope pos) (some (.Name y py)) spos.line env = pure true)
    (hclos : closureFor scope env = pure cl) (hkind : scope.kind = .function) (hnames : ∀ x ∈ scope.names, x.2 = .local → scope.names.lookup x.1 = some .local)
    (hy : env.kindOf y = some .local) (hp : (env.scope.kind == .class || (env.scope.kind == .module && env.locals != env.globals)) = false)
    (h : wpB b (model prog w) A (eval iter env) (fun xv s₁ => wpAny (model prog w) A (pyIter xv) (fun it s₂ => AsgAny b prog w A env scope cl target ifs elt y Q it s₂) (fun _ _ => False) s₁) (fun _ _ => False) s)
    (hs : ∀ x, foldedSetIterable iter env x = pure x := by intro _; rfl) :
    wpB b (model prog w) A (exec (.Assign [.Name y py] (.ListComp elt [⟨target, iter, ifs, 0⟩] scope pos) spos) env) Q E s :=
  wpB_Assign_ListComp hsw hclos hkind hnames hy hp h hs
end
end Mine
end

section
open PySem PySem.W PyProof.Rows PySem.Calls
set_option maxRecDepth 100000
namespace Mine
open Sem (wp)
theorem caller_nd : Nd (⟨.builtin "claim.caller" {}, none, none, [], none⟩ : Ctx) := ⟨by decide +kernel, fun _ hx => nomatch hx⟩
theorem endsB {prog : Program} {w : World} {t : Sem Fin} {s : Shared} {R : Result → Shared → Prop} (hreg : s.asleep)
    (h : wpB true (model prog w) callerA t (fun fin s' => ∃ f, fin = .done f ∧ (R (.ok f) s' ∧ leftWithCleanup s'.gens = false)) (fun e s' => R (.error e) s' ∧ leftWithCleanup s'.gens = false) s) :
    ∃ n r s' s'', runN (denote table) prog w n s ⟨t, .builtin "claim.caller" {}, default, []⟩ = .halted (outcomeOf r) s' ∧
      schedN (denote table) prog w n (.single s ⟨t, .builtin "claim.caller" {}, default, []⟩) = .halted (outcomeOf r) s' ∧ s'.forget = s''.forget ∧ R r s'' := by
  obtain ⟨n, r, s₁, s₂, hs, hn, hfo, hR⟩ := wp_halts_full (M := model prog w) (R := R) hreg
    (Sem.wp_mono (model prog w) _ t (fun fin p' s' h' => by obtain ⟨f, rfl, hf⟩ := h'; exact hf) (fun _ _ _ h' => h') default s (h _ default caller_in fun _ => caller_nd))
  exact ⟨n, r, s₂, s₁, hn, hs, hfo, hR⟩

theorem callFromB {c : ClaimW} {tree : List Value → Sem Fin} {w : World} {s : Shared} {free : Addr → Prop} {gens : Prop} {kept : Heap → Prop} (hz : s.asleep) (hgens : s.gens = #[])
    (hspec : ∀ args, c.pre args = true → WData.layableAll args = true →
      ∀ ord : List DictEntry → List DictEntry, (∀ l, (ord l).Perm l) →
      ∃ vs s₁, layAllW c.records (classAt s.heap) w.params ord args s = some (vs, s₁) ∧
        wpB true (model c.prog w) callerA (tree vs) (fun fin s' => ∃ f, fin = .done f ∧ (c.Ends s args vs s₁ (.ok f) s' ∧ s'.os = s.os ∧ AllBare s'.gens ∧ kept s'.heap)) (fun _ _ => False) s₁) :
    c.CallFrom (fun vs => ⟨tree vs, .builtin "claim.caller" {}, default, []⟩) w free gens kept s := by
  intro args hpre hlay ord hord
  obtain ⟨vs, s₁, hlaid, hcode⟩ := hspec args hpre hlay ord hord
  have hal := layAllW_rest _ _ _ hlaid
  obtain ⟨k, r, s', s'', hrun, hsched, hfo, hcase, hos, hkp⟩ := endsB (prog := c.prog) (w := w) (t := tree vs) (s := s₁) (R := fun r s' => c.Ends s args vs s₁ r s' ∧ s'.os = s.os ∧ kept s'.heap)
    (Shared.asleep_of_life hal.2.2.2 hz)
    (wpB_mono hcode (fun fin s' ⟨f, e, h1, h2, h3, h4⟩ => ⟨f, e, ⟨h1, h2, h4⟩, leftWithCleanup_false_of_bare h3⟩) fun _ _ f => f.elim)
  obtain ⟨eh, _, _, eo, _⟩ := Shared.forget_eq hfo
  have hcase := hcase.congr eh
  have hkp : kept s'.heap := by first | exact eh ▸ hkp | (rw [eh] at hkp; exact hkp) | (rw [← eh] at hkp; exact hkp)
  rw [← eo] at hos
  have hlife : s'.heap.life = s.heap.life := (runN_life _ _ _ hrun).trans hal.2.2.2
  refine ⟨vs, s₁, hlaid, k, _, s', hsched, ?_, (fun _ i x hx => by rw [hgens] at hx; simp at hx), hkp, by rw [hlife], Shared.rest_eq hos⟩
  rcases hcase with ⟨v, rfl, d1, d2, d3, d4, d5⟩ | ⟨e, ob, cls, rfl, d1, d2, d3, d4, d5⟩
  · exact .inl ⟨v, rfl, d1, d2, d3, fun b o y _ => d4 b o y, d5⟩
  · exact .inr ⟨e, ob, cls, rfl, d1, d2, d3, d4, fun b o y _ => d5 b o y⟩

/-- as the library's head; the walk need hold only where no decoder stands on the stack -/
theorem holdsB {r : OpenRow} {q : Program} {loose : List Str} {Xt : Shared → Bool} {XP : (Str → Option Value) → Heap → Prop} {α : Type} {Yf : Shared → α} {Ya : World → α} {YP : World → Heap → Prop} {d : DefRec} {kwd : List (Str × PySem.Expr)} {N : Nat}
    (left : LeftO r.prog q loose Xt Yf Ya N) (hY : ∀ w s, Yf s = Ya w → YP w s.heap) (hYk : ∀ w h h', YP w h → (∀ b o, h.get? b = some o → h'.get? b = some o) → YP w h')
    (hX : ∀ s, Xt s = true → XP (s.heap.nsMap mainGlobals) s.heap) (hXk : ∀ mg h h', XP mg h → (∀ b o, h.get? b = some o → h'.get? b = some o) → XP mg h')
    (hdef : defOf q r.name = some (d, kwd)) (hp : r.prog.theDef r.name = some (d.params, d.body, d.scope)) (hk : kwWritten? d.params.kwonlyargs d.params.kw_defaults = some kwd) (hRf : ∀ s, Xt s = true → RecFacts r.records s.heap) (hwr : (!r.writes || r.records.isEmpty) = true)
    (k1 : r.wellSaid = true) (ok : (chainsOk q && opensWell r.prog && (frees r.toRowW && r.within.isEmpty)) = true) (hb : r.prog.bare) (hw : r.toRowW.promised)
    (call : ∀ (w : World) (s₀ s₁ : Shared) (mg mb : Str → Option Value), Ground q loose r.records XP w s₀ mg mb s₁.heap → YP w s₁.heap → ∀ (f : Value), mg r.name = some f → ∀ (args : List WData) (vs : List Value) (as : List Addr),
      r.claim.pre args = true → WData.layableAll args = true → s₁.gens = #[] → ReadsAllW r.records (classAt s₀.heap) s₁.heap vs args as → WellAll w.params s₁.heap vs args → (∀ a ∈ as, (a == sysModules) = false) →
        wpB true (model r.prog w) callerA (PySem.call f vs) (fun v s' => GoodWG r.claim (classAt s₀.heap) (ExcName.means s₀.heap) args s₁ (.ok (.ret v)) s') (fun _ _ => False) s₁) : r.Holds := by
  obtain ⟨ok, k5⟩ := Bool.and_eq_true_iff.mp ok
  obtain ⟨hch, o1⟩ := Bool.and_eq_true_iff.mp ok
  obtain ⟨k5, k6⟩ := Bool.and_eq_true_iff.mp k5
  obtain ⟨hsame, hu, ha, hap, hm⟩ := frees_parts k5
  refine ⟨k1, hw, ⟨hb, o1, by show r.makers.map _ = []; rw [hm]; rfl⟩, hw.witness, fun w => ⟨(left.behind hX hch w).1, fun s' hs' => ?_⟩⟩
  obtain ⟨s₀, hf, hg0, s, hT, hz, hgens, hg, G00, y⟩ := (left.behind (XP := fun mg h => XP mg h ∧ RecFacts r.records h) (fun s hs => ⟨hX s hs, hRf s hs⟩) hch w).2 s' hs'
  have G0 : Ground q loose [] XP w s (s.heap.nsMap mainGlobals) (s.heap.nsMap builtinsNs) s.heap := ⟨G00.T, G00.B, G00.D, G00.TE, G00.TD, G00.W, G00.X.1, G00.cls, G00.has, G00.apart, G00.once, G00.K⟩
  have RF := G00.X.2
  have hT' := hT
  refine ⟨s₀, hf, hg0, s, hT, fun n hn => ?_, RF.1, RF.2.1, ?_⟩
  · obtain rfl : n = r.name := by split at hn <;> simp_all
    exact pinned_of_view hg G0 hdef hp hk
  have hgens : s.gens = #[] := Array.eq_empty_of_size_eq_zero (beq_iff_eq.mp hgens)
  have G : Ground q loose r.records XP w s _ _ s.heap := RF.ground G0
  refine callFromB (c := r.claim) hz hgens fun args hpre hlay ord hord => ?_
  obtain ⟨⟨vs, s₁⟩, hlaid⟩ := Option.isSome_iff_exists.mp (layAllW_isSome (P := w.params) (ord := ord) G.has args r.args s (pre_splitW hpre).1)
  have keeps := layAllW_keeps _ _ _ hlaid
  have hal := layAllW_rest _ _ _ hlaid
  obtain ⟨as, hrd, hin, hold⟩ := reads_layAllW hord _ _ _ hlaid hlay s₁.heap (fun _ _ e => e)
  have L : Laid r.records w s s₁ args vs as := ⟨⟨ord, hord, hlaid⟩, hrd, hin, hold, keeps, hal.1.trans hgens, hal.2.2.1⟩
  have G₁ := G.keeps hXk keeps
  obtain ⟨a, o, pm, cd, doc, dV, kV, h1, h2, h3, h4, h5⟩ := G₁.fn hdef
  have h := call w s s₁ _ _ G₁ (hYk _ _ _ (hY w s y) keeps) (.ref a) h1 args vs as hpre hlay L.gens L.reads L.well (L.low G.low)
  have hi := ident_freeW hu ha hap
  have hwi : r.claim.within = [] := List.isEmpty_iff.mp k6
  refine ⟨vs, s₁, hlaid, ?_⟩
  refine wpB_bindA (wpAny_nsGet G₁.T.g ?_)
  rw [h1]
  refine wpB_bind (wpB_mono h (fun v s' g => wpB_pure ⟨_, rfl, ?_⟩) fun _ _ f => f)
  have z := g.laid (c := r.claim) hsame hwi hi L
  exact ⟨z.1, z.2.1, z.2.2, fun q => ⟨namesKept_of hT' hg _ keeps g.2.1.old, noTable hwr q⟩⟩
end Mine
end

section
open PySem PySem.W PyProof.Rows
namespace Mine
set_option maxRecDepth 100000 in
set_option maxHeartbeats 8000000 in
open_top hd for PySem.Challenge.rw_pe0015_02
end Mine
end

section
open PySem PySem.W PyProof.Rows PySem.Calls PySem.Spec
set_option maxRecDepth 100000
namespace Mine

theorem dummy : (PySem.Challenge.rw_pe0015_02, hd.heap_39) = (PySem.Challenge.rw_pe0015_02, hd.heap_39) := by
  k_fill
  rfl

/-- the ground: the top's objects and names -/
def Gd (w : World) (h : Heap) : Prop := (hd.heap_39 w.params).In h ∧ ∃ mean mg mb, Top hd.view_39 (looseW hd.view_39 []) mean mg mb h
theorem Gd.keeps {w : World} {h h' : Heap} (G : Gd w h) (hk : Kp h h') : Gd w h' := by
  obtain ⟨X, mean, mg, mb, T⟩ := G
  exact ⟨X.keeps hk, mean, mg, mb, T.keeps hk⟩

set_option maxHeartbeats 4000000 in
theorem gen_crc {w : World} {A : Around} {s : Shared} {Q E : Value → Shared → Prop}
    (G : Gd w s.heap) (hroom : A.depth < recursionLimit) (hh : A.handled = none)
    (n : Int) (t : Tok)
    (hQ : ∀ h' tk t', Kp s.heap h' → Q (.int (crc8 n) t') { s with heap := h', toks := tk }) :
    wpAny (model PySem.Challenge.pw_pe0015_02 w) A (call (.ref 21) [.int n t]) Q E s := by
  obtain ⟨X, mean, mg, mb, T⟩ := G
  refine wpAny_call ?_
  k_dflt (refine' enterP (binds := [(Str.ofString "crc", Value.int n t)]) X T ?k6 ?k7 hroom ?k9 ?kB ?_ ?c2 ?c3 ?c4 ?c5; (case k6 => k_is); (case k7 => k_is); (case k9 => exact BindsTo.of_eq rfl); (case kB => exact locs rfl); (case c2 => exact rfl); (case c3 => exact rfl); (case c4 => exact rfl); (case c5 => decide))
  intro L' h' F' N'
  k_steps
  rename IsRange _ _ _ _ _ _ _ _ => rg
  rename Fr _ _ _ _ => F
  rename News _ _ _ _ => N
  with_unfolding_all refine kpr_n1 (n := 8) (y := Str.ofString "crc") [] (fun a _ => crcStep a) hh rg (by decide) (by decide) F N (by rfl) (fun k' t' a' ta' u' h' tk' own' hlo hhi hoff F' N' => ?_) ?_
  · k_steps
    all_goals
      ((refine InvEndN.intro (by assumption) (by assumption) ⟨rfl, kpf_int ?kpe (by with_unfolding_all rfl), by kpf_same3⟩ (by rfl) (by (with_unfolding_all ((try simp only [List.nil_append, List.cons_append]); kst_allIn))) (by (intro p hp; first | k_ownIn | kst_mem)));
       (case kpe => first | exact crcStep_odd (by assumption) | exact crcStep_even (by assumption)))
  · unfold KPfDone
    intro u t' h'' tk F' N'
    clear F N
    k_steps
    exact hQ _ _ _ F'.keep
end Mine
end

section
open PySem PySem.W PyProof.Rows PySem.Calls PySem.Spec
set_option maxRecDepth 100000
namespace Mine
theorem dummy2 : (PySem.Challenge.rw_pe0015_02, hd.heap_39) = (PySem.Challenge.rw_pe0015_02, hd.heap_39) := by
  k_fill
  rfl
def fedStep (a k : Int) : Int := Builtin.bitXor (a / 256) (crc8 (Builtin.bitXor a k % 256))
def fedF (t : Int) (ks : List Int) : Int := ks.foldl fedStep t
theorem fedStep_is (a k : Int) : fedStep a k = Builtin.bitXor (a.fdiv 256) (crc8 ((Builtin.bitXor a k).fmod 256)) := by
  unfold fedStep
  rw [Int.fdiv_eq_ediv_of_nonneg _ (by decide), Int.fmod_eq_emod_of_nonneg _ (by decide)]

set_option maxHeartbeats 4000000 in
theorem law_fed {w : World} {A : Around} {s : Shared} {Q E : Value → Shared → Prop}
    (G : Gd w s.heap) (hroom : A.depth + 1 < recursionLimit) (hh : A.handled = none)
    (n : Int) (t : Tok) (b : Array UInt8) (tb : Tok)
    (hQ : ∀ h' tk t', Kp s.heap h' → Q (.int (fedF n (KBw.bInts b)) t') { s with heap := h', toks := tk }) :
    wpAny (model PySem.Challenge.pw_pe0015_02 w) A (call (.ref 50) [.int n t, .bytes b tb]) Q E s := by
  have G0 := G
  obtain ⟨X, mean, mg, mb, T⟩ := G
  refine wpAny_call ?_
  k_dflt (refine' enterP (binds := [(Str.ofString "total", Value.int n t), (Str.ofString "octets", Value.bytes b tb)]) X T ?k6 ?k7 (by omega) ?k9 ?kB ?_ ?c2 ?c3 ?c4 ?c5; (case k6 => k_is); (case k7 => k_is); (case k9 => exact BindsTo.of_eq rfl); (case kB => exact locs rfl); (case c2 => exact rfl); (case c3 => exact rfl); (case c4 => exact rfl); (case c5 => decide))
  intro L' h' F' N'
  k_steps
  rename Fr _ _ _ _ => F
  rename News _ _ _ _ => N
  with_unfolding_all refine KBw.iterBytes_acc1 (y := Str.ofString "total") fedStep rfl hh F N (by rfl) (fun k' t' a' ta' h' tk' own' hm hlo hhi hoff F' N' => ?_) ?_
  · k_steps
    rename Fr _ _ _ _ => F1
    rename News _ _ _ _ => N1
    refine gen_crc ?kG ?kr ?kh _ _ ?_
    case kG => exact G0.keeps F1.keep
    case kr => exact hroom
    case kh => exact hh
    intro h2 tk2 t2 hk2
    have F2 := F1.keeps hk2
    have N2 := N1.grown hk2
    clear F1 N1
    dsimp only
    k_steps
    all_goals
      ((refine InvEndN.intro (by assumption) (by assumption) ⟨rfl, kpf_int ?kpe (by with_unfolding_all rfl), ?kps⟩ (by rfl) (by (with_unfolding_all ((try simp only [List.nil_append, List.cons_append]); kst_allIn))) (by (intro p hp; first | k_ownIn | kst_mem)));
       (case kpe => exact fedStep_is _ _); (case kps => intro z h1 h2; simp [h1, h2]))
  · intro u t' h'' tk F' N'
    clear F N
    k_steps
    exact hQ _ _ _ F'.keep
end Mine
end

section
open PySem PySem.W PyProof.Rows PySem.Calls
set_option maxRecDepth 100000
namespace Mine
theorem dummy3 : (PySem.Challenge.rw_pe0015_02, hd.heap_39) = (PySem.Challenge.rw_pe0015_02, hd.heap_39) := by
  k_fill
  rfl
set_option maxHeartbeats 4000000 in
theorem byteswap {w : World} {A : Around} {s : Shared} {Q E : Value → Shared → Prop}
    (G : Gd w s.heap) (hroom : A.depth < recursionLimit) (hh : A.handled = none) (hg : A.guards = some [])
    (d : Array UInt8) (td : Tok) (wd q : Nat) (tw : Tok) (hw : 1 ≤ wd) (hw' : wd ≤ 1000) (hd : d.size = q * wd) (hs : d.size ≤ 1000)
    (hQ : ∀ h' tk t', Kp s.heap h' → Q (.bytes (swapF d wd q) t') { s with heap := h', toks := tk }) :
    wpB true (model PySem.Challenge.pw_pe0015_02 w) A (call (.ref 28) [.bytes d td, .int wd tw]) Q E s := by
  obtain ⟨X, mean, mg, mb, T⟩ := G
  refine wpB_call ?_
  k_dflt (refine' enterPB (binds := [(Str.ofString "data", Value.bytes d td), (Str.ofString "width", Value.int wd tw)]) X T ?k6 ?k7 hroom ?k9 ?kB ?_ ?c2 ?c3 ?c4 ?c5; (case k6 => k_is); (case k7 => k_is); (case k9 => exact BindsTo.of_eq rfl); (case kB => exact locs rfl); (case c2 => exact rfl); (case c3 => exact rfl); (case c4 => exact rfl); (case c5 => decide))
  intro L h₁ F N
  refine wpB_execs_cons (wpB_Assign_Name (wpB_Call ?_))
  k_steps
  refine wpB_callWith_type ?_
  k_steps
  refine call_bytearray' hg (by omega) (by omega) fun a h' hn ha hk => ?_
  rename Fr _ _ _ _ => F1
  rename News _ _ _ _ => N1
  have F2 := F1.keeps hk
  have N2 := newsAdd F1 N1 hk hn ha
  clear F1 N1
  dsimp only at *
  k_steps
  refine wpB_of ?_
  k_steps
  rename Fr _ _ _ _ => F4
  rename News _ _ _ _ => N4
  rename IsRange _ _ _ _ _ _ _ _ => rg
  with_unfolding_all refine rangeC_inv (n := q) (fun k m nx => nx = [(a, baObj (swapF d wd k))] ∧ ∀ z, z ≠ Str.ofString "i" → z ≠ Str.ofString "j" → m z = (fun y => if y = Str.ofString "swapped_data" then some (Value.ref a) else List.lookup y [(Str.ofString "data", Value.bytes d td), (Str.ofString "width", Value.int (↑wd) tw)].reverse) z) hh rg (small_step (by omega) (by omega) (by omega) (by omega)) (by rw [hd]; exact size_step q wd hw) F4 N4 ⟨by simp [swapF], fun _ _ _ => rfl⟩ (fun i t m₁ nx h tk own hi hadr hoff hJ F' N' => ?_) (fun m₁ nx h tk hJ F' N' => ?_)
  · obtain ⟨rfl, hm⟩ := hJ
    rw [map2 hm] at F'
    clear F4 N4
    have hiw : (i + 1) * wd ≤ q * wd := Nat.mul_le_mul_right wd hi
    rw [Nat.add_mul, Nat.one_mul, ← hd] at hiw
    have hcast : (0 : Int) + (i : Int) * (wd : Int) = ((i * wd : Nat) : Int) := by rw [Int.natCast_mul, Int.zero_add]
    rw [hcast] at F'
    generalize hiwe : i * wd = iw at hiw F'
    k_steps
    rename Fr _ _ _ _ => F5
    rename News _ _ _ _ => N5
    rename IsRange _ _ _ _ _ _ _ _ => rg2
    with_unfolding_all refine rangeC_inv (n := wd) (fun k m nx => nx = [(a, baObj (swapW d iw wd (swapF d wd i) k))] ++ own ∧ ∀ z, z ≠ Str.ofString "j" → m z = (fun z => if z = Str.ofString "i" then some (Value.int iw t) else if z = Str.ofString "swapped_data" then some (Value.ref a) else List.lookup z [(Str.ofString "data", Value.bytes d td), (Str.ofString "width", Value.int (↑wd) tw)].reverse) z) hh rg2 (small_one (by omega) (by omega) (by omega) (by omega)) (by rw [rangeSize_one, if_pos (by omega)]; omega) F5 N5 ⟨rfl, ?kj⟩ (fun j tj m₂ nx h2 tk2 own2 hj hadr2 hoff2 hJ2 F6 N6 => ?_) (fun m₂ nx h2 tk2 hJ2 F6 N6 => ?_)
    case kj =>
      intro z hz
      dsimp only
      split <;> rfl
    · obtain ⟨rfl, hm2⟩ := hJ2
      rw [map1 hm2] at F6
      clear F5 N5
      have hc2 : (0 : Int) + (j : Int) * 1 = (j : Int) := by omega
      rw [hc2] at F6
      k_steps
      with_unfolding_all refine KBy.item_N (x := d.toList) (by rw [Array.length_toList]; omega) (by omega) (by rw [Array.length_toList]; omega) ?_
      k_steps
      rename Fr _ _ _ _ => F7
      rename News _ _ _ _ => N7
      have hmem : (a, baObj (swapW d iw wd (swapF d wd i) j)) ∈ [(a, baObj (swapW d iw wd (swapF d wd i) j))] ++ own ++ own2 := by simp
      have hsz : (swapW d iw wd (swapF d wd i) j).size = d.size := by rw [swapW_size, swapF_size]
      have hoo : ∀ p ∈ own ++ own2, p.1 ≠ a := by
        intro p hp
        rcases List.mem_append.mp hp with hp | hp
        · exact hoff p hp a (by simp)
        · exact hoff2 p hp a (by simp)
      have hb8 := (d.toList.getD (iw + j : Int).toNat 0).toNat_lt
      refine setItem_ba (N7.get hmem) (by omega) (by omega) (by omega) (by omega) (by omega) (by rw [sizeLine_eq]; omega) ?_
      intro h8 h9 h10
      have F8 := F7.update N7 hmem h10
      rw [List.append_assoc] at N7
      have N8 := N7.setAt (own := []) (fun _ h => nomatch h) hoo h10 h9
      clear F7 N7
      refine wpAny_execs_nil ?_
      refine InvEndN.intro (nx := [(a, baObj (swapW d iw wd (swapF d wd i) (j + 1)))] ++ own) F8 N8 ⟨rfl, ?_⟩ ?_ ?_ ?_
      · intro z hz
        simp [hz]
      · simp
      · intro p hp
        rcases List.mem_append.mp hp with hp | hp
        · rw [List.mem_singleton.mp hp]
          rw [← swap_eq d iw wd j _ hj]
          exact List.Mem.head _
        · simp [hp]
      · intro p hp
        simp [hp]
    · obtain ⟨rfl, hm2⟩ := hJ2
      clear F5 N5
      k_steps
      rename Fr _ _ _ _ => F7
      rename News _ _ _ _ => N7
      refine InvEndN.intro (nx := [(a, baObj (swapF d wd (i + 1)))]) F7 N7 ⟨rfl, ?_⟩ rfl ?_ ?_
      · intro z h1 h2
        rw [hm2 z h2]
        simp [h1]
      · intro p hp
        rw [List.mem_singleton.mp hp, swapF, hiwe]
        simp
      · intro p hp
        simp [hp]
  · obtain ⟨rfl, hm⟩ := hJ
    rw [map2' hm] at F'
    clear F4 N4
    k_steps
    rename Fr _ _ _ _ => F5
    rename News _ _ _ _ => N5
    refine call_bytes_ba (N5.get (.head _)) (by rw [swapF_size, sizeLine_eq]; omega) ?_
    exact hQ _ _ _ F5.keep
end Mine
end

section
open PySem PySem.W PyProof.Rows PySem.Calls
set_option maxRecDepth 100000
namespace Mine
theorem dummy4 : (PySem.Challenge.rw_pe0015_02, hd.heap_39) = (PySem.Challenge.rw_pe0015_02, hd.heap_39) := by
  k_fill
  rfl
local macro_rules | `(tactic| walk_at "eval Name") => `(tactic| (with_reducible show wpAny _ _ (eval (Expr.Name _ _) (cenvX _ _ _ _)) _ _ _; first
  | with_unfolding_all refine nmL (by with_reducible assumption) (by with_reducible assumption) ?_
  | with_unfolding_all refine nmC (by rfl) (by with_reducible assumption) ?_
  | (k_dflt (refine' nmG ?X ?T ?e ?_ ?a ?b ?c ?d; (case X => with_reducible assumption); (case T => with_reducible assumption); (case a => rfl); (case b => rfl); (case c => rfl); (case d => decide); (case e => k_is)))
  | (k_dflt (refine' nmB ?X ?T ?e ?v ?n ?_ ?a ?a2 ?b ?c ?d; (case X => with_reducible assumption); (case T => with_reducible assumption); (case a => rfl); (case a2 => rfl); (case b => rfl); (case c => rfl); (case d => decide); (case e => k_is); (case v => boot_fast); (case n => decide)))))
set_option maxHeartbeats 4000000 in
theorem law_octets {w : World} {A : Around} {s : Shared} {Q E : Value → Shared → Prop}
    (G : Gd w s.heap) (hroom : A.depth < recursionLimit) (hh : A.handled = none)
    (n : Nat) (t : Tok)
    (hQ : ∀ h' tk t', Kp s.heap h' → Q (.bytes (oct4 n).toArray t') { s with heap := h', toks := tk }) :
    wpAny (model PySem.Challenge.pw_pe0015_02 w) A (call (.ref 43) [.int n t]) Q E s := by
  obtain ⟨X, mean, mg, mb, T⟩ := G
  refine wpAny_call ?_
  k_dflt (refine' enterC (binds := [(Str.ofString "number", Value.int n t)]) X T ?k6 ?k7 hroom ?k9 ?kB ?kD ?_ ?c2 ?c3 ?c4; (case k6 => k_is); (case k7 => k_is); (case k9 => exact BindsTo.of_eq rfl); (case kB => exact rfl); (case kD => decide +kernel); (case c2 => exact rfl); (case c3 => exact rfl); (case c4 => exact rfl))
  intro L h₁ tk cells F N Y
  k_cells Y
  dsimp only at *
  refine wpAny_of_wpB (wpB_execs_cons (wpB_Return (wpB_Call ?_)))
  k_steps
  refine callWithB_type (wpB_args_cons ?_)
  with_unfolding_all refine wpB_ListComp (cl := [(Str.ofString "number", L + 1)]) (by rfl) (by rfl) (by decide) ?_
  rename Fr _ _ _ _ => F0
  rename News _ _ _ _ => N0
  rename Obj.data _ = _ => d1
  have kF := F0.keep
  have c1 : h₁.IsCell (L + 1) (some (.int n t)) := ⟨_, N0.get (.head _), d1⟩
  refine wpB_of ?_
  k_steps
  rename IsRange _ _ _ _ _ _ _ _ => rg
  rename (∀ b o, _ → _) => hk1
  with_unfolding_all refine comp_range (n := 4) hh rg (by decide) (by decide) (by decide) (TgL (Str.ofString "k")) (fun i y own => own = [] ∧ ∃ t, y = .int ((n / 256 ^ i % 256 : Nat) : Int) t) (fun _ _ _ _ _ _ h => wpAny_pure h) (tg_local (by rfl) (by rfl)) ?_ ?_
  · rintro C i tt h₃ tk₃ hC hi ⟨m, hm, hmx⟩ hk
    have c2 : h₃.IsCell (L + 1) (some (.int n t)) := (c1.keeps hk1).keeps hk
    have h4 : i = 0 ∨ i = 1 ∨ i = 2 ∨ i = 3 := by omega
    refine elt_any ?_
    rcases h4 with rfl | rfl | rfl | rfl
    · rw [show (0 : Int) + ((0 : Nat) : Int) * 1 = 0 from by decide] at hmx
      k_steps
      exact EltEnd.plain (fun _ _ e => e) ⟨rfl, _, by rw [octEq n 0 rfl]⟩
    · rw [show (0 : Int) + ((1 : Nat) : Int) * 1 = 1 from by decide] at hmx
      k_steps
      exact EltEnd.plain (fun _ _ e => e) ⟨rfl, _, by rw [octEq n 1 rfl]⟩
    · rw [show (0 : Int) + ((2 : Nat) : Int) * 1 = 2 from by decide] at hmx
      k_steps
      exact EltEnd.plain (fun _ _ e => e) ⟨rfl, _, by rw [octEq n 2 rfl]⟩
    · rw [show (0 : Int) + ((3 : Nat) : Int) * 1 = 3 from by decide] at hmx
      k_steps
      exact EltEnd.plain (fun _ _ e => e) ⟨rfl, _, by rw [octEq n 3 rfl]⟩
  · intro D h' tk' k rows hc
    obtain ⟨r0, r1, r2, r3, rfl⟩ := four_of hc.len
    obtain ⟨-, t0, e0⟩ := hc.each 0 r0 rfl
    obtain ⟨-, t1, e1⟩ := hc.each 1 r1 rfl
    obtain ⟨-, t2, e2⟩ := hc.each 2 r2 rfl
    obtain ⟨-, t3, e3⟩ := hc.each 3 r3 rfl
    have hl := hc.lst
    simp only [List.map_cons, List.map_nil, e0, e1, e2, e3] at hl
    refine wpB_args_nil ?_
    refine wpB_of (call_bytes_ints (ns := [((n / 256 ^ 0 % 256 : Nat) : Int), ((n / 256 ^ 1 % 256 : Nat) : Int), ((n / 256 ^ 2 % 256 : Nat) : Int), ((n / 256 ^ 3 % 256 : Nat) : Int)]) ⟨_, hl, rfl, _, rfl⟩ (by repeat constructor) ?_ (by rw [sizeLine_eq]; exact Nat.le_of_ble_eq_true rfl) hh ?_)
    · intro x hx
      simp only [List.mem_cons, List.not_mem_nil, or_false] at hx
      omega
    · intro h2 t2 k2 hk2
      have e : byteArr [((n / 256 ^ 0 % 256 : Nat) : Int), ((n / 256 ^ 1 % 256 : Nat) : Int), ((n / 256 ^ 2 % 256 : Nat) : Int), ((n / 256 ^ 3 % 256 : Nat) : Int)] = (oct4 n).toArray := by
        rfl
      rw [e]
      refine hQ _ _ _ fun x o he => hk2 x o (hc.keep x o (hk1 x o (kF x o he)))
end Mine
end

section
open PySem PySem.W PyProof.Rows PySem.Calls
set_option maxRecDepth 100000
namespace Mine
theorem dummy5 : (PySem.Challenge.rw_pe0015_02, hd.heap_39) = (PySem.Challenge.rw_pe0015_02, hd.heap_39) := by
  k_fill
  rfl
local macro_rules | `(tactic| walk_at "eval Name") => `(tactic| (with_reducible show wpAny _ _ (eval (Expr.Name _ _) (cenvX _ _ _ _)) _ _ _; first
  | with_unfolding_all refine nmL (by with_reducible assumption) (by with_reducible assumption) ?_
  | with_unfolding_all refine nmC (by rfl) (by with_reducible assumption) ?_
  | (k_dflt (refine' nmG ?X ?T ?e ?_ ?a ?b ?c ?d; (case X => with_reducible assumption); (case T => with_reducible assumption); (case a => rfl); (case b => rfl); (case c => rfl); (case d => decide); (case e => k_is)))
  | (k_dflt (refine' nmB ?X ?T ?e ?v ?n ?_ ?a ?a2 ?b ?c ?d; (case X => with_reducible assumption); (case T => with_reducible assumption); (case a => rfl); (case a2 => rfl); (case b => rfl); (case c => rfl); (case d => decide); (case e => k_is); (case v => boot_fast); (case n => decide)))))
/-- a list of four ints -/
def Four (h : Heap) (l : Addr) (a b c d : Int) : Prop := ∃ ta tb tc td, h.IsList l [Value.int a ta, .int b tb, .int c tc, .int d td].toArray
theorem Four.keeps {h h' : Heap} {l : Addr} {a b c d : Int} (f : Four h l a b c d) (hk : Kp h h') : Four h' l a b c d :=
  let ⟨ta, tb, tc, td, hl⟩ := f; ⟨ta, tb, tc, td, hl.at fun o e => hk _ o e⟩
set_option maxHeartbeats 4000000 in
theorem law_number {w : World} {A : Around} {s : Shared} {Q E : Value → Shared → Prop}
    (G : Gd w s.heap) (hroom : A.depth < recursionLimit) (hh : A.handled = none)
    (l : Addr) (a0 a1 a2 a3 : Int) (hl : Four s.heap l a0 a1 a2 a3)
    (hQ : ∀ h' tk t', Kp s.heap h' → Q (.int (a0 + a1 * 256 + a2 * 65536 + a3 * 16777216) t') { s with heap := h', toks := tk }) :
    wpAny (model PySem.Challenge.pw_pe0015_02 w) A (call (.ref 38) [.ref l]) Q E s := by
  obtain ⟨X, mean, mg, mb, T⟩ := G
  obtain ⟨t0, t1, t2, t3, hl⟩ := hl
  refine wpAny_call ?_
  k_dflt (refine' enterC (binds := [(Str.ofString "octets", Value.ref l)]) X T ?k6 ?k7 hroom ?k9 ?kB ?kD ?_ ?c2 ?c3 ?c4; (case k6 => k_is); (case k7 => k_is); (case k9 => exact BindsTo.of_eq rfl); (case kB => exact rfl); (case kD => decide +kernel); (case c2 => exact rfl); (case c3 => exact rfl); (case c4 => exact rfl))
  intro L h₁ tk cells F N Y
  k_cells Y
  dsimp only at *
  refine wpAny_of_wpB (wpB_execs_cons (wpB_Return (wpB_Call ?_)))
  k_steps
  refine callWithB_builtin (wpB_args_cons ?_)
  with_unfolding_all refine wpB_ListComp (cl := [(Str.ofString "octets", L + 1)]) (by rfl) (by rfl) (by decide) ?_
  rename Fr _ _ _ _ => F0
  rename News _ _ _ _ => N0
  rename Obj.data _ = _ => d1
  have kF := F0.keep
  have c1 : h₁.IsCell (L + 1) (some (.ref l)) := ⟨_, N0.get (.head _), d1⟩
  refine wpB_of ?_
  k_steps
  rename IsRange _ _ _ _ _ _ _ _ => rg
  rename (∀ b o, _ → _) => hk1
  with_unfolding_all refine comp_range (n := 4) hh rg (by decide) (by decide) (by decide) (TgL (Str.ofString "k")) (fun i y own => own = [] ∧ ∃ t, y = .int ([a0, a1, a2, a3].getD i 0 * 256 ^ i) t) (fun _ _ _ _ _ _ h => wpAny_pure h) (tg_local (by rfl) (by rfl)) ?_ ?_
  · rintro C i tt h₃ tk₃ hC hi ⟨m, hm, hmx⟩ hk
    have c2 : h₃.IsCell (L + 1) (some (.ref l)) := (c1.keeps hk1).keeps hk
    have hl2 : h₃.IsList l [Value.int a0 t0, .int a1 t1, .int a2 t2, .int a3 t3].toArray := hl.at fun o e => hk _ o (hk1 _ o (kF _ o e))
    have h4 : i = 0 ∨ i = 1 ∨ i = 2 ∨ i = 3 := by omega
    refine elt_any ?_
    rcases h4 with rfl | rfl | rfl | rfl
    · rw [show (0 : Int) + ((0 : Nat) : Int) * 1 = 0 from by decide] at hmx
      k_steps
      exact EltEnd.plain (fun _ _ e => e) ⟨rfl, _, rfl⟩
    · rw [show (0 : Int) + ((1 : Nat) : Int) * 1 = 1 from by decide] at hmx
      k_steps
      exact EltEnd.plain (fun _ _ e => e) ⟨rfl, _, rfl⟩
    · rw [show (0 : Int) + ((2 : Nat) : Int) * 1 = 2 from by decide] at hmx
      k_steps
      exact EltEnd.plain (fun _ _ e => e) ⟨rfl, _, rfl⟩
    · rw [show (0 : Int) + ((3 : Nat) : Int) * 1 = 3 from by decide] at hmx
      k_steps
      exact EltEnd.plain (fun _ _ e => e) ⟨rfl, _, rfl⟩
  · intro D h' tk' k rows hc
    obtain ⟨r0, r1, r2, r3, rfl⟩ := four_of hc.len
    obtain ⟨-, u0, e0⟩ := hc.each 0 r0 rfl
    obtain ⟨-, u1, e1⟩ := hc.each 1 r1 rfl
    obtain ⟨-, u2, e2⟩ := hc.each 2 r2 rfl
    obtain ⟨-, u3, e3⟩ := hc.each 3 r3 rfl
    have hlD := hc.lst
    simp only [List.map_cons, List.map_nil, e0, e1, e2, e3] at hlD
    refine wpB_args_nil ?_
    refine wpB_of (call_sum_list (ns := [a0 * 256 ^ 0, a1 * 256 ^ 1, a2 * 256 ^ 2, a3 * 256 ^ 3]) hh ⟨_, hlD, rfl, _, rfl⟩ (by repeat constructor) ?_)
    intro h2 tk2 t2 hk2
    have e : ([a0 * 256 ^ 0, a1 * 256 ^ 1, a2 * 256 ^ 2, a3 * 256 ^ 3] : List Int).sum = a0 + a1 * 256 + a2 * 65536 + a3 * 16777216 := by
      simp only [List.sum_cons, List.sum_nil]
      omega
    rw [e]
    exact hQ _ _ _ fun x o he => hk2 x o (hc.keep x o (hk1 x o (kF x o he)))
end Mine
end

section
open PySem PySem.W PyProof.Rows PySem.Calls
set_option maxRecDepth 100000
namespace Mine
theorem dummy6 : (PySem.Challenge.rw_pe0015_02, hd.heap_39) = (PySem.Challenge.rw_pe0015_02, hd.heap_39) := by
  k_fill
  rfl
def backStep (n : Int) : Int := if 2147483648 ≤ n then Builtin.bitXor n 3988292384 * 2 + 1 else n * 2
def backF (n : Int) : Int := (rangeKs 0 32).foldl (fun a _ => backStep a) n
set_option maxHeartbeats 4000000 in
theorem law_back {w : World} {A : Around} {s : Shared} {Q E : Value → Shared → Prop}
    (G : Gd w s.heap) (hroom : A.depth < recursionLimit) (hh : A.handled = none)
    (n : Int) (t : Tok)
    (hQ : ∀ h' tk t', Kp s.heap h' → Q (.int (backF n) t') { s with heap := h', toks := tk }) :
    wpAny (model PySem.Challenge.pw_pe0015_02 w) A (call (.ref 57) [.int n t]) Q E s := by
  obtain ⟨X, mean, mg, mb, T⟩ := G
  refine wpAny_call ?_
  k_dflt (refine' enterP (binds := [(Str.ofString "total", Value.int n t)]) X T ?k6 ?k7 hroom ?k9 ?kB ?_ ?c2 ?c3 ?c4 ?c5; (case k6 => k_is); (case k7 => k_is); (case k9 => exact BindsTo.of_eq rfl); (case kB => exact locs rfl); (case c2 => exact rfl); (case c3 => exact rfl); (case c4 => exact rfl); (case c5 => decide))
  intro L' h' F' N'
  k_steps
  rename IsRange _ _ _ _ _ _ _ _ => rg
  rename Fr _ _ _ _ => F
  rename News _ _ _ _ => N
  with_unfolding_all refine kpr_n1 (n := 32) (y := Str.ofString "total") [] (fun a _ => backStep a) hh rg (by decide) (by decide) F N (by rfl) (fun k' t' a' ta' u' h' tk' own' hlo hhi hoff F' N' => ?_) ?_
  · k_steps
  · unfold KPfDone
    intro u t' h'' tk F' N'
    clear F N
    k_steps
    exact hQ _ _ _ F'.keep
end Mine
end

section
open PySem PySem.W PyProof.Rows PySem.Calls
set_option maxRecDepth 100000
namespace Mine
theorem dummy7 : (PySem.Challenge.rw_pe0015_02, hd.heap_39) = (PySem.Challenge.rw_pe0015_02, hd.heap_39) := by
  k_fill
  rfl
local macro_rules | `(tactic| walk_at "eval Name") => `(tactic| (with_reducible show wpAny _ _ (eval (Expr.Name _ _) (cenvX _ _ _ _)) _ _ _; first
  | with_unfolding_all refine nmL (by with_reducible assumption) (by with_reducible assumption) ?_
  | with_unfolding_all refine nmC (by rfl) (by with_reducible assumption) ?_
  | (k_dflt (refine' nmG ?X ?T ?e ?_ ?a ?b ?c ?d; (case X => with_reducible assumption); (case T => with_reducible assumption); (case a => rfl); (case b => rfl); (case c => rfl); (case d => decide); (case e => k_is)))
  | (k_dflt (refine' nmB ?X ?T ?e ?v ?n ?_ ?a ?a2 ?b ?c ?d; (case X => with_reducible assumption); (case T => with_reducible assumption); (case a => rfl); (case a2 => rfl); (case b => rfl); (case c => rfl); (case d => decide); (case e => k_is); (case v => boot_fast); (case n => decide)))))
/-- a list of four octets -/
def Row4 (h : Heap) (l : Addr) : Prop := ∃ a b c d : Nat, a < 256 ∧ b < 256 ∧ c < 256 ∧ d < 256 ∧ Four h l a b c d
def DrawnJ (s : Shared) (L R D I : Addr) (ws : List Value) (i : Nat) (h' : Heap) : Prop :=
  ∃ (m : Str → Option Value) (oc : Obj) (k : Nat) (ro : List (Addr × Obj)) (rs : List Addr), Fr s.heap L h' m ∧ m (Str.ofString "rows") = some (.ref R) ∧ News s.heap L h' ((D, listOf ws.toArray 0) :: (R, lsObj (rs.map Value.ref) k) :: (L + 1, oc) :: ro) ∧ (∃ o, oc.data = .cell o) ∧ rs.length = i ∧
    (∀ r ∈ rs, ∃ (a b c d : Nat) (ta tb tc td : Tok) (n : Nat), a < 256 ∧ b < 256 ∧ c < 256 ∧ d < 256 ∧ (r, lsObj [Value.int a ta, .int b tb, .int c tc, .int d td] n) ∈ ro) ∧ (∀ p ∈ ro, p.1 ≠ R ∧ p.1 ≠ L + 1 ∧ p.1 ≠ I)
set_option maxHeartbeats 4000000 in
theorem law_drawn {w : World} {A : Around} {s : Shared} {Q E : Value → Shared → Prop}
    (G : Gd w s.heap) (hroom : A.depth < recursionLimit) (hh : A.handled = none)
    (l : Addr) (vs : List Value) (ns : List Int) (hl : s.heap.IsList l vs.toArray) (hi : IntsAre vs ns) (hlen : ns.length ≤ 63)
    (hQ : ∀ h' tk D k (rs : List Addr), Kp s.heap h' → s.heap.get? D = none → h'.get? D = some (lsObj (rs.map Value.ref) k) → rs.length ≤ 3 → (∀ r ∈ rs, Row4 h' r ∧ s.heap.get? r = none) → Q (.ref D) { s with heap := h', toks := tk }) :
    wpAny (model PySem.Challenge.pw_pe0015_02 w) A (call (.ref 33) [.ref l]) Q E s := by
  obtain ⟨X, mean, mg, mb, T⟩ := G
  obtain ⟨hd', dp, fr, gd, un⟩ := A
  obtain rfl : hd' = none := hh
  refine wpAny_call ?_
  k_dflt (refine' enterC (binds := [(Str.ofString "script", Value.ref l)]) X T ?k6 ?k7 hroom ?k9 ?kB ?kD ?_ ?c2 ?c3 ?c4; (case k6 => k_is); (case k7 => k_is); (case k9 => exact BindsTo.of_eq rfl); (case kB => exact rfl); (case kD => decide +kernel); (case c2 => exact rfl); (case c3 => exact rfl); (case c4 => exact rfl))
  intro L h₁ tk cells F N Y
  k_cells Y
  dsimp only at *
  k_steps
  refine wpAny_of_wpB (wpB_For ?_)
  refine wpB_of ?_
  k_steps
  rename Fr _ _ _ _ => F1
  rename News _ _ _ (_ :: _) => N1
  rename IntsAre _ (_ ++ _) => hi1
  rename_i oc dc R h4 l13 h3 D1 ws1 h2 hI1 hC1 hL1 l12 l2 h11 l11 D ws h l1
  have hks : (List.take 1 ns ++ [269223940, 7189]).length ≤ 3 := by
    rw [List.length_append, List.length_take]
    simp only [List.length_cons, List.length_nil]
    omega
  generalize hke : List.take 1 ns ++ [269223940, 7189] = ks at hi1 hks
  clear hke
  have hiL := IntsAre.length hi1
  have N2 : News s.heap L h ((D, listOf ws.toArray 0) :: (R, lsObj [] 0) :: (L + 1, oc) :: []) := fun p hp => N1 p (by
    simp only [List.mem_cons, List.not_mem_nil, or_false] at hp ⊢
    rcases hp with h | h | h <;> simp [h])
  have hDR : D ≠ R := Nat.ne_of_gt l1.2.2.1
  have hDc : D ≠ L + 1 := Nat.ne_of_gt l1.2.2.2
  have hRc : R ≠ L + 1 := Nat.ne_of_gt l13
  have hlD : h.IsList D ws.toArray := ⟨_, N2.get (.head _), rfl, 0, rfl⟩
  obtain ⟨nI1, nI2, nI3⟩ := new_ne F1 N2
  have hDI : D ≠ h.objs.size := nI3 _ (.head _)
  have nIR : R ≠ h.objs.size := nI3 (R, lsObj [] 0) (by simp)
  have nIc : L + 1 ≠ h.objs.size := nI3 (L + 1, oc) (by simp)
  refine wpAny_pyIter_list hlD ?_
  dsimp only
  with_unfolding_all refine codeB_forWalk (Walks.list (by rfl) h.objs.size D hDI ws.toArray) (DrawnJ s L R D h.objs.size ws) ?_ (fun _ => rfl) ?_ ?_ ?_ ?_
  · rintro i h' h'' ⟨m, oc, k, ro, rs, F, hm, N, hc, hr, hrs, hro⟩ hk
    refine ⟨m, oc, k, ro, rs, fr_but F nI1 nI2 hk, hm, news_but N ?_ hk, hc, hr, hrs, hro⟩
    intro p hp
    simp only [List.mem_cons] at hp
    rcases hp with rfl | rfl | rfl | hp
    · exact hDI
    · exact nIR
    · exact nIc
    · exact (hro p hp).2.2
  · rintro i v h' tk' hi' hv hst ⟨m, oc, k, ro, rs, F, hm, N, ⟨ov, hc⟩, hr, hrs, hro⟩
    obtain ⟨oI, hoI⟩ := isListIter_of hst.1
    have NI : News s.heap L h' ((h.objs.size, oI) :: (D, listOf ws.toArray 0) :: (R, lsObj (rs.map Value.ref) k) :: (L + 1, oc) :: ro) := fun p hp => by
      rcases List.mem_cons.mp hp with rfl | hp
      · exact ⟨hoI, Ne.symm nI1, nI2⟩
      · exact N p hp
    obtain ⟨x, tx, rfl, hx⟩ := IntsAre.at hi1 i v (by rw [List.getElem?_toArray] at hv; exact hv)
    have hcc : h'.IsCell (L + 1) ov := ⟨oc, N.get (by simp), hc⟩
    refine wpAny_assign_Name (wpAny_storeName_cell rfl rfl rfl hcc fun h5 hc5 hs5 => ?_)
    obtain ⟨oc5, ho5, hd5⟩ := hc5
    have F5 : Fr s.heap L h5 m := F.update N (o := oc) (by simp) hs5
    have N5 : News s.heap L h5 ([(h.objs.size, oI), (D, listOf ws.toArray 0), (R, lsObj (rs.map Value.ref) k)] ++ (L + 1, oc5) :: ro) := by
      refine News.setAt (own := [(h.objs.size, oI), (D, listOf ws.toArray 0), (R, lsObj (rs.map Value.ref) k)]) (o := oc) NI ?_ (fun p hp => (hro p hp).2.1) hs5 ho5
      intro p hp
      simp only [List.mem_cons, List.not_mem_nil, or_false] at hp
      rcases hp with rfl | rfl | rfl
      · exact Ne.symm nIc
      · exact hDc
      · exact hRc
    simp only [List.cons_append, List.nil_append] at N5
    rw [mapAt hm] at F5
    have hD0 : h'.get? D = some (listOf ws.toArray 0) := N.get (.head _)
    clear F N NI hcc hc
    refine wpB_execs_cons (wpB_Assign_Tuple ?_)
    with_unfolding_all refine wpB_ListComp (cl := [(Str.ofString "x", L + 1)]) (by rfl) (by rfl) (by decide) ?_
    refine wpB_of ?_
    have c5 : h5.IsCell (L + 1) (some (.int x tx)) := ⟨oc5, ho5, hd5⟩
    dsimp only
    k_steps
    rename IsRange _ _ _ _ _ _ _ _ => rg
    rename Fr _ _ _ _ => F6
    rename News _ _ _ (_ :: _) => N6
    rename (∀ b o, _ → _) => hk6
    with_unfolding_all refine comp_range (n := 4) (by rfl) rg (by decide) (by decide) (by decide) (TgL (Str.ofString "k")) (fun i y own => own = [] ∧ ∃ (q : Nat) (t : Tok), q < 256 ∧ y = .int q t) (fun _ _ _ _ _ _ h => wpAny_pure h) (tg_local (by rfl) (by rfl)) ?_ ?_
    · rintro C i tt h₃ tk₃ hC hi ⟨m, hm, hmx⟩ hk
      have c2 : h₃.IsCell (L + 1) (some (.int x tx)) := (c5.keeps hk6).keeps hk
      have h4 : i = 0 ∨ i = 1 ∨ i = 2 ∨ i = 3 := by omega
      refine elt_any ?_
      rcases h4 with rfl | rfl | rfl | rfl
      · rw [show (0 : Int) + ((0 : Nat) : Int) * 1 = 0 from by decide] at hmx
        k_steps
        obtain ⟨q, hq, e⟩ := octet_of ((x.fdiv 4).fdiv (256 ^ Int.toNat 0))
        exact EltEnd.plain (fun _ _ e => e) ⟨rfl, q, _, hq, by rw [e]⟩
      · rw [show (0 : Int) + ((1 : Nat) : Int) * 1 = 1 from by decide] at hmx
        k_steps
        obtain ⟨q, hq, e⟩ := octet_of ((x.fdiv 4).fdiv (256 ^ Int.toNat 1))
        exact EltEnd.plain (fun _ _ e => e) ⟨rfl, q, _, hq, by rw [e]⟩
      · rw [show (0 : Int) + ((2 : Nat) : Int) * 1 = 2 from by decide] at hmx
        k_steps
        obtain ⟨q, hq, e⟩ := octet_of ((x.fdiv 4).fdiv (256 ^ Int.toNat 2))
        exact EltEnd.plain (fun _ _ e => e) ⟨rfl, q, _, hq, by rw [e]⟩
      · rw [show (0 : Int) + ((3 : Nat) : Int) * 1 = 3 from by decide] at hmx
        k_steps
        obtain ⟨q, hq, e⟩ := octet_of ((x.fdiv 4).fdiv (256 ^ Int.toNat 3))
        exact EltEnd.plain (fun _ _ e => e) ⟨rfl, q, _, hq, by rw [e]⟩
    · intro D2 h7 tk7 k7 rows7 hc7
      obtain ⟨r0, r1, r2, r3, rfl⟩ := four_of hc7.len
      obtain ⟨-, q0, u0, b0, e0⟩ := hc7.each 0 r0 rfl
      obtain ⟨-, q1, u1, b1, e1⟩ := hc7.each 1 r1 rfl
      obtain ⟨-, q2, u2, b2, e2⟩ := hc7.each 2 r2 rfl
      obtain ⟨-, q3, u3, b3, e3⟩ := hc7.each 3 r3 rfl
      have hl7 := hc7.lst
      simp only [List.map_cons, List.map_nil, e0, e1, e2, e3] at hl7
      have F7 := F6.keeps hc7.keep
      have N7 := newsAdd F6 N6 hc7.keep hc7.new hl7
      clear F6 N6
      dsimp only
      k_steps
      refine wpB_of ?_
      k_steps
      rename Fr _ _ _ _ => F8
      rename News _ _ _ (_ :: _) => N8
      rename_i r0 g1 o0 r1 g2 o1 r2 g3 o2 r3 g4 o3 r4 g5 o4
      have hl8 : g5.IsList r4 [Value.ref r0, .ref r1, .ref r2, .ref r3].toArray := ⟨_, N8.get (.head _), rfl, 0, rfl⟩
      have pick : ∃ (r : Addr) (a b c d : Nat) (ta tb tc td : Tok), [Value.ref r0, .ref r1, .ref r2, .ref r3][(x.fmod 4).toNat]? = some (.ref r) ∧ a < 256 ∧ b < 256 ∧ c < 256 ∧ d < 256 ∧ r ≠ R ∧ r ≠ L + 1 ∧ r ≠ h.objs.size ∧
          (g5.get? r = some (lsObj [Value.int a ta, .int b tb, .int c tc, .int d td] 0) ∧ r ≠ L ∧ s.heap.get? r = none) := by
        have hm : 0 ≤ x.fmod 4 ∧ x.fmod 4 < 4 := by
          rw [Int.fmod_eq_emod_of_nonneg _ (by decide)]
          omega
        have h4 : x.fmod 4 = 0 ∨ x.fmod 4 = 1 ∨ x.fmod 4 = 2 ∨ x.fmod 4 = 3 := by omega
        rcases h4 with e | e | e | e <;> rw [e]
        · exact ⟨r0, q0, q1, q2, q3, u0, u1, u2, u3, rfl, b0, b1, b2, b3, Nat.ne_of_gt o0.2.2.2.1, Nat.ne_of_gt o0.2.2.2.2.1, Nat.ne_of_gt o0.2.1, N8 (r0, _) (by simp [lsObj, W.listOf])⟩
        · exact ⟨r1, q0, q1, q1, q0, u0, u1, u1, u0, rfl, b0, b1, b1, b0, Nat.ne_of_gt o1.2.2.2.2.1, Nat.ne_of_gt o1.2.2.2.2.2.1, Nat.ne_of_gt o1.2.2.1, N8 (r1, _) (by simp [lsObj, W.listOf])⟩
        · exact ⟨r2, q0, q0, q1, q1, u0, u0, u1, u1, rfl, b0, b0, b1, b1, Nat.ne_of_gt o2.2.2.2.2.2.1, Nat.ne_of_gt o2.2.2.2.2.2.2.1, Nat.ne_of_gt o2.2.2.2.1, N8 (r2, _) (by simp [lsObj, W.listOf])⟩
        · exact ⟨r3, q0, q0, q0, q0, u0, u0, u0, u0, rfl, b0, b0, b0, b0, Nat.ne_of_gt o3.2.2.2.2.2.2.1, Nat.ne_of_gt o3.2.2.2.2.2.2.2.1, Nat.ne_of_gt o3.2.2.2.2.1, N8 (r3, _) (by simp [lsObj, W.listOf])⟩
      obtain ⟨r, a, b, c, d, ta, tb, tc, td, hpk, ba, bb, bc, bd, hrR, hrc, hrI, hrow⟩ := pick
      have hm0 : 0 ≤ x.fmod 4 ∧ x.fmod 4 < 4 := by
        rw [Int.fmod_eq_emod_of_nonneg _ (by decide)]
        omega
      refine item_ls hl8 hm0.1 (by omega) hpk ?_
      dsimp only
      have N9 : News s.heap L g5 ((D, listOf ws.toArray 0) :: (h.objs.size, oI) :: (R, lsObj (rs.map Value.ref) k) :: (L + 1, oc5) :: (r, lsObj [Value.int a ta, .int b tb, .int c tc, .int d td] 0) :: ro) := fun p hp => by
        simp only [List.mem_cons] at hp
        rcases hp with rfl | rfl | rfl | rfl | rfl | hp
        · exact N8 _ (by simp)
        · exact N8 _ (by simp)
        · exact N8 _ (by simp)
        · exact N8 _ (by simp)
        · exact hrow
        · exact N8 _ (by simp [hp])
      clear N8 hl7 hc7
      k_steps
      have hil : i < 3 := by
        have e1 := hiL
        simp only [List.size_toArray] at hi'
        omega
      refine append_ls (ys := rs.map Value.ref) (n := k) (N9.get (by simp)) (by rw [List.length_map, sizeLine_eq]; omega) fun h9 n9 hg9 hs9 => ?_
      dsimp only
      have F9 := F8.update N9 (a := R) (o := lsObj (rs.map Value.ref) k) (by simp) hs9
      k_steps
      · refine ⟨_, oc5, n9, (r, lsObj [Value.int a ta, .int b tb, .int c tc, .int d td] 0) :: ro, rs ++ [r], F9, rfl, ?_, ⟨_, hd5⟩, by rw [List.length_append, hr]; rfl, ?_, ?_⟩
        · have e : List.map Value.ref (rs ++ [r]) = rs.map Value.ref ++ [.ref r] := by rw [List.map_append]; rfl
          rw [e]
          refine fun p hp => ?_
          simp only [List.mem_cons] at hp
          rcases hp with rfl | rfl | rfl | rfl | hp
          · exact ⟨(hs9.2 _ hDR).trans (N9 (D, listOf ws.toArray 0) (by simp)).1, (N9 (D, listOf ws.toArray 0) (by simp)).2⟩
          · exact ⟨hg9, (N9 (R, lsObj (rs.map Value.ref) k) (by simp)).2⟩
          · exact ⟨(hs9.2 _ (Ne.symm hRc)).trans (N9 (L + 1, oc5) (by simp)).1, (N9 (L + 1, oc5) (by simp)).2⟩
          · exact ⟨(hs9.2 _ hrR).trans (N9 (r, lsObj [Value.int a ta, .int b tb, .int c tc, .int d td] 0) (by simp)).1, (N9 (r, lsObj [Value.int a ta, .int b tb, .int c tc, .int d td] 0) (by simp)).2⟩
          · exact ⟨(hs9.2 _ (hro p hp).1).trans (N9 p (by simp [hp])).1, (N9 p (by simp [hp])).2⟩
        · intro r' hr'
          rcases List.mem_append.mp hr' with h | h
          · obtain ⟨a, b, c, d, ta, tb, tc, td, n, ba, bb, bc, bd, hin⟩ := hrs r' h
            exact ⟨a, b, c, d, ta, tb, tc, td, n, ba, bb, bc, bd, List.mem_cons_of_mem _ hin⟩
          · rw [List.mem_singleton.mp h]
            exact ⟨a, b, c, d, ta, tb, tc, td, 0, ba, bb, bc, bd, .head _⟩
        · intro p hp
          rcases List.mem_cons.mp hp with rfl | hp
          · exact ⟨hrR, hrc, hrI⟩
          · exact hro p hp
      · rename_i xx hxx oo hoo
        simp only [List.mem_cons, List.not_mem_nil, or_false] at hxx
        rcases hxx with rfl | rfl
        · rw [hoI] at hoo
          rw [← hoo]
          exact (hs9.2 _ (Ne.symm nIR)).trans (N9 (h.objs.size, oI) (by simp)).1
        · rw [hD0] at hoo
          rw [← hoo]
          exact (hs9.2 _ hDR).trans (N9 (xx, listOf ws.toArray 0) (by simp)).1
  · rintro h' tk' ⟨m, oc, k, ro, rs, F, hm, N, hc, hr, hrs, hro⟩
    rw [mapAt hm] at F
    k_steps
    refine hQ _ _ _ _ rs (fun b o e => F.keep b o e) (N (R, lsObj (rs.map Value.ref) k) (by simp)).2.2 (N (R, lsObj (rs.map Value.ref) k) (by simp)).1 ?_ ?_
    · have e1 := hiL
      simp only [List.size_toArray] at hr
      omega
    · intro r hr
      obtain ⟨a, b, c, d, ta, tb, tc, td, n, ba, bb, bc, bd, hin⟩ := hrs r hr
      have hN := N _ (List.mem_cons_of_mem _ (List.mem_cons_of_mem _ (List.mem_cons_of_mem _ hin)))
      exact ⟨⟨a, b, c, d, ba, bb, bc, bd, ta, tb, tc, td, ⟨_, hN.1, rfl, n, rfl⟩⟩, hN.2.2⟩
  · exact listIter_push hlD
  · have kp : Kp h (h.push { cls := .type "list_iterator", data := .fields #[.ref D, .int 0 0] }) := fun b o e => Heap.get?_push_of_some _ e
    refine ⟨_, oc, 0, [], [], F1.keeps kp, rfl, N2.keeps kp, ⟨_, dc⟩, rfl, by simp, by simp⟩
end Mine
end

section
open PySem
namespace Mine
theorem xor_and : ∀ (n a b : Nat), a ≤ n → (a ^^^ b) + 2 * (a &&& b) = a + b
  | 0, a, b, h => by
    obtain rfl : a = 0 := by omega
    simp
  | n + 1, a, b, h => by
    by_cases ha : a = 0
    · subst ha; simp
    have ih := xor_and n (a / 2) (b / 2) (by omega)
    have d1 : (a ^^^ b) / 2 = a / 2 ^^^ b / 2 := by
      have := @Nat.shiftRight_xor_distrib 1 a b
      rw [Nat.shiftRight_eq_div_pow, Nat.shiftRight_eq_div_pow, Nat.shiftRight_eq_div_pow] at this
      exact this
    have d2 : (a &&& b) / 2 = a / 2 &&& b / 2 := by
      have := @Nat.shiftRight_and_distrib 1 a b
      rw [Nat.shiftRight_eq_div_pow, Nat.shiftRight_eq_div_pow, Nat.shiftRight_eq_div_pow] at this
      exact this
    have m1 : (a ^^^ b) % 2 = a % 2 ^^^ b % 2 := Nat.xor_mod_two_pow (n := 1)
    have m2 : (a &&& b) % 2 = a % 2 &&& b % 2 := Nat.and_mod_two_pow (n := 1)
    rw [← d1, ← d2] at ih
    have hm : (a ^^^ b) % 2 + 2 * ((a &&& b) % 2) = a % 2 + b % 2 := by
      rw [m1, m2]
      rcases Nat.mod_two_eq_zero_or_one a with ha | ha <;> rcases Nat.mod_two_eq_zero_or_one b with hb | hb <;> rw [ha, hb] <;> rfl
    omega
theorem bitXor_nat (a b : Nat) : Builtin.bitXor (a : Int) (b : Int) = ((a ^^^ b : Nat) : Int) := by
  rw [PyProof.Rows.bitXor_and, PyProof.Rows.bitAnd_pp (by omega) (by omega), Int.toNat_natCast, Int.toNat_natCast]
  have := xor_and a a b (Nat.le_refl _)
  omega
def PZ : Nat := 3988292384
def stepN (n : Nat) : Nat := if n % 2 = 1 then (n / 2) ^^^ PZ else n / 2
def upN (n : Nat) : Nat := if 2147483648 ≤ n then (n ^^^ PZ) * 2 + 1 else n * 2
theorem step_up (y : Nat) : stepN (upN y) = y := by
  unfold upN stepN
  split
  · rw [if_pos (by omega), show ((y ^^^ PZ) * 2 + 1) / 2 = y ^^^ PZ from by omega, Nat.xor_assoc, Nat.xor_self, Nat.xor_zero]
  · rw [if_neg (by omega)]; omega
theorem top_xor {y : Nat} (h : y < 2147483648) : 2147483648 ≤ y ^^^ PZ := by
  refine Nat.ge_two_pow_of_testBit (i := 31) ?_
  rw [Nat.testBit_xor, Nat.testBit_lt_two_pow h]
  decide
theorem low_xor {y : Nat} (h : y < 4294967296) (h2 : 2147483648 ≤ y) : y ^^^ PZ < 2147483648 := by
  have e : (y ^^^ PZ) / 2147483648 = y / 2147483648 ^^^ PZ / 2147483648 := by
    have := @Nat.shiftRight_xor_distrib 31 y PZ
    rw [Nat.shiftRight_eq_div_pow, Nat.shiftRight_eq_div_pow, Nat.shiftRight_eq_div_pow] at this
    exact this
  have e1 : y / 2147483648 = 1 := by omega
  rw [e1, show (1 ^^^ PZ / 2147483648 : Nat) = 0 from by decide] at e
  omega
theorem up_step {x : Nat} (h : x < 4294967296) : upN (stepN x) = x := by
  unfold upN stepN
  by_cases e : x % 2 = 1
  · rw [if_pos e, if_pos (top_xor (by omega)), Nat.xor_assoc, Nat.xor_self, Nat.xor_zero]; omega
  · rw [if_neg e, if_neg (by omega)]; omega
theorem up_lt {x : Nat} (h : x < 4294967296) : upN x < 4294967296 := by
  unfold upN
  split
  · have := low_xor h (by assumption); omega
  · omega
theorem step_lt {x : Nat} (h : x < 4294967296) : stepN x < 4294967296 := by
  unfold stepN
  split
  · exact Nat.xor_lt_two_pow (n := 32) (by omega) (by decide)
  · omega
theorem div_xor (a b : Nat) : (a ^^^ b) / 2 = a / 2 ^^^ b / 2 := by
  have := @Nat.shiftRight_xor_distrib 1 a b
  rw [Nat.shiftRight_eq_div_pow, Nat.shiftRight_eq_div_pow, Nat.shiftRight_eq_div_pow] at this
  exact this
theorem step_xor (a b : Nat) : stepN (a ^^^ b) = stepN a ^^^ stepN b := by
  have hm : (a ^^^ b) % 2 = (a % 2) ^^^ (b % 2) := Nat.xor_mod_two_pow (n := 1)
  unfold stepN
  rcases Nat.mod_two_eq_zero_or_one a with ha | ha <;> rcases Nat.mod_two_eq_zero_or_one b with hb | hb <;> rw [hm, ha, hb, div_xor]
  · rfl
  · show (a / 2 ^^^ b / 2) ^^^ PZ = a / 2 ^^^ (b / 2 ^^^ PZ)
    rw [Nat.xor_assoc]
  · show (a / 2 ^^^ b / 2) ^^^ PZ = (a / 2 ^^^ PZ) ^^^ b / 2
    rw [Nat.xor_assoc, Nat.xor_comm (b / 2), Nat.xor_assoc]
  · show (a / 2 ^^^ b / 2) = (a / 2 ^^^ PZ) ^^^ (b / 2 ^^^ PZ)
    rw [Nat.xor_assoc (a / 2), ← Nat.xor_assoc PZ, Nat.xor_comm PZ, Nat.xor_assoc (b / 2), Nat.xor_self, Nat.xor_zero]
/-- n times -/
def itN (f : Nat → Nat) : Nat → Nat → Nat
  | 0, x => x
  | k + 1, x => itN f k (f x)
theorem itN_xor : ∀ (k a b : Nat), itN stepN k (a ^^^ b) = itN stepN k a ^^^ itN stepN k b
  | 0, _, _ => rfl
  | k + 1, a, b => by rw [itN, step_xor, itN_xor k]; rfl
theorem itN_add (f : Nat → Nat) : ∀ (k j x : Nat), itN f (k + j) x = itN f j (itN f k x)
  | 0, j, x => by rw [Nat.zero_add]; rfl
  | k + 1, j, x => by rw [Nat.add_right_comm, itN, itN_add f k j]; rfl
theorem itN_lt {f : Nat → Nat} (hf : ∀ x, x < 4294967296 → f x < 4294967296) : ∀ (k : Nat) {x : Nat}, x < 4294967296 → itN f k x < 4294967296
  | 0, _, h => h
  | k + 1, _, h => itN_lt hf k (hf _ h)
theorem itN_last (f : Nat → Nat) : ∀ (k x : Nat), itN f (k + 1) x = f (itN f k x)
  | 0, _ => rfl
  | k + 1, x => by rw [itN, itN_last f k]; rfl
theorem it_step_up : ∀ (k x : Nat), itN stepN k (itN upN k x) = x
  | 0, _ => rfl
  | k + 1, x => by rw [itN_last upN, itN, step_up, it_step_up k]
theorem it_up_step : ∀ (k : Nat) {x : Nat}, x < 4294967296 → itN upN k (itN stepN k x) = x
  | 0, _, _ => rfl
  | k + 1, x, h => by rw [itN_last stepN, itN, up_step (itN_lt (fun _ => step_lt) k h), it_up_step k h]
theorem step_double (z : Nat) : stepN (2 * z) = z := by
  unfold stepN
  rw [if_neg (by omega)]
  omega
theorem it_shift : ∀ (k z : Nat), itN stepN k (2 ^ k * z) = z
  | 0, z => by simp [itN]
  | k + 1, z => by rw [itN, Nat.pow_succ, Nat.mul_comm (2 ^ k) 2, Nat.mul_assoc, step_double, it_shift k]
def crcN (x : Nat) : Nat := itN stepN 8 x
theorem crcN_xor (a b : Nat) : crcN (a ^^^ b) = crcN a ^^^ crcN b := itN_xor 8 a b
theorem crcN_shift (z : Nat) : crcN (256 * z) = z := it_shift 8 z
theorem xor_div (a b : Nat) : (a ^^^ b) / 256 = a / 256 ^^^ b / 256 := by
  have := @Nat.shiftRight_xor_distrib 8 a b
  rw [Nat.shiftRight_eq_div_pow, Nat.shiftRight_eq_div_pow, Nat.shiftRight_eq_div_pow] at this
  exact this
theorem xor_mod (a b : Nat) : (a ^^^ b) % 256 = a % 256 ^^^ b % 256 := Nat.xor_mod_two_pow (n := 8)
theorem two_eq {x y : Nat} (h1 : x / 256 = y / 256) (h2 : x % 256 = y % 256) : x = y := by omega
theorem split_xor (x : Nat) : x = 256 * (x / 256) ^^^ x % 256 := by
  refine two_eq ?_ ?_
  · rw [xor_div, show 256 * (x / 256) / 256 = x / 256 from by omega, show x % 256 / 256 = 0 from by omega, Nat.xor_zero]
  · rw [xor_mod, show 256 * (x / 256) % 256 = 0 from by omega, show x % 256 % 256 = x % 256 from by omega, Nat.zero_xor]
theorem join_xor {a b x y : Nat} (ha : a < 256) (hb : b < 256) : (a + 256 * x) ^^^ (b + 256 * y) = (a ^^^ b) + 256 * (x ^^^ y) := by
  have hab : a ^^^ b < 256 := Nat.xor_lt_two_pow (n := 8) ha hb
  refine two_eq ?_ ?_
  · rw [xor_div, show (a + 256 * x) / 256 = x from by omega, show (b + 256 * y) / 256 = y from by omega]; omega
  · rw [xor_mod, show (a + 256 * x) % 256 = a from by omega, show (b + 256 * y) % 256 = b from by omega]; omega
theorem join_one {a x : Nat} (ha : a < 256) : a + 256 * x = a ^^^ 256 * x := by
  have := @join_xor a 0 0 x ha (by decide)
  simp only [Nat.mul_zero, Nat.add_zero, Nat.zero_add, Nat.xor_zero, Nat.zero_xor] at this
  exact this.symm
def fedN (t o : Nat) : Nat := t / 256 ^^^ crcN ((t ^^^ o) % 256)
theorem fedN_eq {t o : Nat} (h : o < 256) : fedN t o = crcN (t ^^^ o) := by
  unfold fedN
  have e : (t ^^^ o) / 256 = t / 256 := by rw [xor_div, show o / 256 = 0 from by omega, Nat.xor_zero]
  have e2 : crcN (t ^^^ o) = crcN (256 * ((t ^^^ o) / 256) ^^^ (t ^^^ o) % 256) := congrArg crcN (split_xor _)
  rw [e2, crcN_xor, crcN_shift, e]
def numN (a b c d : Nat) : Nat := a + 256 * (b + 256 * (c + 256 * d))
theorem fed4 {t a b c d : Nat} (ha : a < 256) (hb : b < 256) (hc : c < 256) (hd : d < 256) : fedN (fedN (fedN (fedN t a) b) c) d = itN stepN 32 (t ^^^ numN a b c d) := by
  rw [fedN_eq ha, fedN_eq hb, fedN_eq hc, fedN_eq hd]
  have e : ∀ x, itN stepN 32 x = crcN (crcN (crcN (crcN x))) := fun x => by unfold crcN; rw [← itN_add, ← itN_add, ← itN_add]
  rw [e]
  unfold numN
  rw [join_one ha, join_one hb, join_one hc, ← Nat.xor_assoc, crcN_xor (t ^^^ a), crcN_shift, ← Nat.xor_assoc, crcN_xor (_ ^^^ b), crcN_shift, ← Nat.xor_assoc, crcN_xor (_ ^^^ c), crcN_shift]
theorem numN_lt {a b c d : Nat} (ha : a < 256) (hb : b < 256) (hc : c < 256) (hd : d < 256) : numN a b c d < 4294967296 := by unfold numN; omega
theorem numN_xor {a b c d a' b' c' d' : Nat} (ha : a < 256) (hb : b < 256) (hc : c < 256) (ha' : a' < 256) (hb' : b' < 256) (hc' : c' < 256) :
    numN a b c d ^^^ numN a' b' c' d' = numN (a ^^^ a') (b ^^^ b') (c ^^^ c') (d ^^^ d') := by
  unfold numN
  rw [join_xor ha ha', join_xor hb hb', join_xor hc hc']
end Mine
end

section
open PySem PySem.W PyProof.Rows PySem.Calls
namespace Mine
theorem foldl_it {α : Type} (f : Int → Int) (g : Nat → Nat) (hfg : ∀ n : Nat, f n = g n) : ∀ (l : List α) (n : Nat), l.foldl (fun a _ => f a) (n : Int) = (itN g l.length n : Nat)
  | [], _ => rfl
  | _ :: l, n => by rw [List.foldl_cons, hfg, foldl_it f g hfg l]; rfl
theorem crcStep_nat (n : Nat) : crcStep n = (stepN n : Nat) := by
  unfold crcStep stepN
  by_cases h : n % 2 = 1
  · rw [if_pos (by omega), if_pos h, show ((n : Int) / 2) = ((n / 2 : Nat) : Int) from by omega]
    exact bitXor_nat _ PZ
  · rw [if_neg (by omega), if_neg h]; omega
theorem crc8_nat (n : Nat) : crc8 n = (crcN n : Nat) := by
  unfold crc8 crcN
  rw [foldl_it crcStep stepN crcStep_nat, rangeKs_length]
theorem backStep_nat (n : Nat) : backStep n = (upN n : Nat) := by
  unfold backStep upN
  by_cases h : 2147483648 ≤ n
  · rw [if_pos (by omega), if_pos h, show (3988292384 : Int) = ((PZ : Nat) : Int) from rfl, bitXor_nat]; omega
  · rw [if_neg (by omega), if_neg h]; omega
theorem backF_nat (n : Nat) : backF n = (itN upN 32 n : Nat) := by
  unfold backF
  rw [foldl_it backStep upN backStep_nat, rangeKs_length]
theorem fedStep_nat (t o : Nat) : fedStep t o = (fedN t o : Nat) := by
  unfold fedStep fedN
  rw [bitXor_nat, show ((t : Int) / 256) = ((t / 256 : Nat) : Int) from by omega, show (((t ^^^ o : Nat) : Int) % 256) = (((t ^^^ o) % 256 : Nat) : Int) from by omega, crc8_nat, bitXor_nat]
theorem fedF_four (t a b c d : Nat) (ha : a < 256) (hb : b < 256) (hc : c < 256) (hd : d < 256) :
    fedF t (KBw.bInts #[a.toUInt8, b.toUInt8, c.toUInt8, d.toUInt8]) = (itN stepN 32 (t ^^^ numN a b c d) : Nat) := by
  have e : ∀ x, x < 256 → x.toUInt8.toNat = x := fun x h => by
    show x % 256 = x
    omega
  show fedStep (fedStep (fedStep (fedStep t (a.toUInt8.toNat : Nat)) (b.toUInt8.toNat : Nat)) (c.toUInt8.toNat : Nat)) (d.toUInt8.toNat : Nat) = _
  rw [e a ha, e b hb, e c hc, e d hd, fedStep_nat, fedStep_nat, fedStep_nat, fedStep_nat, fed4 ha hb hc hd]
theorem oct4_num {a b c d : Nat} (ha : a < 256) (hb : b < 256) (hc : c < 256) (hd : d < 256) : oct4 (numN a b c d) = [a.toUInt8, b.toUInt8, c.toUInt8, d.toUInt8] := by
  unfold oct4 numN
  have e0 : (a + 256 * (b + 256 * (c + 256 * d))) / 256 ^ 0 % 256 = a := by omega
  have e1 : (a + 256 * (b + 256 * (c + 256 * d))) / 256 ^ 1 % 256 = b := by omega
  have e2 : (a + 256 * (b + 256 * (c + 256 * d))) / 256 ^ 2 % 256 = c := by omega
  have e3 : (a + 256 * (b + 256 * (c + 256 * d))) / 256 ^ 3 % 256 = d := by omega
  rw [e0, e1, e2, e3]
theorem num_oct {n : Nat} (h : n < 4294967296) : ∃ a b c d : Nat, a < 256 ∧ b < 256 ∧ c < 256 ∧ d < 256 ∧ n = numN a b c d :=
  ⟨n % 256, n / 256 % 256, n / 65536 % 256, n / 16777216, by omega, by omega, by omega, by omega, by unfold numN; omega⟩
/-- the sum of the octets led back is the number -/
theorem found_eq {a b c d : Nat} (ha : a < 256) (hb : b < 256) (hc : c < 256) (hd : d < 256) :
    fedF 0 (KBw.bInts (oct4 (itN upN 32 (numN a b c d))).toArray) = (numN a b c d : Nat) := by
  have hn := numN_lt ha hb hc hd
  obtain ⟨a', b', c', d', ha', hb', hc', hd', e⟩ := num_oct (itN_lt (fun _ => up_lt) 32 hn)
  rw [e, oct4_num ha' hb' hc' hd']
  rw [show (0 : Int) = ((0 : Nat) : Int) from rfl, fedF_four 0 a' b' c' d' ha' hb' hc' hd', Nat.zero_xor, ← e, it_step_up]
/-- back from the sum with four octets behind -/
theorem told_eq {a b c d a' b' c' d' : Nat} (ha : a < 256) (hb : b < 256) (hc : c < 256) (hd : d < 256) (ha' : a' < 256) (hb' : b' < 256) (hc' : c' < 256) (hd' : d' < 256) :
    backF (fedF (numN a b c d : Nat) (KBw.bInts #[a'.toUInt8, b'.toUInt8, c'.toUInt8, d'.toUInt8])) = (numN (a ^^^ a') (b ^^^ b') (c ^^^ c') (d ^^^ d') : Nat) := by
  rw [fedF_four _ a' b' c' d' ha' hb' hc' hd', backF_nat, it_up_step, numN_xor ha hb hc ha' hb' hc']
  exact Nat.xor_lt_two_pow (n := 32) (numN_lt ha hb hc hd) (numN_lt ha' hb' hc' hd')
theorem swap1 (a b c d : UInt8) : swapF #[a, b, c, d] 1 4 = #[a, b, c, d] := by
  simp [swapF, swapW]
  rfl
theorem swap2 (a b c d : UInt8) : swapF #[a, b, c, d] 2 2 = #[b, a, d, c] := by
  simp [swapF, swapW]
  rfl
theorem swap4 (a b c d : UInt8) : swapF #[a, b, c, d] 4 1 = #[d, c, b, a] := by
  simp [swapF, swapW]
  rfl
end Mine
end

section
open PySem PySem.W PyProof.Rows PySem.Calls
set_option maxRecDepth 100000
namespace Mine
theorem dummy8 : (PySem.Challenge.rw_pe0015_02, hd.heap_39) = (PySem.Challenge.rw_pe0015_02, hd.heap_39) := by
  k_fill
  rfl
local macro_rules | `(tactic| walk_at "eval Name") => `(tactic| (with_reducible show wpAny _ _ (eval (Expr.Name _ _) (cenvX _ _ _ _)) _ _ _; first
  | with_unfolding_all refine nmL (by with_reducible assumption) (by with_reducible assumption) ?_
  | with_unfolding_all refine nmC (by rfl) (by with_reducible assumption) ?_
  | (k_dflt (refine' nmG ?X ?T ?e ?_ ?a ?b ?c ?d; (case X => with_reducible assumption); (case T => with_reducible assumption); (case a => rfl); (case b => rfl); (case c => rfl); (case d => decide); (case e => k_is)))
  | (k_dflt (refine' nmB ?X ?T ?e ?v ?n ?_ ?a ?a2 ?b ?c ?d; (case X => with_reducible assumption); (case T => with_reducible assumption); (case a => rfl); (case a2 => rfl); (case b => rfl); (case c => rfl); (case d => decide); (case e => k_is); (case v => boot_fast); (case n => decide)))))
set_option maxHeartbeats 4000000 in
theorem law_run {w : World} {A : Around} {s : Shared} {Q E : Value → Shared → Prop}
    (G : Gd w s.heap) (hroom : A.depth + 2 < recursionLimit) (hh : A.handled = none) (hg : A.guards = some [])
    (l : Addr) (a b c d : Nat) (ba : a < 256) (bb : b < 256) (bc : c < 256) (bd : d < 256) (hl : Four s.heap l a b c d)
    (hQ : ∀ h' tk D k t0 t1 t2 t3, Kp s.heap h' → s.heap.get? D = none → h'.get? D = some (lsObj [Value.int (numN a b c d) t0, .int (numN (a ^^^ a) (b ^^^ b) (c ^^^ c) (d ^^^ d)) t1, .int (numN (a ^^^ b) (b ^^^ a) (c ^^^ d) (d ^^^ c)) t2, .int (numN (a ^^^ d) (b ^^^ c) (c ^^^ b) (d ^^^ a)) t3] k) → Q (.ref D) { s with heap := h', toks := tk }) :
    wpB true (model PySem.Challenge.pw_pe0015_02 w) A (call (.ref 62) [.ref l]) Q E s := by
  have G0 := G
  obtain ⟨X, mean, mg, mb, T⟩ := G
  obtain ⟨hd', dp, fr, gd, un⟩ := A
  obtain rfl : hd' = none := hh
  refine wpB_call ?_
  k_dflt (refine' enterCB (binds := [(Str.ofString "octets", Value.ref l)]) X T ?k6 ?k7 ?kr ?k9 ?kB ?kD ?_ ?c2 ?c3 ?c4; (case k6 => k_is); (case k7 => k_is); (case kr => (dsimp only at *; omega)); (case k9 => exact BindsTo.of_eq rfl); (case kB => exact rfl); (case kD => decide +kernel); (case c2 => exact rfl); (case c3 => exact rfl); (case c4 => exact rfl))
  intro L h₁ tk cells F N Y
  k_cells Y
  dsimp only at *
  refine wpB_execs_cons (wpB_of ?_)
  k_steps
  rename Fr _ _ _ _ => F0
  rename News _ _ _ _ => N0
  refine law_number ?kG ?kr ?kh l a b c d ?kl ?_
  case kG => exact G0.keeps F0.keep
  case kr => show dp + 1 < _; omega
  case kh => rfl
  case kl => exact hl.keeps F0.keep
  intro h2 tk2 t2 hk2
  have F2 := F0.keeps hk2
  have N2 := N0.grown hk2
  clear F0 N0
  have en : (a : Int) + b * 256 + c * 65536 + d * 16777216 = (numN a b c d : Nat) := by unfold numN; omega
  rw [en]
  dsimp only
  k_steps
  refine law_back ?kG ?kr ?kh _ _ ?_
  case kG => exact G0.keeps F2.keep
  case kr => show dp + 1 < _; omega
  case kh => rfl
  intro h3 tk3 t3 hk3
  have F3 := F2.keeps hk3
  have N3 := N2.grown hk3
  clear F2 N2
  rw [backF_nat]
  dsimp only
  k_steps
  refine law_octets ?kG ?kr ?kh _ _ ?_
  case kG => exact G0.keeps F3.keep
  case kr => show dp + 1 < _; omega
  case kh => rfl
  intro h4 tk4 t4 hk4
  have F4 := F3.keeps hk4
  have N4 := N3.grown hk4
  clear F3 N3
  dsimp only
  k_steps
  refine law_fed ?kG ?kr ?kh _ _ _ _ ?_
  case kG => exact G0.keeps F4.keep
  case kr => show dp + 1 + 1 < _; omega
  case kh => rfl
  intro h5 tk5 t5 hk5
  have F5 := F4.keeps hk5
  have N5 := N4.grown hk5
  clear F4 N4
  rw [found_eq ba bb bc bd]
  dsimp only
  k_steps
  rename Fr _ _ _ _ => F6
  rename News _ _ _ _ => N6
  rename Obj.data _ = Data.cell (some _) => d6
  with_unfolding_all refine wpB_execs_cons (wpB_Assign_ListComp' (cl := [(Str.ofString "found", L + 1)]) (by rfl) (by rfl) (by rfl) (by decide) (by rfl) (by rfl) ?_)
  refine wpB_of ?_
  k_steps
  rename Fr _ _ _ _ => F7
  rename News _ _ _ (_ :: _) => N7
  rename_i D7 h7 lD7
  have c7 : h7.IsCell (L + 1) (some (.int (numN a b c d : Nat) t5)) := ⟨_, N7.get (by simp), d6⟩
  have hl7 : h7.IsTuple D7 [Value.int 1 tk5, .int 2 (tk5 + 1), .int 4 (tk5 + 1 + 1)].toArray := ⟨_, N7.get (.head _), rfl, 0, rfl⟩
  with_unfolding_all refine comp_tupleA (by rfl) hl7 (by rw [sizeLine_eq]; exact Nat.le_of_ble_eq_true rfl) F7.ns (TgL (Str.ofString "width")) (fun v y own => own = [] ∧ ∃ (wd q : Nat) (tv ty : Tok), v = .int wd tv ∧ wd * q = 4 ∧ y = .bytes (swapF (oct4 (numN a b c d)).toArray wd q) ty) (fun _ _ _ _ _ _ h => wpAny_pure h) (tg_local (by rfl) (by rfl)) ?_ ?_
  · rintro C v h₃ tk₃ hC hv ⟨m, hm, hmx⟩ hk
    have hvw : ∃ (wd q : Nat) (tv : Tok), v = .int wd tv ∧ wd * q = 4 ∧ 1 ≤ wd ∧ wd ≤ 4 := by
      simp only [List.mem_cons, List.not_mem_nil, or_false] at hv
      rcases hv with rfl | rfl | rfl
      · exact ⟨1, 4, _, rfl, rfl, by decide, by decide⟩
      · exact ⟨2, 2, _, rfl, rfl, by decide, by decide⟩
      · exact ⟨4, 1, _, rfl, rfl, by decide, by decide⟩
    obtain ⟨wd, q, tv, rfl, hwq, hw1, hw4⟩ := hvw
    have c3 : h₃.IsCell (L + 1) (some (.int (numN a b c d : Nat) t5)) := c7.keeps hk
    have G3 := (G0.keeps F7.keep).keeps hk
    obtain ⟨X3, mean3, mg3, mb3, T3⟩ := id G3
    refine elt_B (wpB_Call ?_)
    k_steps
    k_dflt (refine' wpB_callWith_fn (K := hd.heap_39 w.params) ?kk ?_; (case kk => k_is))
    k_steps
    refine law_octets ?kG ?kr ?kh _ _ ?_
    case kG => exact G3
    case kr => show dp + 1 < _; omega
    case kh => rfl
    intro h4 tk4 t4 hk4
    have hm4 : h4.Ns C m := hm.at' fun o e => hk4 _ _ e
    dsimp only
    k_steps
    · exact (G3.keeps hk4).1
    refine byteswap ?kG ?kr ?kh ?kg _ _ wd q _ hw1 (by omega) ?ks ?kz ?_
    case kG => exact G3.keeps hk4
    case kr => show dp + 1 < _; omega
    case kh => rfl
    case kg => exact hg
    case ks => show 4 = _; rw [← hwq, Nat.mul_comm]
    case kz => show 4 ≤ 1000; decide
    intro h5 tk5 t5 hk5
    exact EltEnd.plain (fun b o e => hk5 b o (hk4 b o e)) ⟨rfl, wd, q, tv, t5, rfl, hwq, rfl⟩
  · intro D8 h8 tk8 k8 rows8 e8
    obtain ⟨r0, r1, r2, er⟩ : ∃ r0 r1 r2, rows8 = [r0, r1, r2] := by
      have := e8.len
      match rows8, this with
      | [r0, r1, r2], _ => exact ⟨r0, r1, r2, rfl⟩
    subst er
    obtain ⟨v0, hv0, -, wd0, q0, tv0, y0, ev0, hq0, ey0⟩ := e8.each 0 r0 rfl
    obtain ⟨v1, hv1, -, wd1, q1, tv1, y1, ev1, hq1, ey1⟩ := e8.each 1 r1 rfl
    obtain ⟨v2, hv2, -, wd2, q2, tv2, y2, ev2, hq2, ey2⟩ := e8.each 2 r2 rfl
    obtain rfl : wd0 = 1 := by
      simp only [List.getElem?_cons_zero, Option.some.injEq] at hv0
      rw [← hv0] at ev0
      cases ev0
      rfl
    obtain rfl : wd1 = 2 := by
      simp only [List.getElem?_cons_succ, List.getElem?_cons_zero, Option.some.injEq] at hv1
      rw [← hv1] at ev1
      cases ev1
      rfl
    obtain rfl : wd2 = 4 := by
      simp only [List.getElem?_cons_succ, List.getElem?_cons_zero, Option.some.injEq] at hv2
      rw [← hv2] at ev2
      cases ev2
      rfl
    obtain rfl : q0 = 4 := by omega
    obtain rfl : q1 = 2 := by omega
    obtain rfl : q2 = 1 := by omega
    rw [oct4_num ba bb bc bd] at ey0 ey1 ey2
    rw [swap1] at ey0
    rw [swap2] at ey1
    rw [swap4] at ey2
    have hl8 := e8.lst
    simp only [List.map_cons, List.map_nil, ey0, ey1, ey2] at hl8
    have F8 := e8.fr F7
    have N8 := e8.news F7 N7 hl8
    clear e8 ey0 ey1 ey2 hv0 hv1 hv2 F7 N7 hl7 c7
    dsimp only at F8 N8 ⊢
    refine wpB_execs_cons (wpB_Return (wpB_BinOp (wpB_of ?_)))
    k_steps
    with_unfolding_all refine wpB_ListComp (cl := [(Str.ofString "found", L + 1)]) (by rfl) (by rfl) (by decide) ?_
    refine wpB_of ?_
    k_steps
    rename Fr _ _ _ _ => F9
    rename News _ _ _ (_ :: _) => N9
    rename_i l9 h9 o9
    have c9 : h9.IsCell (L + 1) (some (.int (numN a b c d : Nat) t5)) := ⟨_, N9.get (by simp), d6⟩
    have hl9 : h9.IsList D8 [Value.bytes #[a.toUInt8, b.toUInt8, c.toUInt8, d.toUInt8] y0, .bytes #[b.toUInt8, a.toUInt8, d.toUInt8, c.toUInt8] y1, .bytes #[d.toUInt8, c.toUInt8, b.toUInt8, a.toUInt8] y2].toArray := ⟨_, N9.get (.tail _ (.head _)), rfl, k8, rfl⟩
    with_unfolding_all refine comp_list true (by rfl) hl9 (by rw [sizeLine_eq]; exact Nat.le_of_ble_eq_true rfl) (TgL (Str.ofString "order")) (fun v y own => own = [] ∧ ∃ (bs : Array UInt8) (tv ty : Tok), v = .bytes bs tv ∧ y = .int (backF (fedF (numN a b c d : Nat) (KBw.bInts bs))) ty) (fun _ _ _ _ _ _ h => wpAny_pure h) (tg_local (by rfl) (by rfl)) (fun _ _ _ tk₃ _ _ _ => wpAny_tests_nil ⟨rfl, tk₃, rfl⟩) ?_ ?_
    · rintro C v h₃ tk₃ hC hv - ⟨m, hm, hmx⟩ hk
      have hvw : ∃ (bs : Array UInt8) (tv : Tok), v = .bytes bs tv := by
        simp only [List.mem_cons, List.not_mem_nil, or_false] at hv
        rcases hv with rfl | rfl | rfl
        · exact ⟨_, _, rfl⟩
        · exact ⟨_, _, rfl⟩
        · exact ⟨_, _, rfl⟩
      obtain ⟨bs, tv, rfl⟩ := hvw
      have c3 : h₃.IsCell (L + 1) (some (.int (numN a b c d : Nat) t5)) := c9.keeps hk
      have G3 := (G0.keeps F9.keep).keeps hk
      obtain ⟨X3, mean3, mg3, mb3, T3⟩ := id G3
      refine elt_any ?_
      k_steps
      refine law_fed ?kG ?kr ?kh _ _ _ _ ?_
      case kG => exact G3
      case kr => show dp + 1 + 1 < _; omega
      case kh => rfl
      intro h4 tk4 t4 hk4
      dsimp only
      k_steps
      · exact (G3.keeps hk4).1
      refine law_back ?kG ?kr ?kh _ _ ?_
      case kG => exact G3.keeps hk4
      case kr => show dp + 1 < _; omega
      case kh => rfl
      intro h5 tk5 t5 hk5
      exact EltEnd.plain (fun b o e => hk5 b o (hk4 b o e)) ⟨rfl, bs, tv, t5, rfl, rfl⟩
    · intro D10 h10 tk10 k10 rows10 e10
      obtain ⟨r0, r1, r2, er⟩ : ∃ r0 r1 r2, rows10 = [r0, r1, r2] := by
        have := e10.len
        match rows10, this with
        | [r0, r1, r2], _ => exact ⟨r0, r1, r2, rfl⟩
      subst er
      obtain ⟨v0, hv0, -, b0, tv0, z0, ev0, ey0⟩ := e10.each 0 r0 rfl
      obtain ⟨v1, hv1, -, b1, tv1, z1, ev1, ey1⟩ := e10.each 1 r1 rfl
      obtain ⟨v2, hv2, -, b2, tv2, z2, ev2, ey2⟩ := e10.each 2 r2 rfl
      obtain rfl : b0 = #[a.toUInt8, b.toUInt8, c.toUInt8, d.toUInt8] := by
        simp only [List.getElem?_cons_zero, Option.some.injEq] at hv0
        rw [← hv0] at ev0
        cases ev0
        rfl
      obtain rfl : b1 = #[b.toUInt8, a.toUInt8, d.toUInt8, c.toUInt8] := by
        simp only [List.getElem?_cons_succ, List.getElem?_cons_zero, Option.some.injEq] at hv1
        rw [← hv1] at ev1
        cases ev1
        rfl
      obtain rfl : b2 = #[d.toUInt8, c.toUInt8, b.toUInt8, a.toUInt8] := by
        simp only [List.getElem?_cons_succ, List.getElem?_cons_zero, Option.some.injEq] at hv2
        rw [← hv2] at ev2
        cases ev2
        rfl
      rw [told_eq ba bb bc bd ba bb bc bd] at ey0
      rw [told_eq ba bb bc bd bb ba bd bc] at ey1
      rw [told_eq ba bb bc bd bd bc bb ba] at ey2
      have hl10 := e10.lst
      simp only [List.map_cons, List.map_nil, ey0, ey1, ey2] at hl10
      have F10 := F9.keeps e10.keep
      have N10 := newsAdd F9 N9 e10.keep e10.new hl10
      clear e10 ey0 ey1 ey2 hv0 hv1 hv2 F9 N9 hl9 c9
      dsimp only
      k_steps
      rename Fr _ _ _ _ => F11
      rename News _ _ _ (_ :: _) => N11
      exact hQ _ _ _ _ _ _ _ _ F11.keep (N11 _ (.head _)).2.2 (N11.get (.head _))
end Mine
end

section
open PySem PySem.W PyProof.Rows PySem.Calls
set_option maxRecDepth 100000
namespace Mine
theorem dummy9 : (PySem.Challenge.rw_pe0015_02, hd.heap_39) = (PySem.Challenge.rw_pe0015_02, hd.heap_39) := by
  k_fill
  rfl
local macro_rules | `(tactic| walk_at "eval Name") => `(tactic| (with_reducible show wpAny _ _ (eval (Expr.Name _ _) (cenvX _ _ _ _)) _ _ _; first
  | with_unfolding_all refine nmL (by with_reducible assumption) (by with_reducible assumption) ?_
  | with_unfolding_all refine nmC (by rfl) (by with_reducible assumption) ?_
  | (k_dflt (refine' nmG ?X ?T ?e ?_ ?a ?b ?c ?d; (case X => with_reducible assumption); (case T => with_reducible assumption); (case a => rfl); (case b => rfl); (case c => rfl); (case d => decide); (case e => k_is)))
  | (k_dflt (refine' nmB ?X ?T ?e ?v ?n ?_ ?a ?a2 ?b ?c ?d; (case X => with_reducible assumption); (case T => with_reducible assumption); (case a => rfl); (case a2 => rfl); (case b => rfl); (case c => rfl); (case d => decide); (case e => k_is); (case v => boot_fast); (case n => decide)))))
theorem range1_any {prog : Program} {w : World} {A : Around} {s : Shared} {E Q : Value → Shared → Prop} {n : Int} {t : Tok}
    (h : ∀ h' tk t₁ u₁ v₁, IsRange h' s.heap.objs.size 0 n 1 t₁ u₁ v₁ → Kp s.heap h' → Q (.ref s.heap.objs.size) { s with heap := h', toks := tk }) :
    wpAny (model prog w) A (call (.type "range") [.int n t]) Q E s :=
  call_range_1 (h _ _ _ _ _ (IsRange.new ..) fun _ _ e => Heap.get?_push_of_some _ e)
theorem Four.inj {h : Heap} {l : Addr} {a b c d a' b' c' d' : Int} (x : Four h l a b c d) (y : Four h l a' b' c' d') : a = a' ∧ b = b' ∧ c = c' ∧ d = d' := by
  obtain ⟨ta, tb, tc, td, o, ho, -, n, hn⟩ := x
  obtain ⟨ta', tb', tc', td', o', ho', -, n', hn'⟩ := y
  rw [ho] at ho'
  cases ho'
  rw [hn] at hn'
  simp only [Data.seq.injEq, Array.mk.injEq, List.cons.injEq, Value.int.injEq] at hn'
  obtain ⟨⟨⟨h1, -⟩, ⟨h2, -⟩, ⟨h3, -⟩, ⟨h4, -⟩, -⟩, -⟩ := hn'
  exact ⟨h1, h2, h3, h4⟩
set_option maxHeartbeats 4000000 in
theorem law_told {w : World} {A : Around} {s : Shared} {Q E : Value → Shared → Prop}
    (G : Gd w s.heap) (hroom : A.depth + 2 < recursionLimit) (hh : A.handled = none)
    (l : Addr) (a b c d : Nat) (ba : a < 256) (bb : b < 256) (bc : c < 256) (bd : d < 256) (hl : Four s.heap l a b c d)
    (hQ : ∀ h' tk D k t0 t1 t2 t3, Kp s.heap h' → s.heap.get? D = none → h'.get? D = some (lsObj [Value.int (numN a b c d) t0, .int (numN (a ^^^ a) (b ^^^ b) (c ^^^ c) (d ^^^ d)) t1, .int (numN (a ^^^ b) (b ^^^ a) (c ^^^ d) (d ^^^ c)) t2, .int (numN (a ^^^ d) (b ^^^ c) (c ^^^ b) (d ^^^ a)) t3] k) → Q (.ref D) { s with heap := h', toks := tk }) :
    wpAny (model PySem.Challenge.pw_pe0015_02 w) A (call (.ref 67) [.ref l]) Q E s := by
  have G0 := G
  obtain ⟨X, mean, mg, mb, T⟩ := G
  obtain ⟨hd', dp, fr, gd, un⟩ := A
  obtain rfl : hd' = none := hh
  refine wpAny_call ?_
  k_dflt (refine' enterC (binds := [(Str.ofString "octets", Value.ref l)]) X T ?k6 ?k7 ?kr ?k9 ?kB ?kD ?_ ?c2 ?c3 ?c4; (case k6 => k_is); (case k7 => k_is); (case kr => (dsimp only at *; omega)); (case k9 => exact BindsTo.of_eq rfl); (case kB => exact rfl); (case kD => decide +kernel); (case c2 => exact rfl); (case c3 => exact rfl); (case c4 => exact rfl))
  intro L h₁ tk cells F N Y
  k_cells Y
  dsimp only at *
  obtain ⟨t0, t1, t2, t3, hll⟩ := id hl
  have hl1 : h₁.IsList l [Value.int a t0, .int b t1, .int c t2, .int d t3].toArray := hll.at fun o e => F.keep _ _ e
  k_steps
  rename Fr _ _ _ _ => F1
  rename News _ _ _ (_ :: _) => N1
  refine law_number ?kG ?kr ?kh l a b c d ?kl ?_
  case kG => exact G0.keeps F1.keep
  case kr => show dp + 1 < _; omega
  case kh => rfl
  case kl => exact hl.keeps F1.keep
  intro h2 tk2 t2' hk2
  have F2 := F1.keeps hk2
  have N2 := N1.grown hk2
  have en : (a : Int) + b * 256 + c * 65536 + d * 16777216 = (numN a b c d : Nat) := by unfold numN; omega
  rw [en]
  clear F1 N1
  dsimp only
  k_steps
  with_unfolding_all refine wpAny_of_wpB (wpB_ListComp (cl := [(Str.ofString "octets", L + 1)]) (by rfl) (by rfl) (by decide) ?_)
  refine wpB_of ?_
  k_steps
  rename Fr _ _ _ _ => F3
  rename News _ _ _ (_ :: _) => N3
  rename_i u0 u1 u2 u3 l2 g1 p1 l3 g2 p2 lo g3 p3 g4 ln h3' p4
  rename Obj.data _ = _ => d1
  have c1 : h3'.IsCell (L + 1) (some (.ref l)) := ⟨_, N3.get (by simp), d1⟩
  have hlo : h3'.IsList lo [Value.ref l, .ref l2, .ref l3].toArray := ⟨_, N3.get (.tail _ (.head _)), rfl, 0, rfl⟩
  have f1 : Four h3' l a b c d := hl.keeps F3.keep
  have f2 : Four h3' l2 b a d c := ⟨_, _, _, _, ⟨_, N3.get (.tail _ (.tail _ (.tail _ (.head _)))), rfl, 0, rfl⟩⟩
  have f3 : Four h3' l3 d c b a := ⟨_, _, _, _, ⟨_, N3.get (.tail _ (.tail _ (.head _))), rfl, 0, rfl⟩⟩
  with_unfolding_all refine comp_list true (by rfl) hlo (by rw [sizeLine_eq]; exact Nat.le_of_ble_eq_true rfl) (fun C v h => h.IsCell (C + 1) (some v)) (fun v y own => own = [] ∧ ∃ (l' : Addr) (a' b' c' d' : Nat) (ty : Tok), v = .ref l' ∧ Four h3' l' a' b' c' d' ∧ y = .int (numN (a ^^^ a') (b ^^^ b') (c ^^^ c') (d ^^^ d') : Nat) ty) (fun _ _ _ _ _ _ h => wpAny_pure h) (tg_cell (c := fun C => C + 1) (fun _ => by rfl) (fun C => List.mem_singleton.mpr rfl) (by rfl) (by rfl)) (fun _ _ _ tk₃ _ _ _ => wpAny_tests_nil ⟨rfl, tk₃, rfl⟩) ?_ ?_
  · rintro C v h₃ tk₃ hC hv - hcv hk
    have hvw : ∃ (l' : Addr) (a' b' c' d' : Nat), v = .ref l' ∧ Four h3' l' a' b' c' d' := by
      simp only [List.mem_cons, List.not_mem_nil, or_false] at hv
      rcases hv with rfl | rfl | rfl
      · exact ⟨_, _, _, _, _, rfl, f1⟩
      · exact ⟨_, _, _, _, _, rfl, f2⟩
      · exact ⟨_, _, _, _, _, rfl, f3⟩
    obtain ⟨l', a', b', c', d', rfl, f'⟩ := hvw
    obtain ⟨v0, v1, v2, v3, hl'⟩ := f'.keeps hk
    obtain ⟨w0, w1, w2, w3, hlw⟩ := f1.keeps hk
    have c3 : h₃.IsCell (L + 1) (some (.ref l)) := c1.keeps hk
    have G3 := (G0.keeps F3.keep).keeps hk
    obtain ⟨X3, mean3, mg3, mb3, T3⟩ := id G3
    refine elt_B (wpB_Call ?_)
    k_steps
    k_dflt (refine' callWithB_fn (K := hd.heap_39 w.params) ?kk ?_; (case kk => k_is))
    refine wpB_args_cons ?_
    with_unfolding_all refine wpB_ListComp (cl := [(Str.ofString "order", C + 1), (Str.ofString "octets", L + 1)]) (by rfl) (by rfl) (by decide) ?_
    refine wpB_of ?_
    k_steps
    refine range1_any fun h6 tk6 ta6 tb6 tc6 rg hk6 => ?_
    dsimp only
    with_unfolding_all refine comp_range (n := 4) (by rfl) rg (by decide) (by decide) (by decide) (TgL (Str.ofString "k")) (fun i y own => own = [] ∧ ∃ t, y = .int (Builtin.bitXor ([(a : Int), b, c, d].getD i 0) ([(a' : Int), b', c', d'].getD i 0)) t) (fun _ _ _ _ _ _ h => wpAny_pure h) (tg_local (by rfl) (by rfl)) ?_ ?_
    · rintro C2 i tt h₅ tk₅ hC2 hi ⟨m, hm, hmx⟩ hk5
      have c5 : h₅.IsCell (L + 1) (some (.ref l)) := (c3.keeps hk6).keeps hk5
      have c6 : h₅.IsCell (C + 1) (some (.ref l')) := (hcv.keeps hk6).keeps hk5
      have hl5 : h₅.IsList l' [Value.int a' v0, .int b' v1, .int c' v2, .int d' v3].toArray := hl'.at fun o e => hk5 _ o (hk6 _ o e)
      have hl6 : h₅.IsList l [Value.int a w0, .int b w1, .int c w2, .int d w3].toArray := hlw.at fun o e => hk5 _ o (hk6 _ o e)
      have h4 : i = 0 ∨ i = 1 ∨ i = 2 ∨ i = 3 := by omega
      refine elt_any ?_
      clear f1 f2 f3 f' hlo hl1 hll hl' hlw
      rcases h4 with rfl | rfl | rfl | rfl
      · rw [show (0 : Int) + ((0 : Nat) : Int) * 1 = 0 from by decide] at hmx
        k_steps
        exact EltEnd.plain (fun _ _ e => e) ⟨rfl, _, rfl⟩
      · rw [show (0 : Int) + ((1 : Nat) : Int) * 1 = 1 from by decide] at hmx
        k_steps
        exact EltEnd.plain (fun _ _ e => e) ⟨rfl, _, rfl⟩
      · rw [show (0 : Int) + ((2 : Nat) : Int) * 1 = 2 from by decide] at hmx
        k_steps
        exact EltEnd.plain (fun _ _ e => e) ⟨rfl, _, rfl⟩
      · rw [show (0 : Int) + ((3 : Nat) : Int) * 1 = 3 from by decide] at hmx
        k_steps
        exact EltEnd.plain (fun _ _ e => e) ⟨rfl, _, rfl⟩
    · intro D h' tk' k rows hc
      obtain ⟨r0, r1, r2, r3, rfl⟩ := four_of hc.len
      obtain ⟨-, x0, e0⟩ := hc.each 0 r0 rfl
      obtain ⟨-, x1, e1⟩ := hc.each 1 r1 rfl
      obtain ⟨-, x2, e2⟩ := hc.each 2 r2 rfl
      obtain ⟨-, x3, e3⟩ := hc.each 3 r3 rfl
      have hlD := hc.lst
      have e0' : r0.fst = .int (a ^^^ a' : Nat) x0 := e0.trans (by rw [← bitXor_nat]; rfl)
      have e1' : r1.fst = .int (b ^^^ b' : Nat) x1 := e1.trans (by rw [← bitXor_nat]; rfl)
      have e2' : r2.fst = .int (c ^^^ c' : Nat) x2 := e2.trans (by rw [← bitXor_nat]; rfl)
      have e3' : r3.fst = .int (d ^^^ d' : Nat) x3 := e3.trans (by rw [← bitXor_nat]; rfl)
      simp only [List.map_cons, List.map_nil, e0', e1', e2', e3'] at hlD
      refine wpB_args_nil ⟨(G3.keeps fun b o e => hc.keep b o (hk6 b o e)).1, ?_⟩
      refine wpB_of (law_number ?kG ?kr ?kh D (a ^^^ a' : Nat) (b ^^^ b' : Nat) (c ^^^ c' : Nat) (d ^^^ d' : Nat) ?kl ?_)
      case kG => exact G3.keeps fun b o e => hc.keep b o (hk6 b o e)
      case kr => show dp + 1 < _; omega
      case kh => rfl
      case kl => exact ⟨x0, x1, x2, x3, ⟨_, hlD, rfl, k, rfl⟩⟩
      intro h7 tk7 t7 hk7
      refine EltEnd.plain (fun b o e => hk7 b o (hc.keep b o (hk6 b o e))) ⟨rfl, l', a', b', c', d', t7, rfl, f', ?_⟩
      congr 1
      unfold numN
      omega
  · intro D10 h10 tk10 k10 rows10 e10
    obtain ⟨r0, r1, r2, er⟩ : ∃ r0 r1 r2, rows10 = [r0, r1, r2] := by
      have := e10.len
      match rows10, this with
      | [r0, r1, r2], _ => exact ⟨r0, r1, r2, rfl⟩
    subst er
    obtain ⟨v0, hv0, -, m0, a0, b0, c0, d0, z0, ev0, q0, ey0⟩ := e10.each 0 r0 rfl
    obtain ⟨v1, hv1, -, m1, a1, b1, c1, d1, z1, ev1, q1, ey1⟩ := e10.each 1 r1 rfl
    obtain ⟨v2, hv2, -, m2, a2, b2, c2, d2, z2, ev2, q2, ey2⟩ := e10.each 2 r2 rfl
    simp only [List.getElem?_cons_succ, List.getElem?_cons_zero, Option.some.injEq] at hv0 hv1 hv2
    rw [← hv0] at ev0
    rw [← hv1] at ev1
    rw [← hv2] at ev2
    cases ev0
    cases ev1
    cases ev2
    have i0 := q0.inj f1
    have i1 := q1.inj f2
    have i2 := q2.inj f3
    obtain ⟨g0, g1, g2, g3⟩ : a0 = a ∧ b0 = b ∧ c0 = c ∧ d0 = d := by omega
    rw [g0, g1, g2, g3] at ey0
    obtain ⟨g0, g1, g2, g3⟩ : a1 = b ∧ b1 = a ∧ c1 = d ∧ d1 = c := by omega
    rw [g0, g1, g2, g3] at ey1
    obtain ⟨g0, g1, g2, g3⟩ : a2 = d ∧ b2 = c ∧ c2 = b ∧ d2 = a := by omega
    rw [g0, g1, g2, g3] at ey2
    have hl10 := e10.lst
    simp only [List.map_cons, List.map_nil, ey0, ey1, ey2] at hl10
    have F10 := F3.keeps e10.keep
    have N10 := newsAdd F3 N3 e10.keep e10.new hl10
    clear F3 N3 hlo hl1
    dsimp only
    k_steps
    rename Fr _ _ _ _ => F11
    rename News _ _ _ (_ :: _) => N11
    exact hQ _ _ _ _ _ _ _ _ F11.keep (N11 _ (.head _)).2.2 (N11.get (.head _))
end Mine
end

section
open PySem PySem.W PyProof.Rows PySem.Calls PySem.SeqAt
set_option maxRecDepth 100000
namespace Mine
theorem dummy10 : (PySem.Challenge.rw_pe0015_02, hd.heap_39) = (PySem.Challenge.rw_pe0015_02, hd.heap_39) := by
  k_fill
  rfl
local macro_rules | `(tactic| walk_at "eval Name") => `(tactic| (with_reducible show wpAny _ _ (eval (Expr.Name _ _) (cenvX _ _ _ _)) _ _ _; first
  | with_unfolding_all refine nmL (by with_reducible assumption) (by with_reducible assumption) ?_
  | with_unfolding_all refine nmC (by rfl) (by with_reducible assumption) ?_
  | (k_dflt (refine' nmG ?X ?T ?e ?_ ?a ?b ?c ?d; (case X => with_reducible assumption); (case T => with_reducible assumption); (case a => rfl); (case b => rfl); (case c => rfl); (case d => decide); (case e => k_is)))
  | (k_dflt (refine' nmB ?X ?T ?e ?v ?n ?_ ?a ?a2 ?b ?c ?d; (case X => with_reducible assumption); (case T => with_reducible assumption); (case a => rfl); (case a2 => rfl); (case b => rfl); (case c => rfl); (case d => decide); (case e => k_is); (case v => boot_fast); (case n => decide)))))
/-- the four numbers that are asked of a row -/
def AskN (a b c d : Nat) : List Int := [(numN a b c d : Nat), (numN (a ^^^ a) (b ^^^ b) (c ^^^ c) (d ^^^ d) : Nat), (numN (a ^^^ b) (b ^^^ a) (c ^^^ d) (d ^^^ c) : Nat), (numN (a ^^^ d) (b ^^^ c) (c ^^^ b) (d ^^^ a) : Nat)]
inductive RowsAre (h : Heap) : List Value → List (List Int) → Prop
  | nil : RowsAre h [] []
  | cons {D : Addr} {ws : List Value} {ns : List Int} {vs : List Value} {nss : List (List Int)} (hl : h.IsList D ws.toArray) (hi : IntsAre ws ns) (r : RowsAre h vs nss) : RowsAre h (.ref D :: vs) (ns :: nss)
def rowsD (nss : List (List Int)) : List PyData := nss.map fun ns => .list (ns.map PyData.int)
theorem RowsAre.reads {h : Heap} : ∀ {vs : List Value} {nss : List (List Int)}, RowsAre h vs nss → ∃ as, ReadsAll h vs (rowsD nss) as
  | _, _, .nil => ⟨_, .nil⟩
  | _, _, .cons hl hi r => let ⟨as, x⟩ := r.reads; ⟨_, .cons (reads_of_ints hl hi) x⟩
theorem lay_rows : ∀ nss : List (List Int), PyData.canLayAll0 (rowsD nss) = true
  | [] => rfl
  | ns :: r => by
    simp only [rowsD, List.map_cons, PyData.canLayAll0, PyData.canLay0, Bool.and_eq_true]
    exact ⟨canLayAll0_ints ns, lay_rows r⟩
theorem depth_rows : ∀ nss : List (List Int), PyData.depthAll (rowsD nss) ≤ 2
  | [] => by simp [rowsD, PyData.depthAll]
  | ns :: r => by
    have h1 := depth_rows r
    have h2 := W.depthAll_ints ns
    simp only [rowsD, List.map_cons, PyData.depthAll, PyData.depth] at h1 ⊢
    omega
theorem eq_rows {prog : Program} {w : World} {A : Around} {s : Shared} {E Q : Value → Shared → Prop} {a b : Addr} {vs us : List Value} {nss : List (List Int)} (hl : s.heap.IsList a vs.toArray) (hl' : s.heap.IsList b us.toArray) (h1 : RowsAre s.heap vs nss) (h2 : RowsAre s.heap us nss) (hu : A.units + 64 < cLine)
    (h : Q (.bool true) s) : wpAny (model prog w) A (compareOp .Eq (.ref a) (.ref b)) Q E s := by
  obtain ⟨as, r1⟩ := h1.reads
  obtain ⟨bs, r2⟩ := h2.reads
  obtain ⟨o, ho, hc, n, hd⟩ := hl
  obtain ⟨o', ho', hc', n', hd'⟩ := hl'
  have l0 : PyData.canLay0 (.list (rowsD nss)) = true := by simp only [PyData.canLay0]; exact lay_rows nss
  have sh : shaped (.list (rowsD nss)) = true := by
    have h1 := depth_rows nss
    have h2 : PyData.depth (.list (rowsD nss)) ≤ 64 := by simp only [PyData.depth]; omega
    show (PyData.canLay0 (.list (rowsD nss)) && decide (PyData.depth (.list (rowsD nss)) ≤ 64)) = true
    rw [Bool.and_eq_true]
    exact ⟨l0, decide_eq_true h2⟩
  exact eq_dataH (reads_list_at ho hc hd (by simpa using r1)) (reads_list_at ho' hc' hd' (by simpa using r2)) sh sh hu (by rw [eqv_refl _ l0]; exact h)
def RowG (h3 : Heap) (v y : Value) (own : List (Addr × Obj)) : Prop :=
  ∃ (r : Addr) (a b c d : Nat) (D : Addr) (k : Nat) (t0 t1 t2 t3 : Tok), v = .ref r ∧ Four h3 r a b c d ∧ y = .ref D ∧ own = [(D, lsObj [Value.int (numN a b c d) t0, .int (numN (a ^^^ a) (b ^^^ b) (c ^^^ c) (d ^^^ d)) t1, .int (numN (a ^^^ b) (b ^^^ a) (c ^^^ d) (d ^^^ c)) t2, .int (numN (a ^^^ d) (b ^^^ c) (c ^^^ b) (d ^^^ a)) t3] k)]
theorem RowG.ends {s : Shared} {h₀ h₃ h₄ : Heap} {tk : Nat} {r : Addr} {a b c d : Nat} {D : Addr} {k : Nat} {t0 t1 t2 t3 : Tok} (hf : Four h₀ r a b c d) (hk : Kp h₃ h₄) (hn : h₃.get? D = none) (hg : h₄.get? D = some (lsObj [Value.int (numN a b c d) t0, .int (numN (a ^^^ a) (b ^^^ b) (c ^^^ c) (d ^^^ d)) t1, .int (numN (a ^^^ b) (b ^^^ a) (c ^^^ d) (d ^^^ c)) t2, .int (numN (a ^^^ d) (b ^^^ c) (c ^^^ b) (d ^^^ a)) t3] k)) :
    EltEnd s h₃ (RowG h₀ (.ref r)) (.ref D) { s with heap := h₄, toks := tk } :=
  ⟨h₄, tk, _, rfl, hk, ⟨r, a, b, c, d, D, k, t0, t1, t2, t3, rfl, hf, rfl, rfl⟩, fun q hq => by
    rw [List.mem_singleton.mp hq]
    exact ⟨hn, hg⟩⟩
theorem rows_are {h₀ h' : Heap} : ∀ (rs : List Value) (rows1 rows2 : List (Value × List (Addr × Obj))), rows1.length = rs.length → rows2.length = rs.length →
    (∀ (i : Nat) (r : Value × List (Addr × Obj)), rows1[i]? = some r → ∃ v, rs[i]? = some v ∧ RowG h₀ v r.1 r.2) → (∀ (i : Nat) (r : Value × List (Addr × Obj)), rows2[i]? = some r → ∃ v, rs[i]? = some v ∧ RowG h₀ v r.1 r.2) →
    (∀ r ∈ rows1, ∀ q ∈ r.2, h'.get? q.1 = some q.2) → (∀ r ∈ rows2, ∀ q ∈ r.2, h'.get? q.1 = some q.2) →
    ∃ nss, RowsAre h' (rows1.map (·.1)) nss ∧ RowsAre h' (rows2.map (·.1)) nss
  | [], [], [], _, _, _, _, _, _ => ⟨[], .nil, .nil⟩
  | v :: rs, r1 :: rows1, r2 :: rows2, l1, l2, e1, e2, o1, o2 => by
    obtain ⟨nss, i1, i2⟩ := rows_are rs rows1 rows2 (by simpa using l1) (by simpa using l2) (fun i r h => by simpa using e1 (i + 1) r (by simpa using h)) (fun i r h => by simpa using e2 (i + 1) r (by simpa using h))
      (fun r hr => o1 r (.tail _ hr)) (fun r hr => o2 r (.tail _ hr))
    obtain ⟨v1, hv1, x, a, b, c, d, D, k, t0, t1, t2, t3, ev, hf, ey, eo⟩ := e1 0 r1 rfl
    obtain ⟨v2, hv2, x', a', b', c', d', D', k', t0', t1', t2', t3', ev', hf', ey', eo'⟩ := e2 0 r2 rfl
    simp only [List.getElem?_cons_zero, Option.some.injEq] at hv1 hv2
    subst hv1
    subst hv2
    rw [ev] at ev'
    cases ev'
    obtain ⟨h1, h2, h3, h4⟩ := hf.inj hf'
    obtain rfl : a = a' := by omega
    obtain rfl : b = b' := by omega
    obtain rfl : c = c' := by omega
    obtain rfl : d = d' := by omega
    have g1 := o1 r1 (.head _) (D, _) (by rw [eo]; exact .head _)
    have g2 := o2 r2 (.head _) (D', _) (by rw [eo']; exact .head _)
    refine ⟨AskN a b c d :: nss, ?_, ?_⟩
    · rw [List.map_cons, ey]
      exact .cons ⟨_, g1, rfl, k, rfl⟩ (.cons _ _ (.cons _ _ (.cons _ _ (.cons _ _ .nil)))) i1
    · rw [List.map_cons, ey']
      exact .cons ⟨_, g2, rfl, k', rfl⟩ (.cons _ _ (.cons _ _ (.cons _ _ (.cons _ _ .nil)))) i2
set_option maxHeartbeats 4000000 in
theorem law_law {w : World} {A : Around} {s : Shared} {Q E : Value → Shared → Prop}
    (G : Gd w s.heap) (hroom : A.depth + 3 < recursionLimit) (hh : A.handled = none) (hg : A.guards = some []) (hun : A.units + 128 < cLine)
    (l : Addr) (vs : List Value) (ns : List Int) (hl : s.heap.IsList l vs.toArray) (hi : IntsAre vs ns) (hlen : ns.length ≤ 63)
    (hQ : ∀ h' tk, Kp s.heap h' → Q (.bool true) { s with heap := h', toks := tk }) :
    wpB true (model PySem.Challenge.pw_pe0015_02 w) A (call (.ref 72) [.ref l]) Q E s := by
  have G0 := G
  obtain ⟨X, mean, mg, mb, T⟩ := G
  obtain ⟨hd', dp, fr, gd, un⟩ := A
  obtain rfl : hd' = none := hh
  refine wpB_call ?_
  k_dflt (refine' enterPB (binds := [(Str.ofString "script", Value.ref l)]) X T ?k6 ?k7 ?kr ?k9 ?kB ?_ ?c2 ?c3 ?c4 ?c5; (case k6 => k_is); (case k7 => k_is); (case kr => (dsimp only at *; omega)); (case k9 => exact BindsTo.of_eq rfl); (case kB => exact locs rfl); (case c2 => exact rfl); (case c3 => exact rfl); (case c4 => exact rfl); (case c5 => decide))
  intro L h₁ F N
  dsimp only at *
  refine wpB_execs_cons (wpB_of ?_)
  k_steps
  rename Fr _ _ _ _ => F0
  rename News _ _ _ _ => N0
  refine law_drawn ?kG ?kr ?kh l vs ns ?kl hi hlen ?_
  case kG => exact G0.keeps F0.keep
  case kr => show dp + 1 < _; omega
  case kh => rfl
  case kl => exact hl.at fun o e => F0.keep _ _ e
  intro h2 tk2 D2 k2 rs hk2 hn2 hg2 hr2 hrow
  have F2 := F0.keeps hk2
  have hD2L : D2 ≠ L := by
    rintro rfl
    obtain ⟨o, _, _, ho, _⟩ := F0.ns
    rw [hn2] at ho; cases ho
  have hrL : ∀ r ∈ rs, r ≠ L := by
    rintro r hr rfl
    obtain ⟨o, _, _, ho, _⟩ := F0.ns
    rw [(hrow r hr).2] at ho; cases ho
  clear F0 N0
  dsimp only
  with_unfolding_all refine wpAny_storeName_local (by rfl) F2.ns (fun h3 hn3 hs3 => ?_) (by rfl)
  have F3 := F2.set hn3 hs3
  have hg3 : h3.get? D2 = some (lsObj (rs.map Value.ref) k2) := (hs3.2 _ hD2L).trans hg2
  have hrow3 : ∀ r ∈ rs, ∃ a b c d : Nat, a < 256 ∧ b < 256 ∧ c < 256 ∧ d < 256 ∧ Four h3 r a b c d := fun r hr => by
    obtain ⟨a, b, c, d, ba, bb, bc, bd, ta, tb, tc, td, o, ho, hc, hx⟩ := (hrow r hr).1
    exact ⟨a, b, c, d, ba, bb, bc, bd, ta, tb, tc, td, o, (hs3.2 _ (hrL r hr)).trans ho, hc, hx⟩
  clear F2 hn2 hg2 hk2 hs3 hn3
  dsimp only at F3 ⊢
  refine wpB_execs_cons (wpB_Return (wpB_Compare1 ?_))
  with_unfolding_all refine wpB_ListComp (cl := []) (by rfl) (by rfl) (by decide) ?_
  refine wpB_of ?_
  k_steps
  have hlen3 : (rs.map Value.ref).length ≤ sizeLine := by rw [List.length_map, sizeLine_eq]; omega
  with_unfolding_all refine comp_list true (by rfl) ⟨_, hg3, rfl, k2, rfl⟩ hlen3 (TgL (Str.ofString "octets")) (RowG h3) (fun _ _ _ _ _ _ h => wpAny_pure h) (tg_local (by rfl) (by rfl)) (fun _ _ _ tk₃ _ _ _ => wpAny_tests_nil ⟨rfl, tk₃, rfl⟩) ?_ ?_
  · rintro C v h₃ tk₃ hC hv - ⟨m, hm, hmx⟩ hk
    obtain ⟨r, hr, rfl⟩ := List.mem_map.mp hv
    obtain ⟨a, b, c, d, ba, bb, bc, bd, hf⟩ := hrow3 r hr
    have G3 := (G0.keeps F3.keep).keeps hk
    obtain ⟨X3, mean3, mg3, mb3, T3⟩ := id G3
    refine elt_B (wpB_Call ?_)
    k_steps
    k_dflt (refine' wpB_callWith_fn (K := hd.heap_39 w.params) ?kk ?_; (case kk => k_is))
    k_steps
    refine law_run ?kG ?kr ?kh ?kg r a b c d ba bb bc bd ?kf ?_
    case kG => exact G3
    case kr => show dp + 1 + 2 < _; omega
    case kh => rfl
    case kg => exact hg
    case kf => exact hf.keeps hk
    intro h' tk' D k t0 t1 t2 t3 hk' hn' hg'
    exact RowG.ends hf hk' hn' hg'
  · intro D4 h4 tk4 k4 rows4 e4
    have F4 := F3.keeps e4.keep
    have hg4 := e4.keep _ _ hg3
    try dsimp only
    with_unfolding_all refine wpB_ListComp (cl := []) (by rfl) (by rfl) (by decide) ?_
    refine wpB_of ?_
    try dsimp only at F4
    k_steps
    with_unfolding_all refine comp_list true (by rfl) ⟨_, hg4, rfl, k2, rfl⟩ hlen3 (TgL (Str.ofString "octets")) (RowG h3) (fun _ _ _ _ _ _ h => wpAny_pure h) (tg_local (by rfl) (by rfl)) (fun _ _ _ tk₃ _ _ _ => wpAny_tests_nil ⟨rfl, tk₃, rfl⟩) ?_ ?_
    · rintro C v h₃ tk₃ hC hv - ⟨m, hm, hmx⟩ hk
      obtain ⟨r, hr, rfl⟩ := List.mem_map.mp hv
      obtain ⟨a, b, c, d, ba, bb, bc, bd, hf⟩ := hrow3 r hr
      have G3 := (G0.keeps F4.keep).keeps hk
      obtain ⟨X3, mean3, mg3, mb3, T3⟩ := id G3
      refine elt_any ?_
      k_steps
      refine law_told ?kG ?kr ?kh r a b c d ba bb bc bd ?kf ?_
      case kG => exact G3
      case kr => show dp + 1 + 2 < _; omega
      case kh => rfl
      case kf => exact (hf.keeps e4.keep).keeps hk
      intro h' tk' D k t0 t1 t2 t3 hk' hn' hg'
      exact RowG.ends hf hk' hn' hg'
    · intro D5 h5 tk5 k5 rows5 e5
      have hl4 := e5.keep _ _ e4.lst
      have hl5 := e5.lst
      obtain ⟨nss, i1, i2⟩ := rows_are (h₀ := h3) (h' := h5) (rs.map Value.ref) rows4 rows5 (by simpa using e4.len) (by simpa using e5.len) e4.each e5.each (fun r hr q hq => e5.keep _ _ (e4.owns r hr q hq).2) (fun r hr q hq => (e5.owns r hr q hq).2)
      have F5 := F4.keeps e5.keep
      try dsimp only at F5 ⊢
      refine eq_rows (vs := rows4.map (·.1)) (us := rows5.map (·.1)) ⟨_, hl4, rfl, k4, rfl⟩ ⟨_, hl5, rfl, k5, rfl⟩ i1 i2 (by show un + _ + 64 < _; have hun' : un + 128 < cLine := hun; omega) ?_
      exact hQ _ _ fun b o e => F5.keep b o e
end Mine
end

section
open PySem PySem.W PyProof.Rows PySem.Calls
set_option maxRecDepth 100000
namespace Mine
theorem dummy11 : (PySem.Challenge.rw_pe0015_02, hd.heap_39) = (PySem.Challenge.rw_pe0015_02, hd.heap_39) := by
  k_fill
  rfl
noncomputable abbrev hk02 : Hook := kHook hd.heap_39 [2, 3, 6, 15, 17, 18, 20, 21, 22, 24, 25, 27, 28, 29, 32, 33, 34, 37, 38, 39, 42, 43, 44, 46, 47, 49, 50, 51, 53, 54, 56, 57, 58, 61, 62, 63, 66, 67, 68, 71, 72] (fun _ => by kernel_rfl)
theorem left02 : LeftO PySem.Challenge.rw_pe0015_02.row.prog hd.view_39 [] (fun s => xlAt hd.view_39 [] s && recOk PySem.Challenge.rw_pe0015_02.row.records s) hk02.obs hk02.val 880 :=
  LeftO.of_pieces (boot_open hd._proof_42 (of_decide_eq_true rfl) hd._proof_43) hd._proof_114 hd._proof_112 (of_decide_eq_true rfl) fun w => funext fun os => hd._proof_146 w os
theorem script_of {w : World} {s₀ : Shared} {h : Heap} {args : List WData} {vs : List Value} {as : List Addr} (hpre : PySem.Challenge.rw_pe0015_02.row.claim.pre args = true) (hlay : WData.layableAll args = true) (hrd : ReadsAllW PySem.Challenge.rw_pe0015_02.row.records (classAt s₀.heap) h vs args as)
    (hwl : WellAll w.params h vs args) (hlo : ∀ a ∈ as, (a == sysModules) = false) :
    ∃ (l : Addr) (us : List Value) (ns : List Int), vs = [.ref l] ∧ h.IsList l us.toArray ∧ IntsAre us ns ∧ ns.length ≤ 63 := by
  wrow_args hpre hlay hrd hwl hlo
  rename IntsAre _ _ => hI
  rename Heap.IsList _ _ _ => hL
  exact ⟨_, _, _, rfl, hL, hI, by omega⟩
theorem walk02 (w : World) (s₀ s₁ : Shared) (mg mb : Str → Option Value) (G : Ground hd.view_39 [] PySem.Challenge.rw_pe0015_02.row.records (XL hd.view_39 []) w s₀ mg mb s₁.heap) (Y : hk02.says w s₁.heap) (f : Value) (hf : mg PySem.Challenge.rw_pe0015_02.row.name = some f)
    (args : List WData) (vs : List Value) (as : List Addr) (hpre : PySem.Challenge.rw_pe0015_02.row.claim.pre args = true) (hlay : WData.layableAll args = true) (hg : s₁.gens = #[]) (hrd : ReadsAllW PySem.Challenge.rw_pe0015_02.row.records (classAt s₀.heap) s₁.heap vs args as)
    (hwl : WellAll w.params s₁.heap vs args) (hlo : ∀ a ∈ as, (a == sysModules) = false) :
    wpB true (model PySem.Challenge.rw_pe0015_02.row.prog w) callerA (PySem.call f vs) (fun v s' => GoodWG PySem.Challenge.rw_pe0015_02.row.claim (classAt s₀.heap) (ExcName.means s₀.heap) args s₁ (.ok (.ret v)) s') (fun _ _ => False) s₁ := by
  obtain ⟨l, us, ns, rfl, hl, hi, hlen⟩ := script_of hpre hlay hrd hwl hlo
  have X : (hd.heap_39 w.params).In s₁.heap := kIn_of Y
  have T := G.T
  have e72 : nsIn (hd.heap_39 w.params) mainGlobals (Str.ofString "law") = some (some (.ref 72)) := by k_is
  obtain rfl : f = .ref 72 := by
    have e := mg_of X T.g e72
    exact Option.some.inj (hf.symm.trans e)
  refine law_law ⟨X, _, _, _, T⟩ (by decide +kernel) rfl rfl (by decide +kernel) l us ns hl hi hlen fun h' tk hk => ?_
  refine ⟨.inl ⟨_, .bool true, [], rfl, fun cls => rfl, .bool true, ?_, fun _ => ⟨.nil, fun a ha => nomatch ha⟩⟩, .of_keep hk, rfl, .of_eq hg⟩
  exact postW_of (r := PySem.Challenge.rw_pe0015_02.row.toRowW) rfl rfl (same_self _)
end Mine
set_option maxRecDepth 100000 in
set_option maxHeartbeats 8000000 in
theorem PySem.Challenge.cw_pe0015_02_holds : PySem.Challenge.rw_pe0015_02.Holds := by
  w_on
  o_law
  exact Mine.holdsB (XP := XL Mine.hd.view_39 []) (YP := Mine.hk02.says) Mine.left02 (Hook.of Mine.hk02) (Hook.keeps Mine.hk02) (fun s e => xl_of s (Bool.and_eq_true_iff.mp e).1) XL.keeps (by rfl) (by rfl) (by rfl) (fun s e => recFacts_of (Bool.and_eq_true_iff.mp e).2) (by rfl) (by assumption) Mine.hd._proof_40 ⟨rfl, rfl, rfl, rfl, rfl, Mine.hd._proof_41⟩ ⟨_, Mine.hd._proof_147, Mine.hd._proof_148⟩ Mine.walk02
end
