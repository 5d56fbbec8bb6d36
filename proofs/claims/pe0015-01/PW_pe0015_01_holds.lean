import PyProof.Rows.All
import Wide.All
import OpenK.AllK
import Wide.FinOn
import PySem.Challenge.RW_pe0015_01
set_option Elab.async false
section
open PySem PySem.W PyProof.Rows PySem.Calls PySem.Spec
set_option maxRecDepth 100000
namespace Mine

/-- a heap keeps another -/
abbrev Kp (h h' : Heap) : Prop := ∀ b o, h.get? b = some o → h'.get? b = some o

theorem enterP {prog : Program} {w : World} {A : Around} {s : Shared} {K : Frag} {p : Program} {loose : List Str} {mean : ExcName → Option Value} {mg mb : Str → Option Value}
    {R : Result → Shared → Prop} {name qual : Str} {params : Arguments} {body : List Stmt} {scope : Scope} {dV kV doc pm cdv ct oc : Value} {an od : Option Addr} {osl : Array (Option Value)} {f : Addr} {args : Args} {binds : List (Str × Value)}
    (X : K.In s.heap) (T : Top p loose mean mg mb s.heap)
    (ho : K.lookup f = some ⟨oc, od, .func (fnOf name qual params body scope dV kV doc pm an cdv ct), osl⟩) (hcd : codeIn K cdv qual = true) (hroom : A.depth < recursionLimit)
    (hbind : BindsTo s (fnOf name qual params body scope dV kV doc pm an cdv ct) args binds) (hloc : ∀ y ∈ binds, scope.names.lookup y.1 = some .local)
    (h : ∀ L h₁, Fr s.heap L h₁ (fun y => binds.reverse.lookup y) → News s.heap L h₁ [] →
      wpAny (model prog w) (A.deeper (envOf qual scope L f cdv)) (execs body (envOf qual scope L f cdv))
        (fun fl s' => R (.ok (.ret (match fl with | .ret v => v | _ => .none))) s') (fun _ _ => False)
        { s with heap := h₁, toks := s.toks + binds.length })
    (hco : scope.isCoroutine = false) (hgen : scope.isGenerator = false) (hk : scope.kind = .function)
    (hcell : ∀ x ∈ scope.names, x.2 ≠ .cell) : codeAny (model prog w) A (.call (.ref f) args) R s := by
  refine codeAny_call_def (fd := fnOf name qual params body scope dV kV doc pm an cdv ct) (body := body) (binds := binds) hroom (X _ _ ho) rfl T.nolimit (codeRec_of X hcd) rfl hbind hcell hloc (fun h₁ hns hk₁ => ?_) hco hgen hk
  exact wpAny_mono (h s.heap.objs.size h₁ ⟨hns, hk₁, Nat.le_refl _⟩ News.nil) (fun fl s' hl => hl) fun _ _ y => y.elim

theorem enterC {prog : Program} {w : World} {A : Around} {s : Shared} {K : Frag} {p : Program} {loose : List Str} {mean : ExcName → Option Value} {mg mb : Str → Option Value}
    {R : Result → Shared → Prop} {name qual : Str} {params : Arguments} {body : List Stmt} {scope : Scope} {dV kV doc pm cdv ct oc : Value} {an od : Option Addr} {osl : Array (Option Value)} {f : Addr} {args : Args} {binds : List (Str × Value)}
    (X : K.In s.heap) (T : Top p loose mean mg mb s.heap)
    (ho : K.lookup f = some ⟨oc, od, .func (fnOf name qual params body scope dV kV doc pm an cdv ct), osl⟩) (hcd : codeIn K cdv qual = true) (hroom : A.depth < recursionLimit)
    (hbind : BindsTo s (fnOf name qual params body scope dV kV doc pm an cdv ct) args binds)
    (hkind : (binds.all fun y => scope.names.lookup y.1 == some .local || scope.names.lookup y.1 == some .cell) = true)
    (hnd : ((cellsFrom 0 scope.names []).map (·.1)).Nodup)
    (h : ∀ L h₁ tk cells, Fr s.heap L h₁ (bindL (envOfC qual scope L f cdv).kindOf binds fun _ => none) → News s.heap L h₁ cells →
      CellsAre (bindC (envOfC qual scope L f cdv).kindOf binds fun _ => none) (cellsFrom (L + 1) scope.names []) cells →
      wpAny (model prog w) (A.deeper (envOfC qual scope L f cdv)) (execs body (envOfC qual scope L f cdv))
        (fun fl s' => R (.ok (.ret (match fl with | .ret v => v | _ => .none))) s') (fun _ _ => False)
        { s with heap := h₁, toks := tk })
    (hco : scope.isCoroutine = false) (hgen : scope.isGenerator = false) (hk : scope.kind = .function) :
    codeAny (model prog w) A (.call (.ref f) args) R s := by
  refine codeAny_call_function hroom (X _ _ ho) rfl hco hgen rfl (codeRec_of X hcd) (hbind _ _ _ _ ?_)
  refine wpAny_newFunctionEnv_cells hk (kindsX hkind _) fun env' he s' x => ?_
  subst he
  refine ⟨T.nolimit.keeps x.toInCall.keep, codeAny_func ?_⟩
  obtain ⟨h₁, tk, rfl, _⟩ := x.done
  have hk₁ := x.toInCall.keep
  obtain ⟨cells, NC, Y⟩ := Cl.news (h₀ := s.heap) (Nat.le_refl _) fun n c hm => ⟨x.cell n c (lookup_of_mem_nodup (cellsFrom_names scope.names 0 (s.heap.objs.size + 1) [] [] rfl ▸ hnd) hm), x.above n c hm⟩
  exact wpAny_mono (h s.heap.objs.size h₁ tk cells ⟨x.toInCall.ns, hk₁, Nat.le_refl _⟩ NC Y) (fun fl s' hl => hl) fun _ _ y => y.elim

theorem band1 (n : Int) : Builtin.bitAnd n 1 = n % 2 := by
  have h := kbt_mask n 1
  simpa using h

def crcStep (n : Int) : Int := if n % 2 = 1 then Builtin.bitXor (n / 2) 3988292384 else n / 2
theorem crcStep_odd {a : Int} (h : Builtin.bitAnd a 1 ≠ 0) : crcStep a = Builtin.bitXor (a.fdiv (2 ^ (1 : Int).toNat)) 3988292384 := by
  rw [band1] at h
  unfold crcStep
  rw [if_pos (by omega), Int.fdiv_eq_ediv_of_nonneg _ (by decide)]
  rfl
theorem crcStep_even {a : Int} (h : Builtin.bitAnd a 1 = 0) : crcStep a = a.fdiv (2 ^ (1 : Int).toNat) := by
  rw [band1] at h
  unfold crcStep
  rw [if_neg (by omega), Int.fdiv_eq_ediv_of_nonneg _ (by decide)]
  rfl
def crc8 (n : Int) : Int := (rangeKs 0 8).foldl (fun a _ => crcStep a) n
end Mine
end

section
open PySem PySem.W PyProof.Rows PySem.Calls
set_option maxRecDepth 100000
namespace Mine
open Sem (wp)

/-- a call of a decoder that holds its argument (what bytearray.__init__ looks for on the stack) -/
def isDec : Code → Bool
  | .builtin id _ => Builtin.Bytes.decodersThatHold.contains id
  | _ => false
/-- no decoder on the stack below -/
def NdB (Γ : Ctx) : Prop := ∀ x ∈ Γ.below, isDec x.1 = false
def Nd (Γ : Ctx) : Prop := isDec Γ.code = false ∧ NdB Γ

/-- as wpAny; with the flag: over the contexts whose stack holds no decoder -/
def wpB (b : Bool) {α : Type} (M : Model) (A : Around) (t : Sem α) (Q : α → Shared → Prop) (E : Value → Shared → Prop) (s : Shared) : Prop :=
  ∀ Γ p, Γ.In A → (b = true → Nd Γ) → wp M Γ t (fun a _ s' => Q a s') (fun e _ s' => E e s') p s
def codeB (b : Bool) (M : Model) (A : Around) (c : Code) (R : Result → Shared → Prop) (s : Shared) : Prop :=
  ∀ Γ p, Γ.code = c → Γ.Below A → (b = true → NdB Γ) → wpCode M Γ R p s

section
variable {b : Bool} {α β : Type} {M : Model} {A : Around} {E : Value → Shared → Prop} {s : Shared}

theorem wpB_of {t : Sem α} {Q : α → Shared → Prop} (h : wpAny M A t Q E s) : wpB b M A t Q E s := fun Γ p hΓ _ => h Γ p hΓ
theorem wpAny_of_wpB {t : Sem α} {Q : α → Shared → Prop} (h : wpB false M A t Q E s) : wpAny M A t Q E s := fun Γ p hΓ => h Γ p hΓ (fun e => by cases e)
theorem codeB_of {c : Code} {R : Result → Shared → Prop} (h : codeAny M A c R s) : codeB b M A c R s := fun Γ p hc hΓ _ => h Γ p hc hΓ
theorem wpB_pure {a : α} {Q : α → Shared → Prop} (h : Q a s) : wpB b M A (pure a) Q E s := fun _ _ _ _ => h
theorem wpB_mono {t : Sem α} {Q Q' : α → Shared → Prop} {E' : Value → Shared → Prop} (h : wpB b M A t Q E s) (hQ : ∀ a s, Q a s → Q' a s) (hE : ∀ e s, E e s → E' e s) : wpB b M A t Q' E' s :=
  fun Γ p hΓ hN => Sem.wp_mono M Γ t (fun a _ s => hQ a s) (fun e _ s => hE e s) p s (h Γ p hΓ hN)
theorem wpB_bind {m : Sem α} {f : α → Sem β} {Q : β → Shared → Prop} (h : wpB b M A m (fun a s' => wpB b M A (f a) Q E s') E s) : wpB b M A (m >>= f) Q E s := fun Γ p hΓ hN => by
  rw [Sem.wp_bind']
  exact Sem.wp_mono M Γ m (fun a p' s' h' => h' Γ p' hΓ hN) (fun _ _ _ h' => h') p s (h Γ p hΓ hN)
/-- the first part by the library's rules, the rest in ours -/
theorem wpB_bindA {m : Sem α} {f : α → Sem β} {Q : β → Shared → Prop} (h : wpAny M A m (fun a s' => wpB b M A (f a) Q E s') E s) : wpB b M A (m >>= f) Q E s := wpB_bind (wpB_of h)
theorem wpB_holding {vs : List Value} {m : Sem α} {Q : α → Shared → Prop} (h : wpB b M A m Q E s) : wpB b M A (holding vs m) Q E s :=
  fun Γ p hΓ hN => by rw [Sem.wp_holding]; exact h Γ p hΓ hN
theorem wpB_attempt {m : Sem α} {Q : Except Value α → Shared → Prop} (h : wpB b M A m (fun a => Q (.ok a)) (fun e => Q (.error e)) s) : wpB b M A m.attempt Q E s :=
  fun Γ p hΓ hN => by rw [Sem.wp_attempt]; exact h Γ p hΓ hN
theorem wpB_onRaise {m : Sem α} {k : Value → Sem Unit} {Q : α → Shared → Prop} (h : wpB b M A m Q (fun _ _ => False) s) : wpB b M A (m.onRaise k) Q E s := fun Γ p hΓ hN => by
  rw [Sem.wp_onRaise]
  exact Sem.wp_mono M Γ m (fun _ _ _ h' => h') (fun e p' s' h' => h'.elim) p s (h Γ p hΓ hN)
theorem wpB_eq {t t' : Sem α} {Q : α → Shared → Prop} (e : t = t') (h : wpB b M A t' Q E s) : wpB b M A t Q E s := by rw [e]; exact h
theorem wpB_ite {c : Prop} [Decidable c] {x y : Sem α} {Q : α → Shared → Prop} (h1 : c → wpB b M A x Q E s) (h2 : ¬ c → wpB b M A y Q E s) : wpB b M A (if c then x else y) Q E s := by
  split
  · exact h1 (by assumption)
  · exact h2 (by assumption)

theorem nd_enter {Γ : Ctx} (h : Nd Γ) (c : Code) (hd : Option Value) (p : Pos) : NdB (Γ.enter c hd p) := fun x hx => by
  have : x ∈ (Γ.code, p) :: Γ.below := hx
  rcases List.mem_cons.mp this with rfl | hx
  · exact h.1
  · exact h.2 x hx
theorem wpB_run {c : Code} {h : Option Value} {Q : Flow → Shared → Prop} (hc : codeB b M (A.mark h) c (fun r s' => match r with | .ok f => Q f s' | .error e => E e s') s) (hnb : h ≠ some byPass := by intro x; cases x) : wpB b M A (run c h) Q E s :=
  fun Γ p hΓ hN => by rw [Sem.wp_run]; exact hc _ p rfl (hΓ.enter c h p hnb) fun e => nd_enter (hN e) c h p
theorem wpB_call {f : Value} {pos : List Value} {kw : List (Str × Value)} {Q : Value → Shared → Prop}
    (hc : codeB b M A (.call f ⟨pos, kw⟩) (fun r s' => match r with | .ok (.ret v) => Q v s' | .ok _ => False | .error e => E e s') s) : wpB b M A (call f pos kw) Q E s :=
  fun Γ p hΓ hN => by unfold call; rw [Sem.wp_runValue]; exact hc _ p rfl (hΓ.enter _ none p (by intro x; cases x)) fun e => nd_enter (hN e) _ none p
theorem codeB_mono {c : Code} {R R' : Result → Shared → Prop} (h : codeB b M A c R s) (hR : ∀ r s, R r s → R' r s) : codeB b M A c R' s :=
  fun Γ p hc hΓ hN => wpCode_mono hR (h Γ p hc hΓ hN)
theorem codeB_of_tree {c : Code} {R : Result → Shared → Prop} (hd : isDec c = false)
    (h : wpB b M (A.under c) (M.den c) (fun fin s' => match fin with | .done f => R (.ok f) s' | .again c' => c'.quiet = true ∧ codeB b M A c' R s') (fun e s' => R (.error e) s') s) : codeB b M A c R s := fun Γ p hc hΓ hN => by
  rw [wpCode_iff_wp, hc]
  refine Sem.wp_mono M Γ _ (fun fin p' s' h' => ?_) (fun _ _ _ h' => h') p s (h Γ p (hc ▸ hΓ.in) fun e => ⟨hc ▸ hd, hN e⟩)
  cases fin with
  | done f => exact h'
  | again c' => exact ⟨h'.1, h'.2 (Γ.goto c') p' rfl (hΓ.goto c') (fun e => hN e)⟩
theorem codeB_loop {c : Code} {R : Result → Shared → Prop} (hd : isDec c = false) (hq : c.quiet = true) (I : Nat → Shared → Prop)
    (turn : ∀ n s, I n s → wpB b M (A.under c) (M.den c)
      (fun fin s' => match fin with
        | .done f => R (.ok f) s'
        | .again c' => (c' = c ∧ ∃ m, m < n ∧ I m s') ∨ (c'.quiet = true ∧ codeB b M A c' R s')) (fun e s' => R (.error e) s') s)
    (n : Nat) (h : I n s) : codeB b M A c R s := by
  induction n using Nat.strongRecOn generalizing s with
  | ind n ih =>
    refine codeB_of_tree hd (wpB_mono (turn n s h) (fun fin s' hf => ?_) fun _ _ h' => h')
    cases fin with
    | done f => exact hf
    | again c' =>
      rcases hf with ⟨rfl, m, hm, hI⟩ | hf
      · exact ⟨hq, ih m hm hI⟩
      · exact hf
end

section
variable {b : Bool} {M : Model} {A : Around} {E : Value → Shared → Prop} {s : Shared} {env : Env}

theorem wpB_execs_cons {st rest} {Q : Flow → Shared → Prop}
    (h : wpB b M A (exec st env) (fun f s' => match f with | .next => wpB b M A (execs rest env) Q E s' | f => Q f s') E s) : wpB b M A (execs (st :: rest) env) Q E s := fun Γ p hΓ hN => by
  rw [execs_cons, Sem.wp_bind']
  refine Sem.wp_mono M Γ _ (fun f p' s' h' => ?_) (fun _ _ _ h' => h') _ _ (h Γ p hΓ hN)
  cases f <;> first | exact h' Γ p' hΓ hN | exact h'
theorem wpB_Assign_Name {x pos' value pos} {Q : Flow → Shared → Prop} (h : wpB b M A (eval value env) (fun v s₁ => wpAny M A (storeName env x v) (fun _ => Q .next) E s₁) E s)
    (hs : swapsWith value (some (.Name x pos')) pos.line env = pure false := by rfl) : wpB b M A (exec (.Assign [.Name x pos'] value pos) env) Q E s := fun Γ p hΓ hN => by
  simp only [exec_Assign_Name env x pos' value pos hs, Sem.wp_bind', Sem.wp_cmd_standAt, Sem.wp_bindName, Sem.wp_pure']
  exact Sem.wp_mono M Γ _ (fun v _ s₁ h₁ => h₁ Γ _ hΓ) (fun _ _ _ h' => h') _ _ (h Γ _ hΓ hN)
theorem wpB_Return {e pos} {Q : Flow → Shared → Prop} (h : wpB b M A (eval e env) (fun v => Q (.ret v)) E s) : wpB b M A (exec (.Return (some e) pos) env) Q E s := fun Γ p hΓ hN => by
  simp only [exec_Return_some, Sem.wp_bind', Sem.wp_cmd_standAt, Sem.wp_pure']; exact h Γ _ hΓ hN
theorem wpB_Compare1 {l op r pos} {Q : Value → Shared → Prop}
    (h : wpB b M A (eval l env) (fun a s₁ => wpB b M A (eval r env) (fun c s₂ => wpAny M A (compareOp op a c) Q E s₂) E s₁) E s)
    (hm : behindInMarks op r = false := by with_unfolding_all rfl) : wpB b M A (eval (.Compare l [op] [r] pos) env) Q E s := fun Γ p hΓ hN => by
  simp only [eval_Compare1, markedBehindIn_of_false hm, Sem.wp_bind', Sem.wp_holding, Sem.wp_cmd_standAt, Sem.wp_operate]
  exact Sem.wp_mono M Γ _ (fun a p₁ s₁ h₁ => Sem.wp_mono M Γ _ (fun b _ s₂ h₂ => h₂ Γ _ hΓ) (fun _ _ _ h' => h') _ _ (h₁ Γ p₁ hΓ hN))
    (fun _ _ _ h' => h') _ _ (h Γ p hΓ hN)
theorem wpB_Call {func : Expr} {args : List Expr} {pos : Pos} {Q : Value → Shared → Prop}
    (h : wpAny M A (eval func env) (fun f s₁ => wpB b M A (callWith pos f [] (backTo pos (starEach args env)) []) Q E s₁) E s)
    (he : eval (.Call func args [] pos) env = (do callWith pos (← eval func env) [] (backTo pos (starEach args env)) (backToKw pos (keywordEach [] env))) := by rfl) :
    wpB b M A (eval (.Call func args [] pos) env) Q E s := by
  rw [he]; exact wpB_bindA h
theorem wpB_tail {t : Sem Value} {Q : Value → Shared → Prop} (ht : wpB b M A t Q E s) : wpB b M A (t >>= fun r => holding [r] point >>= fun _ => pure r) Q E s :=
  wpB_bind (wpB_mono ht (fun r s₂ hr => wpB_of (wpAny_bind (wpAny_holding (wpAny_point (wpAny_pure hr))))) fun _ _ x => x)
theorem wpB_callWith {P : Heap → Prop} {f : Value} {pos : Pos} {first : List Value} {args : List (Bool × Sem Value)} {Q : Value → Shared → Prop} (hplain : args.any (·.1) = false)
    (hk : ∀ h, P h → ∃ k, (k = Keeper.frame ∨ k = Keeper.machine ∨ k = Keeper.boundFrame) ∧ Looks M h (keeperOf f) k)
    (h : wpAny M A (evalArgs f true args []) (fun a s₁ => P s₁.heap ∧ wpB b M A (call f (first ++ a.pos) a.kw) Q E s₁) E s) : wpB b M A (callWith pos f first args []) Q E s := by
  unfold callWith
  refine wpB_bindA (wpAny_holding (wpAny_mono h (fun a s₁ h₁ => wpB_bindA (wpAny_standAt ?_)) fun _ _ x => x))
  obtain ⟨k, hk', L⟩ := hk _ h₁.1
  simp only [hplain, List.any_nil, Bool.or_false]
  refine wpB_bindA (L.here ?_)
  have marked (mk : Value) : wpB b M A (callMarked mk f (first ++ a.pos) a.kw) Q E s₁ := by
    unfold callMarked
    intro Γ p hΓ hN
    rw [Sem.wp_keep]
    exact h₁.2 Γ p hΓ hN
  rcases hk' with rfl | rfl | rfl <;> dsimp only <;> first | exact wpB_tail h₁.2 | (split <;> first | exact wpB_tail h₁.2 | exact wpB_tail (marked _))
end
end Mine
end

section
open PySem PySem.W PyProof.Rows PySem.Calls
set_option maxRecDepth 100000
namespace Mine
open Sem (wp)
section
variable {b : Bool} {prog : Program} {w : World} {A : Around} {R : Result → Shared → Prop} {s : Shared}

theorem codeB_func {body env} (h : wpB b (model prog w) (A.deeper env) (execs body env) (fun f s' => R (.ok (.ret (match f with | .ret v => v | _ => .none))) s') (fun _ _ => False) s) :
    codeB b (model prog w) A (.func body env) R s := by
  refine codeB_of_tree rfl ?_
  show wpB b _ (A.deeper env) (do point; match ← (execs body env).onRaise (leaving env) with | .ret v => ret v | _ => ret .none) _ _ s
  refine wpB_bindA (wpAny_point (wpB_bind (wpB_onRaise (wpB_mono h (fun f s' h' => ?_) fun _ _ h' => h'))))
  cases f <;> exact wpB_pure h'

theorem codeB_call_function {a : Addr} {args : Args} {o : Obj} {fd : FuncData} {body : List Stmt} (hroom : A.depth < recursionLimit)
    (ho : s.heap.get? a = some o)
    (hd' : o.data = .func fd) (hco : fd.scope.isCoroutine = false) (hgen : fd.scope.isGenerator = false) (hbody : fd.body = .stmts body) (hcd : s.heap.CodeRec fd.code fd.qualname)
    (h : wpAny (model prog w) A.in1 (bindArgs fd args) (fun binds s₁ =>
      wpAny (model prog w) A.in1 (newFunctionEnv fd.scope fd.globals fd.closure binds (fd.qualname ++ ".<locals>.") (some a) fd.code none fd.builtins)
        (fun env s₂ => s₂.heap.NoLimit ∧ codeB b (model prog w) A (.func body env) R s₂) (fun e s' => R (.error e) s') s₁) (fun e s' => R (.error e) s') s) :
    codeB b (model prog w) A (.call (.ref a) args) R s := by
  refine codeB_of_tree rfl (wpB_of ?_)
  show wpAny _ A.in1 (callAny (.ref a) args) _ _ s
  simp only [callAny]
  refine wpAny_bind (wpAny_load ho ?_)
  obtain ⟨c, oc, vs, tq, hc, hoc, hdc, hq⟩ := hcd
  simp only [hd', callFunction, hco, hgen, hbody, hc]
  rw [hc] at h
  refine wpAny_bind (m := field (.ref c) 1) (wpAny_field hoc hdc hq (wpAny_bind (wpAny_pure ?_)))
  exact wpAny_bind (wpAny_mono h (fun binds s₁ h₁ => wpAny_bind (wpAny_mono h₁ (fun env s₂ h₂ => wpAny_bind (wpAny_enterFrame h₂.1 hroom
    (wpAny_pure (And.intro rfl h₂.2)))) fun _ _ h' => h')) fun _ _ h' => h')

theorem enterPB {K : Frag} {p : Program} {loose : List Str} {mean : ExcName → Option Value} {mg mb : Str → Option Value}
    {name qual : Str} {params : Arguments} {body : List Stmt} {scope : Scope} {dV kV doc pm cdv ct oc : Value} {an od : Option Addr} {osl : Array (Option Value)} {f : Addr} {args : Args} {binds : List (Str × Value)}
    (X : K.In s.heap) (T : Top p loose mean mg mb s.heap)
    (ho : K.lookup f = some ⟨oc, od, .func (fnOf name qual params body scope dV kV doc pm an cdv ct), osl⟩) (hcd : codeIn K cdv qual = true) (hroom : A.depth < recursionLimit)
    (hbind : BindsTo s (fnOf name qual params body scope dV kV doc pm an cdv ct) args binds) (hloc : ∀ y ∈ binds, scope.names.lookup y.1 = some .local)
    (h : ∀ L h₁, Fr s.heap L h₁ (fun y => binds.reverse.lookup y) → News s.heap L h₁ [] →
      wpB b (model prog w) (A.deeper (envOf qual scope L f cdv)) (execs body (envOf qual scope L f cdv))
        (fun fl s' => R (.ok (.ret (match fl with | .ret v => v | _ => .none))) s') (fun _ _ => False)
        { s with heap := h₁, toks := s.toks + binds.length })
    (hco : scope.isCoroutine = false) (hgen : scope.isGenerator = false) (hk : scope.kind = .function)
    (hcell : ∀ x ∈ scope.names, x.2 ≠ .cell) : codeB b (model prog w) A (.call (.ref f) args) R s := by
  refine codeB_call_function (fd := fnOf name qual params body scope dV kV doc pm an cdv ct) (body := body) hroom (X _ _ ho) rfl hco hgen rfl (codeRec_of X hcd) (hbind _ _ _ _ ?_)
  refine wpAny_newFunctionEnv hcell hloc (fun h₀ hns₀ hsb₀ => ⟨T.nolimit.fresh _ hsb₀, codeB_func ?_⟩) hk
  exact h s.heap.objs.size h₀ ⟨hns₀, fun b o e => hsb₀.extBut b o (Nat.ne_of_lt (Heap.lt_size e)) (Heap.get?_push_of_some _ e), Nat.le_refl _⟩ News.nil

theorem enterCB {K : Frag} {p : Program} {loose : List Str} {mean : ExcName → Option Value} {mg mb : Str → Option Value}
    {name qual : Str} {params : Arguments} {body : List Stmt} {scope : Scope} {dV kV doc pm cdv ct oc : Value} {an od : Option Addr} {osl : Array (Option Value)} {f : Addr} {args : Args} {binds : List (Str × Value)}
    (X : K.In s.heap) (T : Top p loose mean mg mb s.heap)
    (ho : K.lookup f = some ⟨oc, od, .func (fnOf name qual params body scope dV kV doc pm an cdv ct), osl⟩) (hcd : codeIn K cdv qual = true) (hroom : A.depth < recursionLimit)
    (hbind : BindsTo s (fnOf name qual params body scope dV kV doc pm an cdv ct) args binds)
    (hkind : (binds.all fun y => scope.names.lookup y.1 == some .local || scope.names.lookup y.1 == some .cell) = true)
    (hnd : ((cellsFrom 0 scope.names []).map (·.1)).Nodup)
    (h : ∀ L h₁ tk cells, Fr s.heap L h₁ (bindL (envOfC qual scope L f cdv).kindOf binds fun _ => none) → News s.heap L h₁ cells →
      CellsAre (bindC (envOfC qual scope L f cdv).kindOf binds fun _ => none) (cellsFrom (L + 1) scope.names []) cells →
      wpB b (model prog w) (A.deeper (envOfC qual scope L f cdv)) (execs body (envOfC qual scope L f cdv))
        (fun fl s' => R (.ok (.ret (match fl with | .ret v => v | _ => .none))) s') (fun _ _ => False)
        { s with heap := h₁, toks := tk })
    (hco : scope.isCoroutine = false) (hgen : scope.isGenerator = false) (hk : scope.kind = .function) :
    codeB b (model prog w) A (.call (.ref f) args) R s := by
  refine codeB_call_function (fd := fnOf name qual params body scope dV kV doc pm an cdv ct) hroom (X _ _ ho) rfl hco hgen rfl (codeRec_of X hcd) (hbind _ _ _ _ ?_)
  refine wpAny_newFunctionEnv_cells hk (kindsX hkind _) fun env' he s' x => ?_
  subst he
  refine ⟨T.nolimit.keeps x.toInCall.keep, codeB_func ?_⟩
  obtain ⟨h₁, tk, rfl, _⟩ := x.done
  have hk₁ := x.toInCall.keep
  obtain ⟨cells, NC, Y⟩ := Cl.news (h₀ := s.heap) (Nat.le_refl _) fun n c hm => ⟨x.cell n c (lookup_of_mem_nodup (cellsFrom_names scope.names 0 (s.heap.objs.size + 1) [] [] rfl ▸ hnd) hm), x.above n c hm⟩
  exact h s.heap.objs.size h₁ tk cells ⟨x.toInCall.ns, hk₁, Nat.le_refl _⟩ NC Y
end

section
variable {b : Bool} {M : Model} {A : Around} {E : Value → Shared → Prop} {s : Shared} {env : Env}
theorem wpB_List {elts : List Expr} {pos : Pos} {Q : Value → Shared → Prop}
    (h : wpB b M A (spliced (backTo pos (starEach elts env))) (fun vs s₁ => wpAny M A (newList vs) Q E s₁) E s) : wpB b M A (eval (.List elts pos) env) Q E s := by
  show wpB b M A (do standAt pos; newList (← spliced (backTo pos (starEach elts env)))) Q E s
  exact wpB_bindA (wpAny_standAt (wpB_bind (wpB_mono h (fun _ _ x => wpB_of x) fun _ _ x => x)))
theorem wpB_args_nil {pos : Pos} {Q : List Value → Shared → Prop} (h : Q [] s) : wpB b M A (spliced (backTo pos (starEach [] env))) Q E s := wpB_of (args_nil h)
theorem wpB_args_cons {e : Expr} {rest : List Expr} {pos : Pos} {Q : List Value → Shared → Prop}
    (h : wpB b M A (eval e env) (fun v s₁ => wpB b M A (spliced (backTo pos (starEach rest env))) (fun vs s₂ => Q (v :: vs) s₂) E s₁) E s)
    (he : starEach (e :: rest) env = (false, eval e env) :: starEach rest env := by rfl) : wpB b M A (spliced (backTo pos (starEach (e :: rest) env))) Q E s := by
  rw [he]
  show wpB b M A (spliced ((false, eval e env) :: backTo pos (starEach rest env))) Q E s
  rw [spliced]
  refine wpB_bind (wpB_mono h (fun v s₁ h₁ => ?_) fun _ _ x => x)
  simp only [Bool.false_eq_true, if_false]
  exact wpB_bindA (wpAny_pure (wpB_bind (wpB_holding (wpB_mono h₁ (fun vs s₂ h₂ => wpB_pure h₂) fun _ _ x => x))))
end
end Mine
end

section
open PySem PySem.W PyProof.Rows PySem.Calls
set_option maxRecDepth 100000
namespace Mine
open Sem (wp)
open Builtin.Bytes
namespace BA
theorem mro : mroOf (.type "bytearray") = pure [.type "bytearray", .type "object"] := by rw [mroOf_type]; kernel_rfl
theorem lookup_new : typeLookup (.type "bytearray") "__new__" = pure (some (.builtin "bytearray.__new__")) := by rw [typeLookup_type, builtinLookup_eq_fast]; kernel_rfl
theorem slot_init : Slot "bytearray" "__init__" "bytearray.__init__" :=
  .of (owner := "bytearray") (n := "__init__") (by rw [typeLookup_type, builtinLookup_eq_fast]; kernel_rfl) (by decide +kernel) (by decide +kernel) (by decide +kernel)
    (by first | exact .inl (by decide +kernel) | exact .inr (by decide +kernel)) (by rw [isSubtype_type]; kernel_rfl)
theorem slot_setitem : Slot "bytearray" "__setitem__" "bytearray.__setitem__" :=
  .of (owner := "bytearray") (n := "__setitem__") (by rw [typeLookup_type, builtinLookup_eq_fast]; kernel_rfl) (by decide +kernel) (by decide +kernel) (by decide +kernel)
    (by first | exact .inl (by decide +kernel) | exact .inr (by decide +kernel)) (by rw [isSubtype_type]; kernel_rfl)
theorem called : TypeCalled "bytearray" "bytearray.__new__" "bytearray.__init__" :=
  ⟨by decide +kernel, by decide +kernel, ⟨_, _, mro⟩, madeBy_type mro lookup_new (by decide +kernel), by decide +kernel, by rw [isSubtype_type]; kernel_rfl, slot_init⟩
theorem typeCall (a : Value) : checkTypeCall "bytearray" ⟨[a], []⟩ = pure () := by kernel_rfl
theorem newCall (a : Value) : checkBuiltinCall "bytearray.__new__" ⟨[.type "bytearray", a], []⟩ = pure () := by kernel_rfl
theorem plain_new : plainId "bytearray.__new__" = true := by decide +kernel
theorem plain_init : plainId "bytearray.__init__" = true := by decide +kernel
theorem entry_new : entryFor table "bytearray.__new__" = some Builtin.«list.__new__» := entryFor_alias (id' := "list.__new__") (by kernel_rfl) rfl (by decide +kernel) (by kernel_rfl)
theorem entry_init : entryFor table "bytearray.__init__" = some Builtin.«bytearray.__init__» := by first | exact entryFor_of_fast (by kernel_rfl) | exact entryFor_of_tree (by kernel_rfl)
theorem entry_setitem : entryFor table "bytearray.__setitem__" = some Builtin.«bytearray.__setitem__» := by first | exact entryFor_of_fast (by kernel_rfl) | exact entryFor_of_tree (by kernel_rfl)
theorem args_init (a c : Value) : argsOk "bytearray.__init__" ⟨[a, c], []⟩ := by unfold argsOk; kernel_rfl
theorem args_setitem (a c d : Value) : argsOk "bytearray.__setitem__" ⟨[a, c, d], []⟩ := by unfold argsOk; kernel_rfl
theorem sub : isSubtype (.type "bytearray") (.type "bytearray") = pure true := by rw [isSubtype_type]; kernel_rfl
theorem look_release : typeLookup (.type "bytearray") "__release_buffer__" = pure (some (.builtin "bytearray.__release_buffer__")) := by rw [typeLookup_type, builtinLookup_eq_fast]; kernel_rfl
theorem look_buffer : typeLookup (.type "bytearray") "__buffer__" = pure (some (.builtin "bytearray.__buffer__")) := by rw [typeLookup_type, builtinLookup_eq_fast]; kernel_rfl
theorem no_bytes : typeLookup (.type "bytearray") "__bytes__" = pure none := by rw [typeLookup_type, builtinLookup_eq_fast]; kernel_rfl
theorem noIndex : typeLookup (.type "bytearray") "__index__" = pure none := by rw [typeLookup_type, builtinLookup_eq_fast]; kernel_rfl
theorem int_index : typeLookup (.type "int") "__index__" = pure (some (.builtin "int.__index__")) := by rw [typeLookup_type, builtinLookup_eq_fast]; kernel_rfl
theorem bind1 (v : Value) : bindOptional "bytearray.__init__" "bytearray" ["source", "encoding", "errors"] [v] [] = pure [some v, none, none] := by kernel_rfl
set_option maxRecDepth 1000000 in
set_option maxHeartbeats 4000000 in
theorem owner_new : ("bytearray.__new__".splitOn ".__new__").headD "" = "bytearray" := by simp +decide [String.splitOn, String.splitOnAux]
theorem drop_release : "bytearray.__release_buffer__".dropRight ("__release_buffer__".length + 1) = "bytearray" := by decide +kernel
theorem drop_buffer : "bytearray.__buffer__".dropRight ("__buffer__".length + 1) = "bytearray" := by decide +kernel
theorem ends_release : "bytearray.__release_buffer__".endsWith ("." ++ "__release_buffer__") = true := by decide +kernel
theorem ends_buffer : "bytearray.__buffer__".endsWith ("." ++ "__buffer__") = true := by decide +kernel
end BA
abbrev baObj (x : Array UInt8) : Obj := { cls := .type "bytearray", data := .bytearray x }
section
variable {prog : Program} {w : World} {M : Model} {A : Around} {E : Value → Shared → Prop} {s : Shared}

theorem own_of {a : Addr} {id name T : String} {Q : Bool → Shared → Prop} (hT : s.TypeIs (.ref a) T) (hl : typeLookup (.type T) (name : Str) = pure (some (.builtin id)))
    (he : id.endsWith ("." ++ name) = true) (hd : id.dropRight (name.length + 1) = T) (hs : isSubtype (.type T) (.type T) = pure true) (h : Q true s) : wpAny M A (slotIsOwn (.ref a) name) Q E s := by
  unfold slotIsOwn
  refine wpAny_bind (wpAny_specialOf hT hl ?_)
  dsimp only
  rw [he, hd]
  exact wpAny_isInstance hT hs h
theorem release_ba {a : Addr} {Q : Bool → Shared → Prop} (hT : s.TypeIs (.ref a) "bytearray") (h : Q false s) : wpAny M A (ownRelease (.ref a)) Q E s := by
  unfold ownRelease
  exact wpAny_bind (own_of hT BA.look_release BA.ends_release BA.drop_release BA.sub (wpAny_pure h))
theorem typeIs_ba {a : Addr} {x : Array UInt8} (h : s.heap.get? a = some (baObj x)) : s.TypeIs (.ref a) "bytearray" := ⟨_, h, rfl⟩
theorem payload_ba {a : Addr} {x : Array UInt8} {Q : Array UInt8 → Shared → Prop} (ho : s.heap.get? a = some (baObj x)) (h : Q x s) : wpAny M A (payload (.ref a)) Q E s := by
  unfold payload payload?
  exact wpAny_bind (wpAny_bind (wpAny_load ho (wpAny_pure (wpAny_pure h))))
theorem write_ba {a : Addr} {x : Array UInt8} {f : Array UInt8 → Array UInt8} {Q : Unit → Shared → Prop} (ho : s.heap.get? a = some (baObj x)) (hz : (f x).size ≤ sizeLine)
    (h : ∀ h', h'.get? a = some (baObj (f x)) → Heap.SameBut a s.heap h' → Q () { s with heap := h' }) : wpAny M A (write (.ref a) f) Q E s := by
  show wpAny _ _ (updateBytearray a f) _ _ _
  unfold updateBytearray
  refine wpAny_bind (wpAny_load ho ?_)
  show wpAny _ _ (update a (Obj.mapBytearray f) >>= fun _ => lookBehind a) _ _ _
  refine wpAny_bind (wpAny_update ho ?_)
  have h2 : (s.heap.update a (Obj.mapBytearray f)).get? a = some (baObj (f x)) := Heap.get?_update_self (Obj.mapBytearray f) ho rfl
  refine wpAny_lookBehind h2 ?_ (h _ h2 (Heap.SameBut.update ..))
  show (if (f x).size > sizeLine then some "bytearray:memory" else none) = none
  rw [if_neg (Nat.not_lt.mpr hz)]

theorem byteValue_int {v : Int} {t : Tok} {Q : UInt8 → Shared → Prop} (h0 : 0 ≤ v) (h1 : v < 256) (h : Q v.toNat.toUInt8 s) : wpAny M A (byteValue (.int v t)) Q E s := by
  unfold byteValue
  refine wpAny_bind (wpAny_of_eq (rfl : asIndex (.int v t) = pure v) ?_)
  refine bm_if_false (by simp only [Bool.or_eq_false_iff, decide_eq_false_iff_not]; omega) ?_
  exact wpAny_pure h
theorem subscript_int {k : Int} {t : Tok} {Q : Option Int → Shared → Prop} (h0 : 0 ≤ k) (h1 : k < 2 ^ 63) (h : Q (some k) s) : wpAny M A (subscript? (.int k t)) Q E s := by
  unfold subscript?
  refine wpAny_bind (wpAny_specialOf (typeIs_int s k t) BA.int_index ?_)
  refine bm_if_false rfl ?_
  refine wpAny_bind (wpAny_of_eq (rfl : asIndex (.int k t) = pure k) ?_)
  refine bm_if_false (by
    have : fitsIndex k = true := by
      unfold fitsIndex
      simp only [Bool.and_eq_true, decide_eq_true_eq]
      omega
    rw [this]; rfl) ?_
  exact wpAny_pure h

theorem setItem_ba {a : Addr} {x : Array UInt8} {k v : Int} {t u : Tok} {Q : Unit → Shared → Prop} (ho : s.heap.get? a = some (baObj x)) (h0 : 0 ≤ k) (hfit : k < 2 ^ 63) (hn : k < x.size) (v0 : 0 ≤ v) (v1 : v < 256) (hz : x.size ≤ sizeLine)
    (hQ : ∀ h', h'.get? a = some (baObj (x.setIfInBounds k.toNat v.toNat.toUInt8)) → Heap.SameBut a s.heap h' → Q () { s with heap := h' }) :
    wpAny (model prog w) A (setItem (.ref a) (.int k t) (.int v u)) Q E s := by
  have hT := typeIs_ba ho
  unfold setItem
  try with_reducible refine wpAny_holding ?_
  first | refine wpAny_bind (wpAny_pure ?_) | skip
  refine wpAny_bind (wpAny_sequenceKey hT (by decide) ?_)
  refine wpAny_bind (wpAny_callSpecial?_slot (name := Str.ofString "__setitem__") hT BA.slot_setitem (wpAny_call_entry BA.slot_setitem hT BA.entry_setitem ?_ (BA.args_setitem _ _ _)))
  unfold Builtin.«bytearray.__setitem__»
  refine bm_if_false rfl ?_
  refine wpAny_bind (subscript_int h0 hfit ?_)
  refine wpAny_bind (byteValue_int v0 v1 ?_)
  refine wpAny_bind (payload_ba ho ?_)
  rw [seqIndex_of h0 hn]
  refine wpAny_bind (write_ba ho (by simpa using hz) fun h' h1 h2 => ?_)
  exact wpAny_pure ⟨.none, rfl, wpAny_pure (hQ h' h1 h2)⟩
end
end Mine
end

section
open PySem PySem.W PyProof.Rows PySem.Calls
set_option maxRecDepth 100000
namespace Mine
open Sem (wp)
open Builtin.Bytes
section
variable {prog : Program} {w : World} {M : Model} {A : Around} {E : Value → Shared → Prop} {s : Shared}

theorem bytes_new_ba {a : Addr} {x : Array UInt8} {Q : Value → Shared → Prop} (ho : s.heap.get? a = some (baObj x)) (hz : x.size ≤ sizeLine) (hQ : Q (.bytes x s.toks) { s with toks := s.toks + 1 }) :
    codeAny (model prog w) A (.call (.builtin "bytes.__new__") ⟨[.type "bytes", .ref a], []⟩) (wants Q E) s := by
  refine codeAny_of_tree ?_
  show wpAny _ A.in1 (do checkBuiltinCall "bytes.__new__" ⟨[.type "bytes", .ref a], []⟩; again (.builtin "bytes.__new__" ⟨[.type "bytes", .ref a], []⟩)) _ _ s
  refine wpAny_bind (wpAny_of_eq (F.bm_newCall _) (wpAny_pure ⟨plainId_quiet F.bm_plain _, codeAny_builtin F.bm_entry ?_⟩))
  rw [Around.under_plainId F.bm_plain _]
  have hT := typeIs_ba ho
  unfold Builtin.«bytes.__new__»
  refine wpAny_bind (wpAny_of_eq (a := true) rfl ?_)
  refine bm_if_false rfl ?_
  refine wpAny_bind (wpAny_of_eq F.bm_sub ?_)
  refine bm_if_false rfl ?_
  refine wpAny_bind (wpAny_of_eq (F.bm_bind _) ?_)
  refine wpAny_bind (wpAny_of_eq (a := ()) rfl ?_)
  refine wpAny_bind (wpAny_of_eq (a := ()) rfl ?_)
  refine bm_if_false rfl ?_
  refine wpAny_bind (wpAny_specialOf hT BA.no_bytes ?_)
  refine wpAny_bind (wpAny_bind ?_)
  show wpAny _ _ (load a >>= _) _ _ _
  refine wpAny_bind (wpAny_load ho ?_)
  refine wpAny_pure (wpAny_pure ?_)
  refine bm_if_false rfl ?_
  refine wpAny_bind (wpAny_specialOf hT BA.noIndex ?_)
  refine bm_if_true rfl ?_
  first
    | show wpAny _ _ (Builtin.Bytes.buffer? "bytes.__new__" (.ref a) true >>= _) _ _ _
    | (refine wpAny_bind ?_; show wpAny _ _ (Builtin.Bytes.buffer? "bytes.__new__" (.ref a) true >>= _) _ _ _)
  refine wpAny_bind ?_
  unfold Builtin.Bytes.buffer?
  refine wpAny_bind (wpAny_specialOf hT BA.look_buffer ?_)
  refine wpAny_bind (own_of hT BA.look_buffer BA.ends_buffer BA.drop_buffer BA.sub ?_)
  refine bm_if_false rfl ?_
  refine wpAny_bind (wpAny_specialOf hT BA.look_buffer ?_)
  refine wpAny_bind (release_ba hT ?_)
  refine bm_if_false rfl ?_
  refine wpAny_bind (payload_ba ho ?_)
  refine wpAny_pure ?_
  refine wpAny_bind (wpAny_rule ?_)
  refine wpAny_bind (wpAny_mkBytes ?_ hz)
  show wpAny _ _ (if (Value.type "bytes" == Value.type "bytes") = true then _ else _) _ _ _
  refine bm_if_true (by decide) ?_
  first
    | exact wpAny_pure hQ
    | exact wpAny_bind (wpAny_pure (wpAny_pure hQ))
    | exact wpAny_pure (wpAny_pure hQ)
    | exact wpAny_bind (wpAny_pure (wpAny_pure (wpAny_pure hQ)))

theorem call_bytes_ba {a : Addr} {x : Array UInt8} {Q : Value → Shared → Prop} (ho : s.heap.get? a = some (baObj x)) (hz : x.size ≤ sizeLine) (hQ : Q (.bytes x s.toks) { s with toks := s.toks + 1 }) :
    wpAny (model prog w) A (call (.type "bytes") [.ref a]) Q E s := by
  refine callType_codes (Q₁ := fun obj s₁ => s₁.TypeIs obj "bytes" ∧ Q obj s₁) F.bm_called (F.bm_typeCall _) F.entry_object_init
    (bytes_new_ba ho hz ⟨PySem.W.typeIs_bytes _ _ _, hQ⟩) fun obj s₁ h₁ => ?_
  exact ⟨h₁.1, F.args_object_init_2 obj _, object_init_meets F.bm_called.init.lookup F.bm_called.made (by decide) prog w A.in1 _ s₁ ⟨h₁.1, rfl, h₁.2⟩⟩
end
end Mine
end

section
open PySem PySem.W PyProof.Rows PySem.Calls
set_option maxRecDepth 100000
namespace Mine
open Sem (wp)
open Builtin.Bytes
section
variable {prog : Program} {w : World} {M : Model} {A : Around} {E : Value → Shared → Prop} {s : Shared}

theorem code_ba_new (a : Value) {Q₁ : Value → Shared → Prop} (h : Q₁ (.ref s.heap.objs.size) { s with heap := s.heap.push (baObj #[]) }) :
    codeAny (model prog w) A (.call (.builtin "bytearray.__new__") ⟨[.type "bytearray", a], []⟩) (wants Q₁ E) s := by
  refine codeAny_of_tree ?_
  show wpAny _ A.in1 (do checkBuiltinCall "bytearray.__new__" ⟨[.type "bytearray", a], []⟩; again (.builtin "bytearray.__new__" ⟨[.type "bytearray", a], []⟩)) _ _ s
  refine wpAny_bind (wpAny_of_eq (BA.newCall a) (wpAny_pure ⟨plainId_quiet BA.plain_new _, codeAny_builtin_stack BA.entry_new rfl fun p st => ?_⟩))
  rw [Around.under_plainId BA.plain_new _]
  have hsub := BA.sub
  have hown := BA.owner_new
  obtain ⟨hp, g, d, tk, os⟩ := s
  simp only [hown]
  wp_walk
  exact h

theorem guard_no {id : String} {args : Args} (h : (Code.builtin id args).isGuard = false) (hc : guardIds.contains id = true) : False := by
  have q : guardIds.contains id = false := h
  rw [hc] at q; cases q

/-- nothing on the stack holds it -/
theorem exported_no {Γ : PySem.Ctx} {p : Pos} {self : Value} {Q : Bool → Pos → Shared → Prop} {E' : Value → Pos → Shared → Prop} (hg : guardsOf ((Γ.code, p) :: Γ.below) = []) (hN : Nd Γ) (h : Q false p s) : wp M Γ (exported self) Q E' p s := by
  unfold exported
  rw [Sem.wp_bind']
  show wp M Γ stack _ _ p s
  unfold stack
  rw [Sem.wp_stack]
  have fin : ∀ z, z = false → Q z p s := fun z e => by subst e; exact h
  refine fin _ (List.any_eq_false.mpr fun x hx => ?_)
  have hd : isDec x.1 = false := by
    rcases List.mem_cons.mp hx with rfl | hx
    · exact hN.1
    · exact hN.2 x hx
  have hgd : x.1.isGuard = false := by
    cases q : x.1.isGuard with
    | false => rfl
    | true =>
      have : x.1 ∈ guardsOf ((Γ.code, p) :: Γ.below) := List.mem_filter.mpr ⟨List.mem_map_of_mem hx, q⟩
      rw [hg] at this; cases this
  obtain ⟨c, q⟩ := x
  dsimp only at hd hgd
  split
  · rename_i e; cases e; exact (guard_no hgd (by decide +kernel)).elim
  · rename_i e; cases e; exact (guard_no hgd (by decide +kernel)).elim
  · rename_i e; cases e; exact (guard_no hgd (by decide +kernel)).elim
  · rename_i e; cases e; exact (guard_no hgd (by decide +kernel)).elim
  · rename_i e; cases e; exact (guard_no hgd (by decide +kernel)).elim
  · rename_i e
    cases e
    have : decodersThatHold.contains _ = false := hd
    rw [this, Bool.and_false]
    exact Bool.false_ne_true
  · exact Bool.false_ne_true
end
end Mine
end

section
open PySem PySem.W PyProof.Rows PySem.Calls
set_option maxRecDepth 100000
namespace Mine
open Sem (wp)
open Builtin.Bytes
section
variable {prog : Program} {w : World} {M : Model} {A : Around} {E : Value → Shared → Prop} {s : Shared}

theorem wpB_exported {self : Value} {Q : Bool → Shared → Prop} (hg : A.guards = some []) (h : Q false s) : wpB true M A (exported self) Q E s := fun Γ p hΓ hN =>
  exported_no (by rw [guardsOf_cons]; exact hΓ.2.2.2.1 [] hg) (hN rfl) h
theorem wpB_if_false {b : Bool} {α : Type} {M : Model} {c : Bool} {x y : Sem α} {Q : α → Shared → Prop} (hc : c = false) (h : wpB b M A y Q E s) : wpB b M A (if c = true then x else y) Q E s := by
  subst hc
  exact h
theorem wpB_if_true {b : Bool} {α : Type} {M : Model} {c : Bool} {x y : Sem α} {Q : α → Shared → Prop} (hc : c = true) (h : wpB b M A x Q E s) : wpB b M A (if c = true then x else y) Q E s := by
  subst hc
  exact h

theorem init_ba {a : Addr} {n : Int} {t : Tok} {R : Fin → Shared → Prop} (hg : A.guards = some []) (ho : s.heap.get? a = some (baObj #[])) (h0 : 0 ≤ n) (hz : n ≤ 16777216)
    (hQ : ∀ h', h'.get? a = some (baObj (Array.replicate n.toNat 0)) → Heap.SameBut a s.heap h' → R (.done (.ret .none)) { s with heap := h' }) :
    wpB true (model prog w) A (Builtin.«bytearray.__init__» ⟨[.ref a, .int n t], []⟩) R E s := by
  have hT := typeIs_ba ho
  unfold Builtin.«bytearray.__init__»
  refine wpB_bindA (release_ba hT ?_)
  refine wpB_if_false rfl ?_
  refine wpB_bindA (wpAny_of_eq (BA.bind1 _) ?_)
  refine wpB_bindA (wpAny_of_eq (a := ()) rfl ?_)
  refine wpB_bindA (wpAny_of_eq (a := ()) rfl ?_)
  refine wpB_bind (wpB_bind (wpB_exported hg ?_))
  refine wpB_of ?_
  have hex : wpAny (model prog w) A (exportsOf (.ref a)) (fun k s' => k = 0 ∧ s' = s) E s := by
    unfold exportsOf
    exact wpAny_bind (wpAny_load ho (wpAny_pure ⟨rfl, rfl⟩))
  show wpAny _ _ (exportsOf (.ref a) >>= fun k => pure (decide (k > 0))) _ _ _
  refine wpAny_bind (wpAny_mono hex ?_ fun _ _ h => h)
  rintro k s' ⟨rfl, rfl⟩
  refine wpAny_pure ?_
  refine wpB_if_false rfl ?_
  refine wpB_bindA (write_ba ho (Nat.zero_le _) fun h₁ h1 h2 => ?_)
  refine wpB_bindA (wpAny_of_eq (a := none) rfl ?_)
  refine wpB_if_false rfl ?_
  refine wpB_bindA (wpAny_of_eq (a := ()) rfl ?_)
  refine wpB_bindA (wpAny_specialOf (typeIs_int _ n t) BA.int_index ?_)
  refine wpB_if_true rfl ?_
  refine wpB_bindA (wpAny_attempt (wpAny_of_eq (rfl : asIndex (.int n t) = pure n) ?_))
  dsimp only
  refine wpB_if_false (by
    have : fitsIndex n = true := by
      unfold fitsIndex
      simp only [Bool.and_eq_true, decide_eq_true_eq]
      omega
    rw [this]; rfl) ?_
  refine wpB_ite (fun h => absurd h (by omega)) fun _ => ?_
  refine wpB_if_false (by
    have : n ≠ 2 ^ 63 - 1 := by omega
    simpa using this) ?_
  refine wpB_if_false (by
    unfold tooLong
    have : ¬ n.toNat > sizeLine := by rw [sizeLine_eq]; omega
    exact decide_eq_false this) ?_
  refine wpB_bindA (wpAny_rule ?_)
  refine wpB_ite (fun hp => ?_) fun hp => ?_
  · refine wpB_bindA (write_ba h1 (by simp only [Array.size_replicate]; rw [sizeLine_eq]; omega) fun h₂ h3 h4 => ?_)
    exact wpB_of (wpAny_pure (hQ h₂ h3 (h2.trans h4)))
  · have e : n = 0 := by omega
    subst e
    exact wpB_of (wpAny_pure (hQ h₁ h1 h2))
end
end Mine
end

section
open PySem PySem.W PyProof.Rows PySem.Calls
set_option maxRecDepth 100000
namespace Mine
open Sem (wp)
open Builtin.Bytes
section
variable {prog : Program} {w : World} {M : Model} {A : Around} {E : Value → Shared → Prop} {s : Shared}

theorem codeB_builtin {b : Bool} {R : Result → Shared → Prop} {id : String} {args : Args} {bb : Builtin} (hd : decodersThatHold.contains id = false) (hb : entryFor table id = some bb)
    (h : wpB b (model prog w) (A.under (.builtin id args)) (bb args)
      (fun fin s' => match fin with | .done f => R (.ok f) s' | .again c' => c'.quiet = true ∧ codeB b (model prog w) A c' R s') (fun e s' => R (.error e) s') s) :
    codeB b (model prog w) A (.builtin id args) R s := by
  refine codeB_of_tree hd ?_
  show wpB _ _ _ (match entryFor table id with | some b => b args | none => unsupported ((withoutEnding? id "#data").getD id)) _ _ s
  rw [hb]; exact h
theorem codeB_call_builtin {b : Bool} {R : Result → Shared → Prop} {id : String} {args : Args} {bb : Builtin} (hd : decodersThatHold.contains id = false) (hq : plainId id = true) (hb : entryFor table id = some bb)
    (h : wpAny (model prog w) A.in1 (checkBuiltinCall id args) (fun _ s₁ => wpB b (model prog w) A.in1 (bb args)
      (fun fin s' => match fin with | .done f => R (.ok f) s' | .again c' => c'.quiet = true ∧ codeB b (model prog w) A c' R s') (fun e s' => R (.error e) s') s₁)
      (fun e s' => R (.error e) s') s) : codeB b (model prog w) A (.call (.builtin id) args) R s := by
  refine codeB_of_tree rfl (wpB_of ?_)
  show wpAny _ A.in1 (do checkBuiltinCall id args; again (.builtin id args)) _ _ s
  refine wpAny_bind (wpAny_mono h (fun _ s₁ h₁ => wpAny_pure (And.intro (plainId_quiet hq args) (codeB_builtin hd hb ?_))) fun _ _ h' => h')
  rw [Around.under_plainId hq args]
  exact h₁

theorem call_bytearray {n : Int} {t : Tok} {Q : Value → Shared → Prop} (hg : A.guards = some []) (h0 : 0 ≤ n) (hz : n ≤ 16777216)
    (hQ : ∀ h', h'.get? s.heap.objs.size = some (baObj (Array.replicate n.toNat 0)) → Kp s.heap h' → Q (.ref s.heap.objs.size) { s with heap := h' }) :
    wpB true (model prog w) A (call (.type "bytearray") [.int n t]) Q E s := by
  refine wpB_call (codeB_of_tree rfl (wpB_of ?_))
  show wpAny _ _ (callAny (.type "bytearray") _) _ _ _
  refine wpAny_pure ⟨Code.quiet_builtin _ (by decide +kernel), codeB_builtin (by decide +kernel) F.entry_type_call ?_⟩
  rw [Around.under_plain (weight_type_call_type "bytearray" [.int n t] []) rfl]
  unfold Builtin.«type.__call__»
  refine wpB_if_false (by decide +kernel) ?_
  refine wpB_if_false (by decide +kernel) ?_
  refine wpB_bindA (wpAny_of_eq (BA.typeCall _) ?_)
  refine wpB_bindA (wpAny_of_eq BA.mro ?_)
  refine wpB_if_false rfl ?_
  refine wpB_bindA (wpAny_of_eq BA.called.made ?_)
  refine wpB_bindA (wpAny_pure ?_)
  refine wpB_bindA (wpAny_holding (wpAny_call (code_ba_new _ ?_)))
  have h1 : (s.heap.push (baObj #[])).get? s.heap.objs.size = some (baObj #[]) := Heap.get?_push_size _ rfl
  have hT : ({ s with heap := s.heap.push (baObj #[]) } : Shared).TypeIs (.ref s.heap.objs.size) "bytearray" := ⟨_, h1, rfl⟩
  refine wpB_bindA (wpAny_isInstance hT BA.sub ?_)
  refine wpB_if_false rfl ?_
  refine wpB_bind (wpB_holding ?_)
  unfold callSpecial?
  refine wpB_bindA (wpAny_specialOf hT BA.slot_init.lookup ?_)
  dsimp only
  refine wpB_holding ?_
  rw [BA.slot_init.bind]
  refine wpB_bindA (wpAny_pure ?_)
  refine wpB_bind (wpB_call (codeB_call_builtin (by decide +kernel) BA.plain_init BA.entry_init (BA.slot_init.check _ _ _ _ _ _ _ _ hT (BA.args_init _ _) ?_)))
  refine init_ba hg h1 h0 hz fun h' h2 h3 => ?_
  refine wpB_pure ?_
  refine wpB_if_false (by decide +kernel) ?_
  refine wpB_pure ?_
  exact hQ h' h2 fun b o e => h3.extBut b o (Nat.ne_of_lt (Heap.lt_size e)) (Heap.get?_push_of_some _ e)
end
end Mine
end

section
open PySem PySem.W PyProof.Rows PySem.Calls
set_option maxRecDepth 100000
namespace Mine
section
variable {prog : Program} {w : World} {A : Around} {E : Value → Shared → Prop} {s : Shared} {env : Env} {h₀ : Heap} {x : Str} {body : List Stmt} {Q : Flow → Shared → Prop}

theorem rangeC_inv {r : Addr} {a₀ b₀ c : Int} {t₀ u₀ v₀ : Tok} {n : Nat} {m₀ : Str → Option Value} {news : List (Addr × Obj)} (J : Nat → (Str → Option Value) → List (Addr × Obj) → Prop)
    (hh : A.handled = none) (hr : IsRange s.heap r a₀ b₀ c t₀ u₀ v₀) (hsmall : Builtin.Range.small a₀ b₀ c = true) (hn : Builtin.Range.rangeSize a₀ b₀ c = (n : Int)) (F : Fr h₀ env.locals s.heap m₀) (N : News h₀ env.locals s.heap news) (hj : J 0 m₀ news)
    (turn : ∀ (i : Nat) t m₁ nx h tk own, i < n → nx.map (·.1) = news.map (·.1) → OwnOff own (news.map (·.1)) → J i m₁ nx → Fr h₀ env.locals h (fun y => if y = x then some (.int (a₀ + i * c) t) else m₁ y) → News h₀ env.locals h (nx ++ own) →
      wpAny (model prog w) A (execs body env) (InvPostN h₀ env.locals (J (i + 1)) own (news.map (·.1)) { s with heap := h, toks := tk } Q) E { s with heap := h, toks := tk })
    (done : ∀ m₁ nx h tk, J n m₁ nx → Fr h₀ env.locals h m₁ → News h₀ env.locals h nx → Q .next { s with heap := h, toks := tk }) :
    wpAny (model prog w) A (pyIter (.ref r)) (fun it s₂ => LoopAtV prog w A h₀ env x body Q E it s₂) E s := by
  refine wpAny_pyIter_range hr hsmall ?_
  have W := Walks.range (prog := prog) (w := w) hh s.heap.objs.size a₀ c n
  refine loop_invN J W ?_ ?_ ?_ ?_ (by show IsRangeIter _ _ _ _ _; rw [hn]; simpa using Heap.get?_push_size _ rfl) (F.push _) (fun p hp => ⟨Heap.get?_push_of_some _ (N p hp).1, (N p hp).2⟩) hj ?_ ?_
  · intro hm
    exact absurd F.ns.lt ((List.mem_singleton.mp hm) ▸ Nat.lt_irrefl _)
  · intro b hb
    rw [List.mem_singleton.mp hb]
    exact next_is_new F
  · intro p hp hI
    exact absurd (Heap.lt_size (N p hp).1) ((List.mem_singleton.mp hI) ▸ Nat.lt_irrefl _)
  · intro p hp hI
    exact absurd (Heap.lt_size (N p hp).1) ((List.mem_singleton.mp hI) ▸ Nat.lt_irrefl _)
  · rintro i v m₁ nx h tk own hi ⟨t, rfl⟩ hadr ho hJ F' N'
    exact turn i t m₁ nx h tk own hi hadr ho hJ F' N'
  · intro m₁ nx h tk hJ F₁ N₁
    exact done m₁ nx h tk hJ F₁ N₁
end
section
variable {b : Bool} {M : Model} {A : Around} {E : Value → Shared → Prop} {s : Shared} {env : Env}
theorem wpB_callWith_type {T : String} {pos : Pos} {e : Expr} {rest : List Expr} {Q : Value → Shared → Prop}
    (h : wpAny M A (spliced (backTo pos (starEach (e :: rest) env))) (fun vs s₁ => wpB b M A (call (.type T) vs) Q E s₁) E s)
    (he : starEach (e :: rest) env = (false, eval e env) :: starEach rest env := by rfl) (hplain : (backTo pos (starEach rest env)).any (·.1) = false := by rfl) :
    wpB b M A (callWith pos (.type T) [] (backTo pos (starEach (e :: rest) env)) []) Q E s := by
  rw [he] at h ⊢
  refine wpB_callWith (P := fun _ => True) (by show (false || (backTo pos (starEach rest env)).any (·.1)) = false; rw [hplain]; rfl) (fun _ _ => ⟨.machine, .inr (.inl rfl), Looks.of_pure rfl⟩)
    (evalArgs_plain (wpAny_mono h (fun vs s₁ h₁ => ⟨trivial, h₁⟩) fun _ _ x => x))
theorem wpB_callWith_fn {K : Frag} {f : Value} {pos : Pos} {e : Expr} {rest : List Expr} {Q : Value → Shared → Prop} (hk : keepIn K f = true)
    (h : wpAny M A (spliced (backTo pos (starEach (e :: rest) env))) (fun vs s₁ => K.In s₁.heap ∧ wpB b M A (call f vs) Q E s₁) E s)
    (he : starEach (e :: rest) env = (false, eval e env) :: starEach rest env := by rfl) (hplain : (backTo pos (starEach rest env)).any (·.1) = false := by rfl) :
    wpB b M A (callWith pos f [] (backTo pos (starEach (e :: rest) env)) []) Q E s := by
  rw [he] at h ⊢
  exact wpB_callWith (P := K.In) (by show (false || (backTo pos (starEach rest env)).any (·.1)) = false; rw [hplain]; rfl) (keeps_K hk) (evalArgs_plain h)
end
theorem call_bytearray' {prog : Program} {w : World} {A : Around} {E : Value → Shared → Prop} {s : Shared} {n : Int} {t : Tok} {Q : Value → Shared → Prop} (hg : A.guards = some []) (h0 : 0 ≤ n) (hz : n ≤ 16777216)
    (hQ : ∀ a h', s.heap.get? a = none → h'.get? a = some (baObj (Array.replicate n.toNat 0)) → Kp s.heap h' → Q (.ref a) { s with heap := h' }) :
    wpB true (model prog w) A (call (.type "bytearray") [.int n t]) Q E s :=
  call_bytearray hg h0 hz fun h' h1 h2 => hQ _ h' (by
    cases q : s.heap.get? s.heap.objs.size with
    | none => rfl
    | some o => exact absurd (Heap.lt_size q) (Nat.lt_irrefl _)) h1 h2
theorem newsAdd {h₀ h h' : Heap} {L a : Addr} {m : Str → Option Value} {o : Obj} {news : List (Addr × Obj)} (F : Fr h₀ L h m) (N : News h₀ L h news) (hk : Kp h h') (hn : h.get? a = none) (ha : h'.get? a = some o) : News h₀ L h' ((a, o) :: news) := fun p hp => by
  rcases List.mem_cons.mp hp with rfl | hp
  · refine ⟨ha, ?_, ?_⟩
    · intro e
      obtain ⟨oL, _, _, hL, _⟩ := F.ns
      rw [← e] at hL
      rw [hn] at hL; cases hL
    · cases q : h₀.get? a with
      | none => rfl
      | some x => rw [F.keep _ _ q] at hn; cases hn
  · exact N.grown hk p hp
theorem map1 {m m₀ : Str → Option Value} {x : Str} {v : Option Value} (h : ∀ z, z ≠ x → m z = m₀ z) : (fun z => if z = x then v else m z) = fun z => if z = x then v else m₀ z := by
  funext z
  by_cases h1 : z = x
  · rw [if_pos h1, if_pos h1]
  · rw [if_neg h1, if_neg h1]; exact h z h1
theorem map1' {m m₀ : Str → Option Value} {x : Str} (h : ∀ z, z ≠ x → m z = m₀ z) : m = fun z => if z = x then m z else m₀ z := by
  funext z
  by_cases h1 : z = x
  · rw [if_pos h1]
  · rw [if_neg h1]; exact h z h1
theorem map2 {m m₀ : Str → Option Value} {x y : Str} {v : Option Value} (h : ∀ z, z ≠ x → z ≠ y → m z = m₀ z) : (fun z => if z = x then v else m z) = fun z => if z = x then v else if z = y then m z else m₀ z := by
  funext z
  by_cases h1 : z = x
  · rw [if_pos h1, if_pos h1]
  · rw [if_neg h1, if_neg h1]
    by_cases h2 : z = y
    · rw [if_pos h2]
    · rw [if_neg h2]; exact h z h1 h2
theorem map2' {m m₀ : Str → Option Value} {x y : Str} (h : ∀ z, z ≠ x → z ≠ y → m z = m₀ z) : m = fun z => if z = x then m z else if z = y then m z else m₀ z := by
  funext z
  by_cases h1 : z = x
  · rw [if_pos h1]
  · rw [if_neg h1]
    by_cases h2 : z = y
    · rw [if_pos h2]
    · rw [if_neg h2]; exact h z h1 h2

theorem small_step {b c : Int} (hb : 0 ≤ b) (hb' : b < 2 ^ 40) (hc : 1 ≤ c) (hc' : c < 2 ^ 40) : Builtin.Range.small 0 b c = true := by
  have h1 : (b - 0 - 1) / c ≤ b := by
    have h2 : (b - 1) / c ≤ b := by
      by_cases h : 1 ≤ b
      · exact Int.le_trans (Int.ediv_le_self _ (by omega)) (by omega)
      · have : b = 0 := by omega
        subst this
        exact Int.le_trans (Int.ediv_le_ediv (by omega) (show (0:Int) - 1 ≤ 0 by decide)) (by simp)
    simpa using h2
  have h3 : -1 ≤ (b - 0 - 1) / c := by
    have := Int.ediv_le_ediv (show (0:Int) < c by omega) (show (-1 : Int) ≤ b - 0 - 1 by omega)
    have e : (-1 : Int) / c = -1 := by
      rw [Int.ediv_eq_iff_of_pos (by omega)]
      omega
    omega
  unfold Builtin.Range.small
  simp only [Builtin.Range.rangeFitsLong, Builtin.Range.rangeSize, Bool.and_eq_true, Bool.or_eq_true, decide_eq_true_eq, beq_iff_eq, show c > 0 by omega, if_true]
  split <;> omega
theorem size_step (q wd : Nat) (hw : 1 ≤ wd) : Builtin.Range.rangeSize 0 ((q * wd : Nat) : Int) (wd : Int) = (q : Int) := by
  unfold Builtin.Range.rangeSize
  rw [if_pos (by omega)]
  by_cases hq : q = 0
  · subst hq
    simp
  · have hp : 0 < q * wd := Nat.mul_pos (by omega) (by omega)
    rw [if_pos (by omega)]
    have e : ((q * wd : Nat) : Int) - 0 - 1 = ((wd : Int) - 1) + (wd : Int) * ((q : Int) - 1) := by
      rw [Int.mul_sub, Int.natCast_mul, Int.mul_comm]; omega
    rw [e, Int.add_mul_ediv_left _ _ (by omega), Int.ediv_eq_zero_of_lt (by omega) (by omega)]
    omega
/-- one word turned about: w octets from i on -/
def swapW (d : Array UInt8) (i w : Nat) (x : Array UInt8) : Nat → Array UInt8
  | 0 => x
  | j + 1 => (swapW d i w x j).setIfInBounds (i + w - 1 - j) (d.getD (i + j) 0)
theorem swap_eq (d : Array UInt8) (iw wd j : Nat) (x : Array UInt8) (hj : j < wd) : (swapW d iw wd x j).setIfInBounds ((iw : Int) + wd - 1 - j).toNat (((d.toList.getD ((iw : Int) + j).toNat 0).toNat : Nat) : Int).toNat.toUInt8 = swapW d iw wd x (j + 1) := by
  have e1 : ((iw : Int) + wd - 1 - j).toNat = iw + wd - 1 - j := by omega
  have e2 : ((iw : Int) + j).toNat = iw + j := by omega
  rw [e1, e2, Int.toNat_natCast, swapW]
  congr 1
  obtain ⟨l⟩ := d
  simp
def swapF (d : Array UInt8) (w : Nat) : Nat → Array UInt8
  | 0 => Array.replicate d.size 0
  | k + 1 => swapW d (k * w) w (swapF d w k) w
theorem swapW_size (d : Array UInt8) (i w : Nat) (x : Array UInt8) : ∀ j, (swapW d i w x j).size = x.size
  | 0 => rfl
  | j + 1 => by rw [swapW, Array.size_setIfInBounds, swapW_size d i w x j]
theorem swapF_size (d : Array UInt8) (w : Nat) : ∀ k, (swapF d w k).size = d.size
  | 0 => by simp [swapF]
  | k + 1 => by rw [swapF, swapW_size, swapF_size d w k]
end Mine
end

section
open PySem PySem.W PyProof.Rows PySem.Calls
set_option maxRecDepth 100000
namespace Mine

/-- the frame of a comprehension's block -/
abbrev cenvX (scope : Scope) (cl : List (Str × Addr)) (C : Addr) (env : Env) : Env :=
  { scope := relabel scope env, locals := C, globals := env.globals, cells := cellsFrom (C + 1) scope.names cl, qual := env.qual, func := none, code := env.code, frame := env.frame, builtins := env.builtins }
/-- the cells that the block makes for itself -/
abbrev cellsX (scope : Scope) (C : Addr) : List Addr := (cellsFrom (C + 1) scope.names []).map (·.2)
def CellsLive (scope : Scope) (C : Addr) (h : Heap) : Prop := ∀ c ∈ cellsX scope C, ∃ v, h.IsCell c v
abbrev lsObj (ys : List Value) (n : Nat) : Obj := { cls := .type "list", data := .seq ys.toArray n }

section
variable {b : Bool} {prog : Program} {w : World} {A : Around} {env : Env}

theorem newCompEnv {M : Model} {E : Value → Shared → Prop} {s : Shared} {scope : Scope} {cl : List (Str × Addr)} {Q : Env → Shared → Prop}
    (hQ : ∀ h', h'.Ns s.heap.objs.size (fun _ => none) → Kp s.heap h' → CellsLive scope s.heap.objs.size h' → (∀ c ∈ cellsX scope s.heap.objs.size, s.heap.objs.size < c) →
      Q { scope := scope, locals := s.heap.objs.size, globals := env.globals, cells := cellsFrom (s.heap.objs.size + 1) scope.names cl, qual := env.qual, func := none, code := env.code, frame := env.frame, builtins := env.builtins } { s with heap := h' }) :
    wpAny M A (newFunctionEnv scope env.globals cl [] env.qual none .none (some env)) Q E s := by
  simp only [newFunctionEnv, Option.isSome_some, if_true]
  refine wpAny_bind (wpAny_alloc ?_)
  refine wpAny_bind (wpAny_layCells _ (fun name kind cells => by cases kind == NameKind.cell <;> simp) _ _ _ _ ?_)
  have ok := cellsFrom_ok scope.names (s.heap.push { cls := .type "dict", data := .dict #[] }) (s.heap.objs.size + 1) [] ⟨fun _ _ hm => (nomatch hm), List.Pairwise.nil⟩ (by rw [Heap.size_push]; exact Nat.le_refl _)
  rw [Heap.size_push] at ok
  rw [show ({ s with heap := s.heap.push { cls := .type "dict", data := .dict #[] } } : Shared).heap.objs.size = s.heap.objs.size + 1 from Heap.size_push ..]
  rw [List.forIn_nil]
  refine wpAny_bind (wpAny_pure (wpAny_pure ?_))
  refine hQ _ ((Heap.Ns.new s.heap (.type "dict")).keeps (pushCells_keeps _ _)) (fun b o e => pushCells_keeps _ _ b o (Heap.get?_push_of_some _ e)) (fun c hc => ?_) (fun c hc => ?_)
  · obtain ⟨⟨n, c'⟩, hm, rfl⟩ := List.mem_map.mp hc
    exact ⟨none, (ok.empty n c' hm).1⟩
  · obtain ⟨⟨n, c'⟩, hm, rfl⟩ := List.mem_map.mp hc
    exact (ok.empty n c' hm).2

theorem append_ls {s : Shared} {E : Value → Shared → Prop} {l : Addr} {ys : List Value} {n : Nat} {y : Value} {Q : Value → Shared → Prop} (hl : s.heap.get? l = some (lsObj ys n)) (hz : ys.length ≤ sizeLine)
    (hQ : ∀ h' n', h'.get? l = some (lsObj (ys ++ [y]) n') → Heap.SameBut l s.heap h' → Q .none { s with heap := h' }) :
    wpAny (model prog w) A (call (.builtin "list.append") [.ref l, y]) Q E s := by
  have hL : s.heap.IsList l ys.toArray := ⟨_, hl, rfl, n, rfl⟩
  refine wpAny_call_entry slot_list_append hL.typeIs entry_list_append ?_ (args_list_append _ _)
  show wpAny _ _ (updateSeq l (·.push y) >>= fun _ => ret .none) _ _ s
  refine wpAny_bind ?_
  refine wpAny_updateSeq hl rfl (wpAny_pure ⟨.none, rfl, ?_⟩) (by simpa using hz)
  have e := Heap.get?_update_self (Obj.mapSeq (·.push y)) hl rfl
  have e2 : Obj.mapSeq (·.push y) (lsObj ys n) = lsObj (ys ++ [y]) (n + 1) := by
    simp only [Obj.mapSeq, List.push_toArray, List.size_toArray, List.length_append, List.length_singleton]
    rw [if_neg (by simp)]
  rw [e2] at e
  exact hQ _ _ e (Heap.SameBut.update ..)
end
end Mine
end

section
open PySem PySem.W PyProof.Rows PySem.Calls
set_option maxRecDepth 100000
namespace Mine
section
variable {b : Bool} {prog : Program} {w : World} {A : Around} {env : Env}

theorem Paired.mono {α β : Type} {F F' : α → β → Prop} (h : ∀ a b, F a b → F' a b) : ∀ {l₁ : List α} {l₂ : List β}, Paired F l₁ l₂ → Paired F' l₁ l₂
  | _, _, .nil => .nil
  | _, _, .cons x t => .cons (h _ _ x) (Paired.mono h t)

/-- the loop of a list comprehension of one clause: each item's element, the objects that the element brings, the list so far -/
theorem codeB_compWalk {elt target iter : Expr} {ifs : List Expr} {scope : Scope} {cl : List (Str × Addr)} {pos : Pos} {s₂ : Shared} {I D C : Addr} {fp wr : List Addr} {n : Nat} {P : Nat → Value → Prop} {St : Nat → Heap → Prop} {R : Result → Shared → Prop}
    (W : Walks prog w A I fp wr n P St) (hsz : n ≤ sizeLine) (Tg : Value → Heap → Prop) (p : Value → Bool) (G : Value → Value → List (Addr × Obj) → Prop)
    (hD : s₂.heap.get? D = none) (hC : s₂.heap.get? C = none) (hcx : ∀ c ∈ cellsX scope C, s₂.heap.get? c = none) (hDC : D ≠ C) (hDx : D ∉ cellsX scope C) (hCx : C ∉ cellsX scope C) (hfp : ∀ x ∈ fp, x ≠ D ∧ x ≠ C ∧ x ∉ cellsX scope C)
    (hwl : ∀ i h, St i h → ∀ x ∈ wr, ∃ o, h.get? x = some o)
    (hlet : ∀ i v (s₃ : Shared) (Q : Unit → Shared → Prop), P i v → St (i + 1) s₃.heap → Q () s₃ → wpAny (model prog w) A (letOwnedTupleGo target (.ref I) v) Q (fun _ _ => False) s₃)
    (htg : ∀ i v h₃ tk₃ m (Q : Unit → Shared → Prop), P i v → Heap.Ns h₃ C m → CellsLive scope C h₃ → (∀ x o, x ∉ wr → s₂.heap.get? x = some o → h₃.get? x = some o) →
      (∀ h₄ tk m', h₄.Ns C m' → CellsLive scope C h₄ → Tg v h₄ → (∀ x o, x ≠ C → x ∉ cellsX scope C → h₃.get? x = some o → h₄.get? x = some o) → Q () { s₂ with heap := h₄, toks := tk }) →
      wpAny (model prog w) A (assign target (cenvX scope cl C env) v) Q (fun _ _ => False) { s₂ with heap := h₃, toks := tk₃ })
    (htests : ∀ i v h₃ tk₃, P i v → Tg v h₃ → (∀ x o, x ∉ wr → s₂.heap.get? x = some o → h₃.get? x = some o) →
      wpAny (model prog w) A (forIn ifs true fun c r => if r = true then do let ok ← isTrue c (cenvX scope cl C env) (eval c (cenvX scope cl C env)); pure (ForInStep.yield ok) else pure (ForInStep.yield r))
        (fun ok s₄ => ok = p v ∧ ∃ tk, s₄ = { s₂ with heap := h₃, toks := tk }) (fun _ _ => False) { s₂ with heap := h₃, toks := tk₃ })
    (helt : ∀ i v h₃ tk₃, P i v → p v = true → Tg v h₃ → (∀ x o, x ∉ wr → s₂.heap.get? x = some o → h₃.get? x = some o) →
      wpB b (model prog w) A (eval elt (cenvX scope cl C env))
        (fun y s₄ => ∃ h₄ tk own, s₄ = { s₂ with heap := h₄, toks := tk } ∧ Kp h₃ h₄ ∧ G v y own ∧ ∀ q ∈ own, h₃.get? q.1 = none ∧ h₄.get? q.1 = some q.2) (fun _ _ => False) { s₂ with heap := h₃, toks := tk₃ })
    (hR : ∀ h' tk m' k (vs : List Value) (rows : List (Value × List (Addr × Obj))), h'.Ns C m' → h'.get? D = some (lsObj (rows.map (·.1)) k) → vs.length = n → (∀ j v, vs[j]? = some v → P j v) → Paired (fun v r => G v r.1 r.2) (vs.filter p) rows →
      (∀ r ∈ rows, ∀ q ∈ r.2, s₂.heap.get? q.1 = none ∧ h'.get? q.1 = some q.2 ∧ q.1 ≠ C) → (∀ x o, x ∉ wr → s₂.heap.get? x = some o → h'.get? x = some o) → R (.ok .next) { s₂ with heap := h', toks := tk })
    {h₀ : Heap} {tk₀ : Nat} {m₀ : Str → Option Value} (hst : St 0 h₀) (hacc : h₀.get? D = some (lsObj [] 0)) (hns : h₀.Ns C m₀) (hcl : CellsLive scope C h₀) (hk0 : ∀ x o, x ∉ wr → s₂.heap.get? x = some o → h₀.get? x = some o) :
    codeB b (model prog w) A (.compLoop (.ListComp elt [⟨target, iter, ifs, 0⟩] scope pos) 0 (.ref I) (.ref D) (cenvX scope cl C env)) R { s₂ with heap := h₀, toks := tk₀ } := by
  have hCw : C ∉ wr := fun h => (hfp C (W.sub _ h)).2.1 rfl
  have hDw : D ∉ wr := fun h => (hfp D (W.sub _ h)).1 rfl
  have hxw : ∀ c ∈ cellsX scope C, c ∉ wr := fun c hc h => (hfp c (W.sub _ h)).2.2 hc
  refine codeB_loop rfl rfl
    (fun k s' => ∃ h' tk m' k', ∃ (vs : List Value) (rows : List (Value × List (Addr × Obj))), s' = { s₂ with heap := h', toks := tk } ∧ St vs.length h' ∧ h'.get? D = some (lsObj (rows.map (·.1)) k') ∧ rows.length ≤ vs.length ∧ h'.Ns C m' ∧ CellsLive scope C h' ∧ (∀ j v, vs[j]? = some v → P j v) ∧
      Paired (fun v r => G v r.1 r.2) (vs.filter p) rows ∧ vs.length ≤ n ∧ k = n + 1 - vs.length ∧
      (∀ r ∈ rows, ∀ q ∈ r.2, s₂.heap.get? q.1 = none ∧ h'.get? q.1 = some q.2 ∧ q.1 ≠ C ∧ q.1 ≠ D ∧ q.1 ∉ cellsX scope C ∧ q.1 ∉ wr) ∧
      (∀ x o, x ∉ wr → s₂.heap.get? x = some o → h'.get? x = some o)) ?_ (n + 1)
    ⟨h₀, tk₀, m₀, 0, [], [], rfl, hst, hacc, Nat.le_refl _, hns, hcl, by simp, by simpa using Paired.nil, Nat.zero_le _, rfl, by simp, hk0⟩
  rintro k s' ⟨H, tk, m', k', vs, rows, rfl, hst', hacc', hrl, hns', hcl', hP, hF, hi, rfl, hown, hk⟩
  show wpB b _ A ((compTurn (.ListComp elt [⟨target, iter, ifs, 0⟩] scope pos) 0 (.ref I) (.ref D) (cenvX scope cl C env)).onRaise (fun x => do noteFrame x (cenvX scope cl C env); theTreesLotGoes x)) _ _ _
  refine wpB_onRaise ?_
  rw [compTurn_list]
  refine wpB_bindA (wpAny_standAt ?_)
  by_cases hlt : vs.length < n
  · refine wpB_bindA (W.item _ _ _ _ hlt hst' fun v h₁ tk₁ hv hst₁ hk₁ => ?_)
    dsimp only
    refine wpB_bindA (hlet _ v _ _ hv hst₁ ?_)
    have hns₁ : h₁.Ns C m' := hns'.at' fun o e => hk₁ _ o hCw e
    have hcl₁ : CellsLive scope C h₁ := fun c hc => by
      obtain ⟨v, o, ho, hd⟩ := hcl' c hc
      exact ⟨v, o, hk₁ _ _ (hxw c hc) ho, hd⟩
    have hacc₁ := hk₁ _ _ hDw hacc'
    refine wpB_bindA (htg _ v h₁ tk₁ m' _ hv hns₁ hcl₁ (fun x o hx e => hk₁ x o hx (hk x o hx e)) fun h₂ tk₂ m₂ hns₂ hcl₂ hT₂ hk₂ => ?_)
    have keep₂ : ∀ x o, x ∉ wr → s₂.heap.get? x = some o → h₂.get? x = some o := fun x o hx e => hk₂ x o (by rintro rfl; rw [hC] at e; cases e) (fun hc => by rw [hcx x hc] at e; cases e) (hk₁ x o hx (hk x o hx e))
    have hacc₂ := hk₂ _ _ hDC hDx hacc₁
    have hst₂ : St (vs.length + 1) h₂ := W.frame _ _ _ hst₁ fun x hx o e => hk₂ x o (hfp x hx).2.1 (hfp x hx).2.2 e
    have hown₂ : ∀ r ∈ rows, ∀ q ∈ r.2, s₂.heap.get? q.1 = none ∧ h₂.get? q.1 = some q.2 ∧ q.1 ≠ C ∧ q.1 ≠ D ∧ q.1 ∉ cellsX scope C ∧ q.1 ∉ wr := fun r hr q hq => by
      obtain ⟨a1, a2, a3, a4, a5, a6⟩ := hown r hr q hq
      exact ⟨a1, hk₂ _ _ a3 a5 (hk₁ _ _ a6 a2), a3, a4, a5, a6⟩
    have hP' : ∀ j v', (vs ++ [v])[j]? = some v' → P j v' := fun j v' hj => by
      by_cases hl : j < vs.length
      · rw [List.getElem?_append_left hl] at hj; exact hP j v' hj
      · rw [List.getElem?_append_right (Nat.not_lt.mp hl)] at hj
        have hj0 : j - vs.length = 0 := by
          cases q : j - vs.length with
          | zero => rfl
          | succ z => rw [q] at hj; simp at hj
        rw [hj0] at hj
        have : j = vs.length := by omega
        subst this
        simp at hj; rw [← hj]; exact hv
    refine wpB_bindA (wpAny_mono (htests _ v h₂ tk₂ hv hT₂ keep₂) (fun ok s₄ ho => ?_) fun _ _ x => x)
    obtain ⟨rfl, tk₃, rfl⟩ := ho
    cases hp : p v with
    | false =>
      refine wpB_of (wpAny_pure (.inl ⟨rfl, n + 1 - (vs ++ [v]).length, by rw [List.length_append, List.length_singleton]; omega, h₂, tk₃, m₂, k', vs ++ [v], rows, rfl, by rw [List.length_append]; exact hst₂, hacc₂, by rw [List.length_append]; omega, hns₂, hcl₂, hP', ?_, by rw [List.length_append, List.length_singleton]; omega, rfl, hown₂, keep₂⟩))
      rw [List.filter_append]
      simpa [hp] using hF
    | true =>
      refine wpB_bind (wpB_bind (wpB_mono (helt _ v h₂ tk₃ hv hp hT₂ keep₂) (fun y s₅ h₅ => ?_) fun _ _ x => x.elim))
      obtain ⟨h₄, tk₄, own, rfl, hk₄, hG, hfr⟩ := h₅
      refine wpB_bindA (append_ls (hk₄ _ _ hacc₂) (by rw [List.length_map]; omega) fun h₅ k₅ ha₅ hs₅ => ?_)
      have live : ∀ x o, x ≠ D → h₂.get? x = some o → h₅.get? x = some o := fun x o hx e => hs₅.extBut x o hx (hk₄ x o e)
      refine wpB_of (wpAny_pure (wpB_of (wpAny_pure (.inl ⟨rfl, n + 1 - (vs ++ [v]).length, by rw [List.length_append, List.length_singleton]; omega, h₅, tk₄, m₂, k₅, vs ++ [v], rows ++ [(y, own)], rfl, ?_, ?_, ?_, ?_, ?_, hP', ?_, by rw [List.length_append, List.length_singleton]; omega, rfl, ?_, ?_⟩))))
      · rw [List.length_append]
        exact W.frame _ _ _ hst₂ fun x hx o e => live x o (hfp x hx).1 e
      · rw [List.map_append]; exact ha₅
      · rw [List.length_append, List.length_append, List.length_singleton, List.length_singleton]; omega
      · exact hns₂.at' fun o e => live _ o (Ne.symm hDC) e
      · intro c hc
        obtain ⟨v, o, ho, hd⟩ := hcl₂ c hc
        exact ⟨v, o, live c o (fun e => hDx (e ▸ hc)) ho, hd⟩
      · rw [List.filter_append]
        simp only [List.filter_cons, hp, if_true, List.filter_nil]
        exact hF.snoc hG
      · intro r hr q hq
        rcases List.mem_append.mp hr with hr | hr
        · obtain ⟨a1, a2, a3, a4, a5, a6⟩ := hown₂ r hr q hq
          exact ⟨a1, live _ _ a4 a2, a3, a4, a5, a6⟩
        · rw [List.mem_singleton.mp hr] at hq
          obtain ⟨f1, f2⟩ := hfr q hq
          have nC : q.1 ≠ C := by
            intro e
            obtain ⟨o, _, _, ho, _⟩ := hns₂
            rw [← e, f1] at ho; cases ho
          have nD : q.1 ≠ D := by
            intro e
            rw [e, hacc₂] at f1; cases f1
          have nx : q.1 ∉ cellsX scope C := fun hc => by
            obtain ⟨_, o, ho, _⟩ := hcl₂ _ hc
            rw [f1] at ho; cases ho
          have nw : q.1 ∉ wr := fun hc => by
            obtain ⟨o, ho⟩ := hwl _ _ hst₂ _ hc
            rw [f1] at ho; cases ho
          have nn : s₂.heap.get? q.1 = none := by
            cases e : s₂.heap.get? q.1 with
            | none => rfl
            | some o => rw [keep₂ _ _ nw e] at f1; cases f1
          exact ⟨nn, hs₅.extBut _ _ nD f2, nC, nD, nx, nw⟩
      · intro x o hx e
        exact live x o (by rintro rfl; rw [hD] at e; cases e) (keep₂ x o hx e)
  · have hin : vs.length = n := by omega
    rw [hin] at hst'
    refine wpB_of (wpAny_bind (W.done _ _ _ hst' fun h₁ tk₁ hk₁ => wpAny_pure ?_))
    refine hR h₁ tk₁ m' k' vs rows (hns'.at' fun o e => hk₁ _ o hCw e) (hk₁ _ _ hDw hacc') hin hP hF (fun r hr q hq => ?_) fun x o hx e => hk₁ x o hx (hk x o hx e)
    obtain ⟨a1, a2, a3, a4, a5, a6⟩ := hown r hr q hq
    exact ⟨a1, hk₁ _ _ a6 a2, a3⟩
end
end Mine
end

section
open PySem PySem.W PyProof.Rows PySem.Calls
set_option maxRecDepth 100000
namespace Mine
section
variable {b : Bool} {prog : Program} {w : World} {A : Around} {env : Env}

structure CompAt (b : Bool) (prog : Program) (w : World) (A : Around) (env : Env) (scope : Scope) (cl : List (Str × Addr)) (target : Expr) (ifs : List Expr) (elt : Expr) (s₂ : Shared) (I : Addr) (wr : List Addr) (n : Nat) (P : Nat → Value → Prop)
    (p : Value → Bool) (G : Value → Value → List (Addr × Obj) → Prop) : Type where
  fp : List Addr
  St : Nat → Heap → Prop
  W : Walks prog w A I fp wr n P St
  sz : n ≤ sizeLine
  st : St 0 s₂.heap
  lo : ∀ x ∈ fp, x < s₂.heap.objs.size
  wl : ∀ i h, St i h → ∀ x ∈ wr, ∃ o, h.get? x = some o
  Tg : Addr → Value → Heap → Prop
  lt : ∀ i v (s₃ : Shared) (Q : Unit → Shared → Prop), P i v → St (i + 1) s₃.heap → Q () s₃ → wpAny (model prog w) A (letOwnedTupleGo target (.ref I) v) Q (fun _ _ => False) s₃
  tg : ∀ C i v h₃ tk₃ m (Q : Unit → Shared → Prop), P i v → Heap.Ns h₃ C m → CellsLive scope C h₃ → C ∉ cellsX scope C → (∀ x o, x ∉ wr → s₂.heap.get? x = some o → h₃.get? x = some o) →
      (∀ h₄ tk m', h₄.Ns C m' → CellsLive scope C h₄ → Tg C v h₄ → (∀ x o, x ≠ C → x ∉ cellsX scope C → h₃.get? x = some o → h₄.get? x = some o) → Q () { s₂ with heap := h₄, toks := tk }) →
      wpAny (model prog w) A (assign target (cenvX scope cl C env) v) Q (fun _ _ => False) { s₂ with heap := h₃, toks := tk₃ }
  tests : ∀ C i v h₃ tk₃, P i v → Tg C v h₃ → (∀ x o, x ∉ wr → s₂.heap.get? x = some o → h₃.get? x = some o) →
      wpAny (model prog w) A (forIn ifs true fun c r => if r = true then do let ok ← isTrue c (cenvX scope cl C env) (eval c (cenvX scope cl C env)); pure (ForInStep.yield ok) else pure (ForInStep.yield r))
        (fun ok s₄ => ok = p v ∧ ∃ tk, s₄ = { s₂ with heap := h₃, toks := tk }) (fun _ _ => False) { s₂ with heap := h₃, toks := tk₃ }
  elt : ∀ C i v h₃ tk₃, s₂.heap.objs.size < C → P i v → p v = true → Tg C v h₃ → (∀ x o, x ∉ wr → s₂.heap.get? x = some o → h₃.get? x = some o) →
      wpB b (model prog w) A (eval elt (cenvX scope cl C env))
        (fun y s₄ => ∃ h₄ tk own, s₄ = { s₂ with heap := h₄, toks := tk } ∧ Kp h₃ h₄ ∧ G v y own ∧ ∀ q ∈ own, h₃.get? q.1 = none ∧ h₄.get? q.1 = some q.2) (fun _ _ => False) { s₂ with heap := h₃, toks := tk₃ }

/-- what a comprehension leaves: a new list, the objects of its items -/
structure CompEnd (s₂ : Shared) (wr : List Addr) (n : Nat) (P : Nat → Value → Prop) (p : Value → Bool) (G : Value → Value → List (Addr × Obj) → Prop) (D : Addr) (h' : Heap) (k : Nat) (vs : List Value) (rows : List (Value × List (Addr × Obj))) : Prop where
  new : s₂.heap.get? D = none
  lst : h'.get? D = some (lsObj (rows.map (·.1)) k)
  len : vs.length = n
  items : ∀ j v, vs[j]? = some v → P j v
  pairs : Paired (fun v r => G v r.1 r.2) (vs.filter p) rows
  owns : ∀ r ∈ rows, ∀ q ∈ r.2, s₂.heap.get? q.1 = none ∧ h'.get? q.1 = some q.2
  keep : ∀ x o, x ∉ wr → s₂.heap.get? x = some o → h'.get? x = some o

theorem gone {h : Heap} {a : Addr} (ha : h.objs.size ≤ a) : h.get? a = none := by
  cases e : h.get? a with
  | none => rfl
  | some o => exact absurd (Heap.lt_size e) (Nat.not_lt.mpr ha)

theorem comp_core {elt target iter : Expr} {ifs : List Expr} {scope : Scope} {cl : List (Str × Addr)} {pos : Pos} {s₂ : Shared} {I : Addr} {wr : List Addr} {n : Nat} {P : Nat → Value → Prop} {p : Value → Bool} {G : Value → Value → List (Addr × Obj) → Prop}
    (c : CompAt b prog w A env scope cl target ifs elt s₂ I wr n P p G) {RR : Value → Addr → Result → Shared → Prop}
    (hRR : ∀ D C h' tk m' k vs rows, s₂.heap.get? C = none → D ≠ C → h'.Ns C m' → CompEnd s₂ wr n P p G D h' k vs rows → (∀ r ∈ rows, ∀ q ∈ r.2, q.1 ≠ C) → RR (.ref D) C (.ok .next) { s₂ with heap := h', toks := tk }) :
    wpB b (model prog w) A (newList []) (fun acc s₃ => wpB b (model prog w) A (newFunctionEnv scope env.globals cl [] env.qual none .none (some env)) (fun cenv s₄ =>
      codeB b (model prog w) A (.compStart (.ListComp elt [⟨target, iter, ifs, 0⟩] scope pos) 0 (.ref I) acc { cenv with scope := relabel scope env }) (RR acc cenv.locals) s₄) (fun _ _ => False) s₃) (fun _ _ => False) s₂ := by
  refine wpB_of (wpAny_newObj_type (wpB_of (newCompEnv fun h₁ hns₁ hk₁ hcl₁ hlo₁ => ?_)))
  dsimp only at hns₁ hk₁ hcl₁ hlo₁ ⊢
  generalize hH2 : s₂.heap.push { cls := .type "list", dict := none, data := .seq ([] : List Value).toArray } = H2 at hns₁ hk₁ hcl₁ hlo₁ ⊢
  have hC : H2.objs.size = s₂.heap.objs.size + 1 := by rw [← hH2, Heap.size_push]
  have hDC : s₂.heap.objs.size ≠ H2.objs.size := Nat.ne_of_lt (by omega)
  have old : Kp s₂.heap h₁ := fun x o e => hk₁ x o (hH2 ▸ Heap.get?_push_of_some _ e)
  have hacc : h₁.get? s₂.heap.objs.size = some (lsObj [] 0) := hk₁ _ _ (hH2 ▸ Heap.get?_push_size _ rfl)
  have loop : codeB b (model prog w) A (.compLoop (.ListComp elt [⟨target, iter, ifs, 0⟩] scope pos) 0 (.ref I) (.ref s₂.heap.objs.size) (cenvX scope cl H2.objs.size env)) (RR (.ref s₂.heap.objs.size) H2.objs.size) { s₂ with heap := h₁ } := by
    refine codeB_compWalk (tk₀ := s₂.toks) c.W c.sz (c.Tg H2.objs.size) p G (gone (Nat.le_refl _)) (gone (by omega)) (fun x hx => gone (by have := hlo₁ x hx; omega)) hDC (fun hx => by have := hlo₁ _ hx; omega) (fun hx => by have := hlo₁ _ hx; omega)
      (fun x hx => ?_) c.wl c.lt (fun i v h₃ tk₃ m Q hv hn hl hk hQ => c.tg H2.objs.size i v h₃ tk₃ m Q hv hn hl (fun hx => by have := hlo₁ _ hx; omega) hk hQ) (fun i v h₃ tk₃ hv ht hk => c.tests H2.objs.size i v h₃ tk₃ hv ht hk)
      (fun i v h₃ tk₃ hv hp ht hk => c.elt H2.objs.size i v h₃ tk₃ (by omega) hv hp ht hk) ?_ (c.W.frame _ _ _ c.st fun x _ o e => old x o e) hacc hns₁ hcl₁ (fun x o _ e => old x o e)
    · have h1 : x < s₂.heap.objs.size := c.lo x hx
      have h2 : x < H2.objs.size := Nat.lt_trans h1 (by omega)
      exact ⟨Nat.ne_of_lt h1, Nat.ne_of_lt h2, fun hc => Nat.lt_asymm h2 (hlo₁ _ hc)⟩
    · intro h' tk m' k vs rows hns hl hlen hP hF hown hk
      exact hRR _ _ h' tk m' k vs rows (gone (by omega)) hDC hns ⟨gone (Nat.le_refl _), hl, hlen, hP, hF, fun r hr q hq => ⟨(hown r hr q hq).1, (hown r hr q hq).2.1⟩, hk⟩ fun r hr q hq => (hown r hr q hq).2.2
  refine codeB_of_tree rfl ?_
  show wpB b _ A ((compStart (.ListComp elt [⟨target, iter, ifs, 0⟩] scope pos) 0 (.ref I) (.ref s₂.heap.objs.size) (cenvX scope cl H2.objs.size env)).onRaise (fun x => do noteFrame x (cenvX scope cl H2.objs.size env); standAt theWindowsPlace)) _ _ _
  refine wpB_onRaise ?_
  unfold compStart
  show wpB b _ _ (ask >>= _) _ _ _
  refine wpB_bindA (wpAny_askSetting ?_)
  refine wpB_ite (fun _ => ?_) fun _ => ?_
  · first
      | exact wpB_pure (And.intro rfl loop)
      | exact wpB_bindA (wpAny_pure (wpB_pure (And.intro rfl loop)))
  · refine wpB_bindA (wpAny_rule ?_)
    show wpB b _ _ (standAt iter.pos >>= _) _ _ _
    refine wpB_bindA (wpAny_standAt (wpB_bindA (c.W.self 0 _ _ _ (c.W.frame _ _ _ c.st fun x _ o e => old x o e) ?_)))
    exact wpB_pure (And.intro rfl loop)
end
end Mine
end

section
open PySem PySem.W PyProof.Rows PySem.Calls
set_option maxRecDepth 100000
namespace Mine
section
variable {b : Bool} {prog : Program} {w : World} {A : Around} {env : Env} {E : Value → Shared → Prop} {s : Shared}

theorem CompEnd.sameBut {s₂ : Shared} {wr : List Addr} {n : Nat} {P : Nat → Value → Prop} {p : Value → Bool} {G : Value → Value → List (Addr × Obj) → Prop} {D C : Addr} {h' h'' : Heap} {k : Nat} {vs : List Value} {rows : List (Value × List (Addr × Obj))}
    (c : CompEnd s₂ wr n P p G D h' k vs rows) (hs : Heap.SameBut C h' h'') (hC : s₂.heap.get? C = none) (hDC : D ≠ C) (hq : ∀ r ∈ rows, ∀ q ∈ r.2, q.1 ≠ C) : CompEnd s₂ wr n P p G D h'' k vs rows :=
  ⟨c.new, hs.extBut _ _ hDC c.lst, c.len, c.items, c.pairs, fun r hr q hq' => ⟨(c.owns r hr q hq').1, hs.extBut _ _ (hq r hr q hq') (c.owns r hr q hq').2⟩, fun x o hx e => hs.extBut x o (by rintro rfl; rw [hC] at e; cases e) (c.keep x o hx e)⟩

abbrev CompAny (b : Bool) (prog : Program) (w : World) (A : Around) (env : Env) (scope : Scope) (cl : List (Str × Addr)) (target : Expr) (ifs : List Expr) (elt : Expr) (Q : Value → Shared → Prop) (it : Value) (s₂ : Shared) : Prop :=
  ∃ I wr n P p G, it = .ref I ∧ (∃ _ : CompAt b prog w A env scope cl target ifs elt s₂ I wr n P p G, True) ∧ ∀ D h' tk k vs rows, CompEnd s₂ wr n P p G D h' k vs rows → Q (.ref D) { s₂ with heap := h', toks := tk }

theorem wpB_ListComp {elt target iter : Expr} {ifs : List Expr} {scope : Scope} {cl : List (Str × Addr)} {pos : Pos} {Q : Value → Shared → Prop}
    (hclos : closureFor scope env = pure cl) (hkind : scope.kind = .function) (hnames : ∀ x ∈ scope.names, x.2 = .local → scope.names.lookup x.1 = some .local)
    (h : wpB b (model prog w) A (eval iter env) (fun xv s₁ => wpAny (model prog w) A (pyIter xv) (fun it s₂ => CompAny b prog w A env scope cl target ifs elt Q it s₂) (fun _ _ => False) s₁) (fun _ _ => False) s)
    (hs : ∀ x, foldedSetIterable iter env x = pure x := by intro _; rfl) :
    wpB b (model prog w) A (eval (.ListComp elt [⟨target, iter, ifs, 0⟩] scope pos) env) Q E s := by
  rw [eval_ListComp]
  unfold comprehension
  rw [hclos]
  refine wpB_bind (wpB_mono h (fun x s₁ h₁ => wpB_bindA (wpAny_standAt (wpB_bindA (wpAny_of_eq (hs x) ?_)))) fun _ _ f => f.elim)
  refine wpB_bindA (wpAny_holding (wpAny_mono h₁ (fun it s₂ h₂ => ?_) fun _ _ f => f.elim))
  obtain ⟨I, wr, n, P, p, G, rfl, ⟨c, _⟩, hQ⟩ := h₂
  refine wpB_bind (wpB_mono (comp_core (iter := iter) (pos := pos) c (RR := fun acc C r s' => (∃ f, r = .ok f) ∧ (∃ m, s'.heap.Ns C m) ∧ ∀ h', Heap.SameBut C s'.heap h' → Q acc { s' with heap := h' }) ?_) (fun acc s₃ h₃ => ?_) fun _ _ f => f.elim)
  · intro D C h' tk m' k vs rows hC hDC hns ce hq
    exact ⟨⟨_, rfl⟩, ⟨m', hns⟩, fun h'' hs'' => hQ D h'' tk k vs rows (ce.sameBut hs'' hC hDC hq)⟩
  · refine wpB_bindA (wpAny_pure (wpB_bind (wpB_mono h₃ (fun cenv s₄ h₄ => ?_) fun _ _ f => f.elim)))
    dsimp only
    have hv : ∀ x ∈ (scope.names.filter fun x => (x.2 == .local || x.2 == .cell) && x.1 != (".0" : Str)).reverse, x.2 = .local →
        Env.kindOf { cenv with scope := relabel scope env } x.1 = some .local := fun x hx hl => lookup_relabel_local (hnames x (List.mem_filter.mp (List.mem_reverse.mp hx)).1 hl)
    refine wpB_holding (wpB_bind (wpB_attempt (wpB_holding (wpB_run (codeB_mono h₄ fun r s' hr => ?_)))))
    obtain ⟨⟨f, rfl⟩, ⟨m, hn⟩, hr⟩ := hr
    exact wpB_of (wpAny_bind (wpAny_holding (wpAny_comp_letGo (cenv := { cenv with scope := relabel scope env }) hkind _ s' m hv hn fun h' m' _ hs' => wpAny_pure (hr h' hs'))))

/-- the same, stored at once into a local name of the frame -/
theorem wpB_Assign_ListComp {elt target iter : Expr} {ifs : List Expr} {scope : Scope} {cl : List (Str × Addr)} {pos py spos : Pos} {y : Str} {Q : Flow → Shared → Prop}
    (hsw : swapsWith (.ListComp elt [⟨target, iter, ifs, 0⟩] scope pos) (some (.Name y py)) spos.line env = pure true)
    (hclos : closureFor scope env = pure cl) (hkind : scope.kind = .function) (hnames : ∀ x ∈ scope.names, x.2 = .local → scope.names.lookup x.1 = some .local)
    (hy : env.kindOf y = some .local) (hp : (env.scope.kind == .class || (env.scope.kind == .module && env.locals != env.globals)) = false)
    (h : wpB b (model prog w) A (eval iter env) (fun xv s₁ => wpAny (model prog w) A (pyIter xv) (fun it s₂ => ∃ I wr n P p G m, it = .ref I ∧ (∃ _ : CompAt b prog w A env scope cl target ifs elt s₂ I wr n P p G, True) ∧ s₂.heap.Ns env.locals m ∧ env.locals ∉ wr ∧
      ∀ D h' h'' tk k vs rows, CompEnd s₂ wr n P p G D h' k vs rows → h''.Ns env.locals (fun z => if z = y then some (.ref D) else m z) → (∀ x o, x ≠ env.locals → s₂.heap.get? x = some o → h'.get? x = some o → h''.get? x = some o) → h''.get? D = some (lsObj (rows.map (·.1)) k) → (∀ r ∈ rows, ∀ q ∈ r.2, h''.get? q.1 = some q.2) →
        Q .next { s₂ with heap := h'', toks := tk }) (fun _ _ => False) s₁) (fun _ _ => False) s)
    (hs : ∀ x, foldedSetIterable iter env x = pure x := by intro _; rfl) :
    wpB b (model prog w) A (exec (.Assign [.Name y py] (.ListComp elt [⟨target, iter, ifs, 0⟩] scope pos) spos) env) Q E s := by
  rw [exec_Assign_Name_used _ _ _ _ hsw]
  refine wpB_bindA (wpAny_standAt (wpB_bind ?_))
  show wpB b _ A (do let _ ← comprehension (.ListComp elt [⟨target, iter, ifs, 0⟩] scope pos) scope env _ (newList []) false (eval iter env) (some (assign (.Name y py) env))) _ _ s
  refine wpB_bind (wpB_mono (Q := fun _ s' => Q .next s') (E := fun _ _ => False) ?_ (fun _ s' hq => wpB_pure (wpB_pure hq)) fun _ _ f => f.elim)
  unfold comprehension
  rw [hclos]
  refine wpB_bind (wpB_mono h (fun x s₁ h₁ => wpB_bindA (wpAny_standAt (wpB_bindA (wpAny_of_eq (hs x) ?_)))) fun _ _ f => f.elim)
  refine wpB_bindA (wpAny_holding (wpAny_mono h₁ (fun it s₂ h₂ => ?_) fun _ _ f => f.elim))
  obtain ⟨I, wr, n, P, p, G, m, rfl, ⟨c, _⟩, hn, hLw, hQ⟩ := h₂
  refine wpB_ite (fun _ => ?_) (fun hc => absurd rfl hc)
  refine wpB_bindA (wpAny_standAt ?_)
  refine wpB_bind (wpB_mono (comp_core (iter := iter) (pos := pos) c (RR := fun acc C r s' => (∃ f, r = .ok f) ∧ wpAny (model prog w) A (assign (.Name y py) env acc) (fun _ s'' => (∃ m, s''.heap.Ns C m) ∧ ∀ h', Heap.SameBut C s''.heap h' → Q .next { s'' with heap := h' }) (fun _ _ => False) s') ?_) (fun acc s₃ h₃ => ?_) fun _ _ f => f.elim)
  · intro D C h' tk m' k vs rows hC hDC hnsC ce hq
    refine ⟨⟨_, rfl⟩, ?_⟩
    have hLC : env.locals ≠ C := by rintro rfl; obtain ⟨o, _, _, ho, _⟩ := hn; rw [hC] at ho; cases ho
    have hLD : env.locals ≠ D := by rintro rfl; obtain ⟨o, _, _, ho, _⟩ := hn; rw [ce.new] at ho; cases ho
    have hqL : ∀ r ∈ rows, ∀ q ∈ r.2, q.1 ≠ env.locals := fun r hr q hq e => by
      obtain ⟨o, _, _, ho, _⟩ := hn
      rw [← e, (ce.owns r hr q hq).1] at ho; cases ho
    refine wpAny_assign_Name (wpAny_storeName_local hy (hn.at' fun o e => ce.keep _ o hLw e) (fun h₂ hn₂ hs₂ => ?_) hp)
    refine ⟨⟨m', hnsC.sameBut hs₂ (Ne.symm hLC)⟩, fun h₃ hs₃ => ?_⟩
    refine hQ D h' h₃ _ k vs rows ce (hn₂.sameBut hs₃ hLC) (fun x o hx e e2 => ?_) (hs₃.extBut _ _ hDC (hs₂.extBut _ _ (Ne.symm hLD) ce.lst)) fun r hr q hq' => hs₃.extBut _ _ (hq r hr q hq') (hs₂.extBut _ _ (hqL r hr q hq') (ce.owns r hr q hq').2)
    exact hs₃.extBut x o (by rintro rfl; rw [hC] at e; cases e) (hs₂.extBut x o hx e2)
  · refine wpB_bindA (wpAny_pure (wpB_bind (wpB_mono h₃ (fun cenv s₄ h₄ => ?_) fun _ _ f => f.elim)))
    dsimp only
    have hv : ∀ x ∈ (scope.names.filter fun x => (x.2 == .local || x.2 == .cell) && x.1 != (".0" : Str)).reverse, x.2 = .local →
        Env.kindOf { cenv with scope := relabel scope env } x.1 = some .local := fun x hx hl => lookup_relabel_local (hnames x (List.mem_filter.mp (List.mem_reverse.mp hx)).1 hl)
    have hv' : ∀ x ∈ (scope.names.filter fun x => (x.2 == .local || x.2 == .cell) && x.1 != (".0" : Str)).reverse.drop 1 ++ (scope.names.filter fun x => (x.2 == .local || x.2 == .cell) && x.1 != (".0" : Str)).reverse.take 1,
        x.2 = .local → Env.kindOf { cenv with scope := relabel scope env } x.1 = some .local := fun x hx hl => by
      rcases List.mem_append.mp hx with h1 | h1
      · exact hv x (List.mem_of_mem_drop h1) hl
      · exact hv x (List.mem_of_mem_take h1) hl
    refine wpB_holding (wpB_bind (wpB_attempt (wpB_holding (wpB_run (codeB_mono h₄ fun r s' hr => ?_)))))
    obtain ⟨⟨f, rfl⟩, hr⟩ := hr
    refine wpB_of (wpAny_bind (wpAny_rule (wpAny_bind (wpAny_holding (wpAny_mono hr (fun _ s'' hr' => ?_) fun _ _ h' => h'.elim)))))
    obtain ⟨⟨m, hn⟩, hr'⟩ := hr'
    exact wpAny_bind (wpAny_comp_letGo (cenv := { cenv with scope := relabel scope env }) hkind _ s'' m hv' hn fun h' m' _ hs' => wpAny_pure (hr' h' hs'))
end
end Mine
end

section
open PySem PySem.W PyProof.Rows PySem.Calls
set_option maxRecDepth 100000
namespace Mine
section
variable {b : Bool} {M : Model} {A : Around} {E : Value → Shared → Prop} {s : Shared} {env : Env}
theorem evalArgsB {f : Value} {x : Sem Value} {rest : List (Bool × Sem Value)} {Q : Args → Shared → Prop}
    (h : wpB b M A (spliced ((false, x) :: rest)) (fun vs s' => Q ⟨vs, []⟩ s') E s) : wpB b M A (evalArgs f true ((false, x) :: rest) []) Q E s := by
  unfold evalArgs
  show wpB b M A (spliced ((false, x) :: rest) >>= _) Q E s
  refine wpB_bind (wpB_mono h (fun vs s' h' => ?_) fun _ _ x => x)
  exact wpB_of (wpAny_holding (wpAny_bind (wpAny_pure (wpAny_bind (wpAny_pure (wpAny_pure h'))))))
theorem callWithB {P : Heap → Prop} {f : Value} {pos : Pos} {first : List Value} {args : List (Bool × Sem Value)} {Q : Value → Shared → Prop} (hplain : args.any (·.1) = false)
    (hk : ∀ h, P h → ∃ k, (k = Keeper.frame ∨ k = Keeper.machine ∨ k = Keeper.boundFrame) ∧ Looks M h (keeperOf f) k)
    (h : wpB b M A (evalArgs f true args []) (fun a s₁ => P s₁.heap ∧ wpB b M A (call f (first ++ a.pos) a.kw) Q E s₁) E s) : wpB b M A (callWith pos f first args []) Q E s := by
  unfold callWith
  refine wpB_bind (wpB_holding (wpB_mono h (fun a s₁ h₁ => wpB_bindA (wpAny_standAt ?_)) fun _ _ x => x))
  obtain ⟨k, hk', L⟩ := hk _ h₁.1
  simp only [hplain, List.any_nil, Bool.or_false]
  refine wpB_bindA (L.here ?_)
  have marked (mk : Value) : wpB b M A (callMarked mk f (first ++ a.pos) a.kw) Q E s₁ := by
    unfold callMarked
    intro Γ p hΓ hN
    rw [Sem.wp_keep]
    exact h₁.2 Γ p hΓ hN
  rcases hk' with rfl | rfl | rfl <;> dsimp only <;> first | exact wpB_tail h₁.2 | (split <;> first | exact wpB_tail h₁.2 | exact wpB_tail (marked _))
theorem callWithB_type {T : String} {pos : Pos} {e : Expr} {rest : List Expr} {Q : Value → Shared → Prop}
    (h : wpB b M A (spliced (backTo pos (starEach (e :: rest) env))) (fun vs s₁ => wpB b M A (call (.type T) vs) Q E s₁) E s)
    (he : starEach (e :: rest) env = (false, eval e env) :: starEach rest env := by rfl) (hplain : (backTo pos (starEach rest env)).any (·.1) = false := by rfl) :
    wpB b M A (callWith pos (.type T) [] (backTo pos (starEach (e :: rest) env)) []) Q E s := by
  rw [he] at h ⊢
  refine callWithB (P := fun _ => True) (by show (false || (backTo pos (starEach rest env)).any (·.1)) = false; rw [hplain]; rfl) (fun _ _ => ⟨.machine, .inr (.inl rfl), Looks.of_pure rfl⟩)
    (evalArgsB (wpB_mono h (fun vs s₁ h₁ => ⟨trivial, h₁⟩) fun _ _ x => x))
theorem callWithB_builtin {T : String} {pos : Pos} {e : Expr} {rest : List Expr} {Q : Value → Shared → Prop}
    (h : wpB b M A (spliced (backTo pos (starEach (e :: rest) env))) (fun vs s₁ => wpB b M A (call (.builtin T) vs) Q E s₁) E s)
    (he : starEach (e :: rest) env = (false, eval e env) :: starEach rest env := by rfl) (hplain : (backTo pos (starEach rest env)).any (·.1) = false := by rfl) :
    wpB b M A (callWith pos (.builtin T) [] (backTo pos (starEach (e :: rest) env)) []) Q E s := by
  rw [he] at h ⊢
  refine callWithB (P := fun _ => True) (by show (false || (backTo pos (starEach rest env)).any (·.1)) = false; rw [hplain]; rfl) (fun _ _ => ⟨.machine, .inr (.inl rfl), Looks.of_pure rfl⟩)
    (evalArgsB (wpB_mono h (fun vs s₁ h₁ => ⟨trivial, h₁⟩) fun _ _ x => x))
theorem callWithB_fn {K : Frag} {f : Value} {pos : Pos} {e : Expr} {rest : List Expr} {Q : Value → Shared → Prop} (hk : keepIn K f = true)
    (h : wpB b M A (spliced (backTo pos (starEach (e :: rest) env))) (fun vs s₁ => K.In s₁.heap ∧ wpB b M A (call f vs) Q E s₁) E s)
    (he : starEach (e :: rest) env = (false, eval e env) :: starEach rest env := by rfl) (hplain : (backTo pos (starEach rest env)).any (·.1) = false := by rfl) :
    wpB b M A (callWith pos f [] (backTo pos (starEach (e :: rest) env)) []) Q E s := by
  rw [he] at h ⊢
  exact callWithB (P := K.In) (by show (false || (backTo pos (starEach rest env)).any (·.1)) = false; rw [hplain]; rfl) (keeps_K hk) (evalArgsB h)
theorem wpB_BinOp {l op r pos} {Q : Value → Shared → Prop}
    (h : wpB b M A (eval l env) (fun a s₁ => wpB b M A (eval r env) (fun c s₂ => wpAny M A (binaryOp op a c) Q E s₂) E s₁) E s) : wpB b M A (eval (.BinOp l op r pos) env) Q E s := fun Γ p hΓ hN => by
  simp only [eval_BinOp, Sem.wp_bind', Sem.wp_holding, Sem.wp_cmd_standAt, Sem.wp_operate]
  exact Sem.wp_mono M Γ _ (fun a p₁ s₁ h₁ => Sem.wp_mono M Γ _ (fun b _ s₂ h₂ => h₂ Γ _ hΓ) (fun _ _ _ h' => h') _ _ (h₁ Γ p₁ hΓ hN))
    (fun _ _ _ h' => h') _ _ (h Γ p hΓ hN)

/-- names, by their kinds, in any frame -/
theorem nmL {m : Str → Option Value} {x : Str} {pos : Pos} {v : Value} {Q : Value → Shared → Prop} (hn : s.heap.Ns env.locals m) (hv : m x = some v) (h : Q v s)
    (hk : env.scope.kind = .function := by rfl) (hx : env.kindOf x = some .local := by rfl) (hd : (x == ("__debug__" : Str)) = false := by decide) : wpAny M A (eval (.Name x pos) env) Q E s :=
  wpAny_Name (wpAny_loadName_local hk hx hn hv h) hd
theorem nmC {c : Addr} {x : Str} {pos : Pos} {v : Value} {Q : Value → Shared → Prop} (hc : env.cells.lookup x = some c) (hv : s.heap.IsCell c (some v)) (h : Q v s)
    (hk : env.scope.kind = .function := by rfl) (hx : env.kindOf x = some .cell := by rfl) (hd : (x == ("__debug__" : Str)) = false := by decide) : wpAny M A (eval (.Name x pos) env) Q E s :=
  wpAny_Name (wpAny_loadName_cell hk hx hc hv h) hd
theorem nmG {K : Frag} {p : Program} {loose : List Str} {mean : ExcName → Option Value} {mg mb : Str → Option Value} {x : Str} {pos : Pos} {v : Value} {Q : Value → Shared → Prop} (X : K.In s.heap) (T : Top p loose mean mg mb s.heap) (e : nsIn K mainGlobals x = some (some v)) (h : Q v s)
    (hg : env.globals = mainGlobals := by rfl) (hk : env.scope.kind = .function := by rfl) (hx : env.kindOf x = some .globalImplicit := by rfl) (hd : (x == ("__debug__" : Str)) = false := by decide) : wpAny M A (eval (.Name x pos) env) Q E s :=
  Name_function_global hk hx (loadGlobal_global (env := env) (by rw [hg]; exact T.g) (mg_of X T.g e) h) hd
theorem nmB {K : Frag} {p : Program} {loose : List Str} {mean : ExcName → Option Value} {mg mb : Str → Option Value} {x : Str} {pos : Pos} {v : Value} {Q : Value → Shared → Prop} (X : K.In s.heap) (T : Top p loose mean mg mb s.heap) (e : nsIn K mainGlobals x = some none) (hv : bootBuiltins x = some v) (hn : x ≠ "__name__") (h : Q v s)
    (hg : env.globals = mainGlobals := by rfl) (hb : env.builtins = builtinsNs := by rfl) (hk : env.scope.kind = .function := by rfl) (hx : env.kindOf x = some .globalImplicit := by rfl) (hd : (x == ("__debug__" : Str)) = false := by decide) : wpAny M A (eval (.Name x pos) env) Q E s :=
  Name_function_global hk hx (loadGlobal_builtin (env := env) (by rw [hg]; exact T.g) (mg_none_of X T.g e) (by rw [hb]; exact T.b) ((T.builtins x hn).trans hv) h) hd
end

section
variable {prog : Program} {w : World} {A : Around} {env : Env} {scope : Scope} {cl : List (Str × Addr)} {s₂ : Shared} {wr : List Addr} {P : Nat → Value → Prop} {St : Nat → Heap → Prop}
abbrev TgL (x : Str) (C : Addr) (v : Value) (h : Heap) : Prop := ∃ m, h.Ns C m ∧ m x = some v
theorem tg_local {x : Str} {px : Pos} (hx : scope.names.lookup x = some .local) (hk : scope.kind = .function) : ∀ C i v h₃ tk₃ m (Q : Unit → Shared → Prop), P i v → Heap.Ns h₃ C m → CellsLive scope C h₃ → C ∉ cellsX scope C → (∀ x o, x ∉ wr → s₂.heap.get? x = some o → h₃.get? x = some o) →
      (∀ h₄ tk m', h₄.Ns C m' → CellsLive scope C h₄ → TgL x C v h₄ → (∀ x o, x ≠ C → x ∉ cellsX scope C → h₃.get? x = some o → h₄.get? x = some o) → Q () { s₂ with heap := h₄, toks := tk }) →
      wpAny (model prog w) A (assign (.Name x px) (cenvX scope cl C env) v) Q (fun _ _ => False) { s₂ with heap := h₃, toks := tk₃ } := by
  intro C i v h₃ tk₃ m Q _ hn hcl hCx _ hQ
  refine wpAny_assign_Name (wpAny_storeName_local (env := cenvX scope cl C env) (m := m) (lookup_relabel_local hx) hn (fun h₄ hn₄ hs₄ => ?_) (by simp [relabel, hk]))
  refine hQ h₄ _ _ hn₄ (fun c hc => ?_) ⟨_, hn₄, by simp⟩ fun x o hx _ e => hs₄.extBut x o hx e
  obtain ⟨v, o, ho, hd⟩ := hcl c hc
  exact ⟨v, o, hs₄.extBut c o (fun e => hCx (by have e' : c = C := e; rw [e'] at hc; exact hc)) ho, hd⟩
theorem tg_cell {x : Str} {px : Pos} {c : Addr → Addr} (hc : ∀ C, (cellsFrom (C + 1) scope.names cl).lookup x = some (c C)) (hin : ∀ C, c C ∈ cellsX scope C) (hx : (relabel scope env).names.lookup x = some .cell) (hk : scope.kind = .function) : ∀ C i v h₃ tk₃ m (Q : Unit → Shared → Prop), P i v → Heap.Ns h₃ C m → CellsLive scope C h₃ → C ∉ cellsX scope C → (∀ x o, x ∉ wr → s₂.heap.get? x = some o → h₃.get? x = some o) →
      (∀ h₄ tk m', h₄.Ns C m' → CellsLive scope C h₄ → h₄.IsCell (c C) (some v) → (∀ x o, x ≠ C → x ∉ cellsX scope C → h₃.get? x = some o → h₄.get? x = some o) → Q () { s₂ with heap := h₄, toks := tk }) →
      wpAny (model prog w) A (assign (.Name x px) (cenvX scope cl C env) v) Q (fun _ _ => False) { s₂ with heap := h₃, toks := tk₃ } := by
  intro C i v h₃ tk₃ m Q _ hn hcl hCx _ hQ
  obtain ⟨v₀, hv₀⟩ := hcl _ (hin C)
  refine wpAny_assign_Name (wpAny_storeName_cell (env := cenvX scope cl C env) hk hx (hc C) hv₀ fun h₄ hc₄ hs₄ => ?_)
  have hne : C ≠ c C := fun e => hCx (by have z := hin C; rw [← e] at z; exact z)
  refine hQ h₄ _ m (hn.sameBut hs₄ hne) (fun c' hc' => ?_) hc₄ fun x o _ hx e => hs₄.extBut x o (fun e => hx (e ▸ hin C)) e
  by_cases he : c' = c C
  · subst he; exact ⟨_, hc₄⟩
  · obtain ⟨v', hv'⟩ := hcl c' hc'
    exact ⟨v', hv'.sameBut hs₄ he⟩
theorem lt_name {x : Str} {px : Pos} {I : Addr} : ∀ i v (s₃ : Shared) (Q : Unit → Shared → Prop), P i v → St (i + 1) s₃.heap → Q () s₃ → wpAny (model prog w) A (letOwnedTupleGo (.Name x px) (.ref I) v) Q (fun _ _ => False) s₃ :=
  fun _ _ _ _ _ _ h => wpAny_pure h
theorem tests_nil {Tg : Addr → Value → Heap → Prop} : ∀ C i v h₃ tk₃, P i v → Tg C v h₃ → (∀ x o, x ∉ wr → s₂.heap.get? x = some o → h₃.get? x = some o) →
      wpAny (model prog w) A (forIn ([] : List Expr) true fun c r => if r = true then do let ok ← isTrue c (cenvX scope cl C env) (eval c (cenvX scope cl C env)); pure (ForInStep.yield ok) else pure (ForInStep.yield r))
        (fun ok s₄ => ok = (fun _ : Value => true) v ∧ ∃ tk, s₄ = { s₂ with heap := h₃, toks := tk }) (fun _ _ => False) { s₂ with heap := h₃, toks := tk₃ } :=
  fun _ _ _ _ tk₃ _ _ _ => wpAny_tests_nil ⟨rfl, tk₃, rfl⟩
end
end Mine
end

section
open PySem PySem.W PyProof.Rows PySem.Calls
set_option maxRecDepth 100000
namespace Mine
theorem Paired.at {α β : Type} {F : α → β → Prop} : ∀ {l₁ : List α} {l₂ : List β}, Paired F l₁ l₂ → ∀ (i : Nat) (r : β), l₂[i]? = some r → ∃ v, l₁[i]? = some v ∧ F v r
  | _, _, .nil, i, r, h => by simp at h
  | _, _, .cons (a := a) x t, 0, r, h => by
    simp at h; subst h
    exact ⟨a, by simp, x⟩
  | _, _, .cons x t, i + 1, r, h => by
    simp at h
    obtain ⟨v, h1, h2⟩ := Paired.at t i r h
    exact ⟨v, by simpa using h1, h2⟩

theorem flt_t {α : Type} (l : List α) : l.filter (fun _ => true) = l := by
  induction l with
  | nil => rfl
  | cons x l ih => simp [ih]
theorem flt_f {α : Type} (l : List α) : l.filter (fun _ => false) = [] := by
  induction l with
  | nil => rfl
  | cons x l ih => simp [ih]
section
variable {b : Bool} {prog : Program} {w : World} {A : Around} {env : Env} {scope : Scope} {cl : List (Str × Addr)} {s : Shared} {target elt : Expr} {ifs : List Expr} {Q : Value → Shared → Prop}

/-- what a comprehension over n items leaves, told of the state ahead of it -/
structure Comped (s : Shared) (n : Nat) (F : Nat → Value → List (Addr × Obj) → Prop) (D : Addr) (h' : Heap) (k : Nat) (rows : List (Value × List (Addr × Obj))) : Prop where
  new : s.heap.get? D = none
  keep : Kp s.heap h'
  lst : h'.get? D = some (lsObj (rows.map (·.1)) k)
  len : rows.length = n
  each : ∀ i r, rows[i]? = some r → F i r.1 r.2
  owns : ∀ r ∈ rows, ∀ q ∈ r.2, s.heap.get? q.1 = none ∧ h'.get? q.1 = some q.2

theorem comp_iter {I : Addr} {fp : List Addr} {n : Nat} {P : Nat → Value → Prop} {St : Nat → Heap → Prop} {o : Obj} (pb : Bool) (W : Walks prog w A I fp [I] n P St) (hI : I = s.heap.objs.size) (ho : o.isFreed = false) (hsz : n ≤ sizeLine) (hst : St 0 (s.heap.push o)) (hfp : ∀ x ∈ fp, x ≤ s.heap.objs.size)
    (hwl : ∀ i h, St i h → ∃ o, h.get? I = some o) (Tg : Addr → Value → Heap → Prop) (F : Nat → Value → List (Addr × Obj) → Prop) (G : Value → Value → List (Addr × Obj) → Prop) (hGF : ∀ i v y own, P i v → G v y own → F i y own)
    (hlt : ∀ i v (s₃ : Shared) (Q : Unit → Shared → Prop), P i v → St (i + 1) s₃.heap → Q () s₃ → wpAny (model prog w) A (letOwnedTupleGo target (.ref I) v) Q (fun _ _ => False) s₃)
    (htg : ∀ C i v h₃ tk₃ m (Q : Unit → Shared → Prop), P i v → Heap.Ns h₃ C m → CellsLive scope C h₃ → C ∉ cellsX scope C → (∀ x o', x ∉ [I] → (s.heap.push o).get? x = some o' → h₃.get? x = some o') →
      (∀ h₄ tk m', h₄.Ns C m' → CellsLive scope C h₄ → Tg C v h₄ → (∀ x o, x ≠ C → x ∉ cellsX scope C → h₃.get? x = some o → h₄.get? x = some o) → Q () { s with heap := h₄, toks := tk }) →
      wpAny (model prog w) A (assign target (cenvX scope cl C env) v) Q (fun _ _ => False) { s with heap := h₃, toks := tk₃ })
    (htests : ∀ C i v h₃ tk₃, P i v → Tg C v h₃ → Kp s.heap h₃ →
      wpAny (model prog w) A (forIn ifs true fun c r => if r = true then do let ok ← isTrue c (cenvX scope cl C env) (eval c (cenvX scope cl C env)); pure (ForInStep.yield ok) else pure (ForInStep.yield r))
        (fun ok s₄ => ok = pb ∧ ∃ tk, s₄ = { s with heap := h₃, toks := tk }) (fun _ _ => False) { s with heap := h₃, toks := tk₃ })
    (helt : ∀ C i v h₃ tk₃, s.heap.objs.size < C → P i v → pb = true → Tg C v h₃ → Kp s.heap h₃ →
      wpB b (model prog w) A (eval elt (cenvX scope cl C env))
        (fun y s₄ => ∃ h₄ tk own, s₄ = { s with heap := h₄, toks := tk } ∧ Kp h₃ h₄ ∧ G v y own ∧ ∀ q ∈ own, h₃.get? q.1 = none ∧ h₄.get? q.1 = some q.2) (fun _ _ => False) { s with heap := h₃, toks := tk₃ })
    (hQ : ∀ D h' tk k rows, Comped s (if pb then n else 0) F D h' k rows → Q (.ref D) { s with heap := h', toks := tk }) :
    CompAny b prog w A env scope cl target ifs elt Q (.ref I) { s with heap := s.heap.push o } := by
  have low : ∀ h₃ : Heap, (∀ x o', x ∉ [I] → (s.heap.push o).get? x = some o' → h₃.get? x = some o') → Kp s.heap h₃ := fun h₃ hk x o' e =>
    hk x o' (fun hm => by have := Heap.lt_size e; rw [List.mem_singleton.mp hm, hI] at this; exact Nat.lt_irrefl _ this) (Heap.get?_push_of_some _ e)
  refine ⟨I, [I], n, P, fun _ => pb, G, rfl, ⟨⟨fp, St, W, hsz, hst, fun x hx => ?_, fun i h hs x hx => ?_, Tg, hlt, fun C i v h₃ tk₃ m Q hv hn hl hC hk hq => htg C i v h₃ tk₃ m Q hv hn hl hC hk hq, fun C i v h₃ tk₃ hv ht hk => htests C i v h₃ tk₃ hv ht (low h₃ hk),
    fun C i v h₃ tk₃ hC hv hp ht hk => helt C i v h₃ tk₃ ?_ hv hp ht (low h₃ hk)⟩, trivial⟩, ?_⟩
  · show x < (s.heap.push o).objs.size
    rw [Heap.size_push]
    exact Nat.lt_succ_of_le (hfp x hx)
  · rw [List.mem_singleton.mp hx]; exact hwl i h hs
  · have : (s.heap.push o).objs.size < C := hC
    rw [Heap.size_push] at this
    exact Nat.lt_of_succ_lt this
  · intro D h' tk k vs rows ce
    have hD : s.heap.get? D = none := by
      cases e : s.heap.get? D with
      | none => rfl
      | some o' => have z := ce.new; rw [show (s.heap.push o).get? D = some o' from Heap.get?_push_of_some _ e] at z; cases z
    refine hQ D h' tk k rows ⟨hD, low h' ce.keep, ce.lst, ?_, ?_, fun r hr q hq => ⟨?_, (ce.owns r hr q hq).2⟩⟩
    · have hl := ce.pairs.length
      cases pb with
      | true => rw [← hl, flt_t, ce.len]; rfl
      | false => rw [← hl, flt_f]; rfl
    · intro i r hr
      obtain ⟨v, h1, h2⟩ := Paired.at ce.pairs i r hr
      cases pb with
      | true =>
        rw [flt_t] at h1
        exact hGF i v _ _ (ce.items i v h1) h2
      | false => rw [flt_f] at h1; simp at h1
    · cases e : s.heap.get? q.1 with
      | none => rfl
      | some o' =>
        have z := (ce.owns r hr q hq).1
        rw [show (s.heap.push o).get? q.1 = some o' from Heap.get?_push_of_some _ e] at z; cases z

theorem comp_range {r : Addr} {a₀ b₀ c : Int} {t₀ u₀ v₀ : Tok} {n : Nat} (hh : A.handled = none) (hr : IsRange s.heap r a₀ b₀ c t₀ u₀ v₀) (hsmall : Builtin.Range.small a₀ b₀ c = true) (hn : Builtin.Range.rangeSize a₀ b₀ c = (n : Int)) (hsz : n ≤ sizeLine)
    (Tg : Addr → Value → Heap → Prop) (F : Nat → Value → List (Addr × Obj) → Prop)
    (hlt : ∀ i v (s₃ : Shared) (Q : Unit → Shared → Prop), (i < n ∧ ∃ t, v = .int (a₀ + i * c) t) → True → Q () s₃ → wpAny (model prog w) A (letOwnedTupleGo target (.ref s.heap.objs.size) v) Q (fun _ _ => False) s₃)
    (htg : ∀ C (i : Nat) v h₃ tk₃ m (Q : Unit → Shared → Prop), True → Heap.Ns h₃ C m → CellsLive scope C h₃ → C ∉ cellsX scope C → (∀ x o', x ∉ ([] : List Addr) → s.heap.get? x = some o' → h₃.get? x = some o') →
      (∀ h₄ tk m', h₄.Ns C m' → CellsLive scope C h₄ → Tg C v h₄ → (∀ x o, x ≠ C → x ∉ cellsX scope C → h₃.get? x = some o → h₄.get? x = some o) → Q () { s with heap := h₄, toks := tk }) →
      wpAny (model prog w) A (assign target (cenvX scope cl C env) v) Q (fun _ _ => False) { s with heap := h₃, toks := tk₃ })
    (helt : ∀ C (i : Nat) t h₃ tk₃, s.heap.objs.size < C → i < n → Tg C (.int (a₀ + i * c) t) h₃ → Kp s.heap h₃ →
      wpB b (model prog w) A (eval elt (cenvX scope cl C env))
        (fun y s₄ => ∃ h₄ tk own, s₄ = { s with heap := h₄, toks := tk } ∧ Kp h₃ h₄ ∧ F i y own ∧ ∀ q ∈ own, h₃.get? q.1 = none ∧ h₄.get? q.1 = some q.2) (fun _ _ => False) { s with heap := h₃, toks := tk₃ })
    (hQ : ∀ D h' tk k rows, Comped s n F D h' k rows → Q (.ref D) { s with heap := h', toks := tk }) (hc : c ≠ 0 := by decide) :
    wpAny (model prog w) A (pyIter (.ref r)) (fun it s₂ => CompAny b prog w A env scope cl target [] elt Q it s₂) (fun _ _ => False) s := by
  refine wpAny_pyIter_range hr hsmall ?_
  refine comp_iter (St := fun i h => IsRangeIter h s.heap.objs.size (a₀ + (i : Nat) * c) ((n : Int) - (i : Nat)) c) true (Walks.range (prog := prog) (w := w) hh s.heap.objs.size a₀ c n).bound rfl rfl hsz (by show IsRangeIter _ _ _ _ _; rw [hn]; simpa using Heap.get?_push_size _ rfl) (fun x hx => by rw [List.mem_singleton.mp hx]; exact Nat.le_refl _)
    (fun i h hs => ⟨_, hs⟩) Tg F (fun v y own => ∃ i : Nat, (∃ t, v = .int (a₀ + i * c) t) ∧ F i y own) ?_ (fun i v s₃ Q hv _ h => hlt i v s₃ Q hv trivial h) (fun C i v h₃ tk₃ m Q _ hn hl hC hk hq => htg C i v h₃ tk₃ m Q trivial hn hl hC (fun x o' _ e => hk x o' ?_ (Heap.get?_push_of_some _ e)) hq) (fun C i v h₃ tk₃ _ _ _ => wpAny_tests_nil ⟨rfl, tk₃, rfl⟩) ?_ (fun D h' tk k rows hc => hQ D h' tk k rows hc)
  · rintro i v y own ⟨_, t, rfl⟩ ⟨j, ⟨t', e⟩, hF⟩
    have e1 : a₀ + (i : Int) * c = a₀ + (j : Int) * c := by injection e
    have e2 : (i : Int) * c = (j : Int) * c := by omega
    have e3 : (i : Int) = j := Int.eq_of_mul_eq_mul_right hc e2
    have : i = j := by omega
    subst this; exact hF
  · intro hm
    have := Heap.lt_size e; rw [List.mem_singleton.mp hm] at this; exact Nat.lt_irrefl _ this
  · rintro C i v h₃ tk₃ hC ⟨hi, t, rfl⟩ _ ht hk
    refine wpB_mono (helt C i t h₃ tk₃ hC hi ht hk) (fun y s₄ h => ?_) fun _ _ f => f
    obtain ⟨h₄, tk, own, e, hk4, hF, ho⟩ := h
    exact ⟨h₄, tk, own, e, hk4, ⟨i, ⟨t, rfl⟩, hF⟩, ho⟩
end
end Mine
end

section
open PySem PySem.W PyProof.Rows PySem.Calls
set_option maxRecDepth 100000
namespace Mine
section
variable {b : Bool} {prog : Program} {w : World} {A : Around} {env : Env} {scope : Scope} {cl : List (Str × Addr)} {s : Shared} {target elt : Expr} {ifs : List Expr} {Q : Value → Shared → Prop}

theorem four_of {α : Type} {l : List α} (h : l.length = 4) : ∃ a b c d, l = [a, b, c, d] := by
  match l, h with
  | [a, b, c, d], _ => exact ⟨a, b, c, d, rfl⟩
theorem octEq (n i : Nat) {k : Int} (hk : k.toNat = i) : ((n : Int).fdiv (256 ^ k.toNat)).fmod 256 = ((n / 256 ^ i % 256 : Nat) : Int) := by
  rw [hk, Int.fdiv_eq_ediv_of_nonneg _ (Int.pow_nonneg (by decide)), Int.fmod_eq_emod_of_nonneg _ (by decide), Int.natCast_emod, Int.natCast_ediv, Int.natCast_pow]
  rfl
def oct4 (n : Nat) : List UInt8 := [(n / 256 ^ 0 % 256).toUInt8, (n / 256 ^ 1 % 256).toUInt8, (n / 256 ^ 2 % 256).toUInt8, (n / 256 ^ 3 % 256).toUInt8]
/-- an element's end, shut for the walk -/
def EltEnd (s : Shared) (h₃ : Heap) (F : Value → List (Addr × Obj) → Prop) (y : Value) (s₄ : Shared) : Prop :=
  ∃ h₄ tk own, s₄ = { s with heap := h₄, toks := tk } ∧ Kp h₃ h₄ ∧ F y own ∧ ∀ q ∈ own, h₃.get? q.1 = none ∧ h₄.get? q.1 = some q.2
theorem EltEnd.plain {s : Shared} {h₃ h₄ : Heap} {tk : Nat} {F : Value → List (Addr × Obj) → Prop} {y : Value} (hk : Kp h₃ h₄) (h : F y []) : EltEnd s h₃ F y { s with heap := h₄, toks := tk } := ⟨h₄, tk, [], rfl, hk, h, fun _ h => nomatch h⟩
theorem elt_any {h₃ : Heap} {F : Value → List (Addr × Obj) → Prop} {M : Model} {t : Sem Value} {s' : Shared} (h : wpAny M A t (EltEnd s h₃ F) (fun _ _ => False) s') :
    wpB b M A t (fun y s₄ => ∃ h₄ tk own, s₄ = { s with heap := h₄, toks := tk } ∧ Kp h₃ h₄ ∧ F y own ∧ ∀ q ∈ own, h₃.get? q.1 = none ∧ h₄.get? q.1 = some q.2) (fun _ _ => False) s' := wpB_of h
theorem elt_B {h₃ : Heap} {F : Value → List (Addr × Obj) → Prop} {M : Model} {t : Sem Value} {s' : Shared} (h : wpB b M A t (EltEnd s h₃ F) (fun _ _ => False) s') :
    wpB b M A t (fun y s₄ => ∃ h₄ tk own, s₄ = { s with heap := h₄, toks := tk } ∧ Kp h₃ h₄ ∧ F y own ∧ ∀ q ∈ own, h₃.get? q.1 = none ∧ h₄.get? q.1 = some q.2) (fun _ _ => False) s' := h

theorem listIter_push {h : Heap} {l : Addr} {items : List Value} (hl : h.IsList l items.toArray) : (h.push { cls := .type "list_iterator", data := .fields #[.ref l, .int 0 0] }).IsListIter h.objs.size l 0 ∧ (h.push { cls := .type "list_iterator", data := .fields #[.ref l, .int 0 0] }).IsList l items.toArray :=
  ⟨⟨_, Heap.get?_push_size _ rfl, rfl, rfl⟩, hl.at fun o e => Heap.get?_push_of_some _ e⟩
theorem isList_lt {h : Heap} {l : Addr} {items : Array Value} (hl : h.IsList l items) : l < h.objs.size := let ⟨_, ho, _⟩ := hl; Heap.lt_size ho

theorem comp_list {l : Addr} {items : List Value} (pb : Bool) (hh : A.handled = none) (hl : s.heap.IsList l items.toArray) (hsz : items.length ≤ sizeLine)
    (Tg : Addr → Value → Heap → Prop) (G : Value → Value → List (Addr × Obj) → Prop)
    (hlt : ∀ (i : Nat) v (s₃ : Shared) (Q : Unit → Shared → Prop), items[i]? = some v → s₃.heap.IsListIter s.heap.objs.size l (i + 1) → Q () s₃ → wpAny (model prog w) A (letOwnedTupleGo target (.ref s.heap.objs.size) v) Q (fun _ _ => False) s₃)
    (htg : ∀ C (i : Nat) v h₃ tk₃ m (Q : Unit → Shared → Prop), v ∈ items → Heap.Ns h₃ C m → CellsLive scope C h₃ → C ∉ cellsX scope C → (∀ x o', x ∉ ([] : List Addr) → s.heap.get? x = some o' → h₃.get? x = some o') →
      (∀ h₄ tk m', h₄.Ns C m' → CellsLive scope C h₄ → Tg C v h₄ → (∀ x o, x ≠ C → x ∉ cellsX scope C → h₃.get? x = some o → h₄.get? x = some o) → Q () { s with heap := h₄, toks := tk }) →
      wpAny (model prog w) A (assign target (cenvX scope cl C env) v) Q (fun _ _ => False) { s with heap := h₃, toks := tk₃ })
    (htests : ∀ C v h₃ tk₃, v ∈ items → Tg C v h₃ → Kp s.heap h₃ →
      wpAny (model prog w) A (forIn ifs true fun c r => if r = true then do let ok ← isTrue c (cenvX scope cl C env) (eval c (cenvX scope cl C env)); pure (ForInStep.yield ok) else pure (ForInStep.yield r))
        (fun ok s₄ => ok = pb ∧ ∃ tk, s₄ = { s with heap := h₃, toks := tk }) (fun _ _ => False) { s with heap := h₃, toks := tk₃ })
    (helt : ∀ C v h₃ tk₃, s.heap.objs.size < C → v ∈ items → pb = true → Tg C v h₃ → Kp s.heap h₃ →
      wpB b (model prog w) A (eval elt (cenvX scope cl C env))
        (fun y s₄ => ∃ h₄ tk own, s₄ = { s with heap := h₄, toks := tk } ∧ Kp h₃ h₄ ∧ G v y own ∧ ∀ q ∈ own, h₃.get? q.1 = none ∧ h₄.get? q.1 = some q.2) (fun _ _ => False) { s with heap := h₃, toks := tk₃ })
    (hQ : ∀ D h' tk k rows, Comped s (if pb then items.length else 0) (fun i y own => ∃ v, items[i]? = some v ∧ G v y own) D h' k rows → Q (.ref D) { s with heap := h', toks := tk }) :
    wpAny (model prog w) A (pyIter (.ref l)) (fun it s₂ => CompAny b prog w A env scope cl target ifs elt Q it s₂) (fun _ _ => False) s := by
  have hlt' : l < s.heap.objs.size := isList_lt hl
  have hne : l ≠ s.heap.objs.size := Nat.ne_of_lt hlt'
  refine wpAny_pyIter_list hl ?_
  have W := Walks.list (prog := prog) (w := w) hh s.heap.objs.size l hne items.toArray
  rw [List.size_toArray] at W
  have mem : ∀ {i : Nat} {v : Value}, items.toArray[i]? = some v → items[i]? = some v := fun {i v} h => by rw [List.getElem?_toArray] at h; exact h
  refine comp_iter (St := fun i h => h.IsListIter s.heap.objs.size l i ∧ h.IsList l items.toArray) pb W rfl rfl hsz (listIter_push hl) (fun x hx => ?_) (fun i h hs => ?_) Tg (fun i y own => ∃ v, items[i]? = some v ∧ G v y own) G
    (fun i v y own hP hG => ⟨v, mem hP, hG⟩) (fun i v s₃ Q hv hs h => hlt i v s₃ Q (mem hv) hs.1 h) (fun C i v h₃ tk₃ m Q hv hn hl hC hk hq => htg C i v h₃ tk₃ m Q (List.mem_of_getElem? (mem hv)) hn hl hC (fun x o' _ e => hk x o' ?_ (Heap.get?_push_of_some _ e)) hq)
    (fun C i v h₃ tk₃ hv ht hk => htests C v h₃ tk₃ (List.mem_of_getElem? (mem hv)) ht hk) (fun C i v h₃ tk₃ hC hv hp ht hk => helt C v h₃ tk₃ hC (List.mem_of_getElem? (mem hv)) hp ht hk) hQ
  · rcases List.mem_cons.mp hx with rfl | hx
    · exact Nat.le_refl _
    · rw [List.mem_singleton.mp hx]; exact Nat.le_of_lt hlt'
  · obtain ⟨⟨o, ho, _⟩, _⟩ := hs
    exact ⟨o, ho⟩
  · intro hm
    have := Heap.lt_size e; rw [List.mem_singleton.mp hm] at this; exact Nat.lt_irrefl _ this

theorem comp_tuple {l : Addr} {items : List Value} (hh : A.handled = none) (hl : s.heap.IsTuple l items.toArray) (hsz : items.length ≤ sizeLine)
    (Tg : Addr → Value → Heap → Prop) (G : Value → Value → List (Addr × Obj) → Prop)
    (hlt : ∀ (i : Nat) v (s₃ : Shared) (Q : Unit → Shared → Prop), items[i]? = some v → True → Q () s₃ → wpAny (model prog w) A (letOwnedTupleGo target (.ref s.heap.objs.size) v) Q (fun _ _ => False) s₃)
    (htg : ∀ C (i : Nat) v h₃ tk₃ m (Q : Unit → Shared → Prop), v ∈ items → Heap.Ns h₃ C m → CellsLive scope C h₃ → C ∉ cellsX scope C → (∀ x o', x ∉ ([] : List Addr) → s.heap.get? x = some o' → h₃.get? x = some o') →
      (∀ h₄ tk m', h₄.Ns C m' → CellsLive scope C h₄ → Tg C v h₄ → (∀ x o, x ≠ C → x ∉ cellsX scope C → h₃.get? x = some o → h₄.get? x = some o) → Q () { s with heap := h₄, toks := tk }) →
      wpAny (model prog w) A (assign target (cenvX scope cl C env) v) Q (fun _ _ => False) { s with heap := h₃, toks := tk₃ })
    (helt : ∀ C v h₃ tk₃, s.heap.objs.size < C → v ∈ items → Tg C v h₃ → Kp s.heap h₃ →
      wpB b (model prog w) A (eval elt (cenvX scope cl C env))
        (fun y s₄ => ∃ h₄ tk own, s₄ = { s with heap := h₄, toks := tk } ∧ Kp h₃ h₄ ∧ G v y own ∧ ∀ q ∈ own, h₃.get? q.1 = none ∧ h₄.get? q.1 = some q.2) (fun _ _ => False) { s with heap := h₃, toks := tk₃ })
    {QQ : Value → Shared → Prop} (hQ : ∀ it s₂, (∃ o, s₂ = { s with heap := s.heap.push o } ∧ ∃ c : CompAt b prog w A env scope cl target [] elt s₂ s.heap.objs.size [s.heap.objs.size] items.length (fun i v => items[i]? = some v) (fun _ => true) G, True) → it = .ref s.heap.objs.size → QQ it s₂) :
    wpAny (model prog w) A (pyIter (.ref l)) QQ (fun _ _ => False) s := by
  have hlt' : l < s.heap.objs.size := let ⟨_, ho, _⟩ := hl; Heap.lt_size ho
  have hne : l ≠ s.heap.objs.size := Nat.ne_of_lt hlt'
  refine wpAny_pyIter_tuple hl (hQ _ _ ⟨_, rfl, ?_⟩ rfl)
  have W := Walks.tuple (prog := prog) (w := w) hh s.heap.objs.size l hne items.toArray
  rw [List.size_toArray] at W
  have W' : Walks prog w A s.heap.objs.size [s.heap.objs.size, l] [s.heap.objs.size] items.length (fun i v => items[i]? = some v) (fun i h => h.IsTupleIter s.heap.objs.size l i ∧ h.IsTuple l items.toArray) := by simpa using W
  have low : ∀ h₃ : Heap, (∀ x o', x ∉ [s.heap.objs.size] → (s.heap.push { cls := .type "tuple_iterator", data := .fields #[.ref l, .int 0 0] }).get? x = some o' → h₃.get? x = some o') → Kp s.heap h₃ := fun h₃ hk x o' e =>
    hk x o' (fun hm => by have := Heap.lt_size e; rw [List.mem_singleton.mp hm] at this; exact Nat.lt_irrefl _ this) (Heap.get?_push_of_some _ e)
  refine ⟨⟨_, _, W', hsz, ⟨⟨_, Heap.get?_push_size _ rfl, rfl, rfl⟩, hl.at fun o e => Heap.get?_push_of_some _ e⟩, fun x hx => ?_, fun i h hs x hx => ?_, Tg, fun i v s₃ Q hv _ h => hlt i v s₃ Q hv trivial h,
    fun C i v h₃ tk₃ m Q hv hn hl hC hk hq => htg C i v h₃ tk₃ m Q (List.mem_of_getElem? hv) hn hl hC (fun x o' _ e => low h₃ hk x o' e) hq, fun C i v h₃ tk₃ _ _ _ => wpAny_tests_nil ⟨rfl, tk₃, rfl⟩,
    fun C i v h₃ tk₃ hC hv _ ht hk => helt C v h₃ tk₃ ?_ (List.mem_of_getElem? hv) ht (low h₃ hk)⟩, trivial⟩
  · show x < (s.heap.push _).objs.size
    rw [Heap.size_push]
    rcases List.mem_cons.mp hx with rfl | hx
    · exact Nat.lt_succ_self _
    · rw [List.mem_singleton.mp hx]; exact Nat.lt_succ_of_lt hlt'
  · obtain ⟨⟨o, ho, _⟩, _⟩ := hs
    rw [List.mem_singleton.mp hx]; exact ⟨o, ho⟩
  · have : (s.heap.push { cls := .type "tuple_iterator", data := .fields #[.ref l, .int 0 0] }).objs.size < C := hC
    rw [Heap.size_push] at this
    exact Nat.lt_of_succ_lt this
end
end Mine
end

section
open PySem PySem.W PyProof.Rows PySem.Calls
set_option maxRecDepth 100000
namespace Mine
section
variable {prog : Program} {w : World} {A : Around} {E : Value → Shared → Prop} {s : Shared}
theorem preSum_list (ns : List Int) : preSum (fun i => ns.getD i 0) ns.length = ns.sum := by
  rw [preSum_getD, List.take_length]
theorem call_sum_list {D : Addr} {vs : List Value} {ns : List Int} {Q : Value → Shared → Prop} (hh : A.handled = none) (hl : s.heap.IsList D vs.toArray) (hi : IntsAre vs ns)
    (hQ : ∀ h' tk t', Kp s.heap h' → Q (.int ns.sum t') { s with heap := h', toks := tk }) : wpAny (model prog w) A (call (.builtin "sum") [.ref D]) Q E s := by
  have hlt' : D < s.heap.objs.size := isList_lt hl
  have hne : D ≠ s.heap.objs.size := Nat.ne_of_lt hlt'
  refine call_sum_walkG (wpAny_pyIter_list hl ?_)
  have W := Walks.list (prog := prog) (w := w) (A := A.in1) hh s.heap.objs.size D hne vs.toArray
  refine ⟨_, _, _, _, _, _, fun i => ns.getD i 0, rfl, W, listIter_push hl, fun x hx => ?_, fun i v hv => ?_, fun h' tk t' hk => ?_⟩
  · show x < (s.heap.push _).objs.size
    rw [Heap.size_push]
    rcases List.mem_cons.mp hx with rfl | hx
    · exact Nat.lt_succ_self _
    · rw [List.mem_singleton.mp hx]; exact Nat.lt_succ_of_lt hlt'
  · rw [List.getElem?_toArray] at hv
    obtain ⟨n, t, rfl, hn⟩ := IntsAre.at hi i v hv
    exact ⟨t, by show _ = Value.int (ns.getD i 0) t; rw [List.getD_eq_getElem?_getD, hn]; rfl⟩
  · rw [show vs.toArray.size = ns.length from hi.length, preSum_list]
    exact hQ h' tk t' fun x o e => hk x o (fun hm => by have := Heap.lt_size e; rw [List.mem_singleton.mp hm] at this; exact Nat.lt_irrefl _ this) (Heap.get?_push_of_some _ e)
theorem item_ls {value slice : PySem.Expr} {l : Addr} {vs : List Value} {k : Int} {u : Tok} {v : Value} {Q : Value → Shared → Prop}
    (hl : s.heap.IsList l vs.toArray) (h0 : 0 ≤ k) (hhi : k < 2 ^ 63) (hx : vs[k.toNat]? = some v) (h : Q v s)
    (hs : subscripted slice false (.ref l) (.int k u) = operate [.ref l, .int k u] (getItem (.ref l) (.int k u)) := by with_unfolding_all rfl) :
    wpAny (model prog w) A (subscriptTail value slice (.ref l) (.int k u)) Q E s :=
  tail_any hl.typeIs slot_list_getitem.lookup (wpAny_getItem_list hl h0 hhi (by rw [List.getElem?_toArray]; exact hx) h) hs
end
end Mine
end

section
open PySem PySem.W PyProof.Rows PySem.Calls
set_option maxRecDepth 100000
namespace Mine
section
variable {b : Bool} {prog : Program} {w : World} {A : Around} {E : Value → Shared → Prop} {s : Shared} {env : Env}

theorem wpB_runOwn {c : Code} {Q : Flow → Shared → Prop} (hc : codeB b (model prog w) A c (fun r s' => match r with | .ok f => Q f s' | .error _ => False) s) : wpB b (model prog w) A (runOwn c env) Q E s := by
  unfold runOwn
  exact wpB_onRaise (wpB_run (codeB_mono hc fun r s' h => by cases r <;> exact h))
theorem wpB_For {target iter : Expr} {body : List Stmt} {pos : Pos} {Q : Flow → Shared → Prop}
    (h : wpB b (model prog w) A (eval iter env) (fun xv s₁ => wpAny (model prog w) A (pyIter xv) (fun it s₂ => codeB b (model prog w) A (.forLoop target it body [] env) (fun r s' => match r with | .ok f => Q f s' | .error _ => False) s₂) (fun _ _ => False) s₁) (fun _ _ => False) s)
    (hs : ∀ x, foldedSetIterable iter env x = pure x := by intro _; rfl) : wpB b (model prog w) A (exec (.For target iter body [] pos) env) Q E s := by
  rw [exec_For]
  exact wpB_bindA (wpAny_standAt (wpB_bind (wpB_mono h (fun x s₁ h₁ => wpB_bindA (wpAny_of_eq (hs x) (wpB_bindA (wpAny_standAt (wpB_bindA (wpAny_holding
    (wpAny_mono h₁ (fun it s₂ h₂ => wpB_runOwn h₂) fun _ _ h' => h'.elim))))))) fun _ _ h' => h'.elim)))

/-- a for over any source, by what holds between its turns -/
theorem codeB_forWalk {target : Expr} {body : List Stmt} {I : Addr} {fp wr : List Addr} {n : Nat} {P : Nat → Value → Prop} {St : Nat → Heap → Prop} {Q : Flow → Shared → Prop} (W : Walks prog w A I fp wr n P St)
    (J : Nat → Heap → Prop) (hJ : ∀ i h h₁, J i h → (∀ x o, x ∉ wr → h.get? x = some o → h₁.get? x = some o) → J i h₁)
    (hlet : ∀ v, letOwnedTupleGo target (.ref I) v = pure ())
    (turn : ∀ (i : Nat) v h tk, i < n → P i v → St (i + 1) h → J i h → wpAny (model prog w) A (assign target env v) (fun _ s₂ => wpB b (model prog w) A (execs body env)
      (fun f s₃ => f = .next ∧ ∃ h₃ tk₃, s₃ = { s with heap := h₃, toks := tk₃ } ∧ J (i + 1) h₃ ∧ ∀ x ∈ fp, ∀ o, h.get? x = some o → h₃.get? x = some o) (fun _ _ => False) s₂) (fun _ _ => False) { s with heap := h, toks := tk })
    (done : ∀ h tk, J n h → Q .next { s with heap := h, toks := tk }) (h0 : St 0 s.heap) (hj0 : J 0 s.heap) :
    codeB b (model prog w) A (.forLoop target (.ref I) body [] env) (fun r s' => match r with | .ok f => Q f s' | .error _ => False) s := by
  refine codeB_loop rfl rfl (fun k s' => ∃ h tk i, s' = { s with heap := h, toks := tk } ∧ St i h ∧ J i h ∧ i ≤ n ∧ k = n + 1 - i) ?_ (n + 1) ⟨s.heap, s.toks, 0, rfl, h0, hj0, Nat.zero_le _, rfl⟩
  rintro k s' ⟨h, tk, i, rfl, hst, hj, hi, rfl⟩
  show wpB b _ _ ((forTurn target (.ref I) body [] env).onRaise (fun x => do noteFrame x env; theTreesLotGoes x)) _ _ _
  refine wpB_onRaise ?_
  simp only [forTurn]
  refine wpB_bindA (wpAny_standAt ?_)
  by_cases hlt : i < n
  · refine wpB_bind (wpB_onRaise (wpB_of (W.item i _ _ _ hlt hst fun v h₁ tk₁ hv hst₁ hk₁ => ?_)))
    refine wpB_bindA (wpAny_of_eq (hlet v) ?_)
    refine wpB_bindA (wpAny_mono (turn i v h₁ tk₁ hlt hv hst₁ (hJ i h h₁ hj hk₁)) (fun _ s₂ h₂ => ?_) fun _ _ f => f.elim)
    refine wpB_bind (wpB_mono h₂ (fun f s₃ h₃ => ?_) fun _ _ f => f.elim)
    obtain ⟨rfl, h₃', tk₃, rfl, hj₃, hfp⟩ := h₃
    exact wpB_pure (.inl ⟨rfl, n + 1 - (i + 1), by omega, h₃', tk₃, i + 1, rfl, W.frame _ _ _ hst₁ hfp, hj₃, by omega, rfl⟩)
  · have e : i = n := by omega
    subst e
    refine wpB_bind (wpB_onRaise (wpB_of (W.done _ _ _ hst fun h₁ tk₁ hk₁ => ?_)))
    refine wpB_pure (.inr ⟨rfl, codeB_of (codeAny_block (wpAny_execs_nil ?_))⟩)
    exact done h₁ tk₁ (hJ _ h h₁ hj hk₁)
theorem wpB_Assign_Tuple {M : Model} {elts k tpos value pos} {Q : Flow → Shared → Prop}
    (h : wpB b M A (eval value env) (fun v s₁ => wpAny M A (assign (.Tuple elts k tpos) env v) (fun _ => Q .next) E s₁) E s)
    (hs : swapsWithSole [.Tuple elts k tpos] value pos.line env = pure false := by rfl)
    (hw : swappedStores [.Tuple elts k tpos] value env = pure none := by rfl) :
    wpB b M A (exec (.Assign [.Tuple elts k tpos] value pos) env) Q E s := by
  rw [exec_Assign]
  refine wpB_bindA (wpAny_standAt ?_)
  rw [hs]
  refine wpB_bindA (wpAny_pure ?_)
  rw [if_neg (by decide)]
  refine wpB_bind (wpB_mono h (fun v s₁ h₁ => ?_) fun _ _ x => x)
  rw [hw]
  refine wpB_of (wpAny_bind (wpAny_pure ?_))
  show wpAny M A (do assignAll v [assign (.Tuple elts k tpos) env]; pure .next) Q E s₁
  exact wpAny_bind (wpAny_mono h₁ (fun _ _ x => wpAny_pure x) fun _ _ x => x)
end
theorem fr_but {h₀ h h₁ : Heap} {L I : Addr} {m : Str → Option Value} (F : Fr h₀ L h m) (hL : L ≠ I) (h0 : h₀.get? I = none) (hk : ∀ x o, x ∉ [I] → h.get? x = some o → h₁.get? x = some o) : Fr h₀ L h₁ m :=
  ⟨F.ns.at' fun o e => hk _ o (fun hm => hL (List.mem_singleton.mp hm)) e, fun b o e => hk b o (fun hm => by rw [List.mem_singleton.mp hm, h0] at e; cases e) (F.keep b o e), F.above⟩
theorem news_but {h₀ h h₁ : Heap} {L I : Addr} {news : List (Addr × Obj)} (N : News h₀ L h news) (hn : ∀ p ∈ news, p.1 ≠ I) (hk : ∀ x o, x ∉ [I] → h.get? x = some o → h₁.get? x = some o) : News h₀ L h₁ news :=
  fun p hp => ⟨hk _ _ (fun hm => hn p hp (List.mem_singleton.mp hm)) (N p hp).1, (N p hp).2⟩
theorem isListIter_of {h : Heap} {I l : Addr} {i : Nat} (x : h.IsListIter I l i) : ∃ o, h.get? I = some o := let ⟨o, ho, _⟩ := x; ⟨o, ho⟩
theorem octet_of (z : Int) : ∃ q : Nat, q < 256 ∧ z.fmod 256 = (q : Int) := by
  rw [Int.fmod_eq_emod_of_nonneg _ (by decide)]
  exact ⟨(z % 256).toNat, by omega, by omega⟩
theorem mapAt {m : Str → Option Value} {y : Str} {v : Option Value} (h : m y = v) : m = fun z => if z = y then v else m z := by
  funext z
  by_cases e : z = y
  · rw [if_pos e, e, h]
  · rw [if_neg e]
/-- nothing of the next address yet -/
theorem new_ne {h₀ h : Heap} {L : Addr} {m : Str → Option Value} {news : List (Addr × Obj)} (F : Fr h₀ L h m) (N : News h₀ L h news) : L ≠ h.objs.size ∧ h₀.get? h.objs.size = none ∧ ∀ p ∈ news, p.1 ≠ h.objs.size :=
  ⟨Nat.ne_of_lt F.ns.lt, next_is_new F, fun p hp => Nat.ne_of_lt (Heap.lt_size (N p hp).1)⟩
end Mine
end

section
open PySem PySem.W PyProof.Rows PySem.Calls
set_option maxRecDepth 100000
namespace Mine
section
variable {b : Bool} {prog : Program} {w : World} {A : Around} {env : Env} {scope : Scope} {cl : List (Str × Addr)} {s : Shared} {target elt : Expr} {ifs : List Expr}
/-- what an assigned comprehension leaves -/
structure AsgEnd (s : Shared) (L : Addr) (y : Str) (m : Str → Option Value) (n : Nat) (F : Nat → Value → List (Addr × Obj) → Prop) (D : Addr) (h' : Heap) (k : Nat) (rows : List (Value × List (Addr × Obj))) : Prop where
  new : s.heap.get? D = none
  ns : h'.Ns L (fun z => if z = y then some (.ref D) else m z)
  keep : ∀ x o, x ≠ L → s.heap.get? x = some o → h'.get? x = some o
  lst : h'.get? D = some (lsObj (rows.map (·.1)) k)
  len : rows.length = n
  each : ∀ i r, rows[i]? = some r → F i r.1 r.2
  owns : ∀ r ∈ rows, ∀ q ∈ r.2, s.heap.get? q.1 = none ∧ h'.get? q.1 = some q.2
def AsgAny (b : Bool) (prog : Program) (w : World) (A : Around) (env : Env) (scope : Scope) (cl : List (Str × Addr)) (target : Expr) (ifs : List Expr) (elt : Expr) (y : Str) (Q : Flow → Shared → Prop) (it : Value) (s₂ : Shared) : Prop :=
  ∃ I wr n P p G m, it = .ref I ∧ (∃ _ : CompAt b prog w A env scope cl target ifs elt s₂ I wr n P p G, True) ∧ s₂.heap.Ns env.locals m ∧ env.locals ∉ wr ∧
      ∀ D h' h'' tk k vs rows, CompEnd s₂ wr n P p G D h' k vs rows → h''.Ns env.locals (fun z => if z = y then some (.ref D) else m z) → (∀ x o, x ≠ env.locals → s₂.heap.get? x = some o → h'.get? x = some o → h''.get? x = some o) → h''.get? D = some (lsObj (rows.map (·.1)) k) → (∀ r ∈ rows, ∀ q ∈ r.2, h''.get? q.1 = some q.2) →
        Q .next { s₂ with heap := h'', toks := tk }
theorem asg_of {m : Str → Option Value} {y : Str} {o : Obj} {n : Nat} {P : Nat → Value → Prop} {G : Value → Value → List (Addr × Obj) → Prop} {Q : Flow → Shared → Prop} {F : Nat → Value → List (Addr × Obj) → Prop}
    (c : CompAt b prog w A env scope cl target ifs elt { s with heap := s.heap.push o } s.heap.objs.size [s.heap.objs.size] n P (fun _ => true) G) (hGF : ∀ i v y own, P i v → G v y own → F i y own) (hn : s.heap.Ns env.locals m)
    (hQ : ∀ D h' tk k rows, AsgEnd s env.locals y m n F D h' k rows → Q .next { s with heap := h', toks := tk }) :
    AsgAny b prog w A env scope cl target ifs elt y Q (.ref s.heap.objs.size) { s with heap := s.heap.push o } := by
  refine ⟨_, _, _, _, _, _, m, rfl, ⟨c, trivial⟩, hn.at' fun o e => Heap.get?_push_of_some _ e, fun hm => ?_, fun D h' h'' tk k vs rows ce hns hk hD hq => hQ D h'' tk k rows ⟨?_, hns, fun x o' hx e => ?_, hD, ?_, ?_, fun r hr q hq' => ⟨?_, hq r hr q hq'⟩⟩⟩
  · have := hn.lt; rw [List.mem_singleton.mp hm] at this; exact Nat.lt_irrefl _ this
  · cases e : s.heap.get? D with
    | none => rfl
    | some o' => have z := ce.new; rw [show (s.heap.push o).get? D = some o' from Heap.get?_push_of_some _ e] at z; cases z
  · have e' : (s.heap.push o).get? x = some o' := Heap.get?_push_of_some _ e
    refine hk x o' hx e' (ce.keep x o' (fun hm => ?_) e')
    have := Heap.lt_size e; rw [List.mem_singleton.mp hm] at this; exact Nat.lt_irrefl _ this
  · rw [← ce.pairs.length, flt_t, ce.len]
  · intro i r hr
    obtain ⟨v, h1, h2⟩ := Paired.at ce.pairs i r hr
    rw [flt_t] at h1
    exact hGF i v _ _ (ce.items i v h1) h2
  · cases e : s.heap.get? q.1 with
    | none => rfl
    | some o' => have z := (ce.owns r hr q hq').1; rw [show (s.heap.push o).get? q.1 = some o' from Heap.get?_push_of_some _ e] at z; cases z
theorem AsgEnd.fr {h₀ : Heap} {L : Addr} {y : Str} {m : Str → Option Value} {n : Nat} {F : Nat → Value → List (Addr × Obj) → Prop} {D : Addr} {h' : Heap} {k : Nat} {rows : List (Value × List (Addr × Obj))} (e : AsgEnd s L y m n F D h' k rows) (f : Fr h₀ L s.heap m) : Fr h₀ L h' (fun z => if z = y then some (.ref D) else m z) :=
  ⟨e.ns, fun b o x => e.keep b o (Nat.ne_of_lt (Nat.lt_of_lt_of_le (Heap.lt_size x) f.above)) (f.keep b o x), f.above⟩
theorem AsgEnd.news {h₀ : Heap} {L : Addr} {y : Str} {m : Str → Option Value} {n : Nat} {F : Nat → Value → List (Addr × Obj) → Prop} {D : Addr} {h' : Heap} {k : Nat} {rows : List (Value × List (Addr × Obj))} {news : List (Addr × Obj)} {o : Obj} (e : AsgEnd s L y m n F D h' k rows) (f : Fr h₀ L s.heap m) (N : News h₀ L s.heap news) (hl : h'.get? D = some o) :
    News h₀ L h' ((D, o) :: news) := fun p hp => by
  rcases List.mem_cons.mp hp with rfl | hp
  · refine ⟨hl, fun he => ?_, ?_⟩
    · have hD : D = L := he
      obtain ⟨o', _, _, ho, _⟩ := f.ns
      rw [← hD, e.new] at ho; cases ho
    · show h₀.get? D = none
      cases x : h₀.get? D with
      | none => rfl
      | some o' => have z := f.keep D o' x; rw [e.new] at z; cases z
  · exact ⟨e.keep _ _ (N p hp).2.1 (N p hp).1, (N p hp).2⟩
theorem comp_tupleA {l : Addr} {items : List Value} {m : Str → Option Value} {y : Str} {Q : Flow → Shared → Prop} (hh : A.handled = none) (hl : s.heap.IsTuple l items.toArray) (hsz : items.length ≤ sizeLine) (hn : s.heap.Ns env.locals m)
    (Tg : Addr → Value → Heap → Prop) (G : Value → Value → List (Addr × Obj) → Prop)
    (hlt : ∀ (i : Nat) v (s₃ : Shared) (Q : Unit → Shared → Prop), items[i]? = some v → True → Q () s₃ → wpAny (model prog w) A (letOwnedTupleGo target (.ref s.heap.objs.size) v) Q (fun _ _ => False) s₃)
    (htg : ∀ C (i : Nat) v h₃ tk₃ m (Q : Unit → Shared → Prop), v ∈ items → Heap.Ns h₃ C m → CellsLive scope C h₃ → C ∉ cellsX scope C → (∀ x o', x ∉ ([] : List Addr) → s.heap.get? x = some o' → h₃.get? x = some o') →
      (∀ h₄ tk m', h₄.Ns C m' → CellsLive scope C h₄ → Tg C v h₄ → (∀ x o, x ≠ C → x ∉ cellsX scope C → h₃.get? x = some o → h₄.get? x = some o) → Q () { s with heap := h₄, toks := tk }) →
      wpAny (model prog w) A (assign target (cenvX scope cl C env) v) Q (fun _ _ => False) { s with heap := h₃, toks := tk₃ })
    (helt : ∀ C v h₃ tk₃, s.heap.objs.size < C → v ∈ items → Tg C v h₃ → Kp s.heap h₃ →
      wpB b (model prog w) A (eval elt (cenvX scope cl C env))
        (fun y s₄ => ∃ h₄ tk own, s₄ = { s with heap := h₄, toks := tk } ∧ Kp h₃ h₄ ∧ G v y own ∧ ∀ q ∈ own, h₃.get? q.1 = none ∧ h₄.get? q.1 = some q.2) (fun _ _ => False) { s with heap := h₃, toks := tk₃ })
    (hQ : ∀ D h' tk k rows, AsgEnd s env.locals y m items.length (fun i y own => ∃ v, items[i]? = some v ∧ G v y own) D h' k rows → Q .next { s with heap := h', toks := tk }) :
    wpAny (model prog w) A (pyIter (.ref l)) (fun it s₂ => AsgAny b prog w A env scope cl target [] elt y Q it s₂) (fun _ _ => False) s := by
  refine comp_tuple (scope := scope) (cl := cl) (env := env) (target := target) (elt := elt) (b := b) hh hl hsz Tg G hlt htg helt ?_
  rintro it s₂ ⟨o, rfl, c, -⟩ rfl
  exact asg_of c (fun i v y own hv hG => ⟨v, hv, hG⟩) hn hQ
theorem wpB_Assign_ListComp' {E : Value → Shared → Prop} {iter : Expr} {pos py spos : Pos} {y : Str} {Q : Flow → Shared → Prop}
    (hsw : swapsWith (.ListComp elt [⟨target, iter, ifs, 0⟩] scope pos) (some (.Name y py)) spos.line env = pure true)
    (hclos : closureFor scope env = pure cl) (hkind : scope.kind = .function) (hnames : ∀ x ∈ scope.names, x.2 = .local → scope.names.lookup x.1 = some .local)
    (hy : env.kindOf y = some .local) (hp : (env.scope.kind == .class || (env.scope.kind == .module && env.locals != env.globals)) = false)
    (h : wpB b (model prog w) A (eval iter env) (fun xv s₁ => wpAny (model prog w) A (pyIter xv) (fun it s₂ => AsgAny b prog w A env scope cl target ifs elt y Q it s₂) (fun _ _ => False) s₁) (fun _ _ => False) s)
    (hs : ∀ x, foldedSetIterable iter env x = pure x := by intro _; rfl) :
    wpB b (model prog w) A (exec (.Assign [.Name y py] (.ListComp elt [⟨target, iter, ifs, 0⟩] scope pos) spos) env) Q E s :=
  wpB_Assign_ListComp hsw hclos hkind hnames hy hp h hs
end
end Mine
end

section
open PySem PySem.W PyProof.Rows PySem.Calls
set_option maxRecDepth 100000
namespace Mine
open Sem (wp)
theorem caller_nd : Nd (⟨.builtin "claim.caller" {}, none, none, [], none⟩ : Ctx) := ⟨by decide +kernel, fun _ hx => nomatch hx⟩
theorem endsB {prog : Program} {w : World} {t : Sem Fin} {s : Shared} {R : Result → Shared → Prop} (hreg : s.asleep)
    (h : wpB true (model prog w) callerA t (fun fin s' => ∃ f, fin = .done f ∧ (R (.ok f) s' ∧ leftWithCleanup s'.gens = false)) (fun e s' => R (.error e) s' ∧ leftWithCleanup s'.gens = false) s) :
    ∃ n r s' s'', runN (denote table) prog w n s ⟨t, .builtin "claim.caller" {}, default, []⟩ = .halted (outcomeOf r) s' ∧
      schedN (denote table) prog w n (.single s ⟨t, .builtin "claim.caller" {}, default, []⟩) = .halted (outcomeOf r) s' ∧ s'.forget = s''.forget ∧ R r s'' := by
  obtain ⟨n, r, s₁, s₂, hs, hn, hfo, hR⟩ := wp_halts_full (M := model prog w) (R := R) hreg
    (Sem.wp_mono (model prog w) _ t (fun fin p' s' h' => by obtain ⟨f, rfl, hf⟩ := h'; exact hf) (fun _ _ _ h' => h') default s (h _ default caller_in fun _ => caller_nd))
  exact ⟨n, r, s₂, s₁, hn, hs, hfo, hR⟩

theorem callFromB {c : ClaimW} {tree : List Value → Sem Fin} {w : World} {s : Shared} {free : Addr → Prop} {gens : Prop} {kept : Heap → Prop} (hz : s.asleep) (hgens : s.gens = #[])
    (hspec : ∀ args, c.pre args = true → WData.layableAll args = true →
      ∀ ord : List DictEntry → List DictEntry, (∀ l, (ord l).Perm l) →
      ∃ vs s₁, layAllW c.records (classAt s.heap) w.params ord args s = some (vs, s₁) ∧
        wpB true (model c.prog w) callerA (tree vs) (fun fin s' => ∃ f, fin = .done f ∧ (c.Ends s args vs s₁ (.ok f) s' ∧ s'.os = s.os ∧ AllBare s'.gens ∧ kept s'.heap)) (fun _ _ => False) s₁) :
    c.CallFrom (fun vs => ⟨tree vs, .builtin "claim.caller" {}, default, []⟩) w free gens kept s := by
  intro args hpre hlay ord hord
  obtain ⟨vs, s₁, hlaid, hcode⟩ := hspec args hpre hlay ord hord
  have hal := layAllW_rest _ _ _ hlaid
  obtain ⟨k, r, s', s'', hrun, hsched, hfo, hcase, hos, hkp⟩ := endsB (prog := c.prog) (w := w) (t := tree vs) (s := s₁) (R := fun r s' => c.Ends s args vs s₁ r s' ∧ s'.os = s.os ∧ kept s'.heap)
    (Shared.asleep_of_life hal.2.2.2 hz)
    (wpB_mono hcode (fun fin s' ⟨f, e, h1, h2, h3, h4⟩ => ⟨f, e, ⟨h1, h2, h4⟩, leftWithCleanup_false_of_bare h3⟩) fun _ _ f => f.elim)
  obtain ⟨eh, _, _, eo, _⟩ := Shared.forget_eq hfo
  have hcase := hcase.congr eh
  have hkp : kept s'.heap := by first | exact eh ▸ hkp | (rw [eh] at hkp; exact hkp) | (rw [← eh] at hkp; exact hkp)
  rw [← eo] at hos
  have hlife : s'.heap.life = s.heap.life := (runN_life _ _ _ hrun).trans hal.2.2.2
  refine ⟨vs, s₁, hlaid, k, _, s', hsched, ?_, (fun _ i x hx => by rw [hgens] at hx; simp at hx), hkp, by rw [hlife], Shared.rest_eq hos⟩
  rcases hcase with ⟨v, rfl, d1, d2, d3, d4, d5⟩ | ⟨e, ob, cls, rfl, d1, d2, d3, d4, d5⟩
  · exact .inl ⟨v, rfl, d1, d2, d3, fun b o y _ => d4 b o y, d5⟩
  · exact .inr ⟨e, ob, cls, rfl, d1, d2, d3, d4, fun b o y _ => d5 b o y⟩

/-- as the library's head; the walk need hold only where no decoder stands on the stack -/
theorem holdsB {r : OpenRow} {q : Program} {loose : List Str} {Xt : Shared → Bool} {XP : (Str → Option Value) → Heap → Prop} {α : Type} {Yf : Shared → α} {Ya : World → α} {YP : World → Heap → Prop} {d : DefRec} {kwd : List (Str × PySem.Expr)} {N : Nat}
    (left : LeftO r.prog q loose Xt Yf Ya N) (hY : ∀ w s, Yf s = Ya w → YP w s.heap) (hYk : ∀ w h h', YP w h → (∀ b o, h.get? b = some o → h'.get? b = some o) → YP w h')
    (hX : ∀ s, Xt s = true → XP (s.heap.nsMap mainGlobals) s.heap) (hXk : ∀ mg h h', XP mg h → (∀ b o, h.get? b = some o → h'.get? b = some o) → XP mg h')
    (hdef : defOf q r.name = some (d, kwd)) (hp : r.prog.theDef r.name = some (d.params, d.body, d.scope)) (hk : kwWritten? d.params.kwonlyargs d.params.kw_defaults = some kwd) (hRf : ∀ s, Xt s = true → RecFacts r.records s.heap) (hwr : (!r.writes || r.records.isEmpty) = true)
    (k1 : r.wellSaid = true) (ok : (chainsOk q && opensWell r.prog && (frees r.toRowW && r.within.isEmpty)) = true) (hb : r.prog.bare) (hw : r.toRowW.promised)
    (call : ∀ (w : World) (s₀ s₁ : Shared) (mg mb : Str → Option Value), Ground q loose r.records XP w s₀ mg mb s₁.heap → YP w s₁.heap → ∀ (f : Value), mg r.name = some f → ∀ (args : List WData) (vs : List Value) (as : List Addr),
      r.claim.pre args = true → WData.layableAll args = true → s₁.gens = #[] → ReadsAllW r.records (classAt s₀.heap) s₁.heap vs args as → WellAll w.params s₁.heap vs args → (∀ a ∈ as, (a == sysModules) = false) →
        wpB true (model r.prog w) callerA (PySem.call f vs) (fun v s' => GoodWG r.claim (classAt s₀.heap) (ExcName.means s₀.heap) args s₁ (.ok (.ret v)) s') (fun _ _ => False) s₁) : r.Holds := by
  obtain ⟨ok, k5⟩ := Bool.and_eq_true_iff.mp ok
  obtain ⟨hch, o1⟩ := Bool.and_eq_true_iff.mp ok
  obtain ⟨k5, k6⟩ := Bool.and_eq_true_iff.mp k5
  obtain ⟨hsame, hu, ha, hap, hm⟩ := frees_parts k5
  refine ⟨k1, hw, ⟨hb, o1, by show r.makers.map _ = []; rw [hm]; rfl⟩, hw.witness, fun w => ⟨(left.behind hX hch w).1, fun s' hs' => ?_⟩⟩
  obtain ⟨s₀, hf, hg0, s, hT, hz, hgens, hg, G00, y⟩ := (left.behind (XP := fun mg h => XP mg h ∧ RecFacts r.records h) (fun s hs => ⟨hX s hs, hRf s hs⟩) hch w).2 s' hs'
  have G0 : Ground q loose [] XP w s (s.heap.nsMap mainGlobals) (s.heap.nsMap builtinsNs) s.heap := ⟨G00.T, G00.B, G00.D, G00.TE, G00.TD, G00.W, G00.X.1, G00.cls, G00.has, G00.apart, G00.once, G00.K⟩
  have RF := G00.X.2
  have hT' := hT
  refine ⟨s₀, hf, hg0, s, hT, fun n hn => ?_, RF.1, RF.2.1, ?_⟩
  · obtain rfl : n = r.name := by split at hn <;> simp_all
    exact pinned_of_view hg G0 hdef hp hk
  have hgens : s.gens = #[] := Array.eq_empty_of_size_eq_zero (beq_iff_eq.mp hgens)
  have G : Ground q loose r.records XP w s _ _ s.heap := RF.ground G0
  refine callFromB (c := r.claim) hz hgens fun args hpre hlay ord hord => ?_
  obtain ⟨⟨vs, s₁⟩, hlaid⟩ := Option.isSome_iff_exists.mp (layAllW_isSome (P := w.params) (ord := ord) G.has args r.args s (pre_splitW hpre).1)
  have keeps := layAllW_keeps _ _ _ hlaid
  have hal := layAllW_rest _ _ _ hlaid
  obtain ⟨as, hrd, hin, hold⟩ := reads_layAllW hord _ _ _ hlaid hlay s₁.heap (fun _ _ e => e)
  have L : Laid r.records w s s₁ args vs as := ⟨⟨ord, hord, hlaid⟩, hrd, hin, hold, keeps, hal.1.trans hgens, hal.2.2.1⟩
  have G₁ := G.keeps hXk keeps
  obtain ⟨a, o, pm, cd, doc, dV, kV, h1, h2, h3, h4, h5⟩ := G₁.fn hdef
  have h := call w s s₁ _ _ G₁ (hYk _ _ _ (hY w s y) keeps) (.ref a) h1 args vs as hpre hlay L.gens L.reads L.well (L.low G.low)
  have hi := ident_freeW hu ha hap
  have hwi : r.claim.within = [] := List.isEmpty_iff.mp k6
  refine ⟨vs, s₁, hlaid, ?_⟩
  refine wpB_bindA (wpAny_nsGet G₁.T.g ?_)
  rw [h1]
  refine wpB_bind (wpB_mono h (fun v s' g => wpB_pure ⟨_, rfl, ?_⟩) fun _ _ f => f)
  have z := g.laid (c := r.claim) hsame hwi hi L
  exact ⟨z.1, z.2.1, z.2.2, fun q => ⟨namesKept_of hT' hg _ keeps g.2.1.old, noTable hwr q⟩⟩
end Mine
end

section
open PySem PySem.W PyProof.Rows PySem.Calls
set_option maxRecDepth 100000
namespace Mine
theorem compTurn2_outer (elt t1 i1 t2 i2 : Expr) (scope : Scope) (pos : Pos) (it acc : Value) (env : Env) :
    compTurn (.ListComp elt [⟨t1, i1, [], 0⟩, ⟨t2, i2, [], 0⟩] scope pos) 0 it acc env = (do
      standAt i1.pos
      match ← pyNext it with
      | none => pure (.done .next)
      | some v =>
        letOwnedTupleGo t1 it v
        assign t1 env v
        let mut ok := true
        for c in ([] : List Expr) do
          if ok then ok ← isTrue c env (eval c env)
        if ok then
          let x ← eval i2 env
          standAt i2.pos
          let x ← foldedSetIterable i2 env x
          let _ ← runOwn (.compStart (.ListComp elt [⟨t1, i1, [], 0⟩, ⟨t2, i2, [], 0⟩] scope pos) 1 (← holding [x] (pyIter x)) acc env) env
        again (.compLoop (.ListComp elt [⟨t1, i1, [], 0⟩, ⟨t2, i2, [], 0⟩] scope pos) 0 it acc env)) := by rfl
theorem compTurn2_inner (elt t1 i1 t2 i2 : Expr) (scope : Scope) (pos : Pos) (it acc : Value) (env : Env) :
    compTurn (.ListComp elt [⟨t1, i1, [], 0⟩, ⟨t2, i2, [], 0⟩] scope pos) 1 it acc env = (do
      standAt i2.pos
      match ← pyNext it with
      | none => pure (.done .next)
      | some v =>
        letOwnedTupleGo t2 it v
        assign t2 env v
        let mut ok := true
        for c in ([] : List Expr) do
          if ok then ok ← isTrue c env (eval c env)
        if ok then
          (do let _ ← call (.builtin "list.append") [acc, ← eval elt env])
        again (.compLoop (.ListComp elt [⟨t1, i1, [], 0⟩, ⟨t2, i2, [], 0⟩] scope pos) 1 it acc env)) := by rfl
section
variable {b : Bool} {prog : Program} {w : World} {A : Around} {env : Env} {scope : Scope} {cl : List (Str × Addr)} {elt i1 i2 : Expr} {x1 x2 : Str} {p1 p2 pos : Pos} {S : Shared}

theorem not_fresh {h h' : Heap} {a x : Addr} {o : Obj} (hf : h.get? a = none) (e : h.get? x = some o) : x ≠ a := by
  rintro rfl; rw [hf] at e; cases e

/-- the inner loop of a comprehension of two clauses -/
theorem codeB_compInner {R : Result → Shared → Prop} (hh : A.handled = none) (hx2 : scope.names.lookup x2 = some .local) (hk : scope.kind = .function) (h12 : x1 ≠ x2)
    {I1 l1 l2 I2 D C : Addr} {i : Nat} {items2 ys0 : List Value} {v1 : Value}
    (nDC : D ≠ C) (nD1 : D ≠ I1) (nD2 : D ≠ I2) (nC1 : C ≠ I1) (nC2 : C ≠ I2) (n12 : I1 ≠ I2) (fD : S.heap.get? D = none) (fC : S.heap.get? C = none) (f2 : S.heap.get? I2 = none) (hl2 : S.heap.IsList l2 items2.toArray)
    (hz : ys0.length + items2.length ≤ sizeLine) (G : Value → Value → Prop)
    (helt : ∀ v2 h tk, v2 ∈ items2 → (∃ m, h.Ns C m ∧ m x1 = some v1 ∧ m x2 = some v2) → Kp S.heap h →
      wpB b (model prog w) A (eval elt (cenvX scope cl C env)) (fun y s₄ => ∃ h₄ tk₄, s₄ = { S with heap := h₄, toks := tk₄ } ∧ Kp h h₄ ∧ G v2 y) (fun _ _ => False) { S with heap := h, toks := tk })
    (hR : ∀ h' tk k ys, (∃ m, h'.Ns C m) → h'.get? D = some (lsObj (ys0 ++ ys) k) → Paired G items2 ys → h'.IsListIter I1 l1 i → Kp S.heap h' → R (.ok .next) { S with heap := h', toks := tk })
    {h₀ : Heap} {tk₀ k₀ : Nat} {m₀ : Str → Option Value} (hst : h₀.IsListIter I2 l2 0) (hI1 : h₀.IsListIter I1 l1 i) (hacc : h₀.get? D = some (lsObj ys0 k₀)) (hns : h₀.Ns C m₀) (hm : m₀ x1 = some v1) (hkp : Kp S.heap h₀) :
    codeB b (model prog w) A (.compLoop (.ListComp elt [⟨.Name x1 p1, i1, [], 0⟩, ⟨.Name x2 p2, i2, [], 0⟩] scope pos) 1 (.ref I2) (.ref D) (cenvX scope cl C env)) R { S with heap := h₀, toks := tk₀ } := by
  have hl2I : l2 ≠ I2 := by obtain ⟨o, ho, _⟩ := hl2; exact not_fresh (h' := h₀) f2 ho
  have W := Walks.list (prog := prog) (w := w) (A := A) hh I2 l2 hl2I items2.toArray
  have hsz : items2.toArray.size = items2.length := by simp
  refine codeB_loop rfl rfl
    (fun n s' => ∃ h tk k m ys, s' = { S with heap := h, toks := tk } ∧ h.IsListIter I2 l2 ys.length ∧ h.IsListIter I1 l1 i ∧ h.get? D = some (lsObj (ys0 ++ ys) k) ∧ h.Ns C m ∧ m x1 = some v1 ∧ Kp S.heap h ∧ ys.length ≤ items2.length ∧ Paired G (items2.take ys.length) ys ∧ n = items2.length + 1 - ys.length)
    ?_ (items2.length + 1) ⟨h₀, tk₀, k₀, m₀, [], rfl, hst, hI1, by rw [List.append_nil]; exact hacc, hns, hm, hkp, Nat.zero_le _, .nil, rfl⟩
  rintro n s' ⟨h, tk, k, m, ys, rfl, hst, hI1, hacc, hns, hm, hkp, hle, hP, rfl⟩
  show wpB b _ A ((compTurn (.ListComp elt [⟨.Name x1 p1, i1, [], 0⟩, ⟨.Name x2 p2, i2, [], 0⟩] scope pos) 1 (.ref I2) (.ref D) (cenvX scope cl C env)).onRaise (fun x => do noteFrame x (cenvX scope cl C env); theTreesLotGoes x)) _ _ _
  refine wpB_onRaise ?_
  rw [compTurn2_inner]
  refine wpB_bindA (wpAny_standAt ?_)
  have hST : h.IsListIter I2 l2 ys.length ∧ h.IsList l2 items2.toArray := ⟨hst, hl2.at fun o e => hkp _ o e⟩
  by_cases hlt : ys.length < items2.length
  · refine wpB_bindA (W.item ys.length _ _ _ (by rw [hsz]; exact hlt) hST fun v h₁ tk₁ hv hst₁ hk₁ => ?_)
    have hv' : items2[ys.length]? = some v := by rw [← List.getElem?_toArray]; exact hv
    have kk₁ : ∀ x o, x ≠ I2 → h.get? x = some o → h₁.get? x = some o := fun x o hx e => hk₁ x o (fun hm => hx (List.mem_singleton.mp hm)) e
    dsimp only
    refine wpB_bindA (wpAny_pure ?_)
    refine wpB_bindA (wpAny_assign_Name (wpAny_storeName_local (env := cenvX scope cl C env) (m := m) (lookup_relabel_local hx2) (hns.at' fun o e => kk₁ _ o nC2 e) (fun h₂ hn₂ hs₂ => ?_) (by simp [relabel, hk])))
    have kk₂ : ∀ x o, x ≠ I2 → x ≠ C → h.get? x = some o → h₂.get? x = some o := fun x o a1 a2 e => hs₂.extBut x o a2 (kk₁ x o a1 e)
    have kp₂ : Kp S.heap h₂ := fun x o e => kk₂ x o (not_fresh (h' := h) f2 e) (not_fresh (h' := h) fC e) (hkp x o e)
    refine wpB_bindA (wpAny_tests_nil ?_)
    refine wpB_bind (wpB_bind (wpB_mono (helt v h₂ _ (List.mem_of_getElem? hv') ⟨_, hn₂, by simpa [h12] using hm, by simp⟩ kp₂) (fun y s₅ h₅ => ?_) fun _ _ x => x.elim))
    obtain ⟨h₄, tk₄, rfl, hk₄, hG⟩ := h₅
    have hacc₄ : h₄.get? D = some (lsObj (ys0 ++ ys) k) := hk₄ _ _ (kk₂ _ _ nD2 nDC hacc)
    refine wpB_bindA (append_ls hacc₄ (by rw [List.length_append]; omega) fun h₅ k₅ ha₅ hs₅ => ?_)
    have kk₅ : ∀ x o, x ≠ D → h₂.get? x = some o → h₅.get? x = some o := fun x o hx e => hs₅.extBut x o hx (hk₄ x o e)
    refine wpB_of (wpAny_pure (wpB_of (wpAny_pure (.inl ⟨rfl, items2.length + 1 - (ys ++ [y]).length, by rw [List.length_append, List.length_singleton]; omega, h₅, tk₄, k₅, _, ys ++ [y], rfl, ?_, ?_, by rw [← List.append_assoc]; exact ha₅, hn₂.at' fun o e => kk₅ _ o (Ne.symm nDC) e, by simpa [h12] using hm,
      fun x o e => kk₅ x o (not_fresh (h' := h) fD e) (kp₂ x o e), by rw [List.length_append, List.length_singleton]; omega, ?_, rfl⟩))))
    · rw [List.length_append, List.length_singleton]
      exact (hst₁.1.at fun o e => hs₂.extBut _ o (Ne.symm nC2) e).at fun o e => kk₅ _ o (Ne.symm nD2) e
    · exact hI1.at fun o e => kk₅ _ o (Ne.symm nD1) (kk₂ _ o n12 (Ne.symm nC1) e)
    · rw [List.length_append, List.length_singleton, List.take_succ, hv']
      exact Paired.snoc hP hG
  · have he : ys.length = items2.length := by omega
    refine wpB_of (wpAny_bind (W.done _ _ _ (by rw [hsz, ← he]; exact hST) fun h₁ tk₁ hk₁ => wpAny_pure ?_))
    have kk₁ : ∀ x o, x ≠ I2 → h.get? x = some o → h₁.get? x = some o := fun x o hx e => hk₁ x o (fun hm => hx (List.mem_singleton.mp hm)) e
    rw [he, List.take_length] at hP
    exact hR h₁ tk₁ k ys ⟨m, hns.at' fun o e => kk₁ _ o nC2 e⟩ (kk₁ _ _ nD2 hacc) hP (hI1.at fun o e => kk₁ _ o n12 e) fun x o e => kk₁ x o (not_fresh (h' := h) f2 e) (hkp x o e)
end
end Mine
end

section
open PySem PySem.W PyProof.Rows PySem.Calls
set_option maxRecDepth 100000
namespace Mine
section
variable {b : Bool} {prog : Program} {w : World} {A : Around} {env : Env} {scope : Scope} {cl : List (Str × Addr)} {elt i1 i2 : Expr} {x1 x2 : Str} {p1 p2 pos : Pos} {S : Shared}

/-- the outer loop of a comprehension of two clauses; the inner clause's source is one list all along -/
theorem codeB_compOuter {R : Result → Shared → Prop} (hh : A.handled = none) (hx1 : scope.names.lookup x1 = some .local) (hx2 : scope.names.lookup x2 = some .local) (hk : scope.kind = .function) (h12 : x1 ≠ x2) (hs2 : ∀ e x, foldedSetIterable i2 e x = pure x)
    {I1 l1 l2 D C : Addr} {items1 items2 : List Value}
    (nDC : D ≠ C) (nD1 : D ≠ I1) (nC1 : C ≠ I1) (fD : S.heap.get? D = none) (fC : S.heap.get? C = none) (f1 : S.heap.get? I1 = none) (hl1 : S.heap.IsList l1 items1.toArray) (hl2 : S.heap.IsList l2 items2.toArray)
    (hz : items1.length * items2.length ≤ sizeLine) (hz2 : items2.length ≤ sizeLine) (G : Value → Value → Value → Prop)
    (hit2 : ∀ h tk (Q : Value → Shared → Prop), Kp S.heap h → Q (.ref l2) { S with heap := h, toks := tk } → wpAny (model prog w) A (eval i2 (cenvX scope cl C env)) Q (fun _ _ => False) { S with heap := h, toks := tk })
    (helt : ∀ v1 v2 h tk, v1 ∈ items1 → v2 ∈ items2 → (∃ m, h.Ns C m ∧ m x1 = some v1 ∧ m x2 = some v2) → Kp S.heap h →
      wpB b (model prog w) A (eval elt (cenvX scope cl C env)) (fun y s₄ => ∃ h₄ tk₄, s₄ = { S with heap := h₄, toks := tk₄ } ∧ Kp h h₄ ∧ G v1 v2 y) (fun _ _ => False) { S with heap := h, toks := tk })
    (hR : ∀ h' tk k zss, (∃ m, h'.Ns C m) → h'.get? D = some (lsObj zss.flatten k) → Paired (fun v1 zs => Paired (G v1) items2 zs) items1 zss → Kp S.heap h' → R (.ok .next) { S with heap := h', toks := tk })
    {h₀ : Heap} {tk₀ k₀ : Nat} {m₀ : Str → Option Value} (hI1 : h₀.IsListIter I1 l1 0) (hacc : h₀.get? D = some (lsObj [] k₀)) (hns : h₀.Ns C m₀) (hkp : Kp S.heap h₀) :
    codeB b (model prog w) A (.compLoop (.ListComp elt [⟨.Name x1 p1, i1, [], 0⟩, ⟨.Name x2 p2, i2, [], 0⟩] scope pos) 0 (.ref I1) (.ref D) (cenvX scope cl C env)) R { S with heap := h₀, toks := tk₀ } := by
  have hl1I : l1 ≠ I1 := by obtain ⟨o, ho, _⟩ := hl1; exact not_fresh (h' := h₀) f1 ho
  have W := Walks.list (prog := prog) (w := w) (A := A) hh I1 l1 hl1I items1.toArray
  have hsz : items1.toArray.size = items1.length := by simp
  refine codeB_loop rfl rfl
    (fun n s' => ∃ h tk k m zss, s' = { S with heap := h, toks := tk } ∧ h.IsListIter I1 l1 zss.length ∧ h.get? D = some (lsObj zss.flatten k) ∧ h.Ns C m ∧ Kp S.heap h ∧ zss.length ≤ items1.length ∧ zss.flatten.length = zss.length * items2.length ∧ Paired (fun v1 zs => Paired (G v1) items2 zs) (items1.take zss.length) zss ∧ n = items1.length + 1 - zss.length)
    ?_ (items1.length + 1) ⟨h₀, tk₀, k₀, m₀, [], rfl, hI1, hacc, hns, hkp, Nat.zero_le _, by simp, .nil, rfl⟩
  rintro n s' ⟨h, tk, k, m, zss, rfl, hI1, hacc, hns, hkp, hle, hfl, hP, rfl⟩
  show wpB b _ A ((compTurn (.ListComp elt [⟨.Name x1 p1, i1, [], 0⟩, ⟨.Name x2 p2, i2, [], 0⟩] scope pos) 0 (.ref I1) (.ref D) (cenvX scope cl C env)).onRaise (fun x => do noteFrame x (cenvX scope cl C env); theTreesLotGoes x)) _ _ _
  refine wpB_onRaise ?_
  rw [compTurn2_outer]
  refine wpB_bindA (wpAny_standAt ?_)
  have hST : h.IsListIter I1 l1 zss.length ∧ h.IsList l1 items1.toArray := ⟨hI1, hl1.at fun o e => hkp _ o e⟩
  by_cases hlt : zss.length < items1.length
  · refine wpB_bindA (W.item zss.length _ _ _ (by rw [hsz]; exact hlt) hST fun v h₁ tk₁ hv hst₁ hk₁ => ?_)
    have hv' : items1[zss.length]? = some v := by rw [← List.getElem?_toArray]; exact hv
    have kk₁ : ∀ x o, x ≠ I1 → h.get? x = some o → h₁.get? x = some o := fun x o hx e => hk₁ x o (fun hm => hx (List.mem_singleton.mp hm)) e
    dsimp only
    refine wpB_bindA (wpAny_pure ?_)
    refine wpB_bindA (wpAny_assign_Name (wpAny_storeName_local (env := cenvX scope cl C env) (m := m) (lookup_relabel_local hx1) (hns.at' fun o e => kk₁ _ o nC1 e) (fun h₂ hn₂ hs₂ => ?_) (by simp [relabel, hk])))
    have kk₂ : ∀ x o, x ≠ I1 → x ≠ C → h.get? x = some o → h₂.get? x = some o := fun x o a1 a2 e => hs₂.extBut x o a2 (kk₁ x o a1 e)
    have kp₂ : Kp S.heap h₂ := fun x o e => kk₂ x o (not_fresh (h' := h) f1 e) (not_fresh (h' := h) fC e) (hkp x o e)
    have hI2 : h₂.IsListIter I1 l1 (zss.length + 1) := hst₁.1.at fun o e => hs₂.extBut _ o (Ne.symm nC1) e
    have hacc₂ : h₂.get? D = some (lsObj zss.flatten k) := kk₂ _ _ nD1 nDC hacc
    refine wpB_bindA (wpAny_tests_nil ?_)
    rw [if_pos rfl]
    refine wpB_bindA (hit2 h₂ _ _ kp₂ (wpB_bindA (wpAny_standAt (wpB_bindA (wpAny_of_eq (hs2 _ _) (wpB_bindA (wpAny_holding (wpAny_pyIter_list (hl2.at fun o e => kp₂ _ o e) ?_))))))))
    dsimp only
    refine wpB_bind (wpB_runOwn (codeB_mono (R := (fun r s' => ∃ h' tk k zs, r = .ok .next ∧ s' = { S with heap := h', toks := tk } ∧ (∃ m, h'.Ns C m) ∧ h'.get? D = some (lsObj (zss.flatten ++ zs) k) ∧ Paired (G v) items2 zs ∧ h'.IsListIter I1 l1 (zss.length + 1) ∧ Kp S.heap h')) ?_ (fun r s' hr => ?_)))
    rotate_left
    · obtain ⟨h', tk', k', zs, rfl, rfl, ⟨m', hm'⟩, hD', hP', hI', hK'⟩ := hr
      have hzs := hP'.length
      refine wpB_pure (.inl ⟨rfl, items1.length + 1 - (zss ++ [zs]).length, by rw [List.length_append, List.length_singleton]; omega, h', tk', k', m', zss ++ [zs], rfl, by rw [List.length_append, List.length_singleton]; exact hI', by rw [List.flatten_append]; simpa using hD', hm', hK', by rw [List.length_append, List.length_singleton]; omega, ?_, ?_, rfl⟩)
      · rw [List.flatten_append, List.length_append, List.length_append, List.length_singleton, Nat.add_mul, hfl]
        simp
        omega
      · rw [List.length_append, List.length_singleton, List.take_succ, hv']
        exact Paired.snoc hP hP'
    have fI2 : h₂.get? h₂.objs.size = none := gone (Nat.le_refl _)
    have up : ∀ x o, h₂.get? x = some o → (h₂.push { cls := .type "list_iterator", data := .fields #[.ref l2, .int 0 0] }).get? x = some o := fun x o e => Heap.get?_push_of_some _ e
    have hI3 := hI2.at fun o e => up _ o e
    have hacc₃ := up _ _ hacc₂
    have hn₃ := hn₂.at' fun o e => up _ o e
    have kp₃ : Kp S.heap (h₂.push { cls := .type "list_iterator", data := .fields #[.ref l2, .int 0 0] }) := fun x o e => up x o (kp₂ x o e)
    have nD2 : D ≠ h₂.objs.size := not_fresh (h' := h₂) fI2 hacc₂
    have nC2 : C ≠ h₂.objs.size := by obtain ⟨o, _, _, ho, _⟩ := hn₂; exact not_fresh (h' := h₂) fI2 ho
    have n12 : I1 ≠ h₂.objs.size := by obtain ⟨o, ho, _⟩ := hI2; exact not_fresh (h' := h₂) fI2 ho
    have f2 : S.heap.get? h₂.objs.size = none := by
      cases e : S.heap.get? h₂.objs.size with
      | none => rfl
      | some o => rw [kp₂ _ _ e] at fI2; cases fI2
    have hIt : (h₂.push { cls := .type "list_iterator", data := .fields #[.ref l2, .int 0 0] }).IsListIter h₂.objs.size l2 0 := ⟨_, Heap.get?_push_size _ rfl, rfl, rfl⟩
    have hmul : (zss.length + 1) * items2.length ≤ items1.length * items2.length := Nat.mul_le_mul_right _ hlt
    rw [Nat.add_mul, Nat.one_mul, ← hfl] at hmul
    have loop : codeB b (model prog w) A (.compLoop (.ListComp elt [⟨.Name x1 p1, i1, [], 0⟩, ⟨.Name x2 p2, i2, [], 0⟩] scope pos) 1 (.ref h₂.objs.size) (.ref D) (cenvX scope cl C env))
        (fun r s' => ∃ h' tk k zs, r = .ok .next ∧ s' = { S with heap := h', toks := tk } ∧ (∃ m, h'.Ns C m) ∧ h'.get? D = some (lsObj (zss.flatten ++ zs) k) ∧ Paired (G v) items2 zs ∧ h'.IsListIter I1 l1 (zss.length + 1) ∧ Kp S.heap h')
        { S with heap := h₂.push { cls := .type "list_iterator", data := .fields #[.ref l2, .int 0 0] }, toks := tk₁ + 1 } :=
      codeB_compInner hh hx2 hk h12 nDC nD1 nD2 nC1 nC2 n12 fD fC f2 hl2 (by omega) (G v) (fun v2 h tk hv2 hm hkh => helt v v2 h tk (List.mem_of_getElem? hv') hv2 hm hkh)
        (fun h' tk k ys hm hD hP hI hK => ⟨h', tk, k, ys, rfl, rfl, hm, hD, hP, hI, hK⟩) hIt hI3 hacc₃ hn₃ (by simp) kp₃
    refine codeB_of_tree rfl ?_
    show wpB b _ A ((compStart (.ListComp elt [⟨.Name x1 p1, i1, [], 0⟩, ⟨.Name x2 p2, i2, [], 0⟩] scope pos) 1 (.ref h₂.objs.size) (.ref D) (cenvX scope cl C env)).onRaise (fun x => do noteFrame x (cenvX scope cl C env); standAt theWindowsPlace)) _ _ _
    refine wpB_onRaise ?_
    unfold compStart
    show wpB b _ _ (ask >>= _) _ _ _
    refine wpB_bindA (wpAny_askSetting ?_)
    refine wpB_ite (fun _ => ?_) fun _ => ?_
    · first
        | exact wpB_pure (And.intro rfl loop)
        | exact wpB_bindA (wpAny_pure (wpB_pure (And.intro rfl loop)))
    · refine wpB_bindA (wpAny_rule ?_)
      show wpB b _ _ (standAt i2.pos >>= _) _ _ _
      refine wpB_bindA (wpAny_standAt (wpB_bindA (wpAny_pyIter_listiter hIt ?_)))
      exact wpB_pure (And.intro rfl loop)
  · have he : zss.length = items1.length := by omega
    refine wpB_of (wpAny_bind (W.done _ _ _ (by rw [hsz, ← he]; exact hST) fun h₁ tk₁ hk₁ => wpAny_pure ?_))
    have kk₁ : ∀ x o, x ≠ I1 → h.get? x = some o → h₁.get? x = some o := fun x o hx e => hk₁ x o (fun hm => hx (List.mem_singleton.mp hm)) e
    rw [he, List.take_length] at hP
    exact hR h₁ tk₁ k zss ⟨m, hns.at' fun o e => kk₁ _ o nC1 e⟩ (kk₁ _ _ nD1 hacc) hP fun x o e => kk₁ x o (not_fresh (h' := h) f1 e) (hkp x o e)
end
end Mine
end

section
open PySem PySem.W PyProof.Rows PySem.Calls
set_option maxRecDepth 100000
namespace Mine
section
variable {b : Bool} {prog : Program} {w : World} {A : Around} {env : Env} {scope : Scope} {cl : List (Str × Addr)} {elt i1 i2 : Expr} {x1 x2 : Str} {p1 p2 pos : Pos}

def Comp2Any (b : Bool) (prog : Program) (w : World) (A : Around) (env : Env) (scope : Scope) (cl : List (Str × Addr)) (elt i2 : Expr) (x1 x2 : Str) (Q : Value → Shared → Prop) (xv : Value) (S : Shared) : Prop :=
  ∃ l1 items1 l2 items2, ∃ G : Value → Value → Value → Prop, xv = .ref l1 ∧ S.heap.IsList l1 items1.toArray ∧ S.heap.IsList l2 items2.toArray ∧ items1.length * items2.length ≤ sizeLine ∧ items2.length ≤ sizeLine ∧
    (∀ C h tk (Q : Value → Shared → Prop), Kp S.heap h → Q (.ref l2) { S with heap := h, toks := tk } → wpAny (model prog w) A (eval i2 (cenvX scope cl C env)) Q (fun _ _ => False) { S with heap := h, toks := tk }) ∧
    (∀ C v1 v2 h tk, v1 ∈ items1 → v2 ∈ items2 → (∃ m, h.Ns C m ∧ m x1 = some v1 ∧ m x2 = some v2) → Kp S.heap h →
      wpB b (model prog w) A (eval elt (cenvX scope cl C env)) (fun y s₄ => ∃ h₄ tk₄, s₄ = { S with heap := h₄, toks := tk₄ } ∧ Kp h h₄ ∧ G v1 v2 y) (fun _ _ => False) { S with heap := h, toks := tk }) ∧
    (∀ D h' tk k zss, S.heap.get? D = none → h'.get? D = some (lsObj zss.flatten k) → Paired (fun v1 zs => Paired (G v1) items2 zs) items1 zss → Kp S.heap h' → Q (.ref D) { S with heap := h', toks := tk })

theorem wpB_ListComp2 {s : Shared} {Q E : Value → Shared → Prop} (hh : A.handled = none)
    (hclos : closureFor scope env = pure cl) (hkind : scope.kind = .function) (hnames : ∀ x ∈ scope.names, x.2 = .local → scope.names.lookup x.1 = some .local)
    (hx1 : scope.names.lookup x1 = some .local) (hx2 : scope.names.lookup x2 = some .local) (h12 : x1 ≠ x2) (hs2 : ∀ e x, foldedSetIterable i2 e x = pure x)
    (h : wpB b (model prog w) A (eval i1 env) (fun xv s₁ => Comp2Any b prog w A env scope cl elt i2 x1 x2 Q xv s₁) (fun _ _ => False) s)
    (hs : ∀ x, foldedSetIterable i1 env x = pure x := by intro _; rfl) :
    wpB b (model prog w) A (eval (.ListComp elt [⟨.Name x1 p1, i1, [], 0⟩, ⟨.Name x2 p2, i2, [], 0⟩] scope pos) env) Q E s := by
  rw [eval_ListComp]
  unfold comprehension
  rw [hclos]
  refine wpB_bind (wpB_mono h (fun x S h₁ => wpB_bindA (wpAny_standAt (wpB_bindA (wpAny_of_eq (hs x) ?_)))) fun _ _ f => f.elim)
  obtain ⟨l1, items1, l2, items2, G, rfl, hl1, hl2, hz, hz2, hit2, helt, hQ⟩ := h₁
  refine wpB_bindA (wpAny_holding (wpAny_pyIter_list hl1 ?_))
  have f1 : S.heap.get? S.heap.objs.size = none := gone (Nat.le_refl _)
  have hIt : (S.heap.push { cls := .type "list_iterator", data := .fields #[.ref l1, .int 0 0] }).IsListIter S.heap.objs.size l1 0 := ⟨_, Heap.get?_push_size _ rfl, rfl, rfl⟩
  have kp1 : Kp S.heap (S.heap.push { cls := .type "list_iterator", data := .fields #[.ref l1, .int 0 0] }) := fun x o e => Heap.get?_push_of_some _ e
  have hsz1 : (S.heap.push { cls := .type "list_iterator", data := .fields #[.ref l1, .int 0 0] }).objs.size = S.heap.objs.size + 1 := Heap.size_push ..
  generalize hH1 : S.heap.push { cls := .type "list_iterator", data := .fields #[.ref l1, .int 0 0] } = H1 at hIt kp1 hsz1
  have core : wpB b (model prog w) A (newList []) (fun acc s₃ => wpB b (model prog w) A (newFunctionEnv scope env.globals cl [] env.qual none .none (some env)) (fun cenv s₄ =>
      codeB b (model prog w) A (.compStart (.ListComp elt [⟨.Name x1 p1, i1, [], 0⟩, ⟨.Name x2 p2, i2, [], 0⟩] scope pos) 0 (.ref S.heap.objs.size) acc { cenv with scope := relabel scope env })
        (fun r s' => (∃ f, r = .ok f) ∧ (∃ m, s'.heap.Ns cenv.locals m) ∧ ∀ h', Heap.SameBut cenv.locals s'.heap h' → Q acc { s' with heap := h' }) s₄) (fun _ _ => False) s₃) (fun _ _ => False) { S with heap := H1 } := by
    refine wpB_of (wpAny_newObj_type (wpB_of (newCompEnv fun h₁ hns₁ hk₁ hcl₁ hlo₁ => ?_)))
    dsimp only at hns₁ hk₁ hcl₁ hlo₁ ⊢
    generalize hH2 : H1.push { cls := .type "list", dict := none, data := .seq ([] : List Value).toArray } = H2 at hns₁ hk₁ hcl₁ hlo₁ ⊢
    have hC : H2.objs.size = H1.objs.size + 1 := by rw [← hH2, Heap.size_push]
    have nDC : H1.objs.size ≠ H2.objs.size := Nat.ne_of_lt (by omega)
    have nD1 : H1.objs.size ≠ S.heap.objs.size := Nat.ne_of_gt (by omega)
    have nC1 : H2.objs.size ≠ S.heap.objs.size := Nat.ne_of_gt (by omega)
    have fD : S.heap.get? H1.objs.size = none := gone (by omega)
    have fC : S.heap.get? H2.objs.size = none := gone (by omega)
    have old : Kp H1 h₁ := fun x o e => hk₁ x o (hH2 ▸ Heap.get?_push_of_some _ e)
    have hacc : h₁.get? H1.objs.size = some (lsObj [] 0) := hk₁ _ _ (hH2 ▸ Heap.get?_push_size _ rfl)
    have loop : codeB b (model prog w) A (.compLoop (.ListComp elt [⟨.Name x1 p1, i1, [], 0⟩, ⟨.Name x2 p2, i2, [], 0⟩] scope pos) 0 (.ref S.heap.objs.size) (.ref H1.objs.size) (cenvX scope cl H2.objs.size env))
        (fun r s' => (∃ f, r = .ok f) ∧ (∃ m, s'.heap.Ns H2.objs.size m) ∧ ∀ h', Heap.SameBut H2.objs.size s'.heap h' → Q (.ref H1.objs.size) { s' with heap := h' }) { S with heap := h₁ } := by
      refine codeB_compOuter (tk₀ := S.toks) hh hx1 hx2 hkind h12 hs2 nDC nD1 nC1 fD fC f1 hl1 hl2 hz hz2 G (hit2 _) (helt _) ?_ (hIt.at fun o e => old _ o e) hacc hns₁ (fun x o e => old _ _ (kp1 _ _ e))
      intro h' tk k zss hns hD hP hK
      refine ⟨⟨_, rfl⟩, hns, fun h'' hs'' => hQ _ h'' tk k zss fD (hs''.extBut _ _ nDC hD) hP fun x o e => hs''.extBut x o (not_fresh (h' := h') fC e) (hK x o e)⟩
    refine codeB_of_tree rfl ?_
    show wpB b _ A ((compStart (.ListComp elt [⟨.Name x1 p1, i1, [], 0⟩, ⟨.Name x2 p2, i2, [], 0⟩] scope pos) 0 (.ref S.heap.objs.size) (.ref H1.objs.size) (cenvX scope cl H2.objs.size env)).onRaise (fun x => do noteFrame x (cenvX scope cl H2.objs.size env); standAt theWindowsPlace)) _ _ _
    refine wpB_onRaise ?_
    unfold compStart
    show wpB b _ _ (ask >>= _) _ _ _
    refine wpB_bindA (wpAny_askSetting ?_)
    refine wpB_ite (fun _ => ?_) fun _ => ?_
    · first
        | exact wpB_pure (And.intro rfl loop)
        | exact wpB_bindA (wpAny_pure (wpB_pure (And.intro rfl loop)))
    · refine wpB_bindA (wpAny_rule ?_)
      show wpB b _ _ (standAt i1.pos >>= _) _ _ _
      refine wpB_bindA (wpAny_standAt (wpB_bindA (wpAny_pyIter_listiter (hIt.at fun o e => old _ o e) ?_)))
      exact wpB_pure (And.intro rfl loop)
  refine wpB_bind (wpB_mono core (fun acc s₃ h₃ => ?_) fun _ _ f => f.elim)
  refine wpB_bindA (wpAny_pure (wpB_bind (wpB_mono h₃ (fun cenv s₄ h₄ => ?_) fun _ _ f => f.elim)))
  dsimp only
  have hv : ∀ x ∈ (scope.names.filter fun x => (x.2 == .local || x.2 == .cell) && x.1 != (".0" : Str)).reverse, x.2 = .local →
      Env.kindOf { cenv with scope := relabel scope env } x.1 = some .local := fun x hx hl => lookup_relabel_local (hnames x (List.mem_filter.mp (List.mem_reverse.mp hx)).1 hl)
  refine wpB_holding (wpB_bind (wpB_attempt (wpB_holding (wpB_run (codeB_mono h₄ fun r s' hr => ?_)))))
  obtain ⟨⟨f, rfl⟩, ⟨m, hn⟩, hr⟩ := hr
  exact wpB_of (wpAny_bind (wpAny_holding (wpAny_comp_letGo (cenv := { cenv with scope := relabel scope env }) hkind _ s' m hv hn fun h' m' _ hs' => wpAny_pure (hr h' hs'))))
end
end Mine
end

section
open PySem PySem.W PyProof.Rows PySem.Calls PySem.SeqAt
set_option maxRecDepth 100000
namespace Mine
section
variable {prog : Program} {w : World} {A : Around} {E : Value → Shared → Prop} {s : Shared}
theorem index_ints {l : Addr} {vs : List Value} {ns : List Int} {k : Int} {t : Tok} {n : Nat} {Q : Value → Shared → Prop} (ho : s.heap.get? l = some (lsObj vs n)) (hi : IntsAre vs ns)
    (hz : ns.length ≤ 1000) (hk : k ∈ ns) (h : Q (.int (ns.idxOf k : Nat) s.toks) { s with toks := s.toks + 1 }) :
    wpAny (model prog w) A (call (.builtin "list.index") [.ref l, .int k t]) Q E s := by
  have hlen := hi.length
  have hj : ns.idxOf k < ns.length := List.idxOf_lt_length_iff.mpr hk
  refine call_meets PySem.F.slot_list_index ⟨_, ho, rfl⟩ PySem.F.entry_list_index (PySem.F.args_list_index_2 _ _)
    (list_indexAt l vs.toArray n none _ (.int k t) (isInt k) (ns.idxOf k) (by simpa [hlen] using hj) (by omega) ?_ ?_) ⟨ho, fun y hy => (eq_isInt k t hi y (by simpa using hy)).at _ _, h⟩
  · show isInt k vs[ns.idxOf k] = true
    rw [isInt_at k hi _ (by omega) hj]
    simpa using List.getElem_idxOf hj
  · intro j hjs hlt
    show isInt k vs[j] = false
    rw [isInt_at k hi j (by simpa using hjs) (by omega)]
    exact ne_of_lt_idxOf hlt _
theorem min_ints {l : Addr} {vs : List Value} {ns : List Int} {Q : Value → Shared → Prop} (hh : A.handled = none) (hl : s.heap.IsList l vs.toArray) (hi : IntsAre vs ns) (hne : 0 < ns.length)
    (h : ∀ h' M (t : Tok) tk, Kp s.heap h' → M ∈ ns → (∀ a, a ∈ ns → M ≤ a) → Q (.int M t) { s with heap := h', toks := tk }) :
    wpAny (model prog w) A (call (.builtin "min") [.ref l]) Q E s := by
  obtain ⟨xs, e⟩ := hi.allInts.items
  have hns : ns = xs.toList.map (·.1) := by
    rw [← hi.numsOf, ← nums_intItems, ← e]
  have hsz : 0 < xs.size := by
    have h3 := hne; rw [hns, List.length_map, Array.length_toList] at h3; exact h3
  rw [e] at hl
  refine min_intList hh hl hsz fun v h' tk hv hk => ?_
  obtain ⟨t, rfl⟩ := intItems_at hv
  obtain ⟨h1, h2⟩ := argBest_lt (numAt xs) (xs.size - 1)
  refine h _ _ t tk hk ?_ fun a ha => ?_
  · rw [hns, numAt_eq]; exact getD_mem (by rw [List.length_map, Array.length_toList]; omega)
  · rw [hns] at ha
    obtain ⟨j, hj, rfl⟩ := mem_getD ha
    rw [List.length_map, Array.length_toList] at hj
    rw [← numAt_eq]; exact h2 j (by omega)
theorem method_ls {name : Str} {id : String} {pl : Sem Bool} {l : Addr} {vs : List Value} {n : Nat} {Q : Value × List Value → Shared → Prop} (slot : Slot "list" name id)
    (hty : typeOf (.builtin id) = pure (.type "method_descriptor")) (ho : s.heap.get? l = some (lsObj vs n)) (h : Q (.builtin id, [.ref l]) s) :
    wpAny (model prog w) A (getMethod (.ref l) name pl) Q E s :=
  getMethod_builtin ⟨_, ho, rfl⟩ PySem.F.plainAttrs_list slot hty (fun a e => by cases e; exact ⟨_, ho, rfl⟩) h
end
end Mine
end

section
open PySem PySem.W PyProof.Rows PySem.Calls
set_option maxRecDepth 100000
namespace Mine
section
variable {prog : Program} {w : World} {A : Around} {env : Env} {scope : Scope} {cl : List (Str × Addr)} {s : Shared} {items : List Value}
abbrev TgP (h₀ : Heap) (x1 x2 : Str) (C : Addr) (v : Value) (h : Heap) : Prop := ∃ r a b m, v = Value.ref r ∧ h₀.IsList r #[a, b] ∧ h.Ns C m ∧ m x1 = some a ∧ m x2 = some b
theorem tg_pair {x1 x2 : Str} {p1 p2 tp : Pos} {kk : Nat} (hh : A.handled = none) (h1 : scope.names.lookup x1 = some .local) (h2 : scope.names.lookup x2 = some .local) (h12 : x1 ≠ x2) (hk : scope.kind = .function)
    (hrow : ∀ v ∈ items, ∃ r a b, v = Value.ref r ∧ s.heap.IsList r #[a, b]) :
    ∀ C (i : Nat) v h₃ tk₃ m (Q : Unit → Shared → Prop), v ∈ items → Heap.Ns h₃ C m → CellsLive scope C h₃ → C ∉ cellsX scope C → (∀ x o', x ∉ ([] : List Addr) → s.heap.get? x = some o' → h₃.get? x = some o') →
      (∀ h₄ tk m', h₄.Ns C m' → CellsLive scope C h₄ → TgP s.heap x1 x2 C v h₄ → (∀ x o, x ≠ C → x ∉ cellsX scope C → h₃.get? x = some o → h₄.get? x = some o) → Q () { s with heap := h₄, toks := tk }) →
      wpAny (model prog w) A (assign (.Tuple [.Name x1 p1, .Name x2 p2] kk tp) (cenvX scope cl C env) v) Q (fun _ _ => False) { s with heap := h₃, toks := tk₃ } := by
  intro C i v h₃ tk₃ m Q hv hn hcl hCx hk3 hQ
  obtain ⟨r, a, b, rfl, hl⟩ := hrow v hv
  have hl3 : h₃.IsList r #[a, b] := hl.at fun o e => hk3 _ o (by simp) e
  have hp : ((cenvX scope cl C env).scope.kind == .class || ((cenvX scope cl C env).scope.kind == .module && (cenvX scope cl C env).locals != (cenvX scope cl C env).globals)) = false := by simp [relabel, hk]
  rw [assign_Tuple]
  refine wpAny_bind (wpAny_standAt ?_)
  show wpAny _ _ (unpackItems (.ref r) 2 none |> holding [.ref r] |> fun t => t >>= fun its => assignInOrder [assign (.Name x1 p1) (cenvX scope cl C env), assign (.Name x2 p2) (cenvX scope cl C env)] its) _ _ _
  refine wpAny_bind (wpAny_holding (kun_itemsOf (items := #[a, b]) hh hl3 fun h₁ he₁ => ?_))
  have old : ∀ c o, h₃.get? c = some o → h₁.get? c = some o := fun c o e => he₁ c o (Nat.ne_of_lt (Heap.lt_size e)) e
  have hn₁ : h₁.Ns C m := hn.at' fun o e => old _ o e
  refine assignInOrder_cons ?_
  refine wpAny_assign_Name (wpAny_storeName_local (env := cenvX scope cl C env) (m := m) (lookup_relabel_local h1) hn₁ (fun h₂ hn₂ hs₂ => ?_) hp)
  refine assignInOrder_cons ?_
  refine wpAny_assign_Name (wpAny_storeName_local (env := cenvX scope cl C env) (lookup_relabel_local h2) hn₂ (fun h₄ hn₄ hs₄ => ?_) hp)
  refine assignInOrder_nil ?_
  have up : ∀ c o, c ≠ C → h₃.get? c = some o → h₄.get? c = some o := fun c o hc e => hs₄.extBut c o hc (hs₂.extBut c o hc (old c o e))
  refine hQ h₄ _ _ hn₄ (fun c hc => ?_) ⟨r, a, b, _, rfl, hl, hn₄, by simp [h12], by simp⟩ fun x o hx _ e => up x o hx e
  obtain ⟨v, o, ho, hd⟩ := hcl c hc
  exact ⟨v, o, up c o (fun e => hCx (by have e' : c = C := e; rw [e'] at hc; exact hc)) ho, hd⟩
theorem lt_pair {x1 x2 : Str} {p1 p2 tp : Pos} {kk : Nat} {l : Addr} (hrow : ∀ v ∈ items, ∃ r, v = Value.ref r) : ∀ (i : Nat) v (s₃ : Shared) (Q : Unit → Shared → Prop), items[i]? = some v → s₃.heap.IsListIter s.heap.objs.size l (i + 1) → Q () s₃ →
    wpAny (model prog w) A (letOwnedTupleGo (.Tuple [.Name x1 p1, .Name x2 p2] kk tp) (.ref s.heap.objs.size) v) Q (fun _ _ => False) s₃ := by
  intro i v s₃ Q hv hit hQ
  obtain ⟨r, rfl⟩ := hrow v (List.mem_of_getElem? hv)
  exact wpAny_letOwnedTupleGo_listiter hit hQ
end
end Mine
end

section
open PySem
namespace Mine
theorem xor_and : ∀ (n a b : Nat), a ≤ n → (a ^^^ b) + 2 * (a &&& b) = a + b
  | 0, a, b, h => by
    obtain rfl : a = 0 := by omega
    simp
  | n + 1, a, b, h => by
    by_cases ha : a = 0
    · subst ha; simp
    have ih := xor_and n (a / 2) (b / 2) (by omega)
    have d1 : (a ^^^ b) / 2 = a / 2 ^^^ b / 2 := by
      have := @Nat.shiftRight_xor_distrib 1 a b
      rw [Nat.shiftRight_eq_div_pow, Nat.shiftRight_eq_div_pow, Nat.shiftRight_eq_div_pow] at this
      exact this
    have d2 : (a &&& b) / 2 = a / 2 &&& b / 2 := by
      have := @Nat.shiftRight_and_distrib 1 a b
      rw [Nat.shiftRight_eq_div_pow, Nat.shiftRight_eq_div_pow, Nat.shiftRight_eq_div_pow] at this
      exact this
    have m1 : (a ^^^ b) % 2 = a % 2 ^^^ b % 2 := Nat.xor_mod_two_pow (n := 1)
    have m2 : (a &&& b) % 2 = a % 2 &&& b % 2 := Nat.and_mod_two_pow (n := 1)
    rw [← d1, ← d2] at ih
    have hm : (a ^^^ b) % 2 + 2 * ((a &&& b) % 2) = a % 2 + b % 2 := by
      rw [m1, m2]
      rcases Nat.mod_two_eq_zero_or_one a with ha | ha <;> rcases Nat.mod_two_eq_zero_or_one b with hb | hb <;> rw [ha, hb] <;> rfl
    omega
theorem bitXor_nat (a b : Nat) : Builtin.bitXor (a : Int) (b : Int) = ((a ^^^ b : Nat) : Int) := by
  rw [PyProof.Rows.bitXor_and, PyProof.Rows.bitAnd_pp (by omega) (by omega), Int.toNat_natCast, Int.toNat_natCast]
  have := xor_and a a b (Nat.le_refl _)
  omega
def PZ : Nat := 3988292384
def stepN (n : Nat) : Nat := if n % 2 = 1 then (n / 2) ^^^ PZ else n / 2
def upN (n : Nat) : Nat := if 2147483648 ≤ n then (n ^^^ PZ) * 2 + 1 else n * 2
theorem step_up (y : Nat) : stepN (upN y) = y := by
  unfold upN stepN
  split
  · rw [if_pos (by omega), show ((y ^^^ PZ) * 2 + 1) / 2 = y ^^^ PZ from by omega, Nat.xor_assoc, Nat.xor_self, Nat.xor_zero]
  · rw [if_neg (by omega)]; omega
theorem top_xor {y : Nat} (h : y < 2147483648) : 2147483648 ≤ y ^^^ PZ := by
  refine Nat.ge_two_pow_of_testBit (i := 31) ?_
  rw [Nat.testBit_xor, Nat.testBit_lt_two_pow h]
  decide
theorem low_xor {y : Nat} (h : y < 4294967296) (h2 : 2147483648 ≤ y) : y ^^^ PZ < 2147483648 := by
  have e : (y ^^^ PZ) / 2147483648 = y / 2147483648 ^^^ PZ / 2147483648 := by
    have := @Nat.shiftRight_xor_distrib 31 y PZ
    rw [Nat.shiftRight_eq_div_pow, Nat.shiftRight_eq_div_pow, Nat.shiftRight_eq_div_pow] at this
    exact this
  have e1 : y / 2147483648 = 1 := by omega
  rw [e1, show (1 ^^^ PZ / 2147483648 : Nat) = 0 from by decide] at e
  omega
theorem up_step {x : Nat} (h : x < 4294967296) : upN (stepN x) = x := by
  unfold upN stepN
  by_cases e : x % 2 = 1
  · rw [if_pos e, if_pos (top_xor (by omega)), Nat.xor_assoc, Nat.xor_self, Nat.xor_zero]; omega
  · rw [if_neg e, if_neg (by omega)]; omega
theorem up_lt {x : Nat} (h : x < 4294967296) : upN x < 4294967296 := by
  unfold upN
  split
  · have := low_xor h (by assumption); omega
  · omega
theorem step_lt {x : Nat} (h : x < 4294967296) : stepN x < 4294967296 := by
  unfold stepN
  split
  · exact Nat.xor_lt_two_pow (n := 32) (by omega) (by decide)
  · omega
theorem div_xor (a b : Nat) : (a ^^^ b) / 2 = a / 2 ^^^ b / 2 := by
  have := @Nat.shiftRight_xor_distrib 1 a b
  rw [Nat.shiftRight_eq_div_pow, Nat.shiftRight_eq_div_pow, Nat.shiftRight_eq_div_pow] at this
  exact this
theorem step_xor (a b : Nat) : stepN (a ^^^ b) = stepN a ^^^ stepN b := by
  have hm : (a ^^^ b) % 2 = (a % 2) ^^^ (b % 2) := Nat.xor_mod_two_pow (n := 1)
  unfold stepN
  rcases Nat.mod_two_eq_zero_or_one a with ha | ha <;> rcases Nat.mod_two_eq_zero_or_one b with hb | hb <;> rw [hm, ha, hb, div_xor]
  · rfl
  · show (a / 2 ^^^ b / 2) ^^^ PZ = a / 2 ^^^ (b / 2 ^^^ PZ)
    rw [Nat.xor_assoc]
  · show (a / 2 ^^^ b / 2) ^^^ PZ = (a / 2 ^^^ PZ) ^^^ b / 2
    rw [Nat.xor_assoc, Nat.xor_comm (b / 2), Nat.xor_assoc]
  · show (a / 2 ^^^ b / 2) = (a / 2 ^^^ PZ) ^^^ (b / 2 ^^^ PZ)
    rw [Nat.xor_assoc (a / 2), ← Nat.xor_assoc PZ, Nat.xor_comm PZ, Nat.xor_assoc (b / 2), Nat.xor_self, Nat.xor_zero]
/-- n times -/
def itN (f : Nat → Nat) : Nat → Nat → Nat
  | 0, x => x
  | k + 1, x => itN f k (f x)
theorem itN_xor : ∀ (k a b : Nat), itN stepN k (a ^^^ b) = itN stepN k a ^^^ itN stepN k b
  | 0, _, _ => rfl
  | k + 1, a, b => by rw [itN, step_xor, itN_xor k]; rfl
theorem itN_add (f : Nat → Nat) : ∀ (k j x : Nat), itN f (k + j) x = itN f j (itN f k x)
  | 0, j, x => by rw [Nat.zero_add]; rfl
  | k + 1, j, x => by rw [Nat.add_right_comm, itN, itN_add f k j]; rfl
theorem itN_lt {f : Nat → Nat} (hf : ∀ x, x < 4294967296 → f x < 4294967296) : ∀ (k : Nat) {x : Nat}, x < 4294967296 → itN f k x < 4294967296
  | 0, _, h => h
  | k + 1, _, h => itN_lt hf k (hf _ h)
theorem itN_last (f : Nat → Nat) : ∀ (k x : Nat), itN f (k + 1) x = f (itN f k x)
  | 0, _ => rfl
  | k + 1, x => by rw [itN, itN_last f k]; rfl
theorem it_step_up : ∀ (k x : Nat), itN stepN k (itN upN k x) = x
  | 0, _ => rfl
  | k + 1, x => by rw [itN_last upN, itN, step_up, it_step_up k]
theorem it_up_step : ∀ (k : Nat) {x : Nat}, x < 4294967296 → itN upN k (itN stepN k x) = x
  | 0, _, _ => rfl
  | k + 1, x, h => by rw [itN_last stepN, itN, up_step (itN_lt (fun _ => step_lt) k h), it_up_step k h]
theorem step_double (z : Nat) : stepN (2 * z) = z := by
  unfold stepN
  rw [if_neg (by omega)]
  omega
theorem it_shift : ∀ (k z : Nat), itN stepN k (2 ^ k * z) = z
  | 0, z => by simp [itN]
  | k + 1, z => by rw [itN, Nat.pow_succ, Nat.mul_comm (2 ^ k) 2, Nat.mul_assoc, step_double, it_shift k]
def crcN (x : Nat) : Nat := itN stepN 8 x
theorem crcN_xor (a b : Nat) : crcN (a ^^^ b) = crcN a ^^^ crcN b := itN_xor 8 a b
theorem crcN_shift (z : Nat) : crcN (256 * z) = z := it_shift 8 z
theorem xor_div (a b : Nat) : (a ^^^ b) / 256 = a / 256 ^^^ b / 256 := by
  have := @Nat.shiftRight_xor_distrib 8 a b
  rw [Nat.shiftRight_eq_div_pow, Nat.shiftRight_eq_div_pow, Nat.shiftRight_eq_div_pow] at this
  exact this
theorem xor_mod (a b : Nat) : (a ^^^ b) % 256 = a % 256 ^^^ b % 256 := Nat.xor_mod_two_pow (n := 8)
theorem two_eq {x y : Nat} (h1 : x / 256 = y / 256) (h2 : x % 256 = y % 256) : x = y := by omega
theorem split_xor (x : Nat) : x = 256 * (x / 256) ^^^ x % 256 := by
  refine two_eq ?_ ?_
  · rw [xor_div, show 256 * (x / 256) / 256 = x / 256 from by omega, show x % 256 / 256 = 0 from by omega, Nat.xor_zero]
  · rw [xor_mod, show 256 * (x / 256) % 256 = 0 from by omega, show x % 256 % 256 = x % 256 from by omega, Nat.zero_xor]
theorem join_xor {a b x y : Nat} (ha : a < 256) (hb : b < 256) : (a + 256 * x) ^^^ (b + 256 * y) = (a ^^^ b) + 256 * (x ^^^ y) := by
  have hab : a ^^^ b < 256 := Nat.xor_lt_two_pow (n := 8) ha hb
  refine two_eq ?_ ?_
  · rw [xor_div, show (a + 256 * x) / 256 = x from by omega, show (b + 256 * y) / 256 = y from by omega]; omega
  · rw [xor_mod, show (a + 256 * x) % 256 = a from by omega, show (b + 256 * y) % 256 = b from by omega]; omega
theorem join_one {a x : Nat} (ha : a < 256) : a + 256 * x = a ^^^ 256 * x := by
  have := @join_xor a 0 0 x ha (by decide)
  simp only [Nat.mul_zero, Nat.add_zero, Nat.zero_add, Nat.xor_zero, Nat.zero_xor] at this
  exact this.symm
def fedN (t o : Nat) : Nat := t / 256 ^^^ crcN ((t ^^^ o) % 256)
theorem fedN_eq {t o : Nat} (h : o < 256) : fedN t o = crcN (t ^^^ o) := by
  unfold fedN
  have e : (t ^^^ o) / 256 = t / 256 := by rw [xor_div, show o / 256 = 0 from by omega, Nat.xor_zero]
  have e2 : crcN (t ^^^ o) = crcN (256 * ((t ^^^ o) / 256) ^^^ (t ^^^ o) % 256) := congrArg crcN (split_xor _)
  rw [e2, crcN_xor, crcN_shift, e]
def numN (a b c d : Nat) : Nat := a + 256 * (b + 256 * (c + 256 * d))
theorem fed4 {t a b c d : Nat} (ha : a < 256) (hb : b < 256) (hc : c < 256) (hd : d < 256) : fedN (fedN (fedN (fedN t a) b) c) d = itN stepN 32 (t ^^^ numN a b c d) := by
  rw [fedN_eq ha, fedN_eq hb, fedN_eq hc, fedN_eq hd]
  have e : ∀ x, itN stepN 32 x = crcN (crcN (crcN (crcN x))) := fun x => by unfold crcN; rw [← itN_add, ← itN_add, ← itN_add]
  rw [e]
  unfold numN
  rw [join_one ha, join_one hb, join_one hc, ← Nat.xor_assoc, crcN_xor (t ^^^ a), crcN_shift, ← Nat.xor_assoc, crcN_xor (_ ^^^ b), crcN_shift, ← Nat.xor_assoc, crcN_xor (_ ^^^ c), crcN_shift]
theorem numN_lt {a b c d : Nat} (ha : a < 256) (hb : b < 256) (hc : c < 256) (hd : d < 256) : numN a b c d < 4294967296 := by unfold numN; omega
theorem numN_xor {a b c d a' b' c' d' : Nat} (ha : a < 256) (hb : b < 256) (hc : c < 256) (ha' : a' < 256) (hb' : b' < 256) (hc' : c' < 256) :
    numN a b c d ^^^ numN a' b' c' d' = numN (a ^^^ a') (b ^^^ b') (c ^^^ c') (d ^^^ d') := by
  unfold numN
  rw [join_xor ha ha', join_xor hb hb', join_xor hc hc']
end Mine
end

section
open PySem
namespace Mine
/-- a linear map by its columns -/
def lin : List Nat → Nat → Nat
  | [], _ => 0
  | c :: cs, y => (if y % 2 = 1 then c else 0) ^^^ lin cs (y / 2)
theorem lin_xor : ∀ (cs : List Nat) (x y : Nat), lin cs (x ^^^ y) = lin cs x ^^^ lin cs y
  | [], _, _ => by simp [lin]
  | c :: cs, x, y => by
    have hm : (x ^^^ y) % 2 = (x % 2) ^^^ (y % 2) := Nat.xor_mod_two_pow (n := 1)
    unfold lin
    rw [div_xor, lin_xor cs, hm]
    rcases Nat.mod_two_eq_zero_or_one x with hx | hx <;> rcases Nat.mod_two_eq_zero_or_one y with hy | hy <;> rw [hx, hy]
    · simp
    · show c ^^^ (lin cs (x / 2) ^^^ lin cs (y / 2)) = (0 ^^^ lin cs (x / 2)) ^^^ (c ^^^ lin cs (y / 2))
      rw [Nat.zero_xor, ← Nat.xor_assoc, Nat.xor_comm c, Nat.xor_assoc]
    · show c ^^^ (lin cs (x / 2) ^^^ lin cs (y / 2)) = (c ^^^ lin cs (x / 2)) ^^^ (0 ^^^ lin cs (y / 2))
      rw [Nat.zero_xor, Nat.xor_assoc]
    · show 0 ^^^ (lin cs (x / 2) ^^^ lin cs (y / 2)) = (c ^^^ lin cs (x / 2)) ^^^ (c ^^^ lin cs (y / 2))
      rw [Nat.zero_xor, Nat.xor_assoc, ← Nat.xor_assoc (lin cs (x / 2)), Nat.xor_comm _ c, Nat.xor_assoc c, ← Nat.xor_assoc c, Nat.xor_self, Nat.zero_xor]
/-- two maps that add places agree where they agree on the powers of two -/
theorem basis_eq (f g : Nat → Nat) (N : Nat) (hf : ∀ x y, x < 2 ^ N → y < 2 ^ N → f (x ^^^ y) = f x ^^^ f y) (hg : ∀ x y, x < 2 ^ N → y < 2 ^ N → g (x ^^^ y) = g x ^^^ g y)
    (h0 : f 0 = g 0) (hb : ∀ k, k < N → f (2 ^ k) = g (2 ^ k)) : ∀ n, n ≤ N → ∀ x, x < 2 ^ n → f x = g x
  | 0, _, x, hx => by
    obtain rfl : x = 0 := by simpa using hx
    exact h0
  | n + 1, hn, x, hx => by
    have ih := basis_eq f g N hf hg h0 hb n (by omega)
    have hle : 2 ^ n ≤ 2 ^ N := Nat.pow_le_pow_right (by decide) (by omega)
    have hle2 : 2 ^ (n + 1) ≤ 2 ^ N := Nat.pow_le_pow_right (by decide) hn
    have hlt : 2 ^ n < 2 ^ N := Nat.pow_lt_pow_right (by decide) (by omega)
    by_cases h : x < 2 ^ n
    · exact ih x h
    · have e : x = 2 ^ n ^^^ (x - 2 ^ n) := by
        rw [Nat.pow_succ] at hx
        have h1 : x - 2 ^ n < 2 ^ n := by omega
        have h2 := xor_and (2 ^ n) (2 ^ n) (x - 2 ^ n) (Nat.le_refl _)
        have h3 : 2 ^ n &&& (x - 2 ^ n) = 0 := by
          apply Nat.eq_of_testBit_eq
          intro i
          rw [Nat.testBit_and, Nat.zero_testBit, Nat.testBit_two_pow]
          by_cases hi : n = i
          · subst hi
            rw [Nat.testBit_lt_two_pow h1]
            simp
          · simp [hi]
        rw [h3] at h2
        omega
      have hr : x - 2 ^ n < 2 ^ n := by rw [Nat.pow_succ] at hx; omega
      rw [e, hf _ _ hlt (Nat.lt_of_lt_of_le hr hle), hg _ _ hlt (Nat.lt_of_lt_of_le hr hle), ih _ hr, hb n (by omega)]
def crcM (x : Nat) : Nat := itN stepN 32 x
def twice (x : Nat) : Nat := numN (x % 256) (x % 256) (x / 256) (x / 256)
def keyN : Nat := 52703
def cols : List Nat := [0, 40252, 14406, 57038, 20708, 57548, 45532, 8322, 0, 40252, 14406, 57038, 20708, 57548, 45532, 8322, 30406, 18290, 48538, 54260, 55212, 16928, 46910, 27714, 30406, 18290, 48538, 54260, 55212, 16928, 46910, 27714]
theorem twice_xor {x y : Nat} (hx : x < 2 ^ 16) (hy : y < 2 ^ 16) : twice (x ^^^ y) = twice x ^^^ twice y := by
  have h1 : x / 256 < 256 := by omega
  have h2 : y / 256 < 256 := by omega
  unfold twice
  rw [xor_mod, xor_div, numN_xor (Nat.mod_lt _ (by decide)) (Nat.mod_lt _ (by decide)) h1 (Nat.mod_lt _ (by decide)) (Nat.mod_lt _ (by decide)) h2]
def fixN (x : Nat) : Nat := x ^^^ (if x % 2 = 1 then keyN else 0)
theorem fix_xor (x y : Nat) : fixN (x ^^^ y) = fixN x ^^^ fixN y := by
  have hm : (x ^^^ y) % 2 = (x % 2) ^^^ (y % 2) := Nat.xor_mod_two_pow (n := 1)
  unfold fixN
  rw [hm]
  rcases Nat.mod_two_eq_zero_or_one x with hx | hx <;> rcases Nat.mod_two_eq_zero_or_one y with hy | hy <;> rw [hx, hy]
  · simp
  · show (x ^^^ y) ^^^ keyN = (x ^^^ 0) ^^^ (y ^^^ keyN)
    rw [Nat.xor_zero, Nat.xor_assoc]
  · show (x ^^^ y) ^^^ keyN = (x ^^^ keyN) ^^^ (y ^^^ 0)
    rw [Nat.xor_zero, Nat.xor_assoc, Nat.xor_comm y, ← Nat.xor_assoc]
  · show (x ^^^ y) ^^^ 0 = (x ^^^ keyN) ^^^ (y ^^^ keyN)
    rw [Nat.xor_zero, Nat.xor_assoc x keyN, ← Nat.xor_assoc keyN, Nat.xor_comm keyN, Nat.xor_assoc y, Nat.xor_self, Nat.xor_zero]
theorem crcM_xor (a b : Nat) : crcM (a ^^^ b) = crcM a ^^^ crcM b := itN_xor 32 a b
theorem cols_zero (x : Nat) (hx : x < 2 ^ 16) : lin cols (twice x) = 0 :=
  basis_eq (fun x => lin cols (twice x)) (fun _ => 0) 16 (fun x y h1 h2 => by show lin cols (twice (x ^^^ y)) = _; rw [twice_xor h1 h2, lin_xor]) (fun _ _ _ _ => rfl) (by decide +kernel) (by decide +kernel) 16 (Nat.le_refl _) x hx
theorem cols_fix (x : Nat) (hx : x < 2 ^ 16) : lin cols (crcM (twice x)) = fixN x :=
  basis_eq (fun x => lin cols (crcM (twice x))) fixN 16 (fun x y h1 h2 => by show lin cols (crcM (twice (x ^^^ y))) = _; rw [twice_xor h1 h2, crcM_xor, lin_xor]) (fun x y _ _ => fix_xor x y) (by decide +kernel) (by decide +kernel) 16 (Nat.le_refl _) x hx
theorem xor_zero_eq {x y : Nat} (h : x ^^^ y = 0) : x = y := by
  have e : (x ^^^ y) ^^^ y = x := by rw [Nat.xor_assoc, Nat.xor_self, Nat.xor_zero]
  rw [h, Nat.zero_xor] at e
  exact e.symm
theorem key_of {x : Nat} (h : fixN x = 0) : x = 0 ∨ x = keyN := by
  have e := xor_zero_eq h
  split at e
  · exact .inr e
  · exact .inl e
theorem crcM_lt {x : Nat} (h : x < 4294967296) : crcM x < 4294967296 := itN_lt (fun _ => step_lt) 32 h
theorem crcM_zero {x : Nat} (h : x < 4294967296) (h0 : crcM x = 0) : x = 0 := by
  have e := it_up_step 32 h
  unfold crcM at h0
  rw [h0] at e
  rw [← e]
  decide +kernel
/-- two octets twice, run through, come to two octets twice: only from nought, or from 223, 205 -/
theorem twice_only {a b c d : Nat} (ha : a < 256) (hb : b < 256) (hc : c < 256) (hd : d < 256) (h : crcM (numN a a b b) = numN c c d d) : (a = 0 ∧ b = 0 ∧ c = 0 ∧ d = 0) ∨ (a = 223 ∧ b = 205 ∧ c = 204 ∧ d = 99) := by
  have e1 : twice (a + 256 * b) = numN a a b b := by
    unfold twice
    rw [show (a + 256 * b) % 256 = a from by omega, show (a + 256 * b) / 256 = b from by omega]
  have e2 : twice (c + 256 * d) = numN c c d d := by
    unfold twice
    rw [show (c + 256 * d) % 256 = c from by omega, show (c + 256 * d) / 256 = d from by omega]
  have h1 := cols_fix (a + 256 * b) (by omega)
  have h2 := cols_zero (c + 256 * d) (by omega)
  rw [e1, h] at h1
  rw [e2, h1] at h2
  rcases key_of h2 with h3 | h3
  · have h4 : a = 0 ∧ b = 0 := by omega
    rw [h4.1, h4.2, show crcM (numN 0 0 0 0) = 0 from by decide +kernel] at h
    unfold numN at h
    left
    omega
  · have h4 : a = 223 ∧ b = 205 := by unfold keyN at h3; omega
    rw [h4.1, h4.2, show crcM (numN 223 223 205 205) = numN 204 204 99 99 from by decide +kernel] at h
    unfold numN at h
    right
    omega
end Mine
end

section
open PySem PySem.W PyProof.Rows
namespace Mine
set_option maxRecDepth 100000 in
set_option maxHeartbeats 8000000 in
open_top hd for PySem.Challenge.rw_pe0015_01
end Mine
end

section
open PySem PySem.W PyProof.Rows PySem.Calls PySem.Spec
set_option maxRecDepth 100000
namespace Mine

theorem dummy : (PySem.Challenge.rw_pe0015_01, hd.heap_39) = (PySem.Challenge.rw_pe0015_01, hd.heap_39) := by
  k_fill
  rfl

/-- the ground: the top's objects and names -/
def Gd (w : World) (h : Heap) : Prop := (hd.heap_39 w.params).In h ∧ ∃ mean mg mb, Top hd.view_39 (looseW hd.view_39 []) mean mg mb h
theorem Gd.keeps {w : World} {h h' : Heap} (G : Gd w h) (hk : Kp h h') : Gd w h' := by
  obtain ⟨X, mean, mg, mb, T⟩ := G
  exact ⟨X.keeps hk, mean, mg, mb, T.keeps hk⟩

set_option maxHeartbeats 4000000 in
theorem gen_crc {w : World} {A : Around} {s : Shared} {Q E : Value → Shared → Prop}
    (G : Gd w s.heap) (hroom : A.depth < recursionLimit) (hh : A.handled = none)
    (n : Int) (t : Tok)
    (hQ : ∀ h' tk t', Kp s.heap h' → Q (.int (crc8 n) t') { s with heap := h', toks := tk }) :
    wpAny (model PySem.Challenge.pw_pe0015_01 w) A (call (.ref 28) [.int n t]) Q E s := by
  obtain ⟨X, mean, mg, mb, T⟩ := G
  refine wpAny_call ?_
  k_dflt (refine' enterP (binds := [(Str.ofString "crc", Value.int n t)]) X T ?k6 ?k7 hroom ?k9 ?kB ?_ ?c2 ?c3 ?c4 ?c5; (case k6 => k_is); (case k7 => k_is); (case k9 => exact BindsTo.of_eq rfl); (case kB => exact locs rfl); (case c2 => exact rfl); (case c3 => exact rfl); (case c4 => exact rfl); (case c5 => decide))
  intro L' h' F' N'
  k_steps
  rename IsRange _ _ _ _ _ _ _ _ => rg
  rename Fr _ _ _ _ => F
  rename News _ _ _ _ => N
  with_unfolding_all refine kpr_n1 (n := 8) (y := Str.ofString "crc") [] (fun a _ => crcStep a) hh rg (by decide) (by decide) F N (by rfl) (fun k' t' a' ta' u' h' tk' own' hlo hhi hoff F' N' => ?_) ?_
  · k_steps
    all_goals
      ((refine InvEndN.intro (by assumption) (by assumption) ⟨rfl, kpf_int ?kpe (by with_unfolding_all rfl), by kpf_same3⟩ (by rfl) (by (with_unfolding_all ((try simp only [List.nil_append, List.cons_append]); kst_allIn))) (by (intro p hp; first | k_ownIn | kst_mem)));
       (case kpe => first | exact crcStep_odd (by assumption) | exact crcStep_even (by assumption)))
  · unfold KPfDone
    intro u t' h'' tk F' N'
    clear F N
    k_steps
    exact hQ _ _ _ F'.keep
end Mine
end

section
open PySem PySem.W PyProof.Rows PySem.Calls PySem.Spec
set_option maxRecDepth 100000
namespace Mine
theorem dummy2 : (PySem.Challenge.rw_pe0015_01, hd.heap_39) = (PySem.Challenge.rw_pe0015_01, hd.heap_39) := by
  k_fill
  rfl
def fedStep (a k : Int) : Int := Builtin.bitXor (a / 256) (crc8 (Builtin.bitXor a k % 256))
def fedF (t : Int) (ks : List Int) : Int := ks.foldl fedStep t
theorem fedStep_is (a k : Int) : fedStep a k = Builtin.bitXor (a.fdiv 256) (crc8 ((Builtin.bitXor a k).fmod 256)) := by
  unfold fedStep
  rw [Int.fdiv_eq_ediv_of_nonneg _ (by decide), Int.fmod_eq_emod_of_nonneg _ (by decide)]

set_option maxHeartbeats 4000000 in
theorem law_fed {w : World} {A : Around} {s : Shared} {Q E : Value → Shared → Prop}
    (G : Gd w s.heap) (hroom : A.depth + 1 < recursionLimit) (hh : A.handled = none)
    (n : Int) (t : Tok) (b : Array UInt8) (tb : Tok)
    (hQ : ∀ h' tk t', Kp s.heap h' → Q (.int (fedF n (KBw.bInts b)) t') { s with heap := h', toks := tk }) :
    wpAny (model PySem.Challenge.pw_pe0015_01 w) A (call (.ref 40) [.int n t, .bytes b tb]) Q E s := by
  have G0 := G
  obtain ⟨X, mean, mg, mb, T⟩ := G
  refine wpAny_call ?_
  k_dflt (refine' enterP (binds := [(Str.ofString "total", Value.int n t), (Str.ofString "octets", Value.bytes b tb)]) X T ?k6 ?k7 (by omega) ?k9 ?kB ?_ ?c2 ?c3 ?c4 ?c5; (case k6 => k_is); (case k7 => k_is); (case k9 => exact BindsTo.of_eq rfl); (case kB => exact locs rfl); (case c2 => exact rfl); (case c3 => exact rfl); (case c4 => exact rfl); (case c5 => decide))
  intro L' h' F' N'
  k_steps
  rename Fr _ _ _ _ => F
  rename News _ _ _ _ => N
  with_unfolding_all refine KBw.iterBytes_acc1 (y := Str.ofString "total") fedStep rfl hh F N (by rfl) (fun k' t' a' ta' h' tk' own' hm hlo hhi hoff F' N' => ?_) ?_
  · k_steps
    rename Fr _ _ _ _ => F1
    rename News _ _ _ _ => N1
    refine gen_crc ?kG ?kr ?kh _ _ ?_
    case kG => exact G0.keeps F1.keep
    case kr => exact hroom
    case kh => exact hh
    intro h2 tk2 t2 hk2
    have F2 := F1.keeps hk2
    have N2 := N1.grown hk2
    clear F1 N1
    dsimp only
    k_steps
    all_goals
      ((refine InvEndN.intro (by assumption) (by assumption) ⟨rfl, kpf_int ?kpe (by with_unfolding_all rfl), ?kps⟩ (by rfl) (by (with_unfolding_all ((try simp only [List.nil_append, List.cons_append]); kst_allIn))) (by (intro p hp; first | k_ownIn | kst_mem)));
       (case kpe => exact fedStep_is _ _); (case kps => intro z h1 h2; simp [h1, h2]))
  · intro u t' h'' tk F' N'
    clear F N
    k_steps
    exact hQ _ _ _ F'.keep
end Mine
end

section
open PySem PySem.W PyProof.Rows PySem.Calls
set_option maxRecDepth 100000
namespace Mine
theorem dummy3 : (PySem.Challenge.rw_pe0015_01, hd.heap_39) = (PySem.Challenge.rw_pe0015_01, hd.heap_39) := by
  k_fill
  rfl
set_option maxHeartbeats 4000000 in
theorem byteswap {w : World} {A : Around} {s : Shared} {Q E : Value → Shared → Prop}
    (G : Gd w s.heap) (hroom : A.depth < recursionLimit) (hh : A.handled = none) (hg : A.guards = some [])
    (d : Array UInt8) (td : Tok) (wd q : Nat) (tw : Tok) (hw : 1 ≤ wd) (hw' : wd ≤ 1000) (hd : d.size = q * wd) (hs : d.size ≤ 1000)
    (hQ : ∀ h' tk t', Kp s.heap h' → Q (.bytes (swapF d wd q) t') { s with heap := h', toks := tk }) :
    wpB true (model PySem.Challenge.pw_pe0015_01 w) A (call (.ref 21) [.bytes d td, .int wd tw]) Q E s := by
  obtain ⟨X, mean, mg, mb, T⟩ := G
  refine wpB_call ?_
  k_dflt (refine' enterPB (binds := [(Str.ofString "data", Value.bytes d td), (Str.ofString "width", Value.int wd tw)]) X T ?k6 ?k7 hroom ?k9 ?kB ?_ ?c2 ?c3 ?c4 ?c5; (case k6 => k_is); (case k7 => k_is); (case k9 => exact BindsTo.of_eq rfl); (case kB => exact locs rfl); (case c2 => exact rfl); (case c3 => exact rfl); (case c4 => exact rfl); (case c5 => decide))
  intro L h₁ F N
  refine wpB_execs_cons (wpB_Assign_Name (wpB_Call ?_))
  k_steps
  refine wpB_callWith_type ?_
  k_steps
  refine call_bytearray' hg (by omega) (by omega) fun a h' hn ha hk => ?_
  rename Fr _ _ _ _ => F1
  rename News _ _ _ _ => N1
  have F2 := F1.keeps hk
  have N2 := newsAdd F1 N1 hk hn ha
  clear F1 N1
  dsimp only at *
  k_steps
  refine wpB_of ?_
  k_steps
  rename Fr _ _ _ _ => F4
  rename News _ _ _ _ => N4
  rename IsRange _ _ _ _ _ _ _ _ => rg
  with_unfolding_all refine rangeC_inv (n := q) (fun k m nx => nx = [(a, baObj (swapF d wd k))] ∧ ∀ z, z ≠ Str.ofString "i" → z ≠ Str.ofString "j" → m z = (fun y => if y = Str.ofString "swapped_data" then some (Value.ref a) else List.lookup y [(Str.ofString "data", Value.bytes d td), (Str.ofString "width", Value.int (↑wd) tw)].reverse) z) hh rg (small_step (by omega) (by omega) (by omega) (by omega)) (by rw [hd]; exact size_step q wd hw) F4 N4 ⟨by simp [swapF], fun _ _ _ => rfl⟩ (fun i t m₁ nx h tk own hi hadr hoff hJ F' N' => ?_) (fun m₁ nx h tk hJ F' N' => ?_)
  · obtain ⟨rfl, hm⟩ := hJ
    rw [map2 hm] at F'
    clear F4 N4
    have hiw : (i + 1) * wd ≤ q * wd := Nat.mul_le_mul_right wd hi
    rw [Nat.add_mul, Nat.one_mul, ← hd] at hiw
    have hcast : (0 : Int) + (i : Int) * (wd : Int) = ((i * wd : Nat) : Int) := by rw [Int.natCast_mul, Int.zero_add]
    rw [hcast] at F'
    generalize hiwe : i * wd = iw at hiw F'
    k_steps
    rename Fr _ _ _ _ => F5
    rename News _ _ _ _ => N5
    rename IsRange _ _ _ _ _ _ _ _ => rg2
    with_unfolding_all refine rangeC_inv (n := wd) (fun k m nx => nx = [(a, baObj (swapW d iw wd (swapF d wd i) k))] ++ own ∧ ∀ z, z ≠ Str.ofString "j" → m z = (fun z => if z = Str.ofString "i" then some (Value.int iw t) else if z = Str.ofString "swapped_data" then some (Value.ref a) else List.lookup z [(Str.ofString "data", Value.bytes d td), (Str.ofString "width", Value.int (↑wd) tw)].reverse) z) hh rg2 (small_one (by omega) (by omega) (by omega) (by omega)) (by rw [rangeSize_one, if_pos (by omega)]; omega) F5 N5 ⟨rfl, ?kj⟩ (fun j tj m₂ nx h2 tk2 own2 hj hadr2 hoff2 hJ2 F6 N6 => ?_) (fun m₂ nx h2 tk2 hJ2 F6 N6 => ?_)
    case kj =>
      intro z hz
      dsimp only
      split <;> rfl
    · obtain ⟨rfl, hm2⟩ := hJ2
      rw [map1 hm2] at F6
      clear F5 N5
      have hc2 : (0 : Int) + (j : Int) * 1 = (j : Int) := by omega
      rw [hc2] at F6
      k_steps
      with_unfolding_all refine KBy.item_N (x := d.toList) (by rw [Array.length_toList]; omega) (by omega) (by rw [Array.length_toList]; omega) ?_
      k_steps
      rename Fr _ _ _ _ => F7
      rename News _ _ _ _ => N7
      have hmem : (a, baObj (swapW d iw wd (swapF d wd i) j)) ∈ [(a, baObj (swapW d iw wd (swapF d wd i) j))] ++ own ++ own2 := by simp
      have hsz : (swapW d iw wd (swapF d wd i) j).size = d.size := by rw [swapW_size, swapF_size]
      have hoo : ∀ p ∈ own ++ own2, p.1 ≠ a := by
        intro p hp
        rcases List.mem_append.mp hp with hp | hp
        · exact hoff p hp a (by simp)
        · exact hoff2 p hp a (by simp)
      have hb8 := (d.toList.getD (iw + j : Int).toNat 0).toNat_lt
      refine setItem_ba (N7.get hmem) (by omega) (by omega) (by omega) (by omega) (by omega) (by rw [sizeLine_eq]; omega) ?_
      intro h8 h9 h10
      have F8 := F7.update N7 hmem h10
      rw [List.append_assoc] at N7
      have N8 := N7.setAt (own := []) (fun _ h => nomatch h) hoo h10 h9
      clear F7 N7
      refine wpAny_execs_nil ?_
      refine InvEndN.intro (nx := [(a, baObj (swapW d iw wd (swapF d wd i) (j + 1)))] ++ own) F8 N8 ⟨rfl, ?_⟩ ?_ ?_ ?_
      · intro z hz
        simp [hz]
      · simp
      · intro p hp
        rcases List.mem_append.mp hp with hp | hp
        · rw [List.mem_singleton.mp hp]
          rw [← swap_eq d iw wd j _ hj]
          exact List.Mem.head _
        · simp [hp]
      · intro p hp
        simp [hp]
    · obtain ⟨rfl, hm2⟩ := hJ2
      clear F5 N5
      k_steps
      rename Fr _ _ _ _ => F7
      rename News _ _ _ _ => N7
      refine InvEndN.intro (nx := [(a, baObj (swapF d wd (i + 1)))]) F7 N7 ⟨rfl, ?_⟩ rfl ?_ ?_
      · intro z h1 h2
        rw [hm2 z h2]
        simp [h1]
      · intro p hp
        rw [List.mem_singleton.mp hp, swapF, hiwe]
        simp
      · intro p hp
        simp [hp]
  · obtain ⟨rfl, hm⟩ := hJ
    rw [map2' hm] at F'
    clear F4 N4
    k_steps
    rename Fr _ _ _ _ => F5
    rename News _ _ _ _ => N5
    refine call_bytes_ba (N5.get (.head _)) (by rw [swapF_size, sizeLine_eq]; omega) ?_
    exact hQ _ _ _ F5.keep
end Mine
end

section
open PySem PySem.W PyProof.Rows PySem.Calls
set_option maxRecDepth 100000
namespace Mine
theorem dummy4 : (PySem.Challenge.rw_pe0015_01, hd.heap_39) = (PySem.Challenge.rw_pe0015_01, hd.heap_39) := by
  k_fill
  rfl
local macro_rules | `(tactic| walk_at "eval Name") => `(tactic| (with_reducible show wpAny _ _ (eval (Expr.Name _ _) (cenvX _ _ _ _)) _ _ _; first
  | with_unfolding_all refine nmL (by with_reducible assumption) (by with_reducible assumption) ?_
  | with_unfolding_all refine nmC (by rfl) (by with_reducible assumption) ?_
  | (k_dflt (refine' nmG ?X ?T ?e ?_ ?a ?b ?c ?d; (case X => with_reducible assumption); (case T => with_reducible assumption); (case a => rfl); (case b => rfl); (case c => rfl); (case d => decide); (case e => k_is)))
  | (k_dflt (refine' nmB ?X ?T ?e ?v ?n ?_ ?a ?a2 ?b ?c ?d; (case X => with_reducible assumption); (case T => with_reducible assumption); (case a => rfl); (case a2 => rfl); (case b => rfl); (case c => rfl); (case d => decide); (case e => k_is); (case v => boot_fast); (case n => decide)))))
/-- a list of two ints -/
def Two (h : Heap) (l : Addr) (a b : Int) : Prop := ∃ ta tb, h.IsList l [Value.int a ta, .int b tb].toArray
theorem Two.keeps {h h' : Heap} {l : Addr} {a b : Int} (f : Two h l a b) (hk : Kp h h') : Two h' l a b :=
  let ⟨ta, tb, hl⟩ := f; ⟨ta, tb, hl.at fun o e => hk _ o e⟩
def Row2 (h : Heap) (l : Addr) : Prop := ∃ a b : Nat, a < 256 ∧ b < 256 ∧ Two h l a b
theorem EltEnd.list {s : Shared} {h₃ h₄ : Heap} {tk : Nat} {F : Value → List (Addr × Obj) → Prop} {ys : List Value} (hk : Kp h₃ h₄) (hz : ys.length ≤ sizeLine) (h : ∀ r, F (.ref r) [(r, lsObj ys 0)]) {M : Model} {A : Around} {E : Value → Shared → Prop} :
    wpAny M A (newList ys) (EltEnd s h₃ F) E { s with heap := h₄, toks := tk } := by
  refine wpAny_newList ?_ hz
  refine ⟨_, tk, _, rfl, fun b o x => Heap.get?_push_of_some _ (hk b o x), h _, fun q hq => ?_⟩
  rw [List.mem_singleton.mp hq]
  refine ⟨?_, Heap.get?_push_size _ rfl⟩
  show h₃.get? h₄.objs.size = none
  cases x : h₃.get? h₄.objs.size with
  | none => rfl
  | some o => exact absurd (Heap.lt_size (hk _ _ x)) (Nat.lt_irrefl _)
theorem twoCong (r : Addr) {z₁ z₂ : Int} {q₁ q₂ : Nat} {ta tb : Tok} (h₁ : z₁ = q₁) (h₂ : z₂ = q₂) : [(r, lsObj [Value.int z₁ ta, .int z₂ tb] 0)] = [(r, lsObj [Value.int q₁ ta, .int q₂ tb] 0)] := by rw [h₁, h₂]
theorem old_none {h h' : Heap} {D : Addr} (hk : Kp h h') (hn : h'.get? D = none) : h.get? D = none := by
  cases x : h.get? D with
  | none => rfl
  | some o => rw [hk _ _ x] at hn; cases hn
theorem refs_of (P : Addr → Prop) : ∀ (rows : List (Value × List (Addr × Obj))), (∀ p ∈ rows, ∃ r, p.1 = .ref r ∧ P r) → ∃ rs : List Addr, rows.map (·.1) = rs.map Value.ref ∧ ∀ r ∈ rs, P r
  | [], _ => ⟨[], rfl, fun _ h => nomatch h⟩
  | p :: rows, h => by
    obtain ⟨rs, e, hr⟩ := refs_of P rows fun q hq => h q (.tail _ hq)
    obtain ⟨r, er, hp⟩ := h p (.head _)
    refine ⟨r :: rs, by rw [List.map_cons, List.map_cons, er, e], fun x hx => ?_⟩
    rcases List.mem_cons.mp hx with rfl | hx
    · exact hp
    · exact hr x hx
set_option maxHeartbeats 4000000 in
theorem law_words {w : World} {A : Around} {s : Shared} {Q E : Value → Shared → Prop}
    (G : Gd w s.heap) (hroom : A.depth < recursionLimit) (hh : A.handled = none)
    (l : Addr) (vs : List Value) (ns : List Int) (hl : s.heap.IsList l vs.toArray) (hi : IntsAre vs ns) (hlen : ns.length ≤ 63)
    (hQ : ∀ h' tk D k (rs : List Addr), Kp s.heap h' → s.heap.get? D = none → h'.get? D = some (lsObj (rs.map Value.ref) k) → rs.length = 4 → (∀ r ∈ rs, Row2 h' r ∧ s.heap.get? r = none) → Q (.ref D) { s with heap := h', toks := tk }) :
    wpAny (model PySem.Challenge.pw_pe0015_01 w) A (call (.ref 33) [.ref l]) Q E s := by
  obtain ⟨X, mean, mg, mb, T⟩ := G
  obtain ⟨hd', dp, fr, gd, un⟩ := A
  obtain rfl : hd' = none := hh
  refine wpAny_call ?_
  k_dflt (refine' enterP (binds := [(Str.ofString "script", Value.ref l)]) X T ?k6 ?k7 hroom ?k9 ?kB ?_ ?c2 ?c3 ?c4 ?c5; (case k6 => k_is); (case k7 => k_is); (case k9 => exact BindsTo.of_eq rfl); (case kB => exact locs rfl); (case c2 => exact rfl); (case c3 => exact rfl); (case c4 => exact rfl); (case c5 => decide))
  intro L h₁ F N
  dsimp only at *
  refine wpAny_of_wpB (wpB_execs_cons (wpB_of ?_))
  k_steps
  rename Fr _ _ _ _ => F1
  rename News _ _ _ (_ :: _) => N1
  rename IntsAre _ (_ ++ _) => hi1
  have e4 : (List.take 4 ns ++ List.drop ((List.take 4 ns).length : Int).toNat [170497, 158978, 158979, 79108]).length = 4 := by
    simp only [List.length_append, List.length_take, List.length_drop, List.length_cons, List.length_nil, Int.toNat_natCast]
    omega
  have hiL := IntsAre.length hi1
  rw [e4] at hiL
  generalize List.take 4 ns ++ List.drop ((List.take 4 ns).length : Int).toNat [170497, 158978, 158979, 79108] = ks at hi1
  refine wpB_execs_cons (wpB_Return ?_)
  with_unfolding_all refine wpB_ListComp (cl := []) (by rfl) (by rfl) (by decide) ?_
  refine wpB_of ?_
  have hlD := N1.get (.head _)
  dsimp only
  k_steps
  with_unfolding_all refine comp_list true (by rfl) ⟨_, hlD, rfl, 0, rfl⟩ (by rw [hiL, sizeLine_eq]; exact Nat.le_of_ble_eq_true rfl) (TgL (Str.ofString "x")) (fun v y own => ∃ (r : Addr) (a b : Nat) (ta tb : Tok), a < 256 ∧ b < 256 ∧ y = .ref r ∧ own = [(r, lsObj [Value.int a ta, .int b tb] 0)]) (fun _ _ _ _ _ _ h => wpAny_pure h) (tg_local (by rfl) (by rfl)) (fun _ _ _ tk₃ _ _ _ => wpAny_tests_nil ⟨rfl, tk₃, rfl⟩) ?_ ?_
  · rintro C v h₃ tk₃ hC hv - ⟨m, hm, hmx⟩ hk
    obtain ⟨i, hi2⟩ := List.mem_iff_getElem?.mp hv
    obtain ⟨x, tx, rfl, hx⟩ := IntsAre.at hi1 i v hi2
    refine elt_any ?_
    refine wpAny_of_wpB (wpB_List (wpB_args_cons (wpB_of ?_)))
    k_steps
    refine wpB_args_cons (wpB_of ?_)
    k_steps
    · refine wpB_args_nil ?_
      dsimp only
      refine EltEnd.list (fun _ _ e => e) (by rw [sizeLine_eq]; exact Nat.le_of_ble_eq_true rfl) (fun r => ?_)
      obtain ⟨q, hq, e⟩ := octet_of x
      exact ⟨r, q, q, _, _, hq, hq, rfl, twoCong r e e⟩
    · refine wpB_args_nil ?_
      dsimp only
      refine EltEnd.list (fun _ _ e => e) (by rw [sizeLine_eq]; exact Nat.le_of_ble_eq_true rfl) (fun r => ?_)
      obtain ⟨q, hq, e⟩ := octet_of x
      obtain ⟨q2, hq2, e2⟩ := octet_of (x.fdiv 768)
      exact ⟨r, q, q2, _, _, hq, hq2, rfl, twoCong r e e2⟩
  · intro D5 h5 tk5 k5 rows5 e5
    obtain ⟨rs, e1, e2⟩ := refs_of (fun r => Row2 h5 r ∧ s.heap.get? r = none) rows5 (fun p hp => by
      obtain ⟨i, hi⟩ := List.mem_iff_getElem?.mp hp
      obtain ⟨v, -, r, a, b, ta, tb, ha, hb, ey, eo⟩ := e5.each i p hi
      have ho := e5.owns p hp (r, lsObj [Value.int a ta, .int b tb] 0) (by rw [eo]; exact .head _)
      exact ⟨r, ey, ⟨a, b, ha, hb, ta, tb, _, ho.2, rfl, 0, rfl⟩, old_none F1.keep ho.1⟩)
    have hl5 := e5.lst
    rw [e1] at hl5
    refine hQ _ _ _ _ rs (fun b o e => e5.keep _ _ (F1.keep _ _ e)) (old_none F1.keep e5.new) hl5 ?_ e2
    have e6 := e5.len
    have e7 := congrArg List.length e1
    simp only [List.length_map] at e7
    rw [← e7, e6]
    exact hiL
end Mine
end

section
open PySem PySem.W PyProof.Rows PySem.Calls
set_option maxRecDepth 100000
namespace Mine
theorem dummy5 : (PySem.Challenge.rw_pe0015_01, hd.heap_39) = (PySem.Challenge.rw_pe0015_01, hd.heap_39) := by
  k_fill
  rfl
local macro_rules | `(tactic| walk_at "eval Name") => `(tactic| (with_reducible show wpAny _ _ (eval (Expr.Name _ _) (cenvX _ _ _ _)) _ _ _; first
  | with_unfolding_all refine nmL (by with_reducible assumption) (by with_reducible assumption) ?_
  | with_unfolding_all refine nmC (by rfl) (by with_reducible assumption) ?_
  | (k_dflt (refine' nmG ?X ?T ?e ?_ ?a ?b ?c ?d; (case X => with_reducible assumption); (case T => with_reducible assumption); (case a => rfl); (case b => rfl); (case c => rfl); (case d => decide); (case e => k_is)))
  | (k_dflt (refine' nmB ?X ?T ?e ?v ?n ?_ ?a ?a2 ?b ?c ?d; (case X => with_reducible assumption); (case T => with_reducible assumption); (case a => rfl); (case a2 => rfl); (case b => rfl); (case c => rfl); (case d => decide); (case e => k_is); (case v => boot_fast); (case n => decide)))))
/-- the sum with a word of two octets behind -/
def fedW (t : Int) (a b : Nat) : Int := fedF t (KBw.bInts #[a.toUInt8, b.toUInt8])
def stepT (ts : List Int) (p : Nat × Nat) : List Int := (ts.map fun t => [fedW t p.1 p.2, fedW t p.2 p.1]).flatten
def totT (ps : List (Nat × Nat)) : List Int := ps.foldl stepT [4294967295]
/-- a list of words -/
def WordsAt (h : Heap) (l : Addr) (rs : List Addr) (ps : List (Nat × Nat)) : Prop := h.IsList l (rs.map Value.ref).toArray ∧ Paired (fun r p => p.1 < 256 ∧ p.2 < 256 ∧ Two h r (p.1 : Nat) (p.2 : Nat)) rs ps
theorem WordsAt.keeps {h h' : Heap} {l : Addr} {rs : List Addr} {ps : List (Nat × Nat)} (W : WordsAt h l rs ps) (hk : Kp h h') : WordsAt h' l rs ps :=
  ⟨W.1.at fun o e => hk _ o e, Paired.mono (fun _ _ x => ⟨x.1, x.2.1, x.2.2.keeps hk⟩) W.2⟩
def RunJ (s : Shared) (L I : Addr) (ps : List (Nat × Nat)) (i : Nat) (h' : Heap) : Prop :=
  ∃ (m : Str → Option Value) (D : Addr) (vs : List Value) (k : Nat) (o1 o2 : Obj), Fr s.heap L h' m ∧ News s.heap L h' [(D, lsObj vs k), (L + 1 + 1, o2), (L + 1, o1)] ∧ IntsAre vs (totT (ps.take i)) ∧ o1.data = .cell (some (.ref D)) ∧ (∃ ov, o2.data = .cell ov) ∧ D ≠ I ∧ L + 1 ≠ I ∧ L + 1 + 1 ≠ I
theorem Paired.at1 {α β : Type} {F : α → β → Prop} : ∀ {l₁ : List α} {l₂ : List β}, Paired F l₁ l₂ → ∀ (i : Nat) (a : α), l₁[i]? = some a → ∃ b, l₂[i]? = some b ∧ F a b
  | _, _, .nil, i, r, h => by simp at h
  | _, _, .cons (b := b) x t, 0, r, h => by
    simp at h; subst h
    exact ⟨b, by simp, x⟩
  | _, _, .cons x t, i + 1, r, h => by
    simp at h
    obtain ⟨v, h1, h2⟩ := Paired.at1 t i r h
    exact ⟨v, by simpa using h1, h2⟩
theorem news_same {h₀ h h' : Heap} {L : Addr} {news : List (Addr × Obj)} (N : News h₀ L h news) (hs : Heap.SameBut L h h') : News h₀ L h' news :=
  fun p hp => ⟨hs.extBut p.1 p.2 (N p hp).2.1 (N p hp).1, (N p hp).2⟩
theorem swapTwo (a b : Nat) : swapF (byteArr [(a : Int), (b : Int)]) 2 1 = #[b.toUInt8, a.toUInt8] := by
  show swapF #[a.toUInt8, b.toUInt8] 2 1 = _
  generalize a.toUInt8 = x
  generalize b.toUInt8 = y
  simp [swapF, swapW]
  rfl
theorem ne_cell {h : Heap} {a c : Addr} {vs : List Value} {k : Nat} {o : Obj} {v : Option Value} (ha : h.get? a = some (lsObj vs k)) (hc : h.get? c = some o) (hd : o.data = .cell v) : a ≠ c := by
  rintro rfl
  rw [ha] at hc
  cases hc
  cases hd
theorem news_one {h₀ h h' : Heap} {L a : Addr} {news : List (Addr × Obj)} (N : News h₀ L h news) (hs : Heap.SameBut a h h') {p : Addr × Obj} (hp : p ∈ news) (hne : p.1 ≠ a) : h'.get? p.1 = some p.2 ∧ p.1 ≠ L ∧ h₀.get? p.1 = none :=
  ⟨hs.extBut _ _ hne (N p hp).1, (N p hp).2⟩
theorem stepT_len (ts : List Int) (p : Nat × Nat) : (stepT ts p).length = 2 * ts.length := by
  unfold stepT
  induction ts with
  | nil => rfl
  | cons t ts ih =>
    rw [List.map_cons, List.flatten_cons, List.length_append, ih]
    simp only [List.length_cons, List.length_nil]
    omega
theorem totT_len (ps : List (Nat × Nat)) : ∀ ts : List Int, (ps.foldl stepT ts).length = 2 ^ ps.length * ts.length := by
  induction ps with
  | nil => intro ts; simp
  | cons p ps ih =>
    intro ts
    rw [List.foldl_cons, ih, stepT_len, List.length_cons, Nat.pow_succ, Nat.mul_assoc]
theorem totT_le (ps : List (Nat × Nat)) (h : ps.length ≤ 4) : (totT ps).length ≤ 16 := by
  unfold totT
  rw [totT_len]
  have : 2 ^ ps.length ≤ 2 ^ 4 := Nat.pow_le_pow_right (by decide) h
  simp only [List.length_cons, List.length_nil]
  omega
def Elt2End (S : Shared) (h : Heap) (G : Value → Prop) (y : Value) (s₄ : Shared) : Prop := ∃ h₄ tk₄, s₄ = { S with heap := h₄, toks := tk₄ } ∧ Kp h h₄ ∧ G y
theorem elt2_any {b : Bool} {S : Shared} {h : Heap} {G : Value → Prop} {M : Model} {A : Around} {t : Sem Value} {s' : Shared} (x : wpAny M A t (Elt2End S h G) (fun _ _ => False) s') :
    wpB b M A t (fun y s₄ => ∃ h₄ tk₄, s₄ = { S with heap := h₄, toks := tk₄ } ∧ Kp h h₄ ∧ G y) (fun _ _ => False) s' := wpB_of x
theorem flat_ints (A₁ A₂ : Array UInt8) (u₁ u₂ : Tok) : ∀ {vs : List Value} {ts : List Int} {zss : List (List Value)},
    Paired (fun v1 zs => Paired (fun v2 y => ∃ (n : Int) (t : Tok) (bs : Array UInt8) (tb ty : Tok), v1 = .int n t ∧ v2 = .bytes bs tb ∧ y = .int (fedF n (KBw.bInts bs)) ty) [Value.bytes A₁ u₁, .bytes A₂ u₂] zs) vs zss → IntsAre vs ts →
    IntsAre zss.flatten ((ts.map fun t => [fedF t (KBw.bInts A₁), fedF t (KBw.bInts A₂)]).flatten)
  | [], _, _, p, q => by
    cases p
    cases q
    exact .nil
  | v :: vs, _, _, p, q => by
    cases p with
    | cons p r =>
    cases q with
    | cons n t q =>
    cases p with
    | cons p1 p2 =>
      cases p2 with
      | cons p3 p4 =>
        cases p4
        obtain ⟨n1, t1, b1, c1, y1, e1, e2, e3⟩ := p1
        obtain ⟨n2, t2, b2, c2, y2, e4, e5, e6⟩ := p3
        cases e1
        cases e2
        cases e4
        cases e5
        subst e3
        subst e6
        exact .cons _ _ (.cons _ _ (flat_ints A₁ A₂ u₁ u₂ r q))
theorem ints_map (f : Int → Int) : ∀ {vs : List Value} {ns : List Int} {rows : List (Value × List (Addr × Obj))}, IntsAre vs ns → rows.length = vs.length →
    (∀ (i : Nat) (r : Value × List (Addr × Obj)), rows[i]? = some r → ∃ n t ty, vs[i]? = some (.int n t) ∧ r.1 = .int (f n) ty) → IntsAre (rows.map (·.1)) (ns.map f)
  | [], _, [], q, _, _ => by
    cases q
    exact .nil
  | v :: vs, _, r :: rows, q, l, h => by
    cases q with
    | cons n t q =>
    obtain ⟨n', t', ty, e1, e2⟩ := h 0 r rfl
    simp only [List.getElem?_cons_zero, Option.some.injEq] at e1
    cases e1
    rw [List.map_cons, e2, List.map_cons]
    exact .cons _ _ (ints_map f q (by simpa using l) fun i p hp => by simpa using h (i + 1) p (by simpa using hp))
set_option maxHeartbeats 4000000 in
theorem law_run {w : World} {A : Around} {s : Shared} {Q E : Value → Shared → Prop}
    (G : Gd w s.heap) (hroom : A.depth + 2 < recursionLimit) (hh : A.handled = none) (hg : A.guards = some [])
    (l : Addr) (rs : List Addr) (ps : List (Nat × Nat)) (hl : WordsAt s.heap l rs ps) (hlen : rs.length = 4)
    (hQ : ∀ h' tk D k us, Kp s.heap h' → s.heap.get? D = none → h'.get? D = some (lsObj us k) → IntsAre us ((totT ps).map fun t => ((totT ps).idxOf t : Int)) → Q (.ref D) { s with heap := h', toks := tk }) :
    wpB true (model PySem.Challenge.pw_pe0015_01 w) A (call (.ref 45) [.ref l]) Q E s := by
  have G0 := G
  obtain ⟨X, mean, mg, mb, T⟩ := G
  obtain ⟨hd', dp, fr, gd, un⟩ := A
  obtain rfl : hd' = none := hh
  refine wpB_call ?_
  k_dflt (refine' enterCB (binds := [(Str.ofString "words", Value.ref l)]) X T ?k6 ?k7 ?kr ?k9 ?kB ?kD ?_ ?c2 ?c3 ?c4; (case k6 => k_is); (case k7 => k_is); (case kr => (dsimp only at *; omega)); (case k9 => exact BindsTo.of_eq rfl); (case kB => exact rfl); (case kD => decide +kernel); (case c2 => exact rfl); (case c3 => exact rfl); (case c4 => exact rfl))
  intro L h₁ tk cells F N Y
  k_cells Y
  dsimp only at *
  refine wpB_execs_cons (wpB_of ?_)
  k_steps
  rename Fr _ _ _ _ => F1
  rename News _ _ _ (_ :: _) => N1
  refine wpB_execs_cons (wpB_For ?_)
  refine wpB_of ?_
  k_steps
  rename_i oW oT0 dW dT0 lT hA l1 h oT dT
  have hlw : h.IsList l (rs.map Value.ref).toArray := hl.1.at fun o e => F1.keep _ _ e
  have hpl : ps.length = 4 := by rw [← hl.2.length]; exact hlen
  obtain ⟨nI1, nI2, nI3⟩ := new_ne F1 N1
  have hlI : l ≠ h.objs.size := Nat.ne_of_lt (isList_lt hlw)
  have nT := nI3 (lT, _) (.head _)
  have nW := nI3 (L + 1 + 1, _) (.tail _ (.head _))
  have nC := nI3 (L + 1, _) (.tail _ (.tail _ (.head _)))
  refine wpAny_pyIter_list hlw ?_
  dsimp only
  with_unfolding_all refine codeB_forWalk (Walks.list (by rfl) h.objs.size l hlI (rs.map Value.ref).toArray) (RunJ s L h.objs.size ps) ?_ (fun _ => rfl) ?_ ?_ ?_ ?_
  · rintro i h' h'' ⟨m, D, vs, k, o1, o2, F, N, hI, d1, d2, nD, n1, n2⟩ hk
    refine ⟨m, D, vs, k, o1, o2, fr_but F nI1 nI2 hk, news_but N ?_ hk, hI, d1, d2, nD, n1, n2⟩
    intro p hp
    simp only [List.mem_cons, List.not_mem_nil, or_false] at hp
    rcases hp with rfl | rfl | rfl
    · exact nD
    · exact n2
    · exact n1
  · rintro i v h' tk' hi' hv hst ⟨m, D, vs, k, o1, o2, F, N, hI, d1, ⟨ov, d2⟩, nD, n1, n2⟩
    obtain ⟨oI, hoI⟩ := isListIter_of hst.1
    have NI : News s.heap L h' [(h.objs.size, oI), (D, lsObj vs k), (L + 1 + 1, o2), (L + 1, o1)] := fun p hp => by
      rcases List.mem_cons.mp hp with rfl | hp
      · exact ⟨hoI, Ne.symm nI1, nI2⟩
      · exact N p hp
    have hoI' := hoI
    clear N hoI
    rw [List.getElem?_toArray, List.getElem?_map, Option.map_eq_some_iff] at hv
    obtain ⟨r, hr, rfl⟩ := hv
    obtain ⟨⟨a, b⟩, hp, ba, bb, hrr⟩ := Paired.at1 hl.2 i r hr
    dsimp only at ba bb hrr
    refine wpAny_assign_Name (wpAny_storeName_local (by rfl) F.ns (fun h5 hn5 hs5 => ?_) (by rfl))
    have F5 := F.set hn5 hs5
    have N5 := news_same NI hs5
    obtain ⟨ol, hol, -⟩ := id hl.1
    have hol' := F.keep _ _ hol
    clear F NI
    have hr5 : Two h5 r a b := hrr.keeps F5.keep
    obtain ⟨ta, tb, hr5⟩ := hr5
    have G5 := G0.keeps F5.keep
    refine wpB_execs_cons (wpB_Assign_Name (wpB_List (wpB_args_cons (wpB_of ?_))))
    dsimp only
    k_steps
    rename Fr _ _ _ _ => F6
    rename News _ _ _ (_ :: _) => N6
    refine wpB_args_cons (wpB_Call ?_)
    k_steps
    k_dflt (refine' wpB_callWith_fn (K := hd.heap_39 w.params) ?kk ?_; (case kk => k_is))
    k_steps
    rename_i h6 t6 tk6 hb1 hb2 hB
    obtain ⟨ta6, tb6, hr6⟩ := hrr.keeps F6.keep
    refine call_bytes_ints (ns := [(a : Int), (b : Int)]) hr6 (.cons _ _ (.cons _ _ .nil)) (fun n hn => by simp only [List.mem_cons, List.not_mem_nil, or_false] at hn; omega) (by rw [sizeLine_eq]; exact Nat.le_of_ble_eq_true rfl) rfl fun h7 t7 tk7 hk7 => ?_
    have F7 := F6.keeps hk7
    have N7 := N6.grown hk7
    clear F6 N6
    dsimp only
    k_steps
    refine byteswap ?kG ?kr ?kh ?kg _ _ 2 1 _ (by decide) (by decide) ?ks ?kz ?_
    case kG => exact G0.keeps F7.keep
    case kr => show dp + 1 < _; omega
    case kh => rfl
    case kg => exact hg
    case ks => rfl
    case kz => show 2 ≤ 1000; decide
    intro h8 tk8 t8 hk8
    have F8 := F7.keeps hk8
    have N8 := N7.grown hk8
    clear F7 N7
    have e8 : swapF (byteArr [(a : Int), (b : Int)]) 2 1 = #[b.toUInt8, a.toUInt8] := swapTwo a b
    have e9 : (#[(a : Int).toNat.toUInt8, (b : Int).toNat.toUInt8] : Array UInt8) = #[a.toUInt8, b.toUInt8] := rfl
    rw [e8, e9]
    refine wpB_args_nil ?_
    dsimp only
    k_steps
    rename Fr _ _ _ _ => F9
    rename News _ _ _ (_ :: _) => N9
    rename_i W9 h9 l9
    have hc2 : h9.IsCell (L + 1 + 1) ov := ⟨o2, N9.get (by simp), d2⟩
    refine wpAny_storeName_cell (by rfl) (by rfl) (by rfl) hc2 fun h10 hc10 hs10 => ?_
    obtain ⟨o10, ho10, hd10⟩ := hc10
    have F10 := F9.update N9 (o := o2) (by simp) hs10
    have neD : D ≠ L + 1 + 1 := ne_cell (N9.get (o := lsObj vs k) (by simp)) (N9.get (a := L + 1 + 1) (o := o2) (by simp)) d2
    have neW : W9 ≠ L + 1 + 1 := Nat.ne_of_gt l9.2.2.1
    have N10 : News s.heap L h10 [(W9, lsObj [Value.bytes #[a.toUInt8, b.toUInt8] t6, .bytes #[b.toUInt8, a.toUInt8] t8] 0), (h.objs.size, oI), (D, lsObj vs k), (L + 1 + 1, o10), (L + 1, o1)] := fun p hp => by
      simp only [List.mem_cons, List.not_mem_nil, or_false] at hp
      rcases hp with rfl | rfl | rfl | rfl | rfl
      · exact news_one N9 hs10 (by simp) neW
      · exact news_one N9 hs10 (by simp) (Ne.symm n2)
      · exact news_one N9 hs10 (by simp) neD
      · exact ⟨ho10, (N9 (L + 1 + 1, o2) (by simp)).2⟩
      · exact news_one N9 hs10 (by simp) (Nat.ne_of_lt (Nat.lt_succ_self _))
    have G10 := G0.keeps F10.keep
    clear F9 N9 hc2
    have hc1 : h10.IsCell (L + 1) (some (.ref D)) := ⟨o1, N10.get (by simp), d1⟩
    have hcw : h10.IsCell (L + 1 + 1) (some (.ref W9)) := ⟨o10, ho10, hd10⟩
    have hlD : h10.IsList D vs.toArray := ⟨_, N10.get (.tail _ (.tail _ (.head _))), rfl, k, rfl⟩
    have hlW : h10.IsList W9 [Value.bytes #[a.toUInt8, b.toUInt8] t6, .bytes #[b.toUInt8, a.toUInt8] t8].toArray := ⟨_, N10.get (.head _), rfl, 0, rfl⟩
    have hvl : vs.length ≤ 16 := by
      rw [IntsAre.length hI]
      exact totT_le _ (by rw [List.length_take, hpl]; omega)
    refine wpB_execs_cons (wpB_Assign_Name ?_)
    with_unfolding_all refine wpB_ListComp2 (cl := [(Str.ofString "ways", L + 1 + 1)]) (by rfl) (by rfl) (by rfl) (by decide) (by rfl) (by rfl) (by decide) (fun _ _ => rfl) ?_
    refine wpB_of ?_
    with_unfolding_all refine nmC (by rfl) hc1 ?_
    refine ⟨D, vs, W9, _, fun v1 v2 y => ∃ (n : Int) (t : Tok) (bs : Array UInt8) (tb ty : Tok), v1 = .int n t ∧ v2 = .bytes bs tb ∧ y = .int (fedF n (KBw.bInts bs)) ty, rfl, hlD, hlW, by rw [sizeLine_eq]; simp only [List.length_cons, List.length_nil]; omega, by rw [sizeLine_eq]; exact Nat.le_of_ble_eq_true rfl, ?_, ?_, ?_⟩
    · intro C h tk Q hk hq
      with_unfolding_all exact nmC (by rfl) (hcw.keeps hk) hq
    · rintro C v1 v2 h3 tk3 hv1 hv2 ⟨m3, hm3, hx1, hx2⟩ hk3
      obtain ⟨z, hz⟩ := List.mem_iff_getElem?.mp hv1
      obtain ⟨n, tn, rfl, -⟩ := IntsAre.at hI z v1 hz
      obtain ⟨bs, tbs, rfl⟩ : ∃ (bs : Array UInt8) (tv : Tok), v2 = .bytes bs tv := by
        simp only [List.mem_cons, List.not_mem_nil, or_false] at hv2
        rcases hv2 with rfl | rfl
        · exact ⟨_, _, rfl⟩
        · exact ⟨_, _, rfl⟩
      have G3 := G10.keeps hk3
      obtain ⟨X3, mean3, mg3, mb3, T3⟩ := id G3
      refine elt2_any ?_
      k_steps
      refine law_fed ?kG ?kr ?kh _ _ _ _ ?_
      case kG => exact G3
      case kr => show dp + 1 + 1 < _; omega
      case kh => rfl
      intro h4 tk4 t4 hk4
      exact ⟨h4, tk4, rfl, hk4, n, tn, bs, tbs, t4, rfl, rfl, rfl⟩
    · intro D11 h11 tk11 k11 zss hn11 hD11 hP11 hk11
      have nDI : D11 ≠ h.objs.size := Ne.symm (not_fresh (h' := h) hn11 (N10.get (a := h.objs.size) (o := oI) (by simp)))
      have F11 := F10.keeps hk11
      have N11 := newsAdd F10 N10 hk11 hn11 hD11
      clear F10 N10
      have neC : D11 ≠ L + 1 := ne_cell (N11.get (.head _)) (N11.get (a := L + 1) (o := o1) (by simp)) d1
      refine wpAny_storeName_cell (by rfl) (by rfl) (by rfl) (hc1.keeps hk11) fun h12 hc12 hs12 => ?_
      obtain ⟨o12, ho12, hd12⟩ := hc12
      have F12 := F11.update N11 (o := o1) (by simp) hs12
      refine wpB_of (wpAny_execs_nil ?_)
      refine ⟨rfl, h12, _, rfl, ⟨_, D11, zss.flatten, k11, o12, o10, F12, fun p hp => ?_, ?_, hd12, ⟨_, hd10⟩, ?_, n1, n2⟩, ?_⟩
      · simp only [List.mem_cons, List.not_mem_nil, or_false] at hp
        rcases hp with rfl | rfl | rfl
        · exact news_one N11 hs12 (by simp) neC
        · exact news_one N11 hs12 (by simp) (Ne.symm (Nat.ne_of_lt (Nat.lt_succ_self _)))
        · exact ⟨ho12, (N11 (L + 1, o1) (by simp)).2⟩
      · rw [List.take_succ, hp]
        unfold totT
        rw [List.foldl_append]
        exact flat_ints _ _ _ _ hP11 hI
      · exact nDI
      · intro x hx o ho
        simp only [List.mem_cons, List.not_mem_nil, or_false] at hx
        rcases hx with rfl | rfl
        · rw [hoI'] at ho
          rw [← ho]
          exact (news_one N11 hs12 (p := (h.objs.size, oI)) (by simp) (Ne.symm n1)).1
        · rw [hol'] at ho
          rw [← ho]
          exact F12.keep _ _ hol
  · rintro h' tk' ⟨m, D, vs, k, o1, o2, F, N, hI, d1, ⟨ov, d2⟩, nD, n1, n2⟩
    have e4 : (rs.map Value.ref).toArray.size = ps.length := by rw [List.size_toArray, List.length_map, hlen, hpl]
    rw [e4, List.take_length] at hI
    have hc1 : h'.IsCell (L + 1) (some (.ref D)) := ⟨o1, N.get (by simp), d1⟩
    have hgD : h'.get? D = some (lsObj vs k) := N.get (.head _)
    have hvl : (totT ps).length ≤ 16 := totT_le _ (by omega)
    have hvl2 := IntsAre.length hI
    refine wpB_execs_cons (wpB_Return ?_)
    with_unfolding_all refine wpB_ListComp (cl := [(Str.ofString "totals", L + 1)]) (by rfl) (by rfl) (by decide) ?_
    refine wpB_of ?_
    with_unfolding_all refine nmC (by rfl) hc1 ?_
    with_unfolding_all refine comp_list true (by rfl) ⟨_, hgD, rfl, k, rfl⟩ (by rw [sizeLine_eq]; omega) (TgL (Str.ofString "total")) (fun v y own => own = [] ∧ ∃ (n : Int) (t ty : Tok), v = .int n t ∧ y = .int ((totT ps).idxOf n : Nat) ty) (fun _ _ _ _ _ _ h => wpAny_pure h) (tg_local (by rfl) (by rfl)) (fun _ _ _ tk₃ _ _ _ => wpAny_tests_nil ⟨rfl, tk₃, rfl⟩) ?_ ?_
    · rintro C v h₃ tk₃ hC hv - ⟨m, hm, hmx⟩ hk
      obtain ⟨z, hz⟩ := List.mem_iff_getElem?.mp hv
      obtain ⟨n, tn, rfl, hn⟩ := IntsAre.at hI z v hz
      have c3 : h₃.IsCell (L + 1) (some (.ref D)) := hc1.keeps hk
      have hg3 := hk _ _ hgD
      refine elt_any ?_
      k_steps
      refine method_ls PySem.F.slot_list_index PySem.F.type_list_index hg3 ?_
      k_steps
      refine index_ints hg3 hI (by omega) (List.mem_of_getElem? hn) ?_
      exact EltEnd.plain (fun _ _ e => e) ⟨rfl, n, tn, _, rfl, rfl⟩
    · intro D10 h10 tk10 k10 rows10 e10
      refine hQ _ _ _ _ _ (fun b o e => e10.keep _ _ (F.keep _ _ e)) (old_none F.keep e10.new) e10.lst ?_
      refine ints_map (fun t => ((totT ps).idxOf t : Int)) hI (by have z := e10.len; simpa using z) fun i p hp => ?_
      obtain ⟨v, hv, -, n, t, ty, e1, e2⟩ := e10.each i p hp
      exact ⟨n, t, ty, by rw [hv, e1], e2⟩
  · exact ⟨⟨_, Heap.get?_push_size _ rfl, rfl, rfl⟩, hlw.at fun o e => Heap.get?_push_of_some _ e⟩
  · refine ⟨_, lT, [Value.int 4294967295 _], 0, oT, oW, F1.keeps fun b o e => Heap.get?_push_of_some _ e, N1.grown fun b o e => Heap.get?_push_of_some _ e, .cons _ _ .nil, dT, ⟨_, dW⟩, nT, nC, nW⟩
end Mine
end

section
open PySem PySem.W PyProof.Rows PySem.Calls
set_option maxRecDepth 100000
namespace Mine
theorem dummy6 : (PySem.Challenge.rw_pe0015_01, hd.heap_39) = (PySem.Challenge.rw_pe0015_01, hd.heap_39) := by
  k_fill
  rfl
local macro_rules | `(tactic| walk_at "eval Name") => `(tactic| (with_reducible show wpAny _ _ (eval (Expr.Name _ _) (cenvX _ _ _ _)) _ _ _; first
  | with_unfolding_all refine nmL (by with_reducible assumption) (by with_reducible assumption) ?_
  | with_unfolding_all refine nmC (by rfl) (by with_reducible assumption) ?_
  | (k_dflt (refine' nmG ?X ?T ?e ?_ ?a ?b ?c ?d; (case X => with_reducible assumption); (case T => with_reducible assumption); (case a => rfl); (case b => rfl); (case c => rfl); (case d => decide); (case e => k_is)))
  | (k_dflt (refine' nmB ?X ?T ?e ?v ?n ?_ ?a ?a2 ?b ?c ?d; (case X => with_reducible assumption); (case T => with_reducible assumption); (case a => rfl); (case a2 => rfl); (case b => rfl); (case c => rfl); (case d => decide); (case e => k_is); (case v => boot_fast); (case n => decide)))))
def unlikeP (ps : List (Nat × Nat)) : List Int := ps.map fun p => Builtin.bitXor (p.1 : Nat) (p.2 : Nat)
def blind0 (u : List Int) : List Int := if u = [223, 205, 204, 99] then [0, 15] else [0]
def blindS (u : List Int) (bl : List Int) (k : Nat) : List Int := bl ++ (if u.getD k 0 = 0 then bl.map (fun one => one + 2 ^ (3 - k)) else [])
def blindT (u : List Int) (n : Nat) : List Int := (List.range n).foldl (blindS u) (blind0 u)
/-- between the statements of _law_told -/
def ToldJ (s : Shared) (L : Addr) (u bl : List Int) (h : Heap) : Prop :=
  ∃ (m : Str → Option Value) (B U : Addr) (vs us : List Value) (k ku : Nat) (o1 o2 o3 : Obj), Fr s.heap L h m ∧ News s.heap L h [(B, lsObj vs k), (U, lsObj us ku), (L + 1, o1), (L + 1 + 1, o2), (L + 1 + 1 + 1, o3)] ∧ IntsAre vs bl ∧ IntsAre us u ∧
    o1.data = .cell (some (.ref U)) ∧ o2.data = .cell (some (.ref B)) ∧ ∃ ov, o3.data = .cell ov
theorem two_inj {h : Heap} {r : Addr} {a b : Value} {x y : Value} (h1 : h.IsList r #[a, b]) (h2 : h.IsList r [x, y].toArray) : a = x ∧ b = y := by
  obtain ⟨o, ho, -, n, hd⟩ := h1
  obtain ⟨o', ho', -, n', hd'⟩ := h2
  rw [ho] at ho'
  cases ho'
  rw [hd] at hd'
  simp only [Data.seq.injEq, Array.mk.injEq, List.cons.injEq, and_true] at hd'
  exact hd'.1
theorem Two.inj {h : Heap} {r : Addr} {a b a' b' : Int} (x : Two h r a b) (y : Two h r a' b') : a = a' ∧ b = b' := by
  obtain ⟨ta, tb, h1⟩ := x
  obtain ⟨ta', tb', h2⟩ := y
  obtain ⟨e1, e2⟩ := two_inj h1 h2
  cases e1
  cases e2
  exact ⟨rfl, rfl⟩
theorem unlike_ints {h : Heap} : ∀ {rs : List Addr} {ps : List (Nat × Nat)} {rows : List (Value × List (Addr × Obj))}, Paired (fun r p => p.1 < 256 ∧ p.2 < 256 ∧ Two h r (p.1 : Nat) (p.2 : Nat)) rs ps → rows.length = rs.length →
    (∀ (i : Nat) (p : Value × List (Addr × Obj)), rows[i]? = some p → ∃ r a b ty, rs[i]? = some r ∧ Two h r a b ∧ p.1 = .int (Builtin.bitXor a b) ty) → IntsAre (rows.map (·.1)) (unlikeP ps)
  | [], _, [], q, _, _ => by
    cases q
    exact .nil
  | r :: rs, _, p :: rows, q, l, hr => by
    cases q with
    | cons q1 q2 =>
    obtain ⟨r', a, b, ty, e1, e2, e3⟩ := hr 0 p rfl
    simp only [List.getElem?_cons_zero, Option.some.injEq] at e1
    cases e1
    obtain ⟨rfl, rfl⟩ := q1.2.2.inj e2
    rw [List.map_cons, e3]
    exact .cons _ _ (unlike_ints q2 (by simpa using l) fun i p hp => by simpa using hr (i + 1) p (by simpa using hp))
theorem ints_at : ∀ {us : List Value} {u : List Int}, IntsAre us u → ∀ i, i < u.length → ∃ t, us[i]? = some (.int (u.getD i 0) t)
  | _, _, .nil, i, h => by simp at h
  | _, _, .cons n t r, 0, _ => ⟨t, rfl⟩
  | _, _, .cons n t r, i + 1, h => by
    obtain ⟨t', e⟩ := ints_at r i (by simpa using h)
    exact ⟨t', by simpa using e⟩
theorem blindS_le (u bl : List Int) (k : Nat) : (blindS u bl k).length ≤ 2 * bl.length := by
  unfold blindS
  rw [List.length_append]
  split
  · rw [List.length_map]; omega
  · rw [List.length_nil]; omega
theorem blindT_succ (u : List Int) (n : Nat) : blindT u (n + 1) = blindS u (blindT u n) n := by
  unfold blindT
  rw [List.range_succ, List.foldl_append]
  rfl
theorem blindT_le2 (u : List Int) : ∀ n, (blindT u n).length ≤ 2 * 2 ^ n
  | 0 => by
    show (blind0 u).length ≤ 2
    unfold blind0
    split <;> simp
  | n + 1 => by
    rw [blindT_succ, Nat.pow_succ]
    have h1 := blindS_le u (blindT u n) n
    have h2 := blindT_le2 u n
    omega
theorem blindT_le (u : List Int) (n : Nat) (h : n < 5) : (blindT u n).length ≤ 32 := by
  have h1 := blindT_le2 u n
  have h2 : 2 ^ n ≤ 2 ^ 4 := Nat.pow_le_pow_right (by decide) (by omega)
  omega
def TestEnd (s : Shared) (h₃ : Heap) (pb : Bool) (ok : Bool) (s₄ : Shared) : Prop := ok = pb ∧ ∃ tk, s₄ = { s with heap := h₃, toks := tk }
theorem test_any {s : Shared} {h₃ : Heap} {pb : Bool} {M : Model} {A : Around} {t : Sem Bool} {s' : Shared} (h : wpAny M A t (TestEnd s h₃ pb) (fun _ _ => False) s') :
    wpAny M A t (fun ok s₄ => ok = pb ∧ ∃ tk, s₄ = { s with heap := h₃, toks := tk }) (fun _ _ => False) s' := h
/-- the least of the choices that come to the same sum -/
def IsMin (u : List Int) (c : Nat) (m : Int) : Prop := m ∈ (blindT u 4).map (fun one => Builtin.bitXor c one) ∧ ∀ a ∈ (blindT u 4).map (fun one => Builtin.bitXor c one), m ≤ a
theorem blindT_pos (u : List Int) : ∀ n, 0 < (blindT u n).length
  | 0 => by
    show 0 < (blind0 u).length
    unfold blind0
    split <;> simp
  | n + 1 => by
    rw [blindT_succ]
    unfold blindS
    rw [List.length_append]
    have := blindT_pos u n
    omega
theorem ints_choose : ∀ (rows : List (Value × List (Addr × Obj))) (P : Nat → Int → Prop), (∀ (i : Nat) (r : Value × List (Addr × Obj)), rows[i]? = some r → ∃ M t, r.1 = .int M t ∧ P i M) →
    ∃ ms, IntsAre (rows.map (·.1)) ms ∧ ms.length = rows.length ∧ ∀ (c : Nat) m, ms[c]? = some m → P c m
  | [], _, _ => ⟨[], .nil, rfl, fun c m h => by simp at h⟩
  | r :: rows, P, h => by
    obtain ⟨ms, h1, h2, h3⟩ := ints_choose rows (fun i => P (i + 1)) fun i r hr => h (i + 1) r (by simpa using hr)
    obtain ⟨M, t, e, hP⟩ := h 0 r rfl
    refine ⟨M :: ms, by rw [List.map_cons, e]; exact .cons _ _ h1, by simp [h2], fun c m hm => ?_⟩
    cases c with
    | zero =>
      simp only [List.getElem?_cons_zero, Option.some.injEq] at hm
      rw [← hm]; exact hP
    | succ c => exact h3 c m (by simpa using hm)
/-- a fact that the walk shall not touch -/
def Hid (P : Prop) : Prop := P
theorem toldJ_mk {s : Shared} {L : Addr} {u bl : List Int} {h : Heap} {m : Str → Option Value} {B U : Addr} {vs us : List Value} {k ku : Nat} {o1 o2 o3 : Obj} (F : Fr s.heap L h m)
    (n1 : h.get? B = some (lsObj vs k) ∧ B ≠ L ∧ s.heap.get? B = none) (n2 : h.get? U = some (lsObj us ku) ∧ U ≠ L ∧ s.heap.get? U = none) (n3 : h.get? (L + 1) = some o1 ∧ L + 1 ≠ L ∧ s.heap.get? (L + 1) = none)
    (n4 : h.get? (L + 1 + 1) = some o2 ∧ L + 1 + 1 ≠ L ∧ s.heap.get? (L + 1 + 1) = none) (n5 : h.get? (L + 1 + 1 + 1) = some o3 ∧ L + 1 + 1 + 1 ≠ L ∧ s.heap.get? (L + 1 + 1 + 1) = none) (hv : IntsAre vs bl) (hu : IntsAre us u)
    (d1 : o1.data = .cell (some (.ref U))) (d2 : o2.data = .cell (some (.ref B))) (d3 : ∃ ov, o3.data = .cell ov) : ToldJ s L u bl h :=
  ⟨m, B, U, vs, us, k, ku, o1, o2, o3, F, fun p hp => by
    simp only [List.mem_cons, List.not_mem_nil, or_false] at hp
    rcases hp with rfl | rfl | rfl | rfl | rfl
    · exact n1
    · exact n2
    · exact n3
    · exact n4
    · exact n5, hv, hu, d1, d2, d3⟩
def ToldEnd (s : Shared) (L : Addr) (u bl : List Int) (f : Flow) (s' : Shared) : Prop := f = .next ∧ ∃ h tk, s' = { s with heap := h, toks := tk } ∧ ToldJ s L u bl h
def ToldL (s : Shared) (L I : Addr) (u bl : List Int) (h : Heap) : Prop :=
  ∃ (m : Str → Option Value) (B U : Addr) (vs us : List Value) (k ku : Nat) (o1 o2 o3 : Obj), Fr s.heap L h m ∧ News s.heap L h [(B, lsObj vs k), (U, lsObj us ku), (L + 1, o1), (L + 1 + 1, o2), (L + 1 + 1 + 1, o3)] ∧ IntsAre vs bl ∧ IntsAre us u ∧
    o1.data = .cell (some (.ref U)) ∧ o2.data = .cell (some (.ref B)) ∧ (∃ ov, o3.data = .cell ov) ∧ B ≠ I ∧ U ≠ I ∧ L + 1 ≠ I ∧ L + 1 + 1 ≠ I ∧ L + 1 + 1 + 1 ≠ I
set_option maxHeartbeats 4000000 in
theorem law_told {w : World} {A : Around} {s : Shared} {Q E : Value → Shared → Prop}
    (G : Gd w s.heap) (hroom : A.depth + 2 < recursionLimit) (hh : A.handled = none) (hun : A.units + 128 < cLine)
    (l : Addr) (rs : List Addr) (ps : List (Nat × Nat)) (hl : WordsAt s.heap l rs ps) (hlen : rs.length = 4)
    (hQ : ∀ h' tk D k us ms, Kp s.heap h' → s.heap.get? D = none → h'.get? D = some (lsObj us k) → IntsAre us ms → ms.length = 16 →
      (∀ (c : Nat) m, ms[c]? = some m → IsMin (unlikeP ps) c m) → Q (.ref D) { s with heap := h', toks := tk }) :
    wpAny (model PySem.Challenge.pw_pe0015_01 w) A (call (.ref 50) [.ref l]) Q E s := by
  have G0 := G
  obtain ⟨X, mean, mg, mb, T⟩ := G
  obtain ⟨hd', dp, fr, gd, un⟩ := A
  obtain rfl : hd' = none := hh
  refine wpAny_call ?_
  k_dflt (refine' enterC (binds := [(Str.ofString "words", Value.ref l)]) X T ?k6 ?k7 ?kr ?k9 ?kB ?kD ?_ ?c2 ?c3 ?c4; (case k6 => k_is); (case k7 => k_is); (case kr => (dsimp only at *; omega)); (case k9 => exact BindsTo.of_eq rfl); (case kB => exact rfl); (case kD => decide +kernel); (case c2 => exact rfl); (case c3 => exact rfl); (case c4 => exact rfl))
  intro L h₁ tk cells F N Y
  k_cells Y
  dsimp only at *
  rename_i oK oB oU dK dB dU
  have hl1 : WordsAt h₁ l rs ps := hl.keeps F.keep
  have hsz : (rs.map Value.ref).length ≤ sizeLine := by rw [List.length_map, hlen, sizeLine_eq]; exact Nat.le_of_ble_eq_true rfl
  have hrow : ∀ v ∈ rs.map Value.ref, ∃ r a b, v = Value.ref r ∧ h₁.IsList r #[a, b] := by
    intro v hv
    obtain ⟨r, hr, rfl⟩ := List.mem_map.mp hv
    obtain ⟨z, hz⟩ := List.mem_iff_getElem?.mp hr
    obtain ⟨p, -, -, -, ta, tb, hx⟩ := Paired.at1 hl1.2 z r hz
    exact ⟨r, _, _, rfl, hx⟩
  refine wpAny_of_wpB (wpB_execs_cons (wpB_Assign_Name ?_))
  with_unfolding_all refine wpB_ListComp (cl := []) (by rfl) (by rfl) (by decide) ?_
  refine wpB_of ?_
  k_steps
  with_unfolding_all refine comp_list true (by rfl) hl1.1 hsz (TgP h₁ (Str.ofString "one") (Str.ofString "two")) (fun v y own => own = [] ∧ ∃ r a b ty, v = Value.ref r ∧ Two h₁ r a b ∧ y = .int (Builtin.bitXor a b) ty) (lt_pair fun v hv => by obtain ⟨r, a, b, e, -⟩ := hrow v hv; exact ⟨r, e⟩) (tg_pair (by rfl) (by rfl) (by rfl) (by decide) (by rfl) hrow) (fun _ _ _ tk₃ _ _ _ => wpAny_tests_nil ⟨rfl, tk₃, rfl⟩) ?_ ?_
  · rintro C v h₃ tk₃ hC hv - ⟨r, a, b, m, rfl, hr, hm, hx1, hx2⟩ hk
    obtain ⟨r', hr', er⟩ := List.mem_map.mp hv
    cases er
    obtain ⟨z, hz⟩ := List.mem_iff_getElem?.mp hr'
    obtain ⟨p, -, -, -, ta, tb, hx⟩ := Paired.at1 hl1.2 z r hz
    obtain ⟨rfl, rfl⟩ := two_inj hr hx
    refine elt_any ?_
    clear hl1 hrow hr
    k_steps
    exact EltEnd.plain (fun _ _ e => e) ⟨rfl, r, _, _, _, rfl, ⟨ta, tb, hx⟩, rfl⟩
  · intro U h2 tk2 ku rows2 e2
    have F2 := F.keeps e2.keep
    have N2 := newsAdd F N e2.keep e2.new e2.lst
    have hU := unlike_ints hl1.2 (by simpa using e2.len) fun i p hp => by
      obtain ⟨v, hv, -, r, a, b, ty, e, ht, ey⟩ := e2.each i p hp
      rw [List.getElem?_map, Option.map_eq_some_iff] at hv
      obtain ⟨r', h1, h2⟩ := hv
      rw [← h2] at e
      cases e
      exact ⟨r, a, b, ty, h1, ht, ey⟩
    clear e2 F N
    try dsimp only at F2 N2
    generalize rows2.map (·.1) = us at N2 hU
    generalize hup : unlikeP ps = u at hU hQ
    refine wpAny_storeName_cell (by rfl) (by rfl) (by rfl) (v₀ := _) ⟨oU, N2.get (by simp), dU⟩ fun h3 hc3 hs3 => ?_
    obtain ⟨oU3, hoU3, hdU3⟩ := hc3
    have F3 := F2.update N2 (o := oU) (by simp) hs3
    have neU : U ≠ L + 1 := ne_cell (N2.get (.head _)) (N2.get (a := L + 1) (o := oU) (by simp)) dU
    have N3 : News s.heap L h3 [(U, lsObj us ku), (L + 1 + 1 + 1, oK), (L + 1 + 1, oB), (L + 1, oU3)] := fun p hp => by
      simp only [List.mem_cons, List.not_mem_nil, or_false] at hp
      rcases hp with rfl | rfl | rfl | rfl
      · exact news_one N2 hs3 (by simp) neU
      · exact news_one N2 hs3 (by simp) (Ne.symm (Nat.ne_of_lt (by omega)))
      · exact news_one N2 hs3 (by simp) (Ne.symm (Nat.ne_of_lt (by omega)))
      · exact ⟨hoU3, (N2 (L + 1, oU) (by simp)).2⟩
    clear F2 N2 hs3 dU
    try dsimp only at F3
    try dsimp only
    refine wpB_execs_cons (wpB_mono (Q := ToldEnd s L u (blind0 u)) (E := fun _ _ => False) ?_ (fun f s' hx => ?_) (fun _ _ x => x))
    · refine wpB_of ?_
      k_steps
      · rename Fr _ _ _ _ => F4
        rename News _ _ _ (_ :: _) => N4
        rename_i ha B h4 l4
        refine wpAny_storeName_cell (by rfl) (by rfl) (by rfl) (v₀ := _) ⟨oB, N4.get (by simp), dB⟩ fun h5 hc5 hs5 => ?_
        obtain ⟨oB5, hoB5, hdB5⟩ := hc5
        have F5 := F4.update N4 (o := oB) (by simp) hs5
        have neU2 : U ≠ L + 1 + 1 := ne_cell (N4.get (a := U) (o := lsObj us ku) (by simp)) (N4.get (a := L + 1 + 1) (o := oB) (by simp)) dB
        have neB : B ≠ L + 1 + 1 := Nat.ne_of_gt l4.2.2.2.1
        refine ⟨rfl, h5, _, rfl, toldJ_mk F5 (news_one N4 hs5 (p := (B, _)) (.head _) neB) (news_one N4 hs5 (p := (U, lsObj us ku)) (by simp) neU2) (news_one N4 hs5 (p := (L + 1, oU3)) (by simp) (Nat.ne_of_lt (Nat.lt_succ_self _)))
          ⟨hoB5, (N4 (L + 1 + 1, oB) (by simp)).2⟩ (news_one N4 hs5 (p := (L + 1 + 1 + 1, oK)) (by simp) (Nat.ne_of_gt (Nat.lt_succ_self _))) ?_ hU hdU3 hdB5 ⟨_, dK⟩⟩
        unfold blind0
        rw [if_pos ha]
        exact IntsAre.cons _ _ (.cons _ _ .nil)
      · rename Fr _ _ _ _ => F4
        rename News _ _ _ (_ :: _) => N4
        rename_i ha B h4 l4
        refine wpAny_storeName_cell (by rfl) (by rfl) (by rfl) (v₀ := _) ⟨oB, N4.get (by simp), dB⟩ fun h5 hc5 hs5 => ?_
        obtain ⟨oB5, hoB5, hdB5⟩ := hc5
        have F5 := F4.update N4 (o := oB) (by simp) hs5
        have neU2 : U ≠ L + 1 + 1 := ne_cell (N4.get (a := U) (o := lsObj us ku) (by simp)) (N4.get (a := L + 1 + 1) (o := oB) (by simp)) dB
        have neB : B ≠ L + 1 + 1 := Nat.ne_of_gt l4.2.2.2.1
        refine ⟨rfl, h5, _, rfl, toldJ_mk F5 (news_one N4 hs5 (p := (B, _)) (.head _) neB) (news_one N4 hs5 (p := (U, lsObj us ku)) (by simp) neU2) (news_one N4 hs5 (p := (L + 1, oU3)) (by simp) (Nat.ne_of_lt (Nat.lt_succ_self _)))
          ⟨hoB5, (N4 (L + 1 + 1, oB) (by simp)).2⟩ (news_one N4 hs5 (p := (L + 1 + 1 + 1, oK)) (by simp) (Nat.ne_of_gt (Nat.lt_succ_self _))) ?_ hU hdU3 hdB5 ⟨_, dK⟩⟩
        unfold blind0
        rw [if_neg ha]
        exact IntsAre.cons _ _ .nil
    · obtain ⟨rfl, h6, tk6, rfl, m6, B, U', vs, us', k, ku', o1, o2, o3, F6, N6, hv6, hu6, d1, d2, ov, d3⟩ := hx
      have H6 : Hid (IntsAre vs (blind0 u) ∧ IntsAre us' u) := ⟨hv6, hu6⟩
      clear F3 N3 hdU3 hU hoU3
      dsimp only
      refine wpB_execs_cons (wpB_For ?_)
      refine wpB_of ?_
      k_steps
      rename IsRange _ _ _ _ _ _ _ _ => rg
      rename Fr _ _ _ _ => F7
      rename News _ _ _ (_ :: _) => N7
      rename_i h7 tk7 t7 u7 v7 hk7
      obtain ⟨nI1, nI2, nI3⟩ := new_ne F7 N7
      have q1 := nI3 _ (.head _)
      have q2 := nI3 _ (.tail _ (.head _))
      have q3 := nI3 _ (.tail _ (.tail _ (.head _)))
      have q4 := nI3 _ (.tail _ (.tail _ (.tail _ (.head _))))
      have q5 := nI3 _ (.tail _ (.tail _ (.tail _ (.tail _ (.head _)))))
      refine wpAny_pyIter_range rg (by decide) ?_
      try dsimp only
      with_unfolding_all refine codeB_forWalk (Walks.range (by rfl) h7.objs.size 0 1 4).bound (fun i h => ToldL s L h7.objs.size u (blindT u i) h) ?_ (fun _ => rfl) ?_ ?_ ?_ ?_
      · rintro i h' h'' ⟨m, B, U, vs, us, k, ku, o1, o2, o3, F, N, hv, hu, d1, d2, d3, p1, p2, p3, p4, p5⟩ hk
        refine ⟨m, B, U, vs, us, k, ku, o1, o2, o3, fr_but F nI1 nI2 hk, news_but N ?_ hk, hv, hu, d1, d2, d3, p1, p2, p3, p4, p5⟩
        intro p hp
        simp only [List.mem_cons, List.not_mem_nil, or_false] at hp
        rcases hp with rfl | rfl | rfl | rfl | rfl
        · exact p1
        · exact p2
        · exact p3
        · exact p4
        · exact p5
      · rintro i v h' tk' hi' ⟨-, tv, rfl⟩ hst ⟨m, B, U, vs, us, k, ku, o1, o2, o3, F, N, hv, hu, d1, d2, ⟨ov, d3⟩, p1, p2, p3, p4, p5⟩
        rw [show (0 : Int) + (i : Int) * 1 = (i : Int) from by omega]
        refine wpAny_assign_Name (wpAny_storeName_cell (by rfl) (by rfl) (by rfl) (v₀ := _) ⟨o3, N.get (by simp), d3⟩ fun h8 hc8 hs8 => ?_)
        obtain ⟨o8, ho8, hd8⟩ := hc8
        have F8 := F.update N (o := o3) (by simp) hs8
        have hoI8 := hs8.extBut _ _ (Ne.symm p5) hst
        have nB : B ≠ L + 1 + 1 + 1 := ne_cell (N.get (.head _)) (N.get (a := L + 1 + 1 + 1) (o := o3) (by simp)) d3
        have nU : U ≠ L + 1 + 1 + 1 := ne_cell (N.get (.tail _ (.head _))) (N.get (a := L + 1 + 1 + 1) (o := o3) (by simp)) d3
        have N8 : News s.heap L h8 [(B, lsObj vs k), (h7.objs.size, _), (U, lsObj us ku), (L + 1, o1), (L + 1 + 1, o2), (L + 1 + 1 + 1, o8)] := fun p hp => by
          simp only [List.mem_cons, List.not_mem_nil, or_false] at hp
          rcases hp with rfl | rfl | rfl | rfl | rfl | rfl
          · exact news_one N hs8 (by simp) nB
          · exact ⟨hoI8, Ne.symm nI1, nI2⟩
          · exact news_one N hs8 (by simp) nU
          · exact news_one N hs8 (by simp) (Nat.ne_of_lt (by omega))
          · exact news_one N hs8 (by simp) (Nat.ne_of_lt (by omega))
          · exact ⟨ho8, (N (L + 1 + 1 + 1, o3) (by simp)).2⟩
        clear F N hs8
        have hcU : h8.IsCell (L + 1) (some (.ref U)) := ⟨o1, N8.get (by simp), d1⟩
        have hcB : h8.IsCell (L + 1 + 1) (some (.ref B)) := ⟨o2, N8.get (by simp), d2⟩
        have hcK : h8.IsCell (L + 1 + 1 + 1) (some (.int i tv)) := ⟨o8, ho8, hd8⟩
        have hgB : h8.get? B = some (lsObj vs k) := N8.get (.head _)
        have hgU : h8.get? U = some (lsObj us ku) := N8.get (.tail _ (.tail _ (.head _)))
        have hul : u.length = 4 := by
          rw [← hup, unlikeP, List.length_map, ← hl.2.length]
          exact hlen
        obtain ⟨tu, hux⟩ := ints_at hu i (by omega)
        have hvl : vs.length ≤ 32 := by
          rw [IntsAre.length hv]
          exact blindT_le u i (by omega)
        refine wpB_execs_cons (wpB_Assign_Name (wpB_BinOp ?_))
        refine wpB_of ?_
        with_unfolding_all refine nmC (by rfl) hcB ?_
        with_unfolding_all refine wpB_ListComp (cl := [(Str.ofString "unlike", L + 1), (Str.ofString "k", L + 1 + 1 + 1)]) (by rfl) (by rfl) (by decide) ?_
        refine wpB_of ?_
        with_unfolding_all refine nmC (by rfl) hcB ?_
        with_unfolding_all refine comp_list (decide (u.getD i 0 = 0)) (by rfl) ⟨_, hgB, rfl, k, rfl⟩ (by rw [sizeLine_eq]; omega) (TgL (Str.ofString "one")) (fun v y own => own = [] ∧ ∃ (n : Int) (t ty : Tok), v = .int n t ∧ y = .int (n + 2 ^ (3 - i)) ty) (fun _ _ _ _ _ _ h => wpAny_pure h) (tg_local (by rfl) (by rfl)) ?_ ?_ ?_
        · rintro C v h₃ tk₃ hv3 ⟨m3, hm3, hmx⟩ hk
          have c1 : h₃.IsCell (L + 1) (some (.ref U)) := hcU.keeps hk
          have c3 : h₃.IsCell (L + 1 + 1 + 1) (some (.int i tv)) := hcK.keeps hk
          have hU3 : h₃.IsList U us.toArray := ⟨_, hk _ _ hgU, rfl, ku, rfl⟩
          refine wpAny_tests_one (test_any ?_)
          clear hcU hcB hcK hu hv hgU hgB
          k_steps
          with_unfolding_all refine item_ls hU3 (by omega) (by omega) (by rw [Int.toNat_natCast]; exact hux) ?_
          k_steps
          exact ⟨rfl, _, rfl⟩
        · rintro C v h₃ tk₃ hC hv3 - ⟨m3, hm3, hmx⟩ hk
          obtain ⟨z, hz⟩ := List.mem_iff_getElem?.mp hv3
          obtain ⟨n, tn, rfl, hn⟩ := IntsAre.at hv z v hz
          have c3 : h₃.IsCell (L + 1 + 1 + 1) (some (.int i tv)) := hcK.keeps hk
          refine elt_any ?_
          clear hcU hcB hcK hu hv hgU hgB
          k_steps
          have e2 : ((3 : Int) - (i : Int)).toNat = 3 - i := by omega
          exact EltEnd.plain (fun _ _ e => e) ⟨rfl, n, tn, _, rfl, by rw [e2]⟩
        · intro D9 h9 tk9 k9 rows9 e9
          have hz9 : IntsAre (rows9.map (·.1)) (if u.getD i 0 = 0 then (blindT u i).map (fun one => one + 2 ^ (3 - i)) else []) := by
            by_cases hc : u.getD i 0 = 0
            · rw [if_pos hc]
              have hl9 := e9.len
              rw [decide_eq_true hc, if_pos rfl] at hl9
              refine ints_map (fun one => one + 2 ^ (3 - i)) hv hl9 fun j p hp => ?_
              obtain ⟨v, hv9, -, n, t, ty, e1, e2⟩ := e9.each j p hp
              exact ⟨n, t, ty, by rw [hv9, e1], e2⟩
            · rw [if_neg hc]
              have hl9 := e9.len
              rw [decide_eq_false hc, if_neg (by decide)] at hl9
              rw [List.length_eq_zero_iff.mp hl9]
              exact .nil
          have F9 := F8.keeps e9.keep
          have N9 := newsAdd F8 N8 e9.keep e9.new e9.lst
          clear e9 F8 N8 hgB hgU
          generalize rows9.map (·.1) = zs at hz9 N9
          try dsimp only
          have hz10 : (blindT u i).length + (if u.getD i 0 = 0 then (blindT u i).map (fun one => one + 2 ^ (3 - i)) else []).length ≤ sizeLine := by
            rw [sizeLine_eq]
            have hb := IntsAre.length hv
            split
            · rw [List.length_map]; omega
            · rw [List.length_nil]; omega
          refine kmk_add_ints F9 N9 ⟨_, N9.get (.tail _ (.head _)), rfl, k, rfl⟩ ⟨_, N9.get (.head _), rfl, k9, rfl⟩ hv hz9 (fun D10 us10 h10 F10 N10 l10 hI10 => ?_) hz10
          refine wpAny_storeName_cell (by rfl) (by rfl) (by rfl) (v₀ := _) ⟨o2, N10.get (by simp), d2⟩ fun h11 hc11 hs11 => ?_
          obtain ⟨o11, ho11, hd11⟩ := hc11
          have F11 := F10.update N10 (o := o2) (by simp) hs11
          have r1 : h7.objs.size < D10 := l10 (h7.objs.size, _) (.tail _ (.tail _ (.head _)))
          have r2 : L + 1 + 1 < D10 := l10 (L + 1 + 1, o2) (by simp)
          have nU2 : U ≠ L + 1 + 1 := ne_cell (vs := us) (k := ku) (N10.get (by simp)) (N10.get (a := L + 1 + 1) (o := o2) (by simp)) d2
          refine wpB_of (wpAny_execs_nil ?_)
          refine ⟨rfl, h11, _, rfl, ⟨m, D10, U, us10, us, 0, ku, o1, o11, o8, F11, fun p hp => ?_, ?_, hu, d1, hd11, ⟨_, hd8⟩, Nat.ne_of_gt r1, p2, p3, p4, p5⟩, ?_⟩
          · simp only [List.mem_cons, List.not_mem_nil, or_false] at hp
            rcases hp with rfl | rfl | rfl | rfl | rfl
            · exact news_one N10 hs11 (.head _) (Nat.ne_of_gt r2)
            · exact news_one N10 hs11 (by simp) nU2
            · exact news_one N10 hs11 (by simp) (Nat.ne_of_lt (by omega))
            · exact ⟨ho11, (N10 (L + 1 + 1, o2) (by simp)).2⟩
            · exact news_one N10 hs11 (by simp) (Nat.ne_of_gt (by omega))
          · rw [blindT_succ]
            exact hI10
          · intro x hx o ho
            rw [List.mem_singleton.mp hx] at ho ⊢
            rw [hst] at ho
            rw [← ho]
            exact (news_one N10 hs11 (p := (h7.objs.size, _)) (.tail _ (.tail _ (.tail _ (.head _)))) (Ne.symm p4)).1
      · rintro h' tk' ⟨m, B, U, vs, us, k, ku, o1, o2, o3, F, N, hv, hu, d1, d2, d3, p1, p2, p3, p4, p5⟩
        refine wpB_execs_cons (wpB_Return ?_)
        with_unfolding_all refine wpB_ListComp (cl := [(Str.ofString "blind", L + 1 + 1)]) (by rfl) (by rfl) (by decide) ?_
        refine wpB_of ?_
        clear d1 d3
        k_steps
        rename IsRange _ _ _ _ _ _ _ _ => rg9
        rename Fr _ _ _ _ => F9
        rename News _ _ _ (_ :: _) => N9
        rename_i h9 tk9 t9 u9 v9 hk9
        have hcB : h9.IsCell (L + 1 + 1) (some (.ref B)) := ⟨o2, N9.get (by simp), d2⟩
        have hgB : h9.get? B = some (lsObj vs k) := N9.get (.head _)
        have hvl : vs.length ≤ 32 := by
          rw [IntsAre.length hv]
          exact blindT_le u 4 (by omega)
        have hpos := blindT_pos u 4
        with_unfolding_all refine comp_range (n := 16) (by rfl) rg9 (by decide) (by decide) (by decide) (fun C v h => h.IsCell (C + 1) (some v)) (fun i y own => own = [] ∧ ∃ M t, y = .int M t ∧ IsMin u i M) (fun _ _ _ _ _ _ h => wpAny_pure h) (tg_cell (c := fun C => C + 1) (fun _ => by rfl) (fun C => List.mem_singleton.mpr rfl) (by rfl) (by rfl)) ?_ ?_
        · rintro C i tt h₃ tk₃ hC hi hcv hk
          rw [show (0 : Int) + (i : Int) * 1 = (i : Int) from by omega] at hcv
          have cB3 : h₃.IsCell (L + 1 + 1) (some (.ref B)) := hcB.keeps hk
          have hB3 := hk _ _ hgB
          have G3 := (G0.keeps F9.keep).keeps hk
          obtain ⟨X3, mean3, mg3, mb3, T3⟩ := id G3
          refine elt_B (wpB_Call ?_)
          k_steps
          refine callWithB_builtin (wpB_args_cons ?_)
          with_unfolding_all refine wpB_ListComp (cl := [(Str.ofString "choice", C + 1)]) (by rfl) (by rfl) (by decide) ?_
          refine wpB_of ?_
          k_steps
          with_unfolding_all refine comp_list true (by rfl) ⟨_, hB3, rfl, k, rfl⟩ (by rw [sizeLine_eq]; omega) (TgL (Str.ofString "one")) (fun v y own => own = [] ∧ ∃ (n : Int) (t ty : Tok), v = .int n t ∧ y = .int (Builtin.bitXor i n) ty) (fun _ _ _ _ _ _ h => wpAny_pure h) (tg_local (by rfl) (by rfl)) (fun _ _ _ tk₃ _ _ _ => wpAny_tests_nil ⟨rfl, tk₃, rfl⟩) ?_ ?_
          · rintro C2 v h₅ tk₅ hC2 hv5 - ⟨m5, hm5, hmx⟩ hk5
            obtain ⟨z, hz⟩ := List.mem_iff_getElem?.mp hv5
            obtain ⟨n, tn, rfl, hn⟩ := IntsAre.at hv z v hz
            have c5 : h₅.IsCell (C + 1) (some (.int i tt)) := hcv.keeps hk5
            refine elt_any ?_
            clear hcB hgB cB3 hcv hv
            k_steps
            exact EltEnd.plain (fun _ _ e => e) ⟨rfl, n, tn, _, rfl, rfl⟩
          · intro D6 h6 tk6 k6 rows6 e6
            have hi6 : IntsAre (rows6.map (·.1)) ((blindT u 4).map fun one => Builtin.bitXor i one) := by
              refine ints_map (fun one => Builtin.bitXor i one) hv (by simpa using e6.len) fun j p hp => ?_
              obtain ⟨v, hv9, -, n, t, ty, e1, e2⟩ := e6.each j p hp
              exact ⟨n, t, ty, by rw [hv9, e1], e2⟩
            refine wpB_args_nil ?_
            refine wpB_of (min_ints (by rfl) ⟨_, e6.lst, rfl, k6, rfl⟩ hi6 (by rw [List.length_map]; exact hpos) fun h' M t tk hk' hM hmin => ?_)
            exact EltEnd.plain (fun b o e => hk' b o (e6.keep b o e)) ⟨rfl, M, t, rfl, hM, hmin⟩
        · intro D9 h10 tk10 k10 rows10 e10
          obtain ⟨ms, hms, hml, hmin⟩ := ints_choose rows10 (IsMin u) fun i r hr => by
            obtain ⟨-, M, t, e1, e2⟩ := e10.each i r hr
            exact ⟨M, t, e1, e2⟩
          refine hQ _ _ _ _ _ ms (fun b o e => e10.keep _ _ (F9.keep _ _ e)) (old_none F9.keep e10.new) e10.lst hms (by rw [hml, e10.len]) hmin
      · have hn : Builtin.Range.rangeSize 0 4 1 = ((4 : Nat) : Int) := by decide
        show IsRangeIter _ _ _ _ _
        rw [hn]
        simpa using Heap.get?_push_size _ rfl
      · obtain ⟨hv7, hu7⟩ := (show IntsAre vs (blind0 u) ∧ IntsAre us' u from H6)
        exact ⟨m6, _, U', _, us', _, ku', _, _, _, F7.keeps fun b o e => Heap.get?_push_of_some _ e, N7.grown fun b o e => Heap.get?_push_of_some _ e, hv7, hu7, d1, d2, ⟨ov, d3⟩, q1, q2, q3, q4, q5⟩
end Mine
end

section
open PySem PySem.W PyProof.Rows PySem.Calls
namespace Mine
theorem foldl_it {α : Type} (f : Int → Int) (g : Nat → Nat) (hfg : ∀ n : Nat, f n = g n) : ∀ (l : List α) (n : Nat), l.foldl (fun a _ => f a) (n : Int) = (itN g l.length n : Nat)
  | [], _ => rfl
  | _ :: l, n => by rw [List.foldl_cons, hfg, foldl_it f g hfg l]; rfl
theorem crcStep_nat (n : Nat) : crcStep n = (stepN n : Nat) := by
  unfold crcStep stepN
  by_cases h : n % 2 = 1
  · rw [if_pos (by omega), if_pos h, show ((n : Int) / 2) = ((n / 2 : Nat) : Int) from by omega]
    exact bitXor_nat _ PZ
  · rw [if_neg (by omega), if_neg h]; omega
theorem crc8_nat (n : Nat) : crc8 n = (crcN n : Nat) := by
  unfold crc8 crcN
  rw [foldl_it crcStep stepN crcStep_nat, rangeKs_length]
theorem fedStep_nat (t o : Nat) : fedStep t o = (fedN t o : Nat) := by
  unfold fedStep fedN
  rw [bitXor_nat, show ((t : Int) / 256) = ((t / 256 : Nat) : Int) from by omega, show (((t ^^^ o : Nat) : Int) % 256) = (((t ^^^ o) % 256 : Nat) : Int) from by omega, crc8_nat, bitXor_nat]
def fed2 (t a b : Nat) : Nat := fedN (fedN t a) b
theorem fedW_nat (t a b : Nat) (ha : a < 256) (hb : b < 256) : fedW t a b = (fed2 t a b : Nat) := by
  have e : ∀ x, x < 256 → x.toUInt8.toNat = x := fun x h => by
    show x % 256 = x
    omega
  show fedStep (fedStep t (a.toUInt8.toNat : Nat)) (b.toUInt8.toNat : Nat) = _
  rw [e a ha, e b hb, fedStep_nat, fedStep_nat]
  rfl
theorem xor4 (a b c d : Nat) : (a ^^^ b) ^^^ (c ^^^ d) = (a ^^^ c) ^^^ (b ^^^ d) := by
  rw [Nat.xor_assoc, ← Nat.xor_assoc b, Nat.xor_comm b c, Nat.xor_assoc c, ← Nat.xor_assoc a]
theorem fed2_xor {t a b t' a' b' : Nat} (ha : a < 256) (hb : b < 256) (ha' : a' < 256) (hb' : b' < 256) : fed2 t a b ^^^ fed2 t' a' b' = crcN (crcN ((t ^^^ t') ^^^ (a ^^^ a')) ^^^ (b ^^^ b')) := by
  unfold fed2
  rw [fedN_eq hb, fedN_eq hb', fedN_eq ha, fedN_eq ha', ← crcN_xor, xor4, ← crcN_xor, xor4 t]
/-- one word of the sum, as it stands or turned -/
def sw (b : Bool) (p : Nat × Nat) (t : Nat) : Nat := if b then fed2 t p.2 p.1 else fed2 t p.1 p.2
theorem sw_xor (b b' : Bool) (p : Nat × Nat) (t t' : Nat) (h1 : p.1 < 256) (h2 : p.2 < 256) : sw b p t ^^^ sw b' p t' = fed2 (t ^^^ t') (if (b ^^ b') = true then p.1 ^^^ p.2 else 0) (if (b ^^ b') = true then p.1 ^^^ p.2 else 0) := by
  have hx : p.1 ^^^ p.2 < 256 := Nat.xor_lt_two_pow (n := 8) h1 h2
  have h0 : (0 : Nat) < 256 := by decide
  have main : ∀ e : Nat, e < 256 → fed2 (t ^^^ t') e e = crcN (crcN ((t ^^^ t') ^^^ e) ^^^ e) := fun e he => by
    unfold fed2
    rw [fedN_eq he, fedN_eq he]
  cases b <;> cases b' <;> simp only [sw, Bool.xor_false, Bool.false_xor, Bool.xor_self, Bool.xor_true, Bool.not_true, Bool.not_false, if_true, Bool.false_eq_true, if_false]
  · rw [fed2_xor h1 h2 h1 h2, main 0 h0, Nat.xor_self, Nat.xor_self]
  · rw [fed2_xor h1 h2 h2 h1, main _ hx, Nat.xor_comm p.2]
  · rw [fed2_xor h2 h1 h1 h2, main _ hx, Nat.xor_comm p.2]
  · rw [fed2_xor h2 h1 h2 h1, main 0 h0, Nat.xor_self, Nat.xor_self]
/-- the sum's turn by four words' unlikeness -/
def phi (a b c d : Nat) : Nat := fed2 (fed2 (fed2 (fed2 0 a a) b b) c c) d d
theorem phi_zero {a b c d : Nat} (ha : a < 256) (hb : b < 256) (hc : c < 256) (hd : d < 256) : phi a b c d = 0 ↔ (a = 0 ∧ b = 0 ∧ c = 0 ∧ d = 0) ∨ (a = 223 ∧ b = 205 ∧ c = 204 ∧ d = 99) := by
  constructor
  · intro h
    unfold phi fed2 at h
    rw [fed4 ha ha hb hb, fed4 hc hc hd hd, Nat.zero_xor] at h
    have h1 : crcM (numN a a b b) < 4294967296 := crcM_lt (numN_lt ha ha hb hb)
    have h2 := crcM_zero (Nat.xor_lt_two_pow (n := 32) h1 (numN_lt hc hc hd hd)) h
    exact twice_only ha hb hc hd (xor_zero_eq h2)
  · rintro (⟨rfl, rfl, rfl, rfl⟩ | ⟨rfl, rfl, rfl, rfl⟩) <;> decide +kernel
def val (p0 p1 p2 p3 : Nat × Nat) (c : Nat) : Nat := sw (c.testBit 0) p3 (sw (c.testBit 1) p2 (sw (c.testBit 2) p1 (sw (c.testBit 3) p0 4294967295)))
def bitE (n k u : Nat) : Nat := if n.testBit k = true then u else 0
theorem val_xor (p0 p1 p2 p3 : Nat × Nat) (h0 : p0.1 < 256 ∧ p0.2 < 256) (h1 : p1.1 < 256 ∧ p1.2 < 256) (h2 : p2.1 < 256 ∧ p2.2 < 256) (h3 : p3.1 < 256 ∧ p3.2 < 256) (i j : Nat) :
    val p0 p1 p2 p3 i ^^^ val p0 p1 p2 p3 j = phi (bitE (i ^^^ j) 3 (p0.1 ^^^ p0.2)) (bitE (i ^^^ j) 2 (p1.1 ^^^ p1.2)) (bitE (i ^^^ j) 1 (p2.1 ^^^ p2.2)) (bitE (i ^^^ j) 0 (p3.1 ^^^ p3.2)) := by
  unfold val phi bitE
  rw [sw_xor _ _ _ _ _ h3.1 h3.2, sw_xor _ _ _ _ _ h2.1 h2.2, sw_xor _ _ _ _ _ h1.1 h1.2, sw_xor _ _ _ _ _ h0.1 h0.2, Nat.xor_self]
  simp only [Nat.testBit_xor]
def Cond (u0 u1 u2 u3 n : Nat) : Prop := ((n.testBit 3 = true → u0 = 0) ∧ (n.testBit 2 = true → u1 = 0) ∧ (n.testBit 1 = true → u2 = 0) ∧ (n.testBit 0 = true → u3 = 0)) ∨ (n = 15 ∧ u0 = 223 ∧ u1 = 205 ∧ u2 = 204 ∧ u3 = 99)
theorem bits15 : ∀ n : Fin 16, (n.val.testBit 3 && n.val.testBit 2 && n.val.testBit 1 && n.val.testBit 0) = decide (n.val = 15) := by decide +kernel
theorem bitE_zero (n k u : Nat) : bitE n k u = 0 ↔ (n.testBit k = true → u = 0) := by
  unfold bitE
  split
  · simp [*]
  · simp [*]
theorem bitE_key (n k u v : Nat) (hv : v ≠ 0) : bitE n k u = v ↔ (n.testBit k = true ∧ u = v) := by
  unfold bitE
  split
  · simp [*]
  · rename_i h
    constructor
    · intro e; exact absurd e.symm hv
    · intro e; exact absurd e.1 h
theorem val_eq (p0 p1 p2 p3 : Nat × Nat) (h0 : p0.1 < 256 ∧ p0.2 < 256) (h1 : p1.1 < 256 ∧ p1.2 < 256) (h2 : p2.1 < 256 ∧ p2.2 < 256) (h3 : p3.1 < 256 ∧ p3.2 < 256) (i j : Nat) (hi : i < 16) (hj : j < 16) :
    val p0 p1 p2 p3 i = val p0 p1 p2 p3 j ↔ Cond (p0.1 ^^^ p0.2) (p1.1 ^^^ p1.2) (p2.1 ^^^ p2.2) (p3.1 ^^^ p3.2) (i ^^^ j) := by
  have hn : i ^^^ j < 16 := Nat.xor_lt_two_pow (n := 4) hi hj
  have lt : ∀ n k u, u < 256 → bitE n k u < 256 := fun n k u hu => by unfold bitE; split <;> omega
  have x8 : ∀ p : Nat × Nat, p.1 < 256 ∧ p.2 < 256 → p.1 ^^^ p.2 < 256 := fun p h => Nat.xor_lt_two_pow (n := 8) h.1 h.2
  have e : val p0 p1 p2 p3 i = val p0 p1 p2 p3 j ↔ val p0 p1 p2 p3 i ^^^ val p0 p1 p2 p3 j = 0 := ⟨fun h => by rw [h, Nat.xor_self], xor_zero_eq⟩
  rw [e, val_xor p0 p1 p2 p3 h0 h1 h2 h3, phi_zero (lt _ _ _ (x8 _ h0)) (lt _ _ _ (x8 _ h1)) (lt _ _ _ (x8 _ h2)) (lt _ _ _ (x8 _ h3)), bitE_zero, bitE_zero, bitE_zero, bitE_zero, bitE_key _ _ _ _ (by decide), bitE_key _ _ _ _ (by decide), bitE_key _ _ _ _ (by decide), bitE_key _ _ _ _ (by decide)]
  unfold Cond
  have hb := bits15 ⟨i ^^^ j, hn⟩
  dsimp only at hb
  generalize i ^^^ j = n at *
  constructor
  · rintro (h | ⟨⟨b3, e3⟩, ⟨b2, e2⟩, ⟨b1, e1⟩, ⟨b0, e0⟩⟩)
    · exact .inl h
    · rw [b3, b2, b1, b0] at hb
      exact .inr ⟨of_decide_eq_true hb.symm, e3, e2, e1, e0⟩
  · rintro (h | ⟨rfl, e3, e2, e1, e0⟩)
    · exact .inl h
    · exact .inr ⟨⟨by decide, e3⟩, ⟨by decide, e2⟩, ⟨by decide, e1⟩, ⟨by decide, e0⟩⟩
end Mine
end

section
open PySem PySem.W PyProof.Rows PySem.Calls
namespace Mine
def blS (z : Bool) (k : Nat) (bl : List Int) : List Int := bl ++ (if z = true then bl.map (fun one => one + 2 ^ (3 - k)) else [])
def blB (z0 z1 z2 z3 : Bool) (s : List Int) : List Int := blS z3 3 (blS z2 2 (blS z1 1 (blS z0 0 s)))
theorem blindS_eq (u bl : List Int) (k : Nat) (v : Nat) (h : u.getD k 0 = (v : Int)) : blindS u bl k = blS (decide (v = 0)) k bl := by
  unfold blindS blS
  rw [h]
  by_cases e : v = 0
  · rw [if_pos (by omega), if_pos (decide_eq_true e)]
  · rw [if_neg (by omega), if_neg (by simpa using e)]
theorem blindT_eq (u0 u1 u2 u3 : Nat) : blindT [(u0 : Int), u1, u2, u3] 4 = blB (decide (u0 = 0)) (decide (u1 = 0)) (decide (u2 = 0)) (decide (u3 = 0)) (blind0 [(u0 : Int), u1, u2, u3]) := by
  show blindS _ (blindS _ (blindS _ (blindS _ (blind0 _) 0) 1) 2) 3 = _
  rw [blindS_eq _ _ 0 u0 rfl, blindS_eq _ _ 1 u1 rfl, blindS_eq _ _ 2 u2 rfl, blindS_eq _ _ 3 u3 rfl]
  rfl
theorem memB : ∀ (z0 z1 z2 z3 : Bool) (n : Fin 16), decide (((n.val : Nat) : Int) ∈ blB z0 z1 z2 z3 [0]) = ((!n.val.testBit 3 || z0) && (!n.val.testBit 2 || z1) && (!n.val.testBit 1 || z2) && (!n.val.testBit 0 || z3)) := by decide +kernel
theorem lowB : ∀ (z0 z1 z2 z3 : Bool), ((blB z0 z1 z2 z3 [0]).all fun a => decide (0 ≤ a) && decide (a < 16)) = true := by decide +kernel
theorem memK : ∀ n : Fin 16, decide (((n.val : Nat) : Int) ∈ blB false false false false [0, 15]) = ((!n.val.testBit 3 && !n.val.testBit 2 && !n.val.testBit 1 && !n.val.testBit 0) || decide (n.val = 15)) := by decide +kernel
theorem lowK : ((blB false false false false [0, 15]).all fun a => decide (0 ≤ a) && decide (a < 16)) = true := by decide +kernel
theorem key_iff (u0 u1 u2 u3 : Nat) : ([(u0 : Int), u1, u2, u3] = [223, 205, 204, 99]) ↔ (u0 = 223 ∧ u1 = 205 ∧ u2 = 204 ∧ u3 = 99) := by
  simp only [List.cons.injEq, and_true]
  omega
theorem mem_blind (u0 u1 u2 u3 n : Nat) (hn : n < 16) : (n : Int) ∈ blindT [(u0 : Int), u1, u2, u3] 4 ↔ Cond u0 u1 u2 u3 n := by
  rw [blindT_eq]
  unfold Cond blind0
  by_cases hk : [(u0 : Int), u1, u2, u3] = [223, 205, 204, 99]
  · rw [if_pos hk]
    obtain ⟨rfl, rfl, rfl, rfl⟩ := (key_iff u0 u1 u2 u3).mp hk
    have h := memK ⟨n, hn⟩
    dsimp only at h
    rw [← decide_eq_true_iff (p := _ ∈ _)]
    show decide ((n : Int) ∈ blB false false false false [0, 15]) = true ↔ _
    have hb : ((!n.testBit 3 && !n.testBit 2 && !n.testBit 1 && !n.testBit 0 || decide (n = 15)) = true) ↔ ((((n.testBit 3 = false ∧ n.testBit 2 = false) ∧ n.testBit 1 = false) ∧ n.testBit 0 = false) ∨ n = 15) := by
      simp only [Bool.or_eq_true, Bool.and_eq_true, Bool.not_eq_true', decide_eq_true_eq]
    rw [h, hb]
    constructor
    · rintro (⟨⟨⟨h3, h2⟩, h1⟩, h0⟩ | h)
      · exact .inl ⟨fun x => absurd (h3.symm.trans x) (by decide), fun x => absurd (h2.symm.trans x) (by decide), fun x => absurd (h1.symm.trans x) (by decide), fun x => absurd (h0.symm.trans x) (by decide)⟩
      · exact .inr ⟨h, rfl, rfl, rfl, rfl⟩
    · rintro (⟨h3, h2, h1, h0⟩ | h)
      · refine .inl ⟨⟨⟨?_, ?_⟩, ?_⟩, ?_⟩
        · exact Bool.eq_false_iff.mpr fun x => absurd (h3 x) (by decide)
        · exact Bool.eq_false_iff.mpr fun x => absurd (h2 x) (by decide)
        · exact Bool.eq_false_iff.mpr fun x => absurd (h1 x) (by decide)
        · exact Bool.eq_false_iff.mpr fun x => absurd (h0 x) (by decide)
      · exact .inr h.1
  · rw [if_neg hk]
    have hk' := fun h => hk ((key_iff u0 u1 u2 u3).mpr h)
    have h := memB (decide (u0 = 0)) (decide (u1 = 0)) (decide (u2 = 0)) (decide (u3 = 0)) ⟨n, hn⟩
    dsimp only at h
    rw [← decide_eq_true_iff (p := _ ∈ _), h]
    simp only [Bool.or_eq_true, Bool.and_eq_true, Bool.not_eq_true', decide_eq_true_eq]
    have imp : ∀ (b : Bool) (P : Prop), (b = false ∨ P) ↔ (b = true → P) := fun b P => by cases b <;> simp
    rw [imp, imp, imp, imp]
    constructor
    · rintro ⟨⟨⟨h3, h2⟩, h1⟩, h0⟩
      exact .inl ⟨h3, h2, h1, h0⟩
    · rintro (⟨h3, h2, h1, h0⟩ | ⟨-, h⟩)
      · exact ⟨⟨⟨h3, h2⟩, h1⟩, h0⟩
      · exact absurd h hk'
theorem low_blind (u0 u1 u2 u3 : Nat) (a : Int) (ha : a ∈ blindT [(u0 : Int), u1, u2, u3] 4) : ∃ n : Nat, n < 16 ∧ a = (n : Int) := by
  have h : 0 ≤ a ∧ a < 16 := by
    rw [blindT_eq] at ha
    unfold blind0 at ha
    by_cases hk : [(u0 : Int), u1, u2, u3] = [223, 205, 204, 99]
    · rw [if_pos hk] at ha
      obtain ⟨rfl, rfl, rfl, rfl⟩ := (key_iff u0 u1 u2 u3).mp hk
      have z := List.all_eq_true.mp lowK a ha
      simpa using z
    · rw [if_neg hk] at ha
      have z := List.all_eq_true.mp (lowB _ _ _ _) a ha
      simpa using z
  exact ⟨a.toNat, by omega, by omega⟩
theorem idxOf_le {x : Int} : ∀ {l : List Int} {i : Nat}, l[i]? = some x → l.idxOf x ≤ i
  | [], i, h => by simp at h
  | y :: l, 0, h => by
    simp only [List.getElem?_cons_zero, Option.some.injEq] at h
    subst h
    simp
  | y :: l, i + 1, h => by
    have z := idxOf_le (l := l) (i := i) (by simpa using h)
    rw [List.idxOf_cons]
    cases y == x
    · simp only [cond_false]; omega
    · simp
theorem stepT_nat (ts : List Nat) (p : Nat × Nat) (h : p.1 < 256 ∧ p.2 < 256) : stepT (ts.map fun n : Nat => (n : Int)) p = ((ts.map fun t => [fed2 t p.1 p.2, fed2 t p.2 p.1]).flatten).map fun n : Nat => (n : Int) := by
  unfold stepT
  induction ts with
  | nil => rfl
  | cons t ts ih =>
    rw [List.map_cons, List.map_cons, List.flatten_cons, ih, List.map_cons, List.flatten_cons, List.map_append, fedW_nat t _ _ h.1 h.2, fedW_nat t _ _ h.2 h.1]
    rfl
theorem totT_eq (p0 p1 p2 p3 : Nat × Nat) (h0 : p0.1 < 256 ∧ p0.2 < 256) (h1 : p1.1 < 256 ∧ p1.2 < 256) (h2 : p2.1 < 256 ∧ p2.2 < 256) (h3 : p3.1 < 256 ∧ p3.2 < 256) :
    totT [p0, p1, p2, p3] = (List.range 16).map fun c : Nat => ((val p0 p1 p2 p3 c : Nat) : Int) := by
  show stepT (stepT (stepT (stepT [4294967295] p0) p1) p2) p3 = _
  rw [show ([4294967295] : List Int) = [(4294967295 : Nat)].map (fun n : Nat => (n : Int)) from rfl, stepT_nat _ _ h0, stepT_nat _ _ h1, stepT_nat _ _ h2, stepT_nat _ _ h3]
  rfl
/-- the law's two sides are one list -/
theorem run_told {ps : List (Nat × Nat)} {ms : List Int} (hlen : ps.length = 4) (hb : ∀ p ∈ ps, p.1 < 256 ∧ p.2 < 256) (hml : ms.length = 16) (hm : ∀ (c : Nat) m, ms[c]? = some m → IsMin (unlikeP ps) c m) :
    (totT ps).map (fun t => ((totT ps).idxOf t : Int)) = ms := by
  match ps, hlen with
  | [p0, p1, p2, p3], _ =>
  have h0 := hb p0 (by simp)
  have h1 := hb p1 (by simp)
  have h2 := hb p2 (by simp)
  have h3 := hb p3 (by simp)
  have hu : unlikeP [p0, p1, p2, p3] = [((p0.1 ^^^ p0.2 : Nat) : Int), ((p1.1 ^^^ p1.2 : Nat) : Int), ((p2.1 ^^^ p2.2 : Nat) : Int), ((p3.1 ^^^ p3.2 : Nat) : Int)] := by
    show [Builtin.bitXor (p0.1 : Nat) (p0.2 : Nat), Builtin.bitXor (p1.1 : Nat) (p1.2 : Nat), Builtin.bitXor (p2.1 : Nat) (p2.2 : Nat), Builtin.bitXor (p3.1 : Nat) (p3.2 : Nat)] = _
    rw [bitXor_nat, bitXor_nat, bitXor_nat, bitXor_nat]
  rw [hu] at hm
  have hT := totT_eq p0 p1 p2 p3 h0 h1 h2 h3
  generalize totT [p0, p1, p2, p3] = T at hT
  have hTl : T.length = 16 := by rw [hT, List.length_map, List.length_range]
  have hTc : ∀ c : Nat, c < 16 → T[c]? = some ((val p0 p1 p2 p3 c : Nat) : Int) := fun c hc => by
    rw [hT, List.getElem?_map, List.getElem?_range hc]
    rfl
  refine List.ext_getElem? fun c => ?_
  by_cases hc : c < 16
  · rw [List.getElem?_map, hTc c hc, Option.map_some]
    obtain ⟨m, hmc⟩ : ∃ m, ms[c]? = some m := ⟨_, List.getElem?_eq_getElem (by omega)⟩
    rw [hmc]
    obtain ⟨m1, m2⟩ := hm c m hmc
    have hmem : ((val p0 p1 p2 p3 c : Nat) : Int) ∈ T := List.mem_of_getElem? (hTc c hc)
    have hj : T.idxOf ((val p0 p1 p2 p3 c : Nat) : Int) < 16 := by rw [← hTl]; exact List.idxOf_lt_length_iff.mpr hmem
    have hjv : T[T.idxOf ((val p0 p1 p2 p3 c : Nat) : Int)]? = some ((val p0 p1 p2 p3 c : Nat) : Int) := by
      rw [List.getElem?_eq_getElem (by omega), List.getElem_idxOf (by omega)]
    generalize hjj : T.idxOf ((val p0 p1 p2 p3 c : Nat) : Int) = j at hj hjv
    rw [hTc j hj] at hjv
    have hv : val p0 p1 p2 p3 c = val p0 p1 p2 p3 j := by
      have z : ((val p0 p1 p2 p3 j : Nat) : Int) = ((val p0 p1 p2 p3 c : Nat) : Int) := Option.some.inj hjv
      omega
    have hcj : c ^^^ j < 16 := Nat.xor_lt_two_pow (n := 4) hc hj
    have hin := (mem_blind _ _ _ _ _ hcj).mpr ((val_eq p0 p1 p2 p3 h0 h1 h2 h3 c j hc hj).mp hv)
    have le1 : m ≤ (j : Int) := by
      refine m2 _ (List.mem_map.mpr ⟨_, hin, ?_⟩)
      rw [bitXor_nat, ← Nat.xor_assoc, Nat.xor_self, Nat.zero_xor]
    have le2 : (j : Int) ≤ m := by
      obtain ⟨one, ho, e⟩ := List.mem_map.mp m1
      obtain ⟨n, hn, rfl⟩ := low_blind _ _ _ _ one ho
      rw [bitXor_nat] at e
      rw [← e]
      have hi : c ^^^ n < 16 := Nat.xor_lt_two_pow (n := 4) hc hn
      have hx : c ^^^ (c ^^^ n) = n := by rw [← Nat.xor_assoc, Nat.xor_self, Nat.zero_xor]
      have hv2 := (val_eq p0 p1 p2 p3 h0 h1 h2 h3 c (c ^^^ n) hc hi).mpr (by rw [hx]; exact (mem_blind _ _ _ _ _ hn).mp ho)
      have z : T[c ^^^ n]? = some ((val p0 p1 p2 p3 c : Nat) : Int) := by rw [hTc _ hi, hv2]
      have := idxOf_le z
      rw [hjj] at this
      omega
    congr 1
    omega
  · rw [List.getElem?_eq_none (by rw [List.length_map]; omega), List.getElem?_eq_none (by omega)]
end Mine
end

section
open PySem PySem.W PyProof.Rows PySem.Calls
set_option maxRecDepth 100000
namespace Mine
theorem dummy7 : (PySem.Challenge.rw_pe0015_01, hd.heap_39) = (PySem.Challenge.rw_pe0015_01, hd.heap_39) := by
  k_fill
  rfl
local macro_rules | `(tactic| walk_at "eval Name") => `(tactic| (with_reducible show wpAny _ _ (eval (Expr.Name _ _) (cenvX _ _ _ _)) _ _ _; first
  | with_unfolding_all refine nmL (by with_reducible assumption) (by with_reducible assumption) ?_
  | with_unfolding_all refine nmC (by rfl) (by with_reducible assumption) ?_
  | (k_dflt (refine' nmG ?X ?T ?e ?_ ?a ?b ?c ?d; (case X => with_reducible assumption); (case T => with_reducible assumption); (case a => rfl); (case b => rfl); (case c => rfl); (case d => decide); (case e => k_is)))
  | (k_dflt (refine' nmB ?X ?T ?e ?v ?n ?_ ?a ?a2 ?b ?c ?d; (case X => with_reducible assumption); (case T => with_reducible assumption); (case a => rfl); (case a2 => rfl); (case b => rfl); (case c => rfl); (case d => decide); (case e => k_is); (case v => boot_fast); (case n => decide)))))
theorem rows_pairs {h : Heap} : ∀ (rs : List Addr), (∀ r ∈ rs, Row2 h r) → ∃ ps : List (Nat × Nat), Paired (fun r p => p.1 < 256 ∧ p.2 < 256 ∧ Two h r (p.1 : Nat) (p.2 : Nat)) rs ps
  | [], _ => ⟨[], .nil⟩
  | r :: rs, hr => by
    obtain ⟨ps, hp⟩ := rows_pairs rs fun x hx => hr x (.tail _ hx)
    obtain ⟨a, b, ha, hb, h2⟩ := hr r (.head _)
    exact ⟨(a, b) :: ps, .cons ⟨ha, hb, h2⟩ hp⟩
theorem pairs_low {h : Heap} : ∀ {rs : List Addr} {ps : List (Nat × Nat)}, Paired (fun r p => p.1 < 256 ∧ p.2 < 256 ∧ Two h r (p.1 : Nat) (p.2 : Nat)) rs ps → ∀ p ∈ ps, p.1 < 256 ∧ p.2 < 256
  | _, _, .nil, p, hp => nomatch hp
  | _, _, .cons x t, p, hp => by
    rcases List.mem_cons.mp hp with rfl | hp
    · exact ⟨x.1, x.2.1⟩
    · exact pairs_low t p hp
set_option maxHeartbeats 4000000 in
theorem law_law {w : World} {A : Around} {s : Shared} {Q E : Value → Shared → Prop}
    (G : Gd w s.heap) (hroom : A.depth + 3 < recursionLimit) (hh : A.handled = none) (hg : A.guards = some []) (hun : A.units + 256 < cLine)
    (l : Addr) (vs : List Value) (ns : List Int) (hl : s.heap.IsList l vs.toArray) (hi : IntsAre vs ns) (hlen : ns.length ≤ 63)
    (hQ : ∀ h' tk, Kp s.heap h' → Q (.bool true) { s with heap := h', toks := tk }) :
    wpB true (model PySem.Challenge.pw_pe0015_01 w) A (call (.ref 57) [.ref l]) Q E s := by
  have G0 := G
  obtain ⟨X, mean, mg, mb, T⟩ := G
  obtain ⟨hd', dp, fr, gd, un⟩ := A
  obtain rfl : hd' = none := hh
  refine wpB_call ?_
  k_dflt (refine' enterPB (binds := [(Str.ofString "script", Value.ref l)]) X T ?k6 ?k7 ?kr ?k9 ?kB ?_ ?c2 ?c3 ?c4 ?c5; (case k6 => k_is); (case k7 => k_is); (case kr => (dsimp only at *; omega)); (case k9 => exact BindsTo.of_eq rfl); (case kB => exact locs rfl); (case c2 => exact rfl); (case c3 => exact rfl); (case c4 => exact rfl); (case c5 => decide))
  intro L h₁ F N
  dsimp only at *
  refine wpB_execs_cons (wpB_of ?_)
  k_steps
  rename Fr _ _ _ _ => F0
  rename News _ _ _ _ => N0
  refine law_words ?kG ?kr ?kh l vs ns ?kl hi hlen ?_
  case kG => exact G0.keeps F0.keep
  case kr => show dp + 1 < _; omega
  case kh => rfl
  case kl => exact hl.at fun o e => F0.keep _ _ e
  intro h2 tk2 D2 k2 rs hk2 hn2 hg2 hr2 hrow
  have F2 := F0.keeps hk2
  have hD2L : D2 ≠ L := by
    rintro rfl
    obtain ⟨o, _, _, ho, _⟩ := F0.ns
    rw [hn2] at ho; cases ho
  have hrL : ∀ r ∈ rs, r ≠ L := by
    rintro r hr rfl
    obtain ⟨o, _, _, ho, _⟩ := F0.ns
    rw [(hrow r hr).2] at ho; cases ho
  clear F0 N0
  dsimp only
  with_unfolding_all refine wpAny_storeName_local (by rfl) F2.ns (fun h3 hn3 hs3 => ?_) (by rfl)
  have F3 := F2.set hn3 hs3
  have hg3 : h3.get? D2 = some (lsObj (rs.map Value.ref) k2) := (hs3.2 _ hD2L).trans hg2
  have hrow3 : ∀ r ∈ rs, Row2 h3 r := fun r hr => by
    obtain ⟨a, b, ba, bb, ta, tb, o, ho, hc, hx⟩ := (hrow r hr).1
    exact ⟨a, b, ba, bb, ta, tb, o, (hs3.2 _ (hrL r hr)).trans ho, hc, hx⟩
  obtain ⟨ps, hp⟩ := rows_pairs rs hrow3
  have hps : ps.length = 4 := by rw [← hp.length]; exact hr2
  have hlow := pairs_low hp
  have W3 : WordsAt h3 D2 rs ps := ⟨⟨_, hg3, rfl, k2, rfl⟩, hp⟩
  clear F2 hn2 hg2 hk2 hs3 hn3 hrow hrow3 hp
  try dsimp only at F3
  try dsimp only
  refine wpB_execs_cons (wpB_Return (wpB_Compare1 (wpB_Call ?_)))
  k_steps
  k_dflt (refine' wpB_callWith_fn (K := hd.heap_39 w.params) ?kk ?_; (case kk => k_is))
  k_steps
  refine law_run ?kG ?kr ?kh ?kg D2 rs ps ?kl hr2 ?_
  case kG => exact G0.keeps F3.keep
  case kr => show dp + 1 + 2 < _; omega
  case kh => rfl
  case kg => exact hg
  case kl => exact W3
  intro h4 tk4 D4 k4 us hk4 hn4 hg4 hi4
  have F4 := F3.keeps hk4
  have W4 := W3.keeps hk4
  clear F3
  refine wpB_of ?_
  try dsimp only
  k_steps
  refine law_told ?kG ?kr ?kh ?ku D2 rs ps ?kl hr2 ?_
  case kG => exact G0.keeps F4.keep
  case kr => show dp + 1 + 2 < _; omega
  case kh => rfl
  case ku => show un + _ + 128 < _; omega
  case kl => exact W4
  intro h5 tk5 D5 k5 us5 ms hk5 hn5 hg5 hi5 hml hmin
  have F5 := F4.keeps hk5
  have hg45 := hk5 _ _ hg4
  try dsimp only
  refine eq_intsK ⟨_, hg45, rfl, k4, rfl⟩ hi4 ⟨_, hg5, rfl, k5, rfl⟩ hi5 (by show un + _ + 64 < _; omega) ?_
  rw [run_told hps hlow hml hmin, decide_eq_true rfl]
  exact hQ _ _ fun b o e => F5.keep b o e
end Mine
end

section
open PySem PySem.W PyProof.Rows PySem.Calls
set_option maxRecDepth 100000
namespace Mine
theorem dummy11 : (PySem.Challenge.rw_pe0015_01, hd.heap_39) = (PySem.Challenge.rw_pe0015_01, hd.heap_39) := by
  k_fill
  rfl
noncomputable abbrev hk01 : Hook := kHook hd.heap_39 [2, 3, 6, 15, 17, 18, 20, 21, 22, 24, 25, 27, 28, 29, 32, 33, 34, 36, 37, 39, 40, 41, 44, 45, 46, 49, 50, 51, 53, 54, 56, 57] (fun _ => by kernel_rfl)
theorem left01 : LeftO PySem.Challenge.rw_pe0015_01.row.prog hd.view_39 [] (fun s => xlAt hd.view_39 [] s && recOk PySem.Challenge.rw_pe0015_01.row.records s) hk01.obs hk01.val 880 :=
  LeftO.of_pieces (boot_open hd._proof_42 (of_decide_eq_true rfl) hd._proof_43) hd._proof_99 hd._proof_97 (of_decide_eq_true rfl) fun w => funext fun os => hd._proof_131 w os
theorem script_of {w : World} {s₀ : Shared} {h : Heap} {args : List WData} {vs : List Value} {as : List Addr} (hpre : PySem.Challenge.rw_pe0015_01.row.claim.pre args = true) (hlay : WData.layableAll args = true) (hrd : ReadsAllW PySem.Challenge.rw_pe0015_01.row.records (classAt s₀.heap) h vs args as)
    (hwl : WellAll w.params h vs args) (hlo : ∀ a ∈ as, (a == sysModules) = false) :
    ∃ (l : Addr) (us : List Value) (ns : List Int), vs = [.ref l] ∧ h.IsList l us.toArray ∧ IntsAre us ns ∧ ns.length ≤ 63 := by
  wrow_args hpre hlay hrd hwl hlo
  rename IntsAre _ _ => hI
  rename Heap.IsList _ _ _ => hL
  exact ⟨_, _, _, rfl, hL, hI, by omega⟩
theorem walk01 (w : World) (s₀ s₁ : Shared) (mg mb : Str → Option Value) (G : Ground hd.view_39 [] PySem.Challenge.rw_pe0015_01.row.records (XL hd.view_39 []) w s₀ mg mb s₁.heap) (Y : hk01.says w s₁.heap) (f : Value) (hf : mg PySem.Challenge.rw_pe0015_01.row.name = some f)
    (args : List WData) (vs : List Value) (as : List Addr) (hpre : PySem.Challenge.rw_pe0015_01.row.claim.pre args = true) (hlay : WData.layableAll args = true) (hg : s₁.gens = #[]) (hrd : ReadsAllW PySem.Challenge.rw_pe0015_01.row.records (classAt s₀.heap) s₁.heap vs args as)
    (hwl : WellAll w.params s₁.heap vs args) (hlo : ∀ a ∈ as, (a == sysModules) = false) :
    wpB true (model PySem.Challenge.rw_pe0015_01.row.prog w) callerA (PySem.call f vs) (fun v s' => GoodWG PySem.Challenge.rw_pe0015_01.row.claim (classAt s₀.heap) (ExcName.means s₀.heap) args s₁ (.ok (.ret v)) s') (fun _ _ => False) s₁ := by
  obtain ⟨l, us, ns, rfl, hl, hi, hlen⟩ := script_of hpre hlay hrd hwl hlo
  have X : (hd.heap_39 w.params).In s₁.heap := kIn_of Y
  have T := G.T
  have e72 : nsIn (hd.heap_39 w.params) mainGlobals (Str.ofString "law") = some (some (.ref 57)) := by k_is
  obtain rfl : f = .ref 57 := by
    have e := mg_of X T.g e72
    exact Option.some.inj (hf.symm.trans e)
  refine law_law ⟨X, _, _, _, T⟩ (by decide +kernel) rfl rfl (by decide +kernel) l us ns hl hi hlen fun h' tk hk => ?_
  refine ⟨.inl ⟨_, .bool true, [], rfl, fun cls => rfl, .bool true, ?_, fun _ => ⟨.nil, fun a ha => nomatch ha⟩⟩, .of_keep hk, rfl, .of_eq hg⟩
  exact postW_of (r := PySem.Challenge.rw_pe0015_01.row.toRowW) rfl rfl (same_self _)
end Mine
set_option maxRecDepth 100000 in
set_option maxHeartbeats 8000000 in
theorem PySem.Challenge.cw_pe0015_01_holds : PySem.Challenge.rw_pe0015_01.Holds := by
  w_on
  o_law
  exact Mine.holdsB (XP := XL Mine.hd.view_39 []) (YP := Mine.hk01.says) Mine.left01 (Hook.of Mine.hk01) (Hook.keeps Mine.hk01) (fun s e => xl_of s (Bool.and_eq_true_iff.mp e).1) XL.keeps (by rfl) (by rfl) (by rfl) (fun s e => recFacts_of (Bool.and_eq_true_iff.mp e).2) (by rfl) (by assumption) Mine.hd._proof_40 ⟨rfl, rfl, rfl, rfl, rfl, Mine.hd._proof_41⟩ ⟨_, Mine.hd._proof_132, Mine.hd._proof_133⟩ Mine.walk01
end
