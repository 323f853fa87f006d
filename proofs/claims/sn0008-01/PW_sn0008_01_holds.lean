import PyProof.Rows.All
import Wide.All
import OpenK.AllK
import Wide.FinOn
import PySem.Challenge.RW_sn0008_01
open PySem PySem.W PySem.Calls PyProof.Rows Builtin Builtin.Str
set_option Elab.async false
set_option maxRecDepth 100000
set_option maxHeartbeats 8000000
set_option compiler.extract_closed false
namespace Mine
theorem keep2 {A B P : Prop} (p : P) (_ : A) (_ : B) : P := p
theorem said : PySem.Challenge.rw_sn0008_01.wellSaid = true := by
  unfold OpenLaw.wellSaid
  repeat' with_reducible refine look_both ?_ ?_
  all_goals decide +kernel
set_option linter.defProp false in
def hd := fun walk => (by
  w_on
  refine holds_law said fun _ => ?_
  refine' keep2 ?main ?hl ?hc
  case main =>
    k_head
    (case hw => w_witness2)
  case hc => exact walk
  intro w
  kernel_rfl : PySem.Challenge.rw_sn0008_01.Holds)
-- M0
/-- all that stood still stands -/
noncomputable def Kp (h h' : Heap) : Prop := ∀ b o, h.get? b = some o → h'.get? b = some o
theorem Kp.rfl {h : Heap} : Kp h h := fun _ _ e => e
theorem Kp.trans {h h' h'' : Heap} (a : Kp h h') (b : Kp h' h'') : Kp h h'' := fun x o e => b x o (a x o e)

section
variable {prog : Program} {w : World} {A : Around} {E : Value → Shared → Prop} {s : Shared} {K : Frag} {p : Program} {loose : List Str} {mean : ExcName → Option Value} {mg mb : Str → Option Value} {Q : Value → Shared → Prop}
theorem enter {name qual : Str} {params : Arguments} {body : List Stmt} {scope : Scope} {dV kV doc pm cdv ct oc : Value} {an od : Option Addr} {osl : Array (Option Value)} {f : Addr} {args : List Value} {kw : List (Str × Value)} {binds : List (Str × Value)}
    (X : K.In s.heap) (T : Top p loose mean mg mb s.heap)
    (ho : K.lookup f = some ⟨oc, od, .func (fnOf name qual params body scope dV kV doc pm an cdv ct), osl⟩) (hcd : codeIn K cdv qual = true) (hroom : A.depth < recursionLimit)
    (hbind : BindsTo s (fnOf name qual params body scope dV kV doc pm an cdv ct) ⟨args, kw⟩ binds) (hloc : ∀ y ∈ binds, scope.names.lookup y.1 = some .local)
    (h : ∀ L' h₁, Fr s.heap L' h₁ (fun y => binds.reverse.lookup y) → News s.heap L' h₁ [] →
      wpAny (model prog w) (A.deeper (envOf qual scope L' f cdv)) (execs body (envOf qual scope L' f cdv))
        (fun fl s' => Q (match fl with | .ret v => v | _ => .none) s') (fun _ _ => False) { s with heap := h₁, toks := s.toks + binds.length })
    (hco : scope.isCoroutine = false) (hgen : scope.isGenerator = false) (hk : scope.kind = .function)
    (hcell : ∀ x ∈ scope.names, x.2 ≠ .cell) : wpAny (model prog w) A (call (.ref f) args kw) Q E s :=
  wpAny_call (codeAny_call_def (fd := fnOf name qual params body scope dV kV doc pm an cdv ct) (body := body) (binds := binds) hroom (X _ _ ho) rfl T.nolimit (codeRec_of X hcd) rfl hbind hcell hloc
    (fun h₁ hns hk₁ => wpAny_mono (h s.heap.objs.size h₁ ⟨hns, hk₁, Nat.le_refl _⟩ News.nil) (fun _ _ q => q) (fun _ _ x => x.elim)) hco hgen hk)
end
noncomputable abbrev tup2 (x y : Int) (t1 t2 : Tok) (n : Nat) : Obj := { cls := .type "tuple", data := .seq #[.int x t1, .int y t2] n }
noncomputable abbrev tup3 (x y z : Int) (t1 t2 t3 : Tok) (n : Nat) : Obj := { cls := .type "tuple", data := .seq #[.int x t1, .int y t2, .int z t3] n }
/-- a pair of ints stands there -/
noncomputable def P2 (h : Heap) (v : Value) (x y : Int) : Prop := ∃ a t1 t2 n, v = .ref a ∧ h.get? a = some (tup2 x y t1 t2 n)
noncomputable def P3 (h : Heap) (v : Value) (x y z : Int) : Prop := ∃ a t1 t2 t3 n, v = .ref a ∧ h.get? a = some (tup3 x y z t1 t2 t3 n)
theorem P2.keeps {h h' : Heap} {v : Value} {x y : Int} (p : P2 h v x y) (k : Kp h h') : P2 h' v x y := let ⟨a, t1, t2, n, e, q⟩ := p; ⟨a, t1, t2, n, e, k _ _ q⟩
theorem P3.keeps {h h' : Heap} {v : Value} {x y z : Int} (p : P3 h v x y z) (k : Kp h h') : P3 h' v x y z := let ⟨a, t1, t2, t3, n, e, q⟩ := p; ⟨a, t1, t2, t3, n, e, k _ _ q⟩
theorem tup2_is {h : Heap} {a : Addr} {x y : Int} {t1 t2 : Tok} {n : Nat} (q : h.get? a = some (tup2 x y t1 t2 n)) : IsTup h a #[.int x t1, .int y t2] := ⟨_, q, rfl, n, rfl⟩
theorem tup3_is {h : Heap} {a : Addr} {x y z : Int} {t1 t2 t3 : Tok} {n : Nat} (q : h.get? a = some (tup3 x y z t1 t2 t3 n)) : IsTup h a #[.int x t1, .int y t2, .int z t3] := ⟨_, q, rfl, n, rfl⟩
theorem P2.of {h : Heap} {a : Addr} {x y x' y' : Int} {t1 t2 : Tok} {n : Nat} (q : h.get? a = some (tup2 x y t1 t2 n)) (e1 : x = x') (e2 : y = y') : P2 h (.ref a) x' y' := by subst e1; subst e2; exact ⟨a, t1, t2, n, rfl, q⟩
theorem P3.of {h : Heap} {a : Addr} {x y z x' y' z' : Int} {t1 t2 t3 : Tok} {n : Nat} (q : h.get? a = some (tup3 x y z t1 t2 t3 n)) (e1 : x = x') (e2 : y = y') (e3 : z = z') : P3 h (.ref a) x' y' z' := by
  subst e1; subst e2; subst e3; exact ⟨a, t1, t2, t3, n, rfl, q⟩
/-- the same, made anew -/
noncomputable def New2 (h h' : Heap) (v : Value) (x y : Int) : Prop := ∃ a t1 t2 n, v = .ref a ∧ h'.get? a = some (tup2 x y t1 t2 n) ∧ h.get? a = none
noncomputable def New3 (h h' : Heap) (v : Value) (x y z : Int) : Prop := ∃ a t1 t2 t3 n, v = .ref a ∧ h'.get? a = some (tup3 x y z t1 t2 t3 n) ∧ h.get? a = none
theorem New2.p {h h' : Heap} {v : Value} {x y : Int} (p : New2 h h' v x y) : P2 h' v x y := let ⟨a, t1, t2, n, e, q, _⟩ := p; ⟨a, t1, t2, n, e, q⟩
theorem New3.p {h h' : Heap} {v : Value} {x y z : Int} (p : New3 h h' v x y z) : P3 h' v x y z := let ⟨a, t1, t2, t3, n, e, q, _⟩ := p; ⟨a, t1, t2, t3, n, e, q⟩
theorem New2.of {h h' : Heap} {L a : Addr} {news : List (Addr × Obj)} {x y x' y' : Int} {t1 t2 : Tok} {n : Nat} (N : News h L h' news) (hm : (a, tup2 x y t1 t2 n) ∈ news) (e1 : x = x') (e2 : y = y') : New2 h h' (.ref a) x' y' := by
  subst e1; subst e2; exact ⟨a, t1, t2, n, rfl, N.get hm, N.fresh hm⟩
theorem New3.of {h h' : Heap} {L a : Addr} {news : List (Addr × Obj)} {x y z x' y' z' : Int} {t1 t2 t3 : Tok} {n : Nat} (N : News h L h' news) (hm : (a, tup3 x y z t1 t2 t3 n) ∈ news) (e1 : x = x') (e2 : y = y') (e3 : z = z') : New3 h h' (.ref a) x' y' z' := by
  subst e1; subst e2; subst e3; exact ⟨a, t1, t2, t3, n, rfl, N.get hm, N.fresh hm⟩
/-- a new object goes into the ledger -/
theorem add_news {h₀ h h' : Heap} {L a : Addr} {o : Obj} {m : Str → Option Value} {news : List (Addr × Obj)} (F : Fr h₀ L h m) (k : Kp h h') (N : News h₀ L h news) (ha : h'.get? a = some o) (hn : h.get? a = none) : News h₀ L h' ((a, o) :: news) := by
  intro p hp
  rcases List.mem_cons.mp hp with rfl | hp
  · refine ⟨ha, fun e => ?_, ?_⟩
    · obtain ⟨oL, _, _, e1, _⟩ := F.ns
      dsimp only at e
      subst e
      rw [e1] at hn; cases hn
    · cases e : h₀.get? a with
      | none => rfl
      | some o' => rw [F.keep _ _ e] at hn; cases hn
  · exact N.grown k p hp
/-- what the top left stands -/
structure Gnd (w : World) (loose : List Str) (mean : ExcName → Option Value) (mg mb : Str → Option Value) (h : Heap) : Prop where
  X : (hd.heap_1 w.params).In h
  T : Top topProg loose mean mg mb h
theorem Gnd.keeps {w : World} {loose : List Str} {mean : ExcName → Option Value} {mg mb : Str → Option Value} {h h' : Heap} (G : Gnd w loose mean mg mb h) (k : Kp h h') : Gnd w loose mean mg mb h' := ⟨G.X.keeps k, G.T.keeps k⟩
noncomputable abbrev Ar (dp un : Nat) (fr : Option (List Env)) (gd : Option (List Code)) : Around := { handled := none, depth := dp, frames := fr, guards := gd, units := un }
/-- the names stand for these -/
noncomputable def Has (m : Str → Option Value) : List (Str × Value) → Prop
  | [] => True
  | p :: r => m p.1 = some p.2 ∧ Has m r
theorem Has.all {m : Str → Option Value} : ∀ {l : List (Str × Value)}, Has m l → ∀ p ∈ l, m p.1 = some p.2
  | _ :: _, ⟨h, _⟩, _, .head _ => h
  | _ :: _, ⟨_, h⟩, _, .tail _ hp => h.all _ hp
/-- a turn's end -/
noncomputable def WEnd {σ : Type} (h₀ : Heap) (L : Addr) (s : Shared) (Led : σ → List (Addr × Obj)) (ps : σ → List (Str × Value)) (P : σ → Prop) (μ : σ → Nat) (c : σ) (s₂ : Shared) : Prop :=
  ∃ (c' : σ) (h' : Heap) (tk : Nat) (m' : Str → Option Value) (news' : List (Addr × Obj)), s₂ = { s with heap := h', toks := tk } ∧ Fr h₀ L h' m' ∧ News h₀ L h' news' ∧ (∀ p ∈ Led c', p ∈ news') ∧ Has m' (ps c') ∧ P c' ∧ μ c' < μ c
noncomputable def WPost {σ : Type} (h₀ : Heap) (L : Addr) (s : Shared) (Led : σ → List (Addr × Obj)) (ps : σ → List (Str × Value)) (P : σ → Prop) (μ : σ → Nat) (Q : Flow → Shared → Prop) (c : σ) (f : Flow) (s₂ : Shared) : Prop :=
  match f with
  | .ret v => Q (.ret v) s₂
  | .brk => Q .next s₂
  | _ => WEnd h₀ L s Led ps P μ c s₂
theorem wend {σ : Type} {h₀ : Heap} {L : Addr} {s : Shared} {Led : σ → List (Addr × Obj)} {ps : σ → List (Str × Value)} {P : σ → Prop} {μ : σ → Nat} {c : σ} {h' : Heap} {tk : Nat} {m' : Str → Option Value} {news' : List (Addr × Obj)} (c' : σ)
    (F : Fr h₀ L h' m') (N : News h₀ L h' news') (hn : ∀ p ∈ Led c', p ∈ news') (hk : Has m' (ps c')) (hp : P c') (hm : μ c' < μ c) : WEnd h₀ L s Led ps P μ c { s with heap := h', toks := tk } := ⟨c', h', tk, m', news', rfl, F, N, hn, hk, hp, hm⟩
section
variable {prog : Program} {w : World} {A : Around} {Q : Flow → Shared → Prop} {s : Shared} {env : Env} {h₀ : Heap} {L : Addr}
theorem fr_ps {h : Heap} {ps : List (Str × Value)} {m₁ : Str → Option Value} (h1 : Has m₁ ps) (F : Fr h₀ L h m₁) : Fr h₀ L h (kstB m₁ ps) := by
  have em : kstB m₁ ps = m₁ := by
    funext y
    exact kstB_eq h1.all fun _ => rfl
  rw [em]
  exact F
/-- a while by what holds of it -/
theorem whileV {σ : Type} {test : Expr} {body : List Stmt} {pos : Pos} {m₀ : Str → Option Value} (Led : σ → List (Addr × Obj)) (ps : σ → List (Str × Value)) (P : σ → Prop) (μ : σ → Nat) (c₀ : σ)
    (F : Fr h₀ L s.heap m₀) (N : News h₀ L s.heap (Led c₀)) (hk : Has m₀ (ps c₀)) (hp : P c₀)
    (turn : ∀ (c : σ) (u : Str → Option Value) h tk (R : Flow → Shared → Prop) (X : Shared → Prop), P c → Fr h₀ L h (kstB u (ps c)) → News h₀ L h (Led c) → (∀ f s', WPost h₀ L s Led ps P μ Q c f s' → R f s') → (∀ s', Q .next s' → X s') →
      wpAny (model prog w) A (isTrue test env (eval test env)) (fun b s₂ =>
        if b = true then wpAny (model prog w) A (execs body env) R (fun _ _ => False) s₂ else X s₂) (fun _ _ => False) { s with heap := h, toks := tk }) :
    wpAny (model prog w) A (exec (.While test body [] pos) env) Q (fun _ _ => False) s := by
  refine While_inv2 (fun n m nx => ∃ c : σ, nx = Led c ∧ μ c = n ∧ Has m (ps c) ∧ P c) F N ⟨c₀, rfl, rfl, hk, hp⟩ ?_ PassesOwn.never
  rintro n m₁ nx h tk F₁ N₁ ⟨c, hnx, hsz, h1, hp'⟩
  rw [hnx] at N₁
  rw [← hsz]
  refine wpAny_mono (turn c m₁ h tk (WPost h₀ L s Led ps P μ Q c) (fun s' => Q .next s') hp' (fr_ps h1 F₁) N₁ (fun _ _ x => x) (fun _ x => x)) (fun b s₂ p => ?_) fun _ _ x => x
  cases b with
  | false => simpa using p
  | true =>
    simp only [if_true] at p ⊢
    refine wpAny_mono p (fun f s₃ q => ?_) fun _ _ x => x
    cases f with
    | ret v => exact q
    | brk => exact q
    | next =>
      obtain ⟨c', h', tk', m', news', rfl, F', N', hn, hk9, hp9, hm9⟩ := q
      exact ⟨h', tk', m', Led c', μ c', rfl, F', fun p hp => N' p (hn p hp), hm9, c', rfl, rfl, hk9, hp9⟩
    | cont =>
      obtain ⟨c', h', tk', m', news', rfl, F', N', hn, hk9, hp9, hm9⟩ := q
      exact ⟨h', tk', m', Led c', μ c', rfl, F', fun p hp => N' p (hn p hp), hm9, c', rfl, rfl, hk9, hp9⟩
/-- a for by what holds of it -/
theorem forV {σ : Type} {x : Str} {px : Pos} {it : Value} {body : List Stmt} {m₀ : Str → Option Value} (Led : σ → List (Addr × Obj)) (ps : σ → List (Str × Value)) (P : σ → Prop) (μ : σ → Nat) (c₀ : σ)
    (F : Fr h₀ L s.heap m₀) (N : News h₀ L s.heap (Led c₀)) (hk : Has m₀ (ps c₀)) (hp : P c₀)
    (turn : ∀ (c : σ) (u : Str → Option Value) h tk (R : Flow → Shared → Prop) (X : Shared → Prop), P c → Fr h₀ L h (kstB u (ps c)) → News h₀ L h (Led c) → (∀ f s', WPost h₀ L s Led ps P μ Q c f s' → R f s') → (∀ s', Q .next s' → X s') →
      wpAny (model prog w) A (pyNext it) (fun r s₁ => match r with
        | none => X s₁
        | some v => wpAny (model prog w) A (storeName env x v) (fun _ s₂ => wpAny (model prog w) A (execs body env) R (fun _ _ => False) s₂) (fun _ _ => False) s₁) (fun _ _ => False) { s with heap := h, toks := tk }) :
    codeAny (model prog w) A (.forLoop (.Name x px) it body [] env) (fun r s' => match r with | .ok f => Q f s' | .error e => cameBackBy (model prog w) A env (fun _ _ => False) e s') s := by
  refine codeAny_forLoop (fun n s' => ∃ c h tk m, s' = { s with heap := h, toks := tk } ∧ Fr h₀ L h m ∧ News h₀ L h (Led c) ∧ μ c = n ∧ Has m (ps c) ∧ P c) ?_ (μ c₀) ⟨c₀, s.heap, s.toks, m₀, rfl, F, N, rfl, hk, hp⟩
  rintro n s' ⟨c, h, tk, m, rfl, F₁, N₁, rfl, h1, hp'⟩
  refine wpAny_mono (turn c m h tk (WPost h₀ L s Led ps P μ Q c) (fun s' => Q .next s') hp' (fr_ps h1 F₁) N₁ (fun _ _ x => x) (fun _ x => x)) (fun r s₁ q => ?_) fun _ _ x => x.elim
  cases r with
  | none => exact wpAny_execs_nil q
  | some v =>
    refine wpAny_assign_Name (wpAny_mono q (fun _ s₂ q₂ => ?_) fun _ _ x => x.elim)
    refine wpAny_mono q₂ (fun f s₃ q₃ => ?_) fun _ _ x => x.elim
    cases f with
    | ret v => exact q₃
    | brk => exact q₃
    | next =>
      obtain ⟨c', h', tk', m', news', rfl, F', N', hn, hk9, hp9, hm9⟩ := q₃
      exact ⟨μ c', hm9, c', h', tk', m', rfl, F', fun p hp => N' p (hn p hp), rfl, hk9, hp9⟩
    | cont =>
      obtain ⟨c', h', tk', m', news', rfl, F', N', hn, hk9, hp9, hm9⟩ := q₃
      exact ⟨μ c', hm9, c', h', tk', m', rfl, F', fun p hp => N' p (hn p hp), rfl, hk9, hp9⟩
end
/-- here the walk stops -/
noncomputable def Stop (P : Prop) : Prop := P
theorem Stop.mk {P : Prop} (h : Stop P) : P := h
theorem Stop.out {P : Prop} (h : P) : Stop P := h
theorem st0 {a1 : _} {a2 : _} {a3 : _} {a4 : _} {a5 : _} {a6 : _} {a7 : _} {a8 : _} {a9 : _} {a10 : _} (h : Stop (wpAny a1 a2 (exec (Stmt.While a3 a4 a5 a6) a7) a8 a9 a10)) : wpAny a1 a2 (exec (Stmt.While a3 a4 a5 a6) a7) a8 a9 a10 := h
theorem st1 {a1 : _} {a2 : _} {a3 : _} {a4 : _} {a5 : _} {a6 : _} {a7 : _} {a8 : _} {a9 : _} {a10 : _} {a11 : _} (h : Stop (wpAny a1 a2 (exec (Stmt.For a3 a4 a5 a6 a7) a8) a9 a10 a11)) : wpAny a1 a2 (exec (Stmt.For a3 a4 a5 a6 a7) a8) a9 a10 a11 := h
theorem st2 {a1 : _} {a2 : _} {a3 : _} {a4 : _} {a5 : _} {a6 : _} {a7 : _} {a8 : _} (h : Stop (wpAny a1 a2 (call (Value.ref a3) a4 a5) a6 a7 a8)) : wpAny a1 a2 (call (Value.ref a3) a4 a5) a6 a7 a8 := h
theorem st3 {a1 : _} {a2 : _} {a3 : _} {a4 : _} {a5 : _} {a6 : _} {a7 : _} (h : Stop (wpAny a1 a2 (pyIter (Value.str a3 a4)) a5 a6 a7)) : wpAny a1 a2 (pyIter (Value.str a3 a4)) a5 a6 a7 := h
theorem st4 {a1 : _} {a2 : _} {a3 : _} {a4 : _} {a5 : _} {a6 : _} (h : Stop (wpAny a1 a2 (pyIter (Value.ref a3)) a4 a5 a6)) : wpAny a1 a2 (pyIter (Value.ref a3)) a4 a5 a6 := h
theorem st5 {a1 : _} {a2 : _} {a3 : _} {a4 : _} {a5 : _} {a6 : _} {a7 : _} {a8 : _} {a9 : _} {a10 : _} {a11 : _} (h : Stop (wpAny a1 a2 (subscriptTail a3 (Expr.Name a4 a5) (Value.ref a6) (Value.int a7 a8)) a9 a10 a11)) : wpAny a1 a2 (subscriptTail a3 (Expr.Name a4 a5) (Value.ref a6) (Value.int a7 a8)) a9 a10 a11 := h
theorem st6 {a1 : _} {a2 : _} {a3 : _} {a4 : _} {a5 : _} {a6 : _} {a7 : _} {a8 : _} {a9 : _} {a10 : _} {a11 : _} {a12 : _} {a13 : _} (h : Stop (wpAny a1 a2 (subscriptTail a3 (Expr.BinOp a4 a5 a6 a7) (Value.ref a8) (Value.int a9 a10)) a11 a12 a13)) : wpAny a1 a2 (subscriptTail a3 (Expr.BinOp a4 a5 a6 a7) (Value.ref a8) (Value.int a9 a10)) a11 a12 a13 := h
theorem st7 {a1 : _} {a2 : _} {a3 : _} {a4 : _} {a5 : _} {a6 : _} {a7 : _} (h : Stop (wpAny a1 a2 (call (Value.builtin "len") [Value.ref a3] a4) a5 a6 a7)) : wpAny a1 a2 (call (Value.builtin "len") [Value.ref a3] a4) a5 a6 a7 := h
theorem st8 {a1 : _} {a2 : _} {a3 : _} {a4 : _} {a5 : _} {a6 : _} {a7 : _} (h : Stop (wpAny a1 a2 (call (Value.builtin "sum") a3 a4) a5 a6 a7)) : wpAny a1 a2 (call (Value.builtin "sum") a3 a4) a5 a6 a7 := h
theorem st9 {a1 : _} {a2 : _} {a3 : _} {a4 : _} {a5 : _} {a6 : _} {a7 : _} (h : Stop (wpAny a1 a2 (call (Value.builtin "min") a3 a4) a5 a6 a7)) : wpAny a1 a2 (call (Value.builtin "min") a3 a4) a5 a6 a7 := h
theorem st10 {a1 : _} {a2 : _} {a3 : _} {a4 : _} {a5 : _} {a6 : _} {a7 : _} {a8 : _} {a9 : _} {a10 : _} {a11 : _} {a12 : _} (h : Stop (wpAny a1 a2 (subscriptTail a3 (Expr.UnaryOp a4 a5 a6) (Value.ref a7) (Value.int a8 a9)) a10 a11 a12)) : wpAny a1 a2 (subscriptTail a3 (Expr.UnaryOp a4 a5 a6) (Value.ref a7) (Value.int a8 a9)) a10 a11 a12 := h
theorem st11 {a1 : _} {a2 : _} {a3 : _} {a4 : _} {a5 : _} {a6 : _} {a7 : _} (h : Stop (wpAny a1 a2 (call (Value.builtin "sorted") a3 a4) a5 a6 a7)) : wpAny a1 a2 (call (Value.builtin "sorted") a3 a4) a5 a6 a7 := h
theorem st12 {a1 : _} {a2 : _} {a3 : _} {a4 : _} {a5 : _} {a6 : _} {a7 : _} {a8 : _} {a9 : _} {a10 : _} {a11 : _} {a12 : _} (h : Stop (wpAny a1 a2 (exec (Stmt.Assign a3 (Expr.ListComp a4 a5 a6 a7) a8) a9) a10 a11 a12)) : wpAny a1 a2 (exec (Stmt.Assign a3 (Expr.ListComp a4 a5 a6 a7) a8) a9) a10 a11 a12 := h
theorem dlt {a n c : Nat} (k : Nat) (h : a + n < c) (e : Nat.ble k n = true) : a + k < c := Nat.lt_of_le_of_lt (Nat.add_le_add_left (Nat.le_of_ble_eq_true e) a) h
theorem dlt0 {a n c : Nat} (h : a + n < c) : a < c := Nat.lt_of_le_of_lt (Nat.le_add_right a n) h

-- M2
local macro_rules | `(tactic| walk_at "exec While Name cons nil") => `(tactic| with_reducible refine st0 ?_)
local macro_rules | `(tactic| walk_at "exec While Compare cons nil") => `(tactic| walk_at "exec While Name cons nil")
local macro_rules | `(tactic| walk_at "exec While BoolOp cons nil") => `(tactic| walk_at "exec While Name cons nil")
local macro_rules | `(tactic| walk_at "exec For Name Name cons nil") => `(tactic| with_reducible refine st1 ?_)
local macro_rules | `(tactic| walk_at "exec For Name Call cons nil") => `(tactic| walk_at "exec For Name Name cons nil")
local macro_rules | `(tactic| walk_at "subscriptTail Name Slice bytes ref") => `(tactic| (refine' KBc.slice_K (s := ⟨_, _, _, _, _⟩) ?kf ?kn rfl ?kl ?ku ?kz ?_; (case kf => assumption); (case kn => assumption); (case kl => constructor); (case ku => constructor); (case kz => decide); intro _ _ _ _ _ _; refine Stop.mk ?_))
local macro_rules | `(tactic| walk_at "binaryOp Add bytes bytes") => `(tactic| refine Stop.mk ?_)
noncomputable def apL (n : Nat) : List Nat := if n = 0 then [] else if n < 16 then [65 + n] else if n < 256 then [65 + n / 16, 65 + n % 16] else [65 + n / 256, 65 + n / 16 % 16, 65 + n % 16]
noncomputable def apB (n : Nat) : List UInt8 := (apL n).map UInt8.ofNat
theorem apB_len (n : Nat) : (apB n).length ≤ 3 := by
  unfold apB apL
  split
  · simp
  · split
    · simp
    · split <;> simp
theorem ap_cutN : ∀ n : Fin 16, KBy.picked #[65, 66, 67, 68, 69, 70, 71, 72, 73, 74, 75, 76, 77, 78, 79, 80] (some (n.1 : Int)) (some ((n.1 : Int) + 1)) = #[UInt8.ofNat (65 + (n.1 : Int).toNat)] := by decide +kernel
theorem ap_cut (k : Int) (h0 : 0 ≤ k) (h1 : k < 16) : KBy.picked #[65, 66, 67, 68, 69, 70, 71, 72, 73, 74, 75, 76, 77, 78, 79, 80] (some k) (some (k + 1)) = #[UInt8.ofNat (65 + k.toNat)] := by
  have := ap_cutN ⟨k.toNat, by omega⟩
  dsimp only at this
  rwa [Int.toNat_of_nonneg h0] at this
theorem apB_step (n : Nat) (h0 : n ≠ 0) (h1 : n < 4096) : apB n = apB (n / 16) ++ [UInt8.ofNat (65 + n % 16)] := by
  by_cases h2 : n < 16
  · have e1 : n / 16 = 0 := by omega
    have e2 : n % 16 = n := by omega
    simp [apB, apL, h0, h2, e1, e2]
  · by_cases h3 : n < 256
    · have e1 : ¬ n / 16 = 0 := by omega
      have e2 : n / 16 < 16 := by omega
      simp [apB, apL, h0, h2, h3, e1, e2]
    · have e1 : ¬ n / 16 = 0 := by omega
      have e2 : ¬ n / 16 < 16 := by omega
      have e3 : n / 16 < 256 := by omega
      have e4 : n / 16 / 16 = n / 256 := by omega
      simp [apB, apL, h0, h2, h3, e1, e2, e3, e4]
section
variable {w : World} {loose : List Str} {mean : ExcName → Option Value} {mg mb : Str → Option Value} {dp un : Nat} {fr : Option (List Env)} {gd : Option (List Code)} {s : Shared} {Q E : Value → Shared → Prop}
theorem c_int2ap {i : Int} {ti : Tok} (G : Gnd w loose mean mg mb s.heap) (hd : dp + 1 < recursionLimit) (hu : un + 8 < cLine) (hi : -4096 < i ∧ i < 4096)
    (ret : ∀ t h' tk', Kp s.heap h' → Q (.bytes (apB i.natAbs).toArray t) { s with heap := h', toks := tk' }) :
    wpAny (model PySem.Challenge.rw_sn0008_01.row.prog w) (Ar dp un fr gd) (call (.ref 28) [.int i ti]) Q E s := by
  obtain ⟨X, T⟩ := G
  revert X; k_fill; intro X
  ((refine' enter ?k1 ?k2 ?k6 ?k7 ?k8 ?k9 ?kB ?_ ?c2 ?c3 ?c4 ?c5; (case k1 => assumption); (case k2 => assumption); (case k6 => k_is); (case k7 => k_is); (case k8 => exact dlt0 (by with_reducible assumption)); (case k9 => exact BindsTo.of_eq rfl); (case kB => exact locs rfl); (case c2 => exact rfl); (case c3 => exact rfl); (case c4 => exact rfl); (case c5 => decide)))
  intro L' h' F' N'
  dsimp only
  k_fold
  (repeat' (first | (k_unfold; (try dsimp only)) | walk1 | (dsimp only; walk1)))
  refine Stop.out ?_
  rename Fr _ _ _ _ => lF
  rename News _ _ _ _ => lN
  refine' whileV (σ := Int × Tok × List UInt8 × Tok) (fun _ => []) (fun c => [(Str.ofString "num", .int c.1 c.2.1), (Str.ofString "val", .bytes c.2.2.1.toArray c.2.2.2), (Str.ofString "AP", .bytes #[65, 66, 67, 68, 69, 70, 71, 72, 73, 74, 75, 76, 77, 78, 79, 80] _)])
    (fun c => 0 ≤ c.1 ∧ c.1 < 4096 ∧ apB i.natAbs = apB c.1.toNat ++ c.2.2.1) (fun c => c.1.toNat) ((if i < 0 then -i else i), _, [], _) lF lN ⟨rfl, rfl, rfl, trivial⟩ ?hp ?turn
  case hp =>
    have e : (if i < 0 then -i else i) = (i.natAbs : Int) := by omega
    refine ⟨?_, ?_, ?_⟩
    · show 0 ≤ (if i < 0 then -i else i); omega
    · show (if i < 0 then -i else i) < 4096; omega
    · show apB i.natAbs = apB (if i < 0 then -i else i).toNat ++ []; rw [e]; simp
  case turn =>
    rintro ⟨num, t1, val, t2⟩ u h tk R₁ X₁ ⟨h0, h1, h2⟩ F1 N1 hR hX
    clear lF lN
    dsimp only at F1 N1 h0 h1 h2 ⊢
    have hv : val.length ≤ 3 := by
      have e := congrArg List.length h2
      have e' := apB_len i.natAbs
      rw [List.length_append] at e
      omega
    (try k_fold)
    (repeat' (first | (k_unfold; (try dsimp only)) | walk1 | (dsimp only; walk1)))
    · refine Stop.out ?_
      have hf : num.fmod 16 = num % 16 := Int.fmod_eq_emod_of_nonneg _ (by omega)
      have hg : num.fdiv 16 = num / 16 := Int.fdiv_eq_ediv_of_nonneg _ (by omega)
      rw [ap_cut _ (by omega) (by omega)]
      (repeat' (first | (k_unfold; (try dsimp only)) | walk1 | (dsimp only; walk1)))
      refine Stop.out ?_
      dsimp only
      refine' KBy.add_bytes ?hz ?_
      case hz => show 1 + val.length ≤ _; omega
      intro t5 k5
      rw [show #[UInt8.ofNat (65 + (num.fmod 16).toNat)] ++ val.toArray = (UInt8.ofNat (65 + (num.fmod 16).toNat) :: val).toArray by simp]
      (repeat' (first | (k_unfold; (try dsimp only)) | walk1 | (dsimp only; walk1)))
      rename Fr _ _ _ _ => lF
      rename News _ _ _ _ => lN
      refine hR _ _ (show WEnd _ _ _ _ _ _ _ _ _ from ?_)
      refine wend (num.fdiv 16, _, UInt8.ofNat (65 + (num.fmod 16).toNat) :: val, _) lF lN (fun _ h => nomatch h) ⟨rfl, rfl, rfl, trivial⟩ ?_ ?_
      · dsimp only
        refine ⟨by omega, by omega, ?_⟩
        rw [h2, apB_step num.toNat (by omega) (by omega)]
        have e1 : num.toNat / 16 = (num.fdiv 16).toNat := by omega
        have e2 : num.toNat % 16 = (num.fmod 16).toNat := by omega
        rw [e1, e2]; simp
      · dsimp only; omega
    · refine hX _ ?_
      (repeat' (first | (k_unfold; (try dsimp only)) | walk1 | (dsimp only; walk1)))
      have e0 : num = 0 := by omega
      have e1 : val = apB i.natAbs := by rw [h2, e0]; rfl
      dsimp only
      rw [e1]
      exact ret _ _ _ (Fr.keep (by assumption))
end

-- M3
/-- what can be gone through: n items, the i-th a P i -/
noncomputable def Src (prog : Program) (w : World) (A : Around) (xv : Value) (s₁ : Shared) (n : Nat) (P : Nat → Value → Prop) (Extra : Heap → Prop) : Prop :=
  ∀ (Q : Value → Shared → Prop) (E : Value → Shared → Prop), (∀ I fp St h, Walks prog w A I fp [I] n P St → (∀ i h, St i h → ∃ o, h.get? I = some o) → (∀ i h h' o, St i h → h.get? I = some o → h'.get? I = some o → Extra h' → St i h') →
      St 0 h → (∀ b ∈ fp, b < h.objs.size) → s₁.heap.get? I = none → Kp s₁.heap h → Q (.ref I) { s₁ with heap := h }) →
    wpAny (model prog w) A (pyIter xv) Q E s₁
theorem Kp.push {h : Heap} (o : Obj) : Kp h (h.push o) := fun _ _ e => Heap.get?_push_of_some _ e
theorem get_size {h : Heap} : h.get? h.objs.size = none := by
  cases e : h.get? h.objs.size with
  | none => rfl
  | some o => exact absurd (Heap.lt_size e) (Nat.lt_irrefl _)
section
variable {prog : Program} {w : World} {A : Around} {s : Shared}
theorem src_str {x : Str} {t : Tok} (hh : A.handled = none) (ha : x.cps.all (· < 128) = true) : Src prog w A (.str x t) s x.cps.size (SignAt x) (fun _ => True) := fun Q E k =>
  wpAny_pyIter_ascii ha (k _ _ _ _ (Walks.strAscii hh s.heap.objs.size x t) (fun _ _ ⟨o, e, _⟩ => ⟨o, e⟩) (fun _ _ _ _ ⟨_, e, r⟩ e1 e2 _ => by rw [e] at e1; cases e1; exact ⟨_, e2, r⟩) ⟨_, Heap.get?_push_size _ rfl, rfl, rfl⟩ (fun b hb => by simp at hb; subst hb; rw [Heap.size_push]; exact Nat.lt_succ_self _) get_size (Kp.push _))
theorem src_bytes {b : Array UInt8} {t : Tok} (hh : A.handled = none) : Src prog w A (.bytes b t) s b.size (fun i v => ∃ c u, b[i]? = some c ∧ v = .int (c.toNat : Int) u) (fun _ => True) := fun Q E k =>
  KBw.pyIter_bytes (k _ _ _ _ (KBw.walks hh s.heap.objs.size b t) (fun _ _ ⟨o, e, _⟩ => ⟨o, e⟩) (fun _ _ _ _ ⟨_, e, r⟩ e1 e2 _ => by rw [e] at e1; cases e1; exact ⟨_, e2, r⟩) ⟨_, Heap.get?_push_size _ rfl, rfl, rfl⟩ (fun b hb => by simp at hb; subst hb; rw [Heap.size_push]; exact Nat.lt_succ_self _) get_size (Kp.push _))
theorem src_list {l : Addr} {items : Array Value} (hh : A.handled = none) (hl : s.heap.IsList l items) : Src prog w A (.ref l) s items.size (fun i v => items[i]? = some v) (fun h => h.IsList l items) := fun Q E k => by
  obtain ⟨o, ho, _⟩ := id hl
  have lt := Heap.lt_size ho
  refine wpAny_pyIter_list hl (k _ _ _ _ (Walks.list hh s.heap.objs.size l (Nat.ne_of_lt lt) items) (fun _ _ ⟨⟨o, e, _⟩, _⟩ => ⟨o, e⟩) (fun _ _ _ _ ⟨⟨_, e, r⟩, _⟩ e1 e2 x => by rw [e] at e1; cases e1; exact ⟨⟨_, e2, r⟩, x⟩) ⟨⟨_, Heap.get?_push_size _ rfl, rfl, rfl⟩, hl.push _⟩ (fun b hb => ?_) get_size (Kp.push _))
  rw [Heap.size_push]
  simp at hb
  rcases hb with rfl | rfl
  · exact Nat.lt_succ_self _
  · exact Nat.lt_succ_of_lt lt
theorem src_range {r : Addr} {a b : Int} {t u v : Tok} {n : Nat} (hh : A.handled = none) (hr : IsRange s.heap r a b 1 t u v) (hs : Builtin.Range.small a b 1 = true) (hn : Builtin.Range.rangeSize a b 1 = (n : Int)) :
    Src prog w A (.ref r) s n (fun i v => ∃ t, v = .int (a + (i : Int)) t) (fun _ => True) := fun Q E k =>
  wpAny_pyIter_range hr hs (k _ _ _ _ (LCg.range_walks hh a n) (fun _ _ e => ⟨_, e⟩) (fun _ _ _ _ e e1 e2 _ => by rw [show _ = some _ from e] at e1; cases e1; exact e2) (by rw [hn]; simpa [IsRangeIter, rawInt] using Heap.get?_push_size _ rfl) (fun b hb => by simp at hb; subst hb; rw [Heap.size_push]; exact Nat.lt_succ_self _) get_size (Kp.push _))
theorem Walks.lt {prog : Program} {w : World} {A : Around} {I : Addr} {fp wr : List Addr} {n : Nat} {P : Nat → Value → Prop} {St : Nat → Heap → Prop} (W : Walks prog w A I fp wr n P St) : Walks prog w A I fp wr n (fun i v => i < n ∧ P i v) St :=
  { W with item := fun i s Q E hi st h => W.item i s Q E hi st fun v h' tk' hv => h v h' tk' ⟨hi, hv⟩ }
/-- a comprehension -/
theorem compW {E : Value → Shared → Prop} {env : Env} {elt iter : Expr} {x : Str} {px : Pos} {scope : Scope} {cl : List (Str × Addr)} {pos : Pos} {Q : Value → Shared → Prop} (F : Value → Value → Prop)
    (hclos : closureFor scope env = pure cl) (hcell : ∀ y ∈ scope.names, y.2 ≠ .cell) (hkind : scope.kind = .function)
    (hnames : ∀ y ∈ scope.names, y.2 = .local → scope.names.lookup y.1 = some .local) (hx : scope.names.lookup x = some .local)
    (h : wpAny (model prog w) A (eval iter env) (fun xv s₁ => Stop (∃ n P Ex, Src prog w A xv s₁ n P Ex ∧ n ≤ sizeLine ∧
      (∀ C i v s₃ m₃ (R : Value → Shared → Prop), i < n → P i v → s₃.heap.Ns C m₃ → m₃ x = some v → Kp s₁.heap s₃.heap → (∀ y h' tk', F v y → Kp s₃.heap h' → R y { s₃ with heap := h', toks := tk' }) → wpAny (model prog w) A (eval elt (compEnvC scope cl C env)) R (fun _ _ => False) s₃) ∧
      (∀ D h' tk ys (vs : List Value), h'.PlainList D ys → s₁.heap.get? D = none → Kp s₁.heap h' → vs.length = n → (∀ j v, vs[j]? = some v → P j v) → Paired F vs ys.toList → Q (.ref D) { s₁ with heap := h', toks := tk }))) E s)
    (hs : ∀ x, foldedSetIterable iter env x = pure x := by intro _; rfl) :
    wpAny (model prog w) A (eval (.ListComp elt [⟨.Name x px, iter, [], 0⟩] scope pos) env) Q E s := by
  refine wpAny_ListComp_free (fun _ => true) F hclos hcell hkind hnames hx (wpAny_mono h (fun xv s₁ h₁ => ?_) fun _ _ e => e) hs
  obtain ⟨n, P, Ex, src, hn, helt, hfin⟩ := h₁
  refine src _ _ fun I fp St h W _ _ st hfp hI hk => ⟨I, fp, [I], n, fun i v => i < n ∧ P i v, St, rfl, Walks.lt W, hn, st, hfp, ⟨?_, ?_⟩, ?_⟩
  · intro C i v s₃ m₃ E' _ _ _ _ _ _
    exact wpAny_pure ⟨rfl, s₃.heap, s₃.toks, rfl, fun _ _ e => e⟩
  · intro C i v s₃ m₃ E' _ hP _ hns hm hkk _
    refine wpAny_mono (helt C i v s₃ m₃ _ hP.1 hP.2 hns hm (fun b o e => hkk b o (fun hb => ?_) (hk b o e)) fun y h' tk' hF hK => ⟨hF, h', tk', rfl, hK⟩) (fun _ _ q => q) (fun _ _ q => q.elim)
    simp at hb
    subst hb
    rw [hI] at e; cases e
  · intro D h' tk ys vs hD hl hpl hlen hP hF hkk
    rw [List.filter_eq_self.mpr fun _ _ => rfl] at hF
    refine hfin D h' tk ys vs hpl ?_ (fun b o e => hkk b o (fun hb => ?_) (hk b o e)) hlen (fun j v e => (hP j v e).2) hF
    · cases e : s₁.heap.get? D with
      | none => rfl
      | some o => have := hk D o e; rw [hD] at this; cases this
    · simp at hb
      subst hb
      rw [hI] at e; cases e
end
theorem Paired.of_map {α β γ : Type} {F : α → γ → Prop} {g : β → α} : ∀ {l : List β} {ys : List γ}, Paired (fun b y => F (g b) y) l ys → Paired F (l.map g) ys
  | _, _, .nil => .nil
  | _, _, .cons h r => .cons h (of_map r)
theorem paired_zip {α β γ : Type} {F : α → β → Prop} {G : γ → α → Prop} : ∀ {cs : List γ} {vs : List α} {ys : List β}, Paired G cs vs → Paired F vs ys → Paired (fun c y => ∃ v, G c v ∧ F v y) cs ys
  | _, _, _, .nil, .nil => .nil
  | _, _, _, .cons h r, .cons h' r' => .cons ⟨_, h, h'⟩ (paired_zip r r')
theorem paired_of_get {α β : Type} {G : α → β → Prop} : ∀ {cs : List α} {vs : List β}, cs.length = vs.length → (∀ (j : Nat) (c : α) (v : β), cs[j]? = some c → vs[j]? = some v → G c v) → Paired G cs vs
  | [], [], _, _ => .nil
  | c :: cs, v :: vs, hl, h => .cons (h 0 c v rfl rfl) (paired_of_get (Nat.succ.inj hl) fun j c' v' e1 e2 => h (j + 1) c' v' (by simpa using e1) (by simpa using e2))
theorem Paired.mono' {α β : Type} {F G : α → β → Prop} : ∀ {l : List α} {ys : List β}, (∀ a y, a ∈ l → F a y → G a y) → Paired F l ys → Paired G l ys
  | _, _, _, .nil => .nil
  | _, _, k, .cons h r => .cons (k _ _ (.head _) h) (mono' (fun a y m => k a y (.tail _ m)) r)
section
variable {prog : Program} {w : World} {A : Around} {Q : Flow → Shared → Prop} {s : Shared} {env : Env} {h₀ : Heap} {L : Addr}
/-- a for over what can be gone through -/
theorem forW {σ : Type} {x : Str} {px : Pos} {body : List Stmt} {m₀ : Str → Option Value} {I : Addr} {fp : List Addr} {n : Nat} {P : Nat → Value → Prop} {St : Nat → Heap → Prop} (W : Walks prog w A I fp [I] n P St)
    (Extra : Heap → Prop) (hobj : ∀ i h, St i h → ∃ o, h.get? I = some o) (hstab : ∀ i h h' o, St i h → h.get? I = some o → h'.get? I = some o → Extra h' → St i h')
    (Led : Nat → σ → List (Addr × Obj)) (ps : Nat → σ → List (Str × Value)) (J : Nat → σ → Prop) (c₀ : σ)
    (F : Fr h₀ L s.heap m₀) (N : News h₀ L s.heap (Led 0 c₀)) (hst : St 0 s.heap) (hIL : L ≠ I) (hI0 : h₀.get? I = none) (hIled : ∀ i c, J i c → ∀ p ∈ Led i c, p.1 ≠ I)
    (hex : ∀ i c h m, Fr h₀ L h m → News h₀ L h (Led i c) → Extra h) (hk : Has m₀ (ps 0 c₀)) (hp : J 0 c₀)
    (turn : ∀ i c v u h tk oI (R : Flow → Shared → Prop), i < n → P i v → J i c → Fr h₀ L h (kstB u (ps i c)) → News h₀ L h ((I, oI) :: Led i c) →
      (∀ c' h' tk' m' news', Fr h₀ L h' m' → News h₀ L h' news' → (I, oI) ∈ news' → (∀ p ∈ Led (i + 1) c', p ∈ news') → Has m' (ps (i + 1) c') → J (i + 1) c' → R .next { s with heap := h', toks := tk' }) →
      (∀ v' s', Q (.ret v') s' → R (.ret v') s') →
      wpAny (model prog w) A (storeName env x v) (fun _ s₂ => wpAny (model prog w) A (execs body env) R (fun _ _ => False) s₂) (fun _ _ => False) { s with heap := h, toks := tk })
    (fin : ∀ c h tk u, J n c → Fr h₀ L h (kstB u (ps n c)) → News h₀ L h (Led n c) → Q .next { s with heap := h, toks := tk }) :
    codeAny (model prog w) A (.forLoop (.Name x px) (.ref I) body [] env) (fun r s' => match r with | .ok f => Q f s' | .error e => cameBackBy (model prog w) A env (fun _ _ => False) e s') s := by
  refine codeAny_forLoop (fun k s' => ∃ i c h tk m, s' = { s with heap := h, toks := tk } ∧ k = n - i ∧ i ≤ n ∧ St i h ∧ Fr h₀ L h m ∧ News h₀ L h (Led i c) ∧ Has m (ps i c) ∧ J i c) ?_ n ⟨0, c₀, s.heap, s.toks, m₀, rfl, rfl, Nat.zero_le _, hst, F, N, hk, hp⟩
  rintro k s' ⟨i, c, h, tk, m, rfl, rfl, hin, st, F₁, N₁, h1, hj⟩
  by_cases hlt : i < n
  · refine W.item i _ _ _ hlt st fun v h' tk' hv st' hkeep => ?_
    obtain ⟨oI, hoI⟩ := hobj _ _ st'
    have F₂ := LCg.fr_but F₁ hkeep hIL hI0
    have N₂ : News h₀ L h' ((I, oI) :: Led i c) := by
      intro p hp
      rcases List.mem_cons.mp hp with rfl | hp
      · exact ⟨hoI, Ne.symm hIL, hI0⟩
      · exact LCg.news_but N₁ hkeep (hIled i c hj) p hp
    have T := turn i c v m h' tk' oI (fun f s₃ => match f with
      | .next | .cont => ∃ k', k' < n - i ∧ ∃ i c h tk m, s₃ = { s with heap := h, toks := tk } ∧ k' = n - i ∧ i ≤ n ∧ St i h ∧ Fr h₀ L h m ∧ News h₀ L h (Led i c) ∧ Has m (ps i c) ∧ J i c
      | .brk => Q .next s₃
      | .ret v => Q (.ret v) s₃) hlt hv hj (fr_ps h1 F₂) N₂ (fun c' h₃ tk₃ m₃ news₃ F₃ N₃ hm hled hk₃ hj₃ => ?_) (fun v' s' q => q)
    · refine wpAny_assign_Name (wpAny_mono T (fun _ s₂ q₂ => wpAny_mono q₂ (fun f s₃ q₃ => ?_) fun _ _ x => x.elim) fun _ _ x => x.elim)
      cases f <;> exact q₃
    · have N₄ : News h₀ L h₃ (Led (i + 1) c') := fun p hp => N₃ p (hled p hp)
      exact ⟨n - (i + 1), by omega, i + 1, c', h₃, tk₃, m₃, rfl, rfl, hlt, hstab _ _ _ _ st' hoI (N₃ _ hm).1 (hex _ _ _ _ F₃ N₄), F₃, N₄, hk₃, hj₃⟩
  · have e : i = n := by omega
    subst e
    refine W.done _ _ _ st fun h' tk' hkeep => wpAny_execs_nil ?_
    have F₂ := LCg.fr_but F₁ hkeep hIL hI0
    exact fin c h' tk' m hj (fr_ps h1 F₂) (LCg.news_but N₁ hkeep (hIled i c hj))
end
/-- strs that stand in a list -/
noncomputable def Strs (ys : List Value) (l : List Str) : Prop := Paired (fun x v => ∃ t, v = .str x t) l ys
theorem Strs.vals : ∀ {ys : List Value} {l : List Str}, Strs ys l → ∃ p : List (Str × Tok), ys = strValues p ∧ p.map (·.1) = l
  | _, _, .nil => ⟨[], rfl, rfl⟩
  | _, _, .cons (a := x) ⟨t, e⟩ r => by
    obtain ⟨p, e1, e2⟩ := Strs.vals r
    subst e; subst e1; subst e2
    exact ⟨(x, t) :: p, rfl, rfl⟩
/-- texts one behind the other -/
noncomputable def cat (l : List Str) : Str := ⟨(l.flatMap (·.cps.toList)).toArray⟩
theorem empty_cps : (Str.ofString "").cps = #[] := by decide +kernel
theorem join_cat : ∀ l : List Str, Str.join (Str.ofString "") l = cat l
  | [] => rfl
  | [x] => by
    show x = _
    unfold cat
    simp
  | x :: y :: r => by
    show x ++ Str.ofString "" ++ Str.join (Str.ofString "") (y :: r) = _
    rw [join_cat (y :: r)]
    unfold cat
    show Str.mk ((x.cps ++ (Str.ofString "").cps) ++ _) = _
    rw [empty_cps]
    congr 1
    apply Array.ext'
    simp
theorem cat_len (l : List Str) : (cat l).length = (l.map (·.length)).sum := by
  show (l.flatMap (·.cps.toList)).toArray.size = _
  rw [List.size_toArray, List.length_flatMap]
  congr 1
theorem foldl_len (l : List Str) : ∀ a : Nat, l.foldl (fun a x => a + x.length + 0) a = a + (l.map (·.length)).sum := by
  induction l with
  | nil => intro a; simp
  | cons x r ih => intro a; rw [List.foldl_cons, ih, List.map_cons, List.sum_cons]; omega
theorem join_strs {prog : Program} {w : World} {A : Around} {s : Shared} {Q E : Value → Shared → Prop} {D : Addr} {ys : Array Value} {l : List Str} {t : Tok} (hl : s.heap.PlainList D ys) (hs : Strs ys.toList l) (hz : (cat l).length ≤ sizeLine)
    (hq : ∀ t' k, Q (.str (cat l) t') { s with toks := k }) : wpAny (model prog w) A (call (.builtin "str.join") [.str (Str.ofString "") t, .ref D]) Q E s := by
  obtain ⟨p, e1, e2⟩ := Strs.vals hs
  refine SC.join (l := p) (texts := l) ?_ e2 ?_ ?_
  · have : ys = (strValues p).toArray := by apply Array.ext'; simpa using e1
    rw [← this]; exact hl.isList
  · show (!tooLong _) = true
    have e : (Str.ofString "").length = 0 := by decide +kernel
    rw [e, List.foldl_toArray, foldl_len, ← cat_len]
    have : ¬ (0 + (cat l).length > sizeLine) := by omega
    show (!decide (_ > sizeLine)) = true
    rw [decide_eq_false this]; rfl
  · intro t' k
    show Q (.str (glued (Str.ofString "") l) t') _
    rw [StrLaws.glued_eq_join, join_cat]; exact hq t' k

-- M4
local macro_rules | `(tactic| walk_at "eval ListComp") => `(tactic| refine Stop.mk ?_)
local macro_rules | `(tactic| walk_at "call ref") => `(tactic| with_reducible refine st2 ?_)
local macro_rules | `(tactic| walk_at "eval Name") => `(tactic| ((with_reducible show wpAny _ _ (eval (Expr.Name _ _) (compEnvC _ _ _ _)) _ _ _); k_dflt (first
  | refine ldVarK (by assumption) (by assumption) ?_
  | refine LCgL.ld_global (by k_asm) (by k_asm) (by k_asm) (by k_is) ?_
  | refine LCgL.ld_built (by k_asm) (by k_asm) (by k_asm) (by k_is) (by boot_by_name) (by decide) ?_)))
noncomputable def wordS (n : Nat) : Str := ⟨(apL n).toArray⟩
theorem apL_len (n : Nat) : (apL n).length ≤ 3 := by
  unfold apL
  split
  · simp
  · split
    · simp
    · split <;> simp
theorem apL_lt (n : Nat) (h : n < 4096) : ∀ c ∈ apL n, 65 ≤ c ∧ c < 81 := by
  intro c hc
  unfold apL at hc
  split at hc
  · simp at hc
  · split at hc
    · simp at hc; omega
    · split at hc
      · simp at hc; omega
      · simp at hc; omega
theorem word_cat (l : List Nat) : cat (l.map fun c => (⟨#[c]⟩ : Str)) = ⟨l.toArray⟩ := by
  unfold cat
  congr 2
  rw [List.flatMap_map]
  exact List.flatMap_singleton' l
theorem word_strs {n : Nat} {vs : List Value} {ys : Array Value} (hn : n < 4096) (hlen : vs.length = (apB n).length) (hP : ∀ (j : Nat) v, vs[j]? = some v → ∃ (c : UInt8) (u : Tok), (apB n).toArray[j]? = some c ∧ v = .int (c.toNat : Int) u)
    (hF : Paired (fun v y => ∃ (c : Nat) (t u : Tok), v = .int c t ∧ y = .str ⟨#[c]⟩ u) vs ys.toList) : Strs ys.toList ((apL n).map fun c => ⟨#[c]⟩) := by
  have h1 : Paired (fun (c : UInt8) v => ∃ u : Tok, v = Value.int (c.toNat : Int) u) (apB n) vs := paired_of_get hlen.symm fun j c v e1 e2 => by
    obtain ⟨c', u, e3, e4⟩ := hP j v e2
    rw [List.getElem?_toArray, e1] at e3
    cases e3
    exact ⟨u, e4⟩
  have h2 := paired_zip h1 hF
  refine Paired.of_map ?_
  unfold apB at h2
  have h3 : Paired (fun (c : Nat) y => ∃ t : Tok, y = Value.str ⟨#[(UInt8.ofNat c).toNat]⟩ t) (apL n) ys.toList := by
    have : ∀ {l : List Nat} {ys : List Value}, Paired (fun (c : UInt8) y => ∃ v, (∃ u : Tok, v = Value.int (c.toNat : Int) u) ∧ ∃ (c : Nat) (t u : Tok), v = .int c t ∧ y = .str ⟨#[c]⟩ u) (l.map UInt8.ofNat) ys → Paired (fun (c : Nat) y => ∃ t : Tok, y = Value.str ⟨#[(UInt8.ofNat c).toNat]⟩ t) l ys := by
      intro l
      induction l with
      | nil => intro ys h; cases h; exact .nil
      | cons c r ih =>
        intro ys h
        cases h with
        | cons h1 h2 =>
          obtain ⟨v, ⟨u, e1⟩, c', t, u', e2, e3⟩ := h1
          refine .cons ⟨u', ?_⟩ (ih h2)
          rw [e1] at e2
          have := (Value.int.inj e2).1
          rw [e3]
          have : (UInt8.ofNat c).toNat = c' := by omega
          rw [this]
    exact this h2
  refine Paired.mono' (fun c y hc h => ?_) h3
  obtain ⟨t, e⟩ := h
  have := apL_lt n hn c hc
  have e9 : (UInt8.ofNat c).toNat = c := by simp; omega
  rw [e9] at e
  exact ⟨t, e⟩
section
variable {w : World} {loose : List Str} {mean : ExcName → Option Value} {mg mb : Str → Option Value} {dp un : Nat} {fr : Option (List Env)} {gd : Option (List Code)} {s : Shared} {Q E : Value → Shared → Prop}
theorem c_word {v : Value} {x y z : Int} (G : Gnd w loose mean mg mb s.heap) (hd : dp + 2 < recursionLimit) (hu : un + 16 < cLine) (hv : P3 s.heap v x y z) (hx : 0 ≤ x ∧ x < 16) (hy : 0 ≤ y ∧ y < 16) (hz : 0 ≤ z ∧ z < 16)
    (ret : ∀ t h' tk', Kp s.heap h' → Q (.str (wordS (256 * x + 16 * y + z).toNat) t) { s with heap := h', toks := tk' }) :
    wpAny (model PySem.Challenge.rw_sn0008_01.row.prog w) (Ar dp un fr gd) (call (.ref 92) [v]) Q E s := by
  have X := G.X
  have T := G.T
  revert X; k_fill; intro X
  obtain ⟨b, t1, t2, t3, n, rfl, hb⟩ := hv
  have hb := tup3_is hb
  ((refine' enter ?k1 ?k2 ?k6 ?k7 ?k8 ?k9 ?kB ?_ ?c2 ?c3 ?c4 ?c5; (case k1 => assumption); (case k2 => assumption); (case k6 => k_is); (case k7 => k_is); (case k8 => exact dlt0 (by with_reducible assumption)); (case k9 => exact BindsTo.of_eq rfl); (case kB => exact locs rfl); (case c2 => exact rfl); (case c3 => exact rfl); (case c4 => exact rfl); (case c5 => decide)))
  intro L' h' F' N'
  dsimp only
  k_fold
  (repeat' (first | (k_unfold; (try dsimp only)) | walk1 | (dsimp only; walk1)))
  refine Stop.out ?_
  refine compW (cl := []) (fun v y => ∃ (c : Nat) (t u : Tok), v = .int c t ∧ y = .str ⟨#[c]⟩ u) (closureFor_none (by decide)) (by decide) rfl (by decide) rfl ?_
  (repeat' (first | (k_unfold; (try dsimp only)) | walk1 | (dsimp only; walk1)))
  refine Stop.out ?_
  rename Fr _ _ _ _ => lF
  rename News _ _ _ _ => lN
  refine c_int2ap (G.keeps lF.keep) (dlt 2 hd rfl) (dlt 11 hu rfl) (by omega) ?_
  intro t9 h9 tk9 kp
  refine Stop.out ⟨_, _, _, src_bytes rfl, ?_, ?_, ?_⟩
  · have := apB_len (-(256 * x + 16 * y + z)).natAbs
    rw [List.size_toArray]
    exact Nat.le_trans this (by decide)
  · intro C i v s₃ m₃ R _ hP hns hm hk hR
    obtain ⟨c, u, hc, rfl⟩ := hP
    have F3 := Fr.keeps (Fr.keeps lF kp) hk
    have N3 := News.grown (News.grown lN kp) hk
    have hc9 := c.toNat_lt
    clear lF lN
    (repeat' (first | (k_unfold; (try dsimp only)) | walk1 | (dsimp only; walk1)))
    exact hR _ _ _ ⟨c.toNat, _, _, rfl, rfl⟩ Kp.rfl
  · intro D h' tk ys vs hpl hD hk hlen hP hF
    have F3 := Fr.keeps (Fr.keeps lF kp) hk
    have N3 := News.grown (News.grown lN kp) hk
    clear lF lN
    have hs := word_strs (n := (256 * x + 16 * y + z).toNat) (vs := vs) (ys := ys) (by omega) (by rw [hlen, List.size_toArray]; congr 2; omega) (by intro j v e; have := hP j v e; rwa [show (-(256 * x + 16 * y + z)).natAbs = (256 * x + 16 * y + z).toNat by omega] at this) hF
    (repeat' (first | (k_unfold; (try dsimp only)) | walk1 | (dsimp only; walk1)))
    refine join_strs hpl hs ?_ ?_
    · rw [word_cat]; exact Nat.le_trans (apL_len _) (by decide)
    · intro t' k
      rw [word_cat]
      exact ret _ _ _ (Fr.keep F3)
end

-- M5
local macro_rules | `(tactic| walk_at "pyIter str") => `(tactic| with_reducible refine st3 ?_)
local macro_rules | `(tactic| walk_at "pyIter ref") => `(tactic| with_reducible refine st4 ?_)
/-- what the letters say -/
noncomputable def valL (cs : List Nat) : Int := cs.foldl (fun (a : Int) (c : Nat) => 16 * a + (c : Int) - 65) 0
theorem valL_snoc (cs : List Nat) (c : Nat) : valL (cs ++ [c]) = 16 * valL cs + (c : Int) - 65 := by
  unfold valL; rw [List.foldl_append]; rfl
theorem valL_apL (n : Nat) (h : n < 4096) : valL (apL n) = n := by
  unfold apL
  split
  · rename_i e; subst e; rfl
  · split
    · show 16 * 0 + ((65 + n : Nat) : Int) - 65 = n; omega
    · split
      · show 16 * (16 * 0 + ((65 + n / 16 : Nat) : Int) - 65) + ((65 + n % 16 : Nat) : Int) - 65 = n; omega
      · show 16 * (16 * (16 * 0 + ((65 + n / 256 : Nat) : Int) - 65) + ((65 + n / 16 % 16 : Nat) : Int) - 65) + ((65 + n % 16 : Nat) : Int) - 65 = n; omega
theorem wordS_ascii (n : Nat) (h : n < 4096) : (wordS n).cps.all (· < 128) = true := by
  rw [Array.all_eq_true']
  intro c hc
  have := apL_lt n h c (by simpa [wordS] using hc)
  simp; omega
section
variable {w : World} {loose : List Str} {mean : ExcName → Option Value} {mg mb : Str → Option Value} {dp un : Nat} {fr : Option (List Env)} {gd : Option (List Code)} {s : Shared} {Q E : Value → Shared → Prop}
theorem c_cross {v₁ v₂ : Value} {x y u v : Int} (G : Gnd w loose mean mg mb s.heap) (hd : dp + 1 < recursionLimit) (hu : un + 8 < cLine) (h₁ : P2 s.heap v₁ x y) (h₂ : P2 s.heap v₂ u v)
    (hx : -10000 ≤ x ∧ x ≤ 10000) (hy : -10000 ≤ y ∧ y ≤ 10000)
    (ret : ∀ t h' tk', Kp s.heap h' → Q (.int (x * v - y * u) t) { s with heap := h', toks := tk' }) :
    wpAny (model PySem.Challenge.rw_sn0008_01.row.prog w) (Ar dp un fr gd) (call (.ref 144) [v₁, v₂]) Q E s := by
  obtain ⟨b, t1, t2, n, rfl, hb⟩ := h₁
  obtain ⟨c, t3, t4, n', rfl, hc⟩ := h₂
  have hb := tup2_is hb
  have hc := tup2_is hc
  have X := G.X
  have T := G.T
  revert X; k_fill; intro X
  ((refine' enter ?k1 ?k2 ?k6 ?k7 ?k8 ?k9 ?kB ?_ ?c2 ?c3 ?c4 ?c5; (case k1 => assumption); (case k2 => assumption); (case k6 => k_is); (case k7 => k_is); (case k8 => exact dlt0 (by with_reducible assumption)); (case k9 => exact BindsTo.of_eq rfl); (case kB => exact locs rfl); (case c2 => exact rfl); (case c3 => exact rfl); (case c4 => exact rfl); (case c5 => decide)))
  intro L' h' F' N'
  dsimp only
  k_fold
  (repeat' (first | (k_unfold; (try dsimp only)) | walk1 | (dsimp only; walk1) | (dsimp only; k_unfold; (try dsimp only))))
  exact ret _ _ _ F'.keep
theorem c_step {v : Value} {x y z : Int} (G : Gnd w loose mean mg mb s.heap) (hd : dp + 1 < recursionLimit) (hu : un + 8 < cLine) (hv : P3 s.heap v x y z)
    (ret : ∀ v' h' tk', Kp s.heap h' → New2 s.heap h' v' (x - z) (y - z) → Q v' { s with heap := h', toks := tk' }) :
    wpAny (model PySem.Challenge.rw_sn0008_01.row.prog w) (Ar dp un fr gd) (call (.ref 137) [v]) Q E s := by
  obtain ⟨b, t1, t2, t3, n, rfl, hb⟩ := hv
  have hb := tup3_is hb
  have X := G.X
  have T := G.T
  revert X; k_fill; intro X
  ((refine' enter ?k1 ?k2 ?k6 ?k7 ?k8 ?k9 ?kB ?_ ?c2 ?c3 ?c4 ?c5; (case k1 => assumption); (case k2 => assumption); (case k6 => k_is); (case k7 => k_is); (case k8 => exact dlt0 (by with_reducible assumption)); (case k9 => exact BindsTo.of_eq rfl); (case kB => exact locs rfl); (case c2 => exact rfl); (case c3 => exact rfl); (case c4 => exact rfl); (case c5 => decide)))
  intro L' h' F' N'
  dsimp only
  k_fold
  (repeat' (first | (k_unfold; (try dsimp only)) | walk1 | (dsimp only; walk1) | (dsimp only; k_unfold; (try dsimp only))))
  rename Fr _ _ _ _ => lF
  rename News _ _ _ _ => lN
  exact ret _ _ _ lF.keep (New2.of lN (.head _) rfl rfl)
theorem c_light {n : Nat} {t : Tok} (G : Gnd w loose mean mg mb s.heap) (hd : dp + 1 < recursionLimit) (hu : un + 8 < cLine) (hn : n < 4096)
    (ret : ∀ v' h' tk', Kp s.heap h' → New3 s.heap h' v' ((n / 256 : Nat) : Int) ((n / 16 % 16 : Nat) : Int) ((n % 16 : Nat) : Int) → Q v' { s with heap := h', toks := tk' }) :
    wpAny (model PySem.Challenge.rw_sn0008_01.row.prog w) (Ar dp un fr gd) (call (.ref 99) [.str (wordS n) t]) Q E s := by
  have X := G.X
  have T := G.T
  revert X; k_fill; intro X
  ((refine' enter ?k1 ?k2 ?k6 ?k7 ?k8 ?k9 ?kB ?_ ?c2 ?c3 ?c4 ?c5; (case k1 => assumption); (case k2 => assumption); (case k6 => k_is); (case k7 => k_is); (case k8 => exact dlt0 (by with_reducible assumption)); (case k9 => exact BindsTo.of_eq rfl); (case kB => exact locs rfl); (case c2 => exact rfl); (case c3 => exact rfl); (case c4 => exact rfl); (case c5 => decide)))
  intro L' h' F' N'
  dsimp only
  k_fold
  (repeat' (first | (k_unfold; (try dsimp only)) | walk1 | (dsimp only; walk1) | (dsimp only; k_unfold; (try dsimp only))))
  refine Stop.out ?_
  refine wpAny_For ?_
  (repeat' (first | (k_unfold; (try dsimp only)) | walk1 | (dsimp only; walk1) | (dsimp only; k_unfold; (try dsimp only))))
  refine Stop.out ?_
  refine src_str rfl (wordS_ascii n hn) _ _ fun I fp St h W ho hs st hfp hI hk => ?_
  rename Fr _ _ _ _ => lF
  rename News _ _ _ _ => lN
  have hIL : L' ≠ I := fun e => by subst e; obtain ⟨o, _, _, e1, _⟩ := lF.ns; rw [e1] at hI; cases hI
  refine forW (σ := Int × Tok) W (fun _ => True) ho hs (fun _ _ => []) (fun _ c => [(Str.ofString "number", .int c.1 c.2)]) (fun i c => c.1 = valL ((apL n).take i)) (0, _) (lF.keeps hk) (lN.grown hk) st hIL ?_ ?_ (fun _ _ _ _ _ _ => trivial) ⟨rfl, trivial⟩ rfl ?turn ?fin
  · cases e : s.heap.get? I with
    | none => rfl
    | some o => rw [lF.keep _ _ e] at hI; cases hI
  · intro _ _ _ p hp; cases hp
  case turn =>
    rintro i ⟨num, t1⟩ v u h tk oI R hi ⟨c, t2, hc, rfl⟩ hj F1 N1 hR -
    clear lF lN
    dsimp only at F1 N1 hj ⊢
    (repeat' (first | (k_unfold; (try dsimp only)) | walk1 | (dsimp only; walk1) | (dsimp only; k_unfold; (try dsimp only))))
    rename Fr _ _ _ _ => lF
    rename News _ _ _ _ => lN
    refine hR (16 * num + (c : Int) - 65, _) _ _ _ _ lF lN (.head _) (fun _ hp => nomatch hp) ⟨rfl, trivial⟩ ?_
    show 16 * num + (c : Int) - 65 = _
    have e := List.take_succ_eq_append_getElem (l := apL n) (i := i) (by have := (Array.getElem?_eq_some_iff.mp hc).1; simpa [wordS] using this)
    have h8 : i < (apL n).length := by have := (Array.getElem?_eq_some_iff.mp hc).1; simpa [wordS] using this
    rw [e, valL_snoc, hj]
    have := (Array.getElem?_eq_some_iff.mp hc).2
    have h9 : c = (apL n)[i] := by simpa [wordS] using this.symm
    rw [← h9]
  case fin =>
    rintro ⟨num, t1⟩ h tk u hj F1 N1
    clear lF lN
    have e : num = n := by
      have := hj
      dsimp only at this
      rw [this, List.take_of_length_le (by show (apL n).length ≤ (apL n).toArray.size; simp), valL_apL n hn]
    subst e
    dsimp only at F1 ⊢
    (repeat' (first | (k_unfold; (try dsimp only)) | walk1 | (dsimp only; walk1) | (dsimp only; k_unfold; (try dsimp only))))
    rename Fr _ _ _ _ => lF
    rename News _ _ _ _ => lN
    have e1 : (n : Int).fdiv 256 = ((n / 256 : Nat) : Int) := by rw [Int.fdiv_eq_ediv_of_nonneg _ (by omega)]; omega
    have e2 : ((n : Int).fdiv 16).fmod 16 = ((n / 16 % 16 : Nat) : Int) := by rw [Int.fdiv_eq_ediv_of_nonneg _ (by omega), Int.fmod_eq_emod_of_nonneg _ (by omega)]; omega
    have e3 : (n : Int).fmod 16 = ((n % 16 : Nat) : Int) := by rw [Int.fmod_eq_emod_of_nonneg _ (by omega)]; omega
    exact ret _ _ _ lF.keep (New3.of lN (.head _) e1 e2 e3)
end

-- M6
theorem cmp_gt {prog : Program} {w : World} {A : Around} {items : Array Value} {f : Nat → UInt64} (hf : ∀ i v, items[i]? = some v → ∃ t, v = Value.float (f i) t) :
    CmpOf prog w A .Gt (fun i v => items[i]? = some v) (fun i j => Float64.cmp (f i) (f j) == some Ordering.gt) := fun i j vi vj s Q E hi hj h => by
  obtain ⟨t, rfl⟩ := hf i vi hi
  obtain ⟨u, rfl⟩ := hf j vj hj
  exact richCompare_gives (op := .Gt) (typeIs_float s _ t) (typeIs_float s _ u) PySem.F.slot_float_gt PySem.F.entry_float_gt (PySem.F.args_float_gt_2 _ _) (AutoFloatG4.float___gt___float_float_0 _ t _ u) (fun x => nomatch x) h
theorem cmp_lt {prog : Program} {w : World} {A : Around} {items : Array Value} {f : Nat → UInt64} (hf : ∀ i v, items[i]? = some v → ∃ t, v = Value.float (f i) t) :
    CmpOf prog w A .Lt (fun i v => items[i]? = some v) (fun i j => Float64.cmp (f i) (f j) == some Ordering.lt) := fun i j vi vj s Q E hi hj h => by
  obtain ⟨t, rfl⟩ := hf i vi hi
  obtain ⟨u, rfl⟩ := hf j vj hj
  exact richCompare_gives (op := .Lt) (typeIs_float s _ t) (typeIs_float s _ u) PySem.F.slot_float_lt PySem.F.entry_float_lt (PySem.F.args_float_lt_2 _ _) (AutoFloatG5.float___lt___float_float_0 _ t _ u) (fun x => nomatch x) h
theorem max3f {prog : Program} {w : World} {A : Around} {s : Shared} {Q E : Value → Shared → Prop} {f : Nat → UInt64} {t u x : Tok} (hh : A.handled = none)
    (h : ∀ t' h' tk, Kp s.heap h' → Q (.float (f (argBest (fun i j => Float64.cmp (f i) (f j) == some Ordering.gt) 2)) t') { s with heap := h', toks := tk }) :
    wpAny (model prog w) A (call (.builtin "max") [.float (f 0) t, .float (f 1) u, .float (f 2) x]) Q E s := by
  have hT : (s.heap.push { cls := .type "tuple", data := .seq #[.float (f 0) t, .float (f 1) u, .float (f 2) x] }).IsTuple s.heap.objs.size #[.float (f 0) t, .float (f 1) u, .float (f 2) x] := ⟨_, Heap.get?_push_size _ rfl, rfl, 0, rfl⟩
  have hf : ∀ (i : Nat) v, (#[Value.float (f 0) t, .float (f 1) u, .float (f 2) x])[i]? = some v → ∃ t, v = Value.float (f i) t := by
    intro i v e
    match i, e with
    | 0, e => exact ⟨_, (Option.some.inj e).symm⟩
    | 1, e => exact ⟨_, (Option.some.inj e).symm⟩
    | 2, e => exact ⟨_, (Option.some.inj e).symm⟩
    | n + 3, e => simp at e
  refine call_max_three (wpAny_pyIter_tuple hT ?_)
  have hsz : (s.heap.push { cls := .type "tuple", data := .seq #[.float (f 0) t, .float (f 1) u, .float (f 2) x] }).objs.size = s.heap.objs.size + 1 := Heap.size_push ..
  refine ⟨_, [_, s.heap.objs.size], [_], _, _, _, _, rfl, Walks.tuple (A := A.in1) hh _ s.heap.objs.size (by rw [hsz]; exact Nat.ne_of_lt (Nat.lt_succ_self _)) #[.float (f 0) t, .float (f 1) u, .float (f 2) x],
    ⟨⟨_, Heap.get?_push_size _ rfl, rfl, rfl⟩, hT.push _⟩, fun d hd => ?_, by simp, cmp_gt hf, fun v h' tk hP hk => ?_⟩
  · show d < ((s.heap.push _).push _).objs.size
    rw [Heap.size_push, hsz]
    rcases List.mem_cons.mp hd with rfl | hd
    · rw [hsz]; exact Nat.lt_succ_self _
    · rcases List.mem_cons.mp hd with rfl | hd
      · exact Nat.lt_succ_of_lt (Nat.lt_succ_self _)
      · cases hd
  · have hold : Kp s.heap h' := fun d o e => by
      refine hk d o (fun hm => ?_) (Heap.get?_push_of_some _ (Heap.get?_push_of_some _ e))
      rcases List.mem_cons.mp hm with e1 | hm
      · have := Heap.lt_size e; rw [e1, hsz] at this; exact Nat.lt_irrefl _ (Nat.lt_of_succ_lt this)
      · cases hm
    obtain ⟨t', rfl⟩ := hf _ v hP
    exact h t' h' tk hold
theorem min3f {prog : Program} {w : World} {A : Around} {s : Shared} {Q E : Value → Shared → Prop} {f : Nat → UInt64} {t u x : Tok} (hh : A.handled = none)
    (h : ∀ t' h' tk, Kp s.heap h' → Q (.float (f (argBest (fun i j => Float64.cmp (f i) (f j) == some Ordering.lt) 2)) t') { s with heap := h', toks := tk }) :
    wpAny (model prog w) A (call (.builtin "min") [.float (f 0) t, .float (f 1) u, .float (f 2) x]) Q E s := by
  have hT : (s.heap.push { cls := .type "tuple", data := .seq #[.float (f 0) t, .float (f 1) u, .float (f 2) x] }).IsTuple s.heap.objs.size #[.float (f 0) t, .float (f 1) u, .float (f 2) x] := ⟨_, Heap.get?_push_size _ rfl, rfl, 0, rfl⟩
  have hf : ∀ (i : Nat) v, (#[Value.float (f 0) t, .float (f 1) u, .float (f 2) x])[i]? = some v → ∃ t, v = Value.float (f i) t := by
    intro i v e
    match i, e with
    | 0, e => exact ⟨_, (Option.some.inj e).symm⟩
    | 1, e => exact ⟨_, (Option.some.inj e).symm⟩
    | 2, e => exact ⟨_, (Option.some.inj e).symm⟩
    | n + 3, e => simp at e
  refine call_min_three (wpAny_pyIter_tuple hT ?_)
  have hsz : (s.heap.push { cls := .type "tuple", data := .seq #[.float (f 0) t, .float (f 1) u, .float (f 2) x] }).objs.size = s.heap.objs.size + 1 := Heap.size_push ..
  refine ⟨_, [_, s.heap.objs.size], [_], _, _, _, _, rfl, Walks.tuple (A := A.in1) hh _ s.heap.objs.size (by rw [hsz]; exact Nat.ne_of_lt (Nat.lt_succ_self _)) #[.float (f 0) t, .float (f 1) u, .float (f 2) x],
    ⟨⟨_, Heap.get?_push_size _ rfl, rfl, rfl⟩, hT.push _⟩, fun d hd => ?_, by simp, cmp_lt hf, fun v h' tk hP hk => ?_⟩
  · show d < ((s.heap.push _).push _).objs.size
    rw [Heap.size_push, hsz]
    rcases List.mem_cons.mp hd with rfl | hd
    · rw [hsz]; exact Nat.lt_succ_self _
    · rcases List.mem_cons.mp hd with rfl | hd
      · exact Nat.lt_succ_of_lt (Nat.lt_succ_self _)
      · cases hd
  · have hold : Kp s.heap h' := fun d o e => by
      refine hk d o (fun hm => ?_) (Heap.get?_push_of_some _ (Heap.get?_push_of_some _ e))
      rcases List.mem_cons.mp hm with e1 | hm
      · have := Heap.lt_size e; rw [e1, hsz] at this; exact Nat.lt_irrefl _ (Nat.lt_of_succ_lt this)
      · cases hm
    obtain ⟨t', rfl⟩ := hf _ v hP
    exact h t' h' tk hold
noncomputable def f16 (k : Nat) : UInt64 := Float64.ofFrac false k 16
theorem f16_cmp : ∀ a : Fin 16, ∀ b : Fin 16, Float64.cmp (f16 a) (f16 b) = some (compare a.val b.val) := by decide +kernel
theorem f16_sub : ∀ a : Fin 16, ∀ b : Fin 16, b.val < a.val → Float64.isZero (Float64.sub (f16 a) (f16 b)) = false := by decide +kernel
theorem f16_add : ∀ a : Fin 16, ∀ b : Fin 16, 0 < a.val → Float64.isZero (Float64.add (f16 a) (f16 b)) = false := by decide +kernel
theorem f16_two : ∀ a : Fin 16, ∀ b : Fin 16, Float64.isZero (Float64.sub (Float64.sub 4611686018427387904 (f16 a)) (f16 b)) = false := by decide +kernel
theorem f16_gt {a b : Nat} (ha : a < 16) (hb : b < 16) : (Float64.cmp (f16 a) (f16 b) == some Ordering.gt) = decide (a > b) := by
  rw [show Float64.cmp (f16 a) (f16 b) = some (compare a b) from f16_cmp ⟨a, ha⟩ ⟨b, hb⟩]
  rw [Bool.eq_iff_iff]
  simp [Nat.compare_eq_gt]
theorem f16_lt {a b : Nat} (ha : a < 16) (hb : b < 16) : (Float64.cmp (f16 a) (f16 b) == some Ordering.lt) = decide (a < b) := by
  rw [show Float64.cmp (f16 a) (f16 b) = some (compare a b) from f16_cmp ⟨a, ha⟩ ⟨b, hb⟩]
  rw [Bool.eq_iff_iff]
  simp [Nat.compare_eq_lt]
theorem f16_eq {a b : Nat} (ha : a < 16) (hb : b < 16) : (Float64.cmp (f16 a) (f16 b) == some Ordering.eq) = decide (a = b) := by
  rw [show Float64.cmp (f16 a) (f16 b) = some (compare a b) from f16_cmp ⟨a, ha⟩ ⟨b, hb⟩]
  rw [Bool.eq_iff_iff]
  simp
theorem max16 {prog : Program} {w : World} {A : Around} {s : Shared} {Q E : Value → Shared → Prop} {r g b : Nat} {t u x : Tok} (hr : r < 16) (hg : g < 16) (hb : b < 16) (hh : A.handled = none)
    (h : ∀ t' h' tk, Kp s.heap h' → Q (.float (f16 (max (max r g) b)) t') { s with heap := h', toks := tk }) :
    wpAny (model prog w) A (call (.builtin "max") [.float (f16 r) t, .float (f16 g) u, .float (f16 b) x]) Q E s := by
  refine max3f (f := fun i => if i = 0 then f16 r else if i = 1 then f16 g else f16 b) hh fun t' h' tk hk => ?_
  have e : (fun i => if i = 0 then f16 r else if i = 1 then f16 g else f16 b) (argBest (fun i j => Float64.cmp ((fun i => if i = 0 then f16 r else if i = 1 then f16 g else f16 b) i) ((fun i => if i = 0 then f16 r else if i = 1 then f16 g else f16 b) j) == some Ordering.gt) 2) = f16 (max (max r g) b) := by
    by_cases h1 : g > r
    · by_cases h2 : b > g
      · rw [show max (max r g) b = b by omega]; simp [argBest, f16_gt, hr, hg, hb, h1, h2]
      · rw [show max (max r g) b = g by omega]; simp [argBest, f16_gt, hr, hg, hb, h1, h2]
    · by_cases h2 : b > r
      · rw [show max (max r g) b = b by omega]; simp [argBest, f16_gt, hr, hg, hb, h1, h2]
      · rw [show max (max r g) b = r by omega]; simp [argBest, f16_gt, hr, hg, hb, h1, h2]
  have key := h t' h' tk hk
  rw [← e] at key
  exact key
theorem min16 {prog : Program} {w : World} {A : Around} {s : Shared} {Q E : Value → Shared → Prop} {r g b : Nat} {t u x : Tok} (hr : r < 16) (hg : g < 16) (hb : b < 16) (hh : A.handled = none)
    (h : ∀ t' h' tk, Kp s.heap h' → Q (.float (f16 (min (min r g) b)) t') { s with heap := h', toks := tk }) :
    wpAny (model prog w) A (call (.builtin "min") [.float (f16 r) t, .float (f16 g) u, .float (f16 b) x]) Q E s := by
  refine min3f (f := fun i => if i = 0 then f16 r else if i = 1 then f16 g else f16 b) hh fun t' h' tk hk => ?_
  have e : (fun i => if i = 0 then f16 r else if i = 1 then f16 g else f16 b) (argBest (fun i j => Float64.cmp ((fun i => if i = 0 then f16 r else if i = 1 then f16 g else f16 b) i) ((fun i => if i = 0 then f16 r else if i = 1 then f16 g else f16 b) j) == some Ordering.lt) 2) = f16 (min (min r g) b) := by
    by_cases h1 : g < r
    · by_cases h2 : b < g
      · rw [show min (min r g) b = b by omega]; simp [argBest, f16_lt, hr, hg, hb, h1, h2]
      · rw [show min (min r g) b = g by omega]; simp [argBest, f16_lt, hr, hg, hb, h1, h2]
    · by_cases h2 : b < r
      · rw [show min (min r g) b = b by omega]; simp [argBest, f16_lt, hr, hg, hb, h1, h2]
      · rw [show min (min r g) b = r by omega]; simp [argBest, f16_lt, hr, hg, hb, h1, h2]
  have key := h t' h' tk hk
  rw [← e] at key
  exact key
local macro_rules | `(tactic| walk_at "call builtin:max") => `(tactic| (refine max16 (by assumption) (by assumption) (by assumption) rfl ?_; intro _ _ _ _; (((rename Kp _ _ => kp9z); (have F9z := Fr.keeps (by assumption) kp9z); (have N9z := News.grown (by assumption) kp9z); clear kp9z))))
local macro_rules | `(tactic| walk_at "call builtin:min") => `(tactic| (refine min16 (by assumption) (by assumption) (by assumption) rfl ?_; intro _ _ _ _; (((rename Kp _ _ => kp9z); (have F9z := Fr.keeps (by assumption) kp9z); (have N9z := News.grown (by assumption) kp9z); clear kp9z))))
local macro_rules | `(tactic| walk_at "binaryOp Div float float") => `(tactic| first | refine truediv_float_or rfl (fun hz => absurd hz (by decide +kernel)) (fun _ => ?_) | refine truediv_float_or rfl (fun hz => absurd (hz.symm.trans (by assumption)) (fun e => nomatch e)) (fun _ => ?_) | refine Stop.mk ?_)
/-- the hue as it is reckoned -/
noncomputable def hueR (r g b : Nat) : UInt64 :=
  let m := max (max r g) b
  let d := Float64.sub (f16 m) (f16 (min (min r g) b))
  let rc := Float64.div (Float64.sub (f16 m) (f16 r)) d
  let gc := Float64.div (Float64.sub (f16 m) (f16 g)) d
  let bc := Float64.div (Float64.sub (f16 m) (f16 b)) d
  if r = m then Float64.sub bc gc else if g = m then Float64.sub (Float64.add 4611686018427387904 rc) bc else Float64.sub (Float64.add 4616189618054758400 gc) rc
noncomputable def hueF (r g b : Nat) : UInt64 := (Float64.divmod (Float64.div (hueR r g b) 4618441417868443648) 4607182418800017408).2
/-- three floats stand there, made anew, the first known -/
noncomputable def F3 (h h' : Heap) (v : Value) (x : UInt64) : Prop := ∃ a l s t1 t2 t3 n, v = .ref a ∧ h'.get? a = some ({ cls := .type "tuple", data := .seq #[.float x t1, .float l t2, .float s t3] n } : Obj) ∧ h.get? a = none
theorem F3.of {h h' : Heap} {L a : Addr} {news : List (Addr × Obj)} {x x' l s : UInt64} {t1 t2 t3 : Tok} {n : Nat} (N : News h L h' news) (hm : (a, ({ cls := .type "tuple", data := .seq #[.float x t1, .float l t2, .float s t3] n } : Obj)) ∈ news) (e : x = x') : F3 h h' (.ref a) x' := by
  subst e; exact ⟨a, l, s, t1, t2, t3, n, rfl, N.get hm, N.fresh hm⟩
theorem arm1 {r g b : Nat} (hr : r < 16) (hg : g < 16) (hb : b < 16) (c : (Float64.cmp (f16 r) (f16 (max (max r g) b)) == some Ordering.eq) = true) : r = max (max r g) b := by
  rw [f16_eq hr (by omega)] at c; exact of_decide_eq_true c
theorem arm2 {r g b : Nat} (hr : r < 16) (hg : g < 16) (hb : b < 16) (c : (Float64.cmp (f16 r) (f16 (max (max r g) b)) == some Ordering.eq) = false) : ¬ r = max (max r g) b := by
  rw [f16_eq hr (by omega)] at c; exact of_decide_eq_false c
theorem arm3 {r g b : Nat} (hr : r < 16) (hg : g < 16) (hb : b < 16) (c : (Float64.cmp (f16 g) (f16 (max (max r g) b)) == some Ordering.eq) = true) : g = max (max r g) b := by
  rw [f16_eq hg (by omega)] at c; exact of_decide_eq_true c
theorem arm4 {r g b : Nat} (hr : r < 16) (hg : g < 16) (hb : b < 16) (c : (Float64.cmp (f16 g) (f16 (max (max r g) b)) == some Ordering.eq) = false) : ¬ g = max (max r g) b := by
  rw [f16_eq hg (by omega)] at c; exact of_decide_eq_false c
theorem arm5 {r g b : Nat} (hr : r < 16) (hg : g < 16) (hb : b < 16) (hm : min (min r g) b < max (max r g) b) (c : (Float64.cmp (f16 (min (min r g) b)) (f16 (max (max r g) b)) == some Ordering.eq) = true) : False := by
  rw [f16_eq (by omega) (by omega)] at c; have := of_decide_eq_true c; omega
theorem hue1 {r g b : Nat} (c : r = max (max r g) b) : hueF r g b = (Float64.divmod (Float64.div (Float64.sub (Float64.div (Float64.sub (f16 (max (max r g) b)) (f16 b)) (Float64.sub (f16 (max (max r g) b)) (f16 (min (min r g) b)))) (Float64.div (Float64.sub (f16 (max (max r g) b)) (f16 g)) (Float64.sub (f16 (max (max r g) b)) (f16 (min (min r g) b))))) 4618441417868443648) 4607182418800017408).2 := by
  unfold hueF hueR
  dsimp only
  rw [if_pos c]
theorem hue2 {r g b : Nat} (c : ¬ r = max (max r g) b) (c' : g = max (max r g) b) : hueF r g b = (Float64.divmod (Float64.div (Float64.sub (Float64.add 4611686018427387904 (Float64.div (Float64.sub (f16 (max (max r g) b)) (f16 r)) (Float64.sub (f16 (max (max r g) b)) (f16 (min (min r g) b))))) (Float64.div (Float64.sub (f16 (max (max r g) b)) (f16 b)) (Float64.sub (f16 (max (max r g) b)) (f16 (min (min r g) b))))) 4618441417868443648) 4607182418800017408).2 := by
  unfold hueF hueR
  dsimp only
  rw [if_neg c, if_pos c']
theorem hue3 {r g b : Nat} (c : ¬ r = max (max r g) b) (c' : ¬ g = max (max r g) b) : hueF r g b = (Float64.divmod (Float64.div (Float64.sub (Float64.add 4616189618054758400 (Float64.div (Float64.sub (f16 (max (max r g) b)) (f16 g)) (Float64.sub (f16 (max (max r g) b)) (f16 (min (min r g) b))))) (Float64.div (Float64.sub (f16 (max (max r g) b)) (f16 r)) (Float64.sub (f16 (max (max r g) b)) (f16 (min (min r g) b))))) 4618441417868443648) 4607182418800017408).2 := by
  unfold hueF hueR
  dsimp only
  rw [if_neg c, if_neg c']
section
variable {w : World} {loose : List Str} {mean : ExcName → Option Value} {mg mb : Str → Option Value} {dp un : Nat} {fr : Option (List Env)} {gd : Option (List Code)} {s : Shared} {Q E : Value → Shared → Prop}
theorem c_hls {r g b : Nat} {t1 t2 t3 : Tok} (G : Gnd w loose mean mg mb s.heap) (hd : dp + 1 < recursionLimit) (hu : un + 8 < cLine) (hr : r < 16) (hg : g < 16) (hb : b < 16) (hm : min (min r g) b < max (max r g) b)
    (ret : ∀ v' h' tk', Kp s.heap h' → F3 s.heap h' v' (hueF r g b) → Q v' { s with heap := h', toks := tk' }) :
    wpAny (model PySem.Challenge.rw_sn0008_01.row.prog w) (Ar dp un fr gd) (call (.ref 21) [.float (f16 r) t1, .float (f16 g) t2, .float (f16 b) t3]) Q E s := by
  have X := G.X
  have T := G.T
  revert X; k_fill; intro X
  have z1 : Float64.isZero (Float64.sub (f16 (max (max r g) b)) (f16 (min (min r g) b))) = false := f16_sub ⟨_, by omega⟩ ⟨_, by omega⟩ hm
  have z2 : Float64.isZero (Float64.add (f16 (max (max r g) b)) (f16 (min (min r g) b))) = false := f16_add ⟨_, by omega⟩ ⟨_, by omega⟩ (by show 0 < max (max r g) b; omega)
  have z3 : Float64.isZero (Float64.sub (Float64.sub 4611686018427387904 (f16 (max (max r g) b))) (f16 (min (min r g) b))) = false := f16_two ⟨_, by omega⟩ ⟨_, by omega⟩
  ((refine' enter ?k1 ?k2 ?k6 ?k7 ?k8 ?k9 ?kB ?_ ?c2 ?c3 ?c4 ?c5; (case k1 => assumption); (case k2 => assumption); (case k6 => k_is); (case k7 => k_is); (case k8 => exact dlt0 (by with_reducible assumption)); (case k9 => exact BindsTo.of_eq rfl); (case kB => exact locs rfl); (case c2 => exact rfl); (case c3 => exact rfl); (case c4 => exact rfl); (case c5 => decide)))
  intro L' h' F' N'
  dsimp only
  k_fold
  (repeat' (first | (k_unfold; (try dsimp only)) | walk1 | (dsimp only; walk1) | (dsimp only; k_unfold; (try dsimp only))))
  all_goals first
    | exact (arm5 hr hg hb hm (by assumption)).elim
    | ((rename Fr _ _ _ _ => lF); (rename News _ _ _ _ => lN); refine ret _ _ _ lF.keep (F3.of lN (.head _) (Eq.symm ?_)); first
        | exact hue1 (arm1 hr hg hb (by assumption))
        | exact hue2 (arm2 hr hg hb (by assumption)) (arm3 hr hg hb (by assumption))
        | exact hue3 (arm2 hr hg hb (by assumption)) (arm4 hr hg hb (by assumption)))
end

-- M7
noncomputable def hueN (n : Nat) : UInt64 := hueF (n / 256) (n / 16 % 16) (n % 16)
theorem f16_of {k : Nat} : Float64.ofFrac (decide ((k : Int) < 0) != decide ((16 : Int) < 0)) (k : Int).natAbs (Int.natAbs 16) = f16 k := by
  have : ¬ ((k : Int) < 0) := by omega
  unfold f16
  rw [decide_eq_false this]; rfl
/-- a word as it is spelled -/
noncomputable def spell (x : Str) (i : Int) : Str := if i = 0 then x ++ Str.ofString " " else if i = 1 then Str.ofString "\"" ++ x ++ Str.ofString "\"\n" else ⟨(x.cps.toList.flatMap fun c => [92, c]).toArray⟩ ++ Str.ofString "\t\n"
theorem esc_eq (c : Nat) : Str.ofString "\\" ++ (⟨#[c]⟩ : Str) = ⟨#[92, c]⟩ := by
  show Str.mk ((Str.ofString "\\").cps ++ #[c]) = _
  rw [show (Str.ofString "\\").cps = #[92] by decide +kernel]
  rfl
theorem esc_cat (l : List Nat) : cat (l.map fun c => (⟨#[92, c]⟩ : Str)) = ⟨(l.flatMap fun c => [92, c]).toArray⟩ := by
  unfold cat
  congr 2
  rw [List.flatMap_map]
section
variable {w : World} {loose : List Str} {mean : ExcName → Option Value} {mg mb : Str → Option Value} {dp un : Nat} {fr : Option (List Env)} {gd : Option (List Code)} {s : Shared} {Q E : Value → Shared → Prop}
theorem c_hue {n : Nat} {t : Tok} (G : Gnd w loose mean mg mb s.heap) (hd : dp + 2 < recursionLimit) (hu : un + 16 < cLine) (hn : n < 4096)
    (hm : min (min (n / 256) (n / 16 % 16)) (n % 16) < max (max (n / 256) (n / 16 % 16)) (n % 16))
    (ret : ∀ t' h' tk', Kp s.heap h' → Q (.float (hueN n) t') { s with heap := h', toks := tk' }) :
    wpAny (model PySem.Challenge.rw_sn0008_01.row.prog w) (Ar dp un fr gd) (call (.ref 130) [.str (wordS n) t]) Q E s := by
  have X := G.X
  have T := G.T
  revert X; k_fill; intro X
  ((refine' enter ?k1 ?k2 ?k6 ?k7 ?k8 ?k9 ?kB ?_ ?c2 ?c3 ?c4 ?c5; (case k1 => assumption); (case k2 => assumption); (case k6 => k_is); (case k7 => k_is); (case k8 => exact dlt0 (by with_reducible assumption)); (case k9 => exact BindsTo.of_eq rfl); (case kB => exact locs rfl); (case c2 => exact rfl); (case c3 => exact rfl); (case c4 => exact rfl); (case c5 => decide)))
  intro L' h' F' N'
  dsimp only
  k_fold
  (repeat' (first | (k_unfold; (try dsimp only)) | walk1 | (dsimp only; walk1) | (dsimp only; k_unfold; (try dsimp only))))
  refine Stop.out ?_
  rename Fr _ _ _ _ => lF
  rename News _ _ _ _ => lN
  refine c_light (G.keeps lF.keep) (dlt 2 hd rfl) (dlt 11 hu rfl) hn ?_
  intro v' h9 tk9 kp hp
  obtain ⟨a, t1, t2, t3, c, rfl, ha, hna⟩ := hp
  have F9 := lF.keeps kp
  have N9 := add_news lF kp lN ha hna
  clear lF lN
  (repeat' (first | (k_unfold; (try dsimp only)) | walk1 | (dsimp only; walk1) | (dsimp only; k_unfold; (try dsimp only))))
  rw [f16_of, f16_of, f16_of]
  refine Stop.out ?_
  rename Fr _ _ _ _ => lF
  rename News _ _ _ _ => lN
  refine c_hls (G.keeps lF.keep) (dlt 2 hd rfl) (dlt 11 hu rfl) (by omega) (by omega) (by omega) hm ?_
  intro v' h9 tk9 kp hp
  obtain ⟨a, l, s9, t1, t2, t3, c, rfl, ha, hna⟩ := hp
  have F9 := lF.keeps kp
  have N9 := add_news lF kp lN ha hna
  clear lF lN
  (repeat' (first | (k_unfold; (try dsimp only)) | walk1 | (dsimp only; walk1) | (dsimp only; k_unfold; (try dsimp only))))
  exact ret _ _ _ (Fr.keep (by assumption))
theorem c_spelled {x : Str} {t ti : Tok} {i : Int} (G : Gnd w loose mean mg mb s.heap) (hd : dp + 1 < recursionLimit) (hu : un + 8 < cLine) (hx : x.length ≤ 1000) (ha : x.cps.all (· < 128) = true)
    (ret : ∀ t' h' tk', Kp s.heap h' → Q (.str (spell x i) t') { s with heap := h', toks := tk' }) :
    wpAny (model PySem.Challenge.rw_sn0008_01.row.prog w) (Ar dp un fr gd) (call (.ref 87) [.str x t, .int i ti]) Q E s := by
  have X := G.X
  have T := G.T
  revert X; k_fill; intro X
  ((refine' enter ?k1 ?k2 ?k6 ?k7 ?k8 ?k9 ?kB ?_ ?c2 ?c3 ?c4 ?c5; (case k1 => assumption); (case k2 => assumption); (case k6 => k_is); (case k7 => k_is); (case k8 => exact dlt0 (by with_reducible assumption)); (case k9 => exact BindsTo.of_eq rfl); (case kB => exact locs rfl); (case c2 => exact rfl); (case c3 => exact rfl); (case c4 => exact rfl); (case c5 => decide)))
  intro L' h' F' N'
  dsimp only
  k_fold
  (repeat' (first | (k_unfold; (try dsimp only)) | walk1 | (dsimp only; walk1) | (dsimp only; k_unfold; (try dsimp only))))
  · have h0 : i = 0 := by omega
    have e : spell x i = x ++ Str.ofString " " := by unfold spell; rw [if_pos h0]
    rw [← e]
    exact ret _ _ _ (Fr.keep (by assumption))
  · have h0 : ¬ i = 0 := by omega
    have h1 : i = 1 := by omega
    have e : spell x i = Str.ofString "\"" ++ x ++ Str.ofString "\"\n" := by unfold spell; rw [if_neg h0, if_pos h1]
    rw [← e]
    exact ret _ _ _ (Fr.keep (by assumption))
  · have h0 : ¬ i = 0 := by omega
    have h1 : ¬ i = 1 := by omega
    have e9 : spell x i = ⟨(x.cps.toList.flatMap fun c => [92, c]).toArray⟩ ++ Str.ofString "\t\n" := by unfold spell; rw [if_neg h0, if_neg h1]
    refine Stop.out ?_
    refine compW (cl := []) (fun v y => ∃ (c : Nat) (t u : Tok), v = .str ⟨#[c]⟩ t ∧ y = .str ⟨#[92, c]⟩ u) (closureFor_none (by decide)) (by decide) rfl (by decide) rfl ?_
    (repeat' (first | (k_unfold; (try dsimp only)) | walk1 | (dsimp only; walk1) | (dsimp only; k_unfold; (try dsimp only))))
    rename Fr _ _ _ _ => lF
    rename News _ _ _ _ => lN
    refine Stop.out ⟨_, _, _, src_str rfl ha, ?_, ?_, ?_⟩
    · exact Nat.le_trans hx (by decide)
    · intro C i v s₃ m₃ R _ hP hns hm hk hR
      obtain ⟨c, u, hc, rfl⟩ := hP
      have F3 := Fr.keeps lF hk
      have N3 := News.grown lN hk
      clear lF lN
      (repeat' (first | (k_unfold; (try dsimp only)) | walk1 | (dsimp only; walk1) | (dsimp only; k_unfold; (try dsimp only))))
      rw [esc_eq]
      exact hR _ _ _ ⟨c, _, _, rfl, rfl⟩ Kp.rfl
    · intro D h' tk ys vs hpl hD hk hlen hP hF
      have F3 := Fr.keeps lF hk
      have N3 := News.grown lN hk
      clear lF lN
      have h1 : Paired (fun (c : Nat) v => ∃ u : Tok, v = Value.str ⟨#[c]⟩ u) x.cps.toList vs := paired_of_get (by rw [hlen]; simp) fun j c v e1 e2 => by
        obtain ⟨c', u, e3, e4⟩ := hP j v e2
        rw [← Array.getElem?_toList, e1] at e3
        cases e3
        exact ⟨u, e4⟩
      have hs : Strs ys.toList (x.cps.toList.map fun c => ⟨#[92, c]⟩) := Paired.of_map (Paired.mono' (fun c y _ h => by
        obtain ⟨v, ⟨u, e1⟩, c', t, u', e2, e3⟩ := h
        rw [e1] at e2
        cases e2
        exact ⟨u', e3⟩) (paired_zip h1 hF))
      (repeat' (first | (k_unfold; (try dsimp only)) | walk1 | (dsimp only; walk1) | (dsimp only; k_unfold; (try dsimp only))))
      have hz : (cat (x.cps.toList.map fun c => (⟨#[92, c]⟩ : Str))).length ≤ 2000 := by
        rw [cat_len, List.map_map]
        have : ∀ l : List Nat, (l.map ((fun (x : Str) => x.length) ∘ fun c => (⟨#[92, c]⟩ : Str))).sum = 2 * l.length := by
          intro l
          induction l with
          | nil => rfl
          | cons a r ih => rw [List.map_cons, List.sum_cons, ih]; show 2 + _ = _; rw [List.length_cons]; omega
        rw [this]
        have : x.cps.toList.length = x.length := by simp [Str.length]
        omega
      refine join_strs hpl hs (Nat.le_trans hz (by decide)) ?_
      intro t' k
      rw [esc_cat] at hz ⊢
      generalize (⟨(x.cps.toList.flatMap fun c => [92, c]).toArray⟩ : Str) = y at hz e9 ⊢
      (repeat' (first | (k_unfold; (try dsimp only)) | walk1 | (dsimp only; walk1) | (dsimp only; k_unfold; (try dsimp only))))
      rw [← e9]
      exact ret _ _ _ (Fr.keep (by assumption))
end

-- M8
namespace CI
theorem owner_ci : Manifest.owners.lookup (String.ofList ['r', 'o', 't', 'a', 'r', 'e', 't', 'i', '_', 'e', 'l', 'b', 'a', 'l', 'l', 'a', 'c'].reverse) = some Manifest.sig_callable_iterator := by kernel_rfl
theorem slot_next : Slot "callable_iterator" "__next__" "callable_iterator.__next__" :=
  .of (owner := "callable_iterator") (n := "__next__") (by rw [typeLookup_type, builtinLookup_eq_fast]; kernel_rfl) (by decide +kernel) (by decide +kernel) (by decide +kernel)
    (by first | exact .inl (by decide +kernel) | exact .inr (by decide +kernel)) (by rw [isSubtype_type]; kernel_rfl)
theorem entry_next : entryFor table "callable_iterator.__next__" = some Builtin.«callable_iterator.__next__» := entryFor_of_tree (by kernel_rfl)
theorem args_next (a : Value) : argsOk "callable_iterator.__next__" ⟨[a], []⟩ := by
  unfold argsOk; rw [signature?_of (id := "callable_iterator.__next__") (n := ['_', '_', 't', 'x', 'e', 'n', '_', '_']) (o := ['r', 'o', 't', 'a', 'r', 'e', 't', 'i', '_', 'e', 'l', 'b', 'a', 'l', 'l', 'a', 'c']) (by kernel_rfl) owner_ci]; kernel_rfl
theorem slot_iter : Slot "callable_iterator" "__iter__" "callable_iterator.__iter__" :=
  .of (owner := "callable_iterator") (n := "__iter__") (by rw [typeLookup_type, builtinLookup_eq_fast]; kernel_rfl) (by decide +kernel) (by decide +kernel) (by decide +kernel)
    (by first | exact .inl (by decide +kernel) | exact .inr (by decide +kernel)) (by rw [isSubtype_type]; kernel_rfl)
theorem entry_iter : entryFor table "callable_iterator.__iter__" = some Builtin.«dict_keyiterator.__iter__» := entryFor_alias (id' := "dict_keyiterator.__iter__") (by kernel_rfl) rfl (by decide +kernel) (by kernel_rfl)
theorem args_iter1 (a : Value) : argsOk "callable_iterator.__iter__" ⟨[a], []⟩ := by
  unfold argsOk; rw [signature?_of (id := "callable_iterator.__iter__") (n := ['_', '_', 'r', 'e', 't', 'i', '_', '_']) (o := ['r', 'o', 't', 'a', 'r', 'e', 't', 'i', '_', 'e', 'l', 'b', 'a', 'l', 'l', 'a', 'c']) (by kernel_rfl) owner_ci]; kernel_rfl
theorem args_iter (a b : Value) : argsOk "iter" ⟨[a, b], []⟩ := by unfold argsOk; kernel_rfl
theorem look_call : typeLookup (.type "method") "__call__" = pure (some (.builtin "method.__call__")) := by rw [typeLookup_type, builtinLookup_eq_fast]; kernel_rfl
end CI
/-- an iter that calls till it sees the empty text -/
noncomputable abbrev ciObj (q : Addr) (tt : Tok) : Obj := { cls := .type "callable_iterator", data := .fields #[.ref q, .str (Str.ofString "") tt, .bool false] }
section
variable {prog : Program} {w : World} {A : Around} {E : Value → Shared → Prop} {s : Shared}
theorem call_iter2 {q : Addr} {tt : Tok} {f self : Value} {Q : Value → Shared → Prop} (hq : s.heap.get? q = some (methodObj f self))
    (h : Q (.ref s.heap.objs.size) { s with heap := s.heap.push (ciObj q tt) }) :
    wpAny (model prog w) A (call (.builtin "iter") [.ref q, .str (Str.ofString "") tt]) Q E s := by
  refine call_function_entry (by decide +kernel) (by decide +kernel) kdk_entry_iter (CI.args_iter _ _) ?_
  unfold Builtin.«iter»
  refine wpAny_bind (m := someArgs "iter" 1 2 _) (wpAny_of_eq (a := [Value.ref q, .str (Str.ofString "") tt]) (by first | rfl | kernel_rfl!) ?_)
  show wpAny _ _ (specialOf (.ref q) "__call__" >>= _) _ _ _
  refine wpAny_bind (wpAny_specialOf (T := "method") ⟨_, hq, rfl⟩ CI.look_call ?_)
  refine wpAny_bind (wpAny_rule (wpAny_bind (wpAny_newObj_type (wpAny_pure ⟨_, rfl, h⟩))))
theorem pyIter_ci {I q : Addr} {tt : Tok} {Q : Value → Shared → Prop} (hI : s.heap.get? I = some (ciObj q tt)) (h : Q (.ref I) s) : wpAny (model prog w) A (pyIter (.ref I)) Q E s := by
  have hT : s.TypeIs (.ref I) "callable_iterator" := ⟨_, hI, rfl⟩
  refine wpAny_pyIter_slot hT CI.slot_iter (wpAny_call_entry CI.slot_iter hT CI.entry_iter ?_ (CI.args_iter1 _))
  show wpAny _ _ (ret (.ref I)) _ _ s
  exact wpAny_pure ⟨_, rfl, "callable_iterator", _, hT, CI.slot_next.lookup, h⟩
theorem borrows_m {q f : Addr} {self : Value} {fo : Obj} {fd : FuncData} {Q : Bool → Shared → Prop} (hq : s.heap.get? q = some (methodObj (.ref f) self)) (hf : s.heap.get? f = some fo) (hd : fo.data = .func fd) (h : Q true s) :
    wpAny (model prog w) A (borrowsExactly (.ref q)) Q E s := by
  unfold borrowsExactly
  refine wpAny_bind (wpAny_load hq ?_)
  show wpAny _ _ (load f >>= _) _ _ _
  refine wpAny_bind (wpAny_load hf ?_)
  rw [hd]
  exact wpAny_pure h
theorem letsGo {q f : Addr} {self : Value} {fo : Obj} {fd : FuncData} {who : String} {busy : Code → Bool} {Q : Unit → Shared → Prop} (hq : s.heap.get? q = some (methodObj (.ref f) self)) (hf : s.heap.get? f = some fo) (hd : fo.data = .func fd) (h : Q () s) :
    wpAny (model prog w) A (slotLetsGo who (.ref q) busy) Q E s := by
  unfold slotLetsGo
  refine wpAny_bind (borrows_m hq hf hd ?_)
  exact wpAny_pure h
theorem callB {f : Value} {pos : List Value} {Q : Value → Shared → Prop}
    (hc : codeAny (model prog w) A (.call f ⟨pos, []⟩) (fun r s' => match r with | .ok (.ret v) => Q v s' | .ok _ => False | .error e => E e s') s) :
    wpAny (model prog w) A (callBorrowed f pos) Q E s := by
  intro Γ p hΓ
  unfold callBorrowed
  rw [Sem.wp_call]
  refine wpCode_mono (fun r s' h' => ?_) (hc _ p rfl (hΓ.enter (.call f ⟨pos, []⟩) none p (by intro x; cases x)))
  cases r with
  | error e => exact h'
  | ok f => cases f <;> exact h'
/-- what a turn of such an iter does -/
noncomputable def CITurn (I q f : Addr) (tt : Tok) (self : Value) (Q : Option Value → Shared → Prop) (v : Value) (s : Shared) : Prop :=
  ∃ c t, v = .str c t ∧ s.heap.get? I = some (ciObj q tt) ∧ s.heap.get? q = some (methodObj (.ref f) self) ∧ (∃ fo fd, s.heap.get? f = some fo ∧ fo.data = .func fd) ∧
    (c ≠ Str.ofString "" → Q (some v) s) ∧ (c = Str.ofString "" → ∀ h', Heap.ExtBut I s.heap h' → Q none { s with heap := h' })
theorem next_ci {I q f : Addr} {tt : Tok} {self : Value} {fo : Obj} {fd : FuncData} {Q : Option Value → Shared → Prop} (hh : A.handled = none) (hI : s.heap.get? I = some (ciObj q tt)) (hq : s.heap.get? q = some (methodObj (.ref f) self))
    (hf : s.heap.get? f = some fo) (hd : fo.data = .func fd)
    (h : codeAny (model prog w) A.in1 (.call (.ref f) ⟨[self], []⟩) (fun r s' => match r with | .ok (.ret v) => CITurn I q f tt self Q v s' | _ => False) s) :
    wpAny (model prog w) A (pyNext (.ref I)) Q E s := by
  have hT : s.TypeIs (.ref I) "callable_iterator" := ⟨_, hI, rfl⟩
  unfold pyNext
  refine wpAny_bind (wpAny_attempt (wpAny_callSpecial?_slot (name := Str.ofString "__next__") hT CI.slot_next
    (wpAny_call_entry CI.slot_next hT CI.entry_next ?_ (CI.args_next _))))
  show wpAny _ _ (field (.ref I) 2 >>= _) _ _ s
  refine wpAny_bind (wpAny_field hI rfl (x := .bool false) rfl ?_)
  show wpAny _ _ (field (.ref I) 0 >>= _) _ _ s
  refine wpAny_bind (wpAny_field hI rfl (x := .ref q) rfl ?_)
  refine wpAny_bind (wpAny_attempt ?_)
  unfold callOutOfASlot
  refine wpAny_bind (borrows_m hq hf hd ?_)
  show wpAny _ _ (callBorrowed _ _) _ _ _
  refine callB (method_call hq (codeAny_mono h fun r s' h' => ?_))
  obtain _ | fl := r
  · exact h'.elim
  obtain v | _ | _ | _ := fl <;> try exact h'.elim
  obtain ⟨c, t, rfl, hI', hq', ⟨fo', fd', hf', hd'⟩, h1, h2⟩ := h'
  show wpAny _ _ (field (.ref I) 2 >>= _) _ _ s'
  refine wpAny_bind (wpAny_field hI' rfl (x := .bool false) rfl ?_)
  show wpAny _ _ (field (.ref I) 1 >>= _) _ _ s'
  refine wpAny_bind (wpAny_field hI' rfl (x := .str (Str.ofString "") tt) rfl ?_)
  refine wpAny_bind (wpAny_holding (wpAny_eqBool_str ?_))
  by_cases hc : Str.ofString "" = c
  · rw [decide_eq_true hc]
    simp only [Bool.not_true, Bool.false_eq_true, if_false]
    refine wpAny_bind (wpAny_rule ?_)
    show wpAny _ _ ((field (.ref I) 0 >>= fun v => slotLetsGo "callable_iterator.__next__" v _ >>= fun _ => setField (.ref I) 0 .none >>= fun _ => setField (.ref I) 1 .none >>= fun _ => setField (.ref I) 2 (.bool true)) >>= _) _ _ _
    refine wpAny_bind (wpAny_bind (wpAny_field hI' rfl (x := .ref q) rfl ?_))
    refine wpAny_bind (letsGo hq' hf' hd' ?_)
    refine wpAny_bind (wpAny_setField_rec hI' (by show 0 < 3; decide) fun h₁ g₁ k₁ => ?_)
    refine wpAny_bind (wpAny_setField_rec g₁ (by show 1 < 3; decide) fun h₂ g₂ k₂ => ?_)
    refine wpAny_setField_rec g₂ (by show 2 < 3; decide) fun h₃ g₃ k₃ => ?_
    show wpAny _ _ (newExc (.type "StopIteration") [] >>= _) _ _ _
    refine wpAny_bind ?_
    simp only [newExc, newTuple]
    refine wpAny_bind (wpAny_newObj_type ?_ (by size_fits))
    refine wpAny_bind (m := firstArgMember _ _) (wpAny_of_eq (a := Value.none) (by first | rfl | (simp only [firstArgMember]; rfl)) ?_)
    refine wpAny_newObj_type ?_ (by size_fits)
    simp only [raiseNew]
    refine wpAny_bind (wpAny_handled ?_)
    rw [show A.in1.handled = none from hh]
    refine wpAny_bind (wpAny_pure (wpAny_throw ?_))
    refine wpAny_bind (wpAny_isInstance (T := "StopIteration") (b := true) ⟨_, Heap.get?_push_size _ rfl, rfl⟩ isSubtype_stop ?_)
    refine wpAny_pure (h2 hc.symm _ ?_)
    have e3 : Heap.ExtBut I s'.heap h₃ := fun b o hb e => k₃.2 b hb ▸ k₂.2 b hb ▸ k₁.2 b hb ▸ e
    exact (e3.push _).push _
  · rw [decide_eq_false hc]
    exact wpAny_pure ⟨_, rfl, wpAny_pure (h1 (Ne.symm hc))⟩
end

-- M9
/-- these stand there, over a ground that they are no part of -/
structure On (g h : Heap) (news : List (Addr × Obj)) : Prop where
  keep : Kp g h
  size : g.objs.size ≤ h.objs.size
  has : ∀ p ∈ news, h.get? p.1 = some p.2 ∧ g.get? p.1 = none
theorem On.rfl {h : Heap} : On h h [] := ⟨Kp.rfl, Nat.le_refl _, fun _ x => nomatch x⟩
theorem Fr.lt {g h : Heap} {L : Addr} {m : Str → Option Value} (F : Fr g L h m) : L < h.objs.size := let ⟨_, _, _, e, _⟩ := F.ns; Heap.lt_size e
theorem On.of {g h : Heap} {L : Addr} {m : Str → Option Value} {news news' : List (Addr × Obj)} (F : Fr g L h m) (N : News g L h news) (hs : ∀ p ∈ news', p ∈ news) : On g h news' :=
  ⟨F.keep, Nat.le_trans F.above (Nat.le_of_lt (Fr.lt F)), fun p hp => ⟨(N p (hs p hp)).1, (N p (hs p hp)).2.2⟩⟩
/-- what changes is put aside -/
theorem On.aside {h₀ h : Heap} {L : Addr} {news mv : List (Addr × Obj)} (N : News h₀ L h news) (hs : ∀ p ∈ mv, p ∈ news) : On (hideAll h (mv.map (·.1))) h mv :=
  ⟨fun _ _ e => of_hideAll _ e, Nat.le_of_eq (hideAll_size _ _), fun p hp => ⟨(N p (hs p hp)).1, hideAll_none _ (List.mem_map_of_mem hp)⟩⟩
theorem Fr.aside {h₀ h : Heap} {L : Addr} {m : Str → Option Value} {news mv : List (Addr × Obj)} (F : Fr h₀ L h m) (N : News h₀ L h news) (hs : ∀ p ∈ mv, p ∈ news) : Kp h₀ (hideAll h (mv.map (·.1))) := fun b o e =>
  hideAll_get _ (F.keep b o e) fun q => by
    obtain ⟨p, hp, rfl⟩ := List.mem_map.mp q
    rw [(N p (hs p hp)).2.2] at e; cases e
theorem Fr.back {h₀ h h' : Heap} {L : Addr} {m : Str → Option Value} {news mv mv' : List (Addr × Obj)} (F : Fr h₀ L h m) (N : News h₀ L h news) (hs : ∀ p ∈ mv, p ∈ news) (O : On (hideAll h (mv.map (·.1))) h' mv') : Fr h₀ L h' m := by
  obtain ⟨oL, es, ep, hL, hLd, hLk, hLf⟩ := F.ns
  have nL : L ∉ mv.map (·.1) := fun q => by
    obtain ⟨p, hp, e⟩ := List.mem_map.mp q
    exact (N p (hs p hp)).2.1 e
  exact ⟨⟨oL, es, ep, O.keep L oL (hideAll_get _ hL nL), hLd, hLk, hLf⟩, fun b o e => O.keep b o (Fr.aside F N hs b o e), F.above⟩
theorem News.back {h₀ h h' : Heap} {L : Addr} {m : Str → Option Value} {news mv mv' rest : List (Addr × Obj)} (F : Fr h₀ L h m) (N : News h₀ L h news) (hs : ∀ p ∈ mv, p ∈ news) (O : On (hideAll h (mv.map (·.1))) h' mv')
    (hr : ∀ p ∈ rest, p ∈ news ∧ ∀ q ∈ mv, p.1 ≠ q.1) : News h₀ L h' (mv' ++ rest) := by
  intro p hp
  rcases List.mem_append.mp hp with hp | hp
  · refine ⟨(O.has p hp).1, fun e => ?_, ?_⟩
    · obtain ⟨oL, _, _, hL, _⟩ := F.ns
      have nL : L ∉ mv.map (·.1) := fun q => by
        obtain ⟨p, hp, e⟩ := List.mem_map.mp q
        exact (N p (hs p hp)).2.1 e
      have := (O.has p hp).2
      rw [e, hideAll_get _ hL nL] at this; cases this
    · cases e : h₀.get? p.1 with
      | none => rfl
      | some o => have := (O.has p hp).2; rw [Fr.aside F N hs _ _ e] at this; cases this
  · obtain ⟨h1, h2⟩ := hr p hp
    refine ⟨O.keep _ _ (hideAll_get _ (N p h1).1 fun q => ?_), (N p h1).2.1, (N p h1).2.2⟩
    obtain ⟨q, hq, e⟩ := List.mem_map.mp q
    exact h2 q hq e.symm
section
variable {prog : Program} {w : World} {A : Around} {E : Value → Shared → Prop} {s : Shared} {K : Frag} {p : Program} {loose : List Str} {mean : ExcName → Option Value} {mg mb : Str → Option Value} {Q : Value → Shared → Prop} {g : Heap} {news : List (Addr × Obj)}
theorem enterG {name qual : Str} {params : Arguments} {body : List Stmt} {scope : Scope} {dV kV doc pm cdv ct oc : Value} {an od : Option Addr} {osl : Array (Option Value)} {f : Addr} {args : List Value} {kw : List (Str × Value)} {binds : List (Str × Value)}
    (O : On g s.heap news) (X : K.In g) (T : Top p loose mean mg mb g)
    (ho : K.lookup f = some ⟨oc, od, .func (fnOf name qual params body scope dV kV doc pm an cdv ct), osl⟩) (hcd : codeIn K cdv qual = true) (hroom : A.depth < recursionLimit)
    (hbind : BindsTo s (fnOf name qual params body scope dV kV doc pm an cdv ct) ⟨args, kw⟩ binds) (hloc : ∀ y ∈ binds, scope.names.lookup y.1 = some .local)
    (h : ∀ L' h₁ tk, Fr g L' h₁ (fun y => binds.reverse.lookup y) → News g L' h₁ news → (∀ p ∈ news, p.1 < L') →
      wpAny (model prog w) (A.deeper (envOf qual scope L' f cdv)) (execs body (envOf qual scope L' f cdv))
        (fun fl s' => Q (match fl with | .ret v => v | _ => .none) s') (fun _ _ => False) { s with heap := h₁, toks := tk })
    (hco : scope.isCoroutine = false) (hgen : scope.isGenerator = false) (hk : scope.kind = .function)
    (hcell : ∀ x ∈ scope.names, x.2 ≠ .cell) : wpAny (model prog w) A (call (.ref f) args kw) Q E s :=
  wpAny_call (codeAny_call_def (fd := fnOf name qual params body scope dV kV doc pm an cdv ct) (body := body) (binds := binds) hroom (O.keep _ _ (X _ _ ho)) rfl (T.nolimit.keeps O.keep) ((codeRec_of X hcd).keeps O.keep) rfl hbind hcell hloc
    (fun h₁ hns hk₁ => wpAny_mono (h s.heap.objs.size h₁ _ ⟨hns, fun b o e => hk₁ b o (O.keep b o e), O.size⟩ (fun p hp => ⟨hk₁ _ _ (O.has p hp).1, Nat.ne_of_lt (Heap.lt_size (O.has p hp).1), (O.has p hp).2⟩) (fun p hp => Heap.lt_size (O.has p hp).1)) (fun _ _ q => q) (fun _ _ x => x.elim)) hco hgen hk)
theorem enterGc {R : Result → Shared → Prop} {name qual : Str} {params : Arguments} {body : List Stmt} {scope : Scope} {dV kV doc pm cdv ct oc : Value} {an od : Option Addr} {osl : Array (Option Value)} {f : Addr} {args : List Value} {kw : List (Str × Value)} {binds : List (Str × Value)}
    (O : On g s.heap news) (X : K.In g) (T : Top p loose mean mg mb g)
    (ho : K.lookup f = some ⟨oc, od, .func (fnOf name qual params body scope dV kV doc pm an cdv ct), osl⟩) (hcd : codeIn K cdv qual = true) (hroom : A.depth < recursionLimit)
    (hbind : BindsTo s (fnOf name qual params body scope dV kV doc pm an cdv ct) ⟨args, kw⟩ binds) (hloc : ∀ y ∈ binds, scope.names.lookup y.1 = some .local)
    (h : ∀ L' h₁ tk, Fr g L' h₁ (fun y => binds.reverse.lookup y) → News g L' h₁ news → (∀ p ∈ news, p.1 < L') →
      wpAny (model prog w) (A.deeper (envOf qual scope L' f cdv)) (execs body (envOf qual scope L' f cdv))
        (fun fl s' => R (.ok (.ret (match fl with | .ret v => v | _ => .none))) s') (fun _ _ => False) { s with heap := h₁, toks := tk })
    (hco : scope.isCoroutine = false) (hgen : scope.isGenerator = false) (hk : scope.kind = .function)
    (hcell : ∀ x ∈ scope.names, x.2 ≠ .cell) : codeAny (model prog w) A (.call (.ref f) ⟨args, kw⟩) R s :=
  (codeAny_call_def (fd := fnOf name qual params body scope dV kV doc pm an cdv ct) (body := body) (binds := binds) hroom (O.keep _ _ (X _ _ ho)) rfl (T.nolimit.keeps O.keep) ((codeRec_of X hcd).keeps O.keep) rfl hbind hcell hloc
    (fun h₁ hns hk₁ => wpAny_mono (h s.heap.objs.size h₁ _ ⟨hns, fun b o e => hk₁ b o (O.keep b o e), O.size⟩ (fun p hp => ⟨hk₁ _ _ (O.has p hp).1, Nat.ne_of_lt (Heap.lt_size (O.has p hp).1), (O.has p hp).2⟩) (fun p hp => Heap.lt_size (O.has p hp).1)) (fun _ _ q => q) (fun _ _ x => x.elim)) hco hgen hk)
theorem enterGX {name qual : Str} {params : Arguments} {body : List Stmt} {scope : Scope} {cl : List (Str × Addr)} {dV kV doc pm cdv ct : Value} {an : Option Addr} {fo : Obj} {f : Addr} {args : List Value} {kw : List (Str × Value)} {binds : List (Str × Value)}
    (O : On g s.heap news) (T : Top p loose mean mg mb g)
    (ho : s.heap.get? f = some fo) (hd : fo.data = .func (fnX name qual params body scope cl dV kV doc pm an cdv ct)) (hcd : s.heap.CodeRec cdv qual) (hroom : A.depth < recursionLimit)
    (hbind : BindsTo s (fnX name qual params body scope cl dV kV doc pm an cdv ct) ⟨args, kw⟩ binds) (hloc : ∀ y ∈ binds, scope.names.lookup y.1 = some .local)
    (h : ∀ L' h₁ tk, Fr g L' h₁ (fun y => binds.reverse.lookup y) → News g L' h₁ news → (∀ p ∈ news, p.1 < L') →
      wpAny (model prog w) (A.deeper (envX qual scope L' f cdv cl)) (execs body (envX qual scope L' f cdv cl))
        (fun fl s' => Q (match fl with | .ret v => v | _ => .none) s') (fun _ _ => False) { s with heap := h₁, toks := tk })
    (hco : scope.isCoroutine = false) (hgen : scope.isGenerator = false) (hk : scope.kind = .function)
    (hcell : ∀ x ∈ scope.names, x.2 ≠ .cell) : wpAny (model prog w) A (call (.ref f) args kw) Q E s :=
  wpAny_call (codeAny_call_def (fd := fnX name qual params body scope cl dV kV doc pm an cdv ct) (body := body) (binds := binds) hroom ho hd (T.nolimit.keeps O.keep) hcd rfl hbind hcell hloc
    (fun h₁ hns hk₁ => wpAny_mono (h s.heap.objs.size h₁ _ ⟨hns, fun b o e => hk₁ b o (O.keep b o e), O.size⟩ (fun p hp => ⟨hk₁ _ _ (O.has p hp).1, Nat.ne_of_lt (Heap.lt_size (O.has p hp).1), (O.has p hp).2⟩) (fun p hp => Heap.lt_size (O.has p hp).1)) (fun _ _ q => q) (fun _ _ x => x.elim)) hco hgen hk)
theorem enterGC {name qual : Str} {params : Arguments} {body : List Stmt} {scope : Scope} {dV kV doc pm cdv ct oc : Value} {an od : Option Addr} {osl : Array (Option Value)} {f : Addr} {args : List Value} {kw : List (Str × Value)} {binds : List (Str × Value)}
    (O : On g s.heap news) (X : K.In g) (T : Top p loose mean mg mb g)
    (ho : K.lookup f = some ⟨oc, od, .func (fnOf name qual params body scope dV kV doc pm an cdv ct), osl⟩) (hcd : codeIn K cdv qual = true) (hroom : A.depth < recursionLimit)
    (hbind : BindsTo s (fnOf name qual params body scope dV kV doc pm an cdv ct) ⟨args, kw⟩ binds)
    (hkind : (binds.all fun y => scope.names.lookup y.1 == some .local || scope.names.lookup y.1 == some .cell) = true)
    (hnd : ((cellsFrom 0 scope.names []).map (·.1)).Nodup)
    (h : ∀ L' h₁ tk cells, Fr g L' h₁ (bindL (envOfC qual scope L' f cdv).kindOf binds fun _ => none) → News g L' h₁ (cells ++ news) →
      CellsAre (bindC (envOfC qual scope L' f cdv).kindOf binds fun _ => none) (cellsFrom (L' + 1) scope.names []) cells → (∀ p ∈ news, p.1 < L') →
      wpAny (model prog w) (A.deeper (envOfC qual scope L' f cdv)) (execs body (envOfC qual scope L' f cdv))
        (fun fl s' => Q (match fl with | .ret v => v | _ => .none) s') (fun _ _ => False) { s with heap := h₁, toks := tk })
    (hco : scope.isCoroutine = false) (hgen : scope.isGenerator = false) (hk : scope.kind = .function) : wpAny (model prog w) A (call (.ref f) args kw) Q E s := by
  refine wpAny_call (codeAny_call_function hroom (O.keep _ _ (X _ _ ho)) rfl hco hgen rfl ((codeRec_of X hcd).keeps O.keep) (hbind _ _ _ _ ?_))
  refine wpAny_newFunctionEnv_cells hk (kindsX hkind _) fun env' he s' x => ?_
  subst he
  refine ⟨(T.nolimit.keeps O.keep).keeps x.toInCall.keep, codeAny_func ?_⟩
  obtain ⟨h₁, tk, rfl, _⟩ := x.done
  have hk₁ := x.toInCall.keep
  obtain ⟨cells, NC, Y⟩ := Cl.news (h₀ := s.heap) (Nat.le_refl _) fun n c hm => ⟨x.cell n c (lookup_of_mem_nodup (cellsFrom_names scope.names 0 (s.heap.objs.size + 1) [] [] rfl ▸ hnd) hm), x.above n c hm⟩
  refine wpAny_mono (h s.heap.objs.size h₁ tk cells ⟨x.toInCall.ns, fun b o e => hk₁ b o (O.keep b o e), O.size⟩ (fun p hp => ?_) Y (fun p hp => Heap.lt_size (O.has p hp).1)) (fun fl s' q => q) fun _ _ y => y.elim
  rcases List.mem_append.mp hp with hp | hp
  · refine ⟨(NC p hp).1, (NC p hp).2.1, ?_⟩
    cases q : g.get? p.1 with
    | none => rfl
    | some o => have := O.keep _ _ q; rw [(NC p hp).2.2] at this; cases this
  · exact ⟨hk₁ _ _ (O.has p hp).1, Nat.ne_of_lt (Heap.lt_size (O.has p hp).1), (O.has p hp).2⟩
end

-- M11
section
open Builtin.ObjectAttr
theorem store_fn : StoreFacts "function" [.type "function", .type "object"] "object.__setattr__" "object" where
  mro := by kernel_rfl
  slot := .of (owner := "object") (n := "__setattr__") (by rw [typeLookup_type, builtinLookup_eq_fast]; kernel_rfl) (by decide +kernel) (by decide +kernel) (by decide +kernel)
    (by first | exact .inl (by decide +kernel) | exact .inr (by decide +kernel)) (by rw [isSubtype_type]; kernel_rfl)
  entry := PySem.F.store_object.entry
  kind := by decide +kernel
  split := by decide +kernel
  hasOwner := by decide +kernel
  args := fun a b c => by unfold argsOk; kernel_rfl
  passes := fun self => by kernel_rfl
theorem look_read : typeLookup (.type "function") "read" = pure none := by rw [typeLookup_type, builtinLookup_eq_fast]; kernel_rfl
section
variable {prog : Program} {w : World} {A : Around} {E : Value → Shared → Prop} {s : Shared} {h₀ : Heap} {L : Addr} {m : Str → Option Value} {news : List (Addr × Obj)} {news' : Addr → List (Addr × Obj)}
noncomputable abbrev fnObj (fd : FuncData) (d : Option Addr) : Obj := { cls := .type "function", dict := d, data := .func fd }
noncomputable abbrev readDict (hh : Int) (t : Tok) (v : Value) : Obj := dictOf [⟨hh, .str (Str.ofString "read") t, v⟩] 1
/-- a name is set on a function -/
theorem set_fn {f : Addr} {fd : FuncData} {v : Value} {Q : Unit → Shared → Prop} (F : Fr h₀ L s.heap m) (N : News h₀ L s.heap news) (hf : (f, fnObj fd none) ∈ news) (U : ∀ d, Upd f (fnObj fd none) (fnObj fd (some d)) news (news' d))
    (h : ∀ d h' hh t, Fr h₀ L h' m → News h₀ L h' ((d, readDict hh t v) :: news' d) → (∀ p ∈ news, p.1 < d) → Q () { s with heap := h', toks := s.toks + 2 }) :
    wpAny (model prog w) A (setAttr (.ref f) (Str.ofString "read") v) Q E s := by
  have hg := (N _ hf).1
  have hT : s.TypeIs (.ref f) "function" := ⟨_, hg, rfl⟩
  unfold setAttr
  refine wpAny_bind (wpAny_mkText (wpAny_bind (wpAny_callSpecial?_slot (s := { s with toks := s.toks + 1 }) hT store_fn.slot (wpAny_call (codeAny_call_builtin store_fn.slot.plain store_fn.entry (store_fn.slot.check _ _ _ _ _ _ _ _ hT (store_fn.args _ _ _) ?_))))))
  rw [osa_eq, refuse_eq]
  refine wpAny_bind (wpAny_bind (wpAny_typeOf (s := { s with toks := s.toks + 1 }) hT (wpAny_bind (wpAny_of_eq store_fn.mro ?_))))
  rw [store_fn.passes]
  refine wpAny_pure (wpAny_bind (wpAny_typeOf (s := { s with toks := s.toks + 1 }) hT (wpAny_bind (wpAny_of_eq look_read ?_))))
  show wpAny _ _ (pure none >>= _) _ _ _
  refine wpAny_bind (wpAny_pure ?_)
  show wpAny _ _ (storeInOwnDict _ _ _ _ _ _) _ _ _
  unfold storeInOwnDict
  refine wpAny_bind (wpAny_pure ?_)
  show wpAny _ _ (instanceDict f true >>= _) _ _ _
  refine wpAny_bind ?_
  unfold instanceDict
  refine wpAny_bind (wpAny_loadPart hg ?_)
  show wpAny _ _ (alloc _ >>= _) _ _ _
  refine wpAny_bind (wpAny_alloc ?_)
  have hg2 : (s.heap.push { cls := .type "dict", data := .dict #[] }).get? f = some (fnObj fd none) := Heap.get?_push_of_some _ hg
  refine wpAny_bind (wpAny_update hg2 ?_)
  refine wpAny_pure ?_
  show wpAny _ _ (storeInDict s.heap.objs.size _ _ _) _ _ _
  have F1 := F.push { cls := .type "dict", data := .dict #[] }
  have N1 := News.push F N { cls := .type "dict", data := .dict #[] } rfl
  obtain ⟨pre, post, e1, e2, a, b⟩ := (U s.heap.objs.size).split
  rw [e1] at N1
  obtain ⟨F2, N2⟩ := news_upd (pre := (s.heap.objs.size, { cls := .type "dict", data := .dict #[] }) :: pre) (f := fun o => { o with dict := some s.heap.objs.size }) F1 N1 (fun p hp => by
    rcases List.mem_cons.mp hp with rfl | hp
    · exact Ne.symm (Nat.ne_of_lt (Heap.lt_size hg))
    · exact a p hp) b rfl rfl
  have D := (N2 _ (.head _)).1
  unfold storeInDict
  refine wpAny_bind (wpAny_pure (wpAny_bind ?_))
  unfold nsSet
  refine wpAny_bind (wpAny_bind (wpAny_askSetting (wpAny_pure (wpAny_bind (wpAny_mkText (wpAny_bind (wpAny_loadPart D ?_)))))))
  show wpAny _ _ (updatePart _ _ _) _ _ _
  refine wpAny_updatePart D ?_
  have hne : ∀ p ∈ pre ++ (f, fnObj fd (some s.heap.objs.size)) :: post, p.1 ≠ s.heap.objs.size := fun p hp => by
    have : p.1 < s.heap.objs.size := by
      rcases List.mem_append.mp hp with hp | hp
      · exact Heap.lt_size (N p (by rw [e1]; exact List.mem_append_left _ hp)).1
      · rcases List.mem_cons.mp hp with rfl | hp
        · exact Heap.lt_size hg
        · exact Heap.lt_size (N p (by rw [e1]; exact List.mem_append_right _ (.tail _ hp))).1
    exact Nat.ne_of_lt this
  obtain ⟨F3, N3⟩ := news_upd (pre := []) (f := Obj.putName (Str.ofString "read") (PyData.keyHash w.params (Str.ofString "read")) (.str (Str.ofString "read") (s.toks + 1)) v) (o' := readDict (PyData.keyHash w.params (Str.ofString "read")) (s.toks + 1) v) F2 N2 (fun _ h => nomatch h) hne (putName_dict _ _ _ _ [] 0) rfl
  have D3 := (N3 _ (.head _)).1
  refine wpAny_bind (wpAny_lookBehind D3 (pastItsLine_dict (by show 1 ≤ sizeLine + 1; exact Nat.le_add_left 1 _)) ?_)
  refine wpAny_pure ?_
  refine wpAny_pure ?_
  exact h _ _ _ _ F3 (by rw [e2]; exact N3) fun p hp => Heap.lt_size (N p hp).1
theorem look_ga : typeLookup (.type "function") "__getattribute__" = pure (some (.builtin "object.__getattribute__")) := by rw [typeLookup_type, builtinLookup_eq_fast]; kernel_rfl
theorem slot_ga : Slot "function" "__getattribute__" "object.__getattribute__" :=
  .of (owner := "object") (n := "__getattribute__") look_ga (by decide +kernel) (by decide +kernel) (by decide +kernel)
    (by first | exact .inl (by decide +kernel) | exact .inr (by decide +kernel)) (by rw [isSubtype_type]; kernel_rfl)
theorem entry_ga : entryFor table "object.__getattribute__" = some Builtin.«object.__getattribute__» := entryFor_of_tree (by kernel_rfl)
theorem args_ga (a b : Value) : argsOk "object.__getattribute__" ⟨[a, b], []⟩ := by unfold argsOk; kernel_rfl
/-- a name that was set on a function -/
theorem get_fn {expr : Bool} {f d : Addr} {fd : FuncData} {hh : Int} {t : Tok} {v : Addr} {Q : Value → Shared → Prop} (hf : s.heap.get? f = some (fnObj fd (some d))) (hd : s.heap.get? d = some (readDict hh t (.ref v)))
    (h : Q (.ref v) { s with toks := s.toks + 1 }) : wpAny (model prog w) A (getAttr (.ref f) (Str.ofString "read") expr) Q E s := by
  have hT : s.TypeIs (.ref f) "function" := ⟨_, hf, rfl⟩
  unfold getAttr getAttrBy
  refine wpAny_bind (wpAny_mkText (wpAny_holding (wpAny_bind (wpAny_typeOf (s := { s with toks := s.toks + 1 }) hT (wpAny_bind (wpAny_of_eq look_ga ?_))))))
  show wpAny _ _ (getAttrByItsOwn _ _ _ _ _ _) _ _ _
  unfold getAttrByItsOwn hookBefore callGetattribute boundAndCalled
  refine wpAny_bind (wpAny_pure (wpAny_bind (wpAny_attempt (wpAny_holding ?_))))
  rw [show (expr && onTheHeap (.builtin "object.__getattribute__")) = false by cases expr <;> rfl]
  simp only [Bool.false_eq_true, if_false]
  rw [slot_ga.bind]
  refine wpAny_bind (wpAny_pure ?_)
  refine wpAny_call_entry (s := { s with toks := s.toks + 1 }) slot_ga hT entry_ga ?_ (args_ga _ _)
  refine wpAny_bind (wpAny_pure ?_)
  refine wpAny_bind (wpAny_pure ?_)
  refine wpAny_bind (wpAny_typeOf (s := { s with toks := s.toks + 1 }) hT ?_)
  refine wpAny_bind ?_
  unfold ObjectAttr.find
  refine wpAny_bind (wpAny_of_eq look_read ?_)
  refine wpAny_bind (wpAny_pure ?_)
  refine wpAny_bind (wpAny_pure ?_)
  show wpAny _ _ (ownThenClass _ _ _ _) _ _ _
  unfold ObjectAttr.ownThenClass ObjectAttr.inOwnDict
  refine wpAny_bind (wpAny_bind ?_)
  unfold ObjectAttr.ownDict
  refine wpAny_bind (wpAny_loadPart hf ?_)
  show wpAny _ _ (instanceDict f false) _ _ _
  unfold instanceDict
  refine wpAny_bind (wpAny_loadPart hf ?_)
  show wpAny _ _ (pure (some d)) _ _ _
  refine wpAny_pure ?_
  show wpAny _ _ (nsGet d _) _ _ _
  unfold nsGet
  refine wpAny_bind (wpAny_loadPart hd ?_)
  rw [nsLook_eq]
  have e : (Value.str (Str.ofString "read") t).isStr (Str.ofString "read") = true := by simp [Value.isStr]
  have e2 : nsLookByArray (Str.ofString "read") (readDict hh t (.ref v)) = pure (some (.ref v)) := by
    simp [nsLookByArray, e]
  rw [e2]
  refine wpAny_pure ?_
  show wpAny _ _ (rule _ >>= _) _ _ _
  refine wpAny_bind (wpAny_rule (wpAny_pure ?_))
  exact wpAny_pure ⟨_, rfl, wpAny_pure h⟩
end
end

-- M12
theorem UpdF.mem {d : Addr} {o : Obj} {l : List (Addr × Obj)} {g : Obj → List (Addr × Obj)} (U : UpdF d o l g) : (d, o) ∈ l ∧ g o = l := by
  obtain ⟨pre, post, a, b, _, _⟩ := U.split
  refine ⟨by rw [a]; simp, by rw [a, b]⟩
/-- a code that lies in the ledger -/
noncomputable def CodeIn (news : List (Addr × Obj)) (qual : Str) (c : Addr) : Prop := ∃ oc vs t, (c, oc) ∈ news ∧ oc.data = .fields vs ∧ vs[1]? = some (.str qual t)
/-- what a table of codes tells of a place -/
noncomputable def Tabl (P : Addr) (pos : Pos) (qual : Str) (ps : Array Value) (news : List (Addr × Obj)) : Prop := ∀ cv, codeAmong pos ps.toList = some cv → ∃ c, cv = .ref c ∧ c ≠ P ∧ CodeIn news qual c
theorem among_app {pos : Pos} {cv : Value} {r : List Value} : ∀ l : List Value, codeAmong pos l = some cv → codeAmong pos (l ++ r) = some cv := fun l => by
  fun_induction codeAmong pos l with
  | case1 line _ col _ c rest h => intro e; simp [codeAmong, h] at e ⊢; exact e
  | case2 line _ col _ c rest h ih => intro e; simp [codeAmong, h] at *; exact ih e
  | case3 => intro e; cases e
theorem among_off {pos : Pos} {r : List Value} : ∀ l : List Value, TriplesOk l → codeAmong pos l = none → codeAmong pos (l ++ r) = codeAmong pos r := fun l => by
  fun_induction TriplesOk l with
  | case1 => intro _ _; rfl
  | case2 i _ j _ c rest ih =>
    intro h e
    simp only [codeAmong] at e
    split at e
    · cases e
    · rename_i hh; simp only [List.cons_append, codeAmong, hh]; exact ih h e
  | case3 => intro h; exact h.elim
theorem triples_app {a b : Nat} {c : Value} : ∀ l : List Value, TriplesOk l → TriplesOk (l ++ [rawInt a, rawInt b, c]) := fun l => by
  fun_induction TriplesOk l with
  | case1 => intro _; exact True.intro
  | case2 i _ j _ c rest ih => intro h; exact ih h
  | case3 => intro h; exact h.elim
section
variable {M : Model} {A : Around} {E : Value → Shared → Prop} {s : Shared} {h₀ : Heap} {L c P : Addr} {m mg mb : Str → Option Value} {news : List (Addr × Obj)} {g : Obj → List (Addr × Obj)} {p : Program} {loose : List Str} {mean : ExcName → Option Value} {name qual : Str} {params : Arguments} {scope : Scope} {clos cl : List (Str × Addr)} {ps : Array Value} {pos : Pos} {firstLine : Nat} {cn : Str} {cs : Scope} {a : Addr} {ccd : Value}
/-- what comes of it -/
noncomputable def Made (h₀ : Heap) (L : Addr) (s : Shared) (m : Str → Option Value) (news : List (Addr × Obj)) (g : Obj → List (Addr × Obj)) (P : Addr) (pos : Pos) (qual : Str) (ps : Array Value) (ob : Addr → Value → Value → Obj) (Q : Value → Shared → Prop) : Prop :=
  ∀ (f c' : Addr) (oc : Obj) (vs : Array Value) (t : Tok) (ctv doc : Value) (h' : Heap) (tk : Tok) (ps' : Array Value), Fr h₀ L h' m → News h₀ L h' ((f, ob c' doc ctv) :: (c', oc) :: g (tabObj ps')) → oc.data = .fields vs → vs[1]? = some (.str qual t) → (∀ q ∈ news, q.1 < f) → c' < f →
    (codeAmong pos ps'.toList = some (.ref c') ∧ (ps' = ps ∨ ps' = ps ++ #[rawInt pos.line, rawInt pos.col, .ref c'] ∧ codeAmong pos ps.toList = none)) → c' ≠ P → ((∀ q ∈ news, q.1 < c') ∨ codeAmong pos ps.toList = some (.ref c')) → Q (.ref f) { s with heap := h', toks := tk }
theorem nest_any {body : List Stmt} {Q : Value → Shared → Prop} (F : Fr h₀ L s.heap m) (N : News h₀ L s.heap news) (T : Top p loose mean mg mb h₀) (C : CodeHd h₀ c P) (hcd : ccd = .ref c) (U : UpdF P (tabObj ps) news g) (ht : TriplesOk ps.toList) (hn : Tabl P pos qual ps news)
    (hcl : closureFor scope (envX cn cs L a ccd cl) = pure clos)
    (h : Made h₀ L s m news g P pos qual ps (fun c' doc ctv => fnMade name qual params body scope clos doc ((mg "__name__").getD .none) c' ctv) Q) :
    wpAny M A (makeFunction name qual params (.stmts body) scope (envX cn cs L a ccd cl) [] [] [] pos firstLine) Q E s := by
  cases e : codeAmong pos ps.toList with
  | none =>
    refine nest_K F N T C hcd U ht e hcl fun f c' oc vs t ctv doc h' tk F' N' d1 d2 l1 l2 => ?_
    refine h f c' oc vs t ctv doc h' tk _ F' N' d1 d2 (fun q hq => Nat.lt_trans (l1 q hq) l2) l2 ⟨?_, .inr ⟨rfl, e⟩⟩ ?_ (.inl l1)
    · rw [Array.toList_append]; exact codeAmong_snoc _ ht e
    · exact Ne.symm (Nat.ne_of_lt (l1 _ (UpdF.mem U).1))
  | some cv =>
    obtain ⟨c', rfl, hP, hc⟩ := hn cv e
    obtain ⟨oc, vs, t, hm, d1, d2⟩ := id hc
    refine nestHit_K F N T C hcd (UpdF.mem U).1 ht e hcl fun f ctv doc h' tk F' N' l1 => ?_
    refine h f c' oc vs t ctv doc h' tk ps F' (fun q hq => ?_) d1 d2 l1 (l1 _ hm) ⟨e, .inl rfl⟩ hP (.inr e)
    rw [(UpdF.mem U).2] at hq
    rcases List.mem_cons.mp hq with rfl | hq
    · exact N' _ (.head _)
    · rcases List.mem_cons.mp hq with rfl | hq
      · exact N' _ (.tail _ hm)
      · exact N' _ (.tail _ hq)
theorem lam_any {body : Expr} {Q : Value → Shared → Prop} (F : Fr h₀ L s.heap m) (N : News h₀ L s.heap news) (T : Top p loose mean mg mb h₀) (C : CodeHd h₀ c P) (hcd : ccd = .ref c) (U : UpdF P (tabObj ps) news g) (ht : TriplesOk ps.toList) (hn : Tabl P pos qual ps news)
    (hcl : closureFor scope (envX cn cs L a ccd cl) = pure clos)
    (h : Made h₀ L s m news g P pos qual ps (fun c' _ ctv => kla_obj name qual params body scope clos ((mg "__name__").getD .none) c' ctv) Q) :
    wpAny M A (makeFunction name qual params (.expr body) scope (envX cn cs L a ccd cl) [] [] [] pos firstLine) Q E s := by
  cases e : codeAmong pos ps.toList with
  | none =>
    refine kla_nest F N T C hcd U ht e hcl fun f c' oc vs t ctv h' tk F' N' d1 d2 l1 l2 => ?_
    refine h f c' oc vs t ctv .none h' tk _ F' N' d1 d2 (fun q hq => Nat.lt_trans (l1 q hq) l2) l2 ⟨?_, .inr ⟨rfl, e⟩⟩ ?_ (.inl l1)
    · rw [Array.toList_append]; exact codeAmong_snoc _ ht e
    · exact Ne.symm (Nat.ne_of_lt (l1 _ (UpdF.mem U).1))
  | some cv =>
    obtain ⟨c', rfl, hP, hc⟩ := hn cv e
    obtain ⟨oc, vs, t, hm, d1, d2⟩ := id hc
    refine kla_hit F N T C hcd (UpdF.mem U).1 ht e hcl fun f ctv h' tk F' N' l1 => ?_
    refine h f c' oc vs t ctv .none h' tk ps F' (fun q hq => ?_) d1 d2 l1 (l1 _ hm) ⟨e, .inl rfl⟩ hP (.inr e)
    rw [(UpdF.mem U).2] at hq
    rcases List.mem_cons.mp hq with rfl | hq
    · exact N' _ (.head _)
    · rcases List.mem_cons.mp hq with rfl | hq
      · exact N' _ (.tail _ hm)
      · exact N' _ (.tail _ hq)
end

-- M13
theorem slice_one (x : Str) {i : Nat} (hi : i ≤ x.length) : Txt.slice x (some (i : Int)) (some ((i : Int) + 1)) = ⟨((x.cps.toList.drop i).take 1).toArray⟩ := by
  have hl : x.length = x.cps.toList.length := by simp [Str.length]
  have e : strSliceIndices (some (i : Int)) (some ((i : Int) + 1)) 1 x.length = if i < x.length then [i] else [] := by
    unfold strSliceIndices
    have e1 : ¬ ((i : Int) < 0) := by omega
    have e2 : ¬ ((i : Int) + 1 < 0) := by omega
    simp only [e1, e2, if_false, show (1 : Int) > 0 by decide, if_true]
    have e3 : max 0 (min (i : Int) (x.length : Int)) = (i : Int) := by omega
    rw [e3]
    unfold sliceRange
    simp only [show (1 : Int) > 0 by decide, if_true]
    by_cases h : i < x.length
    · have e4 : max 0 (min ((i : Int) + 1) (x.length : Int)) = (i : Int) + 1 := by omega
      rw [e4, if_pos h, if_pos (by omega)]
      have : (((i : Int) + 1 - i + 1 - 1) / 1).toNat = 1 := by omega
      rw [this]
      simp
    · have e4 : max 0 (min ((i : Int) + 1) (x.length : Int)) = (i : Int) := by omega
      rw [e4, if_neg h, if_neg (by omega)]
      rfl
  unfold Txt.slice
  rw [e]
  by_cases h : i < x.length
  · rw [if_pos h]
    have hg : x.cps[i]? = some (x.cps.toList[i]'(by omega)) := by simp
    split
    · rename_i h1
      have h1' : x.length = 1 := by simp at h1; omega
      have : i = 0 := by omega
      subst this
      have : x.cps.toList.length = 1 := by omega
      obtain ⟨⟨l⟩⟩ := x
      match l, this with
      | [c], _ => rfl
    · have : ([i].filterMap (x.cps[·]?)) = (x.cps.toList.drop i).take 1 := by
        simp only [List.filterMap_cons, List.filterMap_nil, hg]
        rw [List.drop_eq_getElem_cons (by omega)]
        rfl
      rw [this]
  · rw [if_neg h]
    have : x.cps.toList.drop i = [] := List.drop_eq_nil_of_le (by omega)
    rw [this]
    split
    · rename_i h1
      have h1' : x.length = 0 := by simp at h1; omega
      have : x.cps.toList.length = 0 := by omega
      obtain ⟨⟨l⟩⟩ := x
      match l, this with
      | [], _ => rfl
    · rfl

-- M10
local macro_rules | `(tactic| walk_at "setAttr ref") => `(tactic| (k_dflt (refine' set_fn ?F ?N ?m ?U ?_; (case F => k_asm); (case N => k_asm); (case m => k_mem); (case U => (intro d; k_upd)); k_whole); intro d' h' hh' t' F' N' l1; (try dsimp only at N'); (try k_lt l1)))
noncomputable abbrev posR : Pos := { line := 85, col := 4, endLine := 88, endCol := 19 }
noncomputable abbrev posL : Pos := { line := 89, col := 13, endLine := 89, endCol := 25 }
noncomputable abbrev qualR : Str := Str.ofString "_law_machine.<locals>._law_read_on"
noncomputable abbrev qualL : Str := Str.ofString "_law_machine.<locals>.<lambda>"
theorem Tabl.cast {P : Addr} {pos : Pos} {q q' : Str} {ps : Array Value} {news news' : List (Addr × Obj)} (x : Tabl P pos q ps news) (e : q = q') (hs : ∀ p ∈ news, p ∈ news') : Tabl P pos q' ps news' := by
  subst e
  intro cv h
  obtain ⟨c, e, hP, oc, vs, t, hm, r⟩ := x cv h
  exact ⟨c, e, hP, oc, vs, t, hs _ hm, r⟩
/-- the table of codes that stands there -/
structure Tab (ps : Array Value) (codes : List (Addr × Obj)) : Prop where
  t : TriplesOk ps.toList
  r : Tabl 77 posR qualR ps codes
  l : Tabl 77 posL qualL ps codes
  off : ∀ p ∈ codes, p.1 ≠ 77
theorem nameX_H {M : Model} {A : Around} {E : Value → Shared → Prop} {s : Shared} {h₀ : Heap} {L a c : Addr} {m : Str → Option Value} {cn y : Str} {cs : Scope} {ccd v : Value} {cl : List (Str × Addr)} {pos : Pos} {o : Obj} {Q : Value → Shared → Prop} (F : Fr h₀ L s.heap m) (hc : cl.lookup y = some c) (ho : h₀.get? c = some o) (hd : o.data = .cell (some v)) (h : Q v s)
    (hk : cs.kind = .function := by rfl) (hx : (envX cn cs L a ccd cl).kindOf y = some .free := by rfl) (hb : (y == ("__debug__" : Str)) = false := by decide) (hn : (y == ("__classdict__" : Str)) = false := by decide) :
    wpAny M A (eval (.Name y pos) (envX cn cs L a ccd cl)) Q E s := wpAny_Name (wpAny_loadName_free hk hx hc ⟨_, F.keep _ _ ho, hd⟩ h hn) hb
theorem obj_of {P : Prop} {g h : Heap} {L f1 : Addr} {news : List (Addr × Obj)} {fo : Obj} (R : Obj → Prop) (_N : News g L h news) (_hm : (f1, fo) ∈ news) (hr : R fo) (main : R fo → P) : P := main hr
/-- the keys of a machine's dict -/
structure MK where
  (h1 h2 h3 h4 : Int)
  (t1 t2 t3 t4 u3 : Tok)
noncomputable abbrev mdict (K : MK) (n : Int) (u : Tok) (lam pb : Addr) : Obj := dictOf [⟨K.h1, .str (Str.ofString "lineno") K.t1, .int n u⟩, ⟨K.h2, .str (Str.ofString "instream") K.t2, .ref lam⟩,
  ⟨K.h3, .str (Str.ofString "whitespace") K.t3, .str (Str.ofString "\n\t\r ") K.u3⟩, ⟨K.h4, .str (Str.ofString "pushback") K.t4, .ref pb⟩] 4
noncomputable def Lies (imm : List (Addr × Obj)) (g : Heap) : Prop := ∀ p ∈ imm, g.get? p.1 = some p.2
/-- what the inner function does -/
noncomputable def Reads (w : World) (loose : List Str) (mean : ExcName → Option Value) (mg mb : Str → Option Value) (x : Str) (at_ rd : Addr) (imm : List (Addr × Obj)) : Prop :=
  ∀ g', Lies imm g' → Gnd w loose mean mg mb g' → ∀ (dp un : Nat) (fr : Option (List Env)) (gd : Option (List Code)) (s : Shared) (Q E : Value → Shared → Prop) (i : Nat) (u t : Tok), dp + 1 < recursionLimit → un + 8 < cLine →
    On g' s.heap [(at_, W.listOf #[.int i u] 0)] → i ≤ x.length →
    (∀ h' tk' t' u', On g' h' [(at_, W.listOf #[.int ((min (i + 1) x.length : Nat) : Int) u'] 0)] → Q (.str ⟨(x.cps.toList.drop i |>.take 1).toArray⟩ t') { s with heap := h', toks := tk' }) →
      wpAny (model PySem.Challenge.rw_sn0008_01.row.prog w) (Ar dp un fr gd) (call (.ref rd) [.int 1 t]) Q E s
/-- a machine, but for what it changes -/
structure Mac (w : World) (loose : List Str) (mean : ExcName → Option Value) (mg mb : Str → Option Value) (x : Str) (inst d pb at_ lam dr rd : Addr) (imm : List (Addr × Obj)) : Prop where
  inst : (inst, instObj 66 d) ∈ imm
  lam : ∃ fd, (lam, fnObj fd (some dr)) ∈ imm
  dr : ∃ hh t, (dr, readDict hh t (.ref rd)) ∈ imm
  fn : ∃ fd, (rd, fnObj fd none) ∈ imm
  read : Reads w loose mean mg mb x at_ rd imm
theorem Reads.mono {w : World} {loose : List Str} {mean : ExcName → Option Value} {mg mb : Str → Option Value} {x : Str} {at_ rd : Addr} {imm imm' : List (Addr × Obj)} (R : Reads w loose mean mg mb x at_ rd imm) (hs : ∀ p ∈ imm, p ∈ imm') : Reads w loose mean mg mb x at_ rd imm' :=
  fun g' LI => R g' fun p hp => LI p (hs p hp)
noncomputable def Apart (d pb at_ : Addr) (imm : List (Addr × Obj)) : Prop := (@Ne Nat d pb) ∧ (@Ne Nat d at_) ∧ (@Ne Nat pb at_) ∧ (@Ne Nat d 77) ∧ (@Ne Nat pb 77) ∧ (@Ne Nat at_ 77) ∧ ∀ p ∈ imm, (@Ne Nat p.1 d) ∧ (@Ne Nat p.1 pb) ∧ (@Ne Nat p.1 at_) ∧ (@Ne Nat p.1 77)
theorem lt_trans9 {a b c : Nat} (h : a < b) (k : b < c) : a < c := Nat.lt_trans h k
theorem off_of {at_ c P : Addr} {o : Obj} {pos : Pos} {q : Str} {ps : Array Value} {news codes : List (Addr × Obj)} (w1 : (∀ q ∈ news, q.1 < c) ∨ codeAmong pos ps.toList = some (.ref c)) (hm : (at_, o) ∈ news) (hR : Tabl P pos q ps codes) (hl : ∀ q ∈ codes, (@LT.lt Nat _ q.1 at_)) : @Ne Nat c at_ := by
  rcases w1 with h | h
  · exact Ne.symm (Nat.ne_of_lt (h _ hm))
  · obtain ⟨c', e, _, oc, _, _, hm, _⟩ := hR _ h
    cases e
    exact Nat.ne_of_lt (hl _ hm)
theorem Tab.made {ps1 ps2 : Array Value} {c1 c2 : Addr} {oc1 oc2 : Obj} {vs1 vs2 : Array Value} {t1 t2 : Tok} {q1' q2' : Str} (ht1 : TriplesOk ps1.toList) (a1 : codeAmong posR ps1.toList = some (.ref c1))
    (b2 : codeAmong posL ps2.toList = some (.ref c2) ∧ (ps2 = ps1 ∨ ps2 = ps1 ++ #[rawInt posL.line, rawInt posL.col, .ref c2] ∧ codeAmong posL ps1.toList = none))
    (d1 : oc1.data = .fields vs1) (e1 : vs1[1]? = some (.str q1' t1)) (hq1 : q1' = qualR) (d2 : oc2.data = .fields vs2) (e2 : vs2[1]? = some (.str q2' t2)) (hq2 : q2' = qualL) (n1 : c1 ≠ 77) (n2 : c2 ≠ 77) : Tab ps2 [(c1, oc1), (c2, oc2)] := by
  subst hq1; subst hq2
  refine ⟨?_, fun cv hcv => ?_, fun cv hcv => ?_, fun p hp => ?_⟩
  · rcases b2.2 with rfl | ⟨rfl, _⟩
    · exact ht1
    · rw [Array.toList_append]; exact triples_app _ ht1
  · have : codeAmong posR ps2.toList = some (.ref c1) := by
      rcases b2.2 with rfl | ⟨rfl, _⟩
      · exact a1
      · rw [Array.toList_append]; exact among_app _ a1
    rw [this] at hcv
    cases hcv
    exact ⟨c1, rfl, n1, oc1, vs1, t1, .head _, d1, e1⟩
  · rw [b2.1] at hcv
    cases hcv
    exact ⟨c2, rfl, n2, oc2, vs2, t2, .tail _ (.head _), d2, e2⟩
  · simp only [List.mem_cons, List.not_mem_nil, or_false] at hp
    rcases hp with rfl | rfl
    · exact n1
    · exact n2
local macro_rules | `(tactic| walk_at "N s") => `(tactic| first | with_reducible assumption | exact And.right (by first | with_reducible assumption | exact And.right (by first | with_reducible assumption | exact And.right (by first | with_reducible assumption | exact And.right (by first | with_reducible assumption | exact And.right (by first | with_reducible assumption | exact And.right (by first | with_reducible assumption | exact And.right (by first | with_reducible assumption | exact And.right (by first | with_reducible assumption | exact And.right (by first | with_reducible assumption | exact And.right (by first | with_reducible assumption | exact And.right (by first | with_reducible assumption | exact And.right (by with_reducible assumption)))))))))))))
local macro_rules | `(tactic| walk_at "N l") => `(tactic| first | walk_at "N s" | exact And.left (by walk_at "N s"))
local macro_rules | `(tactic| k_ne) => `(tactic| (refine neN ?_; (try dsimp only); first | with_reducible assumption | exact Nat.ne_of_lt (by walk_at "N l") | exact Nat.ne_of_gt (by walk_at "N l") | exact Nat.ne_of_lt (Nat.lt_succ_self _) | exact Nat.ne_of_gt (Nat.lt_succ_of_lt (by walk_at "N l")) | exact Nat.ne_of_gt (Nat.lt_succ_of_lt (Nat.lt_succ_of_lt (by walk_at "N l"))) | exact Nat.ne_of_lt (Nat.lt_succ_of_lt (Nat.lt_succ_of_lt (by walk_at "N l")))))
section
variable {w : World} {loose : List Str} {mean : ExcName → Option Value} {mg mb : Str → Option Value} {dp un : Nat} {fr : Option (List Env)} {gd : Option (List Code)} {s : Shared} {Q E : Value → Shared → Prop}
theorem c_machine {x : Str} (hx : x.length ≤ 1000) {t : Tok} {g : Heap} {ps : Array Value} {q1 q2 : Addr} {o1 o2 : Obj} (O : On g s.heap [(77, tabObj ps), (q1, o1), (q2, o2)]) (B : Tab ps [(q1, o1), (q2, o2)]) (G : Gnd w loose mean mg mb g) (codeHd : CodeHd g 81 77) (hd : dp + 2 < recursionLimit) (hu : un + 16 < cLine)
    (ret : ∀ inst d pb at_ lam dr rd imm K ps' c1 p1 c2 p2 u v h' tk', On g h' ((d, mdict K 1 u lam pb) :: (pb, W.listOf #[] 0) :: (at_, W.listOf #[.int 0 v] 0) :: (77, tabObj ps') :: (q1, o1) :: (q2, o2) :: imm) → Mac w loose mean mg mb x inst d pb at_ lam dr rd imm →
      Tab ps' [(c1, p1), (c2, p2)] → (c1, p1) ∈ imm → (c2, p2) ∈ imm → Apart d pb at_ ((q1, o1) :: (q2, o2) :: imm) → Q (.ref inst) { s with heap := h', toks := tk' }) :
    wpAny (model PySem.Challenge.rw_sn0008_01.row.prog w) (Ar dp un fr gd) (call (.ref 82) [.str x t]) Q E s := by
  have X := G.X
  have T := G.T
  obtain ⟨ht, hR, hL, hoff⟩ := B
  have off1 : @Ne Nat q1 77 := hoff _ (.head _)
  have off2 : @Ne Nat q2 77 := hoff _ (.tail _ (.head _))
  clear hoff
  revert X; k_fill; intro X
  ((refine' enterGC ?k0 ?k1 ?k2 ?k6 ?k7 ?k8 ?k9 ?kB ?kD ?_ ?c2 ?c3 ?c4; (case k0 => assumption); (case k1 => assumption); (case k2 => assumption); (case k6 => k_is); (case k7 => k_is); (case k8 => exact dlt0 (by with_reducible assumption)); (case k9 => exact BindsTo.of_eq rfl); (case kB => exact rfl); (case kD => decide +kernel); (case c2 => exact rfl); (case c3 => exact rfl); (case c4 => exact rfl)))
  intro L' h' tk' cells' F' N' Y' l1
  k_lt l1
  obtain ⟨oA, oT, hE, dA, dT⟩ := CellsAre.two Y'
  subst hE; clear Y'
  have dT2 : oT.data = Data.cell (some (.str x t)) := dT
  simp only [List.cons_append, List.nil_append] at N'
  try dsimp only
  (repeat' (first | (k_unfold; (try dsimp only)) | walk1 | (dsimp only; walk1) | (dsimp only; k_unfold; (try dsimp only))))
  rename_i atL hA1 lA hA2 oA2 FA NA dA2
  k_dflt (refine' nestDef_K ?d0 ?k0 ?a0 ?_; (case d0 => exact rfl); (case k0 => exact rfl); (case a0 => exact rfl))
  k_dflt (refine' nest_any ?F ?N ?T ?C ?cd ?U ?t ?n ?cl ?_; (case F => k_asm); (case N => k_asm); (case T => k_asm); (case cd => exact rfl); (case C => kn_code); (case U => k_updF); (case t => assumption); (case n => exact Tabl.cast hR (by kernel_rfl) (by ((intro p hp; simp only [List.mem_cons, List.not_mem_nil, or_false] at hp ⊢; rcases hp with h | h <;> simp [h])))); (case cl => exact rfl))
  intro f1 c1 oc1 vs1 t1 ctv1 doc1 h1 tk1 ps1 F1 N1 d1 e1 l3 l4 b1 p1 w1
  dsimp only at N1
  have z1 : @Ne Nat c1 atL := off_of (at_ := atL) (o := W.listOf #[.int 0 tk'] 0) w1 (.head _) hR (fun q hq => lt_trans9 (by rcases List.mem_cons.mp hq with rfl | hq; exact l1.2.1; rcases List.mem_cons.mp hq with rfl | hq; exact l1.2.2; cases hq) (by omega))
  k_lt l3; k_lt2 l4
  have l4' := l4
  have ht1 : TriplesOk ps1.toList := by
    rcases b1.2 with rfl | ⟨rfl, _⟩
    · exact ht
    · rw [Array.toList_append]; exact triples_app _ ht
  have hL1 : Tabl 77 posL qualL ps1 [(q1, o1), (q2, o2)] := by
    rcases b1.2 with rfl | ⟨rfl, _⟩
    · exact hL
    · intro cv hcv
      refine hL cv ?_
      cases e9 : codeAmong posL ps.toList with
      | some c9 => rw [Array.toList_append, among_app _ e9] at hcv; exact hcv
      | none => rw [Array.toList_append, among_off _ ht e9] at hcv; cases hcv
  (repeat' (first | (k_unfold; (try dsimp only)) | walk1 | (dsimp only; walk1) | (dsimp only; k_unfold; (try dsimp only))))
  k_dflt (refine' kla_eval ?d0 ?_; (case d0 => exact rfl))
  k_dflt (refine' lam_any ?F ?N ?T ?C ?cd ?U ?t ?n ?cl ?_; (case F => k_asm); (case N => k_asm); (case T => k_asm); (case cd => exact rfl); (case C => kn_code); (case U => k_updF); (case t => assumption); (case n => exact Tabl.cast hL1 (by kernel_rfl) (by ((intro p hp; simp only [List.mem_cons, List.not_mem_nil, or_false] at hp ⊢; rcases hp with h | h <;> simp [h])))); (case cl => exact rfl))
  intro f2 c2 oc2 vs2 t2 ctv2 doc2 h2 tk2 ps2 F2 N2 d2 e2 l5 l6 b2 p2 w2
  dsimp only at N2
  have z2 : @Ne Nat c2 atL := off_of (at_ := atL) (o := W.listOf #[.int 0 tk'] 0) w2 (by k_mem) hL1 (fun q hq => lt_trans9 (by rcases List.mem_cons.mp hq with rfl | hq; exact l1.2.1; rcases List.mem_cons.mp hq with rfl | hq; exact l1.2.2; cases hq) (by omega))
  k_lt l5; k_lt2 l6
  (repeat' (first | (k_unfold; (try dsimp only)) | walk1 | (dsimp only; walk1) | (dsimp only; k_unfold; (try dsimp only))))
  refine Stop.out ?_
  rename Fr _ _ _ _ => lF
  rename News _ _ _ _ => lN
  k_dflt (refine' call_cls lF X lN ?a ?b ?c ?_; (case a => k_is); (case b => k_is); (case c => k_is))
  intro x' d' h' F' N' l1 l2
  k_lt l1; k_lt2 l2
  clear lF lN
  have hd1 : dp + 1 < recursionLimit := by omega
  ((refine' enterGc ?k0 ?k1 ?k2 ?k6 ?k7 ?k8 ?k9 ?kB ?_ ?c2 ?c3 ?c4 ?c5; (case k0 => exact On.of (by assumption) (by assumption) (fun _ h => h)); (case k1 => assumption); (case k2 => assumption); (case k6 => k_is); (case k7 => k_is); (case k8 => assumption); (case k9 => exact BindsTo.of_eq rfl); (case kB => exact locs rfl); (case c2 => exact rfl); (case c3 => exact rfl); (case c4 => exact rfl); (case c5 => decide)))
  clear F' N'
  intro L2 h2 tk9 F' N' l1
  k_lt l1
  (repeat' (first | (k_unfold; (try dsimp only)) | walk1 | (dsimp only; walk1) | (dsimp only; k_unfold; (try dsimp only))))
  refine ⟨rfl, ?_⟩
  rename Fr _ _ _ _ => lF
  rename News _ _ _ _ => lN
  refine' obj_of (f1 := f1) (R := fun fo => Reads w loose mean mg mb x atL f1 [(f1, fo), (c1, oc1), (L' + 1 + 1, oA2), (L' + 1, oT)]) lN ?hm ?hr ?main
  case hm => k_mem
  case hr =>
    clear ret
    repeat (rename News _ _ _ _ => zz; clear zz)
    repeat (rename Fr _ _ _ _ => zz; clear zz)
    clear X T O codeHd hR hL hL1 ht1 ht b1 b2
    intro g' LI G' dp un fr gd s Q E i u t hd hu O' hi ret
    have X9 := G'.X
    have T9 := G'.T
    clear G
    have hz : x.length ≤ sizeLine := Nat.le_trans hx (by decide)
    have hf := O'.keep _ _ (LI _ (.head _))
    have hc : s.heap.CodeRec (.ref c1) _ := ⟨c1, oc1, vs1, t1, rfl, O'.keep _ _ (LI _ (.tail _ (.head _))), d1, e1⟩
    have hA := LI _ (.tail _ (.tail _ (.head _)))
    have hT := LI _ (.tail _ (.tail _ (.tail _ (.head _))))
    dsimp only at hA hT hf
    ((refine' enterGX ?k0 ?k2 ?k6 ?k7 ?k7b ?k8 ?k9 ?kB ?_ ?c2 ?c3 ?c4 ?c5; (case k0 => assumption); (case k2 => assumption); (case k6 => assumption); (case k7 => exact rfl); (case k7b => assumption); (case k8 => exact dlt0 (by with_reducible assumption)); (case k9 => exact BindsTo.of_eq rfl); (case kB => exact locs rfl); (case c2 => exact rfl); (case c3 => exact rfl); (case c4 => exact rfl); (case c5 => decide)))
    intro L3 h3 tk3 F3 N3 l1
    k_lt l1
    repeat' (first | (((with_reducible show wpAny _ _ (subscriptTail _ (Expr.Slice (some _) (some _) none _) _ _) _ _ _); (with_reducible rename Fr _ _ _ _ => Fz9); (with_reducible rename News _ _ _ _ => Nz9); (refine slice_strN_ss (hsz := ?hsz) (s := ⟨_, _, _, _, _⟩) Fz9 Nz9 ?_); (case hsz => assumption); intro _ _ _ _ _; refine Stop.mk ?_)) | (((first | (with_reducible show wpAny _ _ (PySem.eval (Expr.Name (Str.ofString "text") _) _) _ _ _) | (with_reducible show wpAny _ _ (PySem.eval (Expr.Name (Str.ofString "at") _) _) _ _ _)); k_dflt (refine' nameX_H ?F ?c ?o ?d ?_ ?a ?b); (case a => rfl); (case b => rfl); (case F => k_asm); (case c => rfl); (case o => with_reducible assumption); (case d => with_reducible assumption))) | (k_unfold; (try dsimp only)) | walk1 | (dsimp only; walk1) | (dsimp only; k_unfold; (try dsimp only)))
    refine Stop.out ?_
    have esg := slice_one x hi
    have hsl : (⟨((x.cps.toList.drop i).take 1).toArray⟩ : Str).length = min (i + 1) x.length - i := by
      show ((x.cps.toList.drop i).take 1).toArray.size = _
      have : x.length = x.cps.toList.length := by simp [Str.length]
      rw [List.size_toArray, List.length_take, List.length_drop]; omega
    change Txt.slice x (some ([(i : Int)].getD (Int.toNat 0) 0)) (some ([(i : Int)].getD (Int.toNat 0) 0 + 1)) = _ at esg
    rw [esg]
    clear esg
    revert ret hsl
    generalize (⟨((x.cps.toList.drop i).take 1).toArray⟩ : Str) = sg
    intro ret hsl
    repeat' (first | (((first | (with_reducible show wpAny _ _ (PySem.eval (Expr.Name (Str.ofString "text") _) _) _ _ _) | (with_reducible show wpAny _ _ (PySem.eval (Expr.Name (Str.ofString "at") _) _) _ _ _)); k_dflt (refine' nameX_H ?F ?c ?o ?d ?_ ?a ?b); (case a => rfl); (case b => rfl); (case F => k_asm); (case c => rfl); (case o => with_reducible assumption); (case d => with_reducible assumption))) | (k_unfold; (try dsimp only)) | walk1 | (dsimp only; walk1) | (dsimp only; k_unfold; (try dsimp only)))
    rename Fr _ _ _ _ => rF
    rename News _ _ _ _ => rN
    have e9 : [(i : Int)].getD (Int.toNat 0) 0 + (sg.length : Int) = ((min (i + 1) x.length : Nat) : Int) := by
      show (i : Int) + _ = _
      omega
    rw [e9] at rN
    exact ret _ _ _ _ (On.of rF rN (fun _ h => h))
  intro hread
  refine' ret x' d' ?pb atL f2 ?dr f1 [(x', instObj 66 d'), (?dr, readDict ?hh ?tt (.ref f1)), (f2, fnObj ?fd (some ?dr)), (c2, oc2), (f1, ?fo), (c1, oc1), (L' + 1 + 1, oA2), (L' + 1, oT)] ⟨?a1, ?a2, ?a3, ?a4, ?a5, ?a6, ?a7, ?a8, ?a9⟩ ps2 c1 oc1 c2 oc2 ?u ?v _ _ (On.of lF lN ?sub) ?mac ?tab ?m1 ?m2 ?apart
  case sub =>
    refine' List.forall_mem_cons.mpr ⟨?x1, List.forall_mem_cons.mpr ⟨?x2, List.forall_mem_cons.mpr ⟨?x3, List.forall_mem_cons.mpr ⟨?x4, List.forall_mem_cons.mpr ⟨?x5, List.forall_mem_cons.mpr ⟨?x6, List.forall_mem_cons.mpr ⟨?x7, List.forall_mem_cons.mpr ⟨?x8, List.forall_mem_cons.mpr ⟨?x9, List.forall_mem_cons.mpr ⟨?x10, List.forall_mem_cons.mpr ⟨?x11, List.forall_mem_cons.mpr ⟨?x12, List.forall_mem_cons.mpr ⟨?x13, List.forall_mem_cons.mpr ⟨?x14, fun _ h => nomatch h⟩⟩⟩⟩⟩⟩⟩⟩⟩⟩⟩⟩⟩⟩
    all_goals k_mem
  case m1 => kcf_m
  case m2 => kcf_m
  case tab => exact Tab.made ht1 b1.1 b2 d1 e1 (by kernel_rfl) d2 e2 (by kernel_rfl) p1 p2
  case mac => exact ⟨.head _, ⟨_, .tail _ (.tail _ (.head _))⟩, ⟨_, _, .tail _ (.head _)⟩, ⟨_, .tail _ (.tail _ (.tail _ (.tail _ (.head _))))⟩, hread.mono (by kcf_all)⟩
  case apart =>
    refine ⟨?_, ?_, ?_, ?_, ?_, ?_, ?_⟩
    any_goals (first | exact Nat.ne_of_lt (by assumption) | exact Ne.symm (Nat.ne_of_lt (by assumption)) | k_ne)
    repeat' (first | exact List.forall_mem_nil _ | refine List.forall_mem_cons.mpr ⟨?_, ?_⟩ | refine ⟨?_, ?_, ?_, ?_⟩ | (dsimp only; first | exact Nat.ne_of_lt (by assumption) | exact Ne.symm (Nat.ne_of_lt (by assumption)) | assumption | k_ne) | k_ne)
end

-- M14
noncomputable abbrev sgn (x : Str) (i : Nat) : Str := ⟨((x.cps.toList.drop i).take 1).toArray⟩
noncomputable def nlOf (c : Str) : Int := if c = Str.ofString "\n" then 1 else 0
theorem inst_ground {g h : Heap} {L x C dx : Addr} {m : Str → Option Value} {od : Obj} {news : List (Addr × Obj)} (F : Fr g L h m) (hi : g.get? x = some (instObj C dx)) (N : News g L h news) (hm : (dx, od) ∈ news) : InstAt h x (instObj C dx) C (some od) := ⟨F.keep _ _ hi, rfl, rfl, (N _ hm).1⟩
theorem get_fnG {prog : Program} {w : World} {A : Around} {E : Value → Shared → Prop} {s : Shared} {g : Heap} {L : Addr} {m : Str → Option Value} {expr : Bool} {f d : Addr} {fd : FuncData} {hh : Int} {t : Tok} {v : Addr} {Q : Value → Shared → Prop} (F : Fr g L s.heap m) (hf : g.get? f = some (fnObj fd (some d))) (hd : g.get? d = some (readDict hh t (.ref v)))
    (h : Q (.ref v) { s with toks := s.toks + 1 }) : wpAny (model prog w) A (getAttr (.ref f) (Str.ofString "read") expr) Q E s := get_fn (F.keep _ _ hf) (F.keep _ _ hd) h
theorem look_gattr : typeLookup (.type "function") "__getattr__" = pure none := by rw [typeLookup_type, builtinLookup_eq_fast]; kernel_rfl
theorem getMethod_fn {prog : Program} {w : World} {A : Around} {E : Value → Shared → Prop} {s : Shared} {g : Heap} {L : Addr} {m : Str → Option Value} {pl : Sem Bool} {f d : Addr} {fd : FuncData} {hh : Int} {t : Tok} {v : Addr} {Q : Value × List Value → Shared → Prop} (F : Fr g L s.heap m) (hf : g.get? f = some (fnObj fd (some d))) (hd : g.get? d = some (readDict hh t (.ref v)))
    (h : Q (.ref v, []) { s with toks := s.toks + 1 }) : wpAny (model prog w) A (getMethod (.ref f) (Str.ofString "read") pl) Q E s := by
  have hT : s.TypeIs (.ref f) "function" := ⟨_, F.keep _ _ hf, rfl⟩
  unfold getMethod
  refine wpAny_bind (wpAny_specialOf hT look_ga ?_)
  have e : (Manifest.canonical "object.__getattribute__" != "object.__getattribute__") = false := by decide +kernel
  simp only [e, Bool.false_eq_true, if_false]
  refine wpAny_bind (wpAny_specialOf hT look_gattr ?_)
  refine wpAny_bind (wpAny_specialOf hT look_read ?_)
  exact wpAny_bind (get_fnG F hf hd (wpAny_pure h))
local macro_rules | `(tactic| walk_at "getMethod ref") => `(tactic| ((with_reducible show wpAny _ _ (getMethod (Value.ref _) (PySem.Str.ofString "read") _) _ _ _); k_dflt (refine' getMethod_fn ?F ?f ?d ?_; (case F => k_asm); (case f => with_reducible assumption); (case d => with_reducible assumption))))
theorem fnAtG {g h : Heap} {L q : Addr} {m : Str → Option Value} {fd : FuncData} (F : Fr g L h m) (hq : g.get? q = some (fnObj fd none)) : FnAt q h := ⟨_, _, _, _, F.keep _ _ hq⟩
local macro_rules | `(tactic| walk_at "callWith ref") => `(tactic| (k_dflt (refine' callWith_F ?k1 ?_; (case k1 => (refine' fnAtG ?F ?q; (case F => k_asm); (case q => with_reducible assumption))))))
local macro_rules | `(tactic| walk_at "FnAt") => `(tactic| (k_dflt (refine' fnAtG ?F ?q; (case F => k_asm); (case q => with_reducible assumption))))
local macro_rules | `(tactic| k_inst) => `(tactic| (refine' inst_ground ?F ?i ?N ?m; (case F => k_asm); (case i => with_reducible assumption); (case N => k_asm); (case m => k_mem)))
local macro_rules | `(tactic| walk_at "getAttr ref") => `(tactic| ((with_reducible show wpAny _ _ (getAttr (Value.ref _) (PySem.Str.ofString "read") _) _ _ _); k_dflt (refine' get_fnG ?F ?f ?d ?_; (case F => k_asm); (case f => with_reducible assumption); (case d => with_reducible assumption))))
section
variable {w : World} {loose : List Str} {mean : ExcName → Option Value} {mg mb : Str → Option Value} {dp un : Nat} {fr : Option (List Env)} {gd : Option (List Code)} {s : Shared} {Q E : Value → Shared → Prop}
theorem c_readchar {x : Str} {inst d pb at_ lam dr rd : Addr} {imm : List (Addr × Obj)} {K : MK} {n : Int} {i : Nat} {u v : Tok} {g : Heap} {R : Result → Shared → Prop} (M : Mac w loose mean mg mb x inst d pb at_ lam dr rd imm) (LI : Lies imm g) (G : Gnd w loose mean mg mb g) (hda : @Ne Nat d at_)
    (O : On g s.heap [(d, mdict K n u lam pb), (at_, W.listOf #[.int i v] 0)]) (hi : i ≤ x.length) (hd : dp + 2 < recursionLimit) (hu : un + 16 < cLine)
    (ret : ∀ h' tk' t' u' v', On g h' [(d, mdict K (n + nlOf (sgn x i)) u' lam pb), (at_, W.listOf #[.int ((min (i + 1) x.length : Nat) : Int) v'] 0)] → R (.ok (.ret (.str (sgn x i) t'))) { s with heap := h', toks := tk' }) :
    codeAny (model PySem.Challenge.rw_sn0008_01.row.prog w) (Ar dp un fr gd) (.call (.ref 49) ⟨[.ref inst], []⟩) R s := by
  have X := G.X
  have T := G.T
  have m1 := LI _ M.inst
  obtain ⟨fd, m2⟩ := M.lam
  have m2 := LI _ m2
  obtain ⟨hh, tt, m3⟩ := M.dr
  have m3 := LI _ m3
  obtain ⟨fr9, m4⟩ := M.fn
  have m4 := LI _ m4
  dsimp only at m1 m2 m3 m4
  revert X; k_fill; intro X
  ((refine' enterGc ?k0 ?k1 ?k2 ?k6 ?k7 ?k8 ?k9 ?kB ?_ ?c2 ?c3 ?c4 ?c5; (case k0 => with_reducible assumption); (case k1 => with_reducible assumption); (case k2 => with_reducible assumption); (case k6 => k_is); (case k7 => k_is); (case k8 => exact dlt0 (by with_reducible assumption)); (case k9 => exact BindsTo.of_eq rfl); (case kB => exact locs rfl); (case c2 => exact rfl); (case c3 => exact rfl); (case c4 => exact rfl); (case c5 => decide)))
  intro L' h' tk' F' N' l1
  k_lt l1
  (repeat' (first | (k_unfold; (try dsimp only)) | walk1 | (dsimp only; walk1) | (dsimp only; k_unfold; (try dsimp only))))
  refine Stop.out ?_
  rename Fr _ _ _ _ => lF
  rename News _ _ _ _ => lN
  have hs : ∀ p ∈ [(at_, W.listOf #[.int (i : Int) v] 0)], p ∈ [(d, mdict K n u lam pb), (at_, W.listOf #[.int (i : Int) v] 0)] := fun p hp => .tail _ hp
  have kk := Fr.aside lF lN hs
  refine M.read _ (fun p hp => kk _ _ (LI p hp)) (G.keeps kk) _ _ _ _ _ _ _ _ _ _ (dlt 2 hd rfl) (dlt 11 hu rfl) (On.aside lN hs) hi ?_
  intro h9 tk9 t9 u9 O9
  have F9 := Fr.back lF lN hs O9
  have N9 := News.back (rest := [(d, mdict K n u lam pb)]) lF lN hs O9 (fun p hp => by
    obtain rfl := List.mem_singleton.mp hp
    refine ⟨.head _, fun q hq => ?_⟩
    obtain rfl := List.mem_singleton.mp hq
    exact hda)
  simp only [List.cons_append, List.nil_append] at N9
  clear lF lN hs kk O9
  (repeat' (first | (k_unfold; (try dsimp only)) | walk1 | (dsimp only; walk1) | (dsimp only; k_unfold; (try dsimp only))))
  all_goals (rename Fr _ _ _ _ => rF; rename News _ _ _ _ => rN)
  · have e : nlOf (sgn x i) = 1 := if_pos (eq_of_beq (by assumption))
    refine' ret _ _ _ ?u ?v ?o
    case o =>
      rw [e]
      refine' On.of rF rN (List.forall_mem_cons.mpr ⟨?x1, List.forall_mem_cons.mpr ⟨?x2, fun _ h => nomatch h⟩⟩)
      all_goals k_mem
  · have e : nlOf (sgn x i) = 0 := if_neg (ne_of_beq_false (by assumption))
    refine' ret _ _ _ ?u2 ?v2 ?o2
    case o2 =>
      rw [e, Int.add_zero]
      refine' On.of rF rN (List.forall_mem_cons.mpr ⟨?x3, List.forall_mem_cons.mpr ⟨?x4, fun _ h => nomatch h⟩⟩)
      all_goals k_mem
end

-- M15
noncomputable def isWs (c : Nat) : Bool := c == 10 || c == 9 || c == 13 || c == 32
/-- a bare word: up to a white space -/
noncomputable def lexB : List Nat → Option (List Nat × List Nat)
  | [] => none
  | 92 :: [] => none
  | 92 :: c :: r => (lexB r).map fun p => (c :: p.1, p.2)
  | c :: r => if isWs c then some ([], r) else (lexB r).map fun p => (c :: p.1, p.2)
/-- a quoted word: up to a quote -/
noncomputable def lexQ : List Nat → Option (List Nat × List Nat)
  | [] => none
  | 92 :: [] => none
  | 92 :: c :: r => (lexQ r).map fun p => (c :: p.1, p.2)
  | c :: r => if c = 34 then some ([], r) else (lexQ r).map fun p => (c :: p.1, p.2)
/-- a word -/
noncomputable def lexT : List Nat → Option (List Nat × List Nat)
  | [] => some ([], [])
  | 92 :: [] => none
  | 92 :: c :: r => (lexB r).map fun p => (c :: p.1, p.2)
  | c :: r => if isWs c then lexT r else if c = 34 then lexQ r else (lexB r).map fun p => (c :: p.1, p.2)
/-- a word's letters -/
noncomputable def Let (l : List Nat) : Prop := ∀ c ∈ l, 65 ≤ c ∧ c ≤ 80
theorem lexB_word : ∀ (l r : List Nat), Let l → lexB (l ++ 32 :: r) = some (l, r)
  | [], r, _ => by simp [lexB, isWs]
  | c :: l, r, h => by
    have hc := h c (.head _)
    have ih := lexB_word l r fun x hx => h x (.tail _ hx)
    rw [List.cons_append, lexB]
    · have : isWs c = false := by simp [isWs]; omega
      rw [this, ih]; rfl
    · rintro rfl; omega
    · rintro _ _ rfl; omega
theorem lexB_esc : ∀ (l r : List Nat), lexB ((l.flatMap fun c => [92, c]) ++ 9 :: r) = some (l, r)
  | [], r => by simp [lexB, isWs]
  | c :: l, r => by
    have ih := lexB_esc l r
    simp only [List.flatMap_cons, List.cons_append, List.nil_append, lexB, ih, Option.map_some]
theorem lexQ_word : ∀ (l r : List Nat), Let l → lexQ (l ++ 34 :: r) = some (l, r)
  | [], r, _ => by simp [lexQ]
  | c :: l, r, h => by
    have hc := h c (.head _)
    have ih := lexQ_word l r fun x hx => h x (.tail _ hx)
    rw [List.cons_append, lexQ]
    · rw [if_neg (by omega), ih]; rfl
    · rintro rfl; omega
    · rintro _ _ rfl; omega

-- M17
theorem fn_of {K : Frag} {g : Heap} {f : Addr} {oc : Value} {od : Option Addr} {osl : Array (Option Value)} {fd : FuncData} (X : K.In g) (ho : K.lookup f = some ⟨oc, od, .func fd, osl⟩) : ∃ fo fd, g.get? f = some fo ∧ fo.data = .func fd := ⟨_, _, X _ _ ho, rfl⟩
theorem sgn_len {x : Str} {i : Nat} (h : i < x.length) : sgn x i ≠ Str.ofString "" := fun e => by
  have e1 : (sgn x i).cps.size = 0 := by rw [e]; decide +kernel
  have : x.length = x.cps.toList.length := by simp [Str.length]
  simp only [sgn, List.size_toArray, List.length_take, List.length_drop] at e1
  omega
theorem sgn_end {x : Str} {i : Nat} (h : i = x.length) : sgn x i = Str.ofString "" := by
  have : x.length = x.cps.toList.length := by simp [Str.length]
  have e : x.cps.toList.drop i = [] := List.drop_eq_nil_of_le (by omega)
  unfold sgn
  rw [e]
  decide +kernel
section
variable {w : World} {loose : List Str} {mean : ExcName → Option Value} {mg mb : Str → Option Value} {dp un : Nat} {fr : Option (List Env)} {gd : Option (List Code)} {s : Shared} {Q E : Value → Shared → Prop}
theorem next_mac {x : Str} {inst d pb at_ lam dr rd I q L : Addr} {imm : List (Addr × Obj)} {K : MK} {n : Int} {i : Nat} {u v tt : Tok} {g : Heap} {m : Str → Option Value} {po : Obj} {Qn : Option Value → Shared → Prop}
    (M : Mac w loose mean mg mb x inst d pb at_ lam dr rd imm) (LI : Lies imm g) (G : Gnd w loose mean mg mb g) (ap : Apart d pb at_ imm) (a1 : @Ne Nat I d) (a2 : @Ne Nat I at_) (a3 : @Ne Nat q d) (a4 : @Ne Nat q at_) (a5 : @Ne Nat I q) (a6 : @Ne Nat I pb)
    (F : Fr g L s.heap m) (N : News g L s.heap [(I, ciObj q tt), (q, methodObj (.ref 49) (.ref inst)), (d, mdict K n u lam pb), (pb, po), (at_, W.listOf #[.int i v] 0)]) (h49 : ∃ fo fd, g.get? 49 = some fo ∧ fo.data = .func fd) (hi : i ≤ x.length) (hd : dp + 2 < recursionLimit) (hu : un + 24 < cLine)
    (item : i < x.length → ∀ h' tk' t' u' v', Fr g L h' m → News g L h' [(I, ciObj q tt), (q, methodObj (.ref 49) (.ref inst)), (d, mdict K (n + nlOf (sgn x i)) u' lam pb), (pb, po), (at_, W.listOf #[.int ((i + 1 : Nat) : Int) v'] 0)] → Qn (some (.str (sgn x i) t')) { s with heap := h', toks := tk' })
    (done : i = x.length → ∀ h' tk' u' v', Fr g L h' m → News g L h' [(d, mdict K n u' lam pb), (pb, po), (at_, W.listOf #[.int (i : Int) v'] 0)] → Qn none { s with heap := h', toks := tk' }) :
    wpAny (model PySem.Challenge.rw_sn0008_01.row.prog w) (Ar dp un fr gd) (pyNext (.ref I)) Qn E s := by
  obtain ⟨fo, fd, h49, hfd⟩ := h49
  have gI := (N _ (.head _)).1
  have gq := (N _ (.tail _ (.head _))).1
  dsimp only at gI gq h49
  have hs : ∀ p ∈ [(d, mdict K n u lam pb), (at_, W.listOf #[.int (i : Int) v] 0)], p ∈ [(I, ciObj q tt), (q, methodObj (.ref 49) (.ref inst)), (d, mdict K n u lam pb), (pb, po), (at_, W.listOf #[.int (i : Int) v] 0)] := List.forall_mem_cons.mpr ⟨.tail _ (.tail _ (.head _)), List.forall_mem_cons.mpr ⟨.tail _ (.tail _ (.tail _ (.tail _ (.head _)))), fun _ h => nomatch h⟩⟩
  have kk := Fr.aside F N hs
  refine next_ci rfl gI gq (F.keep _ _ h49) hfd ?_
  refine c_readchar M (fun p hp => kk _ _ (LI p hp)) (G.keeps kk) ap.2.1 (On.aside N hs) hi (dlt 2 hd rfl) (dlt 17 hu rfl) ?_
  intro h' tk' t' u' v' O
  have F9 := Fr.back F N hs O
  have N9 := News.back (rest := [(I, ciObj q tt), (q, methodObj (.ref 49) (.ref inst)), (pb, po)]) F N hs O (by
    refine List.forall_mem_cons.mpr ⟨⟨.head _, ?_⟩, List.forall_mem_cons.mpr ⟨⟨.tail _ (.head _), ?_⟩, List.forall_mem_cons.mpr ⟨⟨.tail _ (.tail _ (.tail _ (.head _))), ?_⟩, fun _ h => nomatch h⟩⟩⟩
    · exact List.forall_mem_cons.mpr ⟨a1, List.forall_mem_cons.mpr ⟨a2, fun _ h => nomatch h⟩⟩
    · exact List.forall_mem_cons.mpr ⟨a3, List.forall_mem_cons.mpr ⟨a4, fun _ h => nomatch h⟩⟩
    · exact List.forall_mem_cons.mpr ⟨Ne.symm ap.1, List.forall_mem_cons.mpr ⟨ap.2.2.1, fun _ h => nomatch h⟩⟩)
  simp only [List.cons_append, List.nil_append] at N9
  refine ⟨sgn x i, t', rfl, (N9 _ (.tail _ (.tail _ (.head _)))).1, (N9 _ (.tail _ (.tail _ (.tail _ (.head _))))).1, ⟨fo, fd, F9.keep _ _ h49, hfd⟩, fun hne => ?_, fun he h3 hx => ?_⟩
  · have hlt : i < x.length := by
      rcases Nat.lt_or_ge i x.length with h | h
      · exact h
      · exact absurd (sgn_end (by omega)) hne
    have e : min (i + 1) x.length = i + 1 := by omega
    rw [e] at N9
    refine item hlt _ _ t' u' v' F9 fun p hp => N9 p ?_
    simp only [List.mem_cons, List.not_mem_nil, or_false] at hp ⊢
    rcases hp with h | h | h | h | h <;> simp [h]
  · have hge : i = x.length := by
      rcases Nat.lt_or_ge i x.length with h | h
      · exact absurd he (sgn_len h)
      · omega
    have e : min (i + 1) x.length = i := by omega
    rw [e] at N9
    have e2 : nlOf (sgn x i) = 0 := by rw [he]; decide +kernel
    rw [e2, Int.add_zero] at N9
    refine done hge _ _ u' v' (LCg.fr_but F9 (fun b o hb eb => hx b o (by simpa using hb) eb) (Ne.symm (N _ (.head _)).2.1) (N _ (.head _)).2.2) (LCg.news_but (I := I) (news := [(d, mdict K n u' lam pb), (pb, po), (at_, W.listOf #[.int (i : Int) v'] 0)]) (fun p hp => N9 p ?_) (fun b o hb eb => hx b o (by simpa using hb) eb) ?_)
    · simp only [List.mem_cons, List.not_mem_nil, or_false] at hp ⊢
      rcases hp with h | h | h <;> simp [h]
    · exact List.forall_mem_cons.mpr ⟨Ne.symm a1, List.forall_mem_cons.mpr ⟨Ne.symm a6, List.forall_mem_cons.mpr ⟨Ne.symm a2, fun _ h => nomatch h⟩⟩⟩
end

-- M18
noncomputable def lno (x : Str) (i : Nat) : Int := 1 + ((x.cps.toList.take i).count 10 : Nat)
theorem sgn_at {x : Str} {i : Nat} (h : i < x.length) : ∃ c, x.cps.toList.drop i = c :: x.cps.toList.drop (i + 1) ∧ sgn x i = ⟨#[c]⟩ ∧ x.cps.toList.take (i + 1) = x.cps.toList.take i ++ [c] := by
  have hl : i < x.cps.toList.length := by simpa [Str.length] using h
  refine ⟨x.cps.toList[i], List.drop_eq_getElem_cons hl, ?_, (List.take_append_getElem hl).symm⟩
  unfold sgn
  rw [List.drop_eq_getElem_cons hl]
  rfl
theorem one_eq (c d : Nat) : ((⟨#[c]⟩ : Str) == ⟨#[d]⟩) = decide (c = d) := by
  rw [Bool.eq_iff_iff, beq_iff_eq, decide_eq_true_iff]
  simp
theorem s34 : Str.ofString "\"" = ⟨#[34]⟩ := by decide +kernel
theorem s92 : Str.ofString "\\" = ⟨#[92]⟩ := by decide +kernel
theorem s10 : Str.ofString "\n" = ⟨#[10]⟩ := by decide +kernel
theorem sws : (Str.ofString "\n\t\x0d ").cps.toList = [10, 9, 13, 32] := by decide +kernel
theorem is34 (c : Nat) : ((⟨#[c]⟩ : Str) == Str.ofString "\"") = decide (c = 34) := by rw [s34, one_eq]
theorem is92 (c : Nat) : ((⟨#[c]⟩ : Str) == Str.ofString "\\") = decide (c = 92) := by rw [s92, one_eq]
theorem isws (c : Nat) : (occurrences (Str.ofString "\n\t\x0d ") ⟨#[c]⟩ 0 (Str.ofString "\n\t\x0d ").length 1).isEmpty = !isWs c := by
  rw [← Bool.not_not (b := List.isEmpty _), StrLaws.found_one, sws]
  congr 1
  rw [Bool.eq_iff_iff]
  simp [isWs, or_assoc]
theorem q_yes {c : Nat} (h : ((⟨#[c]⟩ : Str) == Str.ofString "\"") = true) : c = 34 := of_decide_eq_true ((is34 c).symm.trans h)
theorem q_no {c : Nat} (h : ((⟨#[c]⟩ : Str) == Str.ofString "\"") = false) : ¬ c = 34 := of_decide_eq_false ((is34 c).symm.trans h)
theorem b_yes {c : Nat} (h : ((⟨#[c]⟩ : Str) == Str.ofString "\\") = true) : c = 92 := of_decide_eq_true ((is92 c).symm.trans h)
theorem b_no {c : Nat} (h : ((⟨#[c]⟩ : Str) == Str.ofString "\\") = false) : ¬ c = 92 := of_decide_eq_false ((is92 c).symm.trans h)
theorem w_no {c : Nat} (h : (occurrences (Str.ofString "\n\t\x0d ") ⟨#[c]⟩ 0 (Str.ofString "\n\t\x0d ").length 1).isEmpty = true) : isWs c = false := by rw [isws] at h; simpa using h
theorem w_yes {c : Nat} (h : (occurrences (Str.ofString "\n\t\x0d ") ⟨#[c]⟩ 0 (Str.ofString "\n\t\x0d ").length 1).isEmpty = false) : isWs c = true := by rw [isws] at h; simpa using h
theorem acc_nil : (Str.ofString "").cps.toList = [] := by decide +kernel
theorem acc_app (a : Str) (c : Nat) : (a ++ ⟨#[c]⟩ : Str).cps.toList = a.cps.toList ++ [c] := by
  show (a.cps ++ #[c]).toList = _
  simp
theorem acc_len (a : Str) (c : Nat) : (a ++ ⟨#[c]⟩ : Str).length = a.length + 1 := by
  show (a.cps ++ #[c]).size = a.cps.size + 1
  simp
theorem acc_zero : (Str.ofString "").length = 0 := by decide +kernel
theorem acc_end {a : Str} {t : List Nat} (h : t = a.cps.toList ++ []) : a = ⟨t.toArray⟩ := by
  subst h
  rw [List.append_nil]
theorem drop_lt {x : Str} {i : Nat} {c : Nat} {r : List Nat} (h : x.cps.toList.drop i = c :: r) : i < x.length := by
  rcases Nat.lt_or_ge i x.length with q | q
  · exact q
  · rw [List.drop_eq_nil_of_le (by simpa [Str.length] using q)] at h; cases h
theorem lno_next {x : Str} {i : Nat} (h : i < x.length) : lno x i + nlOf (sgn x i) = lno x (i + 1) := by
  obtain ⟨c, _, e, t⟩ := sgn_at h
  unfold lno nlOf
  rw [e, t, List.count_append, s10]
  by_cases hc : c = 10
  · subst hc
    rw [if_pos rfl]
    simp; omega
  · rw [if_neg (by simpa using hc)]
    simp [hc]
theorem lexB_nil {p : List Nat × List Nat} (h : lexB [] = some p) : False := by cases h
theorem lexQ_nil {p : List Nat × List Nat} (h : lexQ [] = some p) : False := by cases h
theorem lexB_ws {c : Nat} {r t q : List Nat} (hc : isWs c = true) (h : lexB (c :: r) = some (t, q)) : t = [] ∧ q = r := by
  rw [lexB] at h
  · rw [hc] at h; cases h; exact ⟨rfl, rfl⟩
  · rintro rfl; simp [isWs] at hc
  · rintro _ _ rfl; simp [isWs] at hc
theorem lexB_one {c : Nat} {r t q : List Nat} (hc : isWs c = false) (h9 : ¬ c = 92) (h : lexB (c :: r) = some (t, q)) : ∃ t', lexB r = some (t', q) ∧ t = c :: t' := by
  rw [lexB] at h
  · rw [hc] at h
    obtain ⟨p, e1, e2⟩ := Option.map_eq_some_iff.mp h
    cases e2
    exact ⟨_, e1, rfl⟩
  · rintro rfl; exact absurd rfl h9
  · rintro _ _ rfl; exact absurd rfl h9
theorem lexB_two {r t q : List Nat} (h : lexB (92 :: r) = some (t, q)) : ∃ c r' t', r = c :: r' ∧ lexB r' = some (t', q) ∧ t = c :: t' := by
  cases r with
  | nil => cases h
  | cons c r =>
    rw [lexB] at h
    obtain ⟨p, e1, e2⟩ := Option.map_eq_some_iff.mp h
    cases e2
    exact ⟨_, _, _, rfl, e1, rfl⟩
theorem lexQ_end {r t q : List Nat} (h : lexQ (34 :: r) = some (t, q)) : t = [] ∧ q = r := by
  rw [lexQ] at h
  · cases h; exact ⟨rfl, rfl⟩
  · intro h; cases h
  · intro _ _ h; cases h
theorem lexQ_one {c : Nat} {r t q : List Nat} (hc : ¬ c = 34) (h9 : ¬ c = 92) (h : lexQ (c :: r) = some (t, q)) : ∃ t', lexQ r = some (t', q) ∧ t = c :: t' := by
  rw [lexQ] at h
  · rw [if_neg hc] at h
    obtain ⟨p, e1, e2⟩ := Option.map_eq_some_iff.mp h
    cases e2
    exact ⟨_, e1, rfl⟩
  · rintro rfl; exact absurd rfl h9
  · rintro _ _ rfl; exact absurd rfl h9
theorem lexQ_two {r t q : List Nat} (h : lexQ (92 :: r) = some (t, q)) : ∃ c r' t', r = c :: r' ∧ lexQ r' = some (t', q) ∧ t = c :: t' := by
  cases r with
  | nil => cases h
  | cons c r =>
    rw [lexQ] at h
    obtain ⟨p, e1, e2⟩ := Option.map_eq_some_iff.mp h
    cases e2
    exact ⟨_, _, _, rfl, e1, rfl⟩
theorem lexT_nil {t q : List Nat} (h : lexT [] = some (t, q)) : t = [] ∧ q = [] := by
  rw [lexT] at h; cases h; exact ⟨rfl, rfl⟩
theorem lexT_ws {c : Nat} {r t q : List Nat} (hc : isWs c = true) (h : lexT (c :: r) = some (t, q)) : lexT r = some (t, q) := by
  rw [lexT] at h
  · rw [hc] at h; exact h
  · rintro rfl; simp [isWs] at hc
  · rintro _ _ rfl; simp [isWs] at hc
theorem lexT_q {r t q : List Nat} (h : lexT (34 :: r) = some (t, q)) : lexQ r = some (t, q) := by
  rw [lexT] at h
  · exact h
  · intro h; cases h
  · intro _ _ h; cases h
theorem lexT_one {c : Nat} {r t q : List Nat} (hc : isWs c = false) (hq : ¬ c = 34) (h9 : ¬ c = 92) (h : lexT (c :: r) = some (t, q)) : ∃ t', lexB r = some (t', q) ∧ t = c :: t' := by
  rw [lexT] at h
  · rw [hc, if_neg hq] at h
    obtain ⟨p, e1, e2⟩ := Option.map_eq_some_iff.mp h
    cases e2
    exact ⟨_, e1, rfl⟩
  · rintro rfl; exact absurd rfl h9
  · rintro _ _ rfl; exact absurd rfl h9
theorem lexT_two {r t q : List Nat} (h : lexT (92 :: r) = some (t, q)) : ∃ c r' t', r = c :: r' ∧ lexB r' = some (t', q) ∧ t = c :: t' := by
  cases r with
  | nil => cases h
  | cons c r =>
    rw [lexT] at h
    obtain ⟨p, e1, e2⟩ := Option.map_eq_some_iff.mp h
    cases e2
    exact ⟨_, _, _, rfl, e1, rfl⟩
section
variable {w : World} {loose : List Str} {mean : ExcName → Option Value} {mg mb : Str → Option Value} {dp un : Nat} {fr : Option (List Env)} {gd : Option (List Code)} {s : Shared} {Q E : Value → Shared → Prop}
theorem read_call {x : Str} {inst d pb at_ lam dr rd I q L : Addr} {imm : List (Addr × Obj)} {K : MK} {i : Nat} {u v tt : Tok} {g : Heap} {m : Str → Option Value} {po : Obj}
    (M : Mac w loose mean mg mb x inst d pb at_ lam dr rd imm) (LI : Lies imm g) (G : Gnd w loose mean mg mb g) (ap : Apart d pb at_ imm) (a1 : @Ne Nat I d) (a2 : @Ne Nat I at_) (a3 : @Ne Nat q d) (a4 : @Ne Nat q at_)
    (F : Fr g L s.heap m) (N : News g L s.heap [(I, ciObj q tt), (q, methodObj (.ref 49) (.ref inst)), (d, mdict K (lno x i) u lam pb), (pb, po), (at_, W.listOf #[.int i v] 0)]) (hi : i < x.length) (hd : dp + 2 < recursionLimit) (hu : un + 24 < cLine)
    (item : ∀ c h' tk' t' u' v', x.cps.toList.drop i = c :: x.cps.toList.drop (i + 1) → Fr g L h' m → News g L h' [(I, ciObj q tt), (q, methodObj (.ref 49) (.ref inst)), (d, mdict K (lno x (i + 1)) u' lam pb), (pb, po), (at_, W.listOf #[.int ((i + 1 : Nat) : Int) v'] 0)] → Q (.str ⟨#[c]⟩ t') { s with heap := h', toks := tk' }) :
    wpAny (model PySem.Challenge.rw_sn0008_01.row.prog w) (Ar dp un fr gd) (call (.ref 49) [.ref inst]) Q E s := by
  have hs : ∀ p ∈ [(d, mdict K (lno x i) u lam pb), (at_, W.listOf #[.int (i : Int) v] 0)], p ∈ [(I, ciObj q tt), (q, methodObj (.ref 49) (.ref inst)), (d, mdict K (lno x i) u lam pb), (pb, po), (at_, W.listOf #[.int (i : Int) v] 0)] := List.forall_mem_cons.mpr ⟨.tail _ (.tail _ (.head _)), List.forall_mem_cons.mpr ⟨.tail _ (.tail _ (.tail _ (.tail _ (.head _)))), fun _ h => nomatch h⟩⟩
  have kk := Fr.aside F N hs
  refine wpAny_call (c_readchar M (fun p hp => kk _ _ (LI p hp)) (G.keeps kk) ap.2.1 (On.aside N hs) (Nat.le_of_lt hi) hd (Nat.lt_of_le_of_lt (Nat.add_le_add_left (by decide) un) hu) ?_)
  intro h' tk' t' u' v' O
  have F9 := Fr.back F N hs O
  have N9 := News.back (rest := [(I, ciObj q tt), (q, methodObj (.ref 49) (.ref inst)), (pb, po)]) F N hs O (by
    refine List.forall_mem_cons.mpr ⟨⟨.head _, ?_⟩, List.forall_mem_cons.mpr ⟨⟨.tail _ (.head _), ?_⟩, List.forall_mem_cons.mpr ⟨⟨.tail _ (.tail _ (.tail _ (.head _))), ?_⟩, fun _ h => nomatch h⟩⟩⟩
    · exact List.forall_mem_cons.mpr ⟨a1, List.forall_mem_cons.mpr ⟨a2, fun _ h => nomatch h⟩⟩
    · exact List.forall_mem_cons.mpr ⟨a3, List.forall_mem_cons.mpr ⟨a4, fun _ h => nomatch h⟩⟩
    · exact List.forall_mem_cons.mpr ⟨Ne.symm ap.1, List.forall_mem_cons.mpr ⟨ap.2.2.1, fun _ h => nomatch h⟩⟩)
  rw [lno_next hi, Nat.min_eq_left (show i + 1 ≤ x.length from hi)] at N9
  obtain ⟨c, hdr, hsg, _⟩ := sgn_at hi
  rw [hsg]
  refine item c _ _ t' u' v' hdr F9 (List.forall_mem_cons.mpr ⟨N9 _ (.tail _ (.tail _ (.head _))), List.forall_mem_cons.mpr ⟨N9 _ (.tail _ (.tail _ (.tail _ (.head _)))), List.forall_mem_cons.mpr ⟨N9 _ (.head _), List.forall_mem_cons.mpr ⟨N9 _ (.tail _ (.tail _ (.tail _ (.tail _ (.head _))))), List.forall_mem_cons.mpr ⟨N9 _ (.tail _ (.head _)), fun _ h => nomatch h⟩⟩⟩⟩⟩)
theorem next_tok {x : Str} {inst d pb at_ lam dr rd I q L : Addr} {imm : List (Addr × Obj)} {K : MK} {i : Nat} {u v tt : Tok} {g : Heap} {m : Str → Option Value} {po : Obj} {Qn : Option Value → Shared → Prop}
    (M : Mac w loose mean mg mb x inst d pb at_ lam dr rd imm) (LI : Lies imm g) (G : Gnd w loose mean mg mb g) (ap : Apart d pb at_ imm) (a1 : @Ne Nat I d) (a2 : @Ne Nat I at_) (a3 : @Ne Nat q d) (a4 : @Ne Nat q at_) (a5 : @Ne Nat I q) (a6 : @Ne Nat I pb)
    (F : Fr g L s.heap m) (N : News g L s.heap [(I, ciObj q tt), (q, methodObj (.ref 49) (.ref inst)), (d, mdict K (lno x i) u lam pb), (pb, po), (at_, W.listOf #[.int i v] 0)]) (h49 : ∃ fo fd, g.get? 49 = some fo ∧ fo.data = .func fd) (hi : i ≤ x.length) (hd : dp + 2 < recursionLimit) (hu : un + 24 < cLine)
    (item : ∀ c h' tk' t' u' v', i < x.length → x.cps.toList.drop i = c :: x.cps.toList.drop (i + 1) → Fr g L h' m → News g L h' [(I, ciObj q tt), (q, methodObj (.ref 49) (.ref inst)), (d, mdict K (lno x (i + 1)) u' lam pb), (pb, po), (at_, W.listOf #[.int ((i + 1 : Nat) : Int) v'] 0)] → Qn (some (.str ⟨#[c]⟩ t')) { s with heap := h', toks := tk' })
    (done : x.cps.toList.drop i = [] → ∀ h' tk' u' v', Fr g L h' m → News g L h' [(d, mdict K (lno x i) u' lam pb), (pb, po), (at_, W.listOf #[.int (i : Int) v'] 0)] → Qn none { s with heap := h', toks := tk' }) :
    wpAny (model PySem.Challenge.rw_sn0008_01.row.prog w) (Ar dp un fr gd) (pyNext (.ref I)) Qn E s := by
  refine next_mac M LI G ap a1 a2 a3 a4 a5 a6 F N h49 hi hd hu (fun hlt h' tk' t' u' v' F' N' => ?_) (fun e => done (List.drop_eq_nil_of_le (by simpa [Str.length] using Nat.le_of_eq e.symm)))
  obtain ⟨c, hdr, hsg, _⟩ := sgn_at hlt
  rw [lno_next hlt] at N'
  rw [hsg]
  exact item c h' tk' t' u' v' hlt hdr F' N'
end

-- M16
theorem call_iterN {prog : Program} {w : World} {A : Around} {E : Value → Shared → Prop} {s : Shared} {g : Heap} {L : Addr} {m : Str → Option Value} {news : List (Addr × Obj)} {q : Addr} {tt : Tok} {f self : Value} {Q : Value → Shared → Prop} (F : Fr g L s.heap m) (N : News g L s.heap news) (hq : (q, methodObj f self) ∈ news)
    (h : ∀ I h', Fr g L h' m → News g L h' ((I, ciObj q tt) :: news) → (∀ p ∈ news, p.1 < I) → Q (.ref I) { s with heap := h' }) :
    wpAny (model prog w) A (call (.builtin "iter") [.ref q, .str (Str.ofString "") tt]) Q E s :=
  call_iter2 (N _ hq).1 (h _ _ (F.push _) (News.push F N _ rfl) fun p hp => Heap.lt_size (N p hp).1)
local macro_rules | `(tactic| walk_at "call builtin:iter") => `(tactic| (k_dflt (refine' call_iterN ?F ?N ?q ?_; (case F => k_asm); (case N => k_asm); (case q => k_mem)); intro I' h' F' N' l1; k_lt l1))
section
variable {w : World} {loose : List Str} {mean : ExcName → Option Value} {mg mb : Str → Option Value} {dp un : Nat} {fr : Option (List Env)} {gd : Option (List Code)} {s : Shared} {Q E : Value → Shared → Prop}
theorem c_token {x : Str} {inst d pb at_ lam dr rd : Addr} {imm : List (Addr × Obj)} {K : MK} {i : Nat} {u v : Tok} {tok rest : List Nat} {kn : Nat} {g : Heap} {R : Result → Shared → Prop} (M : Mac w loose mean mg mb x inst d pb at_ lam dr rd imm) (LI : Lies imm g) (G : Gnd w loose mean mg mb g) (ap : Apart d pb at_ imm)
    (O : On g s.heap [(d, mdict K (lno x i) u lam pb), (pb, W.listOf #[] kn), (at_, W.listOf #[.int i v] 0)]) (hi : i ≤ x.length) (hd : dp + 3 < recursionLimit) (hu : un + 32 < cLine)
    (hl : lexT (x.cps.toList.drop i) = some (tok, rest)) (hx : x.length ≤ 1000)
    (ret : ∀ h' tk' t' i' u' v', i' ≤ x.length → x.cps.toList.drop i' = rest → On g h' [(d, mdict K (lno x i') u' lam pb), (pb, W.listOf #[] kn), (at_, W.listOf #[.int (i' : Int) v'] 0)] → R (.ok (.ret (.str ⟨tok.toArray⟩ t'))) { s with heap := h', toks := tk' }) :
    codeAny (model PySem.Challenge.rw_sn0008_01.row.prog w) (Ar dp un fr gd) (.call (.ref 56) ⟨[.ref inst], []⟩) R s := by
  have X := G.X
  have T := G.T
  have m1 := LI _ M.inst
  dsimp only at m1
  revert X; k_fill; intro X
  ((refine' enterGc ?k0 ?k1 ?k2 ?k6 ?k7 ?k8 ?k9 ?kB ?_ ?c2 ?c3 ?c4 ?c5; (case k0 => with_reducible assumption); (case k1 => with_reducible assumption); (case k2 => with_reducible assumption); (case k6 => k_is); (case k7 => k_is); (case k8 => exact dlt0 (by with_reducible assumption)); (case k9 => exact BindsTo.of_eq rfl); (case kB => exact locs rfl); (case c2 => exact rfl); (case c3 => exact rfl); (case c4 => exact rfl); (case c5 => decide)))
  intro L' h' tk' F' N' l1
  k_lt l1
  (repeat' (first | (k_unfold; (try dsimp only)) | walk1 | (dsimp only; walk1) | (dsimp only; k_unfold; (try dsimp only))))
  refine Stop.out ?_
  refine wpAny_For ?_
  (repeat' (first | (k_unfold; (try dsimp only)) | walk1 | (dsimp only; walk1) | (dsimp only; k_unfold; (try dsimp only))))
  refine Stop.out ?_
  rename Fr _ _ _ _ => lF
  rename News _ _ _ _ => lN
  rename_i tk9 hA q1 hB l2 I1 hC l3 hD
  have h49 : ∃ fo fd, g.get? 49 = some fo ∧ fo.data = .func fd := fn_of X (by k_is)
  have a1 : @Ne Nat I1 d := Nat.ne_of_gt l3.2.1
  have a2 : @Ne Nat I1 at_ := Nat.ne_of_gt l3.2.2.2
  have a3 : @Ne Nat q1 d := Nat.ne_of_gt l2.1
  have a4 : @Ne Nat q1 at_ := Nat.ne_of_gt l2.2.2
  have a5 : @Ne Nat I1 q1 := Nat.ne_of_gt l3.1
  have a6 : @Ne Nat I1 pb := Nat.ne_of_gt l3.2.2.1
  refine pyIter_ci (lN _ (.head _)).1 ?_
  refine forV (σ := Nat × Tok × Tok × Tok × Tok) (fun c => [(I1, ciObj q1 c.2.2.2.2), (q1, methodObj (.ref 49) (.ref inst)), (d, mdict K (lno x c.1) c.2.1 lam pb), (pb, W.listOf #[] kn), (at_, W.listOf #[.int (c.1 : Int) c.2.2.1] 0)]) (fun c => [(Str.ofString "self", .ref inst), (Str.ofString "fiter", .ref I1), (Str.ofString "token", .str (Str.ofString "") c.2.2.2.1)]) (fun c => c.1 ≤ x.length ∧ lexT (x.cps.toList.drop c.1) = some (tok, rest)) (fun c => x.length - c.1) (i, u, v, _, _) lF lN ⟨rfl, rfl, rfl, trivial⟩ ⟨hi, hl⟩ ?_
  clear lF lN hi hl l1 l2 l3
  rintro ⟨i, u, v, t0, tt⟩ m h tk R X ⟨hi, hl⟩ F N hR hX
  dsimp only at hi hl F N
  refine next_tok M LI G ap a1 a2 a3 a4 a5 a6 F N h49 hi (dlt 3 hd rfl) (dlt 27 hu rfl) ?item ?done
  case done =>
    intro he h' tk' u' v' F' N'
    clear F N
    rw [he] at hl
    obtain ⟨rfl, rfl⟩ := lexT_nil hl
    refine hX _ ?_
    (repeat' (first | (k_unfold; (try dsimp only)) | walk1 | (dsimp only; walk1) | (dsimp only; k_unfold; (try dsimp only))))
    rename Fr _ _ _ _ => lF
    rename News _ _ _ _ => lN
    refine ret _ _ _ i u' v' hi he ?_
    exact On.of lF lN (fun _ h => h)
  case item =>
    intro c h' tk' t' u' v' hlt hdr F' N'
    rw [hdr] at hl
    dsimp only
    clear F N hi
    (repeat' (first | (k_unfold; (try dsimp only)) | walk1 | (dsimp only; walk1) | (dsimp only; k_unfold; (try dsimp only))))
    · refine Stop.out ?_
      refine wpAny_For ?_
      (repeat' (first | (k_unfold; (try dsimp only)) | walk1 | (dsimp only; walk1) | (dsimp only; k_unfold; (try dsimp only))))
      refine Stop.out ?_
      have e := q_yes (c := c) (by with_reducible assumption)
      subst e
      have hl := lexT_q hl
      rename Fr _ _ _ _ => lF
      rename News _ _ _ _ => lN
      refine pyIter_ci (lN _ (.head _)).1 ?_
      refine forV (σ := Nat × Tok × Tok × Tok × Tok × Str) (fun c => [(I1, ciObj q1 c.2.2.2.2.1), (q1, methodObj (.ref 49) (.ref inst)), (d, mdict K (lno x c.1) c.2.1 lam pb), (pb, W.listOf #[] kn), (at_, W.listOf #[.int (c.1 : Int) c.2.2.1] 0)]) (fun c => [(Str.ofString "self", .ref inst), (Str.ofString "fiter", .ref I1), (Str.ofString "token", .str c.2.2.2.2.2 c.2.2.2.1)]) (fun c => c.1 ≤ x.length ∧ c.2.2.2.2.2.length ≤ c.1 ∧ ∃ t9, lexQ (x.cps.toList.drop c.1) = some (t9, rest) ∧ tok = c.2.2.2.2.2.cps.toList ++ t9) (fun c => x.length - c.1) (i + 1, _, _, _, _, _) lF lN ⟨rfl, rfl, rfl, trivial⟩ ⟨hlt, Nat.le_trans (Nat.le_of_eq acc_zero) (Nat.zero_le _), tok, hl, by show tok = (Str.ofString "").cps.toList ++ tok; rw [acc_nil]; rfl⟩ ?_
      clear lF lN hl hlt hdr
      rintro ⟨i, u, v, t0, tt, acc⟩ m h tk R2 X2 ⟨hi, ha, t9, hl, ht⟩ F N hR2 hX2
      dsimp only at hi ha hl ht F N
      refine next_tok M LI G ap a1 a2 a3 a4 a5 a6 F N h49 hi (dlt 3 hd rfl) (dlt 27 hu rfl) ?item2 ?done2
      case done2 =>
        intro he
        rw [he] at hl
        exact (lexQ_nil hl).elim
      case item2 =>
        intro c h' tk' t' u' v' hlt hdr F' N'
        rw [hdr] at hl
        dsimp only
        clear F N hi
        (repeat' (first | (k_unfold; (try dsimp only)) | walk1 | (dsimp only; walk1) | (dsimp only; k_unfold; (try dsimp only))))
        · skip
          have e := q_yes (c := c) (by with_reducible assumption)
          subst e
          obtain ⟨rfl, rfl⟩ := lexQ_end hl
          obtain rfl := acc_end ht
          rename Fr _ _ _ _ => lF
          rename News _ _ _ _ => lN
          refine hR2 _ _ ?_
          refine hR _ _ ?_
          exact ret _ _ _ (i + 1) u' v' hlt rfl (On.of lF lN (fun _ h => .tail _ (.tail _ h)))
        · refine Stop.out ?_
          have e := b_yes (c := c) (by with_reducible assumption)
          subst e
          obtain ⟨c9, r9, t8, hr, hl8, rfl⟩ := lexQ_two hl
          have hlt2 := drop_lt hr
          rename Fr _ _ _ _ => lF
          rename News _ _ _ _ => lN
          refine read_call M LI G ap a1 a2 a3 a4 lF lN hlt2 (dlt 3 hd rfl) (dlt 27 hu rfl) ?_
          intro c h' tk' t' u' v' hdr2 F' N'
          rw [hr] at hdr2
          cases hdr2
          clear lF lN
          (repeat' (first | (k_unfold; (try dsimp only)) | walk1 | (dsimp only; walk1) | (dsimp only; k_unfold; (try dsimp only))))
          rename Fr _ _ _ _ => rF
          rename News _ _ _ _ => rN
          refine hR2 _ _ (wend (i + 1 + 1, u', v', _, tt, acc ++ ⟨#[c9]⟩) rF rN (fun _ h => h) ⟨rfl, rfl, rfl, trivial⟩ ⟨by omega, ?_, t8, hl8, ?_⟩ ?_)
          · rw [acc_len]; omega
          · rw [acc_app, List.append_assoc]; exact ht
          · show x.length - (i + 1 + 1) < x.length - i; omega
        · obtain ⟨t8, hl8, rfl⟩ := lexQ_one (q_no (c := c) (by with_reducible assumption)) (b_no (c := c) (by with_reducible assumption)) hl
          rename Fr _ _ _ _ => rF
          rename News _ _ _ _ => rN
          refine hR2 _ _ (wend (i + 1, u', v', _, tt, acc ++ ⟨#[c]⟩) rF rN (fun _ h => h) ⟨rfl, rfl, rfl, trivial⟩ ⟨by omega, ?_, t8, hl8, ?_⟩ ?_)
          · rw [acc_len]; omega
          · rw [acc_app, List.append_assoc]; exact ht
          · show x.length - (i + 1) < x.length - i; omega
    · refine Stop.out ?_
      have e := b_yes (c := c) (by with_reducible assumption)
      subst e
      obtain ⟨c9, r9, t8, hr, hl, hk9⟩ := lexT_two hl
      have hlt2 := drop_lt hr
      rename Fr _ _ _ _ => lF
      rename News _ _ _ _ => lN
      refine read_call M LI G ap a1 a2 a3 a4 lF lN hlt2 (dlt 3 hd rfl) (dlt 27 hu rfl) ?_
      intro c h' tk' t' u' v' hdr2 F' N'
      rw [hr] at hdr2
      cases hdr2
      clear lF lN
      (repeat' (first | (k_unfold; (try dsimp only)) | walk1 | (dsimp only; walk1) | (dsimp only; k_unfold; (try dsimp only))))
      refine Stop.out ?_
      refine wpAny_For ?_
      (repeat' (first | (k_unfold; (try dsimp only)) | walk1 | (dsimp only; walk1) | (dsimp only; k_unfold; (try dsimp only))))
      refine Stop.out ?_
      rename Fr _ _ _ _ => lF
      rename News _ _ _ _ => lN
      refine pyIter_ci (lN _ (.head _)).1 ?_
      refine forV (σ := Nat × Tok × Tok × Tok × Tok × Str) (fun c => [(I1, ciObj q1 c.2.2.2.2.1), (q1, methodObj (.ref 49) (.ref inst)), (d, mdict K (lno x c.1) c.2.1 lam pb), (pb, W.listOf #[] kn), (at_, W.listOf #[.int (c.1 : Int) c.2.2.1] 0)]) (fun c => [(Str.ofString "self", .ref inst), (Str.ofString "fiter", .ref I1), (Str.ofString "token", .str c.2.2.2.2.2 c.2.2.2.1)]) (fun c => c.1 ≤ x.length ∧ c.2.2.2.2.2.length ≤ c.1 ∧ ∃ t9, lexB (x.cps.toList.drop c.1) = some (t9, rest) ∧ tok = c.2.2.2.2.2.cps.toList ++ t9) (fun c => x.length - c.1) (i + 1 + 1, _, _, _, _, _) lF lN ⟨rfl, rfl, rfl, trivial⟩ ⟨hlt2, by rw [acc_len, acc_zero]; omega, t8, hl, by rw [acc_app, acc_nil]; exact hk9⟩ ?_
      clear lF lN hl hlt hdr hr hlt2
      rintro ⟨i, u, v, t0, tt, acc⟩ m h tk R2 X2 ⟨hi, ha, t9, hl, ht⟩ F N hR2 hX2
      dsimp only at hi ha hl ht F N
      refine next_tok M LI G ap a1 a2 a3 a4 a5 a6 F N h49 hi (dlt 3 hd rfl) (dlt 27 hu rfl) ?item2 ?done2
      case done2 =>
        intro he
        rw [he] at hl
        exact (lexB_nil hl).elim
      case item2 =>
        intro c h' tk' t' u' v' hlt hdr F' N'
        rw [hdr] at hl
        dsimp only
        clear F N hi
        (repeat' (first | (k_unfold; (try dsimp only)) | walk1 | (dsimp only; walk1) | (dsimp only; k_unfold; (try dsimp only))))
        · refine Stop.out ?_
          have e := b_yes (c := c) (by with_reducible assumption)
          subst e
          obtain ⟨c9, r9, t8, hr, hl8, rfl⟩ := lexB_two hl
          have hlt2 := drop_lt hr
          rename Fr _ _ _ _ => lF
          rename News _ _ _ _ => lN
          refine read_call M LI G ap a1 a2 a3 a4 lF lN hlt2 (dlt 3 hd rfl) (dlt 27 hu rfl) ?_
          intro c h' tk' t' u' v' hdr2 F' N'
          rw [hr] at hdr2
          cases hdr2
          clear lF lN
          (repeat' (first | (k_unfold; (try dsimp only)) | walk1 | (dsimp only; walk1) | (dsimp only; k_unfold; (try dsimp only))))
          rename Fr _ _ _ _ => rF
          rename News _ _ _ _ => rN
          refine hR2 _ _ (wend (i + 1 + 1, u', v', _, tt, acc ++ ⟨#[c9]⟩) rF rN (fun _ h => h) ⟨rfl, rfl, rfl, trivial⟩ ⟨by omega, ?_, t8, hl8, ?_⟩ ?_)
          · rw [acc_len]; omega
          · rw [acc_app, List.append_assoc]; exact ht
          · show x.length - (i + 1 + 1) < x.length - i; omega
        · obtain ⟨t8, hl8, rfl⟩ := lexB_one (w_no (c := c) (by with_reducible assumption)) (b_no (c := c) (by with_reducible assumption)) hl
          rename Fr _ _ _ _ => rF
          rename News _ _ _ _ => rN
          refine hR2 _ _ (wend (i + 1, u', v', _, tt, acc ++ ⟨#[c]⟩) rF rN (fun _ h => h) ⟨rfl, rfl, rfl, trivial⟩ ⟨by omega, ?_, t8, hl8, ?_⟩ ?_)
          · rw [acc_len]; omega
          · rw [acc_app, List.append_assoc]; exact ht
          · show x.length - (i + 1) < x.length - i; omega
        · skip
          obtain ⟨rfl, rfl⟩ := lexB_ws (w_yes (c := c) (by with_reducible assumption)) hl
          obtain rfl := acc_end ht
          rename Fr _ _ _ _ => lF
          rename News _ _ _ _ => lN
          refine hR2 _ _ ?_
          refine hR _ _ ?_
          exact ret _ _ _ (i + 1) u' v' hlt rfl (On.of lF lN (fun _ h => .tail _ (.tail _ h)))
    · refine Stop.out ?_
      obtain ⟨t8, hl, hk9⟩ := lexT_one (w_no (c := c) (by with_reducible assumption)) (q_no (c := c) (by with_reducible assumption)) (b_no (c := c) (by with_reducible assumption)) hl
      refine wpAny_For ?_
      (repeat' (first | (k_unfold; (try dsimp only)) | walk1 | (dsimp only; walk1) | (dsimp only; k_unfold; (try dsimp only))))
      refine Stop.out ?_
      rename Fr _ _ _ _ => lF
      rename News _ _ _ _ => lN
      refine pyIter_ci (lN _ (.head _)).1 ?_
      refine forV (σ := Nat × Tok × Tok × Tok × Tok × Str) (fun c => [(I1, ciObj q1 c.2.2.2.2.1), (q1, methodObj (.ref 49) (.ref inst)), (d, mdict K (lno x c.1) c.2.1 lam pb), (pb, W.listOf #[] kn), (at_, W.listOf #[.int (c.1 : Int) c.2.2.1] 0)]) (fun c => [(Str.ofString "self", .ref inst), (Str.ofString "fiter", .ref I1), (Str.ofString "token", .str c.2.2.2.2.2 c.2.2.2.1)]) (fun c => c.1 ≤ x.length ∧ c.2.2.2.2.2.length ≤ c.1 ∧ ∃ t9, lexB (x.cps.toList.drop c.1) = some (t9, rest) ∧ tok = c.2.2.2.2.2.cps.toList ++ t9) (fun c => x.length - c.1) (i + 1, _, _, _, _, _) lF lN ⟨rfl, rfl, rfl, trivial⟩ ⟨hlt, by rw [acc_len, acc_zero]; omega, t8, hl, by rw [acc_app, acc_nil]; exact hk9⟩ ?_
      clear lF lN hl hlt hdr
      rintro ⟨i, u, v, t0, tt, acc⟩ m h tk R2 X2 ⟨hi, ha, t9, hl, ht⟩ F N hR2 hX2
      dsimp only at hi ha hl ht F N
      refine next_tok M LI G ap a1 a2 a3 a4 a5 a6 F N h49 hi (dlt 3 hd rfl) (dlt 27 hu rfl) ?item2 ?done2
      case done2 =>
        intro he
        rw [he] at hl
        exact (lexB_nil hl).elim
      case item2 =>
        intro c h' tk' t' u' v' hlt hdr F' N'
        rw [hdr] at hl
        dsimp only
        clear F N hi
        (repeat' (first | (k_unfold; (try dsimp only)) | walk1 | (dsimp only; walk1) | (dsimp only; k_unfold; (try dsimp only))))
        · refine Stop.out ?_
          have e := b_yes (c := c) (by with_reducible assumption)
          subst e
          obtain ⟨c9, r9, t8, hr, hl8, rfl⟩ := lexB_two hl
          have hlt2 := drop_lt hr
          rename Fr _ _ _ _ => lF
          rename News _ _ _ _ => lN
          refine read_call M LI G ap a1 a2 a3 a4 lF lN hlt2 (dlt 3 hd rfl) (dlt 27 hu rfl) ?_
          intro c h' tk' t' u' v' hdr2 F' N'
          rw [hr] at hdr2
          cases hdr2
          clear lF lN
          (repeat' (first | (k_unfold; (try dsimp only)) | walk1 | (dsimp only; walk1) | (dsimp only; k_unfold; (try dsimp only))))
          rename Fr _ _ _ _ => rF
          rename News _ _ _ _ => rN
          refine hR2 _ _ (wend (i + 1 + 1, u', v', _, tt, acc ++ ⟨#[c9]⟩) rF rN (fun _ h => h) ⟨rfl, rfl, rfl, trivial⟩ ⟨by omega, ?_, t8, hl8, ?_⟩ ?_)
          · rw [acc_len]; omega
          · rw [acc_app, List.append_assoc]; exact ht
          · show x.length - (i + 1 + 1) < x.length - i; omega
        · obtain ⟨t8, hl8, rfl⟩ := lexB_one (w_no (c := c) (by with_reducible assumption)) (b_no (c := c) (by with_reducible assumption)) hl
          rename Fr _ _ _ _ => rF
          rename News _ _ _ _ => rN
          refine hR2 _ _ (wend (i + 1, u', v', _, tt, acc ++ ⟨#[c]⟩) rF rN (fun _ h => h) ⟨rfl, rfl, rfl, trivial⟩ ⟨by omega, ?_, t8, hl8, ?_⟩ ?_)
          · rw [acc_len]; omega
          · rw [acc_app, List.append_assoc]; exact ht
          · show x.length - (i + 1) < x.length - i; omega
        · skip
          obtain ⟨rfl, rfl⟩ := lexB_ws (w_yes (c := c) (by with_reducible assumption)) hl
          obtain rfl := acc_end ht
          rename Fr _ _ _ _ => lF
          rename News _ _ _ _ => lN
          refine hR2 _ _ ?_
          refine hR _ _ ?_
          exact ret _ _ _ (i + 1) u' v' hlt rfl (On.of lF lN (fun _ h => .tail _ (.tail _ h)))
    · have hl := lexT_ws (w_yes (c := c) (by with_reducible assumption)) hl
      rename Fr _ _ _ _ => rF
      rename News _ _ _ _ => rN
      refine hR _ _ (wend (i + 1, u', v', _, tt) rF rN (fun _ h => h) ⟨rfl, rfl, rfl, trivial⟩ ⟨hlt, hl⟩ ?_)
      show x.length - (i + 1) < x.length - i
      omega
end

-- M19
theorem truthy_consN {prog : Program} {w : World} {A : Around} {E : Value → Shared → Prop} {s : Shared} {g : Heap} {L : Addr} {news : List (Addr × Obj)} {q : Addr} {y : Value} {ys : List Value} {n : Nat} {Q : Bool → Shared → Prop} (N : News g L s.heap news) (hq : (q, W.listOf (y :: ys).toArray n) ∈ news) (hz : ys.length < 64)
    (h : Q true { s with toks := s.toks + 1 + 1 }) : wpAny (model prog w) A (truthy (.ref q)) Q E s := by
  refine wpAny_truthy_list (items := (y :: ys).toArray) ⟨_, (N _ hq).1, rfl, _, rfl⟩ ?_ ?_
  · rw [List.size_toArray, List.length_cons]; omega
  · exact h
theorem pop_head {prog : Program} {w : World} {A : Around} {E : Value → Shared → Prop} {s : Shared} {g : Heap} {L : Addr} {m : Str → Option Value} {news news' : List (Addr × Obj)} {q : Addr} {y : Value} {ys : List Value} {n : Nat} {u : Tok} {Q : Value → Shared → Prop} (F : Fr g L s.heap m) (N : News g L s.heap news) (U : Upd q (W.listOf (y :: ys).toArray n) (W.listOf ys.toArray (n + 1)) news news') (hz : ys.length < 64)
    (h : ∀ h', Fr g L h' m → News g L h' news' → Q y { s with heap := h' }) : wpAny (model prog w) A (call (.builtin "list.pop") [.ref q, .int 0 u]) Q E s := by
  refine kl_popAt (k := 0) (p := []) (q := ys) (y := y) F N rfl ?_ rfl U ?_ h
  · rw [List.size_toArray, List.length_cons]
    unfold seqIndex?
    simp
  · show (y :: ys).length ≤ _
    rw [List.length_cons, sizeLine_eq]; omega
theorem push_end {prog : Program} {w : World} {A : Around} {E : Value → Shared → Prop} {s : Shared} {g : Heap} {L : Addr} {m : Str → Option Value} {news news' : List (Addr × Obj)} {q : Addr} {y : Value} {ys : List Value} {n : Nat} {Q : Value → Shared → Prop} (F : Fr g L s.heap m) (N : News g L s.heap news) (hz : ys.length < 64) (U : Upd q (W.listOf ys.toArray n) (W.listOf (ys ++ [y]).toArray (n + 1)) news news')
    (h : ∀ h', Fr g L h' m → News g L h' news' → Q .none { s with heap := h' }) : wpAny (model prog w) A (call (.builtin "list.append") [.ref q, y]) Q E s := by
  refine append_K (its := ys.toArray) (n := n) F N ?_ h ?_
  · rw [List.push_toArray]; exact U
  · rw [List.size_toArray, sizeLine_eq]; omega
local macro_rules | `(tactic| walk_at "truthy ref") => `(tactic| (k_dflt (refine' truthy_consN ?N ?m ?z ?_; (case N => k_asm); (case m => k_mem); (case z => with_reducible assumption))))
local macro_rules | `(tactic| walk_at "call builtin:list.pop") => `(tactic| (k_dflt (refine' pop_head ?F ?N ?U ?z ?_; (case F => k_asm); (case N => k_asm); (case U => k_upd); (case z => with_reducible assumption)); kl_rest))
local macro_rules | `(tactic| walk_at "call builtin:list.append") => `(tactic| (k_dflt (refine' push_end ?F ?N ?z ?U ?_; (case F => k_asm); (case N => k_asm); (case U => k_upd); (case z => with_reducible assumption)); kl_rest))
section
variable {w : World} {loose : List Str} {mean : ExcName → Option Value} {mg mb : Str → Option Value} {dp un : Nat} {fr : Option (List Env)} {gd : Option (List Code)} {s : Shared} {Q E : Value → Shared → Prop}
theorem c_pop {x : Str} {inst d pb at_ lam dr rd : Addr} {imm : List (Addr × Obj)} {K : MK} {z : Int} {u : Tok} {g : Heap} {R : Result → Shared → Prop} {y : Value} {ys : List Value} {n : Nat} (M : Mac w loose mean mg mb x inst d pb at_ lam dr rd imm) (LI : Lies imm g) (G : Gnd w loose mean mg mb g) (ap : Apart d pb at_ imm)
    (O : On g s.heap [(d, mdict K z u lam pb), (pb, W.listOf (y :: ys).toArray n)]) (hz : ys.length < 64) (hd : dp + 3 < recursionLimit) (hu : un + 24 < cLine)
    (ret : ∀ h' tk', On g h' [(d, mdict K z u lam pb), (pb, W.listOf ys.toArray (n + 1))] → R (.ok (.ret y)) { s with heap := h', toks := tk' }) :
    codeAny (model PySem.Challenge.rw_sn0008_01.row.prog w) (Ar dp un fr gd) (.call (.ref 56) ⟨[.ref inst], []⟩) R s := by
  have X := G.X
  have T := G.T
  have m1 := LI _ M.inst
  have a9 : @Ne Nat d pb := ap.1
  dsimp only at m1
  revert X; k_fill; intro X
  ((refine' enterGc ?k0 ?k1 ?k2 ?k6 ?k7 ?k8 ?k9 ?kB ?_ ?c2 ?c3 ?c4 ?c5; (case k0 => with_reducible assumption); (case k1 => with_reducible assumption); (case k2 => with_reducible assumption); (case k6 => k_is); (case k7 => k_is); (case k8 => exact dlt0 (by with_reducible assumption)); (case k9 => exact BindsTo.of_eq rfl); (case kB => exact locs rfl); (case c2 => exact rfl); (case c3 => exact rfl); (case c4 => exact rfl); (case c5 => decide)))
  intro L' h' tk' F' N' l1
  k_lt l1
  (repeat' (first | (k_unfold; (try dsimp only)) | walk1 | (dsimp only; walk1) | (dsimp only; k_unfold; (try dsimp only))))
  clear F' N'
  rename Fr _ _ _ _ => rF
  rename News _ _ _ _ => rN
  exact ret _ _ (On.of rF rN fun _ h => h)
theorem c_push {x : Str} {inst d pb at_ lam dr rd : Addr} {imm : List (Addr × Obj)} {K : MK} {z : Int} {u : Tok} {g : Heap} {R : Result → Shared → Prop} {y : Value} {ys : List Value} {n : Nat} (M : Mac w loose mean mg mb x inst d pb at_ lam dr rd imm) (LI : Lies imm g) (G : Gnd w loose mean mg mb g) (ap : Apart d pb at_ imm)
    (O : On g s.heap [(d, mdict K z u lam pb), (pb, W.listOf ys.toArray n)]) (hz : ys.length < 64) (hd : dp + 3 < recursionLimit) (hu : un + 24 < cLine)
    (ret : ∀ h' tk', On g h' [(d, mdict K z u lam pb), (pb, W.listOf (ys ++ [y]).toArray (n + 1))] → R (.ok (.ret .none)) { s with heap := h', toks := tk' }) :
    codeAny (model PySem.Challenge.rw_sn0008_01.row.prog w) (Ar dp un fr gd) (.call (.ref 63) ⟨[.ref inst, y], []⟩) R s := by
  have X := G.X
  have T := G.T
  have m1 := LI _ M.inst
  have a9 : @Ne Nat d pb := ap.1
  dsimp only at m1
  revert X; k_fill; intro X
  ((refine' enterGc ?k0 ?k1 ?k2 ?k6 ?k7 ?k8 ?k9 ?kB ?_ ?c2 ?c3 ?c4 ?c5; (case k0 => with_reducible assumption); (case k1 => with_reducible assumption); (case k2 => with_reducible assumption); (case k6 => k_is); (case k7 => k_is); (case k8 => exact dlt0 (by with_reducible assumption)); (case k9 => exact BindsTo.of_eq rfl); (case kB => exact locs rfl); (case c2 => exact rfl); (case c3 => exact rfl); (case c4 => exact rfl); (case c5 => decide)))
  intro L' h' tk' F' N' l1
  k_lt l1
  (repeat' (first | (k_unfold; (try dsimp only)) | walk1 | (dsimp only; walk1) | (dsimp only; k_unfold; (try dsimp only))))
  clear F' N'
  rename Fr _ _ _ _ => rF
  rename News _ _ _ _ => rN
  exact ret _ _ (On.of rF rN fun _ h => h)
end

-- M20
/-- a machine's state -/
noncomputable abbrev mst (K : MK) (x : Str) (d pb at_ lam : Addr) (ws : List Value) (n i : Nat) (u v : Tok) : List (Addr × Obj) := [(d, mdict K (lno x i) u lam pb), (pb, W.listOf ws.toArray n), (at_, W.listOf #[.int (i : Int) v] 0)]
/-- the words of a text -/
noncomputable def Words : List Str → List Nat → Prop
  | [], l => lexT l = some ([], [])
  | t :: ts, l => t.cps.toList ≠ [] ∧ ∃ r, lexT l = some (t.cps.toList, r) ∧ Words ts r
section
variable {w : World} {loose : List Str} {mean : ExcName → Option Value} {mg mb : Str → Option Value} {dp un : Nat} {fr : Option (List Env)} {gd : Option (List Code)} {s : Shared} {Q E : Value → Shared → Prop}
theorem tok_read {x : Str} {inst d pb at_ lam dr rd L : Addr} {imm news rest : List (Addr × Obj)} {K : MK} {n i : Nat} {u v : Tok} {g : Heap} {m : Str → Option Value} {tok r9 : List Nat}
    (M : Mac w loose mean mg mb x inst d pb at_ lam dr rd imm) (LI : Lies imm g) (G : Gnd w loose mean mg mb g) (ap : Apart d pb at_ imm) (hx : x.length ≤ 1000)
    (F : Fr g L s.heap m) (N : News g L s.heap news) (hs : ∀ p ∈ mst K x d pb at_ lam [] n i u v, p ∈ news) (hr : ∀ p ∈ rest, p ∈ news ∧ ∀ q ∈ mst K x d pb at_ lam [] n i u v, p.1 ≠ q.1)
    (hi : i ≤ x.length) (hl : lexT (x.cps.toList.drop i) = some (tok, r9)) (hd : dp + 3 < recursionLimit) (hu : un + 32 < cLine)
    (item : ∀ h' tk' t' i' u' v', i' ≤ x.length → x.cps.toList.drop i' = r9 → Fr g L h' m → News g L h' (mst K x d pb at_ lam [] n i' u' v' ++ rest) → Q (.str ⟨tok.toArray⟩ t') { s with heap := h', toks := tk' }) :
    wpAny (model PySem.Challenge.rw_sn0008_01.row.prog w) (Ar dp un fr gd) (call (.ref 56) [.ref inst]) Q E s := by
  have kk := Fr.aside F N hs
  refine wpAny_call (c_token M (fun p hp => kk _ _ (LI p hp)) (G.keeps kk) ap (On.aside N hs) hi hd hu hl hx ?_)
  intro h' tk' t' i' u' v' hi' hr' O
  exact item h' tk' t' i' u' v' hi' hr' (Fr.back F N hs O) (News.back F N hs O hr)
theorem tok_pop {x : Str} {inst d pb at_ lam dr rd L : Addr} {imm news rest : List (Addr × Obj)} {K : MK} {z : Int} {n : Nat} {u : Tok} {g : Heap} {m : Str → Option Value} {y : Value} {ys : List Value}
    (M : Mac w loose mean mg mb x inst d pb at_ lam dr rd imm) (LI : Lies imm g) (G : Gnd w loose mean mg mb g) (ap : Apart d pb at_ imm) (hz : ys.length < 64)
    (F : Fr g L s.heap m) (N : News g L s.heap news) (hs : ∀ p ∈ [(d, mdict K z u lam pb), (pb, W.listOf (y :: ys).toArray n)], p ∈ news) (hr : ∀ p ∈ rest, p ∈ news ∧ ∀ q ∈ [(d, mdict K z u lam pb), (pb, W.listOf (y :: ys).toArray n)], p.1 ≠ q.1)
    (hd : dp + 3 < recursionLimit) (hu : un + 32 < cLine)
    (item : ∀ h' tk', Fr g L h' m → News g L h' ([(d, mdict K z u lam pb), (pb, W.listOf ys.toArray (n + 1))] ++ rest) → Q y { s with heap := h', toks := tk' }) :
    wpAny (model PySem.Challenge.rw_sn0008_01.row.prog w) (Ar dp un fr gd) (call (.ref 56) [.ref inst]) Q E s := by
  have kk := Fr.aside F N hs
  refine wpAny_call (c_pop M (fun p hp => kk _ _ (LI p hp)) (G.keeps kk) ap (On.aside N hs) hz hd (Nat.lt_of_le_of_lt (Nat.add_le_add_left (by decide) un) hu) ?_)
  intro h' tk' O
  exact item h' tk' (Fr.back F N hs O) (News.back F N hs O hr)
theorem tok_push {x : Str} {inst d pb at_ lam dr rd L : Addr} {imm news rest : List (Addr × Obj)} {K : MK} {z : Int} {n : Nat} {u : Tok} {g : Heap} {m : Str → Option Value} {y : Value} {ys : List Value}
    (M : Mac w loose mean mg mb x inst d pb at_ lam dr rd imm) (LI : Lies imm g) (G : Gnd w loose mean mg mb g) (ap : Apart d pb at_ imm) (hz : ys.length < 64)
    (F : Fr g L s.heap m) (N : News g L s.heap news) (hs : ∀ p ∈ [(d, mdict K z u lam pb), (pb, W.listOf ys.toArray n)], p ∈ news) (hr : ∀ p ∈ rest, p ∈ news ∧ ∀ q ∈ [(d, mdict K z u lam pb), (pb, W.listOf ys.toArray n)], p.1 ≠ q.1)
    (hd : dp + 3 < recursionLimit) (hu : un + 32 < cLine)
    (item : ∀ h' tk', Fr g L h' m → News g L h' ([(d, mdict K z u lam pb), (pb, W.listOf (ys ++ [y]).toArray (n + 1))] ++ rest) → Q .none { s with heap := h', toks := tk' }) :
    wpAny (model PySem.Challenge.rw_sn0008_01.row.prog w) (Ar dp un fr gd) (call (.ref 63) [.ref inst, y]) Q E s := by
  have kk := Fr.aside F N hs
  refine wpAny_call (c_push M (fun p hp => kk _ _ (LI p hp)) (G.keeps kk) ap (On.aside N hs) hz hd (Nat.lt_of_le_of_lt (Nat.add_le_add_left (by decide) un) hu) ?_)
  intro h' tk' O
  exact item h' tk' (Fr.back F N hs O) (News.back F N hs O hr)
end

-- M21
noncomputable def Rem (cur r : List Nat) (l : List Str) : Prop := (cur = [] ∧ l = [] ∧ r = []) ∨ ∃ t ts, cur = t.cps.toList ∧ cur ≠ [] ∧ l = t :: ts ∧ Words ts r
theorem Words.rem {l : List Str} {y : List Nat} (h : Words l y) : ∃ cur r, lexT y = some (cur, r) ∧ Rem cur r l := by
  cases l with
  | nil => exact ⟨[], [], h, .inl ⟨rfl, rfl, rfl⟩⟩
  | cons t ts =>
    obtain ⟨h1, r, h2, h3⟩ := h
    exact ⟨_, r, h2, .inr ⟨t, ts, rfl, h1, rfl, h3⟩⟩
theorem Strs.len {vs : List Value} {zs : List Str} (h : Strs vs zs) : vs.length = zs.length := by
  unfold Strs at h
  induction h with
  | nil => rfl
  | cons _ _ ih => simp only [List.length_cons, ih]
theorem Strs.snoc {vs : List Value} {zs : List Str} {y : Str} {t : Tok} (h : Strs vs zs) : Strs (vs ++ [.str y t]) (zs ++ [y]) := by
  unfold Strs at h ⊢
  induction h with
  | nil => exact .cons ⟨t, rfl⟩ .nil
  | cons a _ ih => exact .cons a ih
theorem cur_no {cur : List Nat} (h : ((⟨cur.toArray⟩ : Str) != Str.ofString "") = false) : cur = [] := by
  have e : (⟨cur.toArray⟩ : Str) = Str.ofString "" := by simpa [bne] using h
  have : (⟨cur.toArray⟩ : Str).cps.toList = (Str.ofString "").cps.toList := by rw [e]
  rw [acc_nil] at this
  simpa using this
theorem cur_yes {cur : List Nat} (h : ((⟨cur.toArray⟩ : Str) != Str.ofString "") = true) : cur ≠ [] := by
  rintro rfl
  exact absurd h (by decide +kernel)
section
variable {w : World} {loose : List Str} {mean : ExcName → Option Value} {mg mb : Str → Option Value} {dp un : Nat} {fr : Option (List Env)} {gd : Option (List Code)} {s : Shared} {Q E : Value → Shared → Prop}
theorem c_words {x : Str} {inst d pb at_ lam dr rd : Addr} {imm : List (Addr × Obj)} {K : MK} {n i : Nat} {u v : Tok} {g : Heap} {all : List Str}
    (M : Mac w loose mean mg mb x inst d pb at_ lam dr rd imm) (LI : Lies imm g) (G : Gnd w loose mean mg mb g) (ap : Apart d pb at_ imm) (hx : x.length ≤ 1000)
    (O : On g s.heap (mst K x d pb at_ lam [] n i u v)) (hi : i ≤ x.length) (hl : Words all (x.cps.toList.drop i)) (hz : all.length < 64) (hd : dp + 4 < recursionLimit) (hu : un + 40 < cLine)
    (ret : ∀ h' tk' D vs n' u' v', Strs vs all → On g h' ((D, W.listOf vs.toArray n') :: mst K x d pb at_ lam [] n x.length u' v') → Q (.ref D) { s with heap := h', toks := tk' }) :
    wpAny (model PySem.Challenge.rw_sn0008_01.row.prog w) (Ar dp un fr gd) (call (.ref 123) [.ref inst]) Q E s := by
  have X := G.X
  have T := G.T
  have m1 := LI _ M.inst
  dsimp only at m1
  revert X; k_fill; intro X
  ((refine' enterG ?k0 ?k1 ?k2 ?k6 ?k7 ?k8 ?k9 ?kB ?_ ?c2 ?c3 ?c4 ?c5; (case k0 => with_reducible assumption); (case k1 => with_reducible assumption); (case k2 => with_reducible assumption); (case k6 => k_is); (case k7 => k_is); (case k8 => exact dlt0 (by with_reducible assumption)); (case k9 => exact BindsTo.of_eq rfl); (case kB => exact locs rfl); (case c2 => exact rfl); (case c3 => exact rfl); (case c4 => exact rfl); (case c5 => decide)))
  intro L' h' tk' F' N' l1
  k_lt l1
  (repeat' (first | (k_unfold; (try dsimp only)) | walk1 | (dsimp only; walk1) | (dsimp only; k_unfold; (try dsimp only))))
  refine Stop.out ?_
  rename Fr _ _ _ _ => lF
  rename News _ _ _ _ => lN
  rename_i D hA l2 hB
  obtain ⟨cur, r, hw, hrem⟩ := hl.rem
  have b1 : @Ne Nat D d := Nat.ne_of_gt l2.1
  have b2 : @Ne Nat D pb := Nat.ne_of_gt l2.2.1
  have b3 : @Ne Nat D at_ := Nat.ne_of_gt l2.2.2
  have hr : ∀ (its : Array Value) (k i : Nat) (u v : Tok) (news : List (Addr × Obj)), (D, W.listOf its k) ∈ news → ∀ p ∈ [(D, W.listOf its k)], p ∈ news ∧ ∀ q ∈ mst K x d pb at_ lam [] n i u v, p.1 ≠ q.1 := by
    intro its k i u v news hm
    refine List.forall_mem_cons.mpr ⟨⟨hm, ?_⟩, fun _ h => nomatch h⟩
    exact List.forall_mem_cons.mpr ⟨b1, List.forall_mem_cons.mpr ⟨b2, List.forall_mem_cons.mpr ⟨b3, fun _ h => nomatch h⟩⟩⟩
  refine tok_read (rest := [(D, W.listOf #[] 0)]) M LI G ap hx lF lN (fun _ h => .tail _ h) (hr _ _ _ _ _ _ (.head _)) hi hw (dlt 4 hd rfl) (dlt 35 hu rfl) ?_
  intro h' tk' t' i' u' v' hi' hr' F' N'
  clear lF lN hl hw
  dsimp only [mst, List.cons_append, List.nil_append] at N'
  (repeat' (first | (k_unfold; (try dsimp only)) | walk1 | (dsimp only; walk1) | (dsimp only; k_unfold; (try dsimp only))))
  refine Stop.out ?_
  rename Fr _ _ _ _ => lF
  rename News _ _ _ _ => lN
  refine whileV (σ := Nat × Tok × Tok × List Value × Nat × List Nat × Tok) (fun c => [(d, mdict K (lno x c.1) c.2.1 lam pb), (pb, W.listOf #[] n), (at_, W.listOf #[.int (c.1 : Int) c.2.2.1] 0), (D, W.listOf c.2.2.2.1.toArray c.2.2.2.2.1)]) (fun c => [(Str.ofString "machine", .ref inst), (Str.ofString "words", .ref D), (Str.ofString "word", .str ⟨c.2.2.2.2.2.1.toArray⟩ c.2.2.2.2.2.2)]) (fun c => c.1 ≤ x.length ∧ ∃ zs rem, Strs c.2.2.2.1 zs ∧ all = zs ++ rem ∧ Rem c.2.2.2.2.2.1 (x.cps.toList.drop c.1) rem) (fun c => all.length - c.2.2.2.1.length) (i', u', v', [], 0, cur, t') lF lN ⟨rfl, rfl, rfl, trivial⟩ ⟨hi', [], all, .nil, rfl, by rw [hr']; exact hrem⟩ ?_
  clear lF lN hrem hr' hi' hi
  rintro ⟨i, u, v, vs, k, cur, t0⟩ m h tk R X ⟨hi, zs, rem, hvs, hall, hrem⟩ F N hR hX
  dsimp only at hi hvs hrem F N
  have hlen : vs.length < 64 := by
    have := congrArg List.length hall
    rw [List.length_append, ← hvs.len] at this
    omega
  (repeat' (first | (k_unfold; (try dsimp only)) | walk1 | (dsimp only; walk1) | (dsimp only; k_unfold; (try dsimp only))))
  · refine Stop.out ?_
    have hc := cur_yes (cur := cur) (by with_reducible assumption)
    rcases hrem with ⟨e, _⟩ | ⟨t, ts, ec, _, er, hw⟩
    · exact absurd e hc
    obtain ⟨cur2, r2, hl2, hrem2⟩ := hw.rem
    clear F N
    rename Fr _ _ _ _ => lF
    rename News _ _ _ _ => lN
    refine tok_read (rest := [(D, _)]) M LI G ap hx lF lN (fun _ h => List.mem_append_left [(D, _)] h) (hr _ _ _ _ _ _ (.tail _ (.tail _ (.tail _ (.head _))))) hi hl2 (dlt 4 hd rfl) (dlt 35 hu rfl) ?_
    intro h' tk' t' i' u' v' hi' hr' F' N'
    clear lF lN
    dsimp only [mst, List.cons_append, List.nil_append] at N'
    (repeat' (first | (k_unfold; (try dsimp only)) | walk1 | (dsimp only; walk1) | (dsimp only; k_unfold; (try dsimp only))))
    rename Fr _ _ _ _ => rF
    rename News _ _ _ _ => rN
    refine hR _ _ (wend (i', u', v', _, _, cur2, t') rF rN (fun _ h => h) ⟨rfl, rfl, rfl, trivial⟩ ⟨hi', zs ++ [t], ts, ?_, ?_, by rw [hr']; exact hrem2⟩ ?_)
    · subst ec
      exact hvs.snoc
    · rw [hall, er, List.append_assoc]; rfl
    · show all.length - (vs ++ [_]).length < all.length - vs.length
      have := congrArg List.length hall
      rw [List.length_append, ← hvs.len, er, List.length_cons] at this
      rw [List.length_append]
      simp only [List.length_cons, List.length_nil]
      omega
  · have hc := cur_no (cur := cur) (by with_reducible assumption)
    rcases hrem with ⟨_, er, e⟩ | ⟨t, ts, ec, e, _⟩
    · refine hX _ ?_
      have e2 : i = x.length := by
        rcases Nat.lt_or_ge i x.length with q | q
        · obtain ⟨c, e3, _⟩ := sgn_at q
          rw [e] at e3; cases e3
        · omega
      rw [e2] at N
      (repeat' (first | (k_unfold; (try dsimp only)) | walk1 | (dsimp only; walk1) | (dsimp only; k_unfold; (try dsimp only))))
      rename Fr _ _ _ _ => rF
      rename News _ _ _ _ => rN
      refine ret _ _ D vs k u v ?_ (On.of rF rN (List.forall_mem_cons.mpr ⟨.tail _ (.tail _ (.tail _ (.head _))), fun _ h => List.mem_append_left [(D, _)] h⟩))
      rw [hall, er, List.append_nil]
      exact hvs
    · exact absurd hc e
end

-- M22
theorem ldCellK {M : Model} {A : Around} {E : Value → Shared → Prop} {s : Shared} {scope : Scope} {cl : List (Str × Addr)} {C c : Addr} {env : Env} {y : Str} {pos : Pos} {v : Value} {Q : Value → Shared → Prop} (hc : cl.lookup y = some c) (hv : s.heap.IsCell c (some v)) (h : Q v s)
    (hk : (compEnvC scope cl C env).scope.kind = .function := by rfl) (hx : (compEnvC scope cl C env).kindOf y = some .cell := by rfl) (hb : (y == ("__debug__" : Str)) = false := by decide) :
    wpAny M A (eval (.Name y pos) (compEnvC scope cl C env)) Q E s := wpAny_Name (wpAny_loadName_cell hk hx hc hv h) hb
local macro_rules | `(tactic| walk_at "eval Name") => `(tactic| ((with_reducible show wpAny _ _ (eval (Expr.Name _ _) (compEnvC _ _ _ _)) _ _ _); k_dflt (first | refine ldVarK (by with_reducible assumption) (by with_reducible assumption) ?_ | refine ldCellK (by rfl) (by with_reducible assumption) ?_)))
local macro_rules | `(tactic| walk_at "subscriptTail") => `(tactic| with_reducible refine st5 ?_)
local macro_rules | `(tactic| walk_at "subscriptTail") => `(tactic| with_reducible refine st6 ?_)
local macro_rules | `(tactic| walk_at "call builtin:len") => `(tactic| with_reducible refine st7 ?_)
local macro_rules | `(tactic| walk_at "call builtin:sum") => `(tactic| with_reducible refine st8 ?_)
local macro_rules | `(tactic| walk_at "call builtin:min") => `(tactic| with_reducible refine st9 ?_)
/-- pairs that stand there -/
noncomputable def Pts (h : Heap) (vs : List Value) (ps : List (Int × Int)) : Prop := Paired (fun p v => P2 h v p.1 p.2) ps vs
noncomputable def Small (ps : List (Int × Int)) : Prop := ∀ p ∈ ps, (-10000 ≤ p.1 ∧ p.1 ≤ 10000) ∧ (-10000 ≤ p.2 ∧ p.2 ≤ 10000)
theorem Pts.keeps {h h' : Heap} {vs : List Value} {ps : List (Int × Int)} (x : Pts h vs ps) (k : Kp h h') : Pts h' vs ps := Paired.mono' (fun _ _ _ p => p.keeps k) x
theorem paired_len {α β : Type} {F : α → β → Prop} {l : List α} {ys : List β} (x : Paired F l ys) : ys.length = l.length := by
  induction x with
  | nil => rfl
  | cons _ _ ih => simp only [List.length_cons, ih]
theorem paired_get {α β : Type} {F : α → β → Prop} {l : List α} {ys : List β} (x : Paired F l ys) : ∀ {i : Nat} {a : α}, l[i]? = some a → ∃ y, ys[i]? = some y ∧ F a y := by
  induction x with
  | nil => intro i a h; simp at h
  | cons f _ ih =>
    intro i a h
    cases i with
    | zero => simp only [List.getElem?_cons_zero, Option.some.injEq] at h; subst h; exact ⟨_, rfl, f⟩
    | succ i => simpa using ih (by simpa using h)
theorem paired_ints {β : Type} {g : β → Int} {l : List β} {ys : List Value} (x : Paired (fun b v => ∃ t, v = Value.int (g b) t) l ys) : IntsAre ys (l.map g) := by
  induction x with
  | nil => exact .nil
  | cons f _ ih => obtain ⟨t, rfl⟩ := f; exact .cons _ _ ih
theorem sum_kp {prog : Program} {w : World} {A : Around} {E : Value → Shared → Prop} {s : Shared} {l : Addr} {vs : List Value} {ns : List Int} {Q : Value → Shared → Prop} (hh : A.handled = none) (hl : s.heap.IsList l vs.toArray) (hi : IntsAre vs ns)
    (h : ∀ h' tk t', Kp s.heap h' → Q (.int ns.sum t') { s with heap := h', toks := tk }) : wpAny (model prog w) A (call (.builtin "sum") [.ref l]) Q E s := by
  obtain ⟨xs, hx⟩ := hi.allInts.items
  have hn : numsOf vs.toArray.toList = ns := by rw [show vs.toArray.toList = vs from rfl, hi.numsOf]
  rw [hx] at hl hn
  rw [nums_intItems] at hn
  refine sum_intListG hh hl fun h' tk t' hk => ?_
  have := h h' tk t' hk
  rw [preSum_eq, List.take_of_length_le (by simp), hn]
  exact this
theorem IsList.kp {h h' : Heap} {l : Addr} {items : Array Value} (x : h.IsList l items) (k : Kp h h') : h'.IsList l items := let ⟨o, e, r⟩ := x; ⟨o, k _ _ e, r⟩
noncomputable def crs (u v : Int × Int) : Int := u.1 * v.2 - u.2 * v.1
/-- the area as it is reckoned -/
noncomputable def areaS (ps : List (Int × Int)) : Int := ((List.range (ps.length - 1)).map fun k => crs (ps.getD k (0, 0)) (ps.getD (k + 1) (0, 0))).sum
section
variable {w : World} {loose : List Str} {mean : ExcName → Option Value} {mg mb : Str → Option Value} {dp un : Nat} {fr : Option (List Env)} {gd : Option (List Code)} {s : Shared} {Q E : Value → Shared → Prop}
theorem c_area {D : Addr} {vs : List Value} {ps : List (Int × Int)} (G : Gnd w loose mean mg mb s.heap) (hd : dp + 2 < recursionLimit) (hu : un + 24 < cLine) (hl : s.heap.IsList D vs.toArray) (hp : Pts s.heap vs ps) (hb : Small ps) (h0 : 0 < ps.length) (h9 : ps.length < 1000)
    (ret : ∀ t h' tk', Kp s.heap h' → Q (.int (areaS ps) t) { s with heap := h', toks := tk' }) :
    wpAny (model PySem.Challenge.rw_sn0008_01.row.prog w) (Ar dp un fr gd) (call (.ref 156) [.ref D]) Q E s := by
  have X := G.X
  have T := G.T
  have O := On.rfl (h := s.heap)
  have hv : vs.length = ps.length := paired_len hp
  revert X; k_fill; intro X
  ((refine' enterGC ?k0 ?k1 ?k2 ?k6 ?k7 ?k8 ?k9 ?kB ?kD ?_ ?c2 ?c3 ?c4; (case k0 => with_reducible assumption); (case k1 => with_reducible assumption); (case k2 => with_reducible assumption); (case k6 => k_is); (case k7 => k_is); (case k8 => exact dlt0 (by with_reducible assumption)); (case k9 => exact BindsTo.of_eq rfl); (case kB => exact rfl); (case kD => decide +kernel); (case c2 => exact rfl); (case c3 => exact rfl); (case c4 => exact rfl)))
  intro L' h' tk' cells' F' N' Y' l1
  k_lt l1
  obtain ⟨oA, hE, dA⟩ := CellsAre.one Y'
  subst hE
  simp only [List.cons_append, List.nil_append] at N'
  (repeat' (first | (k_unfold; (try dsimp only)) | walk1 | (dsimp only; walk1) | (dsimp only; k_unfold; (try dsimp only))))
  refine Stop.out ?_
  refine compW (cl := [(Str.ofString "spots", L' + 1)]) (fun v y => ∃ (k : Nat) (t u : Tok), v = .int k t ∧ y = .int (crs (ps.getD k (0, 0)) (ps.getD (k + 1) (0, 0))) u) ?_ (by decide) rfl (by decide) rfl ?_
  · (repeat' (first | (k_unfold; (try dsimp only)) | walk1 | (dsimp only; walk1) | (dsimp only; k_unfold; (try dsimp only))))
  (repeat' (first | (k_unfold; (try dsimp only)) | walk1 | (dsimp only; walk1) | (dsimp only; k_unfold; (try dsimp only))))
  refine Stop.out ?_
  rename Fr _ _ _ _ => lF
  rename News _ _ _ _ => lN
  have hl1 := IsList.kp hl lF.keep
  refine kun_lenL (k := (ps.length : Int)) hl1 (by rw [List.size_toArray, hv]) (by omega) ?_
  (repeat' (first | (k_unfold; (try dsimp only)) | walk1 | (dsimp only; walk1) | (dsimp only; k_unfold; (try dsimp only))))
  rename IsRange _ _ _ _ _ _ _ _ => hR
  rename Fr _ _ _ _ => rF
  rename News _ _ _ _ => rN
  have hcl : ∀ h, News s.heap L' h [(L' + 1, oA)] → h.IsCell (L' + 1) (some (.ref D)) := fun h N => ⟨oA, (N _ (.head _)).1, dA⟩
  refine Stop.out ⟨ps.length - 1, _, _, src_range rfl hR ?_ ?_, ?_, ?_, ?_⟩
  · exact small_one (by omega) (by omega) (by omega) (by omega)
  · rw [rangeSize_one]; split <;> omega
  · rw [sizeLine_eq]; omega
  · rintro C i v s₃ m₃ R hi ⟨t, rfl⟩ hns hm hk hR9
    have F3 := rF.keeps hk
    have N3 := rN.grown hk
    have hl3 := IsList.kp hl F3.keep
    have hp3 := hp.keeps F3.keep
    have hc3 := hcl _ N3
    clear rF rN hR
    (repeat' (first | (k_unfold; (try dsimp only)) | walk1 | (dsimp only; walk1) | (dsimp only; k_unfold; (try dsimp only))))
    refine Stop.out ?_
    have g1 : ps[i]? = some (ps.getD i (0, 0)) := by rw [List.getD_eq_getElem?_getD, List.getElem?_eq_getElem (by omega)]; rfl
    have g2 : ps[i + 1]? = some (ps.getD (i + 1) (0, 0)) := by rw [List.getD_eq_getElem?_getD, List.getElem?_eq_getElem (by omega)]; rfl
    obtain ⟨v1, e1, p1⟩ := paired_get hp3 g1
    obtain ⟨v2, e2, p2⟩ := paired_get hp3 g2
    refine item_listR hl3 (x := v1) (by omega) (by omega) (by rw [List.getElem?_toArray, show (0 + (i : Int)).toNat = i by omega]; exact e1) ?_
    (repeat' (first | (k_unfold; (try dsimp only)) | walk1 | (dsimp only; walk1) | (dsimp only; k_unfold; (try dsimp only))))
    refine Stop.out ?_
    refine item_listR hl3 (x := v2) (by omega) (by omega) (by rw [List.getElem?_toArray, show (0 + (i : Int) + 1).toNat = i + 1 by omega]; exact e2) ?_
    (repeat' (first | (k_unfold; (try dsimp only)) | walk1 | (dsimp only; walk1) | (dsimp only; k_unfold; (try dsimp only))))
    refine Stop.out ?_
    have b1 := hb _ (List.mem_of_getElem? g1)
    refine c_cross (G.keeps F3.keep) (dlt 2 hd rfl) (dlt 11 hu rfl) p1 p2 b1.1 b1.2 ?_
    intro t9 h9 tk9 k9
    exact hR9 _ _ _ ⟨i, t, _, by rw [Int.zero_add], rfl⟩ k9
  · intro D' h' tk ys vs9 hpl hD' hk hlen hP hF
    obtain ⟨yl, rfl⟩ : ∃ yl : List Value, ys = yl.toArray := ⟨ys.toList, by simp⟩
    have h1 : Paired (fun (k : Nat) v => ∃ t : Tok, v = Value.int (0 + (k : Int)) t) (List.range (ps.length - 1)) vs9 := paired_of_get (by rw [hlen, List.length_range]) fun j c v e1 e2 => by
      obtain ⟨_, e3⟩ := List.getElem?_eq_some_iff.mp e1
      rw [List.getElem_range] at e3
      subst e3
      exact hP j v e2
    have h2 : IntsAre yl ((List.range (ps.length - 1)).map fun k => crs (ps.getD k (0, 0)) (ps.getD (k + 1) (0, 0))) := paired_ints (Paired.mono' (fun c y _ h => by
      obtain ⟨v, ⟨t, e1⟩, k, t2, u, e2, e3⟩ := h
      rw [e1] at e2
      have : c = k := by injection e2 with e _; omega
      subst this
      exact ⟨u, e3⟩) (paired_zip h1 hF))
    have F3 := rF.keeps hk
    (repeat' (first | (k_unfold; (try dsimp only)) | walk1 | (dsimp only; walk1) | (dsimp only; k_unfold; (try dsimp only))))
    refine Stop.out ?_
    refine sum_kp rfl hpl.isList h2 ?_
    intro h9 tk9 t9 k9
    exact ret _ _ _ (Kp.trans F3.keep k9)
end

-- M23
theorem Heap_none {h : Heap} {a : Addr} (ha : h.objs.size ≤ a) : h.get? a = none := by
  cases e : h.get? a with
  | none => rfl
  | some o' => exact absurd (Heap.lt_size e) (Nat.not_lt.mpr ha)
/-- a comprehension whose letter is a cell -/
theorem compK {prog : Program} {w : World} {A : Around} {s : Shared} {E : Value → Shared → Prop} {env : Env} {elt iter : Expr} {x y : Str} {px py : Pos} {scope : Scope} {cl : List (Str × Addr)} {pos spos : Pos} {Q : Flow → Shared → Prop} (F : Value → Value → Prop)
    (hsw : swapsWith (.ListComp elt [⟨.Name x px, iter, [], 0⟩] scope pos) (some (.Name y py)) spos.line env = pure true)
    (hclos : closureFor scope env = pure cl) (hkind : scope.kind = .function)
    (hnames : ∀ y ∈ scope.names, y.2 = .local → scope.names.lookup y.1 = some .local) (hx : (relabel scope env).names.lookup x = some .cell)
    (hone : ∀ a, cellsFrom a scope.names cl = (x, a) :: cl) (hpc : ∀ h, pushCells h scope.names = h.push { cls := .type "cell", data := .cell none })
    (hy : env.kindOf y = some .local) (hp : (env.scope.kind == .class || (env.scope.kind == .module && env.locals != env.globals)) = false)
    (h : wpAny (model prog w) A (eval iter env) (fun xv s₁ => Stop (∃ n P Ex mL, Src prog w A xv s₁ n P Ex ∧ n ≤ sizeLine ∧ s₁.heap.Ns env.locals mL ∧
      (∀ C c i v s₃ (R : Value → Shared → Prop), i < n → P i v → s₃.heap.IsCell c (some v) → Kp s₁.heap s₃.heap → (∀ y h' tk', F v y → Kp s₃.heap h' → R y { s₃ with heap := h', toks := tk' }) → wpAny (model prog w) A (eval elt (compEnvC scope ((x, c) :: cl) C env)) R (fun _ _ => False) s₃) ∧
      (∀ D h' tk ys (vs : List Value), h'.PlainList D ys → s₁.heap.get? D = none → h'.Ns env.locals (fun z => if z = y then some (.ref D) else mL z) → (∀ b o, b ≠ env.locals → s₁.heap.get? b = some o → h'.get? b = some o) → vs.length = n → (∀ j v, vs[j]? = some v → P j v) → Paired F vs ys.toList → Q .next { s₁ with heap := h', toks := tk }))) E s)
    (hs : ∀ x, foldedSetIterable iter env x = pure x := by intro _; rfl) :
    wpAny (model prog w) A (exec (.Assign [.Name y py] (.ListComp elt [⟨.Name x px, iter, [], 0⟩] scope pos) spos) env) Q E s := by
  rw [exec_Assign_Name_used _ _ _ _ hsw]
  refine wpAny_bind (wpAny_standAt (wpAny_bind ?_))
  show wpAny _ A (do let _ ← comprehension (.ListComp elt [⟨.Name x px, iter, [], 0⟩] scope pos) scope env _ (newList []) false (eval iter env) (some (assign (.Name y py) env))) _ _ s
  refine wpAny_bind (wpAny_mono (wpAny_comprehension_free (use := some (assign (.Name y py) env)) (Q := fun _ s' => Q .next s') rfl hs hclos hkind hnames
    (wpAny_mono h (fun xv s₁ h₁ => ?_) fun _ _ e => e)) (fun _ s' hq => wpAny_pure (wpAny_pure hq)) fun _ _ e => e)
  obtain ⟨n, P, Ex, mL, src, hn, hL, helt, hfin⟩ := h₁
  refine src _ _ fun I fp St h W _ _ st hfp hI hk => ?_
  refine wpAny_newObj_type ?_
  unfold newFunctionEnv
  simp only [Option.isSome_some, if_true]
  refine wpAny_bind (wpAny_alloc ?_)
  refine wpAny_bind (wpAny_layCells _ (fun name kind cells => by cases hkc : kind == NameKind.cell <;> simp [hkc]) _ _ _ _ ?_)
  rw [hone, hpc]
  refine wpAny_bind (wpAny_pure (wpAny_pure ?_))
  dsimp only
  have hC : (h.push { cls := .type "list", dict := none, data := .seq ([] : List Value).toArray }).objs.size = h.objs.size + 1 := Heap.size_push ..
  have hc : ((h.push { cls := .type "list", dict := none, data := .seq ([] : List Value).toArray }).push { cls := .type "dict", data := .dict #[] }).objs.size = h.objs.size + 1 + 1 := by rw [Heap.size_push, hC]
  have gD : (((h.push { cls := .type "list", dict := none, data := .seq ([] : List Value).toArray }).push { cls := .type "dict", data := .dict #[] }).push { cls := .type "cell", data := .cell none }).PlainList h.objs.size #[] := ⟨_, Heap.get?_push_of_some _ (Heap.get?_push_of_some _ (Heap.get?_push_size _ rfl))⟩
  have gC : ∃ m, (((h.push { cls := .type "list", dict := none, data := .seq ([] : List Value).toArray }).push { cls := .type "dict", data := .dict #[] }).push { cls := .type "cell", data := .cell none }).Ns (h.objs.size + 1) m := by
    have := (Heap.Ns.new (h := h.push { cls := .type "list", dict := none, data := .seq ([] : List Value).toArray }) (cls := .type "dict"))
    rw [hC] at this
    exact ⟨_, this.keeps fun b o e => Heap.get?_push_of_some _ e⟩
  have gc : (((h.push { cls := .type "list", dict := none, data := .seq ([] : List Value).toArray }).push { cls := .type "dict", data := .dict #[] }).push { cls := .type "cell", data := .cell none }).IsCell (h.objs.size + 1 + 1) none := ⟨_, by rw [← hc]; exact Heap.get?_push_size _ rfl, rfl⟩
  have gk : Kp h (((h.push { cls := .type "list", dict := none, data := .seq ([] : List Value).toArray }).push { cls := .type "dict", data := .dict #[] }).push { cls := .type "cell", data := .cell none }) := fun b o e => Heap.get?_push_of_some _ (Heap.get?_push_of_some _ (Heap.get?_push_of_some _ e))
  rw [hC, hc]
  generalize (((h.push { cls := .type "list", dict := none, data := .seq ([] : List Value).toArray }).push { cls := .type "dict", data := .dict #[] }).push { cls := .type "cell", data := .cell none }) = H at gD gC gc gk ⊢
  clear hC hc
  obtain ⟨m, gC⟩ := gC
  have loop : codeAny (model prog w) A (.compLoop (.ListComp elt [⟨.Name x px, iter, [], 0⟩] scope pos) 0 (.ref I) (.ref h.objs.size) (compEnvC scope ((x, h.objs.size + 1 + 1) :: cl) (h.objs.size + 1) env))
      (compPost (model prog w) A E (some (assign (.Name y py) env)) (fun _ s' => Q .next s') (.ref h.objs.size) (h.objs.size + 1)) { s₁ with heap := H } := by
    refine codeAny_compLoop_tests
      (fun k s' => ∃ h' tk ys m v0, ∃ vs : List Value, s' = { s₁ with heap := h', toks := tk } ∧ St vs.length h' ∧ h'.PlainList h.objs.size ys ∧ h'.Ns (h.objs.size + 1) m ∧ h'.IsCell (h.objs.size + 1 + 1) v0 ∧ (∀ j v, vs[j]? = some v → P j v) ∧
        Paired F vs ys.toList ∧ vs.length ≤ n ∧ k = n + 1 - vs.length ∧ (∀ b o, b ≠ I → h.get? b = some o → h'.get? b = some o)) ?_ (n + 1)
      ⟨H, s₁.toks, #[], m, none, [], rfl, W.frame _ _ _ st (fun b _ o e => gk b o e), gD, gC, gc, (fun _ _ e => by cases e), .nil, Nat.zero_le _, rfl, fun b o _ e => gk b o e⟩
    rintro k s' ⟨h', tk, ys, m, v0, vs, rfl, st, gD, gC, gc, hP, hF, hi, rfl, hkp⟩
    have hIs : I < h.objs.size := hfp _ (W.sub _ (List.mem_singleton.mpr rfl))
    have ne : ∀ b, b < h.objs.size → b ≠ h.objs.size ∧ b ≠ h.objs.size + 1 ∧ b ≠ h.objs.size + 1 + 1 := fun b hb => ⟨Nat.ne_of_lt hb, Nat.ne_of_lt (Nat.lt_succ_of_lt hb), Nat.ne_of_lt (Nat.lt_succ_of_lt (Nat.lt_succ_of_lt hb))⟩
    have nI : ∀ k, h.objs.size + k ∉ [I] := fun k q => Nat.lt_irrefl _ (Nat.lt_of_le_of_lt (Nat.le_add_right _ k) ((List.mem_singleton.mp q).symm ▸ hIs))
    by_cases hlt : vs.length < n
    · refine W.item vs.length _ _ _ hlt st fun v h₁ tk₁ hPv st₁ hk₁ => ?_
      obtain ⟨oc, ec, dc⟩ := gc
      refine wpAny_assign_Name (wpAny_storeName_cell (by simp [compEnvC, relabel, hkind]) hx (by simp [compEnvC]) ⟨oc, hk₁ _ _ (nI 2) ec, dc⟩ fun h₂ hc₂ hs₂ => ?_)
      rw [List.forIn_nil]
      refine wpAny_pure ?_
      rw [if_pos rfl]
      have k2 : ∀ b o, b ≠ I → h.get? b = some o → h₂.get? b = some o := fun b o hb e => hs₂.extBut b o (ne b (Heap.lt_size e)).2.2 (hk₁ b o (by simpa using hb) (hkp b o hb e))
      refine wpAny_mono (helt (h.objs.size + 1) (h.objs.size + 1 + 1) vs.length v { s₁ with heap := h₂, toks := tk₁ } (fun y s₄ => F v y ∧ ∃ h₃ tk₃, s₄ = { s₁ with heap := h₃, toks := tk₃ } ∧ Kp h₂ h₃) hlt hPv hc₂ (fun b o e => k2 b o (fun q => by subst q; rw [hI] at e; cases e) (hk b o e)) fun y h₃ tk₃ hF' hk₃ => ⟨hF', h₃, tk₃, rfl, hk₃⟩) (fun yv s₄ q => ?_) fun _ _ q => q.elim
      obtain ⟨hFy, h₃, tk₃, rfl, hk₃⟩ := q
      have hys : ys.size ≤ sizeLine := by
        have e1 := hF.length
        have e4 : ys.toList.length = ys.size := by simp
        omega
      obtain ⟨nD, eD⟩ := gD
      refine wpAny_list_append_plain (hsz := hys) (items := ys) ⟨nD, hk₃ _ _ (hs₂.extBut _ _ (Nat.ne_of_lt (Nat.lt_succ_of_lt (Nat.lt_succ_self _))) (hk₁ _ _ (nI 0) eD))⟩ fun h₅ hl₅ hs₅ => ?_
      have st₂ : St (vs.length + 1) h₂ := W.frame _ _ _ st₁ fun b hb o e => hs₂.extBut b o (ne b (hfp b hb)).2.2 e
      have st₅ : St (vs.length + 1) h₅ := W.frame _ _ _ st₂ fun b hb o e => hs₅.extBut b o (ne b (hfp b hb)).1 (hk₃ b o e)
      refine ⟨n + 1 - (vs.length + 1), by omega, h₅, tk₃, ys.push yv, m, some v, vs ++ [v], rfl, by rw [List.length_append]; exact st₅, hl₅, ?_, ?_, ?_, ?_, by rw [List.length_append]; exact hlt, by rw [List.length_append]; rfl, fun b o hb e => hs₅.extBut b o (ne b (Heap.lt_size e)).1 (hk₃ b o (k2 b o hb e))⟩
      · refine Heap.Ns.sameBut (Heap.Ns.keeps (Heap.Ns.sameBut (gC.at' fun o e => hk₁ _ o (nI 1) e) hs₂ ?_) hk₃) hs₅ ?_
        · exact Nat.ne_of_lt (Nat.lt_succ_self _)
        · exact Nat.ne_of_gt (Nat.lt_succ_self _)
      · obtain ⟨o2, e2, d2⟩ := hc₂
        exact ⟨o2, hs₅.extBut _ _ (Nat.ne_of_gt (Nat.lt_succ_of_lt (Nat.lt_succ_self _))) (hk₃ _ _ e2), d2⟩
      · intro j u hj
        rcases Nat.lt_trichotomy j vs.length with q | q | q
        · exact hP j u (by rwa [List.getElem?_append_left q] at hj)
        · subst q; simp at hj; subst hj; exact hPv
        · rw [List.getElem?_eq_none (by rw [List.length_append, List.length_singleton]; omega)] at hj; cases hj
      · simpa using Paired.snoc hF hFy
    · have hin : vs.length = n := by omega
      refine W.done _ _ _ (hin ▸ st) fun h₁ tk₁ hk₁ => ?_
      obtain ⟨nD, eD⟩ := gD
      have gL : ∃ o, h.get? env.locals = some o := by obtain ⟨o, _, _, e, _⟩ := hL; exact ⟨o, hk _ _ e⟩
      obtain ⟨oL, gL⟩ := gL
      have nL := ne _ (Heap.lt_size gL)
      have iL : env.locals ≠ I := fun q => by obtain ⟨o, _, _, e, _⟩ := hL; rw [q, hI] at e; cases e
      have k1 : ∀ b o, s₁.heap.get? b = some o → h₁.get? b = some o := fun b o e => by
        have bI : b ≠ I := fun q => by subst q; rw [hI] at e; cases e
        exact hk₁ b o (by simpa using bI) (hkp b o bI (hk b o e))
      show wpAny _ A (assign (.Name y py) env (.ref _)) _ _ _
      refine wpAny_assign_Name (wpAny_storeName_local hy (hL.keeps k1) (fun h₂ hn₂ hs₂ => ?_) hp)
      refine ⟨m, (gC.at' fun o e => hk₁ _ o (nI 1) e).sameBut hs₂ (Ne.symm nL.2.1), fun h₃ hs₃ => ?_⟩
      refine hfin _ h₃ _ ys vs ⟨nD, hs₃.extBut _ _ (Nat.ne_of_lt (Nat.lt_succ_self _)) (hs₂.extBut _ _ (Ne.symm nL.1) (hk₁ _ _ (nI 0) eD))⟩ ?_ (hn₂.sameBut hs₃ nL.2.1) (fun b o hb e => ?_) hin hP hF
      · cases e : s₁.heap.get? h.objs.size with
        | none => rfl
        | some o => exact absurd (Heap.lt_size (hk _ o e)) (Nat.lt_irrefl _)
      · exact hs₃.extBut b o (ne b (Heap.lt_size (hk b o e))).2.1 (hs₂.extBut b o hb (k1 b o e))
  exact codeAny_compStart_list loop (W.self 0 _ _ _ (W.frame _ _ _ st (fun b _ o e => gk b o e)) loop)
section
end

-- M24
noncomputable abbrev T3 := Int × Int × Int
/-- triples that stand there -/
noncomputable def Trs (h : Heap) (vs : List Value) (ls : List T3) : Prop := Paired (fun p v => P3 h v p.1 p.2.1 p.2.2) ls vs
theorem Trs.keeps {h h' : Heap} {vs : List Value} {ps : List T3} (x : Trs h vs ps) (k : Kp h h') : Trs h' vs ps := Paired.mono' (fun _ _ _ p => p.keeps k) x
theorem P3.uniq {h : Heap} {v : Value} {x y z x' y' z' : Int} (p : P3 h v x y z) (q : P3 h v x' y' z') : x = x' ∧ y = y' ∧ z = z' := by
  obtain ⟨a, t1, t2, t3, n, rfl, e⟩ := p
  obtain ⟨b, u1, u2, u3, k, e2, e3⟩ := q
  cases e2
  rw [e] at e3
  simp at e3
  exact ⟨e3.1.1.1, e3.1.2.1.1, e3.1.2.2.1⟩
theorem P3.at {h : Heap} {v : Value} {p : Int × Int × Int} (q : P3 h v p.1 p.2.1 p.2.2) : ∃ a l, v = .ref a ∧ IsTup h a (List.toArray l) ∧ l.length = 3 ∧ ∀ i, i < 3 → ∃ t, l[i]? = some (.int (if i = 0 then p.1 else if i = 1 then p.2.1 else p.2.2) t) := by
  obtain ⟨a, t1, t2, t3, n, rfl, e⟩ := q
  refine ⟨a, [.int p.1 t1, .int p.2.1 t2, .int p.2.2 t3], rfl, tup3_is e, rfl, fun i hi => ?_⟩
  match i, hi with
  | 0, _ => exact ⟨_, rfl⟩
  | 1, _ => exact ⟨_, rfl⟩
  | 2, _ => exact ⟨_, rfl⟩
theorem list_same {vs9 vs : List Value} (hlen : vs9.length = vs.toArray.size) (hP : ∀ (j : Nat) (v : Value), vs9[j]? = some v → vs.toArray[j]? = some v) : vs9 = vs := by
  rw [List.size_toArray] at hlen
  refine List.ext_getElem? fun j => ?_
  cases e : vs9[j]? with
  | none => rw [List.getElem?_eq_none_iff] at e; exact (List.getElem?_eq_none (by omega)).symm
  | some v => have := hP j v e; rw [List.getElem?_toArray] at this; exact this.symm
theorem Fr.assigned {h₀ h h' : Heap} {L : Addr} {m m' : Str → Option Value} (F : Fr h₀ L h m) (hn : h'.Ns L m') (hk : ∀ b o, b ≠ L → h.get? b = some o → h'.get? b = some o) : Fr h₀ L h' m' :=
  ⟨hn, fun b o e => hk b o (Nat.ne_of_lt (Nat.lt_of_lt_of_le (Heap.lt_size e) F.above)) (F.keep b o e), F.above⟩
theorem News.one {h₀ h h' : Heap} {L D : Addr} {m : Str → Option Value} {items : Array Value} (F : Fr h₀ L h m) (hD : h.get? D = none) (hp : h'.PlainList D items) : ∃ n, News h₀ L h' [(D, W.listOf items n)] := by
  obtain ⟨n, e⟩ := hp
  refine ⟨n, List.forall_mem_cons.mpr ⟨⟨e, fun q => ?_, ?_⟩, fun _ x => nomatch x⟩⟩
  · obtain ⟨o, _, _, e1, _⟩ := F.ns
    dsimp only at q
    rw [q, e1] at hD; cases hD
  · cases e2 : h₀.get? D with
    | none => rfl
    | some o => rw [F.keep _ _ e2] at hD; cases hD
theorem ints3 {vs : List Value} {a b c : Int} (h : IntsAre vs [a, b, c]) : ∃ t1 t2 t3, vs = [.int a t1, .int b t2, .int c t3] := by
  cases h with | cons _ t1 h => cases h with | cons _ t2 h => cases h with | cons _ t3 h => cases h; exact ⟨t1, t2, t3, rfl⟩
theorem min3 {m a b c : Int} (hm : m ∈ [a, b, c]) (hle : ∀ x, x ∈ [a, b, c] → m ≤ x) : m = min a (min b c) := by
  have e0 := hle _ (.head _)
  have e1 := hle _ (.tail _ (.head _))
  have e2 := hle _ (.tail _ (.tail _ (.head _)))
  simp only [List.mem_cons, List.not_mem_nil, or_false] at hm
  omega
noncomputable def at3 (p : T3) (k : Nat) : Int := if k = 0 then p.1 else if k = 1 then p.2.1 else p.2.2
noncomputable def sumAt (ls : List T3) (k : Nat) : Int := (ls.map fun p => at3 p k).sum
/-- the tint that makes a lot grey -/
noncomputable def againstL (ls : List T3) : T3 :=
  let g := min (0 - sumAt ls 0) (min (0 - sumAt ls 1) (0 - sumAt ls 2))
  (0 - sumAt ls 0 - g, 0 - sumAt ls 1 - g, 0 - sumAt ls 2 - g)
section
variable {w : World} {loose : List Str} {mean : ExcName → Option Value} {mg mb : Str → Option Value} {dp un : Nat} {fr : Option (List Env)} {gd : Option (List Code)} {s : Shared} {Q E : Value → Shared → Prop}
theorem c_against {D : Addr} {vs : List Value} {ls : List T3} (G : Gnd w loose mean mg mb s.heap) (hd : dp + 2 < recursionLimit) (hu : un + 24 < cLine) (hl : s.heap.IsList D vs.toArray) (hp : Trs s.heap vs ls) (h9 : ls.length < 1000)
    (ret : ∀ v h' tk', Kp s.heap h' → New3 s.heap h' v (againstL ls).1 (againstL ls).2.1 (againstL ls).2.2 → Q v { s with heap := h', toks := tk' }) :
    wpAny (model PySem.Challenge.rw_sn0008_01.row.prog w) (Ar dp un fr gd) (call (.ref 104) [.ref D]) Q E s := by
  have X := G.X
  have T := G.T
  have O := On.rfl (h := s.heap)
  have hv : vs.length = ls.length := paired_len hp
  revert X; k_fill; intro X
  ((refine' enterGC ?k0 ?k1 ?k2 ?k6 ?k7 ?k8 ?k9 ?kB ?kD ?_ ?c2 ?c3 ?c4; (case k0 => with_reducible assumption); (case k1 => with_reducible assumption); (case k2 => with_reducible assumption); (case k6 => k_is); (case k7 => k_is); (case k8 => exact dlt0 (by with_reducible assumption)); (case k9 => exact BindsTo.of_eq rfl); (case kB => exact rfl); (case kD => decide +kernel); (case c2 => exact rfl); (case c3 => exact rfl); (case c4 => exact rfl)))
  intro L' h' tk' cells' F' N' Y' l1
  k_lt l1
  obtain ⟨oA, hE, dA⟩ := CellsAre.one Y'
  subst hE
  simp only [List.cons_append, List.nil_append] at N'
  (repeat' (first | (k_unfold; (try dsimp only)) | walk1 | (dsimp only; walk1) | (dsimp only; k_unfold; (try dsimp only))))
  refine compK (cl := [(Str.ofString "lights", L' + 1)]) (fun v y => ∃ (k : Nat) (t u : Tok), v = .int k t ∧ y = .int (0 - sumAt ls k) u) rfl rfl rfl (by decide) rfl (fun _ => rfl) (fun _ => rfl) rfl rfl ?_
  (repeat' (first | (k_unfold; (try dsimp only)) | walk1 | (dsimp only; walk1) | (dsimp only; k_unfold; (try dsimp only))))
  rename IsRange _ _ _ _ _ _ _ _ => hR
  rename Fr _ _ _ _ => rF
  rename News _ _ _ _ => rN
  have hcl : ∀ h, News s.heap L' h [(L' + 1, oA)] → h.IsCell (L' + 1) (some (.ref D)) := fun h N => ⟨oA, (N _ (.head _)).1, dA⟩
  refine Stop.out ⟨3, _, _, _, src_range rfl hR rfl rfl, by rw [sizeLine_eq]; omega, rF.ns, ?_, ?_⟩
  · rintro C c i v s₃ R hi ⟨t, rfl⟩ hck hk hR9
    have F3 := rF.keeps hk
    have N3 := rN.grown hk
    have hl3 := IsList.kp hl F3.keep
    have hp3 := hp.keeps F3.keep
    have hc3 := hcl _ N3
    clear rF rN hR
    (repeat' (first | (k_unfold; (try dsimp only)) | walk1 | (dsimp only; walk1) | (dsimp only; k_unfold; (try dsimp only))))
    refine Stop.out ?_
    refine compW (cl := [(Str.ofString "k", c)]) (fun v y => ∃ (p : T3) (t : Tok), P3 s.heap v p.1 p.2.1 p.2.2 ∧ y = .int (at3 p i) t) rfl (by decide) rfl (by decide) rfl ?_
    (repeat' (first | (k_unfold; (try dsimp only)) | walk1 | (dsimp only; walk1) | (dsimp only; k_unfold; (try dsimp only))))
    refine Stop.out ⟨_, _, _, src_list rfl hl3, ?_, ?_, ?_⟩
    · rw [List.size_toArray, hv, sizeLine_eq]; omega
    · rintro C2 j v s₄ m₄ R4 hj hv4 hns hm hk4 hR4
      rw [List.getElem?_toArray] at hv4
      have hj2 : j < ls.length := by rw [List.size_toArray, hv] at hj; exact hj
      obtain ⟨v', e1, p1⟩ := paired_get hp (List.getElem?_eq_getElem hj2)
      rw [e1] at hv4
      cases hv4
      have kk := Kp.trans F3.keep hk4
      obtain ⟨a, l, rfl, ht, hl9, hat⟩ := (p1.keeps kk).at
      obtain ⟨t9, hat⟩ := hat i hi
      have hc4 := hck.keeps hk4
      (repeat' (first | (k_unfold; (try dsimp only)) | walk1 | (dsimp only; walk1) | (dsimp only; k_unfold; (try dsimp only))))
      refine Stop.out ?_
      refine item_tupleT ht (j := i) (by omega) (by omega) ?_ hat ?_
      · rw [hl9]; unfold seqIndex?; simp; omega
      (repeat' (first | (k_unfold; (try dsimp only)) | walk1 | (dsimp only; walk1) | (dsimp only; k_unfold; (try dsimp only))))
      exact hR4 _ _ _ ⟨_, _, p1, rfl⟩ Kp.rfl
    · intro D2 h2 tk2 ys vs9 hpl hD2 hk2 hlen hP hF
      obtain ⟨yl, rfl⟩ : ∃ yl : List Value, ys = yl.toArray := ⟨ys.toList, by simp⟩
      obtain rfl := list_same hlen hP
      have h2 : IntsAre yl (ls.map fun p => at3 p i) := paired_ints (Paired.mono' (fun c y _ h => by
        obtain ⟨v, p1, p, t2, p2, e3⟩ := h
        obtain ⟨e4, e5, e6⟩ := p1.uniq p2
        exact ⟨t2, by rw [e3]; unfold at3; rw [e4, e5, e6]⟩) (paired_zip hp hF))
      (repeat' (first | (k_unfold; (try dsimp only)) | walk1 | (dsimp only; walk1) | (dsimp only; k_unfold; (try dsimp only))))
      refine Stop.out ?_
      refine sum_kp rfl hpl.isList h2 ?_
      intro h9 tk9 t9 k9
      (repeat' (first | (k_unfold; (try dsimp only)) | walk1 | (dsimp only; walk1) | (dsimp only; k_unfold; (try dsimp only))))
      exact hR9 _ _ _ ⟨i, _, _, by rw [Int.zero_add], rfl⟩ (Kp.trans hk2 k9)
  · intro D' h' tk ys vs9 hpl hD' hns hk hlen hP hF
    obtain ⟨yl, rfl⟩ : ∃ yl : List Value, ys = yl.toArray := ⟨ys.toList, by simp⟩
    have h1 : Paired (fun (k : Nat) v => ∃ t : Tok, v = Value.int (0 + (k : Int)) t) (List.range 3) vs9 := paired_of_get (by rw [hlen, List.length_range]) fun j c v e1 e2 => by
      obtain ⟨_, e3⟩ := List.getElem?_eq_some_iff.mp e1
      rw [List.getElem_range] at e3
      subst e3
      exact hP j v e2
    have h2 : IntsAre yl [0 - sumAt ls 0, 0 - sumAt ls 1, 0 - sumAt ls 2] := paired_ints (g := fun k => 0 - sumAt ls k) (l := [0, 1, 2]) (Paired.mono' (fun c y _ h => by
      obtain ⟨v, ⟨t, e1⟩, k, t2, u, e2, e3⟩ := h
      rw [e1] at e2
      have : c = k := by injection e2 with e _; omega
      subst this
      exact ⟨u, e3⟩) (paired_zip h1 hF))
    have F3 := Fr.assigned rF hns hk
    obtain ⟨n9, N3⟩ := News.one rF hD' hpl
    have h3 := h2
    obtain ⟨t1, t2, t3, rfl⟩ := ints3 h2
    clear rF rN hR hk hns hP hF h1 h2
    (repeat' (first | (k_unfold; (try dsimp only)) | walk1 | (dsimp only; walk1) | (dsimp only; k_unfold; (try dsimp only))))
    refine Stop.out ?_
    rename Fr _ _ _ _ => rF
    rename News _ _ _ _ => rN
    refine kso_min rF rN hpl.isList h3 (Nat.zero_lt_succ 2) rfl ?_
    intro h9 m9 t9 tk9 F9 N9 hm hle
    clear rF rN
    (repeat' (first | (k_unfold; (try dsimp only)) | walk1 | (dsimp only; walk1) | (dsimp only; k_unfold; (try dsimp only))))
    rename Fr _ _ _ _ => lF
    rename News _ _ _ _ => lN
    have e := min3 hm hle
    exact ret _ _ _ lF.keep (New3.of lN (.head _) (by rw [e]; rfl) (by rw [e]; rfl) (by rw [e]; rfl))
end

-- M25
noncomputable def fixL : List Int := [19, 6, 40, 8, 23]
noncomputable def drawAt (ns : List Int) (k : Nat) : Int := (if k < ns.length then ns.getD k 0 else fixL.getD k 0) % 54
theorem draw_in {ns : List Int} {i : Nat} (h : i < ns.length) : Int.fmod (ns.getD i 0) 54 = drawAt ns i := by
  unfold drawAt
  rw [if_pos h, Int.fmod_eq_emod_of_nonneg _ (by decide)]
theorem draw_out {ns : List Int} {i : Nat} (h : ¬ i < ns.length) : Int.fmod (fixL.getD i 0) 54 = drawAt ns i := by
  unfold drawAt
  rw [if_neg h, Int.fmod_eq_emod_of_nonneg _ (by decide)]
theorem range_ints {n : Nat} {g : Nat → Int} {vs9 yl : List Value} (hlen : vs9.length = n) (hP : ∀ (j : Nat) (v : Value), vs9[j]? = some v → ∃ t : Tok, v = Value.int (0 + (j : Int)) t)
    (hF : Paired (fun v y => ∃ (k : Nat) (t u : Tok), v = Value.int k t ∧ y = Value.int (g k) u) vs9 yl) : IntsAre yl ((List.range n).map g) :=
  paired_ints (Paired.mono' (fun c y _ h => by
    obtain ⟨v, ⟨t, e1⟩, k, t2, u, e2, e3⟩ := h
    rw [e1] at e2
    have : c = k := by injection e2 with e _; omega
    subst this
    exact ⟨u, e3⟩) (paired_zip (G := fun (k : Nat) v => ∃ t : Tok, v = Value.int (0 + (k : Int)) t) (paired_of_get (by rw [hlen, List.length_range]) fun j c v e1 e2 => by
      obtain ⟨_, e3⟩ := List.getElem?_eq_some_iff.mp e1
      rw [List.getElem_range] at e3
      subst e3
      exact hP j v e2) hF))
noncomputable def drawsOf (ns : List Int) : List Int := (List.range 5).map (drawAt ns)
section
variable {w : World} {loose : List Str} {mean : ExcName → Option Value} {mg mb : Str → Option Value} {dp un : Nat} {fr : Option (List Env)} {gd : Option (List Code)} {s : Shared} {Q E : Value → Shared → Prop}
theorem c_draws {S : Addr} {vs : List Value} {ns : List Int} (G : Gnd w loose mean mg mb s.heap) (hd : dp + 2 < recursionLimit) (hu : un + 24 < cLine) (hl : s.heap.IsList S vs.toArray) (hi : IntsAre vs ns) (h9 : ns.length ≤ 63)
    (ret : ∀ D yl h' tk', Kp s.heap h' → s.heap.get? D = none → h'.PlainList D (List.toArray yl) → IntsAre yl (drawsOf ns) → Q (.ref D) { s with heap := h', toks := tk' }) :
    wpAny (model PySem.Challenge.rw_sn0008_01.row.prog w) (Ar dp un fr gd) (call (.ref 75) [.ref S]) Q E s := by
  have X := G.X
  have T := G.T
  have O := On.rfl (h := s.heap)
  have hv : vs.length = ns.length := hi.length
  revert X; k_fill; intro X
  ((refine' enterGC ?k0 ?k1 ?k2 ?k6 ?k7 ?k8 ?k9 ?kB ?kD ?_ ?c2 ?c3 ?c4; (case k0 => with_reducible assumption); (case k1 => with_reducible assumption); (case k2 => with_reducible assumption); (case k6 => k_is); (case k7 => k_is); (case k8 => exact dlt0 (by with_reducible assumption)); (case k9 => exact BindsTo.of_eq rfl); (case kB => exact rfl); (case kD => decide +kernel); (case c2 => exact rfl); (case c3 => exact rfl); (case c4 => exact rfl)))
  intro L' h' tk' cells' F' N' Y' l1
  k_lt l1
  obtain ⟨oA, oB, hE, dA, dB⟩ := CellsAre.two Y'
  subst hE
  simp only [List.cons_append, List.nil_append] at N'
  (repeat' (first | (k_unfold; (try dsimp only)) | walk1 | (dsimp only; walk1) | (dsimp only; k_unfold; (try dsimp only))))
  refine Stop.out ?_
  rename Fr _ _ _ _ => rF
  rename News _ _ _ _ => rN
  rename_i D hA l2 hB o2 d2
  refine compW (cl := [(Str.ofString "script", L' + 1), (Str.ofString "fixed", L' + 1 + 1)]) (fun v y => ∃ (k : Nat) (t u : Tok), v = .int k t ∧ y = .int (drawAt ns k) u) ?_ (by decide) rfl (by decide) rfl ?_
  · rfl
  (repeat' (first | (k_unfold; (try dsimp only)) | walk1 | (dsimp only; walk1) | (dsimp only; k_unfold; (try dsimp only))))
  rename IsRange _ _ _ _ _ _ _ _ => hR
  rename Fr _ _ _ _ => rF
  rename News _ _ _ _ => rN
  have dB : oB.data = .cell (some (.ref S)) := dB
  refine Stop.out ⟨5, _, _, src_range rfl hR rfl rfl, by rw [sizeLine_eq]; omega, ?_, ?_⟩
  · rintro C i v s₃ m₃ R hi5 ⟨t, rfl⟩ hns hm hk hR9
    have F3 := rF.keeps hk
    have N3 := rN.grown hk
    have hl3 := IsList.kp hl F3.keep
    clear rF rN hR
    (repeat' (first | (k_unfold; (try dsimp only)) | walk1 | (dsimp only; walk1) | (dsimp only; k_unfold; (try dsimp only))))
    refine Stop.out ?_
    refine kun_lenL (k := (ns.length : Int)) hl3 (by rw [List.size_toArray, hv]) (by omega) ?_
    (repeat' (first | (k_unfold; (try dsimp only)) | walk1 | (dsimp only; walk1) | (dsimp only; k_unfold; (try dsimp only))))
    · exact hR9 _ _ _ ⟨i, _, _, by rw [Int.zero_add], by rw [← draw_in (ns := ns) (i := i) (by omega), show (0 + (i : Int)).toNat = i by omega]⟩ Kp.rfl
    · exact hR9 _ _ _ ⟨i, _, _, by rw [Int.zero_add], by rw [← draw_out (ns := ns) (i := i) (by omega), show (0 + (i : Int)).toNat = i by omega]; rfl⟩ Kp.rfl
  · intro D' h' tk ys vs9 hpl hD' hk hlen hP hF
    obtain ⟨yl, rfl⟩ : ∃ yl : List Value, ys = yl.toArray := ⟨ys.toList, by simp⟩
    have h2 := range_ints (g := drawAt ns) hlen hP hF
    have F3 := rF.keeps hk
    (repeat' (first | (k_unfold; (try dsimp only)) | walk1 | (dsimp only; walk1) | (dsimp only; k_unfold; (try dsimp only))))
    refine ret D' yl _ _ F3.keep ?_ hpl h2
    cases e : s.heap.get? D' with
    | none => rfl
    | some o => rw [rF.keep _ _ e] at hD'; cases hD'
end

-- M26
noncomputable def numOf (p : T3) : Nat := (256 * p.1 + 16 * p.2.1 + p.2.2).toNat
noncomputable abbrev In16 (p : T3) : Prop := (0 ≤ p.1 ∧ p.1 < 16) ∧ (0 ≤ p.2.1 ∧ p.2.1 < 16) ∧ (0 ≤ p.2.2 ∧ p.2.2 < 16)
theorem numOf_lt {p : T3} (h : In16 p) : numOf p < 4096 := by unfold numOf; obtain ⟨a, b, c⟩ := h; omega
noncomputable def spellAt (ls : List T3) (way : Int) (k : Nat) : Str := spell (wordS (numOf (ls.getD k (0, 0, 0)))) ((way + k) % 3)
noncomputable def textOf (ls : List T3) (way : Int) : Str := cat ((List.range ls.length).map (spellAt ls way))
theorem wordS_len (n : Nat) : (wordS n).length ≤ 3 := by
  show (apL n).toArray.size ≤ 3
  rw [List.size_toArray]; exact apL_len n
theorem two_len (l : List Nat) : (l.flatMap fun c => [92, c]).length = 2 * l.length := by
  induction l with
  | nil => rfl
  | cons c l ih => rw [List.flatMap_cons, List.length_append, ih]; simp; omega
theorem str_app_len (a b : Str) : (a ++ b : Str).length = a.length + b.length := by
  show (a.cps ++ b.cps).size = _
  rw [Array.size_append]; rfl
theorem spell_len (x : Str) (i : Int) : (spell x i).length ≤ 2 * x.length + 3 := by
  have h1 : (Str.ofString " ").length = 1 := by decide +kernel
  have h2 : (Str.ofString "\"").length = 1 := by decide +kernel
  have h3 : (Str.ofString "\"\n").length = 2 := by decide +kernel
  have h4 : (Str.ofString "\t\n").length = 2 := by decide +kernel
  unfold spell
  split
  · rw [str_app_len, h1]; omega
  · split
    · rw [str_app_len, str_app_len, h2, h3]; omega
    · rw [str_app_len, h4]
      have : (⟨(x.cps.toList.flatMap fun c => [92, c]).toArray⟩ : Str).length = 2 * x.length := by
        show (x.cps.toList.flatMap fun c => [92, c]).toArray.size = _
        rw [List.size_toArray, two_len]
        simp [Str.length]
      omega
theorem sum_le {l : List Str} {b : Nat} (h : ∀ x ∈ l, x.length ≤ b) : (cat l).length ≤ b * l.length := by
  rw [cat_len]
  induction l with
  | nil => simp
  | cons x r ih =>
    have h1 := h x (.head _)
    have h2 := ih fun y hy => h y (.tail _ hy)
    rw [List.map_cons, List.sum_cons, List.length_cons, Nat.mul_add, Nat.mul_one]
    omega
theorem textOf_len (ls : List T3) (way : Int) : (textOf ls way).length ≤ 9 * ls.length := by
  have := sum_le (l := (List.range ls.length).map (spellAt ls way)) (b := 9) fun x hx => by
    obtain ⟨k, _, rfl⟩ := List.mem_map.mp hx
    unfold spellAt
    have h1 := spell_len (wordS (numOf (ls.getD k (0, 0, 0)))) ((way + k) % 3)
    have h2 := wordS_len (numOf (ls.getD k (0, 0, 0)))
    omega
  simpa [textOf] using this
section
variable {w : World} {loose : List Str} {mean : ExcName → Option Value} {mg mb : Str → Option Value} {dp un : Nat} {fr : Option (List Env)} {gd : Option (List Code)} {s : Shared} {Q E : Value → Shared → Prop}
theorem c_text {D : Addr} {vs : List Value} {ls : List T3} {way : Int} {t0 : Tok} (G : Gnd w loose mean mg mb s.heap) (hd : dp + 3 < recursionLimit) (hu : un + 32 < cLine) (hl : s.heap.IsList D vs.toArray) (hp : Trs s.heap vs ls) (hb : ∀ p ∈ ls, In16 p) (h9 : ls.length < 1000)
    (ret : ∀ t h' tk', Kp s.heap h' → Q (.str (textOf ls way) t) { s with heap := h', toks := tk' }) :
    wpAny (model PySem.Challenge.rw_sn0008_01.row.prog w) (Ar dp un fr gd) (call (.ref 116) [.ref D, .int way t0]) Q E s := by
  have X := G.X
  have T := G.T
  have O := On.rfl (h := s.heap)
  have hv : vs.length = ls.length := paired_len hp
  revert X; k_fill; intro X
  ((refine' enterGC ?k0 ?k1 ?k2 ?k6 ?k7 ?k8 ?k9 ?kB ?kD ?_ ?c2 ?c3 ?c4; (case k0 => with_reducible assumption); (case k1 => with_reducible assumption); (case k2 => with_reducible assumption); (case k6 => k_is); (case k7 => k_is); (case k8 => exact dlt0 (by with_reducible assumption)); (case k9 => exact BindsTo.of_eq rfl); (case kB => exact rfl); (case kD => decide +kernel); (case c2 => exact rfl); (case c3 => exact rfl); (case c4 => exact rfl)))
  intro L' h' tk' cells' F' N' Y' l1
  k_lt l1
  obtain ⟨oA, oB, hE, dA, dB⟩ := CellsAre.two Y'
  subst hE
  simp only [List.cons_append, List.nil_append] at N'
  (repeat' (first | (k_unfold; (try dsimp only)) | walk1 | (dsimp only; walk1) | (dsimp only; k_unfold; (try dsimp only))))
  refine Stop.out ?_
  refine compW (cl := _) (fun v y => ∃ (k : Nat) (t u : Tok), v = .int k t ∧ y = .str (spellAt ls way k) u) rfl (by decide) rfl (by decide) rfl ?_
  (repeat' (first | (k_unfold; (try dsimp only)) | walk1 | (dsimp only; walk1) | (dsimp only; k_unfold; (try dsimp only))))
  refine Stop.out ?_
  rename Fr _ _ _ _ => lF
  rename News _ _ _ _ => lN
  refine kun_lenL (k := (ls.length : Int)) (IsList.kp hl lF.keep) (by rw [List.size_toArray, hv]) (by omega) ?_
  (repeat' (first | (k_unfold; (try dsimp only)) | walk1 | (dsimp only; walk1) | (dsimp only; k_unfold; (try dsimp only))))
  rename IsRange _ _ _ _ _ _ _ _ => hR
  rename Fr _ _ _ _ => rF
  rename News _ _ _ _ => rN
  have dB : oB.data = .cell (some (.ref D)) := dB
  have dA : oA.data = .cell (some (.int way t0)) := dA
  refine Stop.out ⟨ls.length, _, _, src_range rfl hR ?_ ?_, ?_, ?_, ?_⟩
  · exact small_one (by omega) (by omega) (by omega) (by omega)
  · rw [rangeSize_one]; split <;> omega
  · rw [sizeLine_eq]; omega
  · rintro C i v s₃ m₃ R hi ⟨t, rfl⟩ hns hm hk hR9
    have F3 := rF.keeps hk
    have N3 := rN.grown hk
    have hl3 := IsList.kp hl F3.keep
    clear rF rN hR
    (repeat' (first | (k_unfold; (try dsimp only)) | walk1 | (dsimp only; walk1) | (dsimp only; k_unfold; (try dsimp only))))
    refine Stop.out ?_
    have g1 : ls[i]? = some (ls.getD i (0, 0, 0)) := by rw [List.getD_eq_getElem?_getD, List.getElem?_eq_getElem hi]; rfl
    obtain ⟨v1, e1, p1⟩ := paired_get hp g1
    have b1 := hb _ (List.mem_of_getElem? g1)
    refine item_listR hl3 (x := v1) (by omega) (by omega) (by rw [List.getElem?_toArray, show (0 + (i : Int)).toNat = i by omega]; exact e1) ?_
    (repeat' (first | (k_unfold; (try dsimp only)) | walk1 | (dsimp only; walk1) | (dsimp only; k_unfold; (try dsimp only))))
    refine Stop.out ?_
    refine c_word (G.keeps F3.keep) (dlt 3 hd rfl) (dlt 19 hu rfl) (p1.keeps F3.keep) b1.1 b1.2.1 b1.2.2 ?_
    intro t9 h9 tk9 k9
    have F9 := F3.keeps k9
    have N9 := N3.grown k9
    have hns9 := hns.keeps k9
    clear F3 N3 hns
    (repeat' (first | (k_unfold; (try dsimp only)) | walk1 | (dsimp only; walk1) | (dsimp only; k_unfold; (try dsimp only))))
    refine Stop.out ?_
    refine c_spelled (G.keeps F9.keep) (dlt 2 hd rfl) (dlt 11 hu rfl) (Nat.le_trans (wordS_len _) (by decide)) (wordS_ascii _ (numOf_lt b1)) ?_
    intro t8 h8 tk8 k8
    exact hR9 _ _ _ ⟨i, _, _, by rw [Int.zero_add], by rw [Int.zero_add, Int.fmod_eq_emod_of_nonneg _ (by decide)]; rfl⟩ (Kp.trans k9 k8)
  · intro D' h' tk ys vs9 hpl hD' hk hlen hP hF
    have h2 : Strs ys.toList ((List.range ls.length).map (spellAt ls way)) := Paired.of_map (Paired.mono' (fun c y _ h => by
      obtain ⟨v, ⟨t, e1⟩, k, t2, u, e2, e3⟩ := h
      rw [e1] at e2
      have : c = k := by injection e2 with e _; omega
      subst this
      exact ⟨u, e3⟩) (paired_zip (G := fun (k : Nat) v => ∃ t : Tok, v = Value.int (0 + (k : Int)) t) (paired_of_get (by rw [hlen, List.length_range]) fun j c v e1 e2 => by
        obtain ⟨_, e3⟩ := List.getElem?_eq_some_iff.mp e1
        rw [List.getElem_range] at e3
        subst e3
        exact hP j v e2) hF))
    have F3 := rF.keeps hk
    have N3 := rN.grown hk
    clear rF rN
    (repeat' (first | (k_unfold; (try dsimp only)) | walk1 | (dsimp only; walk1) | (dsimp only; k_unfold; (try dsimp only))))
    have hz := textOf_len ls way
    refine join_strs hpl h2 (by rw [sizeLine_eq]; unfold textOf at hz; omega) ?_
    intro t9 k9
    (repeat' (first | (k_unfold; (try dsimp only)) | walk1 | (dsimp only; walk1) | (dsimp only; k_unfold; (try dsimp only))))
    exact ret _ _ _ F3.keep
end

-- M27
noncomputable def corner (k : Nat) : T3 := [(1, 0, 0), (1, 1, 0), (0, 1, 0), (0, 1, 1), (0, 0, 1), (1, 0, 1)].getD k (0, 0, 0)
noncomputable def tintOf (x : Int) : T3 :=
  let one := corner (x % 6).toNat
  let other := corner ((x + 1) % 6).toNat
  let many := 1 + x / 6 % 3
  let more := x / 18
  (many * one.1 + more * other.1, many * one.2.1 + more * other.2.1, many * one.2.2 + more * other.2.2)
noncomputable def tintsOf (xs : List Int) : List T3 := if againstL (xs.map tintOf) = (0, 0, 0) then xs.map tintOf else xs.map tintOf ++ [againstL (xs.map tintOf)]
theorem tint_eq (z : Int) : tintOf z = ((1 + (z.fdiv 6).fmod 3) * (corner (z % 6).toNat).1 + z.fdiv 18 * (corner ((z + 1) % 6).toNat).1, (1 + (z.fdiv 6).fmod 3) * (corner (z % 6).toNat).2.1 + z.fdiv 18 * (corner ((z + 1) % 6).toNat).2.1, (1 + (z.fdiv 6).fmod 3) * (corner (z % 6).toNat).2.2 + z.fdiv 18 * (corner ((z + 1) % 6).toNat).2.2) := by
  rw [Int.fmod_eq_emod_of_nonneg _ (by decide), Int.fdiv_eq_ediv_of_nonneg _ (by decide), Int.fdiv_eq_ediv_of_nonneg _ (by decide)]
  rfl
theorem grey_yes {t : T3} (h : (t.1 == 0 && (t.2.1 == 0 && t.2.2 == 0)) = true) : t = (0, 0, 0) := by
  obtain ⟨a, b, c⟩ := t
  simpa using h
theorem grey_no {t : T3} (h : (t.1 == 0 && (t.2.1 == 0 && t.2.2 == 0)) = false) : ¬ t = (0, 0, 0) := by
  rintro rfl
  exact absurd h (by decide)
theorem News.dup {h₀ h : Heap} {L a : Addr} {o : Obj} {news : List (Addr × Obj)} (N : News h₀ L h news) (hm : (a, o) ∈ news) : News h₀ L h ((a, o) :: news) := List.forall_mem_cons.mpr ⟨N _ hm, N⟩
theorem fm_bounds (x : Int) (n : Int) (hn : 0 < n) : Int.fmod x n = x % n ∧ 0 ≤ x % n ∧ x % n < n := ⟨Int.fmod_eq_emod_of_nonneg _ (Int.le_of_lt hn), Int.emod_nonneg _ (Int.ne_of_gt hn), Int.emod_lt_of_pos _ hn⟩
/-- triples by the ledger -/
noncomputable def Led3 (es : List (Addr × Obj)) (us : List Value) (ls : List T3) : Prop := Paired (fun p v => ∃ a t1 t2 t3 k, v = Value.ref a ∧ (a, tup3 p.1 p.2.1 p.2.2 t1 t2 t3 k) ∈ es) ls us
theorem Led3.trs {h : Heap} {es : List (Addr × Obj)} {us : List Value} {ls : List T3} (x : Led3 es us ls) (N : ∀ p ∈ es, h.get? p.1 = some p.2) : Trs h us ls :=
  Paired.mono' (fun _ _ _ q => let ⟨a, t1, t2, t3, k, e, hm⟩ := q; ⟨a, t1, t2, t3, k, e, N _ hm⟩) x
theorem Led3.more {es es' : List (Addr × Obj)} {us : List Value} {ls : List T3} (x : Led3 es us ls) (hs : ∀ p ∈ es, p ∈ es') : Led3 es' us ls :=
  Paired.mono' (fun _ _ _ q => let ⟨a, t1, t2, t3, k, e, hm⟩ := q; ⟨a, t1, t2, t3, k, e, hs _ hm⟩) x
noncomputable def Corn (es : List (Addr × Obj)) (cs : Array Value) : Prop := ∀ j, j < 6 → ∃ a t1 t2 t3 k, cs[j]? = some (Value.ref a) ∧ (a, tup3 (corner j).1 (corner j).2.1 (corner j).2.2 t1 t2 t3 k) ∈ es
theorem Corn.more {es es' : List (Addr × Obj)} {cs : Array Value} (x : Corn es cs) (hs : ∀ p ∈ es, p ∈ es') : Corn es' cs := fun j hj => let ⟨a, t1, t2, t3, k, e, hm⟩ := x j hj; ⟨a, t1, t2, t3, k, e, hs _ hm⟩
local macro_rules | `(tactic| k_all) => `(tactic| with_reducible assumption)
section
variable {w : World} {loose : List Str} {mean : ExcName → Option Value} {mg mb : Str → Option Value} {dp un : Nat} {fr : Option (List Env)} {gd : Option (List Code)} {s : Shared} {Q E : Value → Shared → Prop}
theorem c_tints {D : Addr} {vs : List Value} {xs : List Int} (G : Gnd w loose mean mg mb s.heap) (hd : dp + 3 < recursionLimit) (hu : un + 96 < cLine) (hl : s.heap.IsList D vs.toArray) (hi : IntsAre vs xs) (hb : ∀ x ∈ xs, 0 ≤ x ∧ x < 54) (h9 : xs.length < 50)
    (ret : ∀ D' us n (es : List (Addr × Obj)) h' tk', Kp s.heap h' → (∀ p ∈ es, h'.get? p.1 = some p.2 ∧ s.heap.get? p.1 = none) → (D', W.listOf (List.toArray us) n) ∈ es → Led3 es us (tintsOf xs) → Q (.ref D') { s with heap := h', toks := tk' }) :
    wpAny (model PySem.Challenge.rw_sn0008_01.row.prog w) (Ar dp un fr gd) (call (.ref 111) [.ref D]) Q E s := by
  have X := G.X
  have T := G.T
  revert X; k_fill; intro X
  ((refine' enter ?k1 ?k2 ?k6 ?k7 ?k8 ?k9 ?kB ?_ ?c2 ?c3 ?c4 ?c5; (case k1 => assumption); (case k2 => assumption); (case k6 => k_is); (case k7 => k_is); (case k8 => exact dlt0 (by with_reducible assumption)); (case k9 => exact BindsTo.of_eq rfl); (case kB => exact locs rfl); (case c2 => exact rfl); (case c3 => exact rfl); (case c4 => exact rfl); (case c5 => decide)))
  intro L' h' F' N'
  dsimp only
  k_fold
  (repeat' (first | (k_unfold; (try dsimp only)) | walk1 | (dsimp only; walk1) | (dsimp only; k_unfold; (try dsimp only))))
  refine Stop.out ?_
  refine wpAny_For ?_
  (repeat' (first | (k_unfold; (try dsimp only)) | walk1 | (dsimp only; walk1) | (dsimp only; k_unfold; (try dsimp only))))
  refine Stop.out ?_
  rename Fr _ _ _ _ => lF
  rename News _ _ _ _ => lN
  rename_i c1 h1 l1 c2 h2 l2 c3 h3 l3 c4 h4 l4 c5 h5 l5 c6 h6 l6 CL h7 l7 h8 TL h9 l8 h10
  have hl0 : h10.IsList D vs.toArray := IsList.kp hl lF.keep
  refine src_list rfl hl0 _ _ fun I fp St h W9 ho hs st hfp hI hk => ?_
  have hIL : L' ≠ I := fun e => by subst e; obtain ⟨o, _, _, e1, _⟩ := lF.ns; rw [e1] at hI; cases hI
  have hI0 : s.heap.get? I = none := by
    cases e : s.heap.get? I with
    | none => rfl
    | some o => rw [lF.keep _ _ e] at hI; cases hI
  have neI : ∀ {p : Addr × Obj}, h10.get? p.1 = some p.2 → p.1 ≠ I := fun {p} e q => by
    have hI' : h10.get? I = none := hI
    rw [q, hI'] at e; cases e
  obtain ⟨es, cs, hcor, hTL, hCL, nTC, hI9, lN⟩ : ∃ (es : List (Addr × Obj)) (cs : Array Value), Corn es cs ∧ (∀ p ∈ es, p.1 ≠ TL) ∧ (∀ p ∈ es, p.1 ≠ CL) ∧ (@Ne Nat CL TL) ∧ (∀ p ∈ (TL, W.listOf #[] 0) :: (CL, W.listOf cs 0) :: es, p.1 ≠ I) ∧ News s.heap L' h10 ((TL, W.listOf #[] 0) :: (CL, W.listOf cs 0) :: es) := by
    refine ⟨_, _, ?_, ?_, ?_, ?_, fun p hp => neI (lN p hp).1, lN⟩
    · intro j hj
      match j, hj with
      | 0, _ => exact ⟨_, _, _, _, _, rfl, .tail _ (.tail _ (.tail _ (.tail _ (.tail _ (.head _)))))⟩
      | 1, _ => exact ⟨_, _, _, _, _, rfl, .tail _ (.tail _ (.tail _ (.tail _ (.head _))))⟩
      | 2, _ => exact ⟨_, _, _, _, _, rfl, .tail _ (.tail _ (.tail _ (.head _)))⟩
      | 3, _ => exact ⟨_, _, _, _, _, rfl, .tail _ (.tail _ (.head _))⟩
      | 4, _ => exact ⟨_, _, _, _, _, rfl, .tail _ (.head _)⟩
      | 5, _ => exact ⟨_, _, _, _, _, rfl, .head _⟩
    · simp only [List.forall_mem_cons]
      exact ⟨Nat.ne_of_lt l8.2.1, Nat.ne_of_lt l8.2.2.1, Nat.ne_of_lt l8.2.2.2.1, Nat.ne_of_lt l8.2.2.2.2.1, Nat.ne_of_lt l8.2.2.2.2.2.1, Nat.ne_of_lt l8.2.2.2.2.2.2, fun _ h => nomatch h⟩
    · simp only [List.forall_mem_cons]
      exact ⟨Nat.ne_of_lt l7.1, Nat.ne_of_lt l7.2.1, Nat.ne_of_lt l7.2.2.1, Nat.ne_of_lt l7.2.2.2.1, Nat.ne_of_lt l7.2.2.2.2.1, Nat.ne_of_lt l7.2.2.2.2.2, fun _ h => nomatch h⟩
    · exact Nat.ne_of_lt l8.1
  refine forW (σ := List Value × Nat × List (Addr × Obj)) W9 (fun h => h.IsList D vs.toArray) ho hs (fun _ c => (TL, W.listOf c.1.toArray c.2.1) :: (CL, W.listOf cs 0) :: c.2.2) (fun _ _ => [(Str.ofString "corners", .ref CL), (Str.ofString "tints", .ref TL)])
    (fun i c => Corn c.2.2 cs ∧ (∀ p ∈ c.2.2, p.1 ≠ TL) ∧ (∀ p ∈ (TL, W.listOf c.1.toArray c.2.1) :: (CL, W.listOf cs 0) :: c.2.2, p.1 ≠ I) ∧ Led3 c.2.2 c.1 ((xs.take i).map tintOf)) ([], 0, es)
    (lF.keeps hk) (lN.grown hk) st hIL hI0 (fun _ _ q => q.2.2.1) (fun _ _ _ _ F _ => IsList.kp hl F.keep) ⟨rfl, rfl, trivial⟩ ⟨hcor, hTL, hI9, .nil⟩ ?turn ?fin
  case turn =>
    clear lF lN hcor hTL hCL hI9 neI hI hk hfp st l1 l2 l3 l4 l5 l6 l7 l8
    rintro i ⟨us, n, es⟩ v u h tk oI R hi9 hv ⟨hcor, hTL, hI9, hled⟩ F1 N1 hR -
    dsimp only at F1 N1 hcor hTL hI9 hled ⊢
    rw [List.getElem?_toArray] at hv
    obtain ⟨z, t0, rfl, hz⟩ := IntsAre.at hi i v hv
    obtain ⟨z0, z54⟩ := hb z (List.mem_of_getElem? hz)
    have f1 := fm_bounds z 6 (by decide)
    have f2 := fm_bounds (z + 1) 6 (by decide)
    have f3 := fm_bounds (z.fdiv 6) 3 (by decide)
    have f4 : z.fdiv 18 = z / 18 := Int.fdiv_eq_ediv_of_nonneg _ (by decide)
    have f5 : z.fdiv 6 = z / 6 := Int.fdiv_eq_ediv_of_nonneg _ (by decide)
    have hz9 : us.length < 64 := by
      have := paired_len hled
      rw [List.length_map, List.length_take] at this
      omega
    (repeat' (first | (k_unfold; (try dsimp only)) | walk1 | (dsimp only; walk1) | (dsimp only; k_unfold; (try dsimp only))))
    refine Stop.out ?_
    rename Fr _ _ _ _ => lF
    rename News _ _ _ _ => lN
    obtain ⟨a, t1, t2, t3, k1, ea, ma⟩ := hcor (z % 6).toNat (by omega)
    refine item_listR (News.isList lN (.tail _ (.tail _ (.head _)))) (x := .ref a) (by rw [f1.1]; omega) (by rw [f1.1]; omega) (by rw [f1.1]; exact ea) ?_
    have N2 := News.dup lN (.tail _ (.tail _ (.tail _ ma)))
    have na : @Ne Nat a TL := hTL _ ma
    clear lN
    (repeat' (first | (k_unfold; (try dsimp only)) | walk1 | (dsimp only; walk1) | (dsimp only; k_unfold; (try dsimp only))))
    refine Stop.out ?_
    rename Fr _ _ _ _ => lF
    rename News _ _ _ _ => lN
    obtain ⟨b, u1, u2, u3, k2, eb, mb⟩ := hcor ((z + 1) % 6).toNat (by omega)
    refine item_listR (News.isList lN (.tail _ (.tail _ (.tail _ (.head _))))) (x := .ref b) (by rw [f2.1]; omega) (by rw [f2.1]; omega) (by rw [f2.1]; exact eb) ?_
    have N3 := News.dup lN (.tail _ (.tail _ (.tail _ (.tail _ mb))))
    have nb : @Ne Nat b TL := hTL _ mb
    clear lN
    have nI : @Ne Nat I TL := Ne.symm (hI9 _ (.head _))
    (repeat' (first | (k_unfold; (try dsimp only)) | walk1 | (dsimp only; walk1) | (dsimp only; k_unfold; (try dsimp only))))
    rename Fr _ _ _ _ => rF
    rename News _ _ _ _ => rN
    rename_i T hT Fo No l1 hT2
    obtain ⟨t1, t2, t3, rN⟩ : ∃ t1 t2 t3, News s.heap L' hT2 ((T, tup3 (tintOf z).1 (tintOf z).2.1 (tintOf z).2.2 t1 t2 t3 0) :: (b, _) :: (a, _) :: (I, oI) :: (TL, W.listOf (us ++ [Value.ref T]).toArray (n + 1)) :: (CL, W.listOf cs 0) :: es) := ⟨_, _, _, by rw [tint_eq z]; exact rN⟩
    have sub : ∀ p ∈ es, p ∈ (T, tup3 (tintOf z).1 (tintOf z).2.1 (tintOf z).2.2 t1 t2 t3 0) :: es := fun _ h => .tail _ h
    refine hR (us ++ [.ref T], n + 1, (T, tup3 (tintOf z).1 (tintOf z).2.1 (tintOf z).2.2 t1 t2 t3 0) :: es) _ _ _ _ rF rN (.tail _ (.tail _ (.tail _ (.head _)))) ?_ ⟨rfl, rfl, trivial⟩ ⟨hcor.more sub, ?_, ?_, ?_⟩
    · refine List.forall_mem_cons.mpr ⟨.tail _ (.tail _ (.tail _ (.tail _ (.head _)))), List.forall_mem_cons.mpr ⟨.tail _ (.tail _ (.tail _ (.tail _ (.tail _ (.head _))))), List.forall_mem_cons.mpr ⟨.head _, fun _ h => .tail _ (.tail _ (.tail _ (.tail _ (.tail _ (.tail _ h)))))⟩⟩⟩
    · exact List.forall_mem_cons.mpr ⟨Nat.ne_of_gt l1.2.2.2.1, hTL⟩
    · exact List.forall_mem_cons.mpr ⟨Ne.symm nI, List.forall_mem_cons.mpr ⟨hI9 _ (.tail _ (.head _)), List.forall_mem_cons.mpr ⟨Nat.ne_of_gt l1.2.2.1, fun p h => hI9 _ (.tail _ (.tail _ h))⟩⟩⟩
    · rw [List.take_succ_eq_append_getElem (List.getElem?_eq_some_iff.mp hz).1, (List.getElem?_eq_some_iff.mp hz).2, List.map_append]
      exact Paired.snoc (hled.more sub) ⟨T, t1, t2, t3, 0, rfl, .head _⟩
  case fin =>
    clear lF lN hcor hTL hCL hI9 neI hI hk hfp st l1 l2 l3 l4 l5 l6 l7 l8
    rintro ⟨us, n, es⟩ h tk u ⟨hcor, hTL, hI9, hled⟩ F1 N1
    dsimp only at F1 N1 hcor hTL hI9 hled ⊢
    rw [List.take_of_length_le (by rw [List.size_toArray]; exact Nat.le_of_eq hi.length.symm)] at hled
    (repeat' (first | (k_unfold; (try dsimp only)) | walk1 | (dsimp only; walk1) | (dsimp only; k_unfold; (try dsimp only))))
    refine Stop.out ?_
    rename Fr _ _ _ _ => lF
    rename News _ _ _ _ => lN
    refine c_against (G.keeps lF.keep) (dlt 3 hd rfl) (dlt 27 hu rfl) (News.isList lN (.head _)) (hled.trs fun p hp => (lN p (.tail _ (.tail _ hp))).1) (by rw [List.length_map, ]; omega) ?_
    intro v' h9 tk9 kp hp
    obtain ⟨a, t1, t2, t3, c, rfl, ha, hna⟩ := hp
    have F9 := lF.keeps kp
    have N9 := add_news lF kp lN ha hna
    clear lF lN
    (repeat' (first | (k_unfold; (try dsimp only)) | walk1 | (dsimp only; walk1) | (dsimp only; k_unfold; (try dsimp only))))
    · rename Fr _ _ _ _ => rF
      rename News _ _ _ _ => rN
      have e0 : againstL (xs.map tintOf) = (0, 0, 0) := grey_yes (by with_reducible assumption)
      refine ret TL us n _ _ _ rF.keep (fun p hp => ⟨(rN p hp).1, (rN p hp).2.2⟩) (.tail _ (.tail _ (.head _))) ?_
      rw [show tintsOf xs = xs.map tintOf from if_pos e0]
      exact hled.more fun p hp => .tail _ (.tail _ (.tail _ (.tail _ hp)))
    · rename Fr _ _ _ _ => rF
      rename News _ _ _ _ => rN
      have e0 : ¬ againstL (xs.map tintOf) = (0, 0, 0) := grey_no (by with_reducible assumption)
      refine add_lists (ws := [.ref a]) rF rN (News.isList rN (by k_mem)) (News.isList rN (.head _)) ?_ ?_
      · intro h9 F9 N9
        refine ret _ (us ++ [.ref a]) 0 _ _ _ F9.keep (fun p hp => ⟨(N9 p hp).1, (N9 p hp).2.2⟩) (.head _) ?_
        rw [show tintsOf xs = xs.map tintOf ++ [againstL (xs.map tintOf)] from if_neg e0]
        exact Paired.snoc (hled.more fun p hp => .tail _ (.tail _ (.tail _ (.tail _ (.tail _ (.tail _ hp)))))) ⟨a, t1, t2, t3, c, rfl, .tail _ (.tail _ (.tail _ (.head _)))⟩
      · have := paired_len hled
        rw [List.length_map] at this
        rw [sizeLine_eq]
        simp only [List.length_cons, List.length_nil]
        omega
end

-- M28
local macro_rules | `(tactic| walk_at "subscriptTail Name UnaryOp ref int") => `(tactic| with_reducible refine st10 ?_)
local macro_rules | `(tactic| walk_at "subscriptTail") => `(tactic| with_reducible refine st10 ?_)
theorem item_gt {prog : Program} {w : World} {A : Around} {E : Value → Shared → Prop} {s : Shared} {g : Heap} {L t : Addr} {m : Str → Option Value} {value slice : Expr} {l : List Value} {k : Int} {u : Tok} {j : Nat} {x : Value} {Q : Value → Shared → Prop} (F : Fr g L s.heap m) (ht : IsTup g t l.toArray)
    (hlo : -(2 ^ 63) ≤ k) (hhi : k < 2 ^ 63) (hj : seqIndex? k l.length = some j) (hx : l[j]? = some x) (h : Q x s)
    (hs : subscripted slice false (.ref t) (.int k u) = operate [.ref t, .int k u] (getItem (.ref t) (.int k u)) := by with_unfolding_all rfl) :
    wpAny (model prog w) A (subscriptTail value slice (.ref t) (.int k u)) Q E s :=
  item_tupleT (let ⟨o, e, r⟩ := ht; ⟨o, F.keep _ _ e, r⟩) hlo hhi hj hx h hs
local macro_rules | `(tactic| walk_at "subscriptTail") => `(tactic| ((with_reducible show wpAny _ _ (subscriptTail _ _ (Value.ref _) (Value.int _ _)) _ _ _); k_dflt (refine' item_gt ?F ?t ?a ?b ?j ?x ?_; (case F => k_asm); (case t => with_reducible assumption); (case a => decide); (case b => decide); (case j => rfl); (case x => rfl))))
noncomputable abbrev pt (ps : List (Int × Int)) (k : Nat) : Int × Int := ps.getD k (0, 0)
noncomputable def sideAt (ps : List (Int × Int)) (k : Nat) : Int × Int := ((pt ps (k + 1)).1 - (pt ps k).1, (pt ps (k + 1)).2 - (pt ps k).2)
noncomputable def IsMin (M : Int) (l : List Int) : Prop := M ∈ l ∧ ∀ a ∈ l, M ≤ a
noncomputable def EdgeOk (ps qs rs : List (Int × Int)) : Prop := ∀ k, k < ps.length - 1 → ∀ M N, IsMin M (qs.map (crs (sideAt ps k))) → IsMin N (rs.map (crs (sideAt ps k))) → crs (sideAt ps k) (pt ps k) = M + N
noncomputable def Tiny (ps : List (Int × Int)) : Prop := ∀ p ∈ ps, (-4000 ≤ p.1 ∧ p.1 ≤ 4000) ∧ (-4000 ≤ p.2 ∧ p.2 ≤ 4000)
theorem P2.uniq {h : Heap} {v : Value} {x y x' y' : Int} (p : P2 h v x y) (q : P2 h v x' y') : x = x' ∧ y = y' := by
  obtain ⟨a, t1, t2, n, rfl, e⟩ := p
  obtain ⟨b, u1, u2, k, e2, e3⟩ := q
  cases e2
  rw [e] at e3
  simp at e3
  exact ⟨e3.1.1.1, e3.1.2.1⟩
theorem pt_get {ps : List (Int × Int)} {i : Nat} (h : i < ps.length) : ps[i]? = some (pt ps i) := by
  unfold pt
  rw [List.getD_eq_getElem?_getD, List.getElem?_eq_getElem h]; rfl
section
variable {w : World} {loose : List Str} {mean : ExcName → Option Value} {mg mb : Str → Option Value} {dp un : Nat} {fr : Option (List Env)} {gd : Option (List Code)} {s : Shared} {Q E : Value → Shared → Prop}
theorem c_edge {S D1 D2 : Addr} {vs us ws : List Value} {ps qs rs : List (Int × Int)} (G : Gnd w loose mean mg mb s.heap) (hd : dp + 3 < recursionLimit) (hu : un + 96 < cLine)
    (hl : s.heap.IsList S vs.toArray) (hp : Pts s.heap vs ps) (hl1 : s.heap.IsList D1 us.toArray) (hp1 : Pts s.heap us qs) (hl2 : s.heap.IsList D2 ws.toArray) (hp2 : Pts s.heap ws rs)
    (hb : Tiny ps) (h0 : 0 < ps.length) (h9 : ps.length < 1000) (h01 : 0 < qs.length) (h91 : qs.length < 1000) (h02 : 0 < rs.length) (h92 : rs.length < 1000)
    (he : EdgeOk ps qs rs) (hz : pt ps (ps.length - 1) = (0, 0))
    (ret : ∀ h' tk', Kp s.heap h' → Q (.bool true) { s with heap := h', toks := tk' }) :
    wpAny (model PySem.Challenge.rw_sn0008_01.row.prog w) (Ar dp un fr gd) (call (.ref 161) [.ref S, .ref D1, .ref D2]) Q E s := by
  have X := G.X
  have T := G.T
  have O := On.rfl (h := s.heap)
  have hv : vs.length = ps.length := paired_len hp
  revert X; k_fill; intro X
  ((refine' enterGC ?k0 ?k1 ?k2 ?k6 ?k7 ?k8 ?k9 ?kB ?kD ?_ ?c2 ?c3 ?c4; (case k0 => with_reducible assumption); (case k1 => with_reducible assumption); (case k2 => with_reducible assumption); (case k6 => k_is); (case k7 => k_is); (case k8 => exact dlt0 (by with_reducible assumption)); (case k9 => exact BindsTo.of_eq rfl); (case kB => exact rfl); (case kD => decide +kernel); (case c2 => exact rfl); (case c3 => exact rfl); (case c4 => exact rfl)))
  intro L' h' tk' cells' F' N' Y' l1
  k_lt l1
  obtain ⟨oA, hE, dA⟩ := CellsAre.one Y'
  subst hE
  simp only [List.cons_append, List.nil_append] at N'
  (repeat' (first | (k_unfold; (try dsimp only)) | walk1 | (dsimp only; walk1) | (dsimp only; k_unfold; (try dsimp only))))
  refine Stop.out ?_
  refine wpAny_For ?_
  (repeat' (first | (k_unfold; (try dsimp only)) | walk1 | (dsimp only; walk1) | (dsimp only; k_unfold; (try dsimp only))))
  refine Stop.out ?_
  rename Fr _ _ _ _ => lF
  rename News _ _ _ _ => lN
  refine kun_lenL (k := (ps.length : Int)) (IsList.kp hl lF.keep) (by rw [List.size_toArray, hv]) (by omega) ?_
  (repeat' (first | (k_unfold; (try dsimp only)) | walk1 | (dsimp only; walk1) | (dsimp only; k_unfold; (try dsimp only))))
  refine Stop.out ?_
  rename IsRange _ _ _ _ _ _ _ _ => hR
  rename Fr _ _ _ _ => lF
  rename News _ _ _ _ => lN
  refine src_range (n := ps.length - 1) rfl hR (small_one (by omega) (by omega) (by omega) (by omega)) (by rw [rangeSize_one]; split <;> omega) _ _ fun I fp St h W9 ho hs st hfp hI hk => ?_
  have hIL : L' ≠ I := fun e => by subst e; obtain ⟨o, _, _, e1, _⟩ := lF.ns; rw [show _ = none from hI] at e1; cases e1
  have hI0 : s.heap.get? I = none := by
    cases e : s.heap.get? I with
    | none => rfl
    | some o => have := lF.keep _ _ e; rw [show _ = none from hI] at this; cases this
  have neI : @Ne Nat (L' + 1) I := fun q => by have := (lN _ (.head _)).1; rw [show ((L' + 1 : Nat), oA).1 = I from q, show _ = none from hI] at this; cases this
  refine forW (σ := Obj) W9 (fun _ => True) ho hs (fun _ c => [(L' + 1, c)]) (fun _ _ => [(Str.ofString "spots", .ref S), (Str.ofString "some", .ref D1), (Str.ofString "others", .ref D2)])
    (fun i c => ∃ v0, c.data = .cell v0) oA
    (lF.keeps hk) (lN.grown hk) st hIL hI0 (fun _ _ _ => List.forall_mem_cons.mpr ⟨neI, fun _ h => nomatch h⟩) (fun _ _ _ _ _ _ => trivial) ⟨rfl, rfl, rfl, trivial⟩ ⟨_, dA⟩ ?turn ?fin
  case turn =>
    clear lF lN hI hk hfp st hR
    rintro i oc v u h tk oI R hi9 ⟨t, rfl⟩ ⟨v0, dC⟩ F1 N1 hR -
    dsimp only at F1 N1 ⊢
    have g1 : ps[i]? = some (pt ps i) := pt_get (by omega)
    have g2 : ps[i + 1]? = some (pt ps (i + 1)) := pt_get (by omega)
    obtain ⟨v1, e1, p1⟩ := paired_get hp g1
    obtain ⟨v2, e2, p2⟩ := paired_get hp g2
    have b1 := hb _ (List.mem_of_getElem? g1)
    have b2 := hb _ (List.mem_of_getElem? g2)
    have q1 := p1
    obtain ⟨a1, t1, t2, n1, rfl, ha1⟩ := p1
    obtain ⟨a2, t3, t4, n2, rfl, ha2⟩ := p2
    have ha1 := tup2_is ha1
    have ha2 := tup2_is ha2
    have j0 : vs.toArray[(0 + (i : Int)).toNat]? = some (.ref a1) := by rw [List.getElem?_toArray, show (0 + (i : Int)).toNat = i by omega]; exact e1
    have j1 : vs.toArray[(0 + (i : Int) + 1).toNat]? = some (.ref a2) := by rw [List.getElem?_toArray, show (0 + (i : Int) + 1).toNat = i + 1 by omega]; exact e2
    (repeat' (first | (k_unfold; (try dsimp only)) | walk1 | (dsimp only; walk1) | (dsimp only; k_unfold; (try dsimp only))))
    refine Stop.out ?_
    rename Fr _ _ _ _ => lF
    refine item_listR (IsList.kp hl lF.keep) (by omega) (by omega) j1 ?_
    (repeat' (first | (k_unfold; (try dsimp only)) | walk1 | (dsimp only; walk1) | (dsimp only; k_unfold; (try dsimp only))))
    refine Stop.out ?_
    refine item_listR (IsList.kp hl lF.keep) (by omega) (by omega) j0 ?_
    (repeat' (first | (k_unfold; (try dsimp only)) | walk1 | (dsimp only; walk1) | (dsimp only; k_unfold; (try dsimp only))))
    refine Stop.out ?_
    refine item_listR (IsList.kp hl lF.keep) (by omega) (by omega) j1 ?_
    (repeat' (first | (k_unfold; (try dsimp only)) | walk1 | (dsimp only; walk1) | (dsimp only; k_unfold; (try dsimp only))))
    refine Stop.out ?_
    refine item_listR (IsList.kp hl lF.keep) (by omega) (by omega) j0 ?_
    (repeat' (first | (k_unfold; (try dsimp only)) | walk1 | (dsimp only; walk1) | (dsimp only; k_unfold; (try dsimp only))))
    rename Fr _ _ _ _ => lF
    rename News _ _ _ _ => lN
    rename_i TT hT1 lT hT2 oC dC2
    have sb1 : -10000 ≤ (sideAt ps i).1 ∧ (sideAt ps i).1 ≤ 10000 := by show _ ≤ (pt ps (i + 1)).1 - (pt ps i).1 ∧ (pt ps (i + 1)).1 - (pt ps i).1 ≤ _; omega
    have sb2 : -10000 ≤ (sideAt ps i).2 ∧ (sideAt ps i).2 ≤ 10000 := by show _ ≤ (pt ps (i + 1)).2 - (pt ps i).2 ∧ (pt ps (i + 1)).2 - (pt ps i).2 ≤ _; omega
    clear ha1 ha2 j1 g2 e2 b1 b2
    refine Stop.out ?_
    rename Fr _ _ _ _ => lF
    rename News _ _ _ _ => lN
    refine compW (cl := [(Str.ofString "side", L' + 1)]) (fun v y => ∃ (p : Int × Int) (t : Tok), P2 s.heap v p.1 p.2 ∧ y = .int (crs (sideAt ps i) p) t) rfl (by decide) rfl (by decide) rfl ?_
    (repeat' (first | (k_unfold; (try dsimp only)) | walk1 | (dsimp only; walk1) | (dsimp only; k_unfold; (try dsimp only))))
    refine Stop.out ⟨_, _, _, src_list rfl (IsList.kp hl1 lF.keep), ?_, ?_, ?_⟩
    · rw [List.size_toArray, paired_len hp1, sizeLine_eq]; omega
    · rintro C j v s₄ m₄ R4 hj hv4 hns hm hk4 hR4
      rw [List.getElem?_toArray] at hv4
      rw [List.size_toArray, paired_len hp1] at hj
      obtain ⟨v', e3, p3⟩ := paired_get hp1 (pt_get hj)
      rw [e3] at hv4
      cases hv4
      have F4 := lF.keeps hk4
      have N4 := lN.grown hk4
      have hT : P2 s₄.heap (.ref TT) (sideAt ps i).1 (sideAt ps i).2 := P2.of (N4 _ (.head _)).1 rfl rfl
      clear lF lN
      (repeat' (first | (k_unfold; (try dsimp only)) | walk1 | (dsimp only; walk1) | (dsimp only; k_unfold; (try dsimp only))))
      refine Stop.out ?_
      refine c_cross (G.keeps F4.keep) (dlt 2 hd rfl) (dlt 11 hu rfl) hT (p3.keeps F4.keep) sb1 sb2 ?_
      intro t9 h9 tk9 k9
      exact hR4 _ _ _ ⟨_, _, p3, rfl⟩ k9
    intro D' h' tk ys vs9 hpl hD' hk hlen hP hF
    obtain ⟨yl, rfl⟩ : ∃ yl : List Value, ys = yl.toArray := ⟨ys.toList, by simp⟩
    obtain rfl := list_same hlen hP
    have h2 : IntsAre yl (qs.map (crs (sideAt ps i))) := paired_ints (Paired.mono' (fun c y _ h => by
      obtain ⟨v, p1, p, t2, p2, e3⟩ := h
      obtain ⟨e4, e5⟩ := p1.uniq p2
      exact ⟨t2, by rw [e3, show c = p from Prod.ext e4 e5]⟩) (paired_zip hp1 hF))
    have F4 := lF.keeps hk
    have N4 := lN.grown hk
    clear lF lN hlen hP hF hk hD'
    (repeat' (first | (k_unfold; (try dsimp only)) | walk1 | (dsimp only; walk1) | (dsimp only; k_unfold; (try dsimp only))))
    refine Stop.out ?_
    refine kso_min F4 N4 hpl.isList h2 (by rw [List.length_map]; exact h01) rfl ?_
    intro h9 M1 t9 tk9 F9 N9 M1m M1l
    clear F4 N4 hpl h2
    (repeat' (first | (k_unfold; (try dsimp only)) | walk1 | (dsimp only; walk1) | (dsimp only; k_unfold; (try dsimp only))))
    refine Stop.out ?_
    rename Fr _ _ _ _ => lF
    rename News _ _ _ _ => lN
    refine compW (cl := [(Str.ofString "side", L' + 1)]) (fun v y => ∃ (p : Int × Int) (t : Tok), P2 s.heap v p.1 p.2 ∧ y = .int (crs (sideAt ps i) p) t) rfl (by decide) rfl (by decide) rfl ?_
    (repeat' (first | (k_unfold; (try dsimp only)) | walk1 | (dsimp only; walk1) | (dsimp only; k_unfold; (try dsimp only))))
    refine Stop.out ⟨_, _, _, src_list rfl (IsList.kp hl2 lF.keep), ?_, ?_, ?_⟩
    · rw [List.size_toArray, paired_len hp2, sizeLine_eq]; omega
    · rintro C j v s₄ m₄ R4 hj hv4 hns hm hk4 hR4
      rw [List.getElem?_toArray] at hv4
      rw [List.size_toArray, paired_len hp2] at hj
      obtain ⟨v', e3, p3⟩ := paired_get hp2 (pt_get hj)
      rw [e3] at hv4
      cases hv4
      have F4 := lF.keeps hk4
      have N4 := lN.grown hk4
      have hT : P2 s₄.heap (.ref TT) (sideAt ps i).1 (sideAt ps i).2 := P2.of (N4 _ (.head _)).1 rfl rfl
      clear lF lN
      (repeat' (first | (k_unfold; (try dsimp only)) | walk1 | (dsimp only; walk1) | (dsimp only; k_unfold; (try dsimp only))))
      refine Stop.out ?_
      refine c_cross (G.keeps F4.keep) (dlt 2 hd rfl) (dlt 11 hu rfl) hT (p3.keeps F4.keep) sb1 sb2 ?_
      intro t9 h9 tk9 k9
      exact hR4 _ _ _ ⟨_, _, p3, rfl⟩ k9
    intro D' h' tk ys vs9 hpl hD' hk hlen hP hF
    obtain ⟨yl, rfl⟩ : ∃ yl : List Value, ys = yl.toArray := ⟨ys.toList, by simp⟩
    obtain rfl := list_same hlen hP
    have h2 : IntsAre yl (rs.map (crs (sideAt ps i))) := paired_ints (Paired.mono' (fun c y _ h => by
      obtain ⟨v, p1, p, t2, p2, e3⟩ := h
      obtain ⟨e4, e5⟩ := p1.uniq p2
      exact ⟨t2, by rw [e3, show c = p from Prod.ext e4 e5]⟩) (paired_zip hp2 hF))
    have F4 := lF.keeps hk
    have N4 := lN.grown hk
    clear lF lN hlen hP hF hk hD'
    (repeat' (first | (k_unfold; (try dsimp only)) | walk1 | (dsimp only; walk1) | (dsimp only; k_unfold; (try dsimp only))))
    refine Stop.out ?_
    refine kso_min F4 N4 hpl.isList h2 (by rw [List.length_map]; exact h02) rfl ?_
    intro h9 M2 t9 tk9 F9 N9 M2m M2l
    clear F4 N4 hpl h2
    (repeat' (first | (k_unfold; (try dsimp only)) | walk1 | (dsimp only; walk1) | (dsimp only; k_unfold; (try dsimp only))))
    refine Stop.out ?_
    rename Fr _ _ _ _ => lF
    rename News _ _ _ _ => lN
    refine item_listR (IsList.kp hl lF.keep) (by omega) (by omega) j0 ?_
    (repeat' (first | (k_unfold; (try dsimp only)) | walk1 | (dsimp only; walk1) | (dsimp only; k_unfold; (try dsimp only))))
    refine Stop.out ?_
    refine c_cross (G.keeps lF.keep) (dlt 2 hd rfl) (dlt 11 hu rfl) (P2.of (lN _ (.head _)).1 rfl rfl : P2 _ _ (sideAt ps i).1 (sideAt ps i).2) (q1.keeps lF.keep) sb1 sb2 ?_
    intro t7 h7 tk7 k7
    have F7 := lF.keeps k7
    have N7 := lN.grown k7
    clear lF lN
    (repeat' (first | (k_unfold; (try dsimp only)) | walk1 | (dsimp only; walk1) | (dsimp only; k_unfold; (try dsimp only))))
    · rename_i hne
      exact absurd (he i hi9 M1 M2 ⟨M1m, M1l⟩ ⟨M2m, M2l⟩) hne
    · rename Fr _ _ _ _ => rF
      rename News _ _ _ _ => rN
      exact hR oC _ _ _ _ rF rN (.tail _ (.head _)) (List.forall_mem_cons.mpr ⟨.tail _ (.tail _ (.head _)), fun _ h => nomatch h⟩) ⟨rfl, rfl, rfl, trivial⟩ ⟨_, dC2⟩
  case fin =>
    clear lF lN hI hk hfp st hR
    rintro oc h tk u - F1 N1
    dsimp only at F1 N1 ⊢
    obtain ⟨v1, e1, p1⟩ := paired_get hp (pt_get (ps := ps) (i := ps.length - 1) (by omega))
    rw [hz] at p1
    obtain ⟨a1, t1, t2, n1, rfl, ha1⟩ := p1
    have hr1 : PySem.Reads s.heap (.ref a1) (.tuple [.int 0, .int 0]) [] := reads_tuple_at ha1 rfl rfl (.cons (.int _ _) (.cons (.int _ _) .nil))
    (repeat' (first | (k_unfold; (try dsimp only)) | walk1 | (dsimp only; walk1) | (dsimp only; k_unfold; (try dsimp only))))
    refine Stop.out ?_
    refine kde_neg (j := ps.length - 1) (IsList.kp hl F1.keep) (by decide) (by decide) (by rw [hv]; unfold seqIndex?; simp; omega) e1 ?_
    (repeat' (first | (k_unfold; (try dsimp only)) | walk1 | (dsimp only; walk1) | (dsimp only; k_unfold; (try dsimp only))))
    exact ret _ _ (Fr.keep (by assumption))
end

-- M29
/-- a float's place -/
noncomputable def fv (x : UInt64) : Nat := match Float64.decode x with | .fin false m e => m * 2 ^ (e + 1074).toNat | _ => 0
noncomputable def okF (x : UInt64) : Bool := match Float64.decode x with | .fin false _ e => decide (-1074 ≤ e) | _ => false
theorem okF_is {x : UInt64} (h : okF x = true) : ∃ m e, Float64.decode x = .fin false m e ∧ -1074 ≤ e := by
  unfold okF at h
  split at h
  · rename_i m e hd; exact ⟨m, e, hd, of_decide_eq_true h⟩
  · cases h
theorem cmp_scale (a b P : Nat) (hP : 0 < P) : compare ((a : Nat) : Int) ((b : Nat) : Int) = compare (a * P) (b * P) := by
  show compareOfLessAndEq _ _ = compareOfLessAndEq _ _
  unfold compareOfLessAndEq
  have h1 : (((a : Nat) : Int) < ((b : Nat) : Int)) = (a * P < b * P) := propext ⟨fun h => Nat.mul_lt_mul_of_pos_right (by omega) hP, fun h => by have := Nat.lt_of_mul_lt_mul_right h; omega⟩
  have h2 : (((a : Nat) : Int) = ((b : Nat) : Int)) = (a * P = b * P) := propext ⟨fun h => by rw [show a = b by omega], fun h => by have := Nat.eq_of_mul_eq_mul_right hP h; omega⟩
  simp only [h1, h2]
theorem cmp_fv {x y : UInt64} (hx : okF x = true) (hy : okF y = true) : Float64.cmp x y = some (compare (fv x) (fv y)) := by
  obtain ⟨m, e, hd, he⟩ := okF_is hx
  obtain ⟨k, f, hd2, hf⟩ := okF_is hy
  simp only [Float64.cmp, fv, hd, hd2, Float64.align, Float64.sgn, Bool.false_eq_true, if_false]
  have lo : 0 ≤ min e f + 1074 := by have := Int.le_min.mpr ⟨he, hf⟩; exact Int.add_le_add_right this 1074
  have e1 : (e + 1074).toNat = (e - min e f).toNat + (min e f + 1074).toNat := by rw [← Int.toNat_add (Int.sub_nonneg_of_le (Int.min_le_left e f)) lo, ← Int.add_assoc, Int.sub_add_cancel]
  have e2 : (f + 1074).toNat = (f - min e f).toNat + (min e f + 1074).toNat := by rw [← Int.toNat_add (Int.sub_nonneg_of_le (Int.min_le_right e f)) lo, ← Int.add_assoc, Int.sub_add_cancel]
  rw [e1, e2, Nat.pow_add, Nat.pow_add, ← Nat.mul_assoc, ← Nat.mul_assoc]
  exact congrArg some (cmp_scale _ _ _ (Nat.pow_pos (by decide)))
theorem lt_fv {x y : UInt64} (hx : okF x = true) (hy : okF y = true) : (Float64.cmp x y == some Ordering.lt) = decide (fv x < fv y) := by
  rw [cmp_fv hx hy, Bool.eq_iff_iff]
  simp [Nat.compare_eq_lt]
/-- the order of the floats that are no NaN and not below 0 -/
noncomputable def FK : KeyKind where
  α := Nat
  blt := fun a b => decide (a < b)
  irrefl := fun a => by simp
  trans := fun a b c h1 h2 => by have := of_decide_eq_true h1; have := of_decide_eq_true h2; exact decide_eq_true (by omega)
  negTrans := fun a b c h => by have := of_decide_eq_true h; rcases Nat.lt_or_ge a b with q | q; exact .inl (decide_eq_true q); exact .inr (decide_eq_true (by omega))
  total := fun a b h1 h2 => by have := of_decide_eq_false h1; have := of_decide_eq_false h2; omega
  keyOf := fun v => match v with | .float x _ => if okF x = true then some (fv x) else none | _ => none
  dflt := 0
theorem FK_one : FK.OneLt := by
  intro prog w A E s x y a b Q ha hb h
  cases x <;> simp only [FK, reduceCtorEq] at ha
  cases y <;> simp only [FK, reduceCtorEq] at hb
  rename_i x t y u
  split at ha
  · rename_i hx
    split at hb
    · rename_i hy
      cases ha; cases hb
      rw [oneLt'_eq]
      simp only [if_true]
      refine wpAny_bind (wpAny_cRoomFor_byValue rfl ?_)
      refine wpAny_bind (wpAny_callSpecialIfBound?_slot (typeIs_float s x t) PySem.F.slot_float_lt (wpAny_call_entry PySem.F.slot_float_lt (typeIs_float s x t) PySem.F.entry_float_lt ?_ (PySem.F.args_float_lt_2 _ _)))
      show wpAny _ _ (ret (.bool (Float64.cmp x y == some Ordering.lt))) _ _ s
      refine wpAny_pure ⟨_, rfl, ?_⟩
      rw [lt_fv hx hy]
      exact wpAny_truthy_bool h
    · cases hb
  · cases ha
/-- floats that stand in a list -/
noncomputable def Fls (ks : List UInt64) (ys : List Value) : Prop := Paired (fun k v => okF k = true ∧ ∃ t, v = Value.float k t) ks ys
theorem Fls.all {ks : List UInt64} {ys : List Value} (h : Fls ks ys) : ∀ v ∈ ys, ∃ k t, v = .float k t ∧ okF k = true := by
  unfold Fls at h
  induction h with
  | nil => intro v hv; cases hv
  | cons a _ ih =>
    intro v hv
    obtain ⟨ok, t, e⟩ := a
    rcases List.mem_cons.mp hv with rfl | hv
    · exact ⟨_, t, e, ok⟩
    · exact ih v hv
theorem mapM_const {α β : Type} {f : α → Sem β} {r : β} : ∀ {l : List α}, (∀ v ∈ l, f v = pure r) → l.mapM f = pure (l.map fun _ => r)
  | [], _ => rfl
  | v :: l, h => by
    rw [List.mapM_cons, h v (.head _), mapM_const fun u hu => h u (.tail _ hu)]
    simp
theorem keyKind_fls {v₁ v₂ : Value} {vs : List Value} (h : ∀ v ∈ v₁ :: v₂ :: vs, ∃ k t, v = .float k t ∧ okF k = true) : keyKind' (v₁ :: v₂ :: vs).toArray = pure oneType' := by
  rw [keyKind'_eq, List.mapM_toArray, mapM_const (r := none) (fun v hv => by obtain ⟨k, t, rfl, _⟩ := h v hv; rfl)]
  simp only [map_pure, pure_bind]
  rw [if_neg (by simp), if_neg (by simp)]
  rw [oneTypeOnly'_eq, List.mapM_toArray, mapM_const (r := Value.type "float") (fun v hv => by obtain ⟨k, t, rfl, _⟩ := h v hv; rfl)]
  simp only [map_pure, pure_bind]
  have hall : ((List.map (fun _ => Value.type "float") (v₁ :: v₂ :: vs)).toArray.all fun x => x == Value.type "float") = true := by
    simp only [List.all_toArray, List.all_map, List.all_eq_true]
    intro _ _
    rfl
  have h0 : (List.map (fun _ => Value.type "float") (v₁ :: v₂ :: vs)).toArray[0]? = some (Value.type "float") := by simp
  rw [h0]
  simp only [hall, if_true, pure_bind, Option.isSome_some]
/-- what such a sort gives back -/
noncomputable def FOut (ks : List UInt64) (vs out : List Value) : Prop := ∃ ps : List (UInt64 × Value), ps.Perm (ks.zip vs) ∧ out = ps.map Prod.snd ∧ ps.Pairwise (fun p q => fv p.1 ≤ fv q.1)
noncomputable def fOf : Value → UInt64
  | .float x _ => x
  | _ => 0
theorem Fls.len {ks : List UInt64} {ys : List Value} (h : Fls ks ys) : ys.length = ks.length := by
  unfold Fls at h
  induction h with
  | nil => rfl
  | cons _ _ ih => simp only [List.length_cons, ih]
theorem Fls.nums {ks : List UInt64} {ys : List Value} (h : Fls ks ys) : ys.map fOf = ks := by
  unfold Fls at h
  induction h with
  | nil => rfl
  | cons a _ ih => obtain ⟨_, t, rfl⟩ := a; rw [List.map_cons, ih]; rfl
theorem fls_keys {ks : List UInt64} {keys : Array Value} {vs : List Value} (hk : Fls ks keys.toList) : KeysOf FK (keys.zip vs.toArray) := by
  intro p hp
  rw [ksk_zip] at hp
  obtain ⟨k, t, e, ok⟩ := hk.all _ (List.of_mem_zip (a := p.1) (b := p.2) hp).1
  exact ⟨fv k, by rw [e]; show (if okF k = true then some (fv k) else none) = _; rw [if_pos ok]; rfl⟩
theorem fls_out {ks : List UInt64} {keys : Array Value} {vs : List Value} (hk : Fls ks keys.toList) {xs : Array Keyed} (hp : xs.Perm (keys.zip vs.toArray)) (hs : SortedToK FK xs xs.size) : FOut ks vs (xs.map (·.2)).toList := by
  have hl : xs.toList.Perm (keys.toList.zip vs) := by rw [← ksk_zip]; exact Array.perm_iff_toList_perm.mp hp
  have hz : (keys.toList.zip vs).map (fun p : Keyed => (fOf p.1, p.2)) = ks.zip vs := by
    rw [← hk.nums, List.zip_map_left]
    exact List.map_congr_left fun ⟨x, y⟩ _ => rfl
  refine ⟨xs.toList.map (fun p : Keyed => (fOf p.1, p.2)), ?_, ?_, ?_⟩
  · rw [← hz]; exact hl.map _
  · rw [Array.toList_map, List.map_map]; rfl
  · rw [List.pairwise_map, List.pairwise_iff_getElem]
    intro i j hi hj hij
    have hi' : i < xs.size := by simpa using hi
    have hj' : j < xs.size := by simpa using hj
    have q := hs i j (Nat.le_of_lt hij) hj'
    have key : ∀ n (hn : n < xs.size), KK FK xs n = fv (fOf xs[n].1) := fun n hn => by
      have hm : xs[n] ∈ keys.toList.zip vs := hl.mem_iff.mp (by rw [Array.mem_toList_iff]; exact Array.getElem_mem hn)
      obtain ⟨k, t, e, ok⟩ := hk.all _ (List.of_mem_zip (a := xs[n].1) (b := xs[n].2) hm).1
      unfold KK
      rw [getElem?_pos xs n hn]
      show (FK.keyOf xs[n].1).getD _ = _
      rw [e]
      show (if okF k = true then some (fv k) else none).getD _ = _
      rw [if_pos ok]
      rfl
    rw [key i hi', key j hj'] at q
    have q : decide (fv (fOf xs[j].1) < fv (fOf xs[i].1)) = false := q
    have := of_decide_eq_false q
    simpa using this
theorem upd_seq {h : Heap} {a : Addr} {its : Array Value} {n : Nat} (ho : h.get? a = some (seqObj "list" its n)) (f : Array Value → Array Value) : ∃ c, (h.update a (Obj.mapSeq f)).get? a = some (seqObj "list" (f its) c) := ⟨_, get?_update_seq ho f⟩
theorem upd_kp {g h : Heap} {a : Addr} (k : Kp g h) (hn : g.get? a = none) (f : Obj → Obj) : Kp g (h.update a f) := fun b o e => by
  rw [Heap.get?_update_ne _ _ _ _ (fun q => by subst q; rw [hn] at e; cases e)]
  exact k b o e
section
variable {prog : Program} {w : World} {A : Around} {E : Value → Shared → Prop} {s : Shared} {g : Heap} {a kS : Addr} {vs : List Value} {ks : List UInt64} {keys : Array Value} {e e1 : Nat} {P : PySem.Fin → Shared → Prop}
theorem fs_tail {st : SortSt} (K : Kp g s.heap) (gk : g.get? kS = none) (ga : g.get? a = none) (nk : s.heap.get? kS = some (seqObj "list" keys e)) (na : s.heap.get? a = some (seqObj "list" #[] e1)) (hka : kS ≠ a)
    (hk : Fls ks keys.toList) (hlen : ks.length = vs.length) (h64 : vs.length < 64) (hp : (arrOf st).Perm (keys.zip vs.toArray)) (hs : SortedToK FK (arrOf st) (arrOf st).size) (hfl : failedOf st = none)
    (h : ∀ h' tk out c, Kp g h' → h'.get? a = some (seqObj "list" out c) → FOut ks vs out.toList → P (.done (.ret .none)) { s with heap := h', toks := tk }) :
    wpAny (model prog w) A (ksk_tail a false e1 (.ref kS) st) P E s := by
  have hsz : keys.size = vs.length := by
    have h1 := hk.len
    rw [Array.length_toList] at h1
    omega
  have hsz2 : ((arrOf st).map (·.2)).size = vs.length := by rw [Array.size_map, hp.size_eq, Array.size_zip, hsz, List.size_toArray, Nat.min_self]
  have na1 : (s.heap.update kS (Obj.mapSeq fun _ => (#[] : Array Value))).get? a = some (seqObj "list" #[] e1) := by rw [Heap.get?_update_ne _ _ _ _ hka.symm]; exact na
  obtain ⟨c2, hc2⟩ := upd_seq na1 fun _ => (arrOf st).map (·.2)
  unfold ksk_tail
  try dsimp only
  refine wpAny_bind (listUpdate_at nk rfl ?_ (by rw [hsz, sizeLine_eq]; omega) (Nat.zero_le _))
  refine wpAny_bind (wpAny_letGo ?_)
  refine wpAny_bind (seqEpoch_at na1 rfl ?_)
  refine wpAny_bind (listUpdate_at na1 rfl ?_ (Nat.zero_le _) (Nat.le_trans (Nat.le_of_eq hsz2) (by rw [sizeLine_eq]; omega)))
  rw [hfl]
  simp only [bne_self_eq_false, Bool.false_eq_true, if_false]
  exact wpAny_pure (h _ _ _ c2 (upd_kp (upd_kp K gk _) ga _) hc2 (fls_out hk hp hs))
theorem fs_end (K : Kp g s.heap) (gk : g.get? kS = none) (ga : g.get? a = none) (nk : s.heap.get? kS = some (seqObj "list" keys e)) (na : s.heap.get? a = some (seqObj "list" #[] e1)) (hka : kS ≠ a)
    (hk : Fls ks keys.toList) (hlen : ks.length = vs.length) (h64 : vs.length < 64)
    (h : ∀ h' tk out c, Kp g h' → h'.get? a = some (seqObj "list" out c) → FOut ks vs out.toList → P (.done (.ret .none)) { s with heap := h', toks := tk }) :
    wpAny (model prog w) A (ksk_end a false vs.toArray e1 (.ref kS) keys) P E s := by
  have hsz : keys.size = vs.length := by
    have h1 := hk.len
    rw [Array.length_toList] at h1
    omega
  have hzs : (keys.zip vs.toArray).size = vs.length := by rw [Array.size_zip, hsz, List.size_toArray, Nat.min_self]
  unfold ksk_end
  dsimp only
  rw [if_neg Bool.false_ne_true]
  by_cases h2 : vs.toArray.size < 2
  · rw [if_pos h2, if_pos h2]
    refine wpAny_bind (wpAny_pure ?_)
    rw [StateT.run_pure]
    refine wpAny_bind (wpAny_pure ?_)
    try dsimp only
    refine fs_tail (st := SortSt.mk' general' (keys.zip vs.toArray) #[] 7 none) K gk ga nk na hka hk hlen h64 (Array.Perm.refl _) ?_ rfl h
    intro i j hij hj
    have hj2 : j < (keys.zip vs.toArray).size := hj
    rw [hzs] at hj2
    rw [List.size_toArray] at h2
    have : i = j := by omega
    subst this
    exact KeyOrd.kle_refl _
  · rw [if_neg h2, if_neg h2]
    rw [List.size_toArray] at h2
    have hkk : keyKind' keys = pure oneType' := by
      have ha := hk.all
      obtain ⟨v₁, v₂, rest, q⟩ : ∃ v₁ v₂ rest, keys.toList = v₁ :: v₂ :: rest := by
        have hl : 2 ≤ keys.toList.length := by rw [Array.length_toList]; omega
        match keys.toList, hl with
        | v₁ :: v₂ :: rest, _ => exact ⟨v₁, v₂, rest, rfl⟩
      rw [q] at ha
      rw [show keys = (v₁ :: v₂ :: rest).toArray by rw [← q, Array.toArray_toList]]
      exact keyKind_fls ha
    rw [hkk]
    refine wpAny_bind (wpAny_pure ?_)
    refine wpAny_bind (wpAny_mono (wpS_sortRunsK (κ := FK) FK_one (a₀ := keys.zip vs.toArray) (st := SortSt.mk' oneType' (keys.zip vs.toArray) #[] 7 none)
      (Q := fun _ st' => (arrOf st').Perm (keys.zip vs.toArray) ∧ failedOf st' = none ∧ SortedToK FK (arrOf st') (keys.zip vs.toArray).size)
      (fls_keys hk) ⟨Array.Perm.refl _, rfl, rfl, rfl⟩ (by rw [hzs]; omega) (by rw [hzs]; exact h64) fun st' a1 a2 a3 => ⟨a1, a2, a3⟩) ?_ fun _ _ e => e)
    rintro ⟨⟨⟩, st'⟩ s' ⟨rfl, hp, hf, hs⟩
    try dsimp only
    exact fs_tail K gk ga nk na hka hk hlen h64 hp (by rw [hp.size_eq]; exact hs) hf h
theorem fs_rest {f : Value} (K : Kp g s.heap) (gk : g.get? kS = none) (ga : g.get? a = none) (nk : s.heap.get? kS = some (seqObj "list" #[] 0)) (na : s.heap.get? a = some (seqObj "list" #[] e1)) (hka : kS ≠ a)
    (hlen : ks.length = vs.length) (h64 : vs.length < 64)
    (turn : ∀ (i : Nat) (v : Value) (k : UInt64), vs[i]? = some v → ks[i]? = some k → okF k = true ∧ ∀ (s₂ : Shared) (R : Value → Shared → Prop), Kp g s₂.heap → (∀ t h' tk', Kp s₂.heap h' → R (.float k t) { s₂ with heap := h', toks := tk' }) → wpAny (model prog w) A (call f [v]) R (fun _ _ => False) s₂)
    (h : ∀ h' tk out c, Kp g h' → h'.get? a = some (seqObj "list" out c) → FOut ks vs out.toList → P (.done (.ret .none)) { s with heap := h', toks := tk }) :
    wpAny (model prog w) A (ksk_rest a f false vs.toArray e1 (.ref kS)) P E s := by
  unfold ksk_rest
  refine wpAny_bind (wpAny_rule ?_)
  rw [List.forIn_toArray]
  refine wpAny_bind (ksk_fold (fun i s' => ∃ h' tk kA e, s' = { s with heap := h', toks := tk } ∧ Kp g h' ∧ h'.get? kS = some (seqObj "list" kA e) ∧ h'.get? a = some (seqObj "list" #[] e1) ∧ Fls (ks.take i) kA.toList) vs 0 s
    ⟨s.heap, s.toks, #[], 0, rfl, K, nk, na, by rw [List.take_zero]; exact Paired.nil⟩ ?step ?done)
  case step =>
    rintro j x s' hx ⟨h', tk, kA, e, rfl, K', nk, na, hk⟩
    simp only [Nat.zero_add] at hk ⊢
    have hj : j < vs.length := (List.getElem?_eq_some_iff.mp hx).1
    obtain ⟨k, hkj⟩ : ∃ k, ks[j]? = some k := ⟨_, List.getElem?_eq_getElem (by omega)⟩
    have hz : kA.size ≤ vs.length := by
      have h1 := hk.len
      rw [Array.length_toList, List.length_take] at h1
      omega
    obtain ⟨ok, tn⟩ := turn j x k hx hkj
    refine wpAny_bind (wpAny_attempt (wpAny_mono (tn { s with heap := h', toks := tk } (fun v s'' => ∃ t h2 tk2, v = .float k t ∧ s'' = { s with heap := h2, toks := tk2 } ∧ Kp h' h2) K' fun t h2 tk2 k2 => ⟨t, h2, tk2, rfl, rfl, k2⟩) (fun v s'' he => ?_) fun _ _ hF => hF.elim))
    obtain ⟨t2, h2, tk2, rfl, rfl, k2⟩ := he
    try dsimp only
    have nk2 := k2 _ _ nk
    have na2 := k2 _ _ na
    obtain ⟨c2, hc2⟩ := upd_seq nk2 (·.push (.float k t2))
    refine wpAny_bind (listUpdate_at nk2 rfl ?_ (by rw [sizeLine_eq]; omega) (Nat.le_trans (Nat.le_of_eq (Array.size_push ..)) (by rw [sizeLine_eq]; omega)))
    refine wpAny_pure ⟨rfl, _, _, kA.push (.float k t2), c2, rfl, upd_kp (Kp.trans K' k2) gk _, hc2, by rw [Heap.get?_update_ne _ _ _ _ hka.symm]; exact na2, ?_⟩
    rw [List.take_add_one, hkj, Array.toList_push]
    exact Paired.snoc hk ⟨ok, t2, rfl⟩
  case done =>
    rintro s' ⟨h', tk, kA, e, rfl, K', nk, na, hk⟩
    rw [List.take_of_length_le (by omega)] at hk
    try dsimp only
    refine wpAny_bind (listItems_at nk rfl ?_)
    exact fs_end (s := { s with heap := h', toks := tk }) K' gk ga nk na hka hk hlen h64 h
theorem fs_sort {f : Value} {n : Nat} (ho : s.heap.get? a = some (seqObj "list" vs.toArray n)) (K : Kp g s.heap) (ga : g.get? a = none) (hlen : ks.length = vs.length) (h64 : vs.length < 64)
    (turn : ∀ (i : Nat) (v : Value) (k : UInt64), vs[i]? = some v → ks[i]? = some k → okF k = true ∧ ∀ (s₂ : Shared) (R : Value → Shared → Prop), Kp g s₂.heap → (∀ t h' tk', Kp s₂.heap h' → R (.float k t) { s₂ with heap := h', toks := tk' }) → wpAny (model prog w) A (call f [v]) R (fun _ _ => False) s₂)
    (h : ∀ h' tk out c, Kp g h' → h'.get? a = some (seqObj "list" out c) → FOut ks vs out.toList → P (.done (.ret .none)) { s with heap := h', toks := tk }) :
    wpAny (model prog w) A (ksk_tree a f false) P E s := by
  have ha : a < s.heap.objs.size := Heap.lt_size ho
  obtain ⟨e1, ho1⟩ := upd_seq ho fun _ => (#[] : Array Value)
  have hkS : ((s.heap.update a (Obj.mapSeq fun _ => (#[] : Array Value))).push (seqObj "tuple" vs.toArray 0)).objs.size = s.heap.objs.size + 1 := by rw [size_push', Heap.size_update]
  unfold ksk_tree
  refine wpAny_bind (listItems_at ho rfl ?_)
  refine wpAny_bind (listUpdate_at ho rfl ?_ (by rw [List.size_toArray, sizeLine_eq]; omega) (Nat.zero_le _))
  refine wpAny_bind (seqEpoch_at ho1 rfl ?_)
  refine wpAny_bind (wpAny_newTuple ?_ (by show vs.length ≤ _; rw [sizeLine_eq]; omega))
  refine wpAny_bind (wpAny_newList ?_ (Nat.zero_le _))
  refine wpAny_holding ?_
  refine fs_rest (s := { s with heap := ((s.heap.update a (Obj.mapSeq fun _ => (#[] : Array Value))).push (seqObj "tuple" vs.toArray 0)).push (seqObj "list" #[] 0) }) (kS := ((s.heap.update a (Obj.mapSeq fun _ => (#[] : Array Value))).push (seqObj "tuple" vs.toArray 0)).objs.size)
    (fun b o q => Heap.get?_push_of_some _ (Heap.get?_push_of_some _ (upd_kp K ga _ b o q))) ?_ ga (Heap.get?_push_size _ rfl) (Heap.get?_push_of_some _ (Heap.get?_push_of_some _ ho1)) (by rw [hkS]; exact Nat.ne_of_gt (Nat.lt_succ_of_lt ha)) hlen h64 turn h
  rw [hkS]
  cases q : g.get? (s.heap.objs.size + 1) with
  | none => rfl
  | some o => exact absurd (Heap.lt_size (K _ _ q)) (Nat.not_lt.mpr (Nat.le_succ _))
/-- sorted by a key that tells floats -/
theorem sort_call {l f : Addr} {Q : Value → Shared → Prop} (hl : s.heap.IsList l vs.toArray) (hlen : ks.length = vs.length) (h64 : vs.length < 64)
    (turn : ∀ (i : Nat) (v : Value) (k : UInt64), vs[i]? = some v → ks[i]? = some k → okF k = true ∧ ∀ (s₂ : Shared) (R : Value → Shared → Prop), Kp s.heap s₂.heap → (∀ t h' tk', Kp s₂.heap h' → R (.float k t) { s₂ with heap := h', toks := tk' }) → wpAny (model prog w) A.in1.in1 (call (.ref f) [v]) R (fun _ _ => False) s₂)
    (h : ∀ D h' tk out c, Kp s.heap h' → s.heap.get? D = none → h'.get? D = some (seqObj "list" out c) → FOut ks vs out.toList → Q (.ref D) { s with heap := h', toks := tk }) :
    wpAny (model prog w) A (call (.builtin "sorted") [.ref l] [(Str.ofString "key", .ref f)]) Q E s := by
  refine call_function_entry_kw kind_sorted plain_sorted entry_sorted (ksk_s1 _ _) ?_
  unfold Builtin.«sorted»
  refine wpAny_bind (m := checkCount "sorted" 1 1 _) (wpAny_pure ?_)
  refine wpAny_bind (collect_list hl ?_ (by rw [sizeLine_eq]; omega))
  refine wpAny_bind (wpAny_newList ?_ (by rw [sizeLine_eq]; omega))
  have hsz : ((s.heap.push (seqObj "list" #[] 0)).update s.heap.objs.size (Obj.mapSeq (· ++ vs.toArray))).objs.size = s.heap.objs.size + 1 := by
    rw [Heap.size_update, size_push']
  have hoL : (((s.heap.push (seqObj "list" #[] 0)).update s.heap.objs.size (Obj.mapSeq (· ++ vs.toArray))).push (seqObj "list" vs.toArray 0)).get? (s.heap.objs.size + 1) = some (seqObj "list" vs.toArray 0) := by
    rw [← hsz]; exact Heap.get?_push_size _ rfl
  have keep : Kp s.heap (((s.heap.push (seqObj "list" #[] 0)).update s.heap.objs.size (Obj.mapSeq (· ++ vs.toArray))).push (seqObj "list" vs.toArray 0)) := fun b o q =>
    Heap.get?_push_of_some _ (upd_kp (fun b o q => Heap.get?_push_of_some _ q) get_size _ b o q)
  show wpAny _ _ _ _ _ { s with heap := ((s.heap.push (seqObj "list" #[] 0)).update s.heap.objs.size (Obj.mapSeq (· ++ vs.toArray))).push (seqObj "list" vs.toArray 0) }
  rw [hsz]
  have hn : s.heap.get? (s.heap.objs.size + 1) = none := by
    cases q : s.heap.get? (s.heap.objs.size + 1) with
    | none => rfl
    | some o => exact absurd (Heap.lt_size q) (Nat.not_lt.mpr (Nat.le_succ _))
  refine wpAny_bind (wpAny_holding (wpAny_call_entry_kw slot_list_sort ⟨_, hoL, rfl⟩ entry_list_sort ?body (ksk_l1 _ _)))
  case body =>
    show wpAny (model prog w) A.in1.in1 (Builtin.«list.sort» ⟨[.ref (s.heap.objs.size + 1)], [(Str.ofString "key", .ref f)]⟩) _ _ _
    rw [ksk_t1]
    refine fs_sort (g := s.heap) (s := { s with heap := ((s.heap.push (seqObj "list" #[] 0)).update s.heap.objs.size (Obj.mapSeq (· ++ vs.toArray))).push (seqObj "list" vs.toArray 0) })
      hoL keep hn hlen h64 turn fun h' tk out c K' ha' k' => ⟨_, rfl, ?_⟩
    exact wpAny_pure ⟨_, rfl, h _ h' tk out c K' hn ha' k'⟩
end
section
end

-- M30
theorem News.sub {h₀ h : Heap} {L : Addr} {a b : List (Addr × Obj)} (N : News h₀ L h a) (hs : ∀ p ∈ b, p ∈ a) : News h₀ L h b := fun p hp => N p (hs p hp)
theorem News.swap {h₀ h : Heap} {L : Addr} {a b c : List (Addr × Obj)} (N : News h₀ L h (a ++ (b ++ c))) : News h₀ L h (b ++ (a ++ c)) := News.sub N fun p hp => by
  simp only [List.mem_append] at hp ⊢
  rcases hp with q | q | q
  · exact .inr (.inl q)
  · exact .inl q
  · exact .inr (.inr q)
/-- off a machine -/
noncomputable def OffM (d pb at_ : Addr) (R : List (Addr × Obj)) : Prop := ∀ p ∈ R, p.1 ≠ d ∧ p.1 ≠ pb ∧ p.1 ≠ at_
/-- the word in front -/
noncomputable def headS : List Nat → Str
  | [] => Str.ofString ""
  | n :: _ => wordS n
section
variable {w : World} {loose : List Str} {mean : ExcName → Option Value} {mg mb : Str → Option Value} {dp un : Nat} {fr : Option (List Env)} {gd : Option (List Code)} {s : Shared} {Q E : Value → Shared → Prop}
theorem front_push {x : Str} {inst d pb at_ lam dr rd L : Addr} {imm R : List (Addr × Obj)} {K : MK} {n i : Nat} {u v : Tok} {g : Heap} {m : Str → Option Value} {y : Value} {ys : List Value}
    (M : Mac w loose mean mg mb x inst d pb at_ lam dr rd imm) (LI : Lies imm g) (G : Gnd w loose mean mg mb g) (ap : Apart d pb at_ imm) (hz : ys.length < 64)
    (F : Fr g L s.heap m) (N : News g L s.heap (mst K x d pb at_ lam ys n i u v ++ R)) (off : OffM d pb at_ R) (hd : dp + 3 < recursionLimit) (hu : un + 32 < cLine)
    (item : ∀ h' tk', Fr g L h' m → News g L h' (mst K x d pb at_ lam (ys ++ [y]) (n + 1) i u v ++ R) → Q .none { s with heap := h', toks := tk' }) :
    wpAny (model PySem.Challenge.rw_sn0008_01.row.prog w) (Ar dp un fr gd) (call (.ref 63) [.ref inst, y]) Q E s := by
  refine tok_push (rest := (at_, W.listOf #[.int (i : Int) v] 0) :: R) M LI G ap hz F N ?_ ?_ hd hu item
  · exact List.forall_mem_cons.mpr ⟨.head _, List.forall_mem_cons.mpr ⟨.tail _ (.head _), fun _ h => nomatch h⟩⟩
  · refine List.forall_mem_cons.mpr ⟨⟨.tail _ (.tail _ (.head _)), ?_⟩, fun p hp => ⟨.tail _ (.tail _ (.tail _ hp)), ?_⟩⟩
    · exact List.forall_mem_cons.mpr ⟨Ne.symm ap.2.1, List.forall_mem_cons.mpr ⟨Ne.symm ap.2.2.1, fun _ h => nomatch h⟩⟩
    · exact List.forall_mem_cons.mpr ⟨(off p hp).1, List.forall_mem_cons.mpr ⟨(off p hp).2.1, fun _ h => nomatch h⟩⟩
theorem front_next {x : Str} {inst d pb at_ lam dr rd L : Addr} {imm R : List (Addr × Obj)} {K : MK} {n : Nat} {u v : Tok} {g : Heap} {m : Str → Option Value} {ys : List Value} {l : List Nat}
    (M : Mac w loose mean mg mb x inst d pb at_ lam dr rd imm) (LI : Lies imm g) (G : Gnd w loose mean mg mb g) (ap : Apart d pb at_ imm) (hx : x.length ≤ 1000) (hl : Strs ys (l.map wordS)) (hz : l.length < 64)
    (F : Fr g L s.heap m) (N : News g L s.heap (mst K x d pb at_ lam ys n x.length u v ++ R)) (off : OffM d pb at_ R) (hd : dp + 3 < recursionLimit) (hu : un + 32 < cLine)
    (item : ∀ h' tk' t' ys' n' u' v', Strs ys' (l.tail.map wordS) → Fr g L h' m → News g L h' (mst K x d pb at_ lam ys' n' x.length u' v' ++ R) → Q (.str (headS l) t') { s with heap := h', toks := tk' }) :
    wpAny (model PySem.Challenge.rw_sn0008_01.row.prog w) (Ar dp un fr gd) (call (.ref 56) [.ref inst]) Q E s := by
  cases l with
  | nil =>
    cases ys with
    | cons y ys => cases hl
    | nil =>
    refine tok_read (rest := R) (r9 := []) (tok := []) (i := x.length) M LI G ap hx F N (fun _ h => List.mem_append_left _ h) (fun p hp => ⟨List.mem_append_right _ hp, ?_⟩) (Nat.le_refl _) ?_ hd hu ?_
    · exact List.forall_mem_cons.mpr ⟨(off p hp).1, List.forall_mem_cons.mpr ⟨(off p hp).2.1, List.forall_mem_cons.mpr ⟨(off p hp).2.2, fun _ h => nomatch h⟩⟩⟩
    · rw [List.drop_eq_nil_of_le (by simp [Str.length]), lexT]
    · intro h' tk' t' i' u' v' hi' hr' F' N'
      have e2 : i' = x.length := by
        rcases Nat.lt_or_ge i' x.length with q | q
        · obtain ⟨c, e3, _⟩ := sgn_at q
          rw [hr'] at e3; cases e3
        · omega
      subst e2
      have := item h' tk' t' [] n u' v' .nil F' N'
      rw [show headS [] = (⟨([] : List Nat).toArray⟩ : Str) by decide +kernel] at this
      exact this
  | cons a l =>
    cases hl with
    | cons e hl =>
    obtain ⟨t, rfl⟩ := e
    rename_i ys
    have hz2 : ys.length < 64 := by rw [Strs.len hl, List.length_map]; rw [List.length_cons] at hz; omega
    refine tok_pop (rest := (at_, W.listOf #[.int (x.length : Int) v] 0) :: R) M LI G ap hz2 F N ?_ ?_ hd hu fun h' tk' F' N' => item h' tk' t ys (n + 1) u v hl F' N'
    · exact List.forall_mem_cons.mpr ⟨.head _, List.forall_mem_cons.mpr ⟨.tail _ (.head _), fun _ h => nomatch h⟩⟩
    · refine List.forall_mem_cons.mpr ⟨⟨.tail _ (.tail _ (.head _)), ?_⟩, fun p hp => ⟨.tail _ (.tail _ (.tail _ hp)), ?_⟩⟩
      · exact List.forall_mem_cons.mpr ⟨Ne.symm ap.2.1, List.forall_mem_cons.mpr ⟨Ne.symm ap.2.2.1, fun _ h => nomatch h⟩⟩
      · exact List.forall_mem_cons.mpr ⟨(off p hp).1, List.forall_mem_cons.mpr ⟨(off p hp).2.1, fun _ h => nomatch h⟩⟩
end

-- M31
local macro_rules | `(tactic| walk_at "call builtin:sorted") => `(tactic| with_reducible refine st11 ?_)
theorem mst_all {K : MK} {x : Str} {d pb at_ lam : Addr} {ws ws' : List Value} {n n' i i' : Nat} {u u' v v' : Tok} {P : Addr → Prop} (h : ∀ p ∈ mst K x d pb at_ lam ws n i u v, P p.1) : ∀ p ∈ mst K x d pb at_ lam ws' n' i' u' v', P p.1 :=
  List.forall_mem_cons.mpr ⟨h (d, mdict K (lno x i) u lam pb) (.head _), List.forall_mem_cons.mpr ⟨h (pb, W.listOf ws.toArray n) (.tail _ (.head _)), List.forall_mem_cons.mpr ⟨h (at_, W.listOf #[.int (i : Int) v] 0) (.tail _ (.tail _ (.head _))), fun _ h => nomatch h⟩⟩⟩
theorem off_flip {K1 K2 : MK} {x1 x2 : Str} {d1 pb1 at1 lam1 d2 pb2 at2 lam2 : Addr} {ws1 ws2 : List Value} {n1 n2 i1 i2 : Nat} {u1 v1 u2 v2 : Tok} (h : OffM d1 pb1 at1 (mst K2 x2 d2 pb2 at2 lam2 ws2 n2 i2 u2 v2)) : OffM d2 pb2 at2 (mst K1 x1 d1 pb1 at1 lam1 ws1 n1 i1 u1 v1) := by
  have a := h _ (.head _)
  have b := h _ (.tail _ (.head _))
  have c := h _ (.tail _ (.tail _ (.head _)))
  exact List.forall_mem_cons.mpr ⟨⟨Ne.symm a.1, Ne.symm b.1, Ne.symm c.1⟩, List.forall_mem_cons.mpr ⟨⟨Ne.symm a.2.1, Ne.symm b.2.1, Ne.symm c.2.1⟩, List.forall_mem_cons.mpr ⟨⟨Ne.symm a.2.2, Ne.symm b.2.2, Ne.symm c.2.2⟩, fun _ h => nomatch h⟩⟩⟩
/-- a number whose word has a hue -/
structure HueOk (n : Nat) : Prop where
  lt : n < 4096
  pos : 0 < n
  mm : min (min (n / 256) (n / 16 % 16)) (n % 16) < max (max (n / 256) (n / 16 % 16)) (n % 16)
  ok : okF (hueN n) = true
noncomputable def hk (n : Nat) : Nat := fv (hueN n)
noncomputable def mergeN : List Nat → List Nat → List Nat
  | [], B => B
  | A, [] => A
  | a :: A, b :: B => if hk a ≤ hk b then a :: mergeN A (b :: B) else b :: mergeN (a :: A) B
termination_by A B => A.length + B.length
noncomputable def stepN (n : Nat) : Int × Int := ((n / 256 : Nat) - (n % 16 : Nat), (n / 16 % 16 : Nat) - (n % 16 : Nat))
noncomputable def spotsOf (p : Int × Int) : List (Int × Int) → List (Int × Int)
  | [] => [p]
  | v :: r => p :: spotsOf (p.1 + v.1, p.2 + v.2) r
theorem paired_perm {α β : Type} {F : α → β → Prop} {ys ys' : List β} (p : ys'.Perm ys) : ∀ {l : List α}, Paired F l ys → ∃ l', l'.Perm l ∧ Paired F l' ys' := by
  induction p with
  | nil => intro l h; exact ⟨l, .refl _, h⟩
  | cons y _ ih =>
    intro l h
    cases h with
    | cons a r => obtain ⟨l', p, q⟩ := ih r; exact ⟨_ :: l', p.cons _, .cons a q⟩
  | swap x y _ =>
    intro l h
    cases h with
    | cons a r => cases r with | cons b r => exact ⟨_, .swap _ _ _, .cons b (.cons a r)⟩
  | trans _ _ ih1 ih2 =>
    intro l h
    obtain ⟨l1, p1, q1⟩ := ih2 h
    obtain ⟨l2, p2, q2⟩ := ih1 q1
    exact ⟨l2, p2.trans p1, q2⟩
theorem paired_mapR {α β γ : Type} {F : α → γ → Prop} {f : β → γ} : ∀ {l : List α} {ys : List β}, Paired (fun a b => F a (f b)) l ys → Paired F l (ys.map f)
  | _, _, .nil => .nil
  | _, _, .cons h r => .cons h (paired_mapR r)
theorem zip_paired : ∀ {l : List Nat} {vs : List Value}, Strs vs (l.map wordS) → Paired (fun n (p : UInt64 × Value) => p.1 = hueN n ∧ ∃ t, p.2 = .str (wordS n) t) l ((l.map hueN).zip vs)
  | [], _, .nil => .nil
  | n :: l, _, .cons h r => .cons ⟨rfl, h⟩ (zip_paired r)
theorem pw_paired {l : List Nat} {ps : List (UInt64 × Value)} (h : Paired (fun n (p : UInt64 × Value) => p.1 = hueN n ∧ ∃ t, p.2 = .str (wordS n) t) l ps) (o : ps.Pairwise (fun p q => fv p.1 ≤ fv q.1)) : l.Pairwise (fun a b => hk a ≤ hk b) := by
  have e : ps.map Prod.fst = l.map hueN := by
    induction h with
    | nil => rfl
    | cons a _ ih => rw [List.map_cons, List.map_cons, ih (List.Pairwise.of_cons o), a.1]
  have o2 : (ps.map Prod.fst).Pairwise (fun a b => fv a ≤ fv b) := List.pairwise_map.mpr o
  rw [e] at o2
  have := List.pairwise_map.mp o2
  exact this
theorem word_at {l : List Nat} {vs : List Value} (h : Strs vs (l.map wordS)) {i : Nat} {v : Value} {k : UInt64} (hv : vs[i]? = some v) (hk : (l.map hueN)[i]? = some k) : ∃ n t, n ∈ l ∧ k = hueN n ∧ v = .str (wordS n) t := by
  rw [List.getElem?_map] at hk
  obtain ⟨n, e1, e2⟩ := Option.map_eq_some_iff.mp hk
  obtain ⟨y, e3, t, e4⟩ := paired_get h (i := i) (a := wordS n) (by rw [List.getElem?_map, e1]; rfl)
  rw [hv] at e3
  cases e3
  exact ⟨n, t, List.mem_of_getElem? e1, e2.symm, e4⟩
structure WSt where
  A : List Nat
  B : List Nat
  w1 : List Value
  k1 : Nat
  u1 : Tok
  v1 : Tok
  w2 : List Value
  k2 : Nat
  u2 : Tok
  v2 : Tok
  us : List Value
  m : Nat
  es : List (Addr × Obj)
  pr : List (Int × Int)
  lp : Int × Int
  t1 : Tok
  t2 : Tok
noncomputable def Led2 (es : List (Addr × Obj)) (us : List Value) (ps : List (Int × Int)) : Prop := Paired (fun p v => ∃ a t1 t2 k, v = Value.ref a ∧ (a, tup2 p.1 p.2 t1 t2 k) ∈ es) ps us
theorem Led2.more {es es' : List (Addr × Obj)} {us : List Value} {ls : List (Int × Int)} (x : Led2 es us ls) (hs : ∀ p ∈ es, p ∈ es') : Led2 es' us ls :=
  Paired.mono' (fun _ _ _ q => let ⟨a, t1, t2, k, e, hm⟩ := q; ⟨a, t1, t2, k, e, hs _ hm⟩) x
theorem Led2.pts {h : Heap} {es : List (Addr × Obj)} {us : List Value} {ls : List (Int × Int)} (x : Led2 es us ls) (N : ∀ p ∈ es, h.get? p.1 = some p.2) : Pts h us ls :=
  Paired.mono' (fun _ _ _ q => let ⟨a, t1, t2, k, e, hm⟩ := q; ⟨a, t1, t2, k, e, N _ hm⟩) x
theorem word_ne {n : Nat} (h : HueOk n) : (wordS n != Str.ofString "") = true := by
  have : wordS n ≠ Str.ofString "" := fun e => by
    have e2 : (wordS n).cps.toList = (Str.ofString "").cps.toList := by rw [e]
    rw [acc_nil] at e2
    have e3 : apL n = [] := by simpa [wordS] using e2
    have := h.pos
    unfold apL at e3
    split at e3
    · omega
    · split at e3
      · cases e3
      · split at e3 <;> cases e3
  simpa [bne] using this
theorem word_ne2 {n : Nat} (h : HueOk n) : (wordS n == Str.ofString "") = false := by
  have := word_ne h
  simpa [bne] using this
theorem led_last {es : List (Addr × Obj)} {us : List Value} {pr : List (Int × Int)} {lp : Int × Int} (h : Led2 es us (pr ++ [lp])) : ∃ a t1 t2 k, us[us.length - 1]? = some (Value.ref a) ∧ (a, tup2 lp.1 lp.2 t1 t2 k) ∈ es := by
  obtain ⟨y, e, a, t1, t2, k, rfl, hm⟩ := paired_get h (i := pr.length) (a := lp) (by simp)
  have hl := paired_len h
  rw [List.length_append, List.length_singleton] at hl
  exact ⟨a, t1, t2, k, by rw [hl]; exact e, hm⟩
theorem neg_idx {us : List Value} {v : Value} (h : us[us.length - 1]? = some v) : seqIndex? (-1) us.length = some (us.length - 1) := by
  have := (List.getElem?_eq_some_iff.mp h).1
  unfold seqIndex?
  simp
  omega
theorem hue_le {a b : Nat} (ha : HueOk a) (hb : HueOk b) (h : (Float64.cmp (hueN a) (hueN b) == some Ordering.lt || Float64.cmp (hueN a) (hueN b) == some Ordering.eq) = true) : hk a ≤ hk b := by
  rw [cmp_fv ha.ok hb.ok] at h
  unfold hk
  simp [Nat.compare_eq_lt] at h
  omega
theorem hue_gt {a b : Nat} (ha : HueOk a) (hb : HueOk b) (h : (Float64.cmp (hueN a) (hueN b) == some Ordering.lt || Float64.cmp (hueN a) (hueN b) == some Ordering.eq) = false) : ¬ hk a ≤ hk b := by
  rw [cmp_fv ha.ok hb.ok] at h
  unfold hk
  simp [Nat.compare_eq_lt] at h
  omega
theorem merge_nil (A : List Nat) : mergeN A [] = A := by cases A <;> simp [mergeN]
theorem nil_merge (B : List Nat) : mergeN [] B = B := by simp [mergeN]
/-- what the while keeps -/
structure WOk (SP d1 pb1 at1 d2 pb2 at2 : Addr) (A0 B0 : List Nat) (c : WSt) : Prop where
  s1 : Strs c.w1 (c.A.tail.map wordS)
  s2 : Strs c.w2 (c.B.tail.map wordS)
  a1 : ∀ n ∈ c.A, HueOk n
  a2 : ∀ n ∈ c.B, HueOk n
  len : c.us.length + c.A.length + c.B.length < 60
  eSP : ∀ p ∈ c.es, p.1 ≠ SP
  e1 : OffM d1 pb1 at1 c.es
  e2 : OffM d2 pb2 at2 c.es
  led : Led2 c.es c.us (c.pr ++ [c.lp])
  tot : c.pr ++ spotsOf c.lp ((mergeN c.A c.B).map stepN) = spotsOf (0, 0) ((mergeN A0 B0).map stepN)
/-- the words in their line -/
theorem sorted_words {l : List Nat} {vs out : List Value} (hs : Strs vs (l.map wordS)) (h : FOut (l.map hueN) vs out) : ∃ A : List Nat, A.Perm l ∧ Strs out (A.map wordS) ∧ A.Pairwise (fun a b => hk a ≤ hk b) := by
  obtain ⟨ps, hp, rfl, ho⟩ := h
  obtain ⟨A, pA, qA⟩ := paired_perm hp (zip_paired hs)
  exact ⟨A, pA, Paired.of_map (F := fun (x : Str) v => ∃ t, v = Value.str x t) (g := wordS) (paired_mapR (F := fun n v => ∃ t, v = Value.str (wordS n) t) (f := Prod.snd) (Paired.mono' (fun _ _ _ q => q.2) qA)), pw_paired qA ho⟩
theorem testV {M : Model} {A : Around} {E : Value → Shared → Prop} {s : Shared} {env : Env} {h₀ : Heap} {L : Addr} {test : Expr} {KT KF : Shared → Prop} (Led : List (Addr × Obj)) (ps : List (Str × Value)) (PT PF : Prop)
    (c : ∀ RT RF : Shared → Prop, (PT → ∀ h' tk' m' news', Fr h₀ L h' m' → News h₀ L h' news' → (∀ p ∈ Led, p ∈ news') → Has m' ps → RT { s with heap := h', toks := tk' }) → (PF → ∀ h' tk' m' news', Fr h₀ L h' m' → News h₀ L h' news' → (∀ p ∈ Led, p ∈ news') → Has m' ps → RF { s with heap := h', toks := tk' }) →
      wpAny M A (isTrue test env (eval test env)) (fun b s₂ => if b = true then RT s₂ else RF s₂) E s)
    (t : PT → ∀ u h tk, Fr h₀ L h (kstB u ps) → News h₀ L h Led → KT { s with heap := h, toks := tk })
    (f : PF → ∀ u h tk, Fr h₀ L h (kstB u ps) → News h₀ L h Led → KF { s with heap := h, toks := tk }) :
    wpAny M A (isTrue test env (eval test env)) (fun b s₂ => if b = true then KT s₂ else KF s₂) E s :=
  c KT KF (fun p h' tk' m' _ F N hn hk => t p m' h' tk' (fr_ps hk F) fun q hq => N q (hn q hq)) fun p h' tk' m' _ F N hn hk => f p m' h' tk' (fr_ps hk F) fun q hq => N q (hn q hq)
theorem joinV {σ : Type} {M : Model} {A : Around} {E : Value → Shared → Prop} {s : Shared} {env : Env} {h₀ : Heap} {L : Addr} {st : Stmt} {rest : List Stmt} {Q : Flow → Shared → Prop} (Led : σ → List (Addr × Obj)) (ps : σ → List (Str × Value)) (P : σ → Prop)
    (c : ∀ R : Flow → Shared → Prop, (∀ c h' tk' m' news', Fr h₀ L h' m' → News h₀ L h' news' → (∀ p ∈ Led c, p ∈ news') → Has m' (ps c) → P c → R .next { s with heap := h', toks := tk' }) → wpAny M A (exec st env) R E s)
    (t : ∀ c u h tk, P c → Fr h₀ L h (kstB u (ps c)) → News h₀ L h (Led c) → wpAny M A (execs rest env) Q E { s with heap := h, toks := tk }) :
    wpAny M A (execs (st :: rest) env) Q E s :=
  wpAny_execs_cons (c _ fun c h' tk' m' _ F N hn hk p => t c m' h' tk' p (fr_ps hk F) fun q hq => N q (hn q hq))
section
variable {w : World} {loose : List Str} {mean : ExcName → Option Value} {mg mb : Str → Option Value} {dp un : Nat} {fr : Option (List Env)} {gd : Option (List Code)} {s : Shared} {Q E : Value → Shared → Prop}
theorem c_walk {x1 : Str} {inst1 d1 pb1 at1 lam1 dr1 rd1 : Addr} {imm1 : List (Addr × Obj)} {K1 : MK} {n1 : Nat} {u1 v1 : Tok} {x2 : Str} {inst2 d2 pb2 at2 lam2 dr2 rd2 : Addr} {imm2 : List (Addr × Obj)} {K2 : MK} {n2 : Nat} {u2 v2 : Tok} {g : Heap} {W1 W2 : Addr} {ws1 ws2 : List Value} {l1 l2 : List Nat}
    (M1 : Mac w loose mean mg mb x1 inst1 d1 pb1 at1 lam1 dr1 rd1 imm1) (LI1 : Lies imm1 g) (ap1 : Apart d1 pb1 at1 imm1) (hx1 : x1.length ≤ 1000)
    (M2 : Mac w loose mean mg mb x2 inst2 d2 pb2 at2 lam2 dr2 rd2 imm2) (LI2 : Lies imm2 g) (ap2 : Apart d2 pb2 at2 imm2) (hx2 : x2.length ≤ 1000) (G : Gnd w loose mean mg mb g)
    (off : OffM d1 pb1 at1 (mst K2 x2 d2 pb2 at2 lam2 [] n2 x2.length u2 v2))
    (O : On g s.heap (mst K1 x1 d1 pb1 at1 lam1 [] n1 x1.length u1 v1 ++ (mst K2 x2 d2 pb2 at2 lam2 [] n2 x2.length u2 v2 ++ [])))
    (hw1 : g.IsList W1 ws1.toArray) (hs1 : Strs ws1 (l1.map wordS)) (hz1 : l1.length < 20) (ho1 : ∀ n ∈ l1, HueOk n) (hw2 : g.IsList W2 ws2.toArray) (hs2 : Strs ws2 (l2.map wordS)) (hz2 : l2.length < 20) (ho2 : ∀ n ∈ l2, HueOk n) (hd : dp + 6 < recursionLimit) (hu : un + 60 < cLine)
    (ret : ∀ h' tk' D us m es (A B : List Nat) n1' n2' u1' u2' v1' v2', A.Perm l1 → B.Perm l2 → A.Pairwise (fun a b => hk a ≤ hk b) → B.Pairwise (fun a b => hk a ≤ hk b) → On g h' (mst K1 x1 d1 pb1 at1 lam1 [] n1' x1.length u1' v1' ++ (mst K2 x2 d2 pb2 at2 lam2 [] n2' x2.length u2' v2' ++ ((D, W.listOf us.toArray m) :: es))) →
      OffM d1 pb1 at1 ((D, W.listOf us.toArray m) :: es) → OffM d2 pb2 at2 ((D, W.listOf us.toArray m) :: es) → Led2 es us (spotsOf (0, 0) ((mergeN A B).map stepN)) → Q (.ref D) { s with heap := h', toks := tk' }) :
    wpAny (model PySem.Challenge.rw_sn0008_01.row.prog w) (Ar dp un fr gd) (call (.ref 151) [.ref inst1, .ref W1, .ref inst2, .ref W2]) Q E s := by
  have X := G.X
  have T := G.T
  have m1 := LI1 _ M1.inst
  have m2 := LI2 _ M2.inst
  dsimp only at m1 m2
  revert X; k_fill; intro X
  ((refine' enterG ?k0 ?k1 ?k2 ?k6 ?k7 ?k8 ?k9 ?kB ?_ ?c2 ?c3 ?c4 ?c5; (case k0 => with_reducible assumption); (case k1 => with_reducible assumption); (case k2 => with_reducible assumption); (case k6 => k_is); (case k7 => k_is); (case k8 => exact dlt0 (by with_reducible assumption)); (case k9 => exact BindsTo.of_eq rfl); (case kB => exact locs rfl); (case c2 => exact rfl); (case c3 => exact rfl); (case c4 => exact rfl); (case c5 => decide)))
  intro L' h' tk' F' N' lt1
  dsimp only [mst, List.cons_append, List.nil_append, List.append_nil] at N' lt1
  k_lt lt1
  (repeat' (first | (k_unfold; (try dsimp only)) | walk1 | (dsimp only; walk1) | (dsimp only; k_unfold; (try dsimp only))))
  refine Stop.out ?_
  have off1 : OffM d1 pb1 at1 (mst K2 x2 d2 pb2 at2 lam2 [] n2 x2.length u2 v2) := off
  refine wpAny_For ?_
  (repeat' (first | (k_unfold; (try dsimp only)) | walk1 | (dsimp only; walk1) | (dsimp only; k_unfold; (try dsimp only))))
  refine Stop.out ?_
  rename Fr _ _ _ _ => lF
  rename News _ _ _ _ => lN
  refine sort_call (vs := ws1) (ks := l1.map hueN) (IsList.kp hw1 lF.keep) (by rw [List.length_map, hs1.len, List.length_map]) (by rw [hs1.len, List.length_map]; omega) ?_ ?_
  · intro i v k hv hkk
    obtain ⟨n, t, hn, rfl, rfl⟩ := word_at hs1 hv hkk
    have ok := ho1 n hn
    refine ⟨ok.ok, fun s₂ R hk2 hR2 => ?_⟩
    exact c_hue (G.keeps (Kp.trans lF.keep hk2)) (dlt 3 hd rfl) (dlt 21 hu rfl) ok.lt ok.mm hR2
  intro S1 h9 tk9 out1 c1 K9 hS hget hout
  obtain ⟨A1, pA1, sA1, oA1⟩ := sorted_words hs1 hout
  have F9 := lF.keeps K9
  have N9 : News g L' h9 ((S1, seqObj "list" out1 c1) :: (mst K1 x1 d1 pb1 at1 lam1 [] n1 x1.length u1 v1 ++ mst K2 x2 d2 pb2 at2 lam2 [] n2 x2.length u2 v2)) := add_news lF K9 lN hget hS
  have dS : ∀ p ∈ mst K1 x1 d1 pb1 at1 lam1 [] n1 x1.length u1 v1 ++ mst K2 x2 d2 pb2 at2 lam2 [] n2 x2.length u2 v2, p.1 ≠ S1 := fun p hp q => by have := (lN p hp).1; rw [q, hS] at this; cases this
  clear lF lN
  (repeat' (first | (k_unfold; (try dsimp only)) | walk1 | (dsimp only; walk1) | (dsimp only; k_unfold; (try dsimp only))))
  refine Stop.out ?_
  refine src_list (l := S1) (items := out1) rfl ⟨_, hget, rfl, _, rfl⟩ _ _ fun I1 fp St h W9 ho' hst0 st hfp hI hkI => ?_
  have hIL : L' ≠ I1 := fun e => by subst e; obtain ⟨o, _, _, e1, _⟩ := F9.ns; rw [show _ = none from hI] at e1; cases e1
  have hI0 : g.get? I1 = none := by
    cases e : g.get? I1 with
    | none => rfl
    | some o => have := F9.keep _ _ e; rw [show _ = none from hI] at this; cases this
  have nI : ∀ p ∈ (S1, seqObj "list" out1 c1) :: (mst K1 x1 d1 pb1 at1 lam1 [] n1 x1.length u1 v1 ++ mst K2 x2 d2 pb2 at2 lam2 [] n2 x2.length u2 v2), p.1 ≠ I1 := fun p hp q => by have := (N9 p hp).1; rw [q, show _ = none from hI] at this; cases this
  have hlen1 : out1.size < 20 := by
    have := sA1.len
    rw [List.length_map, pA1.length_eq, Array.length_toList] at this
    omega
  have offR : ∀ oI, OffM d1 pb1 at1 (mst K2 x2 d2 pb2 at2 lam2 [] n2 x2.length u2 v2 ++ [(S1, seqObj "list" out1 c1), (I1, oI)]) := fun oI p hp => by
    rcases List.mem_append.mp hp with hp | hp
    · exact off1 p hp
    · rcases List.mem_cons.mp hp with rfl | hp
      · exact ⟨Ne.symm (dS _ (.head _)), Ne.symm (dS _ (.tail _ (.head _))), Ne.symm (dS _ (.tail _ (.tail _ (.head _))))⟩
      · obtain rfl := List.mem_singleton.mp hp
        exact ⟨Ne.symm (nI _ (.tail _ (.head _))), Ne.symm (nI _ (.tail _ (.tail _ (.head _)))), Ne.symm (nI _ (.tail _ (.tail _ (.tail _ (.head _)))))⟩
  refine forW (σ := List Value × Nat) W9 (fun h => h.IsList S1 out1) ho' hst0 (fun _ c => mst K1 x1 d1 pb1 at1 lam1 c.1 c.2 x1.length u1 v1 ++ (mst K2 x2 d2 pb2 at2 lam2 [] n2 x2.length u2 v2 ++ [(S1, seqObj "list" out1 c1)])) (fun _ _ => [(Str.ofString "one", .ref inst1), (Str.ofString "words", .ref W1), (Str.ofString "other", .ref inst2), (Str.ofString "more", .ref W2)]) (fun i c => c.1 = out1.toList.take i) ([], n1)
    (F9.keeps hkI) (News.sub (N9.grown hkI) ?_) st hIL hI0 ?_ ?_ ⟨rfl, rfl, rfl, rfl, trivial⟩ rfl ?_ ?_
  · intro p hp
    rcases List.mem_append.mp hp with hp | hp
    · exact .tail _ (List.mem_append_left _ hp)
    · rcases List.mem_append.mp hp with hp | hp
      · exact .tail _ (List.mem_append_right _ hp)
      · obtain rfl := List.mem_singleton.mp hp
        exact .head _
  · intro i c _ p hp
    rcases List.mem_append.mp hp with hp | hp
    · exact mst_all (P := fun a => a ≠ I1) (fun p hp => nI p (.tail _ (List.mem_append_left _ hp))) p hp
    · rcases List.mem_append.mp hp with hp | hp
      · exact nI _ (.tail _ (List.mem_append_right _ hp))
      · obtain rfl := List.mem_singleton.mp hp
        exact nI _ (.head _)
  · intro i c h m F N
    exact ⟨_, (N _ (List.mem_append_right _ (List.mem_append_right _ (.head _)))).1, rfl, _, rfl⟩
  · clear F9 N9 hI hkI st hfp
    rintro i ⟨ws, n⟩ v u h tk oI R hi hv hws F1 N1 hR -
    dsimp only at hws
    have hz : ws.length < 64 := by rw [hws, List.length_take]; omega
    (repeat' (first | (k_unfold; (try dsimp only)) | walk1 | (dsimp only; walk1) | (dsimp only; k_unfold; (try dsimp only))))
    refine Stop.out ?_
    rename Fr _ _ _ _ => lF
    rename News _ _ _ _ => lN
    have N3 : News g L' _ (mst K1 x1 d1 pb1 at1 lam1 ws n x1.length u1 v1 ++ (mst K2 x2 d2 pb2 at2 lam2 [] n2 x2.length u2 v2 ++ [(S1, seqObj "list" out1 c1), (I1, oI)])) := News.sub lN (fun p hp => by
      rcases List.mem_append.mp hp with hp | hp
      · exact .tail _ (List.mem_append_left _ hp)
      · rcases List.mem_append.mp hp with hp | hp
        · exact .tail _ (List.mem_append_right _ (List.mem_append_left _ hp))
        · rcases List.mem_cons.mp hp with rfl | hp
          · exact .tail _ (List.mem_append_right _ (List.mem_append_right _ (.head _)))
          · obtain rfl := List.mem_singleton.mp hp
            exact .head _)
    refine front_push M1 LI1 G ap1 hz lF N3 (offR oI) (dlt 4 hd rfl) (dlt 35 hu rfl) ?_
    intro h9 tk9 F9 N9
    clear lF lN N3
    (repeat' (first | (k_unfold; (try dsimp only)) | walk1 | (dsimp only; walk1) | (dsimp only; k_unfold; (try dsimp only))))
    refine hR (ws ++ [v], n + 1) _ _ _ _ F9 N9 (List.mem_append_right _ (List.mem_append_right _ (.tail _ (.head _)))) ?_ ⟨rfl, rfl, rfl, rfl, trivial⟩ ?_
    · intro p hp
      rcases List.mem_append.mp hp with hp | hp
      · exact List.mem_append_left _ hp
      · rcases List.mem_append.mp hp with hp | hp
        · exact List.mem_append_right _ (List.mem_append_left _ hp)
        · obtain rfl := List.mem_singleton.mp hp
          exact List.mem_append_right _ (List.mem_append_right _ (.head _))
    · show ws ++ [v] = out1.toList.take (i + 1)
      rw [List.take_add_one, ← hws, Array.getElem?_toList, hv]
      rfl
  rintro ⟨w1, k1⟩ h tk u hws F1 N1
  dsimp only at hws F1 N1
  rw [List.take_of_length_le (by rw [Array.length_toList]; exact Nat.le_refl _)] at hws
  subst hws
  have N1 : News g L' _ (mst K1 x1 d1 pb1 at1 lam1 out1.toList k1 x1.length u1 v1 ++ (mst K2 x2 d2 pb2 at2 lam2 [] n2 x2.length u2 v2 ++ [])) := News.sub N1 (fun p hp => by
    rcases List.mem_append.mp hp with hp | hp
    · exact List.mem_append_left _ hp
    · rw [List.append_nil] at hp; exact List.mem_append_right _ (List.mem_append_left _ hp))
  clear nI dS offR hIL hI0 hget hout hS K9 hI hkI st hfp F9 N9
  have N1 := News.swap (a := mst K1 x1 d1 pb1 at1 lam1 out1.toList k1 x1.length u1 v1) (b := mst K2 x2 d2 pb2 at2 lam2 [] n2 x2.length u2 v2) (c := []) N1
  have off2 : OffM d2 pb2 at2 (mst K1 x1 d1 pb1 at1 lam1 out1.toList k1 x1.length u1 v1) := off_flip off
  (repeat' (first | (k_unfold; (try dsimp only)) | walk1 | (dsimp only; walk1) | (dsimp only; k_unfold; (try dsimp only))))
  refine Stop.out ?_
  refine wpAny_For ?_
  (repeat' (first | (k_unfold; (try dsimp only)) | walk1 | (dsimp only; walk1) | (dsimp only; k_unfold; (try dsimp only))))
  refine Stop.out ?_
  rename Fr _ _ _ _ => lF
  rename News _ _ _ _ => lN
  refine sort_call (vs := ws2) (ks := l2.map hueN) (IsList.kp hw2 lF.keep) (by rw [List.length_map, hs2.len, List.length_map]) (by rw [hs2.len, List.length_map]; omega) ?_ ?_
  · intro i v k hv hkk
    obtain ⟨n, t, hn, rfl, rfl⟩ := word_at hs2 hv hkk
    have ok := ho2 n hn
    refine ⟨ok.ok, fun s₂ R hk2 hR2 => ?_⟩
    exact c_hue (G.keeps (Kp.trans lF.keep hk2)) (dlt 3 hd rfl) (dlt 21 hu rfl) ok.lt ok.mm hR2
  intro S2 h9 tk9 out2 c2 K9 hS hget hout
  obtain ⟨A2, pA2, sA2, oA2⟩ := sorted_words hs2 hout
  have F9 := lF.keeps K9
  have N9 : News g L' h9 ((S2, seqObj "list" out2 c2) :: (mst K2 x2 d2 pb2 at2 lam2 [] n2 x2.length u2 v2 ++ mst K1 x1 d1 pb1 at1 lam1 out1.toList k1 x1.length u1 v1)) := add_news lF K9 lN hget hS
  have dS : ∀ p ∈ mst K2 x2 d2 pb2 at2 lam2 [] n2 x2.length u2 v2 ++ mst K1 x1 d1 pb1 at1 lam1 out1.toList k1 x1.length u1 v1, p.1 ≠ S2 := fun p hp q => by have := (lN p hp).1; rw [q, hS] at this; cases this
  clear lF lN
  (repeat' (first | (k_unfold; (try dsimp only)) | walk1 | (dsimp only; walk1) | (dsimp only; k_unfold; (try dsimp only))))
  refine Stop.out ?_
  refine src_list (l := S2) (items := out2) rfl ⟨_, hget, rfl, _, rfl⟩ _ _ fun I2 fp St h W9 ho' hst0 st hfp hI hkI => ?_
  have hIL : L' ≠ I2 := fun e => by subst e; obtain ⟨o, _, _, e1, _⟩ := F9.ns; rw [show _ = none from hI] at e1; cases e1
  have hI0 : g.get? I2 = none := by
    cases e : g.get? I2 with
    | none => rfl
    | some o => have := F9.keep _ _ e; rw [show _ = none from hI] at this; cases this
  have nI : ∀ p ∈ (S2, seqObj "list" out2 c2) :: (mst K2 x2 d2 pb2 at2 lam2 [] n2 x2.length u2 v2 ++ mst K1 x1 d1 pb1 at1 lam1 out1.toList k1 x1.length u1 v1), p.1 ≠ I2 := fun p hp q => by have := (N9 p hp).1; rw [q, show _ = none from hI] at this; cases this
  have hlen2 : out2.size < 20 := by
    have := sA2.len
    rw [List.length_map, pA2.length_eq, Array.length_toList] at this
    omega
  have offR : ∀ oI, OffM d2 pb2 at2 (mst K1 x1 d1 pb1 at1 lam1 out1.toList k1 x1.length u1 v1 ++ [(S2, seqObj "list" out2 c2), (I2, oI)]) := fun oI p hp => by
    rcases List.mem_append.mp hp with hp | hp
    · exact off2 p hp
    · rcases List.mem_cons.mp hp with rfl | hp
      · exact ⟨Ne.symm (dS _ (.head _)), Ne.symm (dS _ (.tail _ (.head _))), Ne.symm (dS _ (.tail _ (.tail _ (.head _))))⟩
      · obtain rfl := List.mem_singleton.mp hp
        exact ⟨Ne.symm (nI _ (.tail _ (.head _))), Ne.symm (nI _ (.tail _ (.tail _ (.head _)))), Ne.symm (nI _ (.tail _ (.tail _ (.tail _ (.head _)))))⟩
  refine forW (σ := List Value × Nat) W9 (fun h => h.IsList S2 out2) ho' hst0 (fun _ c => mst K2 x2 d2 pb2 at2 lam2 c.1 c.2 x2.length u2 v2 ++ (mst K1 x1 d1 pb1 at1 lam1 out1.toList k1 x1.length u1 v1 ++ [(S2, seqObj "list" out2 c2)])) (fun _ _ => [(Str.ofString "one", .ref inst1), (Str.ofString "words", .ref W1), (Str.ofString "other", .ref inst2), (Str.ofString "more", .ref W2)]) (fun i c => c.1 = out2.toList.take i) ([], n2)
    (F9.keeps hkI) (News.sub (N9.grown hkI) ?_) st hIL hI0 ?_ ?_ ⟨rfl, rfl, rfl, rfl, trivial⟩ rfl ?_ ?_
  · intro p hp
    rcases List.mem_append.mp hp with hp | hp
    · exact .tail _ (List.mem_append_left _ hp)
    · rcases List.mem_append.mp hp with hp | hp
      · exact .tail _ (List.mem_append_right _ hp)
      · obtain rfl := List.mem_singleton.mp hp
        exact .head _
  · intro i c _ p hp
    rcases List.mem_append.mp hp with hp | hp
    · exact mst_all (P := fun a => a ≠ I2) (fun p hp => nI p (.tail _ (List.mem_append_left _ hp))) p hp
    · rcases List.mem_append.mp hp with hp | hp
      · exact nI _ (.tail _ (List.mem_append_right _ hp))
      · obtain rfl := List.mem_singleton.mp hp
        exact nI _ (.head _)
  · intro i c h m F N
    exact ⟨_, (N _ (List.mem_append_right _ (List.mem_append_right _ (.head _)))).1, rfl, _, rfl⟩
  · clear F9 N9 hI hkI st hfp
    rintro i ⟨ws, n⟩ v u h tk oI R hi hv hws F1 N1 hR -
    dsimp only at hws
    have hz : ws.length < 64 := by rw [hws, List.length_take]; omega
    (repeat' (first | (k_unfold; (try dsimp only)) | walk1 | (dsimp only; walk1) | (dsimp only; k_unfold; (try dsimp only))))
    refine Stop.out ?_
    rename Fr _ _ _ _ => lF
    rename News _ _ _ _ => lN
    have N3 : News g L' _ (mst K2 x2 d2 pb2 at2 lam2 ws n x2.length u2 v2 ++ (mst K1 x1 d1 pb1 at1 lam1 out1.toList k1 x1.length u1 v1 ++ [(S2, seqObj "list" out2 c2), (I2, oI)])) := News.sub lN (fun p hp => by
      rcases List.mem_append.mp hp with hp | hp
      · exact .tail _ (List.mem_append_left _ hp)
      · rcases List.mem_append.mp hp with hp | hp
        · exact .tail _ (List.mem_append_right _ (List.mem_append_left _ hp))
        · rcases List.mem_cons.mp hp with rfl | hp
          · exact .tail _ (List.mem_append_right _ (List.mem_append_right _ (.head _)))
          · obtain rfl := List.mem_singleton.mp hp
            exact .head _)
    refine front_push M2 LI2 G ap2 hz lF N3 (offR oI) (dlt 4 hd rfl) (dlt 35 hu rfl) ?_
    intro h9 tk9 F9 N9
    clear lF lN N3
    (repeat' (first | (k_unfold; (try dsimp only)) | walk1 | (dsimp only; walk1) | (dsimp only; k_unfold; (try dsimp only))))
    refine hR (ws ++ [v], n + 1) _ _ _ _ F9 N9 (List.mem_append_right _ (List.mem_append_right _ (.tail _ (.head _)))) ?_ ⟨rfl, rfl, rfl, rfl, trivial⟩ ?_
    · intro p hp
      rcases List.mem_append.mp hp with hp | hp
      · exact List.mem_append_left _ hp
      · rcases List.mem_append.mp hp with hp | hp
        · exact List.mem_append_right _ (List.mem_append_left _ hp)
        · obtain rfl := List.mem_singleton.mp hp
          exact List.mem_append_right _ (List.mem_append_right _ (.head _))
    · show ws ++ [v] = out2.toList.take (i + 1)
      rw [List.take_add_one, ← hws, Array.getElem?_toList, hv]
      rfl
  rintro ⟨w2, k2⟩ h tk u hws F1 N1
  dsimp only at hws F1 N1
  rw [List.take_of_length_le (by rw [Array.length_toList]; exact Nat.le_refl _)] at hws
  subst hws
  have N1 : News g L' _ (mst K2 x2 d2 pb2 at2 lam2 out2.toList k2 x2.length u2 v2 ++ (mst K1 x1 d1 pb1 at1 lam1 out1.toList k1 x1.length u1 v1 ++ [])) := News.sub N1 (fun p hp => by
    rcases List.mem_append.mp hp with hp | hp
    · exact List.mem_append_left _ hp
    · rw [List.append_nil] at hp; exact List.mem_append_right _ (List.mem_append_left _ hp))
  clear nI dS offR hIL hI0 hget hout hS K9 hI hkI st hfp F9 N9
  have N1 : News g L' h (mst K1 x1 d1 pb1 at1 lam1 out1.toList k1 x1.length u1 v1 ++ (mst K2 x2 d2 pb2 at2 lam2 out2.toList k2 x2.length u2 v2 ++ [])) := News.sub N1 (by kcf_all)
  have off1 : ∀ ws n u v, OffM d1 pb1 at1 (mst K2 x2 d2 pb2 at2 lam2 ws n x2.length u v ++ []) := fun ws n u v p hp => mst_all (P := fun a => a ≠ d1 ∧ a ≠ pb1 ∧ a ≠ at1) off p (by rw [List.append_nil] at hp; exact hp)
  have off2 : ∀ ws n u v, OffM d2 pb2 at2 (mst K1 x1 d1 pb1 at1 lam1 ws n x1.length u v ++ []) := fun ws n u v p hp => mst_all (P := fun a => a ≠ d2 ∧ a ≠ pb2 ∧ a ≠ at2) (off_flip off : OffM d2 pb2 at2 (mst K1 x1 d1 pb1 at1 lam1 [] 0 0 u1 v1)) p (by rw [List.append_nil] at hp; exact hp)
  have zA : A1.length < 20 := by rw [pA1.length_eq]; exact hz1
  have zB : A2.length < 20 := by rw [pA2.length_eq]; exact hz2
  (repeat' (first | (k_unfold; (try dsimp only)) | walk1 | (dsimp only; walk1) | (dsimp only; k_unfold; (try dsimp only))))
  refine Stop.out ?_
  refine front_next M1 LI1 G ap1 hx1 sA1 (by omega) F1 N1 (off1 _ _ _ _) (dlt 4 hd rfl) (dlt 35 hu rfl) ?_
  intro h9 tk9 t1 y1 j1 u1' v1' sB1 F9 N9
  have N9 := News.swap (a := mst K1 x1 d1 pb1 at1 lam1 y1 j1 x1.length u1' v1') (b := mst K2 x2 d2 pb2 at2 lam2 out2.toList k2 x2.length u2 v2) (c := []) N9
  clear F1 N1
  (repeat' (first | (k_unfold; (try dsimp only)) | walk1 | (dsimp only; walk1) | (dsimp only; k_unfold; (try dsimp only))))
  refine Stop.out ?_
  rename Fr _ _ _ _ => lF
  rename News _ _ _ _ => lN
  refine front_next M2 LI2 G ap2 hx2 sA2 (by omega) lF lN (off2 _ _ _ _) (dlt 4 hd rfl) (dlt 35 hu rfl) ?_
  intro h8 tk8 t2 y2 j2 u2' v2' sB2 F8 N8
  have N8 : News g L' h8 (mst K1 x1 d1 pb1 at1 lam1 y1 j1 x1.length u1' v1' ++ (mst K2 x2 d2 pb2 at2 lam2 y2 j2 x2.length u2' v2')) := News.sub N8 (by kcf_all)
  dsimp only [mst, List.cons_append, List.nil_append, List.append_nil] at N8
  clear lF lN
  (repeat' (first | (k_unfold; (try dsimp only)) | walk1 | (dsimp only; walk1) | (dsimp only; k_unfold; (try dsimp only))))
  refine Stop.out ?_
  rename Fr _ _ _ _ => lF
  rename News _ _ _ _ => lN
  rename_i T0 hq1 lt2 SP hq2 lt3 hq3
  obtain ⟨ta, tb, lN⟩ : ∃ ta tb, News g L' hq3 ((SP, W.listOf [.ref T0].toArray 0) :: (T0, tup2 0 0 ta tb 0) :: (mst K1 x1 d1 pb1 at1 lam1 y1 j1 x1.length u1' v1' ++ mst K2 x2 d2 pb2 at2 lam2 y2 j2 x2.length u2' v2')) := ⟨_, _, lN⟩
  have nS : ∀ {a : Addr}, a < SP → @Ne Nat SP a ∧ @Ne Nat a SP := fun h => ⟨Nat.ne_of_gt h, Nat.ne_of_lt h⟩
  obtain ⟨z1, z1'⟩ := nS lt3.2.1
  obtain ⟨z2, z2'⟩ := nS lt3.2.2.1
  obtain ⟨z3, z3'⟩ := nS lt3.2.2.2.1
  obtain ⟨z4, z4'⟩ := nS lt3.2.2.2.2.1
  obtain ⟨z5, z5'⟩ := nS lt3.2.2.2.2.2.1
  obtain ⟨z6, z6'⟩ := nS lt3.2.2.2.2.2.2
  refine whileV (σ := WSt) (fun c => (SP, W.listOf c.us.toArray c.m) :: (mst K1 x1 d1 pb1 at1 lam1 c.w1 c.k1 x1.length c.u1 c.v1 ++ (mst K2 x2 d2 pb2 at2 lam2 c.w2 c.k2 x2.length c.u2 c.v2 ++ c.es)))
    (fun c => [(Str.ofString "one", .ref inst1), (Str.ofString "other", .ref inst2), (Str.ofString "here", .str (headS c.A) c.t1), (Str.ofString "there", .str (headS c.B) c.t2), (Str.ofString "spots", .ref SP)])
    (WOk SP d1 pb1 at1 d2 pb2 at2 A1 A2) (fun c => c.A.length + c.B.length) ⟨A1, A2, y1, j1, u1', v1', y2, j2, u2', v2', [.ref T0], 0, [(T0, tup2 0 0 ta tb 0)], [], (0, 0), t1, t2⟩ lF (News.sub lN (by dsimp only; kcf_all)) ⟨rfl, rfl, rfl, rfl, rfl, trivial⟩ ?_ ?_
  · refine ⟨sB1, sB2, fun n hn => ho1 n (pA1.mem_iff.mp hn), fun n hn => ho2 n (pA2.mem_iff.mp hn), ?_, ?_, ?_, ?_, ?_, rfl⟩
    · show 1 + A1.length + A2.length < 60; omega
    · exact List.forall_mem_cons.mpr ⟨Nat.ne_of_lt lt3.1, fun _ h => nomatch h⟩
    · exact List.forall_mem_cons.mpr ⟨⟨Nat.ne_of_gt lt2.1, Nat.ne_of_gt lt2.2.1, Nat.ne_of_gt lt2.2.2.1⟩, fun _ h => nomatch h⟩
    · exact List.forall_mem_cons.mpr ⟨⟨Nat.ne_of_gt lt2.2.2.2.1, Nat.ne_of_gt lt2.2.2.2.2.1, Nat.ne_of_gt lt2.2.2.2.2.2⟩, fun _ h => nomatch h⟩
    · exact .cons ⟨T0, ta, tb, 0, rfl, .head _⟩ .nil
  clear lF lN sB1 sB2 hw1 hw2 hs1 hs2 ho1 ho2 lt2 lt3
  rintro ⟨A, B, w1, k1, u1, v1, w2, k2, u2, v2, us, m, es, pr, lp, t1, t2⟩ u h tk R X ⟨s1, s2, a1, a2, len, eSP, e1, e2, led, tot⟩ F N hR hX
  dsimp only at s1 s2 a1 a2 len eSP e1 e2 led tot F N
  have hz9 : us.length < 64 := by omega
  refine testV (h₀ := g) (L := L') ((SP, W.listOf us.toArray m) :: (mst K1 x1 d1 pb1 at1 lam1 w1 k1 x1.length u1 v1 ++ (mst K2 x2 d2 pb2 at2 lam2 w2 k2 x2.length u2 v2 ++ es)))
    [(Str.ofString "one", .ref inst1), (Str.ofString "other", .ref inst2), (Str.ofString "here", .str (headS A) t1), (Str.ofString "there", .str (headS B) t2), (Str.ofString "spots", .ref SP)] (¬ (A = [] ∧ B = [])) (A = [] ∧ B = []) ?_ ?_ ?_
  · intro RT RF hT hF
    dsimp only [mst, List.cons_append, List.nil_append] at N
    clear hR hX tot led e1 e2 eSP len s1 s2 ret
    cases A with
    | nil =>
      cases B with
      | nil =>
        (repeat' (first | (k_unfold; (try dsimp only)) | walk1 | (dsimp only; walk1) | (dsimp only; k_unfold; (try dsimp only))))
        rename Fr _ _ _ _ => rF
        rename News _ _ _ _ => rN
        exact hF ⟨rfl, rfl⟩ _ _ _ _ rF rN (fun _ h => h) ⟨rfl, rfl, rfl, rfl, rfl, trivial⟩
      | cons b B =>
        have wb := word_ne (a2 b (.head _))
        dsimp only [headS] at F
        (repeat' (first | (k_unfold; (try dsimp only)) | walk1 | (dsimp only; walk1) | (dsimp only; k_unfold; (try dsimp only))))
        rename Fr _ _ _ _ => rF
        rename News _ _ _ _ => rN
        exact hT (fun e => nomatch e.2) _ _ _ _ rF rN (fun _ h => h) ⟨rfl, rfl, rfl, rfl, rfl, trivial⟩
    | cons a A =>
      have wa := word_ne (a1 a (.head _))
      dsimp only [headS] at F
      (repeat' (first | (k_unfold; (try dsimp only)) | walk1 | (dsimp only; walk1) | (dsimp only; k_unfold; (try dsimp only))))
      rename Fr _ _ _ _ => rF
      rename News _ _ _ _ => rN
      exact hT (fun e => nomatch e.1) _ _ _ _ rF rN (fun _ h => h) ⟨rfl, rfl, rfl, rfl, rfl, trivial⟩
  · clear F N
    intro hne u h tk F N
    refine joinV (σ := WSt × Nat × Addr × Tok × Tok × Nat) (h₀ := g) (L := L') (fun q => (SP, W.listOf us.toArray m) :: (q.2.2.1, tup2 (stepN q.2.1).1 (stepN q.2.1).2 q.2.2.2.1 q.2.2.2.2.1 q.2.2.2.2.2) :: (mst K1 x1 d1 pb1 at1 lam1 q.1.w1 q.1.k1 x1.length q.1.u1 q.1.v1 ++ (mst K2 x2 d2 pb2 at2 lam2 q.1.w2 q.1.k2 x2.length q.1.u2 q.1.v2 ++ es)))
      (fun q => [(Str.ofString "one", .ref inst1), (Str.ofString "other", .ref inst2), (Str.ofString "here", .str (headS q.1.A) q.1.t1), (Str.ofString "there", .str (headS q.1.B) q.1.t2), (Str.ofString "spots", .ref SP), (Str.ofString "step", .ref q.2.2.1)])
      (fun q => Strs q.1.w1 (q.1.A.tail.map wordS) ∧ Strs q.1.w2 (q.1.B.tail.map wordS) ∧ (∀ n ∈ q.1.A, HueOk n) ∧ (∀ n ∈ q.1.B, HueOk n) ∧ q.1.A.length + q.1.B.length < A.length + B.length ∧ (@Ne Nat SP q.2.2.1) ∧ mergeN A B = q.2.1 :: mergeN q.1.A q.1.B) ?_ ?_
    · intro R9 hJ
      clear hR hX ret tot led
      refine wpAny_If ?_
      refine testV (h₀ := g) (L := L') ((SP, W.listOf us.toArray m) :: (mst K1 x1 d1 pb1 at1 lam1 w1 k1 x1.length u1 v1 ++ (mst K2 x2 d2 pb2 at2 lam2 w2 k2 x2.length u2 v2 ++ es))) [(Str.ofString "one", .ref inst1), (Str.ofString "other", .ref inst2), (Str.ofString "here", .str (headS A) t1), (Str.ofString "there", .str (headS B) t2), (Str.ofString "spots", .ref SP)] (∃ a A', A = a :: A' ∧ mergeN A B = a :: mergeN A' B) (∃ b B', B = b :: B' ∧ mergeN A B = b :: mergeN A B') ?_ ?_ ?_
      · intro RT RF hT hF
        clear hJ e1 e2 eSP len s1 s2
        dsimp only [mst, List.cons_append, List.nil_append] at N
        cases B with
        | nil =>
          cases A with
          | nil => exact (hne ⟨rfl, rfl⟩).elim
          | cons a A =>
            (repeat' (first | (k_unfold; (try dsimp only)) | walk1 | (dsimp only; walk1) | (dsimp only; k_unfold; (try dsimp only))))
            rename Fr _ _ _ _ => rF
            rename News _ _ _ _ => rN
            exact hT ⟨a, A, rfl, by rw [merge_nil, merge_nil]⟩ _ _ _ _ rF rN (fun _ h => h) ⟨rfl, rfl, rfl, rfl, rfl, trivial⟩
        | cons b B =>
          have wb := word_ne2 (a2 b (.head _))
          cases A with
          | nil =>
            dsimp only [headS] at F
            (repeat' (first | (k_unfold; (try dsimp only)) | walk1 | (dsimp only; walk1) | (dsimp only; k_unfold; (try dsimp only))))
            rename Fr _ _ _ _ => rF
            rename News _ _ _ _ => rN
            exact hF ⟨b, B, rfl, by rw [nil_merge, nil_merge]⟩ _ _ _ _ rF rN (fun _ h => h) ⟨rfl, rfl, rfl, rfl, rfl, trivial⟩
          | cons a A =>
            have wa := word_ne (a1 a (.head _))
            dsimp only [headS] at F
            (repeat' (first | (k_unfold; (try dsimp only)) | walk1 | (dsimp only; walk1) | (dsimp only; k_unfold; (try dsimp only))))
            refine Stop.out ?_
            rename Fr _ _ _ _ => lF
            rename News _ _ _ _ => lN
            refine c_hue (G.keeps lF.keep) (dlt 3 hd rfl) (dlt 19 hu rfl) (a1 a (.head _)).lt (a1 a (.head _)).mm ?_
            intro th1 h9 tk9 kp
            have F9 := lF.keeps kp
            have N9 := lN.grown kp
            clear lF lN
            (repeat' (first | (k_unfold; (try dsimp only)) | walk1 | (dsimp only; walk1) | (dsimp only; k_unfold; (try dsimp only))))
            refine Stop.out ?_
            refine c_hue (G.keeps F9.keep) (dlt 3 hd rfl) (dlt 19 hu rfl) (a2 b (.head _)).lt (a2 b (.head _)).mm ?_
            intro th2 h8 tk8 kp8
            have F8 := F9.keeps kp8
            have N8 := N9.grown kp8
            clear F9 N9
            (repeat' (first | (k_unfold; (try dsimp only)) | walk1 | (dsimp only; walk1) | (dsimp only; k_unfold; (try dsimp only))))
            · rename_i hc
              exact hT ⟨a, A, rfl, by rw [mergeN, if_pos (hue_le (a1 a (.head _)) (a2 b (.head _)) hc)]⟩ _ _ _ _ F8 N8 (fun _ h => h) ⟨rfl, rfl, rfl, rfl, rfl, trivial⟩
            · rename_i hc
              exact hF ⟨b, B, rfl, by rw [mergeN, if_neg (hue_gt (a1 a (.head _)) (a2 b (.head _)) hc)]⟩ _ _ _ _ F8 N8 (fun _ h => h) ⟨rfl, rfl, rfl, rfl, rfl, trivial⟩
      · clear F N hne
        rintro ⟨a, A, rfl, hm⟩ u h tk F N
        dsimp only [headS] at F
        dsimp only [mst, List.cons_append, List.nil_append] at N
        (repeat' (first | (k_unfold; (try dsimp only)) | walk1 | (dsimp only; walk1) | (dsimp only; k_unfold; (try dsimp only))))
        refine Stop.out ?_
        rename Fr _ _ _ _ => lF
        rename News _ _ _ _ => lN
        refine c_light (G.keeps lF.keep) (dlt 2 hd rfl) (dlt 11 hu rfl) (a1 _ (.head _)).lt ?_
        intro v' h9 tk9 kp hp
        obtain ⟨q, r1, r2, r3, c, rfl, ha, hna⟩ := hp
        have F9 := lF.keeps kp
        have hp3 : P3 h9 (.ref q) ((a / 256 : Nat) : Int) ((a / 16 % 16 : Nat) : Int) ((a % 16 : Nat) : Int) := ⟨q, r1, r2, r3, c, rfl, ha⟩
        have N9 : News g L' h9 ((SP, W.listOf us.toArray m) :: (mst K1 x1 d1 pb1 at1 lam1 w1 k1 x1.length u1 v1 ++ (mst K2 x2 d2 pb2 at2 lam2 w2 k2 x2.length u2 v2 ++ es))) := lN.grown kp
        clear lF lN
        (repeat' (first | (k_unfold; (try dsimp only)) | walk1 | (dsimp only; walk1) | (dsimp only; k_unfold; (try dsimp only))))
        refine Stop.out ?_
        refine c_step (G.keeps F9.keep) (dlt 2 hd rfl) (dlt 11 hu rfl) hp3 ?_
        intro v' h8 tk8 kp8 hp8
        obtain ⟨st, r4, r5, c2, rfl, ha8, hna8⟩ := hp8
        have F8 := F9.keeps kp8
        have N8 := add_news F9 kp8 N9 ha8 hna8
        have dst : ∀ p ∈ (SP, W.listOf us.toArray m) :: (mst K1 x1 d1 pb1 at1 lam1 w1 k1 x1.length u1 v1 ++ (mst K2 x2 d2 pb2 at2 lam2 w2 k2 x2.length u2 v2 ++ es)), p.1 ≠ st := fun p hp q => by have := (N9 p hp).1; rw [q, hna8] at this; cases this
        clear F9 N9
        (repeat' (first | (k_unfold; (try dsimp only)) | walk1 | (dsimp only; walk1) | (dsimp only; k_unfold; (try dsimp only))))
        refine Stop.out ?_
        rename Fr _ _ _ _ => lF
        rename News _ _ _ _ => lN
        have N7 : News g L' _ (mst K1 x1 d1 pb1 at1 lam1 w1 k1 x1.length u1 v1 ++ (mst K2 x2 d2 pb2 at2 lam2 w2 k2 x2.length u2 v2 ++ ((SP, W.listOf us.toArray m) :: (st, tup2 _ _ r4 r5 c2) :: es))) := News.sub lN (by kcf_all)
        refine front_next M1 LI1 G ap1 hx1 s1 (by simp only [List.length_cons] at len; show A.length < 64; omega) lF N7 ?_ (dlt 4 hd rfl) (dlt 35 hu rfl) ?_
        · intro p hp
          rcases List.mem_append.mp hp with hp | hp
          · exact off1 w2 k2 u2 v2 p (List.mem_append_left _ hp)
          · rcases List.mem_cons.mp hp with rfl | hp
            · exact ⟨z1, z2, z3⟩
            · rcases List.mem_cons.mp hp with rfl | hp
              · exact ⟨Ne.symm (dst (d1, mdict K1 (lno x1 x1.length) u1 lam1 pb1) (.tail _ (List.mem_append_left _ (.head _)))), Ne.symm (dst (pb1, W.listOf w1.toArray k1) (.tail _ (List.mem_append_left _ (.tail _ (.head _))))), Ne.symm (dst (at1, W.listOf #[.int (x1.length : Int) v1] 0) (.tail _ (List.mem_append_left _ (.tail _ (.tail _ (.head _))))))⟩
              · exact e1 p hp
        intro h7 tk7 tn y' j' un' vn' sn F7 N6
        (repeat' (first | (k_unfold; (try dsimp only)) | walk1 | (dsimp only; walk1) | (dsimp only; k_unfold; (try dsimp only))))
        rename Fr _ _ _ _ => rF
        rename News _ _ _ _ => rN
        exact hJ ⟨⟨A, B, y', j', un', vn', w2, k2, u2, v2, us, m, es, pr, lp, tn, t2⟩, a, st, r4, r5, c2⟩ _ _ _ _ rF rN (by dsimp only; kcf_all) ⟨rfl, rfl, rfl, rfl, rfl, rfl, trivial⟩ ⟨sn, s2, fun n h => a1 n (.tail _ h), a2, by simp only [List.length_cons]; omega, dst _ (.head _), hm⟩
      · clear F N hne
        rintro ⟨b, B, rfl, hm⟩ u h tk F N
        dsimp only [headS] at F
        dsimp only [mst, List.cons_append, List.nil_append] at N
        (repeat' (first | (k_unfold; (try dsimp only)) | walk1 | (dsimp only; walk1) | (dsimp only; k_unfold; (try dsimp only))))
        refine Stop.out ?_
        rename Fr _ _ _ _ => lF
        rename News _ _ _ _ => lN
        refine c_light (G.keeps lF.keep) (dlt 2 hd rfl) (dlt 11 hu rfl) (a2 _ (.head _)).lt ?_
        intro v' h9 tk9 kp hp
        obtain ⟨q, r1, r2, r3, c, rfl, ha, hna⟩ := hp
        have F9 := lF.keeps kp
        have hp3 : P3 h9 (.ref q) ((b / 256 : Nat) : Int) ((b / 16 % 16 : Nat) : Int) ((b % 16 : Nat) : Int) := ⟨q, r1, r2, r3, c, rfl, ha⟩
        have N9 : News g L' h9 ((SP, W.listOf us.toArray m) :: (mst K1 x1 d1 pb1 at1 lam1 w1 k1 x1.length u1 v1 ++ (mst K2 x2 d2 pb2 at2 lam2 w2 k2 x2.length u2 v2 ++ es))) := lN.grown kp
        clear lF lN
        (repeat' (first | (k_unfold; (try dsimp only)) | walk1 | (dsimp only; walk1) | (dsimp only; k_unfold; (try dsimp only))))
        refine Stop.out ?_
        refine c_step (G.keeps F9.keep) (dlt 2 hd rfl) (dlt 11 hu rfl) hp3 ?_
        intro v' h8 tk8 kp8 hp8
        obtain ⟨st, r4, r5, c2, rfl, ha8, hna8⟩ := hp8
        have F8 := F9.keeps kp8
        have N8 := add_news F9 kp8 N9 ha8 hna8
        have dst : ∀ p ∈ (SP, W.listOf us.toArray m) :: (mst K1 x1 d1 pb1 at1 lam1 w1 k1 x1.length u1 v1 ++ (mst K2 x2 d2 pb2 at2 lam2 w2 k2 x2.length u2 v2 ++ es)), p.1 ≠ st := fun p hp q => by have := (N9 p hp).1; rw [q, hna8] at this; cases this
        clear F9 N9
        (repeat' (first | (k_unfold; (try dsimp only)) | walk1 | (dsimp only; walk1) | (dsimp only; k_unfold; (try dsimp only))))
        refine Stop.out ?_
        rename Fr _ _ _ _ => lF
        rename News _ _ _ _ => lN
        have N7 : News g L' _ (mst K2 x2 d2 pb2 at2 lam2 w2 k2 x2.length u2 v2 ++ (mst K1 x1 d1 pb1 at1 lam1 w1 k1 x1.length u1 v1 ++ ((SP, W.listOf us.toArray m) :: (st, tup2 _ _ r4 r5 c2) :: es))) := News.sub lN (by kcf_all)
        refine front_next M2 LI2 G ap2 hx2 s2 (by simp only [List.length_cons] at len; show B.length < 64; omega) lF N7 ?_ (dlt 4 hd rfl) (dlt 35 hu rfl) ?_
        · intro p hp
          rcases List.mem_append.mp hp with hp | hp
          · exact off2 w1 k1 u1 v1 p (List.mem_append_left _ hp)
          · rcases List.mem_cons.mp hp with rfl | hp
            · exact ⟨z4, z5, z6⟩
            · rcases List.mem_cons.mp hp with rfl | hp
              · exact ⟨Ne.symm (dst (d2, mdict K2 (lno x2 x2.length) u2 lam2 pb2) (.tail _ (List.mem_append_right _ (List.mem_append_left _ (.head _))))), Ne.symm (dst (pb2, W.listOf w2.toArray k2) (.tail _ (List.mem_append_right _ (List.mem_append_left _ (.tail _ (.head _)))))), Ne.symm (dst (at2, W.listOf #[.int (x2.length : Int) v2] 0) (.tail _ (List.mem_append_right _ (List.mem_append_left _ (.tail _ (.tail _ (.head _)))))))⟩
              · exact e2 p hp
        intro h7 tk7 tn y' j' un' vn' sn F7 N6
        (repeat' (first | (k_unfold; (try dsimp only)) | walk1 | (dsimp only; walk1) | (dsimp only; k_unfold; (try dsimp only))))
        rename Fr _ _ _ _ => rF
        rename News _ _ _ _ => rN
        exact hJ ⟨⟨A, B, w1, k1, u1, v1, y', j', un', vn', us, m, es, pr, lp, t1, tn⟩, b, st, r4, r5, c2⟩ _ _ _ _ rF rN (by dsimp only; kcf_all) ⟨rfl, rfl, rfl, rfl, rfl, rfl, trivial⟩ ⟨s1, sn, a1, fun n h => a2 n (.tail _ h), by simp only [List.length_cons]; omega, dst _ (.head _), hm⟩
    clear F N s1 s2 a1 a2 hne
    rintro ⟨⟨A', B', y1, j1, n1, o1, y2, j2, n2, o2, _, _, _, _, _, b1, b2⟩, n, st, r4, r5, c2⟩ u h tk ⟨s1, s2, a1, a2, hlt, nst, hm⟩ F N
    dsimp only at s1 s2 a1 a2 hlt nst hm F N
    obtain ⟨al, b3, b4, b5, hal, mal⟩ := led_last led
    have N6 := News.dup N (.tail _ (.tail _ (List.mem_append_right _ (List.mem_append_right _ mal))))
    have nal : @Ne Nat al SP := eSP _ mal
    dsimp only [mst, List.cons_append, List.nil_append] at N6
    clear N
    (repeat' (first | (k_unfold; (try dsimp only)) | walk1 | (dsimp only; walk1) | (dsimp only; k_unfold; (try dsimp only))))
    refine Stop.out ?_
    rename Fr _ _ _ _ => lF
    rename News _ _ _ _ => lN
    refine kde_neg (j := us.length - 1) (News.isList lN (.tail _ (.head _))) (by decide) (by decide) (neg_idx hal) hal ?_
    (repeat' (first | (k_unfold; (try dsimp only)) | walk1 | (dsimp only; walk1) | (dsimp only; k_unfold; (try dsimp only))))
    refine Stop.out ?_
    refine kde_neg (j := us.length - 1) (News.isList lN (.tail _ (.head _))) (by decide) (by decide) (neg_idx hal) hal ?_
    (repeat' (first | (k_unfold; (try dsimp only)) | walk1 | (dsimp only; walk1) | (dsimp only; k_unfold; (try dsimp only))))
    rename Fr _ _ _ _ => rF
    rename News _ _ _ _ => rN
    rename_i TT g1 Fo No lt g2
    obtain ⟨ta, tb, rN⟩ : ∃ ta tb, News g L' g2 ((TT, tup2 (lp.1 + (stepN n).1) (lp.2 + (stepN n).2) ta tb 0) :: (al, tup2 lp.1 lp.2 b3 b4 b5) :: (SP, W.listOf (us ++ [Value.ref TT]).toArray (m + 1)) :: (st, tup2 (stepN n).1 (stepN n).2 r4 r5 c2) :: (mst K1 x1 d1 pb1 at1 lam1 y1 j1 x1.length n1 o1 ++ (mst K2 x2 d2 pb2 at2 lam2 y2 j2 x2.length n2 o2 ++ es))) := ⟨_, _, rN⟩
    refine hR _ _ (wend (⟨A', B', y1, j1, n1, o1, y2, j2, n2, o2, us ++ [.ref TT], m + 1, (TT, tup2 (lp.1 + (stepN n).1) (lp.2 + (stepN n).2) ta tb 0) :: es, pr ++ [lp], (lp.1 + (stepN n).1, lp.2 + (stepN n).2), b1, b2⟩ : WSt) rF rN (by dsimp only; kcf_all) ⟨rfl, rfl, rfl, rfl, rfl, trivial⟩ ⟨s1, s2, a1, a2, ?_, ?_, ?_, ?_, ?_, ?_⟩ hlt)
    · simp only [List.length_append, List.length_cons, List.length_nil] at len ⊢; omega
    · exact List.forall_mem_cons.mpr ⟨Nat.ne_of_gt lt.2.1, eSP⟩
    · exact List.forall_mem_cons.mpr ⟨⟨Nat.ne_of_gt lt.2.2.2.1, Nat.ne_of_gt lt.2.2.2.2.1, Nat.ne_of_gt lt.2.2.2.2.2.1⟩, e1⟩
    · exact List.forall_mem_cons.mpr ⟨⟨Nat.ne_of_gt lt.2.2.2.2.2.2.1, Nat.ne_of_gt lt.2.2.2.2.2.2.2.1, Nat.ne_of_gt lt.2.2.2.2.2.2.2.2.1⟩, e2⟩
    · exact Paired.snoc (led.more fun _ h => .tail _ h) ⟨TT, ta, tb, 0, rfl, .head _⟩
    · rw [← tot, hm, List.append_assoc]
      rfl
  · clear F N
    rintro ⟨rfl, rfl⟩ u h tk F N
    cases s1
    cases s2
    refine hX _ ?_
    (repeat' (first | (k_unfold; (try dsimp only)) | walk1 | (dsimp only; walk1) | (dsimp only; k_unfold; (try dsimp only))))
    rename Fr _ _ _ _ => rF
    rename News _ _ _ _ => rN
    refine ret _ _ SP us m es A1 A2 k1 k2 u1 u2 v1 v2 pA1 pA2 oA1 oA2 (On.of rF rN (by kcf_all)) (List.forall_mem_cons.mpr ⟨⟨z1, z2, z3⟩, e1⟩) (List.forall_mem_cons.mpr ⟨⟨z4, z5, z6⟩, e2⟩) ?_
    rw [← tot, nil_merge]
    exact led
end

-- PL
noncomputable abbrev V2 := Int × Int
noncomputable def cr (u v : V2) : Int := u.1 * v.2 - u.2 * v.1
noncomputable def upB (u : V2) : Bool := decide (0 < u.2) || (decide (u.2 = 0) && decide (0 < u.1))
/-- no later by its angle -/
noncomputable def Ale (u v : V2) : Prop := if upB u = upB v then 0 ≤ cr u v else upB u = true
noncomputable def gg (u v : V2) : Int := if upB u = upB v then (cr u v).natAbs else if upB u = true then cr u v else cr v u
theorem cr_anti (u v : V2) : cr v u = - cr u v := by unfold cr; grind
theorem gg_symm (u v : V2) : gg u v = gg v u := by
  unfold gg
  have := cr_anti u v
  by_cases h : upB u = upB v
  · rw [if_pos h, if_pos h.symm]; omega
  · rw [if_neg h, if_neg (Ne.symm h)]
    cases hu : upB u <;> cases hv : upB v <;> simp_all
theorem gg_ale {u v : V2} (h : Ale u v) : gg u v = cr u v := by
  unfold Ale at h
  unfold gg
  split
  · rename_i e; rw [if_pos e] at h; omega
  · rename_i e; rw [if_neg e] at h; rw [if_pos h]
theorem ale_total (u v : V2) : Ale u v ∨ Ale v u := by
  unfold Ale
  have := cr_anti u v
  by_cases h : upB u = upB v
  · rw [if_pos h, if_pos h.symm]; omega
  · rw [if_neg h, if_neg (Ne.symm h)]
    cases hu : upB u <;> cases hv : upB v <;> simp_all
theorem up_iff (u : V2) : upB u = true ↔ 0 < u.2 ∨ (u.2 = 0 ∧ 0 < u.1) := by unfold upB; simp
theorem dn_iff (u : V2) : upB u = false ↔ ¬ (0 < u.2 ∨ (u.2 = 0 ∧ 0 < u.1)) := by rw [← up_iff]; simp
theorem neg_up {u : V2} (h : u ≠ (0, 0)) : upB (-u.1, -u.2) = !upB u := by
  obtain ⟨x, y⟩ := u
  have : ¬ (x = 0 ∧ y = 0) := fun q => h (by rw [q.1, q.2])
  rw [Bool.eq_iff_iff]
  simp [upB]
  omega
/-- in a half plane the angles go on -/
theorem half_trans {u v w : V2} (hu : upB u = true) (hv : upB v = true) (hw : upB w = true) (h1 : 0 ≤ cr u v) (h2 : 0 ≤ cr v w) : 0 ≤ cr u w := by
  rw [up_iff] at hu hv hw
  have e2 : v.2 * cr u w = w.2 * cr u v + u.2 * cr v w := by unfold cr; grind
  have e1 : v.1 * cr u w = w.1 * cr u v + u.1 * cr v w := by unfold cr; grind
  have hw2 : 0 ≤ w.2 := by omega
  have hu2 : 0 ≤ u.2 := by omega
  rcases hv with hv | ⟨hv, hv1⟩
  · have p1 := Int.mul_nonneg hw2 h1
    have p2 := Int.mul_nonneg hu2 h2
    exact Int.nonneg_of_mul_nonneg_right (by rw [e2]; omega) hv
  · have q : cr u v = - (u.2 * v.1) := by unfold cr; rw [hv]; omega
    have u0 : u.2 = 0 := by
      rcases Int.lt_or_eq_of_le hu2 with r | r
      · have := Int.mul_pos r hv1; omega
      · exact r.symm
    have u1 : 0 < u.1 := by omega
    have : cr u w = u.1 * w.2 := by unfold cr; rw [u0]; omega
    rw [this]
    exact Int.mul_nonneg (Int.le_of_lt u1) hw2

theorem ale_trans {u v w : V2} (hu : u ≠ (0, 0)) (hv : v ≠ (0, 0)) (hw : w ≠ (0, 0)) (h1 : Ale u v) (h2 : Ale v w) : Ale u w := by
  have nu := neg_up hu
  have nv := neg_up hv
  have nw := neg_up hw
  unfold Ale at *
  cases eu : upB u <;> cases ev : upB v <;> cases ew : upB w <;> (try simp [eu, ev] at h1) <;> (try simp [ev, ew] at h2) <;> (try simp)
  · rw [eu] at nu
    rw [ev] at nv
    rw [ew] at nw
    have k1 : cr (-u.1, -u.2) (-v.1, -v.2) = cr u v := by unfold cr; grind
    have k2 : cr (-v.1, -v.2) (-w.1, -w.2) = cr v w := by unfold cr; grind
    have k3 : cr (-u.1, -u.2) (-w.1, -w.2) = cr u w := by unfold cr; grind
    rw [← k3]
    exact half_trans nu nv nw (by rw [k1]; exact h1) (by rw [k2]; exact h2)
  · exact half_trans eu ev ew h1 h2
theorem sum_add {α : Type} (f g : α → Int) : ∀ l : List α, (l.map fun u => f u + g u).sum = (l.map f).sum + (l.map g).sum
  | [] => rfl
  | a :: r => by simp only [List.map_cons, List.sum_cons, sum_add f g r]; omega
theorem sum_zero {α : Type} {f : α → Int} : ∀ {l : List α}, (∀ x ∈ l, f x = 0) → (l.map f).sum = 0
  | [], _ => rfl
  | a :: r, h => by rw [List.map_cons, List.sum_cons, h a (.head _), sum_zero fun x hx => h x (.tail _ hx)]; rfl
noncomputable def sumV : List V2 → V2
  | [] => (0, 0)
  | a :: r => (a.1 + (sumV r).1, a.2 + (sumV r).2)
theorem cr_add (u v w : V2) : cr u (v.1 + w.1, v.2 + w.2) = cr u v + cr u w := by unfold cr; grind
theorem cr_sum (u : V2) : ∀ L : List V2, (L.map (cr u)).sum = cr u (sumV L)
  | [] => by unfold cr sumV; simp
  | a :: r => by rw [List.map_cons, List.sum_cons, cr_sum u r]; show _ = cr u (_, _); rw [cr_add]
theorem sumV_app : ∀ A B : List V2, sumV (A ++ B) = ((sumV A).1 + (sumV B).1, (sumV A).2 + (sumV B).2)
  | [], B => by simp [sumV]
  | a :: A, B => by
    simp only [List.cons_append, sumV, sumV_app A B, Prod.mk.injEq]
    omega
theorem sumV_perm {A B : List V2} (p : A.Perm B) : sumV A = sumV B := by
  induction p with
  | nil => rfl
  | cons x _ ih => simp only [sumV, ih]
  | swap x y l => simp only [sumV, Prod.mk.injEq]; omega
  | trans _ _ h1 h2 => exact h1.trans h2
noncomputable def pairS (f : V2 → V2 → Int) : List V2 → Int
  | [] => 0
  | a :: r => (r.map (f a)).sum + pairS f r
theorem sum_perm {l l' : List Int} (p : l.Perm l') : l.sum = l'.sum := by
  induction p with
  | nil => rfl
  | cons x _ ih => rw [List.sum_cons, List.sum_cons, ih]
  | swap x y l => simp only [List.sum_cons]; omega
  | trans _ _ h1 h2 => exact h1.trans h2
theorem pairS_perm {f : V2 → V2 → Int} (hf : ∀ u v, f u v = f v u) {A B : List V2} (p : A.Perm B) : pairS f A = pairS f B := by
  induction p with
  | nil => rfl
  | cons x p ih => simp only [pairS, ih]; rw [sum_perm (p.map (f x))]
  | swap x y l => simp only [pairS, List.map_cons, List.sum_cons, hf x y]; omega
  | trans _ _ h1 h2 => exact h1.trans h2
theorem pairS_app (f : V2 → V2 → Int) : ∀ A B : List V2, pairS f (A ++ B) = pairS f A + pairS f B + (A.map fun a => (B.map (f a)).sum).sum
  | [], B => by simp [pairS]
  | a :: A, B => by
    simp only [List.cons_append, pairS, List.map_cons, List.sum_cons, pairS_app f A B, List.map_append, List.sum_append]
    omega
theorem pairS_sorted : ∀ {L : List V2}, L.Pairwise Ale → pairS cr L = pairS gg L
  | [], _ => rfl
  | a :: r, h => by
    obtain ⟨h1, h2⟩ := List.pairwise_cons.mp h
    simp only [pairS, pairS_sorted h2]
    rw [List.map_congr_left fun v hv => (gg_ale (h1 v hv)).symm]
/-- the area by its sides -/
noncomputable def ar (L : List V2) : Int := pairS gg L
noncomputable def mix (A B : List V2) : Int := (A.map fun a => (B.map (gg a)).sum).sum
theorem ar_app (A B : List V2) : ar (A ++ B) = ar A + ar B + mix A B := pairS_app gg A B
theorem ar_perm {A B : List V2} (p : A.Perm B) : ar A = ar B := pairS_perm gg_symm p
noncomputable def ng (u : V2) : V2 := (-u.1, -u.2)
theorem cr_ng (u v : V2) : cr (ng u) v = - cr u v ∧ cr u (ng v) = - cr u v ∧ cr (ng u) (ng v) = cr u v := by unfold cr ng; grind
noncomputable def tw (u : V2) : V2 := if upB u = true then u else (0, 0)
noncomputable def ee (u v : V2) : Int := cr (tw u) v + cr (tw v) u
theorem gg_ng2 {u v : V2} (hu : u ≠ (0, 0)) (hv : v ≠ (0, 0)) : gg (ng u) (ng v) = gg u v - 2 * ee u v := by
  have nu : upB (ng u) = !upB u := neg_up hu
  have nv : upB (ng v) = !upB v := neg_up hv
  have a := cr_anti u v
  have b := cr_ng u v
  have c := cr_ng v u
  have z1 : cr (0, 0) v = 0 := by unfold cr; simp
  have z2 : cr (0, 0) u = 0 := by unfold cr; simp
  unfold gg ee tw
  rw [nu, nv]
  cases eu : upB u <;> cases ev : upB v <;> simp [z1, z2] <;> omega
theorem ee_sum : ∀ L : List V2, pairS ee L = (L.map fun u => cr (tw u) (sumV L)).sum
  | [] => rfl
  | a :: r => by
    have h1 : (r.map (ee a)).sum = cr (tw a) (sumV r) + (r.map fun u => cr (tw u) a).sum := by
      rw [← cr_sum]
      induction r with
      | nil => rfl
      | cons v r ih => simp only [List.map_cons, List.sum_cons, ih, ee]; omega
    have h2 : (r.map fun u => cr (tw u) (sumV (a :: r))).sum = (r.map fun u => cr (tw u) a).sum + (r.map fun u => cr (tw u) (sumV r)).sum := by
      rw [← sum_add]
      exact congrArg List.sum (List.map_congr_left fun u _ => cr_add _ _ _)
    simp only [pairS, List.map_cons, List.sum_cons, h1, h2, ee_sum r]
    show _ = cr (tw a) (_, _) + _
    rw [cr_add]
    have : cr (tw a) a = 0 := by
      unfold tw
      split
      · unfold cr; grind
      · unfold cr; simp
    omega
theorem ar_ng {L : List V2} (hn : ∀ u ∈ L, u ≠ (0, 0)) (hs : sumV L = (0, 0)) : ar (L.map ng) = ar L := by
  have h1 : ∀ L : List V2, (∀ u ∈ L, u ≠ (0, 0)) → pairS gg (L.map ng) = pairS gg L - 2 * pairS ee L := by
    intro L hn
    induction L with
    | nil => rfl
    | cons a r ih =>
      have hr := ih fun u hu => hn u (.tail _ hu)
      have h2 : ∀ r : List V2, (∀ u ∈ r, u ≠ (0, 0)) → ((r.map ng).map (gg (ng a))).sum = (r.map (gg a)).sum - 2 * (r.map (ee a)).sum := by
        intro r hr
        induction r with
        | nil => rfl
        | cons v r ih =>
          have := ih fun u hu => hr u (.tail _ hu)
          simp only [List.map_cons, List.sum_cons, this, gg_ng2 (hn a (.head _)) (hr v (.head _))]
          omega
      simp only [List.map_cons, pairS, hr]
      rw [h2 r fun u hu => hn u (.tail _ hu)]
      omega
  unfold ar
  rw [h1 L hn, ee_sum, hs]
  rw [sum_zero (f := fun u => cr (tw u) (0, 0)) fun u _ => by unfold cr; simp]
  omega

theorem sum_swap (A B : List V2) (f : V2 → V2 → Int) : (A.map fun a => (B.map (f a)).sum).sum = (B.map fun b => (A.map fun a => f a b).sum).sum := by
  induction A with
  | nil => simp [sum_zero]
  | cons a A ih =>
    rw [List.map_cons, List.sum_cons, ih, ← sum_add]
    exact congrArg List.sum (List.map_congr_left fun b _ => by rw [List.map_cons, List.sum_cons])
theorem gg_pm {a b : V2} (ha : a ≠ (0, 0)) (hb : b ≠ (0, 0)) : gg a b + gg a (ng b) = ((cr a b).natAbs : Int) + (if upB b = true then cr b a else - cr b a) := by
  have nb : upB (ng b) = !upB b := neg_up hb
  have x := cr_anti a b
  have y := cr_ng a b
  have z := cr_ng b a
  unfold gg
  rw [nb]
  cases ea : upB a <;> cases eb : upB b <;> simp <;> omega
theorem mix_pm {A B : List V2} (ha : ∀ u ∈ A, u ≠ (0, 0)) (hb : ∀ u ∈ B, u ≠ (0, 0)) (hs : sumV A = (0, 0)) : mix A B + mix A (B.map ng) = (A.map fun a => (B.map fun b => ((cr a b).natAbs : Int)).sum).sum := by
  have h0 : mix A (B.map ng) = (A.map fun a => (B.map fun b => gg a (ng b)).sum).sum := by
    unfold mix
    exact congrArg List.sum (List.map_congr_left fun a _ => by rw [List.map_map]; rfl)
  rw [h0]
  unfold mix
  rw [sum_swap A B gg, sum_swap A B fun a b => gg a (ng b), sum_swap A B fun a b => ((cr a b).natAbs : Int), ← sum_add]
  refine congrArg List.sum (List.map_congr_left fun b hbm => ?_)
  rw [← sum_add]
  rw [List.map_congr_left (g := fun a => ((cr a b).natAbs : Int) + (if upB b = true then cr b a else - cr b a)) fun a ham => gg_pm (ha a ham) (hb b hbm)]
  rw [sum_add]
  have : (A.map fun a => if upB b = true then cr b a else - cr b a).sum = 0 := by
    have e := cr_sum b A
    rw [hs] at e
    have e0 : cr b (0, 0) = 0 := by unfold cr; simp
    split
    · show (A.map (cr b)).sum = 0; omega
    · have : ∀ l : List V2, (l.map fun a => - cr b a).sum = - (l.map (cr b)).sum := by
        intro l
        induction l with
        | nil => rfl
        | cons a r ih => simp only [List.map_cons, List.sum_cons, ih]; omega
      rw [this]; omega
  omega
/-- the first law of the areas -/
theorem area_law {A B : List V2} (ha : ∀ u ∈ A, u ≠ (0, 0)) (hb : ∀ u ∈ B, u ≠ (0, 0)) (hs : sumV A = (0, 0)) (hs2 : sumV B = (0, 0)) :
    ar (A ++ B) + ar (A ++ B.map ng) = 2 * ar A + 2 * ar B + (A.map fun a => (B.map fun b => ((cr a b).natAbs : Int)).sum).sum := by
  rw [ar_app, ar_app, ar_ng hb hs2, ← mix_pm ha hb hs]
  omega
theorem sum_nonneg : ∀ {l : List Int}, (∀ x ∈ l, 0 ≤ x) → 0 ≤ l.sum
  | [], _ => Int.le_refl _
  | a :: r, h => by rw [List.sum_cons]; have := h a (.head _); have := sum_nonneg fun x hx => h x (.tail _ hx); omega
theorem sum_nonpos : ∀ {l : List Int}, (∀ x ∈ l, x ≤ 0) → l.sum ≤ 0
  | [], _ => Int.le_refl _
  | a :: r, h => by rw [List.sum_cons]; have := h a (.head _); have := sum_nonpos fun x hx => h x (.tail _ hx); omega
/-- once below 0, never above it again: the beginnings' sums -/
theorem pre_sum {l : List Int} (hp : l.Pairwise fun x y => x < 0 → y ≤ 0) (ht : 0 ≤ l.sum) (i : Nat) : 0 ≤ (l.take i).sum := by
  have e : (l.take i).sum + (l.drop i).sum = l.sum := by rw [← List.sum_append, List.take_append_drop]
  by_cases h : ∃ x ∈ l.take i, x < 0
  · obtain ⟨x, hx, h0⟩ := h
    have : (l.drop i).sum ≤ 0 := sum_nonpos fun y hy => by
      rw [← List.take_append_drop i l] at hp
      exact (List.pairwise_append.mp hp).2.2 x hx y hy h0
    omega
  · exact sum_nonneg fun x hx => Int.not_lt.mp fun q => h ⟨x, hx, q⟩
theorem suf_sum {l : List Int} (hp : l.Pairwise fun x y => x < 0 → y ≤ 0) (ht : l.sum ≤ 0) (i : Nat) : (l.drop i).sum ≤ 0 := by
  have e : (l.take i).sum + (l.drop i).sum = l.sum := by rw [← List.sum_append, List.take_append_drop]
  by_cases h : ∃ x ∈ l.take i, x < 0
  · obtain ⟨x, hx, h0⟩ := h
    exact sum_nonpos fun y hy => by
      rw [← List.take_append_drop i l] at hp
      exact (List.pairwise_append.mp hp).2.2 x hx y hy h0
  · have := sum_nonneg (l := l.take i) fun x hx => Int.not_lt.mp fun q => h ⟨x, hx, q⟩
    omega
theorem cr_map (s : V2) (L : List V2) (i : Nat) : cr s (sumV (L.take i)) = ((L.map (cr s)).take i).sum := by rw [← cr_sum, List.map_take]
theorem cr_mapd (s : V2) (L : List V2) (i : Nat) : cr s (sumV (L.drop i)) = ((L.map (cr s)).drop i).sum := by rw [← cr_sum, List.map_drop]
/-- a split by a direction is the lowest spot -/
theorem edge_min {s : V2} {P S : List V2} (hs : s ≠ (0, 0)) (hn : ∀ u ∈ P ++ S, u ≠ (0, 0)) (hp : (P ++ S).Pairwise Ale) (h0 : sumV (P ++ S) = (0, 0)) (h1 : ∀ x ∈ P, Ale x s) (h2 : ∀ x ∈ S, Ale s x) (i : Nat) :
    cr s (sumV P) ≤ cr s (sumV ((P ++ S).take i)) := by
  have hns := neg_up hs
  have tot : cr s (sumV P) + cr s (sumV S) = 0 := by
    rw [← cr_add, ← sumV_app, h0]; unfold cr; simp
  obtain ⟨hpP, hpS, -⟩ := List.pairwise_append.mp hp
  have sgn1 : ∀ {x : V2}, upB s = upB x → cr s x = - cr x s := fun _ => cr_anti _ _
  cases es : upB s with
  | true =>
    have cP : ∀ x ∈ P.map (cr s), x ≤ 0 := by
      intro y hy
      obtain ⟨x, hx, rfl⟩ := List.mem_map.mp hy
      have a := h1 x hx
      have b := cr_anti x s
      unfold Ale at a
      split at a
      · omega
      · rename_i q; rw [es] at q; exact absurd a q
    have cS : (S.map (cr s)).Pairwise fun x y => x < 0 → y ≤ 0 := by
      rw [List.pairwise_map]
      refine hpS.imp_of_mem fun {x y} hx hy hxy hneg => ?_
      have ax := h2 x hx
      have ux : upB x = false := by
        cases q : upB x with
        | false => rfl
        | true => unfold Ale at ax; rw [es, q, if_pos rfl] at ax; omega
      have uy : upB y = false := by
        cases q : upB y with
        | false => rfl
        | true => unfold Ale at hxy; rw [ux, q] at hxy; simp at hxy
      have nx : upB (ng x) = true := by rw [show upB (ng x) = !upB x from neg_up (hn x (List.mem_append_right _ hx)), ux]; rfl
      have ny : upB (ng y) = true := by rw [show upB (ng y) = !upB y from neg_up (hn y (List.mem_append_right _ hy)), uy]; rfl
      have k := half_trans es nx ny (by rw [(cr_ng s x).2.1]; omega) (by rw [(cr_ng x y).2.2]; unfold Ale at hxy; rw [ux, uy, if_pos rfl] at hxy; exact hxy)
      rw [(cr_ng s y).2.1] at k
      omega
    have tS : 0 ≤ (S.map (cr s)).sum := by
      have := sum_nonpos cP
      rw [cr_sum] at this ⊢
      omega
    rcases Nat.le_total i P.length with q | q
    · have e : (P ++ S).take i = P.take i := by rw [List.take_append_of_le_length q]
      have e2 : cr s (sumV P) = cr s (sumV (P.take i)) + cr s (sumV (P.drop i)) := by rw [← cr_add, ← sumV_app, List.take_append_drop]
      have : cr s (sumV (P.drop i)) ≤ 0 := by rw [cr_mapd]; exact sum_nonpos fun x hx => cP x (List.mem_of_mem_drop hx)
      rw [e]; omega
    · have e : (P ++ S).take i = P ++ S.take (i - P.length) := by rw [List.take_append, List.take_of_length_le q]
      have : 0 ≤ cr s (sumV (S.take (i - P.length))) := by rw [cr_map]; exact pre_sum cS tS _
      rw [e, sumV_app, cr_add]; omega
  | false =>
    rw [es] at hns
    have cS : ∀ x ∈ S.map (cr s), 0 ≤ x := by
      intro y hy
      obtain ⟨x, hx, rfl⟩ := List.mem_map.mp hy
      have a := h2 x hx
      unfold Ale at a
      split at a
      · exact a
      · rename_i q; rw [es] at a; cases a
    have cP : (P.map (cr s)).Pairwise fun x y => x < 0 → y ≤ 0 := by
      rw [List.pairwise_map]
      refine hpP.imp_of_mem fun {x y} hx hy hxy hneg => ?_
      cases uy : upB y with
      | false =>
        have a := h1 y hy
        have b := cr_anti y s
        unfold Ale at a
        rw [uy, es, if_pos rfl] at a
        omega
      | true =>
        have ux : upB x = true := by
          cases q : upB x with
          | true => rfl
          | false => unfold Ale at hxy; rw [q, uy] at hxy; simp at hxy
        have k := half_trans (u := ng s) hns ux uy (by rw [(cr_ng s x).1]; omega) (by unfold Ale at hxy; rw [ux, uy, if_pos rfl] at hxy; exact hxy)
        rw [(cr_ng s y).1] at k
        omega
    have tP : (P.map (cr s)).sum ≤ 0 := by
      have := sum_nonneg cS
      rw [cr_sum] at this ⊢
      omega
    rcases Nat.le_total i P.length with q | q
    · have e : (P ++ S).take i = P.take i := by rw [List.take_append_of_le_length q]
      have e2 : cr s (sumV P) = cr s (sumV (P.take i)) + cr s (sumV (P.drop i)) := by rw [← cr_add, ← sumV_app, List.take_append_drop]
      have : cr s (sumV (P.drop i)) ≤ 0 := by rw [cr_mapd]; exact suf_sum cP tP _
      rw [e]; omega
    · have e : (P ++ S).take i = P ++ S.take (i - P.length) := by rw [List.take_append, List.take_of_length_le q]
      have : 0 ≤ cr s (sumV (S.take (i - P.length))) := by rw [cr_map]; exact sum_nonneg fun x hx => cS x (List.mem_of_mem_take hx)
      rw [e, sumV_app, cr_add]; omega

/-- a sorted lot is split by a direction -/
theorem split_at {b : V2} (hb : b ≠ (0, 0)) : ∀ {L : List V2}, (∀ u ∈ L, u ≠ (0, 0)) → L.Pairwise Ale → ∃ P S, L = P ++ S ∧ (∀ x ∈ P, Ale x b) ∧ ∀ x ∈ S, Ale b x
  | [], _, _ => ⟨[], [], rfl, (fun _ h => nomatch h), (fun _ h => nomatch h)⟩
  | a :: r, hn, hp => by
    obtain ⟨h1, h2⟩ := List.pairwise_cons.mp hp
    rcases ale_total b a with q | q
    · refine ⟨[], a :: r, rfl, (fun _ h => nomatch h), fun x hx => ?_⟩
      rcases List.mem_cons.mp hx with rfl | hx
      · exact q
      · exact ale_trans hb (hn a (.head _)) (hn x (.tail _ hx)) q (h1 x hx)
    · obtain ⟨P, S, e, hP, hS⟩ := split_at hb (fun u hu => hn u (.tail _ hu)) h2
      refine ⟨a :: P, S, by rw [e]; rfl, fun x hx => ?_, hS⟩
      rcases List.mem_cons.mp hx with rfl | hx
      · exact q
      · exact hP x hx
/-- all of a lot against one side -/
theorem gg_split {b : V2} {P S : List V2} (h0 : sumV (P ++ S) = (0, 0)) (h1 : ∀ x ∈ P, Ale x b) (h2 : ∀ x ∈ S, Ale b x) : ((P ++ S).map fun a => gg a b).sum = -2 * cr b (sumV P) := by
  have tot : cr b (sumV P) + cr b (sumV S) = 0 := by
    rw [← cr_add, ← sumV_app, h0]; unfold cr; simp
  have w1 : P.map (fun a => gg a b) = P.map (fun a => - cr b a) := List.map_congr_left fun x hx => by rw [gg_ale (h1 x hx)]; exact cr_anti _ _
  have w2 : S.map (fun a => gg a b) = S.map (cr b) := List.map_congr_left fun x hx => by rw [gg_symm, gg_ale (h2 x hx)]
  rw [List.map_append, List.sum_append, w1, w2]
  have e1 : ∀ l : List V2, (l.map fun a => - cr b a).sum = - (l.map (cr b)).sum := by
    intro l
    induction l with
    | nil => rfl
    | cons a r ih => simp only [List.map_cons, List.sum_cons, ih]; omega
  have e2 := cr_sum b P
  have e3 := cr_sum b S
  rw [e1]
  omega
theorem sq_nn (x : Int) : 0 ≤ x * x := by
  rcases Int.le_total 0 x with h | h
  · exact Int.mul_nonneg h h
  · have := Int.mul_nonneg (a := -x) (b := -x) (by omega) (by omega)
    have e : -x * -x = x * x := by grind
    omega
theorem hexagon {S x y z w : Int} (a1 : -S ≤ x) (a2 : x ≤ S) (b1 : -S ≤ y) (b2 : y ≤ S) (c1 : -S ≤ x + y) (c2 : x + y ≤ S) (d1 : -S ≤ z) (d2 : z ≤ S) (e1 : -S ≤ w) (e2 : w ≤ S) (f1 : -S ≤ z + w) (f2 : z + w ≤ S) : x * w - y * z ≤ S * S := by
  have S0 : 0 ≤ S := by omega
  have key : ∀ {p q r : Int}, 0 ≤ p → 0 ≤ q → p + q ≤ S → r ≤ S → ∀ t, t ≤ S → p * r + q * t ≤ S * S := by
    intro p q r hp hq hpq hr t ht
    have k1 := Int.mul_le_mul_of_nonneg_left hr hp
    have k2 := Int.mul_le_mul_of_nonneg_left ht hq
    have k3 := Int.mul_le_mul_of_nonneg_right hpq S0
    have k4 : (p + q) * S = p * S + q * S := Int.add_mul _ _ _
    omega
  rcases Int.le_total 0 x with hx | hx <;> rcases Int.le_total 0 y with hy | hy
  · have := key hx hy c2 e2 (-z) (by omega)
    have k : y * -z = -(y * z) := Int.mul_neg _ _
    omega
  · rcases Int.le_total (-y) x with q | q
    · have := key (p := x + y) (q := -y) (r := w) (by omega) (by omega) (by omega) e2 (z + w) f2
      have k : (x + y) * w + -y * (z + w) = x * w - y * z := by grind
      omega
    · have := key (p := x) (q := -y - x) (r := z + w) hx (by omega) (by omega) f2 z d2
      have k : x * (z + w) + (-y - x) * z = x * w - y * z := by grind
      omega
  · rcases Int.le_total (-x) y with q | q
    · have := key (p := x + y) (q := -x) (r := -z) (by omega) (by omega) (by omega) (by omega) (-(z + w)) (by omega)
      have k : (x + y) * -z + -x * -(z + w) = x * w - y * z := by grind
      omega
    · have := key (p := y) (q := -x - y) (r := -(z + w)) hy (by omega) (by omega) (by omega) (-w) (by omega)
      have k : y * -(z + w) + (-x - y) * -w = x * w - y * z := by grind
      omega
  · have := key (p := -x) (q := -y) (r := -w) (by omega) (by omega) (by omega) (by omega) z d2
    have k : -x * -w + -y * z = x * w - y * z := by grind
    omega
/-- what a side's height does -/
theorem height {A : List V2} (hn : ∀ u ∈ A, u ≠ (0, 0)) (hp : A.Pairwise Ale) (h0 : sumV A = (0, 0)) {b : V2} (hb : b ≠ (0, 0)) : ∃ m : Int, ((A.map fun a => gg a b).sum = 2 * m) ∧ ∀ i, -m ≤ cr b (sumV (A.take i)) := by
  obtain ⟨P, S, rfl, h1, h2⟩ := split_at hb hn hp
  refine ⟨- cr b (sumV P), by rw [gg_split h0 h1 h2]; omega, fun i => ?_⟩
  have := edge_min hb hn hp h0 h1 h2 i
  omega
/-- the four lengths -/
theorem four_len {α : Type} {G : List α → Prop} (g0 : G []) (g1 : ∀ a, G [a]) (g2 : ∀ a b, G [a, b]) (g3 : ∀ a b c, G [a, b, c]) (g4 : ∀ a b c d, G [a, b, c, d]) (l : List α) (h : l.length ≤ 4) : G l :=
  match l with
  | [] => g0
  | [a] => g1 a
  | [a, b] => g2 a b
  | [a, b, c] => g3 a b c
  | [a, b, c, d] => g4 a b c d
  | _ :: _ :: _ :: _ :: _ :: _ => absurd h (fun h => nomatch h)
theorem two_zero {a b : V2} (h : sumV [a, b] = (0, 0)) : pairS cr [a, b] = 0 := by
  have q1 : a.1 + (b.1 + 0) = 0 := congrArg Prod.fst h
  have q2 : a.2 + (b.2 + 0) = 0 := congrArg Prod.snd h
  show cr a b + 0 + (0 + 0) = 0
  rw [show b = (-a.1, -a.2) from Prod.ext (by show b.1 = _; omega) (by show b.2 = _; omega)]
  unfold cr; grind
/-- four sides at most: an area is a cross of two diagonals -/
theorem diag {G : Prop} {A : List V2} (hlen : A.length ≤ 4) (h0 : sumV A = (0, 0)) (zero : pairS cr A = 0 → G)
    (fin : ∀ d e : V2, (∃ i j, d = ((sumV (A.take j)).1 - (sumV (A.take i)).1, (sumV (A.take j)).2 - (sumV (A.take i)).2)) → (∃ i j, e = ((sumV (A.take j)).1 - (sumV (A.take i)).1, (sumV (A.take j)).2 - (sumV (A.take i)).2)) → pairS cr A = cr d e → G) : G := by
  revert h0 zero fin
  refine four_len (G := fun A => sumV A = (0, 0) → (pairS cr A = 0 → G) → (∀ d e : V2, (∃ i j, d = ((sumV (A.take j)).1 - (sumV (A.take i)).1, (sumV (A.take j)).2 - (sumV (A.take i)).2)) → (∃ i j, e = ((sumV (A.take j)).1 - (sumV (A.take i)).1, (sumV (A.take j)).2 - (sumV (A.take i)).2)) → pairS cr A = cr d e → G) → G)
    (fun _ z _ => z rfl) (fun a _ z _ => z rfl) (fun a b h z _ => z (two_zero h)) ?_ ?_ A hlen
  · intro a b c h _ f
    refine f (a.1 + b.1, a.2 + b.2) (b.1 + c.1, b.2 + c.2) ⟨0, 2, ?_⟩ ⟨1, 3, ?_⟩ ?_
    · simp only [List.take, sumV, Prod.mk.injEq]; omega
    · simp only [List.take, sumV, Prod.mk.injEq]; omega
    · simp only [pairS, List.map_cons, List.map_nil, List.sum_cons, List.sum_nil]
      unfold cr; grind
  · intro a b c d h _ f
    refine f (a.1 + b.1, a.2 + b.2) (b.1 + c.1, b.2 + c.2) ⟨0, 2, ?_⟩ ⟨1, 3, ?_⟩ ?_
    · simp only [List.take, sumV, Prod.mk.injEq]; omega
    · simp only [List.take, sumV, Prod.mk.injEq]; omega
    · have q1 : a.1 + (b.1 + (c.1 + (d.1 + 0))) = 0 := congrArg Prod.fst h
      have q2 : a.2 + (b.2 + (c.2 + (d.2 + 0))) = 0 := congrArg Prod.snd h
      rw [show d = (-(a.1 + b.1 + c.1), -(a.2 + b.2 + c.2)) from Prod.ext (by show d.1 = _; omega) (by show d.2 = _; omega)]
      simp only [pairS, List.map_cons, List.map_nil, List.sum_cons, List.sum_nil]
      unfold cr; grind
theorem mink3 {A : List V2} (hn : ∀ u ∈ A, u ≠ (0, 0)) (hp : A.Pairwise Ale) (h0 : sumV A = (0, 0)) (hlen : A.length ≤ 4) {b1 b2 b3 : V2} (n1 : b1 ≠ (0, 0)) (n2 : b2 ≠ (0, 0)) (n3 : b3 ≠ (0, 0)) (hb : sumV [b1, b2, b3] = (0, 0)) (hpb : [b1, b2, b3].Pairwise Ale) :
    4 * ar A * ar [b1, b2, b3] ≤ (mix A [b1, b2, b3]) ^ 2 := by
  obtain ⟨m1, e1, k1⟩ := height hn hp h0 n1
  obtain ⟨m2, e2, k2⟩ := height hn hp h0 n2
  obtain ⟨m3, e3, k3⟩ := height hn hp h0 n3
  have hx : b3 = (-(b1.1 + b2.1), -(b1.2 + b2.2)) := by
    have q1 : b1.1 + (b2.1 + (b3.1 + 0)) = 0 := congrArg Prod.fst hb
    have q2 : b1.2 + (b2.2 + (b3.2 + 0)) = 0 := congrArg Prod.snd hb
    exact Prod.ext (by show b3.1 = _; omega) (by show b3.2 = _; omega)
  have hmix : mix A [b1, b2, b3] = 2 * (m1 + m2 + m3) := by
    unfold mix
    rw [sum_swap]
    simp only [List.map_cons, List.map_nil, List.sum_cons, List.sum_nil]
    rw [e1, e2, e3]
    omega
  have hB : ar [b1, b2, b3] = cr b1 b2 := by
    unfold ar
    rw [← pairS_sorted hpb]
    simp only [pairS, List.map_cons, List.map_nil, List.sum_cons, List.sum_nil]
    rw [hx]; unfold cr; grind
  -- the spots
  have c3 : ∀ p : V2, cr b3 p = -(cr b1 p + cr b2 p) := by intro p; rw [hx]; unfold cr; grind
  have fin : ∀ d e : V2, (∃ i j, d = ((sumV (A.take j)).1 - (sumV (A.take i)).1, (sumV (A.take j)).2 - (sumV (A.take i)).2)) → (∃ i j, e = ((sumV (A.take j)).1 - (sumV (A.take i)).1, (sumV (A.take j)).2 - (sumV (A.take i)).2)) → ar A = cr d e → 4 * ar A * ar [b1, b2, b3] ≤ (mix A [b1, b2, b3]) ^ 2 := by
    intro d e ⟨i, j, hd⟩ ⟨k, l, he⟩ hA
    have dif : ∀ (b p q : V2), cr b (q.1 - p.1, q.2 - p.2) = cr b q - cr b p := by intro b p q; unfold cr; grind
    have bd : ∀ (i j : Nat) (d : V2), d = ((sumV (A.take j)).1 - (sumV (A.take i)).1, (sumV (A.take j)).2 - (sumV (A.take i)).2) →
        (-(m1 + m2 + m3) ≤ cr b1 d ∧ cr b1 d ≤ m1 + m2 + m3) ∧ (-(m1 + m2 + m3) ≤ cr b2 d ∧ cr b2 d ≤ m1 + m2 + m3) ∧ (-(m1 + m2 + m3) ≤ cr b1 d + cr b2 d ∧ cr b1 d + cr b2 d ≤ m1 + m2 + m3) := by
      intro i j d hd
      subst hd
      rw [dif, dif]
      have a1 := k1 i
      have a2 := k2 i
      have a3 := k3 i
      have g1 := k1 j
      have g2 := k2 j
      have g3 := k3 j
      rw [c3] at a3 g3
      omega
    obtain ⟨⟨p1, p2⟩, ⟨p3, p4⟩, p5, p6⟩ := bd i j d hd
    obtain ⟨⟨q1, q2⟩, ⟨q3, q4⟩, q5, q6⟩ := bd k l e he
    have hh := hexagon p1 p2 p3 p4 p5 p6 q1 q2 q3 q4 q5 q6
    have lag : cr b1 d * cr b2 e - cr b2 d * cr b1 e = cr b1 b2 * cr d e := by unfold cr; grind
    rw [lag] at hh
    rw [hmix, hB, hA]
    have s1 : (2 * (m1 + m2 + m3)) ^ 2 = 4 * ((m1 + m2 + m3) * (m1 + m2 + m3)) := by grind
    have s2 : 4 * cr d e * cr b1 b2 = 4 * (cr b1 b2 * cr d e) := by grind
    rw [s1, s2]
    omega
  have zero : ar A = 0 → 4 * ar A * ar [b1, b2, b3] ≤ (mix A [b1, b2, b3]) ^ 2 := by
    intro q
    rw [q]
    have : (mix A [b1, b2, b3]) ^ 2 = mix A [b1, b2, b3] * mix A [b1, b2, b3] := by grind
    rw [this]
    have := sq_nn (mix A [b1, b2, b3])
    simp only [Int.mul_zero, Int.zero_mul]
    exact this
  have hsA : ar A = pairS cr A := (pairS_sorted hp).symm
  exact diag hlen h0 (fun q => zero (hsA.trans q)) fun d e hd he q => fin d e hd he (hsA.trans q)
/-- Minkowski's inequality -/
theorem mink {A B : List V2} (hn : ∀ u ∈ A, u ≠ (0, 0)) (hp : A.Pairwise Ale) (h0 : sumV A = (0, 0)) (hlen : A.length ≤ 4) (hnb : ∀ u ∈ B, u ≠ (0, 0)) (hpb : B.Pairwise Ale) (hb : sumV B = (0, 0)) (hlb : B.length ≤ 3) :
    4 * ar A * ar B ≤ (mix A B) ^ 2 := by
  have zero : ar B = 0 → 4 * ar A * ar B ≤ (mix A B) ^ 2 := by
    intro q
    rw [q]
    have : (mix A B) ^ 2 = mix A B * mix A B := by grind
    rw [this]
    have := sq_nn (mix A B)
    simp only [Int.mul_zero]
    exact this
  revert hnb hpb hb zero
  refine four_len (G := fun B => B.length ≤ 3 → (∀ u ∈ B, u ≠ (0, 0)) → B.Pairwise Ale → sumV B = (0, 0) → (ar B = 0 → 4 * ar A * ar B ≤ (mix A B) ^ 2) → 4 * ar A * ar B ≤ (mix A B) ^ 2)
    (fun _ _ _ _ z => z rfl) (fun a _ _ _ _ z => z rfl) (fun a b _ _ p h z => z ((pairS_sorted p).symm.trans (two_zero h)))
    (fun a b c _ n p h _ => mink3 hn hp h0 hlen (n a (.head _)) (n b (.tail _ (.head _))) (n c (.tail _ (.tail _ (.head _)))) h p) (fun a b c d l => absurd l (fun h : 4 ≤ 3 => absurd h (by decide))) B (Nat.le_succ_of_le hlb) hlb

-- M32
noncomputable def EE : Nat → Int × Int
  | 0 => (1, 0)
  | 1 => (1, 1)
  | 2 => (0, 1)
  | 3 => (-1, 0)
  | 4 => (-1, -1)
  | 5 => (0, -1)
  | _ => (1, 0)
noncomputable def comb (k : Nat) (a b : Int) : Int × Int := (a * (EE k).1 + b * (EE (k + 1)).1, a * (EE k).2 + b * (EE (k + 1)).2)
theorem comb_cr (k l : Nat) (a b c d : Int) : cr (comb k a b) (comb l c d) = a * c * cr (EE k) (EE l) + a * d * cr (EE k) (EE (l + 1)) + b * c * cr (EE (k + 1)) (EE l) + b * d * cr (EE (k + 1)) (EE (l + 1)) := by
  unfold cr comb; grind
theorem comb_up {k : Nat} {a b : Int} (hk : k < 3) (ha : 0 < a) (hb : 0 ≤ b) : upB (comb k a b) = true := by
  rw [up_iff]
  match k, hk with
  | 0, _ => simp only [comb, EE]; omega
  | 1, _ => simp only [comb, EE]; omega
  | 2, _ => simp only [comb, EE]; omega
theorem comb_dn {k : Nat} {a b : Int} (hk : 3 ≤ k) (hk6 : k < 6) (ha : 0 < a) (hb : 0 ≤ b) : upB (comb k a b) = false := by
  rw [dn_iff]
  match k, hk, hk6 with
  | 3, _, _ => simp only [comb, EE]; omega
  | 4, _, _ => simp only [comb, EE]; omega
  | 5, _, _ => simp only [comb, EE]; omega
theorem EE_nextF : ∀ k : Fin 6, cr (EE k.val) (EE (k.val + 1)) = 1 ∧ cr (EE k.val) (EE k.val) = 0 ∧ cr (EE (k.val + 1)) (EE k.val) = -1 ∧ cr (EE (k.val + 1)) (EE (k.val + 1)) = 0 := by decide
theorem EE_farF : ∀ k : Fin 6, ∀ l : Fin 6, k.val < l.val → ((k.val < 3 ∧ l.val < 3) ∨ (3 ≤ k.val ∧ 3 ≤ l.val)) → 0 ≤ cr (EE k.val) (EE l.val) ∧ 0 ≤ cr (EE k.val) (EE (l.val + 1)) ∧ 0 ≤ cr (EE (k.val + 1)) (EE l.val) ∧ 0 ≤ cr (EE (k.val + 1)) (EE (l.val + 1)) := by decide
theorem EE_next {k : Nat} (h : k < 6) : cr (EE k) (EE (k + 1)) = 1 ∧ cr (EE k) (EE k) = 0 ∧ cr (EE (k + 1)) (EE k) = -1 ∧ cr (EE (k + 1)) (EE (k + 1)) = 0 := EE_nextF ⟨k, h⟩
theorem EE_far {k l : Nat} (h : k < l) (hl : l < 6) (hs : (k < 3 ∧ l < 3) ∨ (3 ≤ k ∧ 3 ≤ l)) : 0 ≤ cr (EE k) (EE l) ∧ 0 ≤ cr (EE k) (EE (l + 1)) ∧ 0 ≤ cr (EE (k + 1)) (EE l) ∧ 0 ≤ cr (EE (k + 1)) (EE (l + 1)) := EE_farF ⟨k, by omega⟩ ⟨l, hl⟩ h hs
theorem comb_ale {k l : Nat} {a b c d : Int} (hl : l < 6) (hkl : k ≤ l) (ha : 0 < a) (hb : 0 ≤ b) (hc : 0 < c) (hd : 0 ≤ d) (hs : k = l → b * (c + d) ≤ d * (a + b)) : Ale (comb k a b) (comb l c d) := by
  have pac := Int.mul_nonneg (Int.le_of_lt ha) (Int.le_of_lt hc)
  have pad := Int.mul_nonneg (Int.le_of_lt ha) hd
  have pbc := Int.mul_nonneg hb (Int.le_of_lt hc)
  have pbd := Int.mul_nonneg hb hd
  have same : (k < 3 ∧ l < 3) ∨ (3 ≤ k ∧ 3 ≤ l) → 0 ≤ cr (comb k a b) (comb l c d) := by
    intro h
    rw [comb_cr]
    rcases Nat.lt_or_eq_of_le hkl with q | q
    · obtain ⟨f1, f2, f3, f4⟩ := EE_far q hl h
      have g1 := Int.mul_nonneg pac f1
      have g2 := Int.mul_nonneg pad f2
      have g3 := Int.mul_nonneg pbc f3
      have g4 := Int.mul_nonneg pbd f4
      omega
    · have hs := hs q
      subst q
      obtain ⟨f1, f2, f3, f4⟩ := EE_next hl
      rw [f1, f2, f3, f4]
      have e1 : b * (c + d) = b * c + b * d := Int.mul_add _ _ _
      have e2 : d * (a + b) = a * d + b * d := by grind
      omega
  unfold Ale
  by_cases h1 : k < 3
  · by_cases h2 : l < 3
    · rw [comb_up h1 ha hb, comb_up h2 hc hd, if_pos rfl]; exact same (.inl ⟨h1, h2⟩)
    · rw [comb_up h1 ha hb, comb_dn (by omega) hl hc hd, if_neg (by decide)]
  · rw [comb_dn (by omega) (by omega) ha hb, comb_dn (by omega) hl hc hd, if_pos rfl]; exact same (.inr ⟨by omega, by omega⟩)
noncomputable def hnum (r g b : Nat) : Nat :=
  let m := max (max r g) b
  if r = m then (if b ≤ g then g - b else 6 * m + g - b) else if g = m then 2 * m + b - r else 4 * m + r - g
/-- one row of the table -/
noncomputable def rowF (r g b : Nat) (h : UInt64) : Bool :=
  let m := max (max r g) b
  let n := hnum r g b
  let f := fv h
  okF h && (decide (n < 6 * m) && (decide (comb (n / m) ((m : Int) - (n % m : Nat)) (n % m : Nat) = ((r : Int) - b, (g : Int) - b)) && (decide (f * (6 * m) ≤ n * 2 ^ 1074 + 2 ^ 1060) && decide (n * 2 ^ 1074 ≤ f * (6 * m) + 2 ^ 1060))))
noncomputable def rowOk (r g b : Nat) : Bool := rowF r g b (hueF r g b)
/-- reckon first -/
noncomputable def frc {α : Type} (x : UInt64) (k : UInt64 → α) : α := match x.toNat with
  | 0 => k 0
  | n + 1 => k (UInt64.ofNat (n + 1))
theorem frc_eq {α : Type} (x : UInt64) (k : UInt64 → α) : frc x k = k x := by
  unfold frc
  split
  · rename_i e
    rw [show x = 0 from UInt64.toNat_inj.mp e]
  · rename_i n e
    rw [show n + 1 = x.toNat from e.symm, UInt64.ofNat_toNat]
noncomputable def hueK (r g b : Nat) (k : UInt64 → Bool) : Bool :=
  frc (f16 (max (max r g) b)) fun m => frc (f16 r) fun fr => frc (f16 g) fun fg => frc (f16 b) fun fb =>
  frc (f16 (min (min r g) b)) fun n => frc (Float64.sub m n) fun d =>
  frc (Float64.sub m fr) fun x => frc (Float64.div x d) fun rc =>
  frc (Float64.sub m fg) fun y => frc (Float64.div y d) fun gc =>
  frc (Float64.sub m fb) fun z => frc (Float64.div z d) fun bc =>
  if r = max (max r g) b then frc (Float64.sub bc gc) fun h => frc (Float64.div h 4618441417868443648) fun h => frc (Float64.divmod h 4607182418800017408).2 k
  else if g = max (max r g) b then frc (Float64.add 4611686018427387904 rc) fun u => frc (Float64.sub u bc) fun h => frc (Float64.div h 4618441417868443648) fun h => frc (Float64.divmod h 4607182418800017408).2 k
  else frc (Float64.add 4616189618054758400 gc) fun u => frc (Float64.sub u rc) fun h => frc (Float64.div h 4618441417868443648) fun h => frc (Float64.divmod h 4607182418800017408).2 k
theorem hueK_eq (r g b : Nat) (k : UInt64 → Bool) : hueK r g b k = k (hueF r g b) := by
  unfold hueK hueF hueR
  simp only [frc_eq]
  split
  · rfl
  · split <;> rfl
noncomputable def tabOk : Bool := (List.range 16).all fun r => (List.range 16).all fun g => (List.range 16).all fun b => !((r == 0 || g == 0 || b == 0) && (r != 0 || g != 0 || b != 0)) || hueK r g b (rowF r g b)
theorem tab_ok : tabOk = true := by decide +kernel
/-- the tints that may come: none black, none pale -/
noncomputable abbrev Sat (p : T3) : Prop := In16 p ∧ (p.1 = 0 ∨ p.2.1 = 0 ∨ p.2.2 = 0) ∧ (0 < p.1 ∨ 0 < p.2.1 ∨ 0 < p.2.2)
theorem nat16 {x : Int} (h : 0 ≤ x ∧ x < 16) : ∃ r : Nat, x = (r : Int) ∧ r < 16 := ⟨x.toNat, (Int.toNat_of_nonneg h.1).symm, by omega⟩
theorem sat_nat {p : T3} (h : Sat p) : ∃ r g b : Nat, p = ((r : Int), (g : Int), (b : Int)) ∧ r < 16 ∧ g < 16 ∧ b < 16 ∧ (r = 0 ∨ g = 0 ∨ b = 0) ∧ (0 < r ∨ 0 < g ∨ 0 < b) := by
  obtain ⟨x, y, z⟩ := p
  obtain ⟨⟨a, b, c⟩, d, e⟩ := h
  obtain ⟨r, rfl, hr⟩ := nat16 a
  obtain ⟨g, rfl, hg⟩ := nat16 b
  obtain ⟨v, rfl, hv⟩ := nat16 c
  exact ⟨r, g, v, rfl, hr, hg, hv, d.imp Int.natCast_eq_zero.mp (Or.imp Int.natCast_eq_zero.mp Int.natCast_eq_zero.mp), e.imp Int.natCast_pos.mp (Or.imp Int.natCast_pos.mp Int.natCast_pos.mp)⟩
/-- what is to be looked at for 4096 tints -/
theorem fin16 {f : T3 → Bool} (h : ((List.range 16).all fun r => (List.range 16).all fun g => (List.range 16).all fun b => f ((r : Int), (g : Int), (b : Int))) = true) {p : T3} (hp : In16 p) : f p = true := by
  obtain ⟨x, y, z⟩ := p
  obtain ⟨a, b, c⟩ := hp
  obtain ⟨r, rfl, hr⟩ := nat16 a
  obtain ⟨g, rfl, hg⟩ := nat16 b
  obtain ⟨v, rfl, hv⟩ := nat16 c
  exact List.all_eq_true.mp (List.all_eq_true.mp (List.all_eq_true.mp h r (List.mem_range.mpr hr)) g (List.mem_range.mpr hg)) v (List.mem_range.mpr hv)
theorem row_at {r g b : Nat} (hr : r < 16) (hg : g < 16) (hb : b < 16) (h0 : r = 0 ∨ g = 0 ∨ b = 0) (h1 : 0 < r ∨ 0 < g ∨ 0 < b) : rowOk r g b = true := by
  have h := tab_ok
  unfold tabOk at h
  have h := List.all_eq_true.mp h r (List.mem_range.mpr hr)
  have h := List.all_eq_true.mp h g (List.mem_range.mpr hg)
  have h := List.all_eq_true.mp h b (List.mem_range.mpr hb)
  have e1 : (r == 0 || g == 0 || b == 0) = true := by simp; omega
  have e2 : (r != 0 || g != 0 || b != 0) = true := by simp; omega
  rw [e1, e2, hueK_eq] at h
  unfold rowOk
  simpa using h
noncomputable abbrev numN (r g b : Nat) : Nat := (256 * (r : Int) + 16 * (g : Int) + (b : Int)).toNat
theorem num_parts {r g b : Nat} (hr : r < 16) (hg : g < 16) (hb : b < 16) : numN r g b / 256 = r ∧ numN r g b / 16 % 16 = g ∧ numN r g b % 16 = b := by
  have := fin16 (f := fun p => decide (numOf p / 256 = p.1.toNat ∧ numOf p / 16 % 16 = p.2.1.toNat ∧ numOf p % 16 = p.2.2.toNat)) (by decide +kernel) (p := ((r : Int), (g : Int), (b : Int))) ⟨⟨Int.natCast_nonneg _, Int.ofNat_lt.mpr hr⟩, ⟨Int.natCast_nonneg _, Int.ofNat_lt.mpr hg⟩, ⟨Int.natCast_nonneg _, Int.ofNat_lt.mpr hb⟩⟩
  exact of_decide_eq_true this
theorem sat_hue {p : T3} (h : Sat p) : HueOk (numOf p) := by
  have q := fin16 (f := fun p => decide (Sat p → 0 < numOf p ∧ min (min (numOf p / 256) (numOf p / 16 % 16)) (numOf p % 16) < max (max (numOf p / 256) (numOf p / 16 % 16)) (numOf p % 16))) (by decide +kernel) h.1
  have q := of_decide_eq_true q h
  obtain ⟨r, g, b, rfl, hr, hg, hb, h0, h1⟩ := sat_nat h
  obtain ⟨e1, e2, e3⟩ := num_parts hr hg hb
  have row := row_at hr hg hb h0 h1
  unfold rowOk rowF at row
  refine ⟨numOf_lt h.1, q.1, q.2, ?_⟩
  show okF (hueF (numN r g b / 256) (numN r g b / 16 % 16) (numN r g b % 16)) = true
  rw [e1, e2, e3]
  exact (Bool.and_eq_true_iff.mp row).1
theorem step_num {p : T3} (h : In16 p) : stepN (numOf p) = (p.1 - p.2.2, p.2.1 - p.2.2) := of_decide_eq_true (fin16 (f := fun p => decide (stepN (numOf p) = (p.1 - p.2.2, p.2.1 - p.2.2))) (by decide +kernel) h)
/-- what a row tells -/
structure RowSays (r g b m n f : Nat) : Prop where
  m0 : 0 < m
  m15 : m ≤ 15
  n6 : n < 6 * m
  st : comb (n / m) ((m : Int) - (n % m : Nat)) (n % m : Nat) = ((r : Int) - b, (g : Int) - b)
  lo : f * (6 * m) ≤ n * 2 ^ 1074 + 2 ^ 1060
  hi : n * 2 ^ 1074 ≤ f * (6 * m) + 2 ^ 1060
theorem row_says {r g b : Nat} (hr : r < 16) (hg : g < 16) (hb : b < 16) (h0 : r = 0 ∨ g = 0 ∨ b = 0) (h1 : 0 < r ∨ 0 < g ∨ 0 < b) : RowSays r g b (max (max r g) b) (hnum r g b) (fv (hueF r g b)) := by
  have row := row_at hr hg hb h0 h1
  unfold rowOk rowF at row
  simp only [Bool.and_eq_true] at row
  obtain ⟨_, a, c, d, e⟩ := row
  exact ⟨by omega, by omega, of_decide_eq_true a, of_decide_eq_true c, of_decide_eq_true d, of_decide_eq_true e⟩
theorem ord_num {P E m n f m' n' f' : Nat} (hm : 0 < m) (hm15 : m ≤ 15) (hm' : 0 < m') (hm15' : m' ≤ 15) (hP : 451 * E ≤ P) (hE : 0 < E) (hi : n * P ≤ f * (6 * m) + E) (lo : f' * (6 * m') ≤ n' * P + E) (hf : f ≤ f') : n * m' ≤ n' * m := by
  rcases Nat.lt_or_ge (n' * m) (n * m') with q | q
  · exfalso
    have k1 : (n * P) * m' ≤ (f * (6 * m) + E) * m' := Nat.mul_le_mul_right _ hi
    have k2 : (f' * (6 * m')) * m ≤ (n' * P + E) * m := Nat.mul_le_mul_right _ lo
    have k3 : (n' * m + 1) * P ≤ (n * m') * P := Nat.mul_le_mul_right _ q
    have k4 : f * (6 * m * m') ≤ f' * (6 * m * m') := Nat.mul_le_mul_right _ hf
    have k5 : E * m' ≤ E * 15 := Nat.mul_le_mul_left _ hm15'
    have k6 : E * m ≤ E * 15 := Nat.mul_le_mul_left _ hm15
    have r1 : (n * P) * m' = (n * m') * P := by grind
    have r2 : (f * (6 * m) + E) * m' = f * (6 * m * m') + E * m' := by grind
    have r3 : (f' * (6 * m')) * m = f' * (6 * m * m') := by grind
    have r4 : (n' * P + E) * m = (n' * m) * P + E * m := by grind
    have r5 : (n' * m + 1) * P = (n' * m) * P + P := by grind
    rw [r1, r2] at k1
    rw [r3, r4] at k2
    rw [r5] at k3
    omega
  · exact q
/-- the order by hue is the order by angle -/
theorem hue_ale {p q : T3} (hp : Sat p) (hq : Sat q) (h : hk (numOf p) ≤ hk (numOf q)) : Ale (stepN (numOf p)) (stepN (numOf q)) := by
  rw [step_num hp.1, step_num hq.1]
  obtain ⟨r, g, b, rfl, hr, hg, hb, h0, h1⟩ := sat_nat hp
  obtain ⟨r', g', b', rfl, hr', hg', hb', h0', h1'⟩ := sat_nat hq
  obtain ⟨e1, e2, e3⟩ := num_parts hr hg hb
  obtain ⟨e1', e2', e3'⟩ := num_parts hr' hg' hb'
  have s := row_says hr hg hb h0 h1
  have s' := row_says hr' hg' hb' h0' h1'
  have hf : fv (hueF r g b) ≤ fv (hueF r' g' b') := by
    have : fv (hueF (numN r g b / 256) (numN r g b / 16 % 16) (numN r g b % 16)) ≤ fv (hueF (numN r' g' b' / 256) (numN r' g' b' / 16 % 16) (numN r' g' b' % 16)) := h
    rw [e1, e2, e3, e1', e2', e3'] at this
    exact this
  have ord := ord_num (P := 2 ^ 1074) (E := 2 ^ 1060) s.m0 s.m15 s'.m0 s'.m15 (by decide +kernel) (by decide +kernel) s.hi s'.lo hf
  show Ale ((r : Int) - b, (g : Int) - b) ((r' : Int) - b', (g' : Int) - b')
  rw [← s.st, ← s'.st]
  generalize hnum r g b = n at s ord ⊢
  generalize hnum r' g' b' = n' at s' ord ⊢
  generalize max (max r g) b = m at s ord ⊢
  generalize max (max r' g') b' = m' at s' ord ⊢
  have m0 := s.m0
  have m0' := s'.m0
  have d1 : n % m < m := Nat.mod_lt _ m0
  have d2 : n' % m' < m' := Nat.mod_lt _ m0'
  have q1 : m * (n / m) + n % m = n := Nat.div_add_mod n m
  have q2 : m' * (n' / m') + n' % m' = n' := Nat.div_add_mod n' m'
  refine comb_ale ((Nat.div_lt_iff_lt_mul m0').mpr s'.n6) ?_ (by omega) (by omega) (by omega) (by omega) ?_
  · rw [Nat.le_div_iff_mul_le m0']
    have k1 : (n / m * m') * m ≤ n' * m := by
      have : n / m * m ≤ n := Nat.div_mul_le_self n m
      have := Nat.mul_le_mul_right m' this
      have r1 : n / m * m' * m = n / m * m * m' := by grind
      omega
    exact Nat.le_of_mul_le_mul_right k1 m0
  · intro e
    have k1 : (m * (n / m) + n % m) * m' ≤ (m' * (n' / m') + n' % m') * m := by rw [q1, q2]; exact ord
    rw [← e] at k1
    have r1 : (m * (n / m) + n % m) * m' = m * (n / m) * m' + n % m * m' := Nat.add_mul _ _ _
    have r2 : (m' * (n / m) + n' % m') * m = m * (n / m) * m' + n' % m' * m := by grind
    have k2 : n % m * m' ≤ n' % m' * m := by omega
    have k3 : ((n % m : Nat) : Int) * (m' : Int) ≤ ((n' % m' : Nat) : Int) * (m : Int) := by exact_mod_cast k2
    have r3 : ((m' : Int) - (n' % m' : Nat) + (n' % m' : Nat)) = m' := by omega
    have r4 : ((m : Int) - (n % m : Nat) + (n % m : Nat)) = m := by omega
    rw [r3, r4]
    exact k3
theorem sat_ne {p : T3} (h : Sat p) : stepN (numOf p) ≠ (0, 0) := of_decide_eq_true (fin16 (f := fun p => decide (Sat p → stepN (numOf p) ≠ (0, 0))) (by decide +kernel) h.1) h
section
end

-- M33
section
variable {prog : Program} {w : World} {A : Around} {R : Result → Shared → Prop} {s : Shared} {elt ix iy : Expr} {tx ty : Expr} {scope : Scope} {pos : Pos} {it acc : Value} {env : Env}
theorem turn1 : compTurn (.ListComp elt [⟨tx, ix, [], 0⟩, ⟨ty, iy, [], 0⟩] scope pos) 1 it acc env = (standAt iy.pos >>= fun _ => pyNext it >>= fun r => match r with
      | none => pure (.done .next)
      | some v => letOwnedTupleGo ty it v >>= fun _ => assign ty env v >>= fun _ =>
        (eval elt env >>= fun x => call (.builtin "list.append") [acc, x] >>= fun _ => pure ()) >>= fun _ =>
          again (.compLoop (.ListComp elt [⟨tx, ix, [], 0⟩, ⟨ty, iy, [], 0⟩] scope pos) 1 it acc env)) := by rfl
theorem turn0 : compTurn (.ListComp elt [⟨tx, ix, [], 0⟩, ⟨ty, iy, [], 0⟩] scope pos) 0 it acc env = (standAt ix.pos >>= fun _ => pyNext it >>= fun r => match r with
      | none => pure (.done .next)
      | some v => letOwnedTupleGo tx it v >>= fun _ => assign tx env v >>= fun _ =>
        eval iy env >>= fun x => standAt iy.pos >>= fun _ => foldedSetIterable iy env x >>= fun x => holding [x] (pyIter x) >>= fun i2 => runOwn (.compStart (.ListComp elt [⟨tx, ix, [], 0⟩, ⟨ty, iy, [], 0⟩] scope pos) 1 i2 acc env) env >>= fun _ =>
          again (.compLoop (.ListComp elt [⟨tx, ix, [], 0⟩, ⟨ty, iy, [], 0⟩] scope pos) 0 it acc env)) := by rfl
theorem loop1 (I : Nat → Shared → Prop)
    (turn : ∀ n s, I n s → wpAny (model prog w) A (pyNext it) (fun r s₁ => match r with
      | none => R (.ok .next) s₁
      | some v => wpAny (model prog w) A (assign ty env v) (fun _ s₂ => wpAny (model prog w) A (eval elt env) (fun x s₃ =>
          wpAny (model prog w) A (call (.builtin "list.append") [acc, x]) (fun _ s₄ => ∃ m, m < n ∧ I m s₄) (fun _ _ => False) s₃) (fun _ _ => False) s₂) (fun _ _ => False) s₁) (fun _ _ => False) s)
    (n : Nat) (h : I n s) (ht : ∀ v, letOwnedTupleGo ty it v = pure () := by intro _; rfl) :
    codeAny (model prog w) A (.compLoop (.ListComp elt [⟨tx, ix, [], 0⟩, ⟨ty, iy, [], 0⟩] scope pos) 1 it acc env) R s := by
  refine codeAny_loop rfl I (fun n s hI => ?_) n h
  show wpAny _ _ ((compTurn (.ListComp elt [⟨tx, ix, [], 0⟩, ⟨ty, iy, [], 0⟩] scope pos) 1 it acc env).onRaise (fun x => do noteFrame x env; theTreesLotGoes x)) _ _ s
  refine wpAny_noted ?_
  rw [turn1]
  refine wpAny_bind (wpAny_standAt (wpAny_bind (wpAny_mono (turn n s hI) (fun r s₁ h₁ => ?_) fun _ _ h' => h'.elim)))
  cases r with
  | none => exact wpAny_pure h₁
  | some v =>
    refine wpAny_bind (wpAny_of_eq (ht v) ?_)
    exact wpAny_bind (wpAny_mono h₁ (fun _ s₂ h₂ => wpAny_bind (wpAny_bind (wpAny_mono h₂ (fun x s₃ h₃ => wpAny_bind (wpAny_mono h₃
      (fun _ s₄ h₄ => wpAny_pure (wpAny_pure ⟨rfl, h₄⟩)) fun _ _ h' => h'.elim)) fun _ _ h' => h'.elim))) fun _ _ h' => h'.elim)
theorem start1 (h0 : codeAny (model prog w) A (.compLoop (.ListComp elt [⟨tx, ix, [], 0⟩, ⟨ty, iy, [], 0⟩] scope pos) 1 it acc env) R s)
    (h : wpAny (model prog w) A (pyIter it) (fun it' s' => codeAny (model prog w) A (.compLoop (.ListComp elt [⟨tx, ix, [], 0⟩, ⟨ty, iy, [], 0⟩] scope pos) 1 it' acc env) R s') (fun _ _ => False) s) :
    codeAny (model prog w) A (.compStart (.ListComp elt [⟨tx, ix, [], 0⟩, ⟨ty, iy, [], 0⟩] scope pos) 1 it acc env) R s := by
  refine codeAny_of_tree ?_
  show wpAny _ _ ((compStart (.ListComp elt [⟨tx, ix, [], 0⟩, ⟨ty, iy, [], 0⟩] scope pos) 1 it acc env).onRaise (fun x => do noteFrame x env; standAt theWindowsPlace)) _ _ s
  refine wpAny_notedAt ?_
  unfold compStart
  show wpAny _ _ (ask >>= _) _ _ s
  refine wpAny_bind (wpAny_askSetting (wpAny_ite ?_))
  split
  · first
      | exact wpAny_bind (wpAny_pure (wpAny_pure (And.intro rfl h0)))
      | exact wpAny_pure (And.intro rfl h0)
  · refine wpAny_bind (wpAny_rule ?_)
    show wpAny _ _ (standAt iy.pos >>= _) _ _ s
    exact wpAny_bind (wpAny_standAt (wpAny_bind (wpAny_mono h (fun it' s' h' => wpAny_pure (And.intro rfl h')) fun _ _ x => x.elim)))
theorem loop0 (hA : A.mark none = A) (I : Nat → Shared → Prop)
    (turn : ∀ n s, I n s → wpAny (model prog w) A (pyNext it) (fun r s₁ => match r with
      | none => R (.ok .next) s₁
      | some v => wpAny (model prog w) A (assign tx env v) (fun _ s₂ => wpAny (model prog w) A (eval iy env) (fun x s₃ => wpAny (model prog w) A (pyIter x) (fun i2 s₄ =>
          codeAny (model prog w) A (.compStart (.ListComp elt [⟨tx, ix, [], 0⟩, ⟨ty, iy, [], 0⟩] scope pos) 1 i2 acc env) (fun r s₅ => match r with | .ok _ => ∃ m, m < n ∧ I m s₅ | .error _ => False) s₄) (fun _ _ => False) s₃) (fun _ _ => False) s₂) (fun _ _ => False) s₁) (fun _ _ => False) s)
    (n : Nat) (h : I n s) (ht : ∀ v, letOwnedTupleGo tx it v = pure () := by intro _; rfl) (hs : ∀ x, foldedSetIterable iy env x = pure x := by intro _; rfl) :
    codeAny (model prog w) A (.compLoop (.ListComp elt [⟨tx, ix, [], 0⟩, ⟨ty, iy, [], 0⟩] scope pos) 0 it acc env) R s := by
  refine codeAny_loop rfl I (fun n s hI => ?_) n h
  show wpAny _ _ ((compTurn (.ListComp elt [⟨tx, ix, [], 0⟩, ⟨ty, iy, [], 0⟩] scope pos) 0 it acc env).onRaise (fun x => do noteFrame x env; theTreesLotGoes x)) _ _ s
  refine wpAny_noted ?_
  rw [turn0]
  refine wpAny_bind (wpAny_standAt (wpAny_bind (wpAny_mono (turn n s hI) (fun r s₁ h₁ => ?_) fun _ _ h' => h'.elim)))
  cases r with
  | none => exact wpAny_pure h₁
  | some v =>
    refine wpAny_bind (wpAny_of_eq (ht v) ?_)
    refine wpAny_bind (wpAny_mono h₁ (fun _ s₂ h₂ => wpAny_bind (wpAny_mono h₂ (fun x s₃ h₃ => ?_) fun _ _ h' => h'.elim)) fun _ _ h' => h'.elim)
    refine wpAny_bind (wpAny_standAt (wpAny_bind (wpAny_of_eq (hs x) (wpAny_bind (wpAny_holding (wpAny_mono h₃ (fun i2 s₄ h₄ => ?_) fun _ _ h' => h'.elim))))))
    refine wpAny_bind (wpAny_runOwn ?_)
    show codeAny (model prog w) (A.mark none) _ _ _
    rw [hA]
    refine codeAny_mono h₄ fun r s₅ h₅ => ?_
    cases r with
    | ok f => exact wpAny_pure ⟨rfl, h₅⟩
    | error e => exact h₅.elim
end
section
end

-- M34
section
variable {prog : Program} {w : World} {A : Around} {s : Shared}
/-- a comprehension with two fors over two lists -/
theorem compXY {E : Value → Shared → Prop} {env : Env} {elt ix iy : Expr} {x y : Str} {px py : Pos} {scope : Scope} {cl : List (Str × Addr)} {pos : Pos} {Q : Value → Shared → Prop} (F : Value → Value → Value → Prop) (hA : A.mark none = A) (hh : A.handled = none)
    (hclos : closureFor scope env = pure cl) (hcell : ∀ y ∈ scope.names, y.2 ≠ .cell) (hkind : scope.kind = .function)
    (hnames : ∀ y ∈ scope.names, y.2 = .local → scope.names.lookup y.1 = some .local) (hx : scope.names.lookup x = some .local) (hy : scope.names.lookup y = some .local) (hxy : x ≠ y)
    (h : wpAny (model prog w) A (eval ix env) (fun xv s₁ => Stop (∃ l1 l2 vs us, xv = .ref l1 ∧ s₁.heap.IsList l1 (List.toArray vs) ∧ s₁.heap.IsList l2 (List.toArray us) ∧ vs.length * us.length + us.length < sizeLine ∧
      (∀ C s₃ m₃ (R : Value → Shared → Prop), s₃.heap.Ns C m₃ → Kp s₁.heap s₃.heap → R (.ref l2) s₃ → wpAny (model prog w) A (eval iy (compEnvC scope cl C env)) R (fun _ _ => False) s₃) ∧
      (∀ C v u s₃ m₃ (R : Value → Shared → Prop), v ∈ vs → u ∈ us → s₃.heap.Ns C m₃ → m₃ x = some v → m₃ y = some u → Kp s₁.heap s₃.heap → (∀ z h' tk', F v u z → Kp s₃.heap h' → R z { s₃ with heap := h', toks := tk' }) → wpAny (model prog w) A (eval elt (compEnvC scope cl C env)) R (fun _ _ => False) s₃) ∧
      (∀ D h' tk' zs, h'.PlainList D zs → s₁.heap.get? D = none → Kp s₁.heap h' → Paired (fun p z => F p.1 p.2 z) (vs.flatMap fun v => us.map fun u => (v, u)) zs.toList → Q (.ref D) { s₁ with heap := h', toks := tk' }))) E s)
    (hs : ∀ x, foldedSetIterable ix env x = pure x := by intro _; rfl) (hs2 : ∀ C x, foldedSetIterable iy (compEnvC scope cl C env) x = pure x := by intro _ _; rfl) :
    wpAny (model prog w) A (eval (.ListComp elt [⟨.Name x px, ix, [], 0⟩, ⟨.Name y py, iy, [], 0⟩] scope pos) env) Q E s := by
  rw [eval_ListComp]
  refine wpAny_comprehension_free (use := none) rfl hs hclos hkind hnames (wpAny_mono h (fun xv s₁ h₁ => ?_) fun _ _ e => e)
  obtain ⟨l1, l2, vs, us, rfl, hl1, hl2, hz, hiy, helt, hfin⟩ := h₁
  refine src_list hh hl1 _ _ fun I fp St h W ho hstab st hfp hI hk => ?_
  refine wpAny_newObj_type (wpAny_newFunctionEnv hcell (by intro y hy; simp at hy) (fun h₁ hns₁ hsb₁ => ?_) hkind)
  dsimp only at hns₁ hsb₁ ⊢
  generalize hH2 : h.push { cls := .type "list", dict := none, data := .seq ([] : List Value).toArray } = H2 at hns₁ hsb₁ ⊢
  have hC : H2.objs.size = h.objs.size + 1 := by rw [← hH2, Heap.size_push]
  have hDC : h.objs.size ≠ H2.objs.size := by rw [hC]; exact Nat.ne_of_lt (Nat.lt_succ_self _)
  have below : ∀ b, b < h.objs.size → b ≠ H2.objs.size ∧ b ≠ h.objs.size := fun b hb => ⟨by rw [hC]; exact Nat.ne_of_lt (Nat.lt_succ_of_lt hb), Nat.ne_of_lt hb⟩
  have old : Kp h h₁ := fun b o e => hsb₁.extBut b o (below b (Heap.lt_size e)).1 (Heap.get?_push_of_some _ (hH2 ▸ Heap.get?_push_of_some _ e))
  have gD : h₁.PlainList h.objs.size #[] := ⟨_, hsb₁.extBut _ _ hDC (Heap.get?_push_of_some _ (hH2 ▸ Heap.get?_push_size _ rfl))⟩
  have fresh : ∀ a, h.objs.size ≤ a → h.get? a = none := fun a ha => by
    cases e : h.get? a with
    | none => rfl
    | some o' => exact absurd (Heap.lt_size e) (Nat.not_lt.mpr ha)
  have fD : h.get? h.objs.size = none := fresh _ (Nat.le_refl _)
  have fC : h.get? H2.objs.size = none := fresh _ (by rw [hC]; exact Nat.le_succ _)
  have hns := hns₁
  clear hns₁ hsb₁ hC fresh below
  generalize h.objs.size = D at gD hDC fD ⊢
  generalize H2.objs.size = C at hDC fC hns ⊢
  clear hH2
  have hIo := ho _ _ st
  have iD : I ≠ D := fun q => by obtain ⟨o, e⟩ := hIo; rw [q, fD] at e; cases e
  have iC : I ≠ C := fun q => by obtain ⟨o, e⟩ := hIo; rw [q, fC] at e; cases e
  have kSt : ∀ {i ha hb}, St i ha → (∀ o, ha.get? I = some o → hb.get? I = some o) → (∀ b o, b ≠ I → h.get? b = some o → hb.get? b = some o) → St i hb := fun {i ha hb} st e k => by
    obtain ⟨o, q⟩ := ho _ _ st
    obtain ⟨o', e', r⟩ := id hl1
    exact hstab _ _ _ o st q (e o q) ⟨o', k _ _ (fun z => by subst z; rw [hI] at e'; cases e') (hk _ _ e'), r⟩
  have kS : ∀ {hb}, (∀ b o, b ≠ I → h.get? b = some o → hb.get? b = some o) → Kp s₁.heap hb := fun {hb} k b o e => k b o (fun z => by subst z; rw [hI] at e; cases e) (hk b o e)
  have loop : ∀ s₃ : Shared, s₃ = { s₁ with heap := h₁, toks := s₁.toks + ([] : List (Str × Value)).length } →
      codeAny (model prog w) A (.compLoop (.ListComp elt [⟨.Name x px, ix, [], 0⟩, ⟨.Name y py, iy, [], 0⟩] scope pos) 0 (.ref I) (.ref D) (compEnvC scope cl C env))
        (compPost (model prog w) A E none Q (.ref D) C) s₃ := by
    rintro s₃ rfl
    refine loop0 hA (fun k s' => ∃ i h' tk zs m, s' = { s₁ with heap := h', toks := tk } ∧ k = vs.length - i ∧ i ≤ vs.length ∧ St i h' ∧ h'.PlainList D zs ∧ h'.Ns C m ∧
        Paired (fun p z => F p.1 p.2 z) ((vs.take i).flatMap fun v => us.map fun u => (v, u)) zs.toList ∧ (∀ b o, b ≠ I → h.get? b = some o → h'.get? b = some o)) ?_ (vs.length)
      ⟨0, h₁, _, #[], _, rfl, rfl, Nat.zero_le _, W.frame _ _ _ st (fun b _ o e => old b o e), gD, hns, .nil, fun b o _ e => old b o e⟩ (hs := hs2 C)
    rintro k s' ⟨i, h', tk, zs, m, rfl, rfl, hi, st', gD', hns', hF, hkp⟩
    by_cases hlt : i < vs.length
    · refine W.item i _ _ _ (by simpa using hlt) st' fun v h₂ tk₂ hv st₂ hk₂ => ?_
      have hv : vs[i]? = some v := by simpa using hv
      have k₂ : ∀ b o, b ≠ I → h.get? b = some o → h₂.get? b = some o := fun b o hb e => hk₂ b o (by simpa using hb) (hkp b o hb e)
      refine wpAny_assign_Name (wpAny_storeName_local (lookup_relabel_local hx) (hns'.at' fun o e => hk₂ _ o (by simpa using Ne.symm iC) e) (fun h₃ hn₃ hs₃ => ?_) (by simp [compEnvC, relabel, hkind]))
      have k₃ : ∀ b o, b ≠ I → h.get? b = some o → h₃.get? b = some o := fun b o hb e => hs₃.extBut b o (fun q => by subst q; exact absurd e (by rw [show h.get? _ = none from fC]; exact fun q => nomatch q)) (k₂ b o hb e)
      replace hn₃ : h₃.Ns C _ := hn₃
      have st₃ : St (i + 1) h₃ := kSt st₂ (fun o e => hs₃.extBut _ o iC e) k₃
      refine hiy C _ _ _ hn₃ (kS k₃) ?_
      have hl2' : h₃.IsList l2 us.toArray := by obtain ⟨o, e, r⟩ := hl2; exact ⟨o, kS k₃ _ _ e, r⟩
      refine src_list (s := { s₁ with heap := h₃, toks := tk₂ + 1 }) hh hl2' _ _ fun I2 fp2 St2 h₄ W2 ho2 hstab2 st4 _ hI2 hk₄ => ?_
      have hIo3 := ho _ _ st₃
      have iI2 : I ≠ I2 := fun q => by obtain ⟨o, e⟩ := hIo3; rw [q, show h₃.get? I2 = none from hI2] at e; cases e
      have gD3 : h₃.PlainList D zs := by
        obtain ⟨nD, eD⟩ := gD'
        exact ⟨nD, hs₃.extBut _ _ hDC (hk₂ _ _ (by simpa using Ne.symm iD) eD)⟩
      have dI2 : D ≠ I2 := fun q => by obtain ⟨nD, eD⟩ := gD3; rw [q, show h₃.get? I2 = none from hI2] at eD; cases eD
      have cI2 : C ≠ I2 := fun q => by obtain ⟨o, _, _, e, _⟩ := hn₃; rw [q, show h₃.get? I2 = none from hI2] at e; cases e
      have hk₄ : Kp h₃ h₄ := hk₄
      have hF0 : Paired (fun p z => F p.1 p.2 z) (((vs.take i).flatMap fun v => us.map fun u => (v, u)) ++ (us.take 0).map fun u => (v, u)) zs.toList := by simpa using hF
      have hvm : v ∈ vs := List.mem_of_getElem? hv
      have hlen : ((vs.take i).flatMap fun v => us.map fun u => (v, u)).length + us.length ≤ vs.length * us.length + us.length := by
        have : ((vs.take i).flatMap fun v => us.map fun u => (v, u)).length = i * us.length := by
          rw [List.length_flatMap]
          simp only [List.length_map, List.map_const', List.sum_replicate_nat, List.length_take, Nat.min_eq_left hi]
        rw [this]
        exact Nat.add_le_add_right (Nat.mul_le_mul_right _ hi) _
      have inner : codeAny (model prog w) A (.compLoop (.ListComp elt [⟨.Name x px, ix, [], 0⟩, ⟨.Name y py, iy, [], 0⟩] scope pos) 1 (.ref I2) (.ref D) (compEnvC scope cl C env))
          (fun r s₅ => match r with
            | .ok _ => ∃ m', m' < vs.length - i ∧ ∃ i h' tk zs m, s₅ = { s₁ with heap := h', toks := tk } ∧ m' = vs.length - i ∧ i ≤ vs.length ∧ St i h' ∧ h'.PlainList D zs ∧ h'.Ns C m ∧
                Paired (fun p z => F p.1 p.2 z) ((vs.take i).flatMap fun v => us.map fun u => (v, u)) zs.toList ∧ (∀ b o, b ≠ I → h.get? b = some o → h'.get? b = some o)
            | .error _ => False) { s₁ with heap := h₄, toks := tk₂ + 1 } := by
        refine loop1 (fun k s' => ∃ j h' tk zs m, s' = { s₁ with heap := h', toks := tk } ∧ k = us.length - j ∧ j ≤ us.length ∧ St (i + 1) h' ∧ St2 j h' ∧ h'.PlainList D zs ∧ h'.Ns C m ∧ m x = some v ∧
            Paired (fun p z => F p.1 p.2 z) (((vs.take i).flatMap fun v => us.map fun u => (v, u)) ++ (us.take j).map fun u => (v, u)) zs.toList ∧ (∀ b o, b ≠ I → h.get? b = some o → h'.get? b = some o)) ?_ us.length
          ⟨0, h₄, _, zs, _, rfl, rfl, Nat.zero_le _, kSt st₃ (fun o e => hk₄ _ _ e) (fun b o hb e => hk₄ _ _ (k₃ b o hb e)), st4, (by obtain ⟨nD, eD⟩ := gD3; exact ⟨nD, hk₄ _ _ eD⟩), hn₃.keeps hk₄, (by simp), hF0, fun b o hb e => hk₄ _ _ (k₃ b o hb e)⟩
        rintro k s' ⟨j, h5, tk5, zs, m, rfl, rfl, hj, st5, st25, gD5, hns5, hm5, hF5, hk5⟩
        have b2 : ∀ b o, h.get? b = some o → b ≠ I2 := fun b o e q => by
          subst q
          by_cases z : b = I
          · exact iI2 z.symm
          · have := k₃ b o z e; rw [show h₃.get? b = none from hI2] at this; cases this
        by_cases hltj : j < us.length
        · refine W2.item j _ _ _ (by simpa using hltj) st25 fun u h6 tk6 hu st26 hk6 => ?_
          have hu : us[j]? = some u := by simpa using hu
          have hum : u ∈ us := List.mem_of_getElem? hu
          refine wpAny_assign_Name (wpAny_storeName_local (lookup_relabel_local hy) (hns5.at' fun o e => hk6 _ o (by simpa using cI2) e) (fun h7 hn7 hs7 => ?_) (by simp [compEnvC, relabel, hkind]))
          replace hn7 : h7.Ns C _ := hn7
          have k7 : ∀ b o, b ≠ I → h.get? b = some o → h7.get? b = some o := fun b o hb e => hs7.extBut b o (fun q => by subst q; exact absurd e (by rw [show h.get? _ = none from fC]; exact fun q => nomatch q)) (hk6 b o (by simpa using b2 b o e) (hk5 b o hb e))
          refine helt C v u _ _ _ hvm hum hn7 (by simp [hxy, hm5]) (by simp) (kS k7) fun z h8 tk8 hF8 hk8 => ?_
          have hk8 : Kp h7 h8 := hk8
          obtain ⟨nD, eD⟩ := gD5
          have hsz : zs.size ≤ sizeLine := by
            have e1 := hF5.length
            have e4 : zs.toList.length = zs.size := by simp
            rw [List.length_append, List.length_map, List.length_take] at e1
            omega
          refine wpAny_list_append_plain (hsz := hsz) (items := zs) ⟨nD, hk8 _ _ (hs7.extBut _ _ hDC (hk6 _ _ (by simpa using dI2) eD))⟩ fun h9 hl9 hs9 => ?_
          have k9 : ∀ b o, b ≠ I → h.get? b = some o → h9.get? b = some o := fun b o hb e => hs9.extBut b o (fun q => by subst q; exact absurd e (by rw [show h.get? _ = none from fD]; exact fun q => nomatch q)) (hk8 _ _ (k7 b o hb e))
          have all9 : ∀ b o, b ≠ C → b ≠ D → b ≠ I2 → h5.get? b = some o → h9.get? b = some o := fun b o c d e q => hs9.extBut b o d (hk8 _ _ (hs7.extBut b o c (hk6 b o (by simpa using e) q)))
          refine ⟨us.length - (j + 1), by omega, j + 1, h9, _, zs.push z, _, rfl, rfl, hltj, kSt st5 (fun o e => all9 _ o iC iD iI2 e) k9, ?_, hl9, (hn7.keeps hk8).sameBut hs9 (Ne.symm hDC), (by simp [hxy, hm5]), ?_, k9⟩
          · obtain ⟨o2, e2⟩ := ho2 _ _ st26
            obtain ⟨o', e', r⟩ := id hl2
            exact hstab2 _ _ _ o2 st26 e2 (hs9.extBut _ _ (Ne.symm dI2) (hk8 _ _ (hs7.extBut _ _ (Ne.symm cI2) e2))) ⟨o', kS k9 _ _ e', r⟩
          · rw [List.take_succ, hu, List.map_append, ← List.append_assoc]
            simpa using Paired.snoc hF5 hF8
        · have hjn : j = us.length := by omega
          subst hjn
          refine W2.done _ _ _ (by simpa using st25) fun h6 tk6 hk6 => ?_
          have k6 : ∀ b o, b ≠ I → h.get? b = some o → h6.get? b = some o := fun b o hb e => hk6 b o (by simpa using b2 b o e) (hk5 b o hb e)
          obtain ⟨nD, eD⟩ := gD5
          refine ⟨vs.length - (i + 1), by omega, i + 1, h6, tk6, zs, m, rfl, rfl, hlt, kSt st5 (fun o e => hk6 _ o (by simpa using iI2) e) k6, ⟨nD, hk6 _ _ (by simpa using dI2) eD⟩, hns5.at' fun o e => hk6 _ o (by simpa using cI2) e, ?_, k6⟩
          rw [List.take_succ, hv, List.flatMap_append]
          simpa using hF5
      exact start1 inner (W2.self 0 _ _ _ st4 inner)
    · have hin : i = vs.length := by omega
      subst hin
      refine W.done _ _ _ (by simpa using st') fun h₂ tk₂ hk₂ => ?_
      obtain ⟨nD, eD⟩ := gD'
      refine ⟨m, hns'.at' fun o e => hk₂ _ o (by simpa using Ne.symm iC) e, fun h3 hs3 => ?_⟩
      have k3 : ∀ b o, b ≠ I → h.get? b = some o → h3.get? b = some o := fun b o hb e => hs3.extBut b o (fun q => by subst q; exact absurd e (by rw [show h.get? _ = none from fC]; exact fun q => nomatch q)) (hk₂ b o (by simpa using hb) (hkp b o hb e))
      refine hfin D h3 _ zs ⟨nD, hs3.extBut _ _ hDC (hk₂ _ _ (by simpa using Ne.symm iD) eD)⟩ ?_ (kS k3) (by simpa using hF)
      cases e : s₁.heap.get? D with
      | none => rfl
      | some o => have := hk D o e; rw [fD] at this; cases this
  exact codeAny_compStart_list (loop _ rfl) (W.self 0 _ _ _ (W.frame _ _ _ st (fun b _ o e => old b o e)) (loop _ rfl))
/-- an assigned comprehension -/
theorem compA {E : Value → Shared → Prop} {env : Env} {elt iter : Expr} {x y : Str} {px py : Pos} {scope : Scope} {cl : List (Str × Addr)} {pos spos : Pos} {Q : Flow → Shared → Prop} (F : Value → Value → Prop)
    (hsw : swapsWith (.ListComp elt [⟨.Name x px, iter, [], 0⟩] scope pos) (some (.Name y py)) spos.line env = pure true)
    (hclos : closureFor scope env = pure cl) (hcell : ∀ y ∈ scope.names, y.2 ≠ .cell) (hkind : scope.kind = .function)
    (hnames : ∀ y ∈ scope.names, y.2 = .local → scope.names.lookup y.1 = some .local) (hx : scope.names.lookup x = some .local)
    (hy : env.kindOf y = some .local) (hp : (env.scope.kind == .class || (env.scope.kind == .module && env.locals != env.globals)) = false)
    (h : wpAny (model prog w) A (eval iter env) (fun xv s₁ => Stop (∃ n P Ex mL, Src prog w A xv s₁ n P Ex ∧ n ≤ sizeLine ∧ s₁.heap.Ns env.locals mL ∧
      (∀ C i v s₃ m₃ (R : Value → Shared → Prop), i < n → P i v → s₃.heap.Ns C m₃ → m₃ x = some v → Kp s₁.heap s₃.heap → (∀ y h' tk', F v y → Kp s₃.heap h' → R y { s₃ with heap := h', toks := tk' }) → wpAny (model prog w) A (eval elt (compEnvC scope cl C env)) R (fun _ _ => False) s₃) ∧
      (∀ D h' tk ys (vs : List Value), h'.PlainList D ys → s₁.heap.get? D = none → h'.Ns env.locals (fun z => if z = y then some (.ref D) else mL z) → (∀ b o, b ≠ env.locals → s₁.heap.get? b = some o → h'.get? b = some o) → vs.length = n → (∀ j v, vs[j]? = some v → P j v) → Paired F vs ys.toList → Q .next { s₁ with heap := h', toks := tk }))) E s)
    (hs : ∀ x, foldedSetIterable iter env x = pure x := by intro _; rfl) :
    wpAny (model prog w) A (exec (.Assign [.Name y py] (.ListComp elt [⟨.Name x px, iter, [], 0⟩] scope pos) spos) env) Q E s := by
  refine wpAny_Assign_ListComp_free (fun _ => true) F hsw hclos hcell hkind hnames hx hy hp (wpAny_mono h (fun xv s₁ h₁ => ?_) fun _ _ e => e) hs
  obtain ⟨n, P, Ex, mL, src, hn, hL, helt, hfin⟩ := h₁
  refine src _ _ fun I fp St h W _ _ st hfp hI hk => ⟨I, fp, [I], n, fun i v => i < n ∧ P i v, St, mL, rfl, Walks.lt W, hn, st, hfp, ?_, hL.keeps hk, ⟨?_, ?_⟩, ?_⟩
  · intro q
    obtain ⟨o, _, _, e, _⟩ := hL
    rw [List.mem_singleton.mp q, hI] at e; cases e
  · intro C i v s₃ m₃ E' _ _ _ _ _ _
    exact wpAny_pure ⟨rfl, s₃.heap, s₃.toks, rfl, fun _ _ e => e⟩
  · intro C i v s₃ m₃ E' _ hP _ hns hm hkk _
    refine wpAny_mono (helt C i v s₃ m₃ _ hP.1 hP.2 hns hm (fun b o e => hkk b o (fun hb => ?_) (hk b o e)) fun y h' tk' hF hK => ⟨hF, h', tk', rfl, hK⟩) (fun _ _ q => q) (fun _ _ q => q.elim)
    simp at hb
    subst hb
    rw [hI] at e; cases e
  · intro D h' tk ys vs hD hl hpl hlen hP hF hns hkk
    rw [List.filter_eq_self.mpr fun _ _ => rfl] at hF
    refine hfin D h' tk ys vs hpl ?_ hns (fun b o hb e => hkk b o hb (fun hb => ?_) (hk b o e)) hlen (fun j v e => (hP j v e).2) hF
    · cases e : s₁.heap.get? D with
      | none => rfl
      | some o => have := hk D o e; rw [hD] at this; cases this
    · simp at hb
      subst hb
      rw [hI] at e; cases e
end
section
end

-- M35
noncomputable abbrev T5 (p : T3) : Prop := ((0 ≤ p.1 ∧ p.1 ≤ 5) ∧ (0 ≤ p.2.1 ∧ p.2.1 ≤ 5) ∧ (0 ≤ p.2.2 ∧ p.2.2 ≤ 5)) ∧ (p.1 = 0 ∨ p.2.1 = 0 ∨ p.2.2 = 0) ∧ (0 < p.1 ∨ 0 < p.2.1 ∨ 0 < p.2.2)
theorem T5.sat {p : T3} (h : T5 p) : Sat p := by
  obtain ⟨x, y, z⟩ := p
  obtain ⟨⟨⟨a1, a2⟩, ⟨b1, b2⟩, c1, c2⟩, d, e⟩ := h
  dsimp only at *
  refine ⟨⟨⟨a1, ?_⟩, ⟨b1, ?_⟩, c1, ?_⟩, d, e⟩ <;> (dsimp only; omega)
theorem tint_t5n : ∀ n : Fin 54, T5 (tintOf (n.1 : Int)) := by decide +kernel
theorem tint_t5 {x : Int} (h : 0 ≤ x ∧ x < 54) : T5 (tintOf x) := by
  obtain ⟨n, rfl⟩ : ∃ n : Nat, x = n := ⟨x.toNat, by omega⟩
  exact tint_t5n ⟨n, by omega⟩
theorem at3_0 (p : T3) : at3 p 0 = p.1 := rfl
theorem at3_1 (p : T3) : at3 p 1 = p.2.1 := rfl
theorem at3_2 (p : T3) : at3 p 2 = p.2.2 := rfl
theorem sumAt_nil (k : Nat) : sumAt [] k = 0 := rfl
theorem sumAt_cons (p : T3) (ls : List T3) (k : Nat) : sumAt (p :: ls) k = at3 p k + sumAt ls k := by unfold sumAt; simp
theorem sum_b : ∀ {ls : List T3}, (∀ p ∈ ls, T5 p) → (0 ≤ sumAt ls 0 ∧ sumAt ls 0 ≤ 5 * ls.length) ∧ (0 ≤ sumAt ls 1 ∧ sumAt ls 1 ≤ 5 * ls.length) ∧ (0 ≤ sumAt ls 2 ∧ sumAt ls 2 ≤ 5 * ls.length)
  | [], _ => by simp [sumAt_nil]
  | p :: ls, h => by
    have hp := h p (.head _)
    have hl := sum_b (ls := ls) fun q hq => h q (.tail _ hq)
    obtain ⟨⟨a, b, c⟩, _⟩ := hp
    rw [sumAt_cons, sumAt_cons, sumAt_cons, at3_0, at3_1, at3_2, List.length_cons]
    omega
/-- against three sums -/
noncomputable def av (p : T3) : T3 := (0 - p.1 - min (0 - p.1) (min (0 - p.2.1) (0 - p.2.2)), 0 - p.2.1 - min (0 - p.1) (min (0 - p.2.1) (0 - p.2.2)), 0 - p.2.2 - min (0 - p.1) (min (0 - p.2.1) (0 - p.2.2)))
theorem av_eq (ls : List T3) : againstL ls = av (sumAt ls 0, sumAt ls 1, sumAt ls 2) := rfl
theorem against_sat {ls : List T3} {n : Int} (hn : n ≤ 15) (a : 0 ≤ sumAt ls 0 ∧ sumAt ls 0 ≤ n) (b : 0 ≤ sumAt ls 1 ∧ sumAt ls 1 ≤ n) (c : 0 ≤ sumAt ls 2 ∧ sumAt ls 2 ≤ n) (hne : againstL ls ≠ (0, 0, 0)) : Sat (againstL ls) := by
  have lt {x : Int} (h : x ≤ n) : x < 16 := Int.lt_of_le_of_lt (Int.le_trans h hn) (by decide)
  have h := fin16 (f := fun p => decide (av p ≠ (0, 0, 0) → Sat (av p))) (by decide +kernel) (p := (sumAt ls 0, sumAt ls 1, sumAt ls 2)) ⟨⟨a.1, lt a.2⟩, ⟨b.1, lt b.2⟩, c.1, lt c.2⟩
  exact of_decide_eq_true h hne
theorem tints_sat {xs : List Int} (h : ∀ x ∈ xs, 0 ≤ x ∧ x < 54) (hl : xs.length ≤ 3) : ∀ p ∈ tintsOf xs, Sat p := by
  have h5 : ∀ p ∈ xs.map tintOf, T5 p := fun p hp => by
    obtain ⟨x, hx, rfl⟩ := List.mem_map.mp hp
    exact tint_t5 (h x hx)
  unfold tintsOf
  split
  · exact fun p hp => (h5 p hp).sat
  · rename_i hne
    intro p hp
    rcases List.mem_append.mp hp with hp | hp
    · exact (h5 p hp).sat
    · rw [List.mem_singleton.mp hp]
      obtain ⟨a, b, c⟩ := sum_b h5
      rw [List.length_map] at a b c
      exact against_sat (n := 5 * xs.length) (by omega) a b c hne
theorem turn_sat {p : T3} (h : Sat p) : Sat (againstL [p]) := by
  have e : againstL [p] = av p := by rw [av_eq, sumAt_cons, sumAt_cons, sumAt_cons, sumAt_nil, sumAt_nil, sumAt_nil, Int.add_zero, Int.add_zero, Int.add_zero]; rfl
  rw [e]
  exact of_decide_eq_true (fin16 (f := fun p => decide (Sat p → Sat (av p))) (by decide +kernel) h.1) h
theorem tints_len (xs : List Int) : xs.length ≤ (tintsOf xs).length ∧ (tintsOf xs).length ≤ xs.length + 1 := by
  unfold tintsOf
  split
  · rw [List.length_map]; omega
  · rw [List.length_append, List.length_map, List.length_singleton]; omega
theorem sumAt_app (a b : List T3) (k : Nat) : sumAt (a ++ b) k = sumAt a k + sumAt b k := by unfold sumAt; simp
/-- a lot of tints is grey -/
theorem tints_grey (xs : List Int) : sumAt (tintsOf xs) 0 = sumAt (tintsOf xs) 2 ∧ sumAt (tintsOf xs) 1 = sumAt (tintsOf xs) 2 := by
  unfold tintsOf
  generalize xs.map tintOf = ls
  split
  · rename_i e
    have e1 := congrArg (·.1) e
    have e2 := congrArg (·.2.1) e
    have e3 := congrArg (·.2.2) e
    unfold againstL at e1 e2 e3
    dsimp only at e1 e2 e3
    omega
  · simp only [sumAt_app, sumAt_cons, sumAt_nil, at3_0, at3_1, at3_2]
    unfold againstL
    dsimp only
    omega
section
end

-- GL
theorem pairS_cons (f : V2 → V2 → Int) (a : V2) (r : List V2) : pairS f (a :: r) = (r.map (f a)).sum + pairS f r := rfl
theorem spots_cons (p v : V2) (r : List V2) : spotsOf p (v :: r) = p :: spotsOf (p.1 + v.1, p.2 + v.2) r := rfl
theorem spots_len : ∀ (L : List V2) (p : V2), (spotsOf p L).length = L.length + 1
  | [], _ => rfl
  | v :: r, p => by rw [spots_cons, List.length_cons, spots_len r, List.length_cons]
theorem spots_pt : ∀ (L : List V2) (p : V2) (k : Nat), k ≤ L.length → pt (spotsOf p L) k = (p.1 + (sumV (L.take k)).1, p.2 + (sumV (L.take k)).2)
  | [], p, k, h => by
    have : k = 0 := Nat.le_zero.mp h
    subst this
    simp [spotsOf, sumV]
  | v :: r, p, 0, _ => by simp [spotsOf, sumV]
  | v :: r, p, k + 1, h => by
    show pt (spotsOf (p.1 + v.1, p.2 + v.2) r) k = _
    rw [spots_pt r _ k (Nat.le_of_succ_le_succ h), List.take_succ_cons]
    simp only [sumV, Prod.mk.injEq]
    omega
theorem sumV_snoc (A : List V2) (v : V2) : sumV (A ++ [v]) = ((sumV A).1 + v.1, (sumV A).2 + v.2) := by
  rw [sumV_app]; simp [sumV]
theorem spots_side {L : List V2} {p : V2} {k : Nat} (h : k < L.length) : sideAt (spotsOf p L) k = L[k] := by
  unfold sideAt
  rw [spots_pt L p k (Nat.le_of_lt h), spots_pt L p (k + 1) h, List.take_succ_eq_append_getElem h, sumV_snoc]
  refine Prod.ext ?_ ?_ <;> (dsimp only; omega)
theorem areaS_cons (a b : V2) (r : List V2) : areaS (a :: b :: r) = cr a b + areaS (b :: r) := by
  unfold areaS
  show ((List.range (r.length + 1)).map _).sum = _
  rw [List.range_succ_eq_map, List.map_cons, List.sum_cons, List.map_map]
  rfl
theorem area_spots : ∀ (L : List V2) (p : V2), areaS (spotsOf p L) = cr p (sumV L) + pairS cr L
  | [], p => by simp [spotsOf, areaS, sumV, pairS, cr]
  | v :: r, p => by
    have e : ∃ q, spotsOf (p.1 + v.1, p.2 + v.2) r = (p.1 + v.1, p.2 + v.2) :: q := by cases r <;> exact ⟨_, rfl⟩
    obtain ⟨q, e⟩ := e
    rw [spots_cons, e, areaS_cons, ← e, area_spots r, pairS_cons, cr_sum]
    simp only [sumV, cr]
    grind
theorem spots_mem {L : List V2} {x : V2} (h : x ∈ spotsOf (0, 0) L) : ∃ i, i ≤ L.length ∧ x = sumV (L.take i) := by
  obtain ⟨i, hi, e⟩ := List.getElem_of_mem h
  rw [spots_len] at hi
  refine ⟨i, Nat.le_of_lt_succ hi, ?_⟩
  have e2 := spots_pt L (0, 0) i (Nat.le_of_lt_succ hi)
  have e3 : pt (spotsOf (0, 0) L) i = x := by rw [← e]; unfold pt; rw [List.getD_eq_getElem?_getD, List.getElem?_eq_getElem (by rw [spots_len]; omega)]; rfl
  rw [← e3, e2]
  refine Prod.ext ?_ ?_ <;> (dsimp only; omega)
theorem spots_in {L : List V2} {i : Nat} (h : i ≤ L.length) : sumV (L.take i) ∈ spotsOf (0, 0) L := by
  have e2 := spots_pt L (0, 0) i h
  have hi : i < (spotsOf (0, 0) L).length := by rw [spots_len]; omega
  have e3 : pt (spotsOf (0, 0) L) i = (spotsOf (0, 0) L)[i] := by unfold pt; rw [List.getD_eq_getElem?_getD, List.getElem?_eq_getElem hi]; rfl
  have e4 : sumV (L.take i) = (spotsOf (0, 0) L)[i] := by
    rw [← e3, e2]
    refine Prod.ext ?_ ?_ <;> (dsimp only; omega)
  rw [e4]
  exact List.getElem_mem _
theorem sum_bound {b : Nat} : ∀ {L : List V2}, (∀ v ∈ L, (-(b : Int) ≤ v.1 ∧ v.1 ≤ b) ∧ (-(b : Int) ≤ v.2 ∧ v.2 ≤ b)) → (-((b * L.length : Nat) : Int) ≤ (sumV L).1 ∧ (sumV L).1 ≤ ((b * L.length : Nat) : Int)) ∧ (-((b * L.length : Nat) : Int) ≤ (sumV L).2 ∧ (sumV L).2 ≤ ((b * L.length : Nat) : Int))
  | [], _ => by simp [sumV]
  | v :: r, h => by
    have hv := h v (.head _)
    have hr := sum_bound (L := r) fun x hx => h x (.tail _ hx)
    simp only [sumV, List.length_cons, Nat.mul_add, Nat.mul_one]
    omega
theorem spots_bound {L : List V2} (h : ∀ v ∈ L, (-15 ≤ v.1 ∧ v.1 ≤ 15) ∧ (-15 ≤ v.2 ∧ v.2 ≤ 15)) (hl : L.length ≤ 100) : ∀ x ∈ spotsOf (0, 0) L, (-1500 ≤ x.1 ∧ x.1 ≤ 1500) ∧ (-1500 ≤ x.2 ∧ x.2 ≤ 1500) := by
  intro x hx
  obtain ⟨i, hi, rfl⟩ := spots_mem hx
  have := sum_bound (b := 15) (L := L.take i) fun v hv => h v (List.mem_of_mem_take hv)
  have hz : (L.take i).length ≤ 100 := by rw [List.length_take]; omega
  omega
theorem merge_perm : ∀ A B : List Nat, (mergeN A B).Perm (A ++ B)
  | [], B => by simp [mergeN]
  | a :: A, [] => by simp [mergeN]
  | a :: A, b :: B => by
    rw [mergeN]
    split
    · exact (merge_perm A (b :: B)).cons a
    · exact ((merge_perm (a :: A) B).cons b).trans List.perm_middle.symm
termination_by A B => A.length + B.length
theorem merge_pw : ∀ A B : List Nat, A.Pairwise (fun a b => hk a ≤ hk b) → B.Pairwise (fun a b => hk a ≤ hk b) → (mergeN A B).Pairwise (fun a b => hk a ≤ hk b)
  | [], B => fun _ h => by simpa [mergeN] using h
  | a :: A, [] => fun h _ => by simpa [mergeN] using h
  | a :: A, b :: B => fun hA hB => by
    obtain ⟨a1, a2⟩ := List.pairwise_cons.mp hA
    obtain ⟨b1, b2⟩ := List.pairwise_cons.mp hB
    rw [mergeN]
    split
    · rename_i q
      refine List.pairwise_cons.mpr ⟨fun x hx => ?_, merge_pw A (b :: B) a2 hB⟩
      rcases List.mem_append.mp ((merge_perm A (b :: B)).subset hx) with h | h
      · exact a1 x h
      · rcases List.mem_cons.mp h with rfl | h
        · exact q
        · exact Nat.le_trans q (b1 x h)
    · rename_i q
      refine List.pairwise_cons.mpr ⟨fun x hx => ?_, merge_pw (a :: A) B hA b2⟩
      have q' : hk b ≤ hk a := Nat.le_of_lt (Nat.lt_of_not_le q)
      rcases List.mem_append.mp ((merge_perm (a :: A) B).subset hx) with h | h
      · rcases List.mem_cons.mp h with rfl | h
        · exact q'
        · exact Nat.le_trans q' (a1 x h)
      · exact b1 x h
termination_by A B => A.length + B.length
theorem ale_refl (u : V2) : Ale u u := by unfold Ale; rw [if_pos rfl]; unfold cr; rw [Int.mul_comm]; omega
theorem ale_both {u v : V2} (h : Ale u v) (k : Ale v u) : cr v u = 0 := by
  unfold Ale at h k
  have := cr_anti u v
  split at h
  · rename_i e; rw [if_pos e.symm] at k; omega
  · rename_i e; rw [if_neg (Ne.symm e)] at k; rw [h, k] at e; exact absurd rfl e
open Classical in
noncomputable def lowF (s u : V2) : Int := if Ale s u then 0 else cr s u
theorem low_pre {s : V2} {P : List V2} (h : ∀ u ∈ P, Ale u s) : (P.map (lowF s)).sum = cr s (sumV P) := by
  rw [← cr_sum, List.map_congr_left fun u hu => show lowF s u = cr s u by unfold lowF; split; exact (ale_both (h u hu) (by assumption)).symm; rfl]
theorem low_suf {s : V2} {S : List V2} (h : ∀ u ∈ S, Ale s u) : (S.map (lowF s)).sum = 0 := sum_zero fun u hu => by unfold lowF; rw [if_pos (h u hu)]
theorem low_split {s : V2} {P S : List V2} (h1 : ∀ u ∈ P, Ale u s) (h2 : ∀ u ∈ S, Ale s u) : ((P ++ S).map (lowF s)).sum = cr s (sumV P) := by
  rw [List.map_append, List.sum_append, low_pre h1, low_suf h2]; omega
/-- the lowest spot by a side -/
theorem low_min {s : V2} (hs : s ≠ (0, 0)) {L : List V2} (hn : ∀ u ∈ L, u ≠ (0, 0)) (hp : L.Pairwise Ale) (h0 : sumV L = (0, 0)) {M : Int} (hM : IsMin M ((spotsOf (0, 0) L).map (crs s))) : M = (L.map (lowF s)).sum := by
  obtain ⟨P, S, rfl, h1, h2⟩ := split_at hs hn hp
  rw [low_split h1 h2]
  obtain ⟨hm, hle⟩ := hM
  obtain ⟨x, hx, rfl⟩ := List.mem_map.mp hm
  obtain ⟨i, hi, rfl⟩ := spots_mem hx
  have a := edge_min hs hn hp h0 h1 h2 i
  have b := hle _ (List.mem_map_of_mem (f := crs s) (spots_in (L := P ++ S) (i := P.length) (by simp)))
  rw [List.take_left] at b
  exact Int.le_antisymm b a
/-- Minkowski's sum: the edge -/
theorem edge_ok {L A B : List V2} (hn : ∀ u ∈ L, u ≠ (0, 0)) (hp : L.Pairwise Ale) (hpm : L.Perm (A ++ B)) (pA : A.Pairwise Ale) (pB : B.Pairwise Ale) (zA : sumV A = (0, 0)) (zB : sumV B = (0, 0)) :
    EdgeOk (spotsOf (0, 0) L) (spotsOf (0, 0) A) (spotsOf (0, 0) B) := by
  intro k hk M N hM hN
  rw [spots_len] at hk
  have hk : k < L.length := hk
  rw [spots_side hk] at hM hN ⊢
  have hs : L[k] ≠ (0, 0) := hn _ (List.getElem_mem _)
  have nA : ∀ u ∈ A, u ≠ (0, 0) := fun u hu => hn u (hpm.symm.subset (List.mem_append_left _ hu))
  have nB : ∀ u ∈ B, u ≠ (0, 0) := fun u hu => hn u (hpm.symm.subset (List.mem_append_right _ hu))
  rw [low_min hs nA pA zA hM, low_min hs nB pB zB hN, ← List.sum_append, ← List.map_append, ← sum_perm (hpm.map _)]
  have e : L = L.take k ++ L.drop k := (List.take_append_drop k L).symm
  have e2 : L.drop k = L[k] :: L.drop (k + 1) := List.drop_eq_getElem_cons hk
  have hp' := hp
  rw [e, e2] at hp'
  obtain ⟨_, q2, q3⟩ := List.pairwise_append.mp hp'
  have h1 : ∀ u ∈ L.take k, Ale u L[k] := fun u hu => q3 u hu _ (.head _)
  have h2 : ∀ u ∈ L.drop k, Ale L[k] u := fun u hu => by
    rw [e2] at hu
    rcases List.mem_cons.mp hu with rfl | hu
    · exact ale_refl _
    · exact (List.pairwise_cons.mp q2).1 u hu
  have e3 := low_split h1 h2
  rw [← e] at e3
  rw [e3, spots_pt L (0, 0) k (Nat.le_of_lt hk)]
  show cr _ _ = _
  congr 1
  refine Prod.ext ?_ ?_ <;> (dsimp only; omega)
/-- a tint's step -/
noncomputable def st (p : T3) : V2 := (p.1 - p.2.2, p.2.1 - p.2.2)
theorem sat_st {p : T3} (h : Sat p) : stepN (numOf p) = st p := step_num h.1
theorem st_ne {p : T3} (h : Sat p) : st p ≠ (0, 0) := sat_st h ▸ sat_ne h
theorem st_turn (p : T3) : st (againstL [p]) = ng (st p) := by
  obtain ⟨x, y, z⟩ := p
  unfold st ng againstL
  simp only [sumAt_cons, sumAt_nil, at3_0, at3_1, at3_2, Prod.mk.injEq]
  omega
theorem sum_st : ∀ ls : List T3, sumV (ls.map st) = (sumAt ls 0 - sumAt ls 2, sumAt ls 1 - sumAt ls 2)
  | [] => by simp [sumV, sumAt_nil]
  | p :: ls => by
    simp only [List.map_cons, sumV, sum_st ls, sumAt_cons, at3_0, at3_1, at3_2, st, Prod.mk.injEq]
    omega
theorem tints_zero (xs : List Int) : sumV ((tintsOf xs).map st) = (0, 0) := by
  obtain ⟨a, b⟩ := tints_grey xs
  rw [sum_st, a, b]
  refine Prod.ext ?_ ?_ <;> (dsimp only; omega)
/-- numbers of tints, by hue -/
structure Row (A : List Nat) (ls : List T3) : Prop where
  pm : A.Perm (ls.map numOf)
  pw : A.Pairwise (fun a b => hk a ≤ hk b)
  sat : ∀ p ∈ ls, Sat p
theorem Row.mem {A : List Nat} {ls : List T3} (r : Row A ls) {n : Nat} (h : n ∈ A) : ∃ p, Sat p ∧ n = numOf p := by
  obtain ⟨p, hp, e⟩ := List.mem_map.mp (r.pm.subset h)
  exact ⟨p, r.sat p hp, e.symm⟩
theorem Row.steps {A : List Nat} {ls : List T3} (r : Row A ls) : (A.map stepN).Perm (ls.map st) := by
  have := r.pm.map stepN
  rwa [List.map_map, List.map_congr_left fun p hp => show (stepN ∘ numOf) p = st p from sat_st (r.sat p hp)] at this
theorem Row.ale {A : List Nat} {ls : List T3} (r : Row A ls) : (A.map stepN).Pairwise Ale := by
  refine List.pairwise_map.mpr (List.Pairwise.imp_of_mem (fun {a b} ha hb h => ?_) r.pw)
  obtain ⟨p, hp, rfl⟩ := r.mem ha
  obtain ⟨q, hq, rfl⟩ := r.mem hb
  exact hue_ale hp hq h
theorem Row.ne {A : List Nat} {ls : List T3} (r : Row A ls) : ∀ u ∈ A.map stepN, u ≠ (0, 0) := fun u hu => by
  obtain ⟨n, hn, rfl⟩ := List.mem_map.mp hu
  obtain ⟨p, hp, rfl⟩ := r.mem hn
  exact sat_ne hp
theorem Row.len {A : List Nat} {ls : List T3} (r : Row A ls) : A.length = ls.length := by rw [r.pm.length_eq, List.length_map]
theorem Row.merge {A B : List Nat} {ls ks : List T3} (r : Row A ls) (q : Row B ks) : Row (mergeN A B) (ls ++ ks) := ⟨by rw [List.map_append]; exact (merge_perm A B).trans (r.pm.append q.pm), merge_pw A B r.pw q.pw, fun p hp => (List.mem_append.mp hp).elim (r.sat p) (q.sat p)⟩
theorem Row.nil {B : List Nat} (h : B.Perm []) : Row B [] := ⟨h, by rw [h.eq_nil]; exact .nil, fun _ x => nomatch x⟩
theorem Row.zero {A : List Nat} {xs : List Int} (r : Row A (tintsOf xs)) : sumV (A.map stepN) = (0, 0) := by rw [sumV_perm r.steps, tints_zero]
theorem Row.area {A : List Nat} {ls : List T3} (r : Row A ls) : areaS (spotsOf (0, 0) (A.map stepN)) = ar (ls.map st) := by
  rw [area_spots, pairS_sorted r.ale]
  show cr (0, 0) _ + ar _ = _
  rw [ar_perm r.steps]
  unfold cr; simp
theorem Row.bound {A : List Nat} {ls : List T3} (r : Row A ls) (h : ls.length ≤ 100) : ∀ x ∈ spotsOf (0, 0) (A.map stepN), (-1500 ≤ x.1 ∧ x.1 ≤ 1500) ∧ (-1500 ≤ x.2 ∧ x.2 ≤ 1500) := by
  refine spots_bound (fun v hv => ?_) (by rw [List.length_map, r.len]; exact h)
  obtain ⟨n, hn, rfl⟩ := List.mem_map.mp hv
  obtain ⟨p, hp, rfl⟩ := r.mem hn
  rw [sat_st hp]
  obtain ⟨⟨a, b, c⟩, _⟩ := hp
  unfold st
  dsimp only
  omega
theorem Row.spots {A : List Nat} {ls : List T3} (r : Row A ls) : (spotsOf (0, 0) (A.map stepN)).length = ls.length + 1 := by rw [spots_len, List.length_map, r.len]
theorem Row.turn {T : List Nat} {ks : List T3} (r : Row T (ks.map fun p => againstL [p])) : (T.map stepN).Perm ((ks.map st).map ng) := by
  have := r.steps
  rwa [List.map_map, List.map_congr_left fun p _ => show (st ∘ fun p => againstL [p]) p = (ng ∘ st) p from st_turn p, ← List.map_map] at this
theorem Row.last {A : List Nat} {ls : List T3} (r : Row A ls) (h : sumV (ls.map st) = (0, 0)) : pt (spotsOf (0, 0) (A.map stepN)) ((spotsOf (0, 0) (A.map stepN)).length - 1) = (0, 0) := by
  rw [spots_len, Nat.add_sub_cancel, spots_pt _ _ _ (Nat.le_refl _), List.take_length, sumV_perm r.steps, h]
  rfl
noncomputable def absS (ls ks : List T3) : Int := ((ls.flatMap fun v => ks.map fun u => (v, u)).map fun p => ((cr (st p.1) (st p.2)).natAbs : Int)).sum
theorem absS_eq (ls ks : List T3) : absS ls ks = ((ls.map st).map fun a => ((ks.map st).map fun b => ((cr a b).natAbs : Int)).sum).sum := by
  unfold absS
  induction ls with
  | nil => rfl
  | cons p ls ih => rw [List.flatMap_cons, List.map_append, List.sum_append, ih]; simp only [List.map_cons, List.sum_cons, List.map_map]; rfl
/-- the law's numbers -/
theorem glue {xs ys : List Int} (hx : xs.length ≤ 3) (hy : ys.length ≤ 2) {A1 A2 A3 B1 B2 T E1 E2 : List Nat} (rA1 : Row A1 (tintsOf xs)) (rA2 : Row A2 (tintsOf xs)) (rA3 : Row A3 (tintsOf xs)) (rB1 : Row B1 (tintsOf ys)) (rB2 : Row B2 (tintsOf ys)) (rT : Row T ((tintsOf ys).map fun p => againstL [p])) (rE1 : Row E1 []) (rE2 : Row E2 []) :
    EdgeOk (spotsOf (0, 0) ((mergeN A2 B2).map stepN)) (spotsOf (0, 0) ((mergeN A1 E1).map stepN)) (spotsOf (0, 0) ((mergeN E2 B1).map stepN)) ∧
    areaS (spotsOf (0, 0) ((mergeN A2 B2).map stepN)) + areaS (spotsOf (0, 0) ((mergeN A3 T).map stepN)) = 2 * areaS (spotsOf (0, 0) ((mergeN A1 E1).map stepN)) + 2 * areaS (spotsOf (0, 0) ((mergeN E2 B1).map stepN)) + absS (tintsOf xs) (tintsOf ys) ∧
    4 * areaS (spotsOf (0, 0) ((mergeN A1 E1).map stepN)) * areaS (spotsOf (0, 0) ((mergeN E2 B1).map stepN)) ≤ (areaS (spotsOf (0, 0) ((mergeN A2 B2).map stepN)) - areaS (spotsOf (0, 0) ((mergeN A1 E1).map stepN)) - areaS (spotsOf (0, 0) ((mergeN E2 B1).map stepN))) ^ 2 := by
  have r1 := rA1.merge rE1
  rw [List.append_nil] at r1
  have r2 : Row (mergeN E2 B1) (tintsOf ys) := rE2.merge rB1
  have rb := rA2.merge rB2
  have zA := tints_zero xs
  have zB := tints_zero ys
  have nA : ∀ u ∈ (tintsOf xs).map st, u ≠ (0, 0) := fun u hu => by obtain ⟨p, hp, rfl⟩ := List.mem_map.mp hu; exact st_ne (rA1.sat p hp)
  have nB : ∀ u ∈ (tintsOf ys).map st, u ≠ (0, 0) := fun u hu => by obtain ⟨p, hp, rfl⟩ := List.mem_map.mp hu; exact st_ne (rB1.sat p hp)
  refine ⟨edge_ok rb.ne rb.ale ?_ r1.ale r2.ale r1.zero r2.zero, ?_, ?_⟩
  · have := rb.steps
    rw [List.map_append] at this
    exact this.trans (r1.steps.append r2.steps).symm
  · have e4 : areaS (spotsOf (0, 0) ((mergeN A3 T).map stepN)) = ar ((tintsOf xs).map st ++ ((tintsOf ys).map st).map ng) := by
      rw [(rA3.merge rT).area, List.map_append]
      refine ar_perm (List.Perm.append_left _ ?_)
      rw [List.map_map, List.map_map, List.map_congr_left fun p _ => show (st ∘ fun p => againstL [p]) p = (ng ∘ st) p from st_turn p]
    rw [rb.area, r1.area, r2.area, e4, List.map_append, absS_eq]
    exact area_law nA nB zA zB
  · have e := mink r1.ne r1.ale r1.zero (by rw [List.length_map, r1.len]; have := (tints_len xs).2; omega) r2.ne r2.ale r2.zero (by rw [List.length_map, r2.len]; have := (tints_len ys).2; omega)
    have ea : ar ((mergeN A1 E1).map stepN) = ar ((tintsOf xs).map st) := ar_perm r1.steps
    have eb : ar ((mergeN E2 B1).map stepN) = ar ((tintsOf ys).map st) := ar_perm r2.steps
    have em := ar_app ((mergeN A1 E1).map stepN) ((mergeN E2 B1).map stepN)
    rw [ar_perm (r1.steps.append r2.steps), ea, eb] at em
    rw [ea, eb] at e
    rw [rb.area, r1.area, r2.area, List.map_append, em]
    have : ∀ a b m : Int, a + b + m - a - b = m := by intros; omega
    rw [this]
    exact e
theorem lexT_nl (l : List Nat) : lexT (10 :: l) = lexT l := by
  rw [lexT]
  · rfl
  · rintro h; cases h
  · rintro _ _ h; cases h
theorem words_nl : ∀ {ts : List Str} {l : List Nat}, Words ts l → Words ts (10 :: l)
  | [], l, h => (lexT_nl l).trans h
  | _ :: _, l, ⟨a, r, e, h⟩ => ⟨a, r, (lexT_nl l).trans e, h⟩
theorem lexT_bare {l : List Nat} (r : List Nat) (h : Let l) (hl : l ≠ []) : lexT (l ++ 32 :: r) = some (l, r) := by
  obtain ⟨c, l, rfl⟩ := List.exists_cons_of_ne_nil hl
  have hc := h c (.head _)
  have ih := lexB_word l r fun x hx => h x (.tail _ hx)
  rw [List.cons_append, lexT]
  · have : isWs c = false := by simp [isWs]; omega
    rw [this, if_neg (by simp), if_neg (by omega), ih]; rfl
  · rintro rfl; omega
  · rintro _ _ rfl; omega
theorem lexT_quote {l : List Nat} (r : List Nat) (h : Let l) : lexT (34 :: (l ++ 34 :: r)) = some (l, r) := by
  rw [lexT]
  · rw [show isWs 34 = false by decide, if_neg (by simp), if_pos rfl, lexQ_word l r h]
  · rintro h; cases h
  · rintro _ _ h; cases h
theorem lexT_esc {l : List Nat} (r : List Nat) (hl : l ≠ []) : lexT ((l.flatMap fun c => [92, c]) ++ 9 :: r) = some (l, r) := by
  obtain ⟨c, l, rfl⟩ := List.exists_cons_of_ne_nil hl
  have ih := lexB_esc l r
  simp only [List.flatMap_cons, List.cons_append, List.nil_append, lexT, ih, Option.map_some]
theorem app_cps (a b : Str) : (a ++ b : Str).cps.toList = a.cps.toList ++ b.cps.toList := by
  show (a.cps ++ b.cps).toList = _
  rw [Array.toList_append]
theorem spell_words {x : Str} {i : Int} {ts : List Str} {l : List Nat} (hx : Let x.cps.toList) (ne : x.cps.toList ≠ []) (h : Words ts l) : Words (x :: ts) ((spell x i).cps.toList ++ l) := by
  refine ⟨ne, ?_⟩
  unfold spell
  split
  · rw [app_cps, show (Str.ofString " ").cps.toList = [32] by decide +kernel, List.append_assoc]
    exact ⟨l, lexT_bare l hx ne, h⟩
  · split
    · rw [app_cps, app_cps, show (Str.ofString "\"").cps.toList = [34] by decide +kernel, show (Str.ofString "\"\n").cps.toList = [34, 10] by decide +kernel]
      refine ⟨10 :: l, ?_, words_nl h⟩
      have := lexT_quote (10 :: l) hx
      simpa using this
    · rw [app_cps, show (Str.ofString "\t\n").cps.toList = [9, 10] by decide +kernel]
      refine ⟨10 :: l, ?_, words_nl h⟩
      have := lexT_esc (10 :: l) ne
      simpa using this
theorem text_cons (p : T3) (ls : List T3) (way : Int) : (textOf (p :: ls) way).cps.toList = (spell (wordS (numOf p)) (way % 3)).cps.toList ++ (textOf ls (way + 1)).cps.toList := by
  unfold textOf cat
  rw [List.length_cons, List.range_succ_eq_map, List.map_cons, List.map_map, List.flatMap_cons, List.toList_toArray, List.toList_toArray]
  congr 1
  · unfold spellAt
    simp
  · congr 1
    refine List.map_congr_left fun k _ => ?_
    unfold spellAt
    show spell (wordS (numOf (ls.getD k (0, 0, 0)))) ((way + ((k + 1 : Nat) : Int)) % 3) = _
    congr 2
    omega
theorem text_words : ∀ {ls : List T3} (way : Int), (∀ p ∈ ls, Sat p) → Words ((ls.map numOf).map wordS) (textOf ls way).cps.toList
  | [], way, _ => by
    show lexT _ = _
    rfl
  | p :: ls, way, h => by
    rw [text_cons]
    have hp := sat_hue (h p (.head _))
    refine spell_words (fun c hc => ?_) ?_ (text_words (way + 1) fun q hq => h q (.tail _ hq))
    · have := apL_lt _ hp.lt c hc
      omega
    · show apL _ ≠ []
      have := hp.pos
      unfold apL
      split
      · omega
      · split
        · simp
        · split <;> simp

-- M41
theorem On.off {h h' : Heap} {news mv mv' : List (Addr × Obj)} {h₀ : Heap} {L : Addr} (N : News h₀ L h news) (O : On (hideAll h (mv.map (·.1))) h' mv') {p q : Addr × Obj} (hp : p ∈ news) (hn : ∀ q ∈ mv, p.1 ≠ q.1) (hq : q ∈ mv') : p.1 ≠ q.1 := fun e => by
  have e1 := hideAll_get (mv.map (·.1)) (N p hp).1 (fun x => by obtain ⟨r, hr, e⟩ := List.mem_map.mp x; exact hn r hr e.symm)
  rw [e, (O.has q hq).2] at e1; cases e1
theorem lies_aside {h₀ h : Heap} {L : Addr} {news mv imm : List (Addr × Obj)} (N : News h₀ L h news) (hi : ∀ p ∈ imm, p ∈ news) (hn : ∀ p ∈ imm, ∀ q ∈ mv, p.1 ≠ q.1) : Lies imm (hideAll h (mv.map (·.1))) := fun p hp =>
  hideAll_get _ (N p (hi p hp)).1 fun x => by obtain ⟨r, hr, e⟩ := List.mem_map.mp x; exact hn p hp r hr e.symm
theorem list_aside {h₀ h : Heap} {L D : Addr} {news mv : List (Addr × Obj)} {ws : List Value} {n : Nat} (N : News h₀ L h news) (hi : (D, W.listOf ws.toArray n) ∈ news) (hn : ∀ q ∈ mv, D ≠ q.1) : (hideAll h (mv.map (·.1))).IsList D ws.toArray :=
  ⟨_, hideAll_get _ (N _ hi).1 fun x => by obtain ⟨r, hr, e⟩ := List.mem_map.mp x; exact hn r hr e.symm, rfl, n, rfl⟩
theorem mst_ne {P : Addr → Prop} {K : MK} {x : Str} {d pb at_ lam : Addr} {ws : List Value} {n i : Nat} {u v : Tok} (h1 : P d) (h2 : P pb) (h3 : P at_) : ∀ q ∈ mst K x d pb at_ lam ws n i u v, P q.1 := List.forall_mem_cons.mpr ⟨h1, List.forall_mem_cons.mpr ⟨h2, List.forall_mem_cons.mpr ⟨h3, fun _ h => nomatch h⟩⟩⟩
theorem words_off {h' : Heap} {D d pb at_ lam : Addr} {K : MK} {x : Str} {vs : List Value} {all : List Str} {n n' i : Nat} {u v : Tok} {g : Heap} (hs : Strs vs all) (ne : all ≠ []) (O : On g h' ((D, W.listOf vs.toArray n') :: mst K x d pb at_ lam [] n i u v)) : D ≠ d ∧ D ≠ pb ∧ D ≠ at_ := by
  have e0 := (O.has _ (.head _)).1
  have e1 := (O.has _ (.tail _ (.head _))).1
  have e2 := (O.has _ (.tail _ (.tail _ (.head _)))).1
  have e3 := (O.has _ (.tail _ (.tail _ (.tail _ (.head _))))).1
  rcases hs with _ | ⟨hv, hs⟩
  · exact absurd rfl ne
  obtain ⟨t, rfl⟩ := hv
  refine ⟨fun q => ?_, fun q => ?_, fun q => ?_⟩
  · dsimp only at e0 e1; rw [q, e1] at e0; have e := congrArg Obj.data (Option.some.inj e0); exact nomatch e
  · dsimp only at e0 e2; rw [q, e2] at e0; have e := congrArg Array.toList (Data.seq.inj (congrArg Obj.data (Option.some.inj e0))).1; simp at e
  · dsimp only at e0 e3; rw [q, e3] at e0; have e := congrArg Array.toList (Data.seq.inj (congrArg Obj.data (Option.some.inj e0))).1; simp at e
section
variable {w : World} {loose : List Str} {mean : ExcName → Option Value} {mg mb : Str → Option Value} {dp un : Nat} {fr : Option (List Env)} {gd : Option (List Code)} {s : Shared} {Q E : Value → Shared → Prop}
theorem lw_words {x : Str} {inst d pb at_ lam dr rd : Addr} {imm news R : List (Addr × Obj)} {K : MK} {u v : Tok} {h₀ : Heap} {L : Addr} {m : Str → Option Value} {all : List Str}
    (F : Fr h₀ L s.heap m) (N : News h₀ L s.heap news) (hm : ∀ p ∈ mst K x d pb at_ lam [] 0 0 u v, p ∈ news) (hR : ∀ p ∈ R, p ∈ news) (off : OffM d pb at_ R) (hi : ∀ p ∈ imm, p ∈ R)
    (M : Mac w loose mean mg mb x inst d pb at_ lam dr rd imm) (G : Gnd w loose mean mg mb h₀) (ap : Apart d pb at_ imm) (hx : x.length ≤ 1000) (hl : Words all x.cps.toList) (ne : all ≠ []) (hz : all.length < 64) (hd : dp + 4 < recursionLimit) (hu : un + 40 < cLine)
    (ret : ∀ h' tk' D vs n' u' v', Strs vs all → Fr h₀ L h' m → News h₀ L h' ((D, W.listOf vs.toArray n') :: (mst K x d pb at_ lam [] 0 x.length u' v' ++ R)) → D ≠ d ∧ D ≠ pb ∧ D ≠ at_ → (∀ p ∈ R, p.1 ≠ D) → Q (.ref D) { s with heap := h', toks := tk' }) :
    wpAny (model PySem.Challenge.rw_sn0008_01.row.prog w) (Ar dp un fr gd) (call (.ref 123) [.ref inst]) Q E s := by
  have ofR : ∀ p ∈ R, ∀ q ∈ mst K x d pb at_ lam [] 0 0 u v, p.1 ≠ q.1 := fun p hp => mst_ne (P := fun a => p.1 ≠ a) (off p hp).1 (off p hp).2.1 (off p hp).2.2
  refine c_words M (lies_aside N (fun p hp => hR p (hi p hp)) fun p hp => ofR p (hi p hp)) (G.keeps (Fr.aside F N hm)) ap hx (On.aside N hm) (Nat.zero_le _) hl hz hd hu ?_
  intro h' tk' D vs n' u' v' hs O
  have oR : ∀ p ∈ R, p.1 ≠ D := fun p hp => On.off N O (hR p hp) (ofR p hp) (.head _)
  exact ret h' tk' D vs n' u' v' hs (Fr.back F N hm O) (News.back F N hm O fun p hp => ⟨hR p hp, ofR p hp⟩) (words_off hs ne O) oR
theorem lw_walk {x1 : Str} {inst1 d1 pb1 at1 lam1 dr1 rd1 : Addr} {imm1 : List (Addr × Obj)} {K1 : MK} {n1 : Nat} {u1 v1 : Tok} {x2 : Str} {inst2 d2 pb2 at2 lam2 dr2 rd2 : Addr} {imm2 : List (Addr × Obj)} {K2 : MK} {n2 : Nat} {u2 v2 : Tok} {W1 W2 : Addr} {ws1 ws2 : List Value} {k1 k2 : Nat} {l1 l2 : List Nat}
    {news R : List (Addr × Obj)} {h₀ : Heap} {L : Addr} {m : Str → Option Value} (F : Fr h₀ L s.heap m) (N : News h₀ L s.heap news)
    (hm : ∀ p ∈ mst K1 x1 d1 pb1 at1 lam1 [] n1 x1.length u1 v1 ++ (mst K2 x2 d2 pb2 at2 lam2 [] n2 x2.length u2 v2 ++ []), p ∈ news) (hR : ∀ p ∈ R, p ∈ news) (off1 : OffM d1 pb1 at1 R) (off2 : OffM d2 pb2 at2 R)
    (hi1 : ∀ p ∈ imm1, p ∈ R) (hi2 : ∀ p ∈ imm2, p ∈ R)
    (M1 : Mac w loose mean mg mb x1 inst1 d1 pb1 at1 lam1 dr1 rd1 imm1) (ap1 : Apart d1 pb1 at1 imm1) (hx1 : x1.length ≤ 1000)
    (M2 : Mac w loose mean mg mb x2 inst2 d2 pb2 at2 lam2 dr2 rd2 imm2) (ap2 : Apart d2 pb2 at2 imm2) (hx2 : x2.length ≤ 1000) (G : Gnd w loose mean mg mb h₀)
    (off : OffM d1 pb1 at1 (mst K2 x2 d2 pb2 at2 lam2 [] n2 x2.length u2 v2))
    (hw1 : (W1, W.listOf ws1.toArray k1) ∈ R) (hs1 : Strs ws1 (l1.map wordS)) (hz1 : l1.length < 20) (ho1 : ∀ n ∈ l1, HueOk n) (hw2 : (W2, W.listOf ws2.toArray k2) ∈ R) (hs2 : Strs ws2 (l2.map wordS)) (hz2 : l2.length < 20) (ho2 : ∀ n ∈ l2, HueOk n) (hd : dp + 6 < recursionLimit) (hu : un + 60 < cLine)
    (ret : ∀ h' tk' D us m' es (A B : List Nat) n1' n2' u1' u2' v1' v2', A.Perm l1 → B.Perm l2 → A.Pairwise (fun a b => hk a ≤ hk b) → B.Pairwise (fun a b => hk a ≤ hk b) → Fr h₀ L h' m →
      News h₀ L h' (mst K1 x1 d1 pb1 at1 lam1 [] n1' x1.length u1' v1' ++ (mst K2 x2 d2 pb2 at2 lam2 [] n2' x2.length u2' v2' ++ (((D, W.listOf us.toArray m') :: es) ++ R))) →
      OffM d1 pb1 at1 (((D, W.listOf us.toArray m') :: es) ++ R) → OffM d2 pb2 at2 (((D, W.listOf us.toArray m') :: es) ++ R) → Led2 es us (spotsOf (0, 0) ((mergeN A B).map stepN)) → Q (.ref D) { s with heap := h', toks := tk' }) :
    wpAny (model PySem.Challenge.rw_sn0008_01.row.prog w) (Ar dp un fr gd) (call (.ref 151) [.ref inst1, .ref W1, .ref inst2, .ref W2]) Q E s := by
  have ofR : ∀ p ∈ R, ∀ q ∈ mst K1 x1 d1 pb1 at1 lam1 [] n1 x1.length u1 v1 ++ (mst K2 x2 d2 pb2 at2 lam2 [] n2 x2.length u2 v2 ++ []), p.1 ≠ q.1 := fun p hp q hq => by
    rcases List.mem_append.mp hq with hq | hq
    · exact mst_ne (P := fun a => p.1 ≠ a) (off1 p hp).1 (off1 p hp).2.1 (off1 p hp).2.2 q hq
    · rw [List.append_nil] at hq
      exact mst_ne (P := fun a => p.1 ≠ a) (off2 p hp).1 (off2 p hp).2.1 (off2 p hp).2.2 q hq
  refine c_walk M1 (lies_aside N (fun p hp => hR p (hi1 p hp)) fun p hp => ofR p (hi1 p hp)) ap1 hx1 M2 (lies_aside N (fun p hp => hR p (hi2 p hp)) fun p hp => ofR p (hi2 p hp)) ap2 hx2 (G.keeps (Fr.aside F N hm)) off (On.aside N hm)
    (list_aside N (hR _ hw1) (ofR _ hw1)) hs1 hz1 ho1 (list_aside N (hR _ hw2) (ofR _ hw2)) hs2 hz2 ho2 hd hu ?_
  intro h' tk' D us m' es A B n1' n2' u1' u2' v1' v2' pA pB wA wB O o1 o2 hL
  have B' := News.back F N hm O fun p hp => ⟨hR p hp, ofR p hp⟩
  rw [List.append_assoc, List.append_assoc] at B'
  exact ret h' tk' D us m' es A B n1' n2' u1' u2' v1' v2' pA pB wA wB (Fr.back F N hm O) B' (fun p hp => (List.mem_append.mp hp).elim (o1 p) (off1 p)) (fun p hp => (List.mem_append.mp hp).elim (o2 p) (off2 p)) hL
end

-- M40
local macro_rules | `(tactic| walk_at "binaryOp Pow int int") => `(tactic| refine Stop.mk ?_)
local macro_rules | `(tactic| walk_at "ite") => `(tactic| ((with_reducible show ite (_ = true) _ _); refine Stop.mk ?_))
local macro_rules | `(tactic| walk_at "exec Assign cons ListComp") => `(tactic| with_reducible refine st12 ?_)
theorem drawAt_b (ns : List Int) (k : Nat) : 0 ≤ drawAt ns k ∧ drawAt ns k < 54 := ⟨Int.emod_nonneg _ (by decide), Int.emod_lt_of_pos _ (by decide)⟩
theorem draws5 {yl : List Value} {ns : List Int} (h : IntsAre yl (drawsOf ns)) : ∃ d0 d1 d2 d3 d4 t0 t1 t2 t3 t4, yl = [.int d0 t0, .int d1 t1, .int d2 t2, .int d3 t3, .int d4 t4] ∧ drawsOf ns = [d0, d1, d2, d3, d4] ∧
    (0 ≤ d0 ∧ d0 < 54) ∧ (0 ≤ d1 ∧ d1 < 54) ∧ (0 ≤ d2 ∧ d2 < 54) ∧ (0 ≤ d3 ∧ d3 < 54) ∧ (0 ≤ d4 ∧ d4 < 54) := by
  have e : drawsOf ns = [drawAt ns 0, drawAt ns 1, drawAt ns 2, drawAt ns 3, drawAt ns 4] := rfl
  rw [e] at h ⊢
  rcases h with _ | ⟨_, t0, h⟩
  rcases h with _ | ⟨_, t1, h⟩
  rcases h with _ | ⟨_, t2, h⟩
  rcases h with _ | ⟨_, t3, h⟩
  rcases h with _ | ⟨_, t4, h⟩
  rcases h with _ | _
  exact ⟨_, _, _, _, _, t0, t1, t2, t3, t4, rfl, rfl, drawAt_b _ _, drawAt_b _ _, drawAt_b _ _, drawAt_b _ _, drawAt_b _ _⟩
theorem intsA (a b c : Int) (t u v : Tok) : IntsAre [.int a t, .int b u, .int c v] [a, b, c] := .cons _ _ (.cons _ _ (.cons _ _ .nil))
theorem intsB (a b : Int) (t u : Tok) : IntsAre [.int a t, .int b u] [a, b] := .cons _ _ (.cons _ _ .nil)
theorem add_all {g h h' : Heap} {L : Addr} {m : Str → Option Value} {news es : List (Addr × Obj)} (F : Fr g L h m) (k : Kp h h') (N : News g L h news) (he : ∀ p ∈ es, h'.get? p.1 = some p.2 ∧ h.get? p.1 = none) : News g L h' (es ++ news) := by
  intro p hp
  rcases List.mem_append.mp hp with hp | hp
  · obtain ⟨e, n⟩ := he p hp
    refine ⟨e, fun q => ?_, ?_⟩
    · obtain ⟨o, _, _, e1, _⟩ := F.ns
      rw [q, e1] at n; cases n
    · cases z : g.get? p.1 with
      | none => rfl
      | some o => rw [F.keep _ _ z] at n; cases n
  · exact N.grown k p hp
theorem Tab.empty {q1 q2 : Addr} {o1 o2 : Obj} (n1 : q1 ≠ 77) (n2 : q2 ≠ 77) : Tab #[] [(q1, o1), (q2, o2)] := ⟨trivial, (fun _ e => nomatch e), (fun _ e => nomatch e), List.forall_mem_cons.mpr ⟨n1, List.forall_mem_cons.mpr ⟨n2, fun _ x => nomatch x⟩⟩⟩
theorem text_len {ls : List T3} {way : Int} (hl : ls.length ≤ 4) : (textOf ls way).length ≤ 1000 := by have := textOf_len ls way; omega
theorem News.back' {h₀ h h' : Heap} {L : Addr} {m : Str → Option Value} {news mv mv' rest : List (Addr × Obj)} (F : Fr h₀ L h m) (N : News h₀ L h news) (hs : ∀ p ∈ mv, p ∈ news) (O : On (hideAll h (mv.map (·.1))) h' mv')
    (hr : ∀ p ∈ rest, p ∈ news ∧ ((∀ q ∈ mv, p.1 ≠ q.1) ∨ p ∈ mv')) : News h₀ L h' (mv' ++ rest) := by
  have N0 := News.back (rest := []) F N hs O (fun _ x => nomatch x)
  rw [List.append_nil] at N0
  intro p hp
  rcases List.mem_append.mp hp with hp | hp
  · exact N0 p hp
  · obtain ⟨h1, h2 | h2⟩ := hr p hp
    · exact News.back (rest := [p]) F N hs O (List.forall_mem_cons.mpr ⟨⟨h1, h2⟩, fun _ x => nomatch x⟩) p (List.mem_append_right _ (.head _))
    · exact N0 p h2
theorem mst0 {K : MK} {x : Str} {d pb at_ lam : Addr} {u v : Tok} : mst K x d pb at_ lam [] 0 0 u v = [(d, mdict K 1 u lam pb), (pb, W.listOf #[] 0), (at_, W.listOf #[.int 0 v] 0)] := rfl
theorem Apart.less {d pb at_ : Addr} {a b : Addr × Obj} {imm : List (Addr × Obj)} (h : Apart d pb at_ (a :: b :: imm)) : Apart d pb at_ imm := ⟨h.1, h.2.1, h.2.2.1, h.2.2.2.1, h.2.2.2.2.1, h.2.2.2.2.2.1, fun p hp => h.2.2.2.2.2.2 p (.tail _ (.tail _ hp))⟩
theorem words_some {ls : List T3} {xs : List Int} (h : xs.length ≤ ls.length) (h0 : 0 < xs.length) : (ls.map numOf).map wordS ≠ [] := fun e => by
  have : ls.length = 0 := by simpa using congrArg List.length e
  omega
theorem words_few {ls : List T3} {n : Nat} (h : ls.length ≤ n) (h0 : n < 64) : ((ls.map numOf).map wordS).length < 64 := by
  rw [List.length_map, List.length_map]; omega
theorem News.front {h₀ h : Heap} {L : Addr} {x : Addr × Obj} {a b c : List (Addr × Obj)} (N : News h₀ L h (x :: (a ++ (b ++ c)))) : News h₀ L h (a ++ (b ++ (x :: c))) := News.sub N (by kcf_all)
theorem News.front2 {h₀ h : Heap} {L : Addr} {x : Addr × Obj} {a b c : List (Addr × Obj)} (N : News h₀ L h (x :: (b ++ (a ++ c)))) : News h₀ L h (a ++ (b ++ (x :: c))) := News.sub N (by kcf_all)
/-- a number's three digits -/
noncomputable def dig (n : Nat) : T3 := ((n / 256 : Nat), (n / 16 % 16 : Nat), (n % 16 : Nat))
theorem dig_num {p : T3} (h : In16 p) : dig (numOf p) = p := by
  obtain ⟨x, y, z⟩ := p
  obtain ⟨⟨a, a'⟩, ⟨b, b'⟩, c, c'⟩ := h
  unfold dig numOf
  dsimp only at *
  refine Prod.ext ?_ (Prod.ext ?_ ?_) <;> (dsimp only; omega)
noncomputable def undig (l : List Nat) : Nat := l.foldl (fun a c => 16 * a + (c - 65)) 0
theorem undig_apL {n : Nat} (h : n < 4096) : undig (apL n) = n := by
  unfold apL undig
  split
  · simp; omega
  · split
    · simp
    · split
      · simp; omega
      · simp; omega
theorem apL_inj {n m : Nat} (hn : n < 4096) (hm : m < 4096) (h : apL n = apL m) : n = m := by rw [← undig_apL hn, h, undig_apL hm]
theorem strs_at : ∀ {l : List Str} {vs : List Value}, Strs vs l → ∀ {i : Nat} {v : Value}, vs[i]? = some v → ∃ a, a ∈ l ∧ ∃ t, v = .str a t
  | _, _, .nil, i, v, h => by simp at h
  | _, _, .cons ⟨t, e⟩ _, 0, v, h => by simp at h; exact ⟨_, .head _, t, h.symm.trans e⟩
  | _, _, .cons _ k, i + 1, v, h => by
    obtain ⟨a, ha, r⟩ := strs_at k (i := i) (v := v) (by simpa using h)
    exact ⟨a, .tail _ ha, r⟩
theorem word_inj {p q : T3} (hp : Sat p) (hq : Sat q) (h : wordS (numOf p) = wordS (numOf q)) : p = q := by
  have := apL_inj (sat_hue hp).lt (sat_hue hq).lt (by unfold wordS at h; simpa using h)
  rw [← dig_num hp.1, this, dig_num hq.1]
noncomputable def TurnF (v y : Value) : Prop := ∃ p t u, Sat p ∧ v = .str (wordS (numOf p)) t ∧ y = .str (wordS (numOf (againstL [p]))) u
theorem turned_strs : ∀ {ks : List T3} {vs ys : List Value}, Strs vs ((ks.map numOf).map wordS) → (∀ p ∈ ks, Sat p) → Paired TurnF vs ys → Strs ys (((ks.map fun p => againstL [p]).map numOf).map wordS)
  | [], _, _, .nil, _, .nil => .nil
  | p :: ks, _, _, .cons ⟨t, e⟩ h, hs, .cons ⟨q, t', u, hq, e1, e2⟩ k => by
    refine .cons ?_ (turned_strs h (fun p hp => hs p (.tail _ hp)) k)
    rw [e] at e1
    injection e1 with e1 _
    rw [word_inj (hs p (.head _)) hq e1]
    exact ⟨u, e2⟩
theorem News.assigned {h₀ h h' : Heap} {L : Addr} {news : List (Addr × Obj)} (N : News h₀ L h news) (hk : ∀ b o, b ≠ L → h.get? b = some o → h'.get? b = some o) : News h₀ L h' news := fun p hp => ⟨hk _ _ (N p hp).2.1 (N p hp).1, (N p hp).2⟩
theorem fresh_off {h₀ h : Heap} {L D : Addr} {news : List (Addr × Obj)} (N : News h₀ L h news) (hD : h.get? D = none) : ∀ p ∈ news, D ≠ p.1 := fun p hp e => by rw [e, (N p hp).1] at hD; cases hD
theorem mst_off {D d pb at_ lam : Addr} {K : MK} {x : Str} {ws : List Value} {n i : Nat} {u v : Tok} (h : ∀ p ∈ mst K x d pb at_ lam ws n i u v, D ≠ p.1) : D ≠ d ∧ D ≠ pb ∧ D ≠ at_ := ⟨h _ (.head _), h _ (.tail _ (.head _)), h _ (.tail _ (.tail _ (.head _)))⟩
theorem rows_hue {ls : List T3} (h : ∀ p ∈ ls, Sat p) : ∀ n ∈ ls.map numOf, HueOk n := fun n hn => by obtain ⟨p, hp, rfl⟩ := List.mem_map.mp hn; exact sat_hue (h p hp)
theorem turn_all {ls : List T3} (h : ∀ p ∈ ls, Sat p) : ∀ p ∈ ls.map fun p => againstL [p], Sat p := fun q hq => by obtain ⟨p, hp, rfl⟩ := List.mem_map.mp hq; exact turn_sat (h p hp)
theorem paired_same {F : Value → Value → Prop} {vs vs9 : List Value} {ys : Array Value} (hlen : vs9.length = vs.toArray.size) (hP : ∀ (j : Nat) (v : Value), vs9[j]? = some v → vs.toArray[j]? = some v) (h : Paired F vs9 ys.toList) : Paired F vs ys.toList := by
  rw [← list_same hlen hP]; exact h
theorem nil_off {l d1 pb1 at1 lam1 d2 pb2 at2 lam2 : Addr} {K1 K2 : MK} {x1 x2 : Str} {ws1 ws2 : List Value} {n1 n2 i1 i2 : Nat} {u1 v1 u2 v2 : Tok} {R : List (Addr × Obj)} (h : ∀ p ∈ mst K1 x1 d1 pb1 at1 lam1 ws1 n1 i1 u1 v1 ++ (mst K2 x2 d2 pb2 at2 lam2 ws2 n2 i2 u2 v2 ++ R), p.1 < l) : (l ≠ d1 ∧ l ≠ pb1 ∧ l ≠ at1) ∧ (l ≠ d2 ∧ l ≠ pb2 ∧ l ≠ at2) :=
  have ne : ∀ p ∈ mst K1 x1 d1 pb1 at1 lam1 ws1 n1 i1 u1 v1 ++ (mst K2 x2 d2 pb2 at2 lam2 ws2 n2 i2 u2 v2 ++ R), l ≠ p.1 := fun p hp => Ne.symm (Nat.ne_of_lt (h p hp))
  ⟨mst_off fun p hp => ne p (List.mem_append_left _ hp), mst_off fun p hp => ne p (List.mem_append_right _ (List.mem_append_left _ hp))⟩
theorem two_left {a b c : List (Addr × Obj)} {p : Addr × Obj} (h : p ∈ a ++ (b ++ [])) : p ∈ a ++ (b ++ c) := by
  rw [List.append_nil] at h
  rcases List.mem_append.mp h with h | h
  · exact List.mem_append_left _ h
  · exact List.mem_append_right _ (List.mem_append_left _ h)
theorem rows_few {ls : List T3} {n : Nat} (h : ls.length ≤ n) (h0 : n < 20) : (ls.map numOf).length < 20 := by rw [List.length_map]; omega
noncomputable def XF (h : Heap) (v u z : Value) : Prop := ∀ p q : T3, P3 h v p.1 p.2.1 p.2.2 → P3 h u q.1 q.2.1 q.2.2 → ∃ t, z = .int ((cr (st p) (st q)).natAbs : Int) t
noncomputable abbrev xfOf {g h : Heap} {L : Addr} {m : Str → Option Value} (_ : Fr g L h m) : Value → Value → Value → Prop := XF h
theorem paired_mem {α β : Type} {F : α → β → Prop} : ∀ {l : List α} {ys : List β}, Paired F l ys → ∀ {y : β}, y ∈ ys → ∃ a, a ∈ l ∧ F a y
  | _, _, .cons h _, _, .head _ => ⟨_, .head _, h⟩
  | _, _, .cons _ k, _, .tail _ m => let ⟨a, ha, r⟩ := paired_mem k m; ⟨a, .tail _ ha, r⟩
theorem xf_abs {h : Heap} {v u : Value} {p q : T3} {t : Tok} (pv : P3 h v p.1 p.2.1 p.2.2) (qv : P3 h u q.1 q.2.1 q.2.2) : XF h v u (.int (if (p.1 - p.2.2) * (q.2.1 - q.2.2) - (p.2.1 - p.2.2) * (q.1 - q.2.2) < 0 then -((p.1 - p.2.2) * (q.2.1 - q.2.2) - (p.2.1 - p.2.2) * (q.1 - q.2.2)) else (p.1 - p.2.2) * (q.2.1 - q.2.2) - (p.2.1 - p.2.2) * (q.1 - q.2.2)) t) := by
  intro p' q' hp hq
  obtain ⟨a1, a2, a3⟩ := pv.uniq hp
  obtain ⟨b1, b2, b3⟩ := qv.uniq hq
  refine ⟨t, ?_⟩
  have e : cr (st p') (st q') = (p.1 - p.2.2) * (q.2.1 - q.2.2) - (p.2.1 - p.2.2) * (q.1 - q.2.2) := by unfold cr st; rw [a1, a2, a3, b1, b2, b3]
  rw [e]
  congr 1
  split <;> omega
theorem paired_app {α β : Type} {F : α → β → Prop} : ∀ {l l' : List α} {ys ys' : List β}, Paired F l ys → Paired F l' ys' → Paired F (l ++ l') (ys ++ ys')
  | _, _, _, _, .nil, k => k
  | _, _, _, _, .cons h t, k => .cons h (paired_app t k)
theorem paired_row {α β γ δ : Type} {F : α → β → Prop} {G : γ → δ → Prop} {a : α} {b : β} (h : F a b) : ∀ {l : List γ} {ys : List δ}, Paired G l ys → Paired (fun p q => F p.1 q.1 ∧ G p.2 q.2) (l.map fun u => (a, u)) (ys.map fun u => (b, u))
  | _, _, .nil => .nil
  | _, _, .cons k t => .cons ⟨h, k⟩ (paired_row h t)
theorem paired_flat {α β γ δ : Type} {F : α → β → Prop} {G : γ → δ → Prop} {l' : List γ} {ys' : List δ} (k : Paired G l' ys') : ∀ {l : List α} {ys : List β}, Paired F l ys → Paired (fun p q => F p.1 q.1 ∧ G p.2 q.2) (l.flatMap fun v => l'.map fun u => (v, u)) (ys.flatMap fun v => ys'.map fun u => (v, u))
  | _, _, .nil => .nil
  | _, _, .cons h t => by rw [List.flatMap_cons, List.flatMap_cons]; exact paired_app (paired_row h k) (paired_flat k t)
theorem crosses_ints {h : Heap} {ls ks : List T3} {us us' zs : List Value} (tU : Trs h us ls) (tV : Trs h us' ks) (hF : Paired (fun p z => XF h p.1 p.2 z) (us.flatMap fun v => us'.map fun u => (v, u)) zs) :
    IntsAre zs ((ls.flatMap fun v => ks.map fun u => (v, u)).map fun p => ((cr (st p.1) (st p.2)).natAbs : Int)) := paired_ints (Paired.mono' (fun c z _ h => by
      obtain ⟨b, ⟨h1, h2⟩, h3⟩ := h
      exact h3 _ _ h1 h2) (paired_zip (paired_flat tV tU) hF))
theorem ite_yes {c : Prop} [Decidable c] {a b : Prop} (h : c) (ha : a) : if c then a else b := by rw [if_pos h]; exact ha
theorem cnt_nat (c : Nat) : ∀ l : List Nat, PyProof.Rows.cnt c l = (l.count c : Nat)
  | [] => rfl
  | n :: r => by
    rw [PyProof.Rows.cnt_cons, cnt_nat c r, List.count_cons]
    by_cases h : n = c
    · rw [if_pos h, if_pos (by simpa using h)]; omega
    · rw [if_neg h, if_neg (by simpa using h)]; omega
theorem lno_end (x : Str) : lno x x.length = 1 + Txt.count x (Str.ofString "
") := by
  unfold lno
  rw [s10, count_cnt, cnt_nat, List.take_of_length_le (by simp [Str.length])]
theorem Row.small {A : List Nat} {ls : List T3} (r : Row A ls) (h : ls.length ≤ 100) : Small (spotsOf (0, 0) (A.map stepN)) := fun x hx => by have := r.bound h x hx; omega
theorem Row.tiny {A : List Nat} {ls : List T3} (r : Row A ls) (h : ls.length ≤ 100) : Tiny (spotsOf (0, 0) (A.map stepN)) := fun x hx => by have := r.bound h x hx; omega
/-- what is asked of the four lists -/
structure Four (ps qs rs ts : List (Int × Int)) (n m : Nat) (cs : Int) : Prop where
  sp : Small ps
  sq : Small qs
  sr : Small rs
  st : Small ts
  tr : Tiny rs
  lp : 0 < ps.length ∧ ps.length < 1000
  lq : 0 < qs.length ∧ qs.length < 1000
  lr : 0 < rs.length ∧ rs.length < 1000
  lt : 0 < ts.length ∧ ts.length < 1000
  nm : rs.length = 1 + n + m
  ed : EdgeOk rs ps qs
  la : pt rs (rs.length - 1) = (0, 0)
  ar : areaS rs + areaS ts = 2 * areaS ps + 2 * areaS qs + cs
  mq : 4 * areaS ps * areaS qs ≤ (areaS rs - areaS ps - areaS qs) ^ 2
theorem four {xs ys : List Int} {la lb : List T3} (ha : la = tintsOf xs) (hb : lb = tintsOf ys) (hx : xs.length ≤ 3) (hy : ys.length ≤ 2) (sx : ∀ p ∈ la, Sat p) (sy : ∀ p ∈ lb, Sat p) {A1 A2 A3 B1 B2 T E1 E2 : List Nat}
    (pA1 : A1.Perm (la.map numOf)) (wA1 : A1.Pairwise fun a b => hk a ≤ hk b) (pE1 : E1.Perm []) (pE2 : E2.Perm []) (pB1 : B1.Perm (lb.map numOf)) (wB1 : B1.Pairwise fun a b => hk a ≤ hk b)
    (pA2 : A2.Perm (la.map numOf)) (wA2 : A2.Pairwise fun a b => hk a ≤ hk b) (pB2 : B2.Perm (lb.map numOf)) (wB2 : B2.Pairwise fun a b => hk a ≤ hk b)
    (pA3 : A3.Perm (la.map numOf)) (wA3 : A3.Pairwise fun a b => hk a ≤ hk b) (pT : T.Perm ((lb.map fun p => againstL [p]).map numOf)) (wT : T.Pairwise fun a b => hk a ≤ hk b) :
    Four (spotsOf (0, 0) ((mergeN A1 E1).map stepN)) (spotsOf (0, 0) ((mergeN E2 B1).map stepN)) (spotsOf (0, 0) ((mergeN A2 B2).map stepN)) (spotsOf (0, 0) ((mergeN A3 T).map stepN)) la.length lb.length (absS la lb) := by
  subst ha hb
  have r1 : Row A1 (tintsOf xs) := ⟨pA1, wA1, sx⟩
  have r2 : Row A2 (tintsOf xs) := ⟨pA2, wA2, sx⟩
  have r3 : Row A3 (tintsOf xs) := ⟨pA3, wA3, sx⟩
  have q1 : Row B1 (tintsOf ys) := ⟨pB1, wB1, sy⟩
  have q2 : Row B2 (tintsOf ys) := ⟨pB2, wB2, sy⟩
  have q3 : Row T ((tintsOf ys).map fun p => againstL [p]) := ⟨pT, wT, turn_all sy⟩
  have e1 := Row.nil pE1
  have e2 := Row.nil pE2
  obtain ⟨g1, g2, g3⟩ := glue hx hy r1 r2 r3 q1 q2 q3 e1 e2
  have n1 := (tints_len xs).2
  have n2 := (tints_len ys).2
  have m1 := r1.merge e1
  have m2 := e2.merge q1
  have m3 := r2.merge q2
  have m4 := r3.merge q3
  have k1 : (tintsOf xs ++ []).length ≤ 100 := by rw [List.append_nil]; omega
  have k2 : ([] ++ tintsOf ys).length ≤ 100 := by rw [List.nil_append]; omega
  have k3 : (tintsOf xs ++ tintsOf ys).length ≤ 100 := by rw [List.length_append]; omega
  have k4 : (tintsOf xs ++ (tintsOf ys).map fun p => againstL [p]).length ≤ 100 := by rw [List.length_append, List.length_map]; omega
  refine ⟨m1.small k1, m2.small k2, m3.small k3, m4.small k4, m3.tiny k3, ?_, ?_, ?_, ?_, ?_, g1, m3.last ?_, g2, g3⟩
  · rw [m1.spots]; omega
  · rw [m2.spots]; omega
  · rw [m3.spots]; omega
  · rw [m4.spots]; omega
  · rw [m3.spots, List.length_append]; omega
  · rw [List.map_append, sumV_app, tints_zero, tints_zero]; rfl
theorem mul_bound {a b : Int} {B : Nat} (ha : -(B : Int) ≤ a ∧ a ≤ B) (hb : -(B : Int) ≤ b ∧ b ≤ B) : -((B * B : Nat) : Int) ≤ a * b ∧ a * b ≤ ((B * B : Nat) : Int) := by
  have h := Nat.mul_le_mul (show a.natAbs ≤ B by omega) (show b.natAbs ≤ B by omega)
  rw [← Int.natAbs_mul] at h
  omega
theorem sum_in {B : Nat} : ∀ {l : List Int}, (∀ x ∈ l, -(B : Int) ≤ x ∧ x ≤ B) → -((B * l.length : Nat) : Int) ≤ l.sum ∧ l.sum ≤ ((B * l.length : Nat) : Int)
  | [], _ => by simp
  | a :: r, h => by
    have h1 := h a (.head _)
    have h2 := sum_in (l := r) fun x hx => h x (.tail _ hx)
    rw [List.sum_cons, List.length_cons, Nat.mul_add, Nat.mul_one]
    omega
theorem area_in {ps : List (Int × Int)} (h : Small ps) (hl : ps.length < 1000) : -200000000000 ≤ areaS ps ∧ areaS ps ≤ 200000000000 := by
  have hp : ∀ k, (-((10000 : Nat) : Int) ≤ (ps.getD k (0, 0)).1 ∧ (ps.getD k (0, 0)).1 ≤ ((10000 : Nat) : Int)) ∧ (-((10000 : Nat) : Int) ≤ (ps.getD k (0, 0)).2 ∧ (ps.getD k (0, 0)).2 ≤ ((10000 : Nat) : Int)) := fun k => by
    rw [List.getD_eq_getElem?_getD]
    cases e : ps[k]? with
    | none => simp
    | some p => exact h p (List.mem_of_getElem? e)
  have := sum_in (B := 200000000) (l := (List.range (ps.length - 1)).map fun k => crs (ps.getD k (0, 0)) (ps.getD (k + 1) (0, 0))) (fun x hx => by
    obtain ⟨k, _, rfl⟩ := List.mem_map.mp hx
    have a := mul_bound (hp k).1 (hp (k + 1)).2
    have b := mul_bound (hp k).2 (hp (k + 1)).1
    unfold crs
    omega)
  rw [List.length_map, List.length_range] at this
  unfold areaS
  omega
theorem Four.pow {ps qs rs ts : List (Int × Int)} {n m : Nat} {cs : Int} (f : Four ps qs rs ts n m cs) : (areaS rs - areaS ps - areaS qs).natAbs < 2 ^ 64 := by
  have a := area_in f.sp f.lp.2
  have b := area_in f.sq f.lq.2
  have c := area_in f.sr f.lr.2
  omega
theorem law_post (args : List WData) : PySem.Challenge.rw_sn0008_01.row.claim.post args (.bool true) args = true := postW_of (by wrow_shape) (by wtm_val) (by w_fin)
theorem law_raise (args : List WData) : ∀ cls, PySem.Challenge.rw_sn0008_01.row.claim.raises args cls = false := raisesW_false (by wrow_none_raised)
/-- what comes after, under a name -/
structure Hid {α : Type} (Q Q' : α → Shared → Prop) : Prop where
  out : ∀ v s, Q v s → Q' v s
theorem execs_hid {M : Model} {A : Around} {st : Stmt} {rest : List Stmt} {env : Env} {Q : Flow → Shared → Prop} {E : Value → Shared → Prop} {s : Shared}
    (h : ∀ Q', Hid (fun f s' => match f with | .next => wpAny M A (execs rest env) Q E s' | f => Q f s') Q' → wpAny M A (exec st env) Q' E s) : wpAny M A (execs (st :: rest) env) Q E s := wpAny_execs_cons (h _ ⟨fun _ _ h => h⟩)
theorem hide2 {α : Type} {M : Model} {A : Around} {X : Sem α} {Q : α → Shared → Prop} {E : Value → Shared → Prop} {s : Shared} (h : ∀ Q' E', Hid Q Q' → Hid E E' → wpAny M A X Q' E' s) : wpAny M A X Q E s := h Q E ⟨fun _ _ h => h⟩ ⟨fun _ _ h => h⟩
set_option hygiene false in
local macro_rules | `(tactic| walk_at "execs cons") => `(tactic| (first | k_gentoks | ((with_reducible refine execs_hid ?_); intro Qk hQk; (try dsimp only))))
theorem newList_kp {prog : Program} {w : World} {A : Around} {E : Value → Shared → Prop} {s : Shared} {items : List Value} {Q : Value → Shared → Prop} (h : ∀ D h', Kp s.heap h' → h'.IsList D items.toArray → Q (.ref D) { s with heap := h' }) (hs : items.length ≤ sizeLine := by size_fits) : wpAny (model prog w) A (newList items) Q E s :=
  wpAny_newList (h _ _ (Kp.push _) ⟨_, Heap.get?_push_size _ rfl, rfl, _, rfl⟩)
theorem law_holds : PySem.Challenge.rw_sn0008_01.Holds := hd (by
  k_go0
  all_goals try k_fold
  rename_i w s0 s1 mg mb G Y fa o pm cd doc ho hcd hg X V T B TE TW ns hs hlay0 hL1 hr1 hl2 w5 w4 w3 vs w1 hL ra w1' r0 hI hr hcond1 hcond hD h1 tk1 wO right X0 X' T' K' F' N' l0
  have Gg : Gnd w _ _ mg mb (ghostOf s1.heap [(81, 77)]) := ⟨X', T'⟩
  have h63 : ns.length ≤ 63 := by omega
  have dA : wO.data = Data.cell none := right.trans rfl
  clear right X0
  have F' : Fr (ghostOf s1.heap [(81, 77)]) s1.heap.objs.size h1 (fun y => if y = Str.ofString "script" then some (Value.ref w3) else none) := F'
  refine hide2 ?_
  intro Qz Ez hQz hEz
  (repeat' (first | (k_unfold; (try dsimp only)) | walk1 | (dsimp only; walk1) | (dsimp only; k_unfold; (try dsimp only)) | (((with_reducible refine Hid.out hQk _ _ ?_); clear hQk Qk; (try dsimp only)))))
  refine Stop.out ?_
  refine c_draws (Gg.keeps F'.keep) (by decide) (by decide) (let ⟨o, e, r⟩ := lifted; ⟨o, F'.keep _ _ e, r⟩) hI h63 ?_
  intro D1 yl h2 tk2 kp2 fr2 hl2 hy2
  obtain ⟨n1, e1⟩ := hl2
  obtain ⟨d0, d1, d2, d3, d4, t0, t1, t2, t3, t4, rfl, hds, b0, b1, b2, b3, b4⟩ := draws5 hy2
  obtain ⟨TA, hTA⟩ : ∃ t, t = tintsOf [d0, d1, d2] := ⟨_, rfl⟩
  obtain ⟨TB, hTB⟩ : ∃ t, t = tintsOf [d3, d4] := ⟨_, rfl⟩
  have lenA : 3 ≤ TA.length ∧ TA.length ≤ 4 := by rw [hTA]; exact tints_len [d0, d1, d2]
  have lenB : 2 ≤ TB.length ∧ TB.length ≤ 3 := by rw [hTB]; exact tints_len [d3, d4]
  have F2 := F'.keeps kp2
  have N2 := add_news F' kp2 N' e1 fr2
  have nD1 : D1 ≠ s1.heap.objs.size + 1 := fun q => by rw [q, show h1.get? (s1.heap.objs.size + 1) = _ from (N' _ (.head _)).1] at fr2; cases fr2
  have n77 : (77 : Addr) ≠ s1.heap.objs.size + 1 := Nat.ne_of_lt (Nat.lt_succ_of_lt l0)
  have nD7 : D1 ≠ 77 := fun q => by rw [q, show h1.get? 77 = _ from (N' _ (.tail _ (.head _))).1] at fr2; cases fr2
  have i3 := intsA d0 d1 d2 t0 t1 t2
  have i2 := intsB d3 d4 t3 t4
  clear F' N' hL ra w1' r0 hr hs hlay0 hL1 hr1 hl2 hy2
  (repeat' (first | (k_unfold; (try dsimp only)) | walk1 | (dsimp only; walk1) | (dsimp only; k_unfold; (try dsimp only)) | (((with_reducible refine Hid.out hQk _ _ ?_); clear hQk Qk; (try dsimp only)))))
  refine Stop.out ?_
  rename Fr _ _ _ _ => lF
  rename News _ _ _ _ => lN
  refine c_tints (Gg.keeps lF.keep) (by decide) (by decide) (News.isList lN (.head _)) i3 (List.forall_mem_cons.mpr ⟨b0, List.forall_mem_cons.mpr ⟨b1, List.forall_mem_cons.mpr ⟨b2, fun _ x => nomatch x⟩⟩⟩) (by simp) ?_
  intro D2 us n2 es h3 tk3 kp3 fe me le
  rw [← hTA] at le
  have F3 := lF.keeps kp3
  have N3 := add_all lF kp3 lN fe
  have oc : ∀ p ∈ es, p.1 ≠ s1.heap.objs.size + 1 := fun p hp q => by have := (fe p hp).2; rw [q, (lN _ (.tail _ (.tail _ (.head _)))).1] at this; cases this
  have oD : ∀ p ∈ es, p.1 ≠ D1 := fun p hp q => by have := (fe p hp).2; rw [q, (lN _ (.tail _ (.head _))).1] at this; cases this
  have o7 : ∀ p ∈ es, p.1 ≠ 77 := fun p hp q => by have := (fe p hp).2; rw [q, (lN _ (.tail _ (.tail _ (.tail _ (.head _))))).1] at this; cases this
  have N3 : News _ _ _ ((D1, W.listOf #[.int d0 t0, .int d1 t1, .int d2 t2, .int d3 t3, .int d4 t4] n1) :: (s1.heap.objs.size + 1, wO) :: (77, tabObj #[]) :: es) := News.sub N3 (List.forall_mem_cons.mpr ⟨List.mem_append_right _ (.tail _ (.head _)), List.forall_mem_cons.mpr ⟨List.mem_append_right _ (.tail _ (.tail _ (.head _))), List.forall_mem_cons.mpr ⟨List.mem_append_right _ (.tail _ (.tail _ (.tail _ (.head _)))), fun p hp => List.mem_append_left _ hp⟩⟩⟩)
  clear lF lN fe
  (repeat' (first | (k_unfold; (try dsimp only)) | walk1 | (dsimp only; walk1) | (dsimp only; k_unfold; (try dsimp only)) | (((with_reducible refine Hid.out hQk _ _ ?_); clear hQk Qk; (try dsimp only)))))
  refine Stop.out ?_
  rename Fr _ _ _ _ => lF
  rename News _ _ _ _ => lN
  have sa3 : ∀ p ∈ TA, Sat p := by rw [hTA]; exact tints_sat (List.forall_mem_cons.mpr ⟨b0, List.forall_mem_cons.mpr ⟨b1, List.forall_mem_cons.mpr ⟨b2, fun _ x => nomatch x⟩⟩⟩) (by simp)
  have sa2 : ∀ p ∈ TB, Sat p := by rw [hTB]; exact tints_sat (List.forall_mem_cons.mpr ⟨b3, List.forall_mem_cons.mpr ⟨b4, fun _ x => nomatch x⟩⟩) (by simp)
  refine c_tints (Gg.keeps lF.keep) (by decide) (by decide) (News.isList lN (.head _)) i2 (List.forall_mem_cons.mpr ⟨b3, List.forall_mem_cons.mpr ⟨b4, fun _ x => nomatch x⟩⟩) (by simp) ?_
  intro D3 us' n3 es' h4 tk4 kp4 fe me' le'
  rw [← hTB] at le'
  have F4 := lF.keeps kp4
  have N4 := add_all lF kp4 lN fe
  have oc : ∀ p ∈ es' ++ es, p.1 ≠ s1.heap.objs.size + 1 := fun p hp => (List.mem_append.mp hp).elim (fun hp q => by have := (fe p hp).2; rw [q, (lN _ (.tail _ (.tail _ (.head _)))).1] at this; cases this) (oc p)
  have oD : ∀ p ∈ es' ++ es, p.1 ≠ D1 := fun p hp => (List.mem_append.mp hp).elim (fun hp q => by have := (fe p hp).2; rw [q, (lN _ (.tail _ (.head _))).1] at this; cases this) (oD p)
  have o7 : ∀ p ∈ es' ++ es, p.1 ≠ 77 := fun p hp => (List.mem_append.mp hp).elim (fun hp q => by have := (fe p hp).2; rw [q, (lN _ (.tail _ (.tail _ (.tail _ (.head _))))).1] at this; cases this) (o7 p)
  have le := le.more (es' := es' ++ es) fun p hp => List.mem_append_right _ hp
  have le' := le'.more (es' := es' ++ es) fun p hp => List.mem_append_left _ hp
  have me : _ ∈ es' ++ es := List.mem_append_right _ me
  have me' : _ ∈ es' ++ es := List.mem_append_left _ me'
  have N4 : News _ _ _ ([] ++ (s1.heap.objs.size + 1, wO) :: (D1, W.listOf #[.int d0 t0, .int d1 t1, .int d2 t2, .int d3 t3, .int d4 t4] n1) :: (77, tabObj #[]) :: (es' ++ es)) := News.sub N4 (List.forall_mem_cons.mpr ⟨List.mem_append_right _ (.tail _ (.tail _ (.head _))), List.forall_mem_cons.mpr ⟨List.mem_append_right _ (.tail _ (.head _)), List.forall_mem_cons.mpr ⟨List.mem_append_right _ (.tail _ (.tail _ (.tail _ (.head _)))), fun p hp => (List.mem_append.mp hp).elim (fun hp => List.mem_append_left _ hp) fun hp => List.mem_append_right _ (.tail _ (.tail _ (.tail _ (.tail _ hp))))⟩⟩⟩)
  obtain ⟨eT, heT⟩ : ∃ e, e = es' ++ es := ⟨_, rfl⟩
  rw [← heT] at oc o7 oD le le' me me' N4
  clear lF lN fe
  have hsum : d0 + d1 + d2 + d3 + d4 < 1000 := by omega
  have i5 : IntsAre [.int d0 t0, .int d1 t1, .int d2 t2, .int d3 t3, .int d4 t4] [d0, d1, d2, d3, d4] := .cons _ _ (.cons _ _ (.cons _ _ i2))
  refine stCN F4 N4 rfl dA (fun _ x => nomatch x) (List.forall_mem_cons.mpr ⟨nD1, List.forall_mem_cons.mpr ⟨n77, oc⟩⟩) (fun h5 oR F5 N5 dR => ?_)
  rw [List.nil_append] at N5
  clear F4 N4 dA
  (repeat' (first | (k_unfold; (try dsimp only)) | walk1 | (dsimp only; walk1) | (dsimp only; k_unfold; (try dsimp only)) | (((with_reducible refine Hid.out hQk _ _ ?_); clear hQk Qk; (try dsimp only)))))
  refine Stop.out ?_
  rename Fr _ _ _ _ => lF
  rename News _ _ _ _ => lN
  refine sum_kp rfl (News.isList lN (.tail _ (.head _))) i5 ?_
  intro h6 tk6 t6 kp6
  have F6 := lF.keeps kp6
  have N6 := lN.grown kp6
  clear lF lN
  obtain ⟨way, hway⟩ : ∃ w, List.sum [d0, d1, d2, d3, d4] = w := ⟨_, rfl⟩
  rw [hway]
  (repeat' (first | (k_unfold; (try dsimp only)) | walk1 | (dsimp only; walk1) | (dsimp only; k_unfold; (try dsimp only)) | (((with_reducible refine Hid.out hQk _ _ ?_); clear hQk Qk; (try dsimp only)))))
  refine Stop.out ?_
  rename Fr _ _ _ _ => lF
  rename News _ _ _ _ => lN
  refine c_text (Gg.keeps lF.keep) (by decide) (by decide) (News.isList lN (.tail _ (.tail _ (.tail _ me)))) (le.trs fun p hp => (lN p (.tail _ (.tail _ (.tail _ hp)))).1) (fun p hp => (sa3 p hp).1) (Nat.lt_of_le_of_lt lenA.2 (by decide)) ?_
  intro tt6 h'6 tk'6 kq6
  have tl1 := text_len (ls := TA) (way := way) lenA.2
  have wA := text_words way sa3
  obtain ⟨XA, hXA⟩ : ∃ x, textOf TA way = x := ⟨_, rfl⟩
  rw [hXA] at tl1 wA ⊢
  have G6 := lF.keeps kq6
  have O6 := lN.grown kq6
  clear lF lN
  (repeat' (first | (k_unfold; (try dsimp only)) | walk1 | (dsimp only; walk1) | (dsimp only; k_unfold; (try dsimp only)) | (((with_reducible refine Hid.out hQk _ _ ?_); clear hQk Qk; (try dsimp only)))))
  refine Stop.out ?_
  rename Fr _ _ _ _ => lF
  rename News _ _ _ _ => lN
  refine sum_kp rfl (News.isList lN (.tail _ (.head _))) i5 ?_
  intro h7 tk7 t7 kp7
  have F7 := lF.keeps kp7
  have N7 := lN.grown kp7
  clear lF lN
  rw [hway]
  (repeat' (first | (k_unfold; (try dsimp only)) | walk1 | (dsimp only; walk1) | (dsimp only; k_unfold; (try dsimp only)) | (((with_reducible refine Hid.out hQk _ _ ?_); clear hQk Qk; (try dsimp only)))))
  refine Stop.out ?_
  rename Fr _ _ _ _ => lF
  rename News _ _ _ _ => lN
  refine c_text (Gg.keeps lF.keep) (by decide) (by decide) (News.isList lN (.tail _ (.tail _ (.tail _ me')))) (le'.trs fun p hp => (lN p (.tail _ (.tail _ (.tail _ hp)))).1) (fun p hp => (sa2 p hp).1) (Nat.lt_of_le_of_lt lenB.2 (by decide)) ?_
  intro tt7 h'7 tk'7 kq7
  have tl2 := text_len (ls := TB) (way := way) (Nat.le_succ_of_le lenB.2)
  have wB := text_words way sa2
  obtain ⟨XB, hXB⟩ : ∃ x, textOf TB way = x := ⟨_, rfl⟩
  rw [hXB] at tl2 wB ⊢
  have G7 := lF.keeps kq7
  have O7 := lN.grown kq7
  clear lF lN
  (repeat' (first | (k_unfold; (try dsimp only)) | walk1 | (dsimp only; walk1) | (dsimp only; k_unfold; (try dsimp only)) | (((with_reducible refine Hid.out hQk _ _ ?_); clear hQk Qk; (try dsimp only)))))
  refine Stop.out ?_
  rename Fr _ _ _ _ => lF
  rename News _ _ _ _ => lN
  have mvs : ∀ p ∈ [((77 : Addr), tabObj #[]), (D1, W.listOf #[.int d0 t0, .int d1 t1, .int d2 t2, .int d3 t3, .int d4 t4] n1), (D1, W.listOf #[.int d0 t0, .int d1 t1, .int d2 t2, .int d3 t3, .int d4 t4] n1)], p ∈ ((s1.heap.objs.size + 1, oR) :: (D1, W.listOf #[.int d0 t0, .int d1 t1, .int d2 t2, .int d3 t3, .int d4 t4] n1) :: (77, tabObj #[]) :: eT) := List.forall_mem_cons.mpr ⟨.tail _ (.tail _ (.head _)), List.forall_mem_cons.mpr ⟨.tail _ (.head _), List.forall_mem_cons.mpr ⟨.tail _ (.head _), fun _ x => nomatch x⟩⟩⟩
  refine c_machine tl1 (On.aside lN mvs) (Tab.empty nD7 nD7) (Gg.keeps (Fr.aside lF lN mvs)) (codeHd.keeps (Fr.aside lF lN mvs)) (by decide) (by decide) ?_
  intro in1 d1' pb1 at1 lam1 dr1 rd1 imm1 K1 ps1 c1 p1 c2 p2 u1 v1 h8 tk8 O8 M8 T8 mc1 mc2 ap1
  have F8 := Fr.back lF lN mvs O8
  have N8 : News _ _ _ (_ ++ ((s1.heap.objs.size + 1, oR) :: eT)) := News.back lF lN mvs O8 (List.forall_mem_cons.mpr ⟨⟨.head _, List.forall_mem_cons.mpr ⟨Ne.symm n77, List.forall_mem_cons.mpr ⟨Ne.symm nD1, List.forall_mem_cons.mpr ⟨Ne.symm nD1, fun _ x => nomatch x⟩⟩⟩⟩, fun p hp => ⟨.tail _ (.tail _ (.tail _ hp)), List.forall_mem_cons.mpr ⟨o7 p hp, List.forall_mem_cons.mpr ⟨oD p hp, List.forall_mem_cons.mpr ⟨oD p hp, fun _ x => nomatch x⟩⟩⟩⟩⟩)
  have tn : ∀ p ∈ eT, ∀ q ∈ [((77 : Addr), tabObj #[]), (D1, W.listOf #[.int d0 t0, .int d1 t1, .int d2 t2, .int d3 t3, .int d4 t4] n1), (D1, W.listOf #[.int d0 t0, .int d1 t1, .int d2 t2, .int d3 t3, .int d4 t4] n1)], p.1 ≠ q.1 := fun p hp => List.forall_mem_cons.mpr ⟨o7 p hp, List.forall_mem_cons.mpr ⟨oD p hp, List.forall_mem_cons.mpr ⟨oD p hp, fun _ x => nomatch x⟩⟩⟩
  have cn : ∀ q ∈ [((77 : Addr), tabObj #[]), (D1, W.listOf #[.int d0 t0, .int d1 t1, .int d2 t2, .int d3 t3, .int d4 t4] n1), (D1, W.listOf #[.int d0 t0, .int d1 t1, .int d2 t2, .int d3 t3, .int d4 t4] n1)], s1.heap.objs.size + 1 ≠ q.1 := List.forall_mem_cons.mpr ⟨Ne.symm n77, List.forall_mem_cons.mpr ⟨Ne.symm nD1, List.forall_mem_cons.mpr ⟨Ne.symm nD1, fun _ x => nomatch x⟩⟩⟩
  have tO : ∀ p ∈ eT, ∀ q : Addr × Obj, q ∈ (d1', mdict K1 1 u1 lam1 pb1) :: (pb1, W.listOf #[] 0) :: (at1, W.listOf #[.int 0 v1] 0) :: (77, tabObj ps1) :: (D1, W.listOf #[.int d0 t0, .int d1 t1, .int d2 t2, .int d3 t3, .int d4 t4] n1) :: (D1, W.listOf #[.int d0 t0, .int d1 t1, .int d2 t2, .int d3 t3, .int d4 t4] n1) :: imm1 → p.1 ≠ q.1 := fun p hp q hq => On.off lN O8 (.tail _ (.tail _ (.tail _ hp))) (tn p hp) hq
  have cO : ∀ q : Addr × Obj, q ∈ (d1', mdict K1 1 u1 lam1 pb1) :: (pb1, W.listOf #[] 0) :: (at1, W.listOf #[.int 0 v1] 0) :: (77, tabObj ps1) :: (D1, W.listOf #[.int d0 t0, .int d1 t1, .int d2 t2, .int d3 t3, .int d4 t4] n1) :: (D1, W.listOf #[.int d0 t0, .int d1 t1, .int d2 t2, .int d3 t3, .int d4 t4] n1) :: imm1 → s1.heap.objs.size + 1 ≠ q.1 := fun q hq => On.off lN O8 (.head _) cn hq
  have xd : ∀ p ∈ imm1 ++ eT, p.1 ≠ d1' ∧ p.1 ≠ pb1 ∧ p.1 ≠ at1 ∧ p.1 ≠ 77 ∧ p.1 ≠ s1.heap.objs.size + 1 := fun p hp => (List.mem_append.mp hp).elim
    (fun hp => ⟨(ap1.2.2.2.2.2.2 p (.tail _ (.tail _ hp))).1, (ap1.2.2.2.2.2.2 p (.tail _ (.tail _ hp))).2.1, (ap1.2.2.2.2.2.2 p (.tail _ (.tail _ hp))).2.2.1, (ap1.2.2.2.2.2.2 p (.tail _ (.tail _ hp))).2.2.2, Ne.symm (cO p (.tail _ (.tail _ (.tail _ (.tail _ (.tail _ (.tail _ hp)))))))⟩)
    (fun hp => ⟨tO p hp _ (.head _), tO p hp _ (.tail _ (.head _)), tO p hp _ (.tail _ (.tail _ (.head _))), o7 p hp, oc p hp⟩)
  have cd : @Ne Nat (s1.heap.objs.size + 1) d1' ∧ @Ne Nat (s1.heap.objs.size + 1) pb1 ∧ @Ne Nat (s1.heap.objs.size + 1) at1 := ⟨cO _ (.head _), cO _ (.tail _ (.head _)), cO _ (.tail _ (.tail _ (.head _)))⟩
  have N8 : News _ _ _ ((d1', mdict K1 1 u1 lam1 pb1) :: (pb1, W.listOf #[] 0) :: (at1, W.listOf #[.int 0 v1] 0) :: (77, tabObj ps1) :: (s1.heap.objs.size + 1, oR) :: (imm1 ++ eT)) := News.sub N8 (by kcf_all)
  have i1 : ∀ p ∈ imm1, p ∈ imm1 ++ eT := fun p hp => List.mem_append_left _ hp
  have mc1 := i1 _ mc1
  have mc2 := i1 _ mc2
  have le := le.more (es' := imm1 ++ eT) fun p hp => List.mem_append_right _ hp
  have le' := le'.more (es' := imm1 ++ eT) fun p hp => List.mem_append_right _ hp
  have me : _ ∈ imm1 ++ eT := List.mem_append_right _ me
  have me' : _ ∈ imm1 ++ eT := List.mem_append_right _ me'
  clear tO cO tn cn oc o7 oD O8 lF lN mvs
  obtain ⟨eX, heX⟩ : ∃ e, e = imm1 ++ eT := ⟨_, rfl⟩
  rw [← heX] at xd N8 i1 mc1 mc2 le le' me me'
  (repeat' (first | (k_unfold; (try dsimp only)) | walk1 | (dsimp only; walk1) | (dsimp only; k_unfold; (try dsimp only)) | (((with_reducible refine Hid.out hQk _ _ ?_); clear hQk Qk; (try dsimp only)))))
  refine Stop.out ?_
  rename Fr _ _ _ _ => lF
  rename News _ _ _ _ => lN
  have mvs : ∀ p ∈ [((77 : Addr), tabObj ps1), (c1, p1), (c2, p2)], p ∈ ((d1', mdict K1 1 u1 lam1 pb1) :: (pb1, W.listOf #[] 0) :: (at1, W.listOf #[.int 0 v1] 0) :: (77, tabObj ps1) :: (s1.heap.objs.size + 1, oR) :: eX) := List.forall_mem_cons.mpr ⟨.tail _ (.tail _ (.tail _ (.head _))), List.forall_mem_cons.mpr ⟨.tail _ (.tail _ (.tail _ (.tail _ (.tail _ mc1)))), List.forall_mem_cons.mpr ⟨.tail _ (.tail _ (.tail _ (.tail _ (.tail _ mc2)))), fun _ x => nomatch x⟩⟩⟩
  refine c_machine tl2 (On.aside lN mvs) T8 (Gg.keeps (Fr.aside lF lN mvs)) (codeHd.keeps (Fr.aside lF lN mvs)) (by decide) (by decide) ?_
  intro in2 d2' pb2 at2 lam2 dr2 rd2 imm2 K2 ps2 c3 p3 c4 p4 u2 v2 h9 tk9 O9 M9 T9 mc3 mc4 ap2
  have F9 := Fr.back lF lN mvs O9
  have a1 : ∀ q ∈ [((77 : Addr), tabObj ps1), (c1, p1), (c2, p2)], @Ne Nat d1' q.1 ∧ @Ne Nat pb1 q.1 ∧ @Ne Nat at1 q.1 ∧ @Ne Nat (s1.heap.objs.size + 1) q.1 := List.forall_mem_cons.mpr ⟨⟨ap1.2.2.2.1, ap1.2.2.2.2.1, ap1.2.2.2.2.2.1, Ne.symm n77⟩, List.forall_mem_cons.mpr ⟨⟨Ne.symm (xd _ mc1).1, Ne.symm (xd _ mc1).2.1, Ne.symm (xd _ mc1).2.2.1, Ne.symm (xd _ mc1).2.2.2.2⟩, List.forall_mem_cons.mpr ⟨⟨Ne.symm (xd _ mc2).1, Ne.symm (xd _ mc2).2.1, Ne.symm (xd _ mc2).2.2.1, Ne.symm (xd _ mc2).2.2.2.2⟩, fun _ x => nomatch x⟩⟩⟩
  have ec : ∀ p ∈ eX, (∀ q ∈ [((77 : Addr), tabObj ps1), (c1, p1), (c2, p2)], p.1 ≠ q.1) ∨ p = (c1, p1) ∨ p = (c2, p2) := fun p hp => by
    by_cases e1 : p.1 = c1
    · refine .inr (.inl (Prod.ext e1 ?_))
      have q1 := (lN p (.tail _ (.tail _ (.tail _ (.tail _ (.tail _ hp)))))).1
      have q2 := (lN _ (.tail _ (.tail _ (.tail _ (.tail _ (.tail _ mc1)))))).1
      rw [e1] at q1; exact Option.some.inj (q1.symm.trans q2)
    · by_cases e2 : p.1 = c2
      · refine .inr (.inr (Prod.ext e2 ?_))
        have q1 := (lN p (.tail _ (.tail _ (.tail _ (.tail _ (.tail _ hp)))))).1
        have q2 := (lN _ (.tail _ (.tail _ (.tail _ (.tail _ (.tail _ mc2)))))).1
        rw [e2] at q1; exact Option.some.inj (q1.symm.trans q2)
      · exact .inl (List.forall_mem_cons.mpr ⟨(xd p hp).2.2.2.1, List.forall_mem_cons.mpr ⟨e1, List.forall_mem_cons.mpr ⟨e2, fun _ x => nomatch x⟩⟩⟩)
  have N9 := News.back' (rest := (d1', mdict K1 1 u1 lam1 pb1) :: (pb1, W.listOf #[] 0) :: (at1, W.listOf #[.int 0 v1] 0) :: (s1.heap.objs.size + 1, oR) :: eX) lF lN mvs O9 (List.forall_mem_cons.mpr ⟨⟨.head _, .inl fun q hq => (a1 q hq).1⟩, List.forall_mem_cons.mpr ⟨⟨.tail _ (.head _), .inl fun q hq => (a1 q hq).2.1⟩, List.forall_mem_cons.mpr ⟨⟨.tail _ (.tail _ (.head _)), .inl fun q hq => (a1 q hq).2.2.1⟩, List.forall_mem_cons.mpr ⟨⟨.tail _ (.tail _ (.tail _ (.tail _ (.head _)))), .inl fun q hq => (a1 q hq).2.2.2⟩, fun p hp => ⟨.tail _ (.tail _ (.tail _ (.tail _ (.tail _ hp)))), (ec p hp).elim .inl fun e => .inr (by rcases e with rfl | rfl <;> simp)⟩⟩⟩⟩⟩)
  have lY : ∀ p ∈ [(d2', mdict K2 1 u2 lam2 pb2), (pb2, W.listOf #[] 0), (at2, W.listOf #[.int 0 v2] 0)], ∀ q ∈ (d1', mdict K1 1 u1 lam1 pb1) :: (pb1, W.listOf #[] 0) :: (at1, W.listOf #[.int 0 v1] 0) :: (s1.heap.objs.size + 1, oR) :: eX, q.1 ≠ p.1 := fun p hp => by
    have hp' : p ∈ (d2', mdict K2 1 u2 lam2 pb2) :: (pb2, W.listOf #[] 0) :: (at2, W.listOf #[.int 0 v2] 0) :: (77, tabObj ps2) :: (c1, p1) :: (c2, p2) :: imm2 := by
      rcases List.mem_cons.mp hp with h | hp
      · exact h ▸ .head _
      · rcases List.mem_cons.mp hp with h | hp
        · exact h ▸ .tail _ (.head _)
        · exact List.mem_singleton.mp hp ▸ .tail _ (.tail _ (.head _))
    refine List.forall_mem_cons.mpr ⟨On.off lN O9 (.head _) (fun q hq => (a1 q hq).1) hp', List.forall_mem_cons.mpr ⟨On.off lN O9 (.tail _ (.head _)) (fun q hq => (a1 q hq).2.1) hp', List.forall_mem_cons.mpr ⟨On.off lN O9 (.tail _ (.tail _ (.head _))) (fun q hq => (a1 q hq).2.2.1) hp',
      List.forall_mem_cons.mpr ⟨On.off lN O9 (.tail _ (.tail _ (.tail _ (.tail _ (.head _))))) (fun q hq => (a1 q hq).2.2.2) hp', fun q hq => ?_⟩⟩⟩⟩
    refine (ec q hq).elim (fun e => On.off lN O9 (.tail _ (.tail _ (.tail _ (.tail _ (.tail _ hq))))) e hp') fun e => ?_
    have z1 := ap2.2.2.2.2.2.2 (c1, p1) (.head _)
    have z2 := ap2.2.2.2.2.2.2 (c2, p2) (.tail _ (.head _))
    rcases List.mem_cons.mp hp with rfl | hp
    · rcases e with rfl | rfl
      · exact z1.1
      · exact z2.1
    · rcases List.mem_cons.mp hp with rfl | hp
      · rcases e with rfl | rfl
        · exact z1.2.1
        · exact z2.2.1
      · cases List.mem_singleton.mp hp
        rcases e with rfl | rfl
        · exact z1.2.2.1
        · exact z2.2.2.1
  have ofX : OffM d2' pb2 at2 ((d1', mdict K1 1 u1 lam1 pb1) :: (pb1, W.listOf #[] 0) :: (at1, W.listOf #[.int 0 v1] 0) :: (s1.heap.objs.size + 1, oR) :: eX) := fun q hq => ⟨lY _ (.head _) q hq, lY _ (.tail _ (.head _)) q hq, lY _ (.tail _ (.tail _ (.head _))) q hq⟩
  have of2 : OffM d2' pb2 at2 ((s1.heap.objs.size + 1, oR) :: (77, tabObj ps2) :: (imm2 ++ eX)) := List.forall_mem_cons.mpr ⟨ofX _ (.tail _ (.tail _ (.tail _ (.head _)))), List.forall_mem_cons.mpr ⟨⟨Ne.symm ap2.2.2.2.1, Ne.symm ap2.2.2.2.2.1, Ne.symm ap2.2.2.2.2.2.1⟩, fun p hp => (List.mem_append.mp hp).elim
    (fun hp => let z := ap2.2.2.2.2.2.2 p (.tail _ (.tail _ hp)); ⟨z.1, z.2.1, z.2.2.1⟩) fun hp => ofX p (.tail _ (.tail _ (.tail _ (.tail _ hp))))⟩⟩
  have of12 : d2' ≠ d1' ∧ d2' ≠ pb1 ∧ d2' ≠ at1 := ⟨Ne.symm (ofX _ (.head _)).1, Ne.symm (ofX _ (.tail _ (.head _))).1, Ne.symm (ofX _ (.tail _ (.tail _ (.head _)))).1⟩
  have of13 : pb2 ≠ d1' ∧ pb2 ≠ pb1 ∧ pb2 ≠ at1 := ⟨Ne.symm (ofX _ (.head _)).2.1, Ne.symm (ofX _ (.tail _ (.head _))).2.1, Ne.symm (ofX _ (.tail _ (.tail _ (.head _)))).2.1⟩
  have of14 : at2 ≠ d1' ∧ at2 ≠ pb1 ∧ at2 ≠ at1 := ⟨Ne.symm (ofX _ (.head _)).2.2, Ne.symm (ofX _ (.tail _ (.head _))).2.2, Ne.symm (ofX _ (.tail _ (.tail _ (.head _)))).2.2⟩
  have i2o : ∀ p ∈ imm2, p.1 ≠ d1' ∧ p.1 ≠ pb1 ∧ p.1 ≠ at1 := fun p hp =>
    ⟨Ne.symm (On.off lN O9 (.head _) (fun q hq => (a1 q hq).1) (.tail _ (.tail _ (.tail _ (.tail _ (.tail _ (.tail _ hp))))))), Ne.symm (On.off lN O9 (.tail _ (.head _)) (fun q hq => (a1 q hq).2.1) (.tail _ (.tail _ (.tail _ (.tail _ (.tail _ (.tail _ hp))))))),
      Ne.symm (On.off lN O9 (.tail _ (.tail _ (.head _))) (fun q hq => (a1 q hq).2.2.1) (.tail _ (.tail _ (.tail _ (.tail _ (.tail _ (.tail _ hp)))))))⟩
  have of1 : OffM d1' pb1 at1 ((s1.heap.objs.size + 1, oR) :: (77, tabObj ps2) :: (imm2 ++ eX)) := List.forall_mem_cons.mpr ⟨cd, List.forall_mem_cons.mpr ⟨⟨Ne.symm ap1.2.2.2.1, Ne.symm ap1.2.2.2.2.1, Ne.symm ap1.2.2.2.2.2.1⟩, fun p hp => (List.mem_append.mp hp).elim
    (i2o p) fun hp => ⟨(xd p hp).1, (xd p hp).2.1, (xd p hp).2.2.1⟩⟩⟩
  have o12 : ∀ (x : Str) (n i : Nat) (u v : Tok), OffM d1' pb1 at1 (mst K2 x d2' pb2 at2 lam2 [] n i u v) := fun x n i u v => List.forall_mem_cons.mpr ⟨of12, List.forall_mem_cons.mpr ⟨of13, List.forall_mem_cons.mpr ⟨of14, fun _ x => nomatch x⟩⟩⟩
  have N9 : News (ghostOf s1.heap [(81, 77)]) s1.heap.objs.size h9 (mst K1 XA d1' pb1 at1 lam1 [] 0 0 u1 v1 ++ (mst K2 XB d2' pb2 at2 lam2 [] 0 0 u2 v2 ++ ((s1.heap.objs.size + 1, oR) :: (77, tabObj ps2) :: (imm2 ++ eX)))) := by
    rw [mst0, mst0]
    exact News.sub N9 (by kcf_all)
  have ap1 := Apart.less ap1
  have ap2 := Apart.less ap2
  obtain ⟨es, hes⟩ : ∃ es, es = (s1.heap.objs.size + 1, oR) :: (77, tabObj ps2) :: (imm2 ++ eX) := ⟨_, rfl⟩
  rw [← hes] at N9 of1 of2
  have sX : ∀ p ∈ eX, p ∈ es := fun p hp => hes ▸ .tail _ (.tail _ (List.mem_append_right _ hp))
  have s1' : ∀ p ∈ imm1, p ∈ es := fun p hp => sX p (i1 p hp)
  have s2' : ∀ p ∈ imm2, p ∈ es := fun p hp => hes ▸ .tail _ (.tail _ (List.mem_append_left _ hp))
  have sC : (s1.heap.objs.size + 1, oR) ∈ es := hes ▸ .head _
  have s7 : ((77 : Addr), tabObj ps2) ∈ es := hes ▸ .tail _ (.head _)
  have le := le.more sX
  have le' := le'.more sX
  have me := sX _ me
  have me' := sX _ me'
  clear hes sX i1 i2o of14 of13 of12 ofX lY ec a1 mvs lF lN O9 mc1 mc2 mc3 mc4 T8 T9 xd cd
  (repeat' (first | (k_unfold; (try dsimp only)) | walk1 | (dsimp only; walk1) | (dsimp only; k_unfold; (try dsimp only)) | (((with_reducible refine Hid.out hQk _ _ ?_); clear hQk Qk; (try dsimp only)))))
  refine Stop.out ?_
  rename Fr _ _ _ _ => lF
  rename News _ _ _ _ => lN
  refine lw_words lF lN (fun p hp => List.mem_append_left _ hp) (fun p hp => List.mem_append_right _ hp) (fun p hp => (List.mem_append.mp hp).elim (o12 _ _ _ _ _ p) (of1 p)) (fun p hp => List.mem_append_right _ (s1' p hp)) M8 Gg ap1 tl1 wA (words_some (xs := [d0, d1, d2]) lenA.1 (by simp)) (words_few lenA.2 (by decide)) (by decide) (by decide) ?_
  intro h10 tk10 D10 ws1 k1 u1' v1' hs1 F10 N10 dD10 oD10
  have N10 := News.front N10
  have of1 : OffM d1' pb1 at1 ((D10, W.listOf ws1.toArray k1) :: es) := List.forall_mem_cons.mpr ⟨dD10, of1⟩
  have of2 : OffM d2' pb2 at2 ((D10, W.listOf ws1.toArray k1) :: es) := List.forall_mem_cons.mpr ⟨⟨Ne.symm (oD10 _ (.head _)), Ne.symm (oD10 _ (.tail _ (.head _))), Ne.symm (oD10 _ (.tail _ (.tail _ (.head _))))⟩, of2⟩
  clear lF lN dD10 oD10
  (repeat' (first | (k_unfold; (try dsimp only)) | walk1 | (dsimp only; walk1) | (dsimp only; k_unfold; (try dsimp only)) | (((with_reducible refine Hid.out hQk _ _ ?_); clear hQk Qk; (try dsimp only)))))
  refine Stop.out ?_
  rename Fr _ _ _ _ => lF
  rename News _ _ _ _ => lN
  refine lw_words (R := mst K1 XA d1' pb1 at1 lam1 [] 0 XA.length u1' v1' ++ ((D10, W.listOf ws1.toArray k1) :: es)) lF lN (fun p hp => List.mem_append_right _ (List.mem_append_left _ hp)) (fun p hp => (List.mem_append.mp hp).elim (fun hp => List.mem_append_left _ hp) fun hp => List.mem_append_right _ (List.mem_append_right _ hp)) (fun p hp => (List.mem_append.mp hp).elim (off_flip (o12 XB 0 0 u2 v2) p) (of2 p)) (fun p hp => List.mem_append_right _ (.tail _ (s2' p hp))) M9 Gg ap2 tl2 wB (words_some (xs := [d3, d4]) lenB.1 (by simp)) (words_few lenB.2 (by decide)) (by decide) (by decide) ?_
  intro h11 tk11 D11 ws2 k2 u2' v2' hs2 F11 N11 dD11 oD11
  have N11 := News.front2 N11
  have of1 : OffM d1' pb1 at1 ((D11, W.listOf ws2.toArray k2) :: (D10, W.listOf ws1.toArray k1) :: es) := List.forall_mem_cons.mpr ⟨⟨Ne.symm (oD11 _ (.head _)), Ne.symm (oD11 _ (.tail _ (.head _))), Ne.symm (oD11 _ (.tail _ (.tail _ (.head _))))⟩, of1⟩
  have of2 : OffM d2' pb2 at2 ((D11, W.listOf ws2.toArray k2) :: (D10, W.listOf ws1.toArray k1) :: es) := List.forall_mem_cons.mpr ⟨dD11, of2⟩
  clear lF lN dD11 oD11
  (repeat' (first | (k_unfold; (try dsimp only)) | walk1 | (dsimp only; walk1) | (dsimp only; k_unfold; (try dsimp only)) | (((with_reducible refine Hid.out hQk _ _ ?_); clear hQk Qk; (try dsimp only)))))
  refine Stop.out ?_
  refine compA (cl := []) TurnF rfl rfl (by decide) rfl (by decide) rfl rfl rfl ?_
  (repeat' (first | (k_unfold; (try dsimp only)) | walk1 | (dsimp only; walk1) | (dsimp only; k_unfold; (try dsimp only)) | (((with_reducible refine Hid.out hQk _ _ ?_); clear hQk Qk; (try dsimp only)))))
  rename Fr _ _ _ _ => lF
  rename News _ _ _ _ => lN
  refine Stop.out ⟨_, _, _, _, src_list rfl (News.isList lN (List.mem_append_right _ (List.mem_append_right _ (.head _)))), ?_, lF.ns, ?_, ?_⟩
  · rw [List.size_toArray, paired_len hs2, List.length_map, List.length_map, sizeLine_eq]; have := lenB.2; omega
  · rintro C i v s₃ m₃ R hi hv hns hm hk9 hR9
    have F3 := lF.keeps hk9
    have hv' : ∃ p t, Sat p ∧ v = .str (wordS (numOf p)) t := by
      rw [List.getElem?_toArray] at hv
      obtain ⟨a, ha, t, e⟩ := strs_at hs2 hv
      obtain ⟨n, hn, rfl⟩ := List.mem_map.mp ha
      obtain ⟨p, hp, rfl⟩ := List.mem_map.mp hn
      exact ⟨p, t, sa2 p hp, e⟩
    obtain ⟨p, t, hp, rfl⟩ := hv'
    clear lF lN
    (repeat' (first | (k_unfold; (try dsimp only)) | walk1 | (dsimp only; walk1) | (dsimp only; k_unfold; (try dsimp only)) | (((with_reducible refine Hid.out hQk _ _ ?_); clear hQk Qk; (try dsimp only)))))
    refine Stop.out ?_
    refine c_light (Gg.keeps F3.keep) (by decide) (by decide) (sat_hue hp).lt ?_
    intro v' h13 tk13 k13 nw
    have F13 := F3.keeps k13
    have hns := hns.keeps k13
    have pw : P3 h13 v' (dig (numOf p)).1 (dig (numOf p)).2.1 (dig (numOf p)).2.2 := nw.p
    rw [dig_num hp.1] at pw
    clear F3 nw
    (repeat' (first | (k_unfold; (try dsimp only)) | walk1 | (dsimp only; walk1) | (dsimp only; k_unfold; (try dsimp only)) | (((with_reducible refine Hid.out hQk _ _ ?_); clear hQk Qk; (try dsimp only)))))
    refine newList_kp ?_
    intro D14 h14 kq hq
    have F14 := F13.keeps kq
    have hns := hns.keeps kq
    have pw := pw.keeps kq
    have k14 := Kp.trans k13 kq
    clear F13 kq k13
    (repeat' (first | (k_unfold; (try dsimp only)) | walk1 | (dsimp only; walk1) | (dsimp only; k_unfold; (try dsimp only)) | (((with_reducible refine Hid.out hQk _ _ ?_); clear hQk Qk; (try dsimp only)))))
    refine Stop.out ?_
    refine c_against (ls := [p]) (Gg.keeps F14.keep) (by decide) (by decide) hq (.cons pw .nil) (by simp) ?_
    intro v9 h15 tk15 k15 nw
    have F15 := F14.keeps k15
    have hns := hns.keeps k15
    have pw : P3 h15 v9 (againstL [p]).1 (againstL [p]).2.1 (againstL [p]).2.2 := nw.p
    have hS := turn_sat hp
    clear F14 nw hq
    (repeat' (first | (k_unfold; (try dsimp only)) | walk1 | (dsimp only; walk1) | (dsimp only; k_unfold; (try dsimp only)) | (((with_reducible refine Hid.out hQk _ _ ?_); clear hQk Qk; (try dsimp only)))))
    refine Stop.out ?_
    refine c_word (Gg.keeps F15.keep) (by decide) (by decide) pw hS.1.1 hS.1.2.1 hS.1.2.2 ?_
    intro t16 h16 tk16 k16
    exact hR9 _ _ _ ⟨p, _, _, hp, rfl, rfl⟩ (Kp.trans k14 (Kp.trans k15 k16))
  · intro D12 h12 tk12 ys9 vs9 hpl hD' hns hk hlen hP hF
    have hT := turned_strs hs2 sa2 (paired_same hlen hP hF)
    obtain ⟨k3, N12⟩ := News.one lF hD' hpl
    have N12 : News _ _ _ ((D12, W.listOf ys9 k3) :: _) := List.forall_mem_cons.mpr ⟨N12 _ (.head _), News.assigned lN hk⟩
    have F12 := Fr.assigned lF hns hk
    have dD := fresh_off lN hD'
    obtain ⟨ws3, rfl⟩ : ∃ yl : List Value, ys9 = yl.toArray := ⟨ys9.toList, by simp⟩
    have of1 : OffM d1' pb1 at1 ((D12, W.listOf ws3.toArray k3) :: (D11, W.listOf ws2.toArray k2) :: (D10, W.listOf ws1.toArray k1) :: es) := List.forall_mem_cons.mpr ⟨mst_off fun p hp => dD p (List.mem_append_left _ hp), of1⟩
    have of2 : OffM d2' pb2 at2 ((D12, W.listOf ws3.toArray k3) :: (D11, W.listOf ws2.toArray k2) :: (D10, W.listOf ws1.toArray k1) :: es) := List.forall_mem_cons.mpr ⟨mst_off fun p hp => dD p (List.mem_append_right _ (List.mem_append_left _ hp)), of2⟩
    have N12 := News.front N12
    clear hD' hpl hns hk hlen hP hF dD lF lN
    obtain ⟨es12, hes⟩ : ∃ e, e = (D12, W.listOf ws3.toArray k3) :: (D11, W.listOf ws2.toArray k2) :: (D10, W.listOf ws1.toArray k1) :: es := ⟨_, rfl⟩
    rw [← hes] at N12 of1 of2
    have sX : ∀ p ∈ es, p ∈ es12 := fun p hp => hes ▸ .tail _ (.tail _ (.tail _ hp))
    have s10 : (D10, W.listOf ws1.toArray k1) ∈ es12 := hes ▸ .tail _ (.tail _ (.head _))
    have s11 : (D11, W.listOf ws2.toArray k2) ∈ es12 := hes ▸ .tail _ (.head _)
    have s12 : (D12, W.listOf ws3.toArray k3) ∈ es12 := hes ▸ .head _
    clear hes
    have z3 : (TA.map numOf).length < 20 := rows_few lenA.2 (by decide)
    have z2 : (TB.map numOf).length < 20 := rows_few lenB.2 (by decide)
    have zT : ((TB.map fun p => againstL [p]).map numOf).length < 20 := by rw [List.length_map, List.length_map, ← List.length_map numOf]; exact z2
    (repeat' (first | (k_unfold; (try dsimp only)) | walk1 | (dsimp only; walk1) | (dsimp only; k_unfold; (try dsimp only)) | (((with_reducible refine Hid.out hQk _ _ ?_); clear hQk Qk; (try dsimp only)))))
    refine Stop.out ?_
    rename Fr _ _ _ _ => lF
    rename News _ _ _ _ => lN
    rename_i nl hn lt
    have ofn := nil_off lt
    have of1 : OffM d1' pb1 at1 ((nl, W.listOf #[] 0) :: es12) := List.forall_mem_cons.mpr ⟨ofn.1, of1⟩
    have of2 : OffM d2' pb2 at2 ((nl, W.listOf #[] 0) :: es12) := List.forall_mem_cons.mpr ⟨ofn.2, of2⟩
    refine lw_walk (ws2 := []) (l2 := []) (R := ((nl, W.listOf #[] 0) :: es12)) lF lN (fun p hp => .tail _ (two_left hp)) (fun p hp => (List.mem_cons.mp hp).elim (fun e => e ▸ .head _) fun hp => .tail _ (List.mem_append_right _ (List.mem_append_right _ hp))) of1 of2 (fun p hp => (.tail _ (sX _ (s1' p hp)))) (fun p hp => (.tail _ (sX _ (s2' p hp)))) M8 ap1 tl1 M9 ap2 tl2 Gg (o12 _ _ _ _ _) (.tail _ s10) hs1 z3 (rows_hue sa3) (.head _) .nil (by decide) (fun _ x => nomatch x) (by decide) (by decide) ?_
    intro hp tkp Dp usp mp ep Ap Bp n1p n2p u1p u2p v1p v2p pAp pBp wAp wBp Fp Np of1p of2p hLp
    clear of1 of2 ofn lt lF lN
    obtain ⟨es13, hes⟩ : ∃ z, z = ((Dp, W.listOf usp.toArray mp) :: ep) ++ ((nl, W.listOf #[] 0) :: es12) := ⟨_, rfl⟩
    rw [← hes] at Np of1p of2p
    have tX : ∀ p ∈ es12, p ∈ es13 := fun p hp => hes ▸ List.mem_append_right _ (.tail _ hp)
    have sX : ∀ p ∈ es, p ∈ es13 := fun p hp => tX _ (sX p hp)
    have sDp : (Dp, W.listOf usp.toArray mp) ∈ es13 := hes ▸ .head _
    have hLp := hLp.more (es' := es13) fun p hp => hes ▸ List.mem_append_left _ (.tail _ hp)
    have of1 := of1p
    have of2 := of2p
    clear hes of1p of2p
    have s10 := tX _ s10
    have s11 := tX _ s11
    have s12 := tX _ s12
    clear tX
    (repeat' (first | (k_unfold; (try dsimp only)) | walk1 | (dsimp only; walk1) | (dsimp only; k_unfold; (try dsimp only)) | (((with_reducible refine Hid.out hQk _ _ ?_); clear hQk Qk; (try dsimp only)))))
    refine Stop.out ?_
    rename Fr _ _ _ _ => lF
    rename News _ _ _ _ => lN
    rename_i nl hn lt
    have ofn := nil_off lt
    have of1 : OffM d1' pb1 at1 ((nl, W.listOf #[] 0) :: es13) := List.forall_mem_cons.mpr ⟨ofn.1, of1⟩
    have of2 : OffM d2' pb2 at2 ((nl, W.listOf #[] 0) :: es13) := List.forall_mem_cons.mpr ⟨ofn.2, of2⟩
    refine lw_walk (ws1 := []) (l1 := []) (R := ((nl, W.listOf #[] 0) :: es13)) lF lN (fun p hp => .tail _ (two_left hp)) (fun p hp => (List.mem_cons.mp hp).elim (fun e => e ▸ .head _) fun hp => .tail _ (List.mem_append_right _ (List.mem_append_right _ hp))) of1 of2 (fun p hp => (.tail _ (sX _ (s1' p hp)))) (fun p hp => (.tail _ (sX _ (s2' p hp)))) M8 ap1 tl1 M9 ap2 tl2 Gg (o12 _ _ _ _ _) (.head _) .nil (by decide) (fun _ x => nomatch x) (.tail _ s11) hs2 z2 (rows_hue sa2) (by decide) (by decide) ?_
    intro hq tkq Dq usq mq eq Aq Bq n1q n2q u1q u2q v1q v2q pAq pBq wAq wBq Fq Nq of1q of2q hLq
    clear of1 of2 ofn lt lF lN
    obtain ⟨es14, hes⟩ : ∃ z, z = ((Dq, W.listOf usq.toArray mq) :: eq) ++ ((nl, W.listOf #[] 0) :: es13) := ⟨_, rfl⟩
    rw [← hes] at Nq of1q of2q
    have tX : ∀ p ∈ es13, p ∈ es14 := fun p hp => hes ▸ List.mem_append_right _ (.tail _ hp)
    have sX : ∀ p ∈ es, p ∈ es14 := fun p hp => tX _ (sX p hp)
    have sDq : (Dq, W.listOf usq.toArray mq) ∈ es14 := hes ▸ .head _
    have hLq := hLq.more (es' := es14) fun p hp => hes ▸ List.mem_append_left _ (.tail _ hp)
    have of1 := of1q
    have of2 := of2q
    clear hes of1q of2q
    have s10 := tX _ s10
    have s11 := tX _ s11
    have s12 := tX _ s12
    have sDp := tX _ sDp
    have hLp := hLp.more tX
    clear tX
    (repeat' (first | (k_unfold; (try dsimp only)) | walk1 | (dsimp only; walk1) | (dsimp only; k_unfold; (try dsimp only)) | (((with_reducible refine Hid.out hQk _ _ ?_); clear hQk Qk; (try dsimp only)))))
    refine Stop.out ?_
    rename Fr _ _ _ _ => lF
    rename News _ _ _ _ => lN
    refine lw_walk  (R := es14) lF lN (fun p hp => two_left hp) (fun p hp => List.mem_append_right _ (List.mem_append_right _ hp)) of1 of2 (fun p hp => (sX _ (s1' p hp))) (fun p hp => (sX _ (s2' p hp))) M8 ap1 tl1 M9 ap2 tl2 Gg (o12 _ _ _ _ _) s10 hs1 z3 (rows_hue sa3) s11 hs2 z2 (rows_hue sa2) (by decide) (by decide) ?_
    intro hr tkr Dr usr mr er Ar Br n1r n2r u1r u2r v1r v2r pAr pBr wAr wBr Fr Nr of1r of2r hLr
    clear of1 of2 lF lN
    obtain ⟨es15, hes⟩ : ∃ z, z = ((Dr, W.listOf usr.toArray mr) :: er) ++ es14 := ⟨_, rfl⟩
    rw [← hes] at Nr of1r of2r
    have tX : ∀ p ∈ es14, p ∈ es15 := fun p hp => hes ▸ List.mem_append_right _ hp
    have sX : ∀ p ∈ es, p ∈ es15 := fun p hp => tX _ (sX p hp)
    have sDr : (Dr, W.listOf usr.toArray mr) ∈ es15 := hes ▸ .head _
    have hLr := hLr.more (es' := es15) fun p hp => hes ▸ List.mem_append_left _ (.tail _ hp)
    have of1 := of1r
    have of2 := of2r
    clear hes of1r of2r
    have s10 := tX _ s10
    have s12 := tX _ s12
    have sDp := tX _ sDp
    have sDq := tX _ sDq
    have hLp := hLp.more tX
    have hLq := hLq.more tX
    clear tX
    (repeat' (first | (k_unfold; (try dsimp only)) | walk1 | (dsimp only; walk1) | (dsimp only; k_unfold; (try dsimp only)) | (((with_reducible refine Hid.out hQk _ _ ?_); clear hQk Qk; (try dsimp only)))))
    refine Stop.out ?_
    rename Fr _ _ _ _ => lF
    rename News _ _ _ _ => lN
    refine lw_walk  (R := es15) lF lN (fun p hp => two_left hp) (fun p hp => List.mem_append_right _ (List.mem_append_right _ hp)) of1 of2 (fun p hp => (sX _ (s1' p hp))) (fun p hp => (sX _ (s2' p hp))) M8 ap1 tl1 M9 ap2 tl2 Gg (o12 _ _ _ _ _) s10 hs1 z3 (rows_hue sa3) s12 hT zT (rows_hue (turn_all sa2)) (by decide) (by decide) ?_
    intro ht tkt Dt ust mt et At Bt n1t n2t u1t u2t v1t v2t pAt pBt wAt wBt Ft Nt of1t of2t hLt
    clear of1 of2 lF lN
    obtain ⟨es16, hes⟩ : ∃ z, z = ((Dt, W.listOf ust.toArray mt) :: et) ++ es15 := ⟨_, rfl⟩
    rw [← hes] at Nt of1t of2t
    have tX : ∀ p ∈ es15, p ∈ es16 := fun p hp => hes ▸ List.mem_append_right _ hp
    have sX : ∀ p ∈ es, p ∈ es16 := fun p hp => tX _ (sX p hp)
    have sDt : (Dt, W.listOf ust.toArray mt) ∈ es16 := hes ▸ .head _
    have hLt := hLt.more (es' := es16) fun p hp => hes ▸ List.mem_append_left _ (.tail _ hp)
    have of1 := of1t
    have of2 := of2t
    clear hes of1t of2t
    have sDp := tX _ sDp
    have sDq := tX _ sDq
    have sDr := tX _ sDr
    have hLp := hLp.more tX
    have hLq := hLq.more tX
    have hLr := hLr.more tX
    clear tX
    (repeat' (first | (k_unfold; (try dsimp only)) | walk1 | (dsimp only; walk1) | (dsimp only; k_unfold; (try dsimp only)) | (((with_reducible refine Hid.out hQk _ _ ?_); clear hQk Qk; (try dsimp only)))))
    refine Stop.out ?_
    rename Fr _ _ _ _ => lF
    rename News _ _ _ _ => lN
    rename_i hh
    have hU := News.isList lN (List.mem_append_right _ (List.mem_append_right _ (sX _ me)))
    have hV := News.isList lN (List.mem_append_right _ (List.mem_append_right _ (sX _ me')))
    have tU := le.trs fun p hp => (lN p (List.mem_append_right _ (List.mem_append_right _ (sX _ hp)))).1
    have tV := le'.trs fun p hp => (lN p (List.mem_append_right _ (List.mem_append_right _ (sX _ hp)))).1
    have cR := (lN _ (List.mem_append_right _ (List.mem_append_right _ (sX _ sC)))).1
    dsimp only at cR
    refine compXY (cl := [(Str.ofString "rivals", s1.heap.objs.size + 1)]) (XF hh) rfl rfl rfl (by decide) rfl (by decide) rfl rfl (by decide) ?_
    (repeat' (first | (k_unfold; (try dsimp only)) | walk1 | (dsimp only; walk1) | (dsimp only; k_unfold; (try dsimp only)) | (((with_reducible refine Hid.out hQk _ _ ?_); clear hQk Qk; (try dsimp only)))))
    refine Stop.out ⟨_, _, us, us', rfl, hU, hV, ?_, ?_, ?_, ?_⟩
    · rw [paired_len tU, paired_len tV, sizeLine_eq]
      have a := lenA.2
      have b := lenB.2
      have c := Nat.mul_le_mul a b
      omega
    · intro C s₃ m₃ R hns hk9 hR9
      have hc : s₃.heap.IsCell (s1.heap.objs.size + 1) (some (.ref D3)) := ⟨oR, hk9 _ _ cR, dR⟩
      clear lF lN
      (repeat' (first | (k_unfold; (try dsimp only)) | walk1 | (dsimp only; walk1) | (dsimp only; k_unfold; (try dsimp only)) | (((with_reducible refine Hid.out hQk _ _ ?_); clear hQk Qk; (try dsimp only)))))
      exact hR9
    · intro C v u s₃ m₃ R hv hu hns hx hy hk9 hR9
      obtain ⟨p, hp, pv⟩ := paired_mem tU hv
      obtain ⟨q, hq, qv⟩ := paired_mem tV hu
      have F3 := lF.keeps hk9
      have pv3 := pv.keeps hk9
      have qv3 := qv.keeps hk9
      have hS := sa3 p hp
      clear lF lN
      (repeat' (first | (k_unfold; (try dsimp only)) | walk1 | (dsimp only; walk1) | (dsimp only; k_unfold; (try dsimp only)) | (((with_reducible refine Hid.out hQk _ _ ?_); clear hQk Qk; (try dsimp only)))))
      refine Stop.out ?_
      refine c_step (Gg.keeps F3.keep) (by decide) (by decide) pv3 ?_
      intro v5 h5' tk5' kp5 nw5
      have F5' := F3.keeps kp5
      have hns := hns.keeps kp5
      have qv5 := qv3.keeps kp5
      have P5 := nw5.p
      clear F3 pv3 qv3 nw5
      (repeat' (first | (k_unfold; (try dsimp only)) | walk1 | (dsimp only; walk1) | (dsimp only; k_unfold; (try dsimp only)) | (((with_reducible refine Hid.out hQk _ _ ?_); clear hQk Qk; (try dsimp only)))))
      refine Stop.out ?_
      refine c_step (Gg.keeps F5'.keep) (by decide) (by decide) qv5 ?_
      intro v6 h6' tk6' kp6' nw6
      have F6' := F5'.keeps kp6'
      have hns := hns.keeps kp6'
      have P6 := nw6.p
      have P5 := P5.keeps kp6'
      clear F5' qv5 nw6
      (repeat' (first | (k_unfold; (try dsimp only)) | walk1 | (dsimp only; walk1) | (dsimp only; k_unfold; (try dsimp only)) | (((with_reducible refine Hid.out hQk _ _ ?_); clear hQk Qk; (try dsimp only)))))
      refine Stop.out ?_
      obtain ⟨⟨b1, b2, b3⟩, _⟩ := hS
      refine c_cross (Gg.keeps F6'.keep) (by decide) (by decide) P5 P6 (by omega) (by omega) ?_
      intro t7' h7' tk7' kp7'
      have F7' := F6'.keeps kp7'
      have hns := hns.keeps kp7'
      clear F6' P5 P6
      (repeat' (first | (k_unfold; (try dsimp only)) | walk1 | (dsimp only; walk1) | (dsimp only; k_unfold; (try dsimp only)) | (((with_reducible refine Hid.out hQk _ _ ?_); clear hQk Qk; (try dsimp only)))))
      exact hR9 _ _ _ (xf_abs pv qv) (Kp.trans (Kp.trans kp5 kp6') kp7')
    · intro D17 h17 tk17 zs hpl hD' hk hF
      have F17 := lF.keeps hk
      have N17 := lN.grown hk
      have hI17 := crosses_ints tU tV hF
      obtain ⟨zl, rfl⟩ : ∃ yl : List Value, zs = yl.toArray := ⟨zs.toList, by simp⟩
      clear hU hV tU tV cR hF hD' hk lF lN
      (repeat' (first | (k_unfold; (try dsimp only)) | walk1 | (dsimp only; walk1) | (dsimp only; k_unfold; (try dsimp only)) | (((with_reducible refine Hid.out hQk _ _ ?_); clear hQk Qk; (try dsimp only)))))
      refine Stop.out ?_
      refine sum_kp rfl hpl.isList hI17 ?_
      intro h18 tk18 t18 kp18
      have F18 := F17.keeps kp18
      have N18 := N17.grown kp18
      clear F17 N17 hpl hI17
      have eC : List.sum ((TA.flatMap fun v => TB.map fun u => (v, u)).map fun p => ((cr (st p.1) (st p.2)).natAbs : Int)) = absS TA TB := rfl
      rw [eC]
      clear eC
      obtain ⟨cs, hcs⟩ : ∃ c, absS TA TB = c := ⟨_, rfl⟩
      rw [hcs]
      have N19 : News _ _ _ ((in1, instObj 66 d1') :: (d1', mdict K1 (lno XA XA.length) u1t lam1 pb1) :: (in2, instObj 66 d2') :: (d2', mdict K2 (lno XB XB.length) u2t lam2 pb2) :: es16) := News.sub N18 (List.forall_mem_cons.mpr ⟨List.mem_append_right _ (List.mem_append_right _ (sX _ (s1' _ M8.inst))), List.forall_mem_cons.mpr ⟨List.mem_append_left _ (.head _), List.forall_mem_cons.mpr ⟨List.mem_append_right _ (List.mem_append_right _ (sX _ (s2' _ M9.inst))), List.forall_mem_cons.mpr ⟨List.mem_append_right _ (List.mem_append_left _ (.head _)), fun p hp => List.mem_append_right _ (List.mem_append_right _ hp)⟩⟩⟩⟩)
      clear N18 of1 of2
      have F4 := four (xs := [d0, d1, d2]) (ys := [d3, d4]) hTA hTB (by simp) (by simp) sa3 sa2 pAp wAp pBp pAq pBq wBq pAr wAr pBr wBr pAt wAt pBt wBt
      rw [hcs] at F4
      have c3 := paired_len le
      have c2 := paired_len le'
      have c3' := lenA.2
      have c2' := lenB.2
      clear sa3 sa2 pAp wAp pBp pAq pBq wBq pAr wAr pBr wBr pAt wAt pBt wBt wBp wAq z3 z2 zT hs1 hs2 hT le le' s10 s11 s12 M8 M9 ap1 ap2 o12 tl1 tl2
      have e1 := lno_end XA
      have e2 := lno_end XB
      obtain ⟨y1, hy1⟩ : ∃ y, lno XA XA.length = y := ⟨_, rfl⟩
      obtain ⟨y2, hy2⟩ : ∃ y, lno XB XB.length = y := ⟨_, rfl⟩
      rw [hy1] at N19 e1
      rw [hy2] at N19 e2
      obtain ⟨psp, hp1⟩ : ∃ y, spotsOf (0, 0) (List.map stepN (mergeN Ap Bp)) = y := ⟨_, rfl⟩
      obtain ⟨psq, hp2⟩ : ∃ y, spotsOf (0, 0) (List.map stepN (mergeN Aq Bq)) = y := ⟨_, rfl⟩
      obtain ⟨psr, hp3⟩ : ∃ y, spotsOf (0, 0) (List.map stepN (mergeN Ar Br)) = y := ⟨_, rfl⟩
      obtain ⟨pst, hp4⟩ : ∃ y, spotsOf (0, 0) (List.map stepN (mergeN At Bt)) = y := ⟨_, rfl⟩
      rw [hp1, hp2, hp3, hp4] at F4
      rw [hp1] at hLp
      rw [hp2] at hLq
      rw [hp3] at hLr
      rw [hp4] at hLt
      clear hy1 hy2 hp1 hp2 hp3 hp4
      clear hcd hD
      (repeat' (first | (k_unfold; (try dsimp only)) | walk1 | (dsimp only; walk1) | (dsimp only; k_unfold; (try dsimp only)) | (((with_reducible refine Hid.out hQk _ _ ?_); clear hQk Qk; (try dsimp only)))))
      refine Stop.out (ite_yes (decide_eq_true (by rw [e1, e2])) ?_)
      rename Fr _ _ _ _ => lF
      rename News _ _ _ _ => lN
      have N20 := News.sub (b := (s1.heap.objs.size + 1, oR) :: es16) lN (List.forall_mem_cons.mpr ⟨.tail _ (.tail _ (.tail _ (.tail _ (.tail _ (.tail _ (sX _ sC)))))), fun p hp => .tail _ (.tail _ (.tail _ (.tail _ (.tail _ (.tail _ hp)))))⟩)
      clear lN e1 e2
      (repeat' (first | (k_unfold; (try dsimp only)) | walk1 | (dsimp only; walk1) | (dsimp only; k_unfold; (try dsimp only)) | (((with_reducible refine Hid.out hQk _ _ ?_); clear hQk Qk; (try dsimp only)))))
      refine Stop.out ?_
      rename Fr _ _ _ _ => lF
      rename News _ _ _ _ => lN
      refine kun_lenL (k := (psr.length : Int)) (News.isList lN (.tail _ sDr)) (by rw [List.size_toArray, paired_len hLr]) (by have := F4.lr.2; omega) ?_
      (repeat' (first | (k_unfold; (try dsimp only)) | walk1 | (dsimp only; walk1) | (dsimp only; k_unfold; (try dsimp only)) | (((with_reducible refine Hid.out hQk _ _ ?_); clear hQk Qk; (try dsimp only)))))
      refine Stop.out ?_
      rename Fr _ _ _ _ => lF
      rename News _ _ _ _ => lN
      refine kun_lenL (k := (TA.length : Int)) (News.isList lN (.tail _ (sX _ me))) (by rw [List.size_toArray, c3]) (by omega) ?_
      (repeat' (first | (k_unfold; (try dsimp only)) | walk1 | (dsimp only; walk1) | (dsimp only; k_unfold; (try dsimp only)) | (((with_reducible refine Hid.out hQk _ _ ?_); clear hQk Qk; (try dsimp only)))))
      refine Stop.out ?_
      rename Fr _ _ _ _ => lF
      rename News _ _ _ _ => lN
      refine kun_lenL (k := (TB.length : Int)) (News.isList lN (.tail _ (sX _ me'))) (by rw [List.size_toArray, c2]) (by omega) ?_
      (repeat' (first | (k_unfold; (try dsimp only)) | walk1 | (dsimp only; walk1) | (dsimp only; k_unfold; (try dsimp only)) | (((with_reducible refine Hid.out hQk _ _ ?_); clear hQk Qk; (try dsimp only)))))
      refine Stop.out (ite_yes (beq_iff_eq.mpr (by have := F4.nm; omega)) ?_)
      (repeat' (first | (k_unfold; (try dsimp only)) | walk1 | (dsimp only; walk1) | (dsimp only; k_unfold; (try dsimp only)) | (((with_reducible refine Hid.out hQk _ _ ?_); clear hQk Qk; (try dsimp only)))))
      refine Stop.out ?_
      rename Fr _ _ _ _ => lF
      rename News _ _ _ _ => lN
      refine c_edge (Gg.keeps lF.keep) (by decide) (by decide) (News.isList lN (.tail _ sDr)) (hLr.pts fun p hp => (lN p (.tail _ hp)).1) (News.isList lN (.tail _ sDp)) (hLp.pts fun p hp => (lN p (.tail _ hp)).1) (News.isList lN (.tail _ sDq)) (hLq.pts fun p hp => (lN p (.tail _ hp)).1) F4.tr F4.lr.1 F4.lr.2 F4.lp.1 F4.lp.2 F4.lq.1 F4.lq.2 F4.ed F4.la ?_
      intro h21 tk21 kp21
      have F21 := lF.keeps kp21
      have N21 := lN.grown kp21
      clear lF lN
      have ar4 := F4.ar
      have mq4 := F4.mq
      (repeat' (first | (k_unfold; (try dsimp only)) | walk1 | (dsimp only; walk1) | (dsimp only; k_unfold; (try dsimp only)) | (((with_reducible refine Hid.out hQk _ _ ?_); clear hQk Qk; (try dsimp only)))))
      refine Stop.out (ite_yes rfl ?_)
      (repeat' (first | (k_unfold; (try dsimp only)) | walk1 | (dsimp only; walk1) | (dsimp only; k_unfold; (try dsimp only)) | (((with_reducible refine Hid.out hQk _ _ ?_); clear hQk Qk; (try dsimp only)))))
      refine Stop.out ?_
      rename Fr _ _ _ _ => lF
      rename News _ _ _ _ => lN
      refine c_area (Gg.keeps lF.keep) (by decide) (by decide) (News.isList lN (.tail _ sDr)) (hLr.pts fun p hp => (lN p (.tail _ hp)).1) F4.sr F4.lr.1 F4.lr.2 ?_
      intro ta0 ha0 tka0 kpa0
      have Fa0 := lF.keeps kpa0
      have Na0 := lN.grown kpa0
      clear lF lN
      (repeat' (first | (k_unfold; (try dsimp only)) | walk1 | (dsimp only; walk1) | (dsimp only; k_unfold; (try dsimp only)) | (((with_reducible refine Hid.out hQk _ _ ?_); clear hQk Qk; (try dsimp only)))))
      refine Stop.out ?_
      rename Fr _ _ _ _ => lF
      rename News _ _ _ _ => lN
      refine c_area (Gg.keeps lF.keep) (by decide) (by decide) (News.isList lN (.tail _ sDt)) (hLt.pts fun p hp => (lN p (.tail _ hp)).1) F4.st F4.lt.1 F4.lt.2 ?_
      intro ta1 ha1 tka1 kpa1
      have Fa1 := lF.keeps kpa1
      have Na1 := lN.grown kpa1
      clear lF lN
      (repeat' (first | (k_unfold; (try dsimp only)) | walk1 | (dsimp only; walk1) | (dsimp only; k_unfold; (try dsimp only)) | (((with_reducible refine Hid.out hQk _ _ ?_); clear hQk Qk; (try dsimp only)))))
      refine Stop.out ?_
      rename Fr _ _ _ _ => lF
      rename News _ _ _ _ => lN
      refine c_area (Gg.keeps lF.keep) (by decide) (by decide) (News.isList lN (.tail _ sDp)) (hLp.pts fun p hp => (lN p (.tail _ hp)).1) F4.sp F4.lp.1 F4.lp.2 ?_
      intro ta2 ha2 tka2 kpa2
      have Fa2 := lF.keeps kpa2
      have Na2 := lN.grown kpa2
      clear lF lN
      (repeat' (first | (k_unfold; (try dsimp only)) | walk1 | (dsimp only; walk1) | (dsimp only; k_unfold; (try dsimp only)) | (((with_reducible refine Hid.out hQk _ _ ?_); clear hQk Qk; (try dsimp only)))))
      refine Stop.out ?_
      rename Fr _ _ _ _ => lF
      rename News _ _ _ _ => lN
      refine c_area (Gg.keeps lF.keep) (by decide) (by decide) (News.isList lN (.tail _ sDq)) (hLq.pts fun p hp => (lN p (.tail _ hp)).1) F4.sq F4.lq.1 F4.lq.2 ?_
      intro ta3 ha3 tka3 kpa3
      have Fa3 := lF.keeps kpa3
      have Na3 := lN.grown kpa3
      clear lF lN
      (repeat' (first | (k_unfold; (try dsimp only)) | walk1 | (dsimp only; walk1) | (dsimp only; k_unfold; (try dsimp only)) | (((with_reducible refine Hid.out hQk _ _ ?_); clear hQk Qk; (try dsimp only)))))
      refine Stop.out (ite_yes (beq_iff_eq.mpr (by omega)) ?_)
      (repeat' (first | (k_unfold; (try dsimp only)) | walk1 | (dsimp only; walk1) | (dsimp only; k_unfold; (try dsimp only)) | (((with_reducible refine Hid.out hQk _ _ ?_); clear hQk Qk; (try dsimp only)))))
      refine Stop.out ?_
      rename Fr _ _ _ _ => lF
      rename News _ _ _ _ => lN
      refine c_area (Gg.keeps lF.keep) (by decide) (by decide) (News.isList lN (.tail _ sDr)) (hLr.pts fun p hp => (lN p (.tail _ hp)).1) F4.sr F4.lr.1 F4.lr.2 ?_
      intro ta4 ha4 tka4 kpa4
      have Fa4 := lF.keeps kpa4
      have Na4 := lN.grown kpa4
      clear lF lN
      (repeat' (first | (k_unfold; (try dsimp only)) | walk1 | (dsimp only; walk1) | (dsimp only; k_unfold; (try dsimp only)) | (((with_reducible refine Hid.out hQk _ _ ?_); clear hQk Qk; (try dsimp only)))))
      refine Stop.out ?_
      rename Fr _ _ _ _ => lF
      rename News _ _ _ _ => lN
      refine c_area (Gg.keeps lF.keep) (by decide) (by decide) (News.isList lN (.tail _ sDp)) (hLp.pts fun p hp => (lN p (.tail _ hp)).1) F4.sp F4.lp.1 F4.lp.2 ?_
      intro ta5 ha5 tka5 kpa5
      have Fa5 := lF.keeps kpa5
      have Na5 := lN.grown kpa5
      clear lF lN
      (repeat' (first | (k_unfold; (try dsimp only)) | walk1 | (dsimp only; walk1) | (dsimp only; k_unfold; (try dsimp only)) | (((with_reducible refine Hid.out hQk _ _ ?_); clear hQk Qk; (try dsimp only)))))
      refine Stop.out ?_
      rename Fr _ _ _ _ => lF
      rename News _ _ _ _ => lN
      refine c_area (Gg.keeps lF.keep) (by decide) (by decide) (News.isList lN (.tail _ sDq)) (hLq.pts fun p hp => (lN p (.tail _ hp)).1) F4.sq F4.lq.1 F4.lq.2 ?_
      intro ta6 ha6 tka6 kpa6
      have Fa6 := lF.keeps kpa6
      have Na6 := lN.grown kpa6
      clear lF lN
      (repeat' (first | (k_unfold; (try dsimp only)) | walk1 | (dsimp only; walk1) | (dsimp only; k_unfold; (try dsimp only)) | (((with_reducible refine Hid.out hQk _ _ ?_); clear hQk Qk; (try dsimp only)))))
      refine Stop.out (pow_int_small (by decide) (by decide) F4.pow ?_)
      (repeat' (first | (k_unfold; (try dsimp only)) | walk1 | (dsimp only; walk1) | (dsimp only; k_unfold; (try dsimp only)) | (((with_reducible refine Hid.out hQk _ _ ?_); clear hQk Qk; (try dsimp only)))))
      refine Stop.out ?_
      rename Fr _ _ _ _ => lF
      rename News _ _ _ _ => lN
      refine c_area (Gg.keeps lF.keep) (by decide) (by decide) (News.isList lN (.tail _ sDp)) (hLp.pts fun p hp => (lN p (.tail _ hp)).1) F4.sp F4.lp.1 F4.lp.2 ?_
      intro ta7 ha7 tka7 kpa7
      have Fa7 := lF.keeps kpa7
      have Na7 := lN.grown kpa7
      clear lF lN
      (repeat' (first | (k_unfold; (try dsimp only)) | walk1 | (dsimp only; walk1) | (dsimp only; k_unfold; (try dsimp only)) | (((with_reducible refine Hid.out hQk _ _ ?_); clear hQk Qk; (try dsimp only)))))
      refine Stop.out ?_
      rename Fr _ _ _ _ => lF
      rename News _ _ _ _ => lN
      refine c_area (Gg.keeps lF.keep) (by decide) (by decide) (News.isList lN (.tail _ sDq)) (hLq.pts fun p hp => (lN p (.tail _ hp)).1) F4.sq F4.lq.1 F4.lq.2 ?_
      intro ta8 ha8 tka8 kpa8
      have Fa8 := lF.keeps kpa8
      have Na8 := lN.grown kpa8
      clear lF lN
      have bp := area_in F4.sp F4.lp.2
      have bq := area_in F4.sq F4.lq.2
      iterate 2 walk1
      have eb : decide (4 * areaS psp * areaS psq ≤ (areaS psr - areaS psp - areaS psq) ^ Int.toNat 2) = true := decide_eq_true mq4
      rw [eb]
      have gA := (Na8 _ (.tail _ (sX _ s7))).1
      dsimp only at gA
      (((with_reducible refine Hid.out hQk _ _ ?_); clear hQk Qk; (try dsimp only)))
      refine Hid.out hQz _ _ ?_
      try dsimp only
      refine ⟨goodW_bool Fa8 (by dsimp only; with_reducible assumption) (law_raise _) (law_post _), ⟨_, gA⟩, trivial⟩)
section
end
end Mine
theorem PySem.Challenge.cw_sn0008_01_holds : PySem.Challenge.rw_sn0008_01.Holds :=
  Mine.law_holds
