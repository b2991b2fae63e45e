import PyProof.Rows.All
import Wide.All
import OpenK.AllK
import Wide.FinOn
import Lean
import PySem.Challenge.RW_jy0013_01
open PySem PySem.W PyProof.Rows PySem.Calls PySem.Spec
set_option Elab.async false
set_option maxRecDepth 100000
set_option linter.unusedVariables false
namespace Mine
/- part a_call -/
abbrev Ext (h h' : Heap) : Prop := ∀ b o, h.get? b = some o → h'.get? b = some o

/-- A call of the text's own def that leaves every object that stood as it was. -/
def Call (prog : Program) (w : World) (f : Addr) (args : List Value) (nd nu : Nat) (s : Shared) (Post : Value → Heap → Prop) : Prop :=
  ∀ (dp un : Nat) (fr : Option (List Env)) (gd : Option (List Code)) (Q E : Value → Shared → Prop), dp + nd < recursionLimit → un + nu < cLine →
    (∀ v h' tk', Ext s.heap h' → Post v h' → Q v { s with heap := h', toks := tk' }) →
    wpAny (model prog w) { handled := none, depth := dp, frames := fr, guards := gd, units := un } (call (.ref f) args) Q E s

theorem enter {prog : Program} {w : World} {K : Frag} {f : Addr} {args : List Value} {nd nu : Nat} {s : Shared} {Post : Value → Heap → Prop}
    {name qual : Str} {params : Arguments} {body : List Stmt} {scope : Scope} {dV kV doc pm cdv ct oc : Value} {an od : Option Addr} {osl : Array (Option Value)} {binds : List (Str × Value)}
    (X : K.In s.heap) (hlim : s.heap.NoLimit)
    (ho : K.lookup f = some ⟨oc, od, .func (fnOf name qual params body scope dV kV doc pm an cdv ct), osl⟩) (hcd : codeIn K cdv qual = true)
    (hbind : BindsTo s (fnOf name qual params body scope dV kV doc pm an cdv ct) ⟨args, []⟩ binds) (hloc : ∀ y ∈ binds, scope.names.lookup y.1 = some .local)
    (h : ∀ (dp un : Nat) (fr : Option (List Env)) (gd : Option (List Code)) (h₁ : Heap) (L : Addr), dp + nd ≤ recursionLimit → un + nu < cLine + 4 → L = s.heap.objs.size →
      Fr s.heap L h₁ (fun x => binds.reverse.lookup x) →
      wpAny (model prog w) { handled := none, depth := dp, frames := fr, guards := gd, units := un } (execs body (envOf qual scope L f cdv))
        (fun fl s' => ∃ h' tk', s' = { s with heap := h', toks := tk' } ∧ Ext s.heap h' ∧ Post (match fl with | .ret v => v | _ => .none) h') (fun _ _ => False)
        { s with heap := h₁, toks := s.toks + binds.length })
    (hco : scope.isCoroutine = false := by rfl) (hgen : scope.isGenerator = false := by rfl) (hk : scope.kind = .function := by rfl)
    (hcell : ∀ x ∈ scope.names, x.2 ≠ .cell := by decide) : Call prog w f args nd nu s Post := by
  intro dp un fr gd Q E hd hu hQ
  refine wpAny_call ?_
  have hdp : dp < recursionLimit := Nat.lt_of_le_of_lt (Nat.le_add_right _ _) hd
  refine codeAny_call_def (fd := fnOf name qual params body scope dV kV doc pm an cdv ct) (body := body) (binds := binds) hdp (X _ _ ho) rfl hlim (codeRec_of X hcd) rfl hbind hcell hloc (fun h₁ hns hk₁ => ?_) hco hgen hk
  refine wpAny_mono (h (dp + 1) (un + 3) _ _ h₁ s.heap.objs.size (by omega) (by omega) rfl ⟨hns, hk₁, Nat.le_refl _⟩) (fun fl s' hl => ?_) fun _ _ y => y.elim
  obtain ⟨h', tk', rfl, he, hp⟩ := hl
  exact hQ _ _ _ he hp

structure Gr (K : Frag) (p : Program) (mg mb : Str → Option Value) (h : Heap) : Prop where
  x : K.In h
  t : TopRead p [] mg mb h


theorem enterC {prog : Program} {w : World} {K : Frag} {f : Addr} {args : List Value} {nd nu : Nat} {s : Shared} {Post : Value → Heap → Prop}
    {name qual : Str} {params : Arguments} {body : List Stmt} {scope : Scope} {dV kV doc pm cdv ct oc : Value} {an od : Option Addr} {osl : Array (Option Value)} {binds : List (Str × Value)}
    (X : K.In s.heap) (hlim : s.heap.NoLimit)
    (ho : K.lookup f = some ⟨oc, od, .func (fnOf name qual params body scope dV kV doc pm an cdv ct), osl⟩) (hcd : codeIn K cdv qual = true)
    (hbind : BindsTo s (fnOf name qual params body scope dV kV doc pm an cdv ct) ⟨args, []⟩ binds)
    (hkind : (binds.all fun y => scope.names.lookup y.1 == some .local || scope.names.lookup y.1 == some .cell) = true)
    (hnd : ((cellsFrom 0 scope.names []).map (·.1)).Nodup)
    (h : ∀ (dp un : Nat) (fr : Option (List Env)) (gd : Option (List Code)) (h₁ : Heap) (L : Addr) (tk : Nat) (cells : List (Addr × Obj)), dp + nd ≤ recursionLimit → un + nu < cLine + 4 → L = s.heap.objs.size →
      Fr s.heap L h₁ (bindL (envOfC qual scope L f cdv).kindOf binds fun _ => none) → News s.heap L h₁ cells → CellsAre (bindC (envOfC qual scope L f cdv).kindOf binds fun _ => none) (cellsFrom (L + 1) scope.names []) cells →
      wpAny (model prog w) { handled := none, depth := dp, frames := fr, guards := gd, units := un } (execs body (envOfC qual scope L f cdv))
        (fun fl s' => ∃ h' tk', s' = { s with heap := h', toks := tk' } ∧ Ext s.heap h' ∧ Post (match fl with | .ret v => v | _ => .none) h') (fun _ _ => False)
        { s with heap := h₁, toks := tk })
    (hco : scope.isCoroutine = false := by rfl) (hgen : scope.isGenerator = false := by rfl) (hk : scope.kind = .function := by rfl) : Call prog w f args nd nu s Post := by
  intro dp un fr gd Q E hd hu hQ
  refine wpAny_call ?_
  have hdp : dp < recursionLimit := Nat.lt_of_le_of_lt (Nat.le_add_right _ _) hd
  refine codeAny_call_function (fd := fnOf name qual params body scope dV kV doc pm an cdv ct) (body := body) hdp (X _ _ ho) rfl hco hgen rfl (codeRec_of X hcd) (hbind _ _ _ _ ?_)
  refine wpAny_newFunctionEnv_cells hk (kindsX hkind _) fun env' he s' x => ?_
  subst he
  refine ⟨hlim.keeps x.toInCall.keep, codeAny_func ?_⟩
  obtain ⟨h₁, tk, rfl, _⟩ := x.done
  have hk₁ := x.toInCall.keep
  obtain ⟨cells, NC, Y⟩ := Cl.news (h₀ := s.heap) (Nat.le_refl _) fun n c hm => ⟨x.cell n c (lookup_of_mem_nodup (cellsFrom_names scope.names 0 (s.heap.objs.size + 1) [] [] rfl ▸ hnd) hm), x.above n c hm⟩
  refine wpAny_mono (h (dp + 1) (un + 3) _ _ h₁ s.heap.objs.size tk cells (by omega) (by omega) rfl ⟨x.toInCall.ns, hk₁, Nat.le_refl _⟩ NC Y) (fun fl s' hl => ?_) fun _ _ y => y.elim
  obtain ⟨h', tk', rfl, he, hp⟩ := hl
  exact hQ _ _ _ he hp
/- part b_head -/
set_option maxHeartbeats 8000000 in
open_top hd for PySem.Challenge.rw_jy0013_01
/- part c_loops -/
theorem fr_names {h₀ h : Heap} {L : Addr} {m : Str → Option Value} (ps : List (Str × Value)) (F : Fr h₀ L h m) (hp : ∀ p ∈ ps, m p.1 = some p.2) : Fr h₀ L h (kstB m ps) := by
  have e : kstB m ps = m := by
    funext z
    exact kstB_eq hp fun _ => rfl
  rw [e]; exact F

section
variable {prog : Program} {w : World} {A : Around} {E : Value → Shared → Prop} {s : Shared} {env : Env} {h₀ : Heap} {x : Str} {body : List Stmt} {Q : Flow → Shared → Prop}
theorem iter_range {r : Addr} {a b : Int} {t u v : Tok} {n : Nat} {m₀ : Str → Option Value} {news : List (Addr × Obj)} (J : Nat → (Str → Option Value) → Prop)
    (hh : A.handled = none) (hr : IsRange s.heap r a b 1 t u v) (hsmall : Builtin.Range.small a b 1 = true) (hn : Builtin.Range.rangeSize a b 1 = (n : Int)) (F : Fr h₀ env.locals s.heap m₀) (N : News h₀ env.locals s.heap news) (hj : J 0 m₀)
    (turn : ∀ i tt m₁ h tk own, i < n → J i m₁ → Fr h₀ env.locals h (fun y => if y = x then some (.int (a + (i : Int)) tt) else m₁ y) → News h₀ env.locals h (own ++ news) →
      wpAny (model prog w) A (execs body env) (InvPost h₀ env.locals (J (i + 1)) (own ++ news) { s with heap := h, toks := tk } Q) E { s with heap := h, toks := tk })
    (done : ∀ m₁ h tk, J n m₁ → Fr h₀ env.locals h m₁ → News h₀ env.locals h news → Q .next { s with heap := h, toks := tk }) :
    wpAny (model prog w) A (pyIter (.ref r)) (fun it s₂ => LoopAtV prog w A h₀ env x body Q E it s₂) E s := by
  refine wpAny_pyIter_range hr hsmall ?_
  have W : Walks prog w A s.heap.objs.size [s.heap.objs.size] [s.heap.objs.size] n (fun i v => i < n ∧ ∃ t, v = .int (a + i * 1) t)
      (fun i h => IsRangeIter h s.heap.objs.size (a + (i : Nat) * 1) ((n : Int) - (i : Nat)) 1) := (Walks.range hh _ a 1 n).bound
  let J' : Nat → (Str → Option Value) → List (Addr × Obj) → Prop := fun i m₁ news₁ => news₁ = news ∧ J i m₁
  refine ⟨_, _, _, n, _, _, m₀, news, J', rfl, W, ?_, ?_, ?_, by show IsRangeIter _ _ _ _ _; rw [hn]; simpa using Heap.get?_push_size _ rfl, F.push _, (fun p hp => ⟨Heap.get?_push_of_some _ (N p hp).1, (N p hp).2⟩), ⟨rfl, hj⟩, ?_, ?_⟩
  · intro hm
    exact absurd F.ns.lt ((List.mem_singleton.mp hm) ▸ Nat.lt_irrefl _)
  · intro b hb
    rw [List.mem_singleton.mp hb]
    exact next_is_new F
  · intro p hp hI
    exact absurd (Heap.lt_size (N p hp).1) ((List.mem_singleton.mp hI) ▸ Nat.lt_irrefl _)
  · rintro i v m₁ news₁ s₁ own ⟨hh', tk', rfl⟩ hin ⟨_, tt, rfl⟩ ⟨rfl, hJ⟩ hoff _ _ _ _ F₁ N₁
    have e1 : a + (i : Int) * 1 = a + (i : Int) := by omega
    rw [e1] at F₁
    refine wpAny_mono (turn i tt m₁ hh' tk' own hin hJ F₁ N₁) (fun f s₂ p => ?_) fun _ _ e => e
    have fin : InvEnd h₀ env.locals (J (i + 1)) (own ++ news₁) { s with heap := hh', toks := tk' } s₂ → LoopStepU h₀ env.locals [s.heap.objs.size] own (J' (i + 1)) { s with heap := hh', toks := tk' } .next s₂ := by
      rintro ⟨h', tk, m', news', e, F', N', hn, hm⟩
      exact ⟨rfl, h', tk, m', news₁, e, F', fun p hp => N' p (hn p hp), hoff, rfl, hm⟩
    cases f with
    | ret v => exact .ret p
    | brk => exact .brk p
    | next => exact .next (fin p)
    | cont => exact .cont (fin p)
  · rintro h' tk m' news' F' N' _ ⟨rfl, hJ⟩
    exact done m' h' tk hJ F' N'
end
/- part d_bits -/
theorem xor_add (a b : Nat) : (a ^^^ b) + 2 * (a &&& b) = a + b := by
  have key : ∀ n a b : Nat, a < 2 ^ n → b < 2 ^ n → (a ^^^ b) + 2 * (a &&& b) = a + b := by
    intro n
    induction n with
    | zero => intro a b ha hb; have : a = 0 := by omega
              have : b = 0 := by omega
              subst_vars; rfl
    | succ n ih =>
      intro a b ha hb
      have h := ih (a / 2) (b / 2) (by omega) (by omega)
      have e1 : (a ^^^ b) / 2 = a / 2 ^^^ b / 2 := Nat.xor_div_two
      have e2 : (a &&& b) / 2 = (a / 2) &&& (b / 2) := Nat.and_div_two
      have e3 := @Nat.xor_mod_two_eq_one a b
      have e4 := @Nat.and_mod_two_eq_one a b
      rw [← e1, ← e2] at h
      generalize a ^^^ b = x at *
      generalize a &&& b = y at *
      omega
  have h1 : a < 2 ^ (a + b) := Nat.lt_of_lt_of_le Nat.lt_two_pow_self (Nat.pow_le_pow_right (by omega) (by omega))
  have h2 : b < 2 ^ (a + b) := Nat.lt_of_lt_of_le Nat.lt_two_pow_self (Nat.pow_le_pow_right (by omega) (by omega))
  exact key _ a b h1 h2
theorem bitAnd_nat (a b : Nat) : Builtin.bitAnd (a : Int) (b : Int) = ((a &&& b : Nat) : Int) := by
  unfold Builtin.bitAnd
  simp
theorem bitXor_nat (a b : Nat) : Builtin.bitXor (a : Int) (b : Int) = ((a ^^^ b : Nat) : Int) := by
  rw [PyProof.Rows.bitXor_and, bitAnd_nat]
  have := xor_add a b
  omega
theorem fdiv_pow_nat (a k : Nat) : (a : Int).fdiv (2 ^ k) = ((a >>> k : Nat) : Int) := by
  rw [Int.fdiv_eq_ediv_of_nonneg _ (Int.pow_nonneg (by decide)), Nat.shiftRight_eq_div_pow]
  push_cast; rfl
theorem mul_pow_nat (a k : Nat) : (a : Int) * 2 ^ k = ((a <<< k : Nat) : Int) := by
  rw [Nat.shiftLeft_eq]; push_cast; rfl
theorem fdiv_nat (a b : Nat) : (a : Int).fdiv (b : Int) = ((a / b : Nat) : Int) := by
  rw [Int.fdiv_eq_ediv_of_nonneg _ (by omega)]; rfl
theorem fmod_nat (a b : Nat) : (a : Int).fmod (b : Int) = ((a % b : Nat) : Int) := by
  rw [Int.fmod_eq_emod_of_nonneg _ (by omega)]; rfl
/- part e_comp -/
/-- what a comprehension may run over: a fresh iterator, n items, the i-th as P says -/
structure Src (prog : Program) (w : World) (s₁ : Shared) (xv : Value) (n : Nat) (P : Nat → Value → Prop) : Prop where
  iter : ∀ (A : Around), A.handled = none → ∀ (Q : Value → Shared → Prop) (E : Value → Shared → Prop),
    (∀ (o : Obj) (fp : List Addr) (St : Nat → Heap → Prop), Walks prog w A s₁.heap.objs.size fp [s₁.heap.objs.size] n P St → St 0 (s₁.heap.push o) → (∀ b ∈ fp, b < s₁.heap.objs.size + 1) →
      Q (.ref s₁.heap.objs.size) { s₁ with heap := s₁.heap.push o }) →
    wpAny (model prog w) A (pyIter xv) Q E s₁

section
variable {prog : Program} {w : World} {s₁ : Shared}
theorem Src.list {ax : Addr} {items : Array Value} (hl : s₁.heap.IsList ax items) : Src prog w s₁ (.ref ax) items.size (fun i v => items[i]? = some v) := by
  refine ⟨fun A hh Q E h => wpAny_pyIter_list hl ?_⟩
  have hlt : ax < s₁.heap.objs.size := by obtain ⟨_, e, _⟩ := hl; exact Heap.lt_size e
  refine h _ _ _ (Walks.list hh s₁.heap.objs.size ax (Nat.ne_of_lt hlt) items) ⟨⟨_, Heap.get?_push_size _ rfl, rfl, rfl⟩, hl.push _⟩ fun b hb => ?_
  rcases List.mem_cons.mp hb with rfl | hb
  · exact Nat.lt_succ_self _
  · rw [List.mem_singleton.mp hb]; exact Nat.lt_succ_of_lt hlt
theorem Src.range {r : Addr} {a b : Int} {t u v : Tok} {n : Nat} (hr : IsRange s₁.heap r a b 1 t u v) (hsm : Builtin.Range.small a b 1 = true) (hn : Builtin.Range.rangeSize a b 1 = ((n : Nat) : Int)) :
    Src prog w s₁ (.ref r) n (fun i v => i < n ∧ ∃ t, v = .int (a + (i : Int)) t) := by
  refine ⟨fun A hh Q E h => wpAny_pyIter_range hr hsm ?_⟩
  refine h _ _ _ (LCg.range_walks hh a n).bound (by show IsRangeIter _ _ _ _ _; rw [hn]; simpa using Heap.get?_push_size _ rfl) fun b hb => ?_
  rw [List.mem_singleton.mp hb]; exact Nat.lt_succ_self _
theorem Src.str {y : Str} {t : Tok} : Src prog w s₁ (.str y t) y.cps.size (SignAt y) := by
  refine ⟨fun A hh Q E h => wpAny_pyIter_str fun o St W hst => ?_⟩
  refine h _ _ _ (W A hh) hst fun b hb => ?_
  rw [List.mem_singleton.mp hb]; exact Nat.lt_succ_self _
end

section
variable {prog : Program} {w : World} {A : Around} {E : Value → Shared → Prop} {s : Shared} {env : Env}

theorem fr_in {s₁ s₃ : Shared} {o : Obj} {C : Addr} {m₃ : Str → Option Value} (hC : (s₁.heap.push o).objs.size ≤ C) (hn : s₃.heap.Ns C m₃)
    (hold : ∀ b o', b ∉ [s₁.heap.objs.size] → (s₁.heap.push o).get? b = some o' → s₃.heap.get? b = some o') : Fr s₁.heap C s₃.heap m₃ := by
  refine ⟨hn, fun b o' e => hold b o' (fun hb => ?_) (Heap.get?_push_of_some _ e), ?_⟩
  · rw [List.mem_singleton.mp hb] at e; exact absurd (Heap.lt_size e) (Nat.lt_irrefl _)
  · rw [Heap.size_push] at hC; omega

theorem comp_eval {elt iter : PySem.Expr} {x : Str} {px : Pos} {ifs : List PySem.Expr} {scope : Scope} {cl : List (Str × Addr)} {pos : Pos} {Q : Value → Shared → Prop} (p : Value → Bool) (F : Value → Value → Prop)
    (hh : A.handled = none) (hclos : closureFor scope env = pure cl) (hcell : ∀ y ∈ scope.names, y.2 ≠ .cell) (hkind : scope.kind = .function)
    (hnames : ∀ y ∈ scope.names, y.2 = .local → scope.names.lookup y.1 = some .local) (hx : scope.names.lookup x = some .local)
    (h : wpAny (model prog w) A (eval iter env) (fun xv s₁ => ∃ n P, Src prog w s₁ xv n P ∧ n ≤ sizeLine ∧
      (∀ C i v s₃ m₃ E', P i v → Fr s₁.heap C s₃.heap m₃ → m₃ x = some v →
        wpAny (model prog w) A (forIn ifs true fun c r => if r = true then do let ok ← isTrue c (compEnvC scope cl C env) (eval c (compEnvC scope cl C env)); pure (ForInStep.yield ok) else pure (ForInStep.yield r))
          (fun ok s₄ => ok = p v ∧ Keeps s₃ s₄) E' s₃) ∧
      (∀ C i v s₃ m₃ E', P i v → p v = true → Fr s₁.heap C s₃.heap m₃ → m₃ x = some v →
        wpAny (model prog w) A (eval elt (compEnvC scope cl C env)) (fun y s₄ => F v y ∧ Keeps s₃ s₄) E' s₃) ∧
      (∀ D h' tk ys (vs : List Value), Ext s₁.heap h' → s₁.heap.get? D = none → h'.PlainList D ys → vs.length = n → (∀ j v, vs[j]? = some v → P j v) → Paired F (vs.filter p) ys.toList →
        Q (.ref D) { s₁ with heap := h', toks := tk })) E s)
    (hs : ∀ x, foldedSetIterable iter env x = pure x := by intro _; rfl) :
    wpAny (model prog w) A (eval (.ListComp elt [⟨.Name x px, iter, ifs, 0⟩] scope pos) env) Q E s := by
  refine wpAny_ListComp_free p F hclos hcell hkind hnames hx (wpAny_mono h (fun xv s₁ h₁ => ?_) fun _ _ e => e) hs
  obtain ⟨n, P, src, hsz, ht, he, hq⟩ := h₁
  refine src.iter A hh _ _ fun o fp St W hst hfp => ?_
  refine ⟨_, fp, _, n, P, St, rfl, W, hsz, hst, fun b hb => by show b < (s₁.heap.push o).objs.size; rw [Heap.size_push]; exact hfp b hb, ⟨?_, ?_⟩, ?_⟩
  · intro C i v s₃ m₃ E' hC hP hn hm hold _
    exact ht C i v s₃ m₃ E' hP (fr_in hC hn hold) hm
  · intro C i v s₃ m₃ E' hC hP hp hn hm hold _
    exact he C i v s₃ m₃ E' hP hp (fr_in hC hn hold) hm
  · intro D h' tk ys vs hD hl hpl hlen hP hF hk
    refine hq D h' tk ys vs (fun b o' e => hk b o' (fun hb => ?_) (Heap.get?_push_of_some _ e)) ?_ hpl hlen hP hF
    · rw [List.mem_singleton.mp hb] at e; exact absurd (Heap.lt_size e) (Nat.lt_irrefl _)
    · cases e : s₁.heap.get? D with
      | none => rfl
      | some o' => have := Heap.get?_push_of_some o e; rw [this] at hD; cases hD

theorem comp_assign {elt iter : PySem.Expr} {x y : Str} {px py : Pos} {ifs : List PySem.Expr} {scope : Scope} {cl : List (Str × Addr)} {pos spos : Pos} {Q : Flow → Shared → Prop} (h₀ : Heap) (p : Value → Bool) (F : Value → Value → Prop)
    (hh : A.handled = none) (hsw : swapsWith (.ListComp elt [⟨.Name x px, iter, ifs, 0⟩] scope pos) (some (.Name y py)) spos.line env = pure true)
    (hclos : closureFor scope env = pure cl) (hcell : ∀ z ∈ scope.names, z.2 ≠ .cell) (hkind : scope.kind = .function)
    (hnames : ∀ z ∈ scope.names, z.2 = .local → scope.names.lookup z.1 = some .local) (hx : scope.names.lookup x = some .local)
    (hy : env.kindOf y = some .local) (hp : (env.scope.kind == .class || (env.scope.kind == .module && env.locals != env.globals)) = false)
    (h : wpAny (model prog w) A (eval iter env) (fun xv s₁ => ∃ n P m news, Src prog w s₁ xv n P ∧ n ≤ sizeLine ∧ Fr h₀ env.locals s₁.heap m ∧ News h₀ env.locals s₁.heap news ∧
      (∀ C i v s₃ m₃ E', P i v → Fr s₁.heap C s₃.heap m₃ → m₃ x = some v →
        wpAny (model prog w) A (forIn ifs true fun c r => if r = true then do let ok ← isTrue c (compEnvC scope cl C env) (eval c (compEnvC scope cl C env)); pure (ForInStep.yield ok) else pure (ForInStep.yield r))
          (fun ok s₄ => ok = p v ∧ Keeps s₃ s₄) E' s₃) ∧
      (∀ C i v s₃ m₃ E', P i v → p v = true → Fr s₁.heap C s₃.heap m₃ → m₃ x = some v →
        wpAny (model prog w) A (eval elt (compEnvC scope cl C env)) (fun y s₄ => F v y ∧ Keeps s₃ s₄) E' s₃) ∧
      (∀ D h' tk ys k (vs : List Value), Fr h₀ env.locals h' (fun z => if z = y then some (.ref D) else m z) → News h₀ env.locals h' ((D, { cls := .type "list", data := .seq ys k }) :: news) → (∀ b o, s₁.heap.get? b = some o → b ≠ D) →
        vs.length = n → (∀ j v, vs[j]? = some v → P j v) → Paired F (vs.filter p) ys.toList → Q .next { s₁ with heap := h', toks := tk })) E s)
    (hs : ∀ x, foldedSetIterable iter env x = pure x := by intro _; rfl) :
    wpAny (model prog w) A (exec (.Assign [.Name y py] (.ListComp elt [⟨.Name x px, iter, ifs, 0⟩] scope pos) spos) env) Q E s := by
  refine wpAny_Assign_ListComp_free p F hsw hclos hcell hkind hnames hx hy hp (wpAny_mono h (fun xv s₁ h₁ => ?_) fun _ _ e => e) hs
  obtain ⟨n, P, m, news, src, hsz, F₁, N₁, ht, he, hq⟩ := h₁
  refine src.iter A hh _ _ fun o fp St W hst hfp => ?_
  have hLI : env.locals ∉ [s₁.heap.objs.size] := fun hb => by
    have := F₁.ns.lt; rw [List.mem_singleton.mp hb] at this; exact Nat.lt_irrefl _ this
  refine ⟨_, fp, _, n, P, St, m, rfl, W, hsz, hst, fun b hb => by show b < (s₁.heap.push o).objs.size; rw [Heap.size_push]; exact hfp b hb, hLI, F₁.ns.at' fun o' e => Heap.get?_push_of_some _ e, ⟨?_, ?_⟩, ?_⟩
  · intro C i v s₃ m₃ E' hC hP hn hm hold _
    exact ht C i v s₃ m₃ E' hP (fr_in hC hn hold) hm
  · intro C i v s₃ m₃ E' hC hP hp hn hm hold _
    exact he C i v s₃ m₃ E' hP hp (fr_in hC hn hold) hm
  · intro D h' tk ys vs hD hl ⟨k, hpl⟩ hlen hP hF hn hk
    have old : ∀ b o', b ≠ env.locals → s₁.heap.get? b = some o' → h'.get? b = some o' := fun b o' hb e => hk b o' hb (fun hb => by
      rw [List.mem_singleton.mp hb] at e; exact absurd (Heap.lt_size e) (Nat.lt_irrefl _)) (Heap.get?_push_of_some _ e)
    have hD₁ : ∀ b o', s₁.heap.get? b = some o' → b ≠ D := fun b o' e q => by
      have := Heap.get?_push_of_some o e; rw [q] at this; rw [this] at hD; cases hD
    have hL₀ : h₀.get? env.locals = none := Heap.get?_none_of_le F₁.above
    have hDL : D ≠ env.locals := fun q => by
      obtain ⟨oL, _, _, e, _⟩ := F₁.ns
      exact hD₁ _ _ e q.symm
    refine hq D h' tk ys k vs ⟨hn, fun b o' e => old b o' (fun q => by rw [q, hL₀] at e; cases e) (F₁.keep b o' e), F₁.above⟩ (fun q hq' => ?_) hD₁ hlen hP hF
    rcases List.mem_cons.mp hq' with rfl | hq'
    · refine ⟨hpl, hDL, ?_⟩
      cases e : h₀.get? D with
      | none => rfl
      | some o' => exact absurd rfl (hD₁ _ _ (F₁.keep _ _ e))
    · exact ⟨old _ _ (N₁ q hq').2.1 (N₁ q hq').1, (N₁ q hq').2⟩

theorem paired_map {α β : Type} {is : α → Value → Prop} {out : β → Value → Prop} {g : α → β} (hfun : ∀ a a' v, is a v → is a' v → a = a') (q : α → Bool) (p : Value → Bool) (hp : ∀ a v, is a v → p v = q a) :
    ∀ {us : List Value} {ys : List Value}, Paired (fun v y => ∀ a, is a v → out (g a) y) us ys → ∀ {vs : List Value} {as : List α}, us = vs.filter p → vs.length = as.length → (∀ (j : Nat) v, vs[j]? = some v → ∃ a, as[j]? = some a ∧ is a v) →
      Paired out ((as.filter q).map g) ys := by
  intro us ys h vs
  induction vs generalizing us ys with
  | nil =>
    intro as e hl _
    obtain rfl : as = [] := List.length_eq_zero_iff.mp hl.symm
    subst e; cases h; exact .nil
  | cons v vs ih =>
    intro as e hl hP
    cases as with
    | nil => cases hl
    | cons a as =>
      obtain ⟨a', ha, hv⟩ := hP 0 v rfl
      cases ha
      have hP' : ∀ (j : Nat) u, vs[j]? = some u → ∃ a, as[j]? = some a ∧ is a u := fun j u hu => hP (j + 1) u hu
      have hl' : vs.length = as.length := by simpa using hl
      have hq := hp a v hv
      cases hpv : p v with
      | false =>
        rw [List.filter_cons_of_neg (by simp [hpv])] at e
        rw [List.filter_cons_of_neg (by simp [← hq, hpv])]
        exact ih h e hl' hP'
      | true =>
        rw [List.filter_cons_of_pos hpv] at e
        rw [List.filter_cons_of_pos (by rw [← hq, hpv]), List.map_cons]
        subst e
        cases h with
        | cons h1 h2 => exact .cons (h1 a hv) (ih h2 rfl hl' hP')

theorem comp_map {α β : Type} {elt iter : PySem.Expr} {x : Str} {px : Pos} {scope : Scope} {cl : List (Str × Addr)} {pos : Pos} {Q : Value → Shared → Prop} (is : α → Value → Prop) (out : β → Value → Prop) (g : α → β)
    (hfun : ∀ a a' v, is a v → is a' v → a = a')
    (hh : A.handled = none) (hclos : closureFor scope env = pure cl) (hcell : ∀ y ∈ scope.names, y.2 ≠ .cell) (hkind : scope.kind = .function)
    (hnames : ∀ y ∈ scope.names, y.2 = .local → scope.names.lookup y.1 = some .local) (hx : scope.names.lookup x = some .local)
    (h : wpAny (model prog w) A (eval iter env) (fun xv s₁ => ∃ (as : List α) (P : Nat → Value → Prop), Src prog w s₁ xv as.length P ∧ as.length ≤ sizeLine ∧ (∀ i v, P i v → ∃ a, as[i]? = some a ∧ is a v) ∧
      (∀ C a v s₃ m₃ E', a ∈ as → is a v → Fr s₁.heap C s₃.heap m₃ → m₃ x = some v →
        wpAny (model prog w) A (eval elt (compEnvC scope cl C env)) (fun y s₄ => out (g a) y ∧ Keeps s₃ s₄) E' s₃) ∧
      (∀ D h' tk ys, Ext s₁.heap h' → s₁.heap.get? D = none → h'.PlainList D (List.toArray ys) → Paired out (as.map g) ys → Q (.ref D) { s₁ with heap := h', toks := tk })) E s)
    (hs : ∀ x, foldedSetIterable iter env x = pure x := by intro _; rfl) :
    wpAny (model prog w) A (eval (.ListComp elt [⟨.Name x px, iter, [], 0⟩] scope pos) env) Q E s := by
  refine comp_eval (fun _ => true) (fun v y => ∀ a, is a v → out (g a) y) hh hclos hcell hkind hnames hx (wpAny_mono h (fun xv s₁ h₁ => ?_) fun _ _ e => e) hs
  obtain ⟨as, P, src, hsz, hP, he, hq⟩ := h₁
  refine ⟨as.length, P, src, hsz, fun C i v s₃ m₃ E' _ _ _ => wpAny_tests_nil ⟨rfl, _, _, rfl, fun _ _ e => e⟩, fun C i v s₃ m₃ E' hv _ hF hm => ?_, fun D h' tk ys vs hE hD hpl hlen hPv hpa => ?_⟩
  · obtain ⟨a, ha, hva⟩ := hP i v hv
    exact wpAny_mono (he C a v s₃ m₃ E' (List.mem_of_getElem? ha) hva hF hm) (fun y s₄ r => ⟨fun a' ha' => hfun a a' v hva ha' ▸ r.1, r.2⟩) fun _ _ e => e
  · refine hq D h' tk ys.toList hE hD hpl ?_
    have := paired_map hfun (fun _ => true) (fun _ => true) (fun _ _ _ => rfl) hpa rfl hlen (fun j v hj => hP j v (hPv j v hj))
    rwa [List.filter_eq_self.mpr (fun _ _ => rfl)] at this

noncomputable def passes {α : Type} (is : α → Value → Prop) (q : α → Bool) (v : Value) : Bool := @decide (∃ a, is a v ∧ q a = true) (Classical.propDecidable _)
theorem passes_is {α : Type} {is : α → Value → Prop} (hfun : ∀ a a' v, is a v → is a' v → a = a') (q : α → Bool) (a : α) (v : Value) (h : is a v) : passes is q v = q a := by
  unfold passes
  cases e : q a with
  | true => exact @decide_eq_true _ (Classical.propDecidable _) ⟨a, h, e⟩
  | false => exact @decide_eq_false _ (Classical.propDecidable _) fun ⟨a', h', e'⟩ => by rw [hfun a a' v h h', e'] at e; cases e

theorem comp_filter {α β : Type} {elt iter tst : PySem.Expr} {x : Str} {px : Pos} {scope : Scope} {cl : List (Str × Addr)} {pos : Pos} {Q : Value → Shared → Prop} (is : α → Value → Prop) (out : β → Value → Prop) (q : α → Bool) (g : α → β)
    (hfun : ∀ a a' v, is a v → is a' v → a = a')
    (hh : A.handled = none) (hclos : closureFor scope env = pure cl) (hcell : ∀ y ∈ scope.names, y.2 ≠ .cell) (hkind : scope.kind = .function)
    (hnames : ∀ y ∈ scope.names, y.2 = .local → scope.names.lookup y.1 = some .local) (hx : scope.names.lookup x = some .local)
    (h : wpAny (model prog w) A (eval iter env) (fun xv s₁ => ∃ (as : List α) (P : Nat → Value → Prop), Src prog w s₁ xv as.length P ∧ as.length ≤ sizeLine ∧ (∀ i v, P i v → ∃ a, as[i]? = some a ∧ is a v) ∧
      (∀ C a v s₃ m₃ E', a ∈ as → is a v → Fr s₁.heap C s₃.heap m₃ → m₃ x = some v →
        wpAny (model prog w) A (isTrue tst (compEnvC scope cl C env) (eval tst (compEnvC scope cl C env))) (fun ok s₄ => ok = q a ∧ Keeps s₃ s₄) E' s₃) ∧
      (∀ C a v s₃ m₃ E', a ∈ as → is a v → q a = true → Fr s₁.heap C s₃.heap m₃ → m₃ x = some v →
        wpAny (model prog w) A (eval elt (compEnvC scope cl C env)) (fun y s₄ => out (g a) y ∧ Keeps s₃ s₄) E' s₃) ∧
      (∀ D h' tk ys, Ext s₁.heap h' → s₁.heap.get? D = none → h'.PlainList D (List.toArray ys) → Paired out ((as.filter q).map g) ys → Q (.ref D) { s₁ with heap := h', toks := tk })) E s)
    (hs : ∀ x, foldedSetIterable iter env x = pure x := by intro _; rfl) :
    wpAny (model prog w) A (eval (.ListComp elt [⟨.Name x px, iter, [tst], 0⟩] scope pos) env) Q E s := by
  refine comp_eval (passes is q) (fun v y => ∀ a, is a v → out (g a) y) hh hclos hcell hkind hnames hx (wpAny_mono h (fun xv s₁ h₁ => ?_) fun _ _ e => e) hs
  obtain ⟨as, P, src, hsz, hP, ht, he, hq⟩ := h₁
  refine ⟨as.length, P, src, hsz, fun C i v s₃ m₃ E' hv hF hm => ?_, fun C i v s₃ m₃ E' hv hp hF hm => ?_, fun D h' tk ys vs hE hD hpl hlen hPv hpa => ?_⟩
  · obtain ⟨a, ha, hva⟩ := hP i v hv
    refine wpAny_tests_one (wpAny_mono (ht C a v s₃ m₃ E' (List.mem_of_getElem? ha) hva hF hm) (fun ok s₄ r => ⟨?_, r.2⟩) fun _ _ e => e)
    rw [r.1, passes_is hfun q a v hva]
  · obtain ⟨a, ha, hva⟩ := hP i v hv
    rw [passes_is hfun q a v hva] at hp
    exact wpAny_mono (he C a v s₃ m₃ E' (List.mem_of_getElem? ha) hva hp hF hm) (fun y s₄ r => ⟨fun a' ha' => hfun a a' v hva ha' ▸ r.1, r.2⟩) fun _ _ e => e
  · exact hq D h' tk ys.toList hE hD hpl (paired_map hfun q (passes is q) (fun a v h => passes_is hfun q a v h) hpa rfl hlen (fun j v hj => hP j v (hPv j v hj)))

theorem asg_map {α β : Type} {elt iter : PySem.Expr} {x y : Str} {px py : Pos} {scope : Scope} {cl : List (Str × Addr)} {pos spos : Pos} {Q : Flow → Shared → Prop} (h₀ : Heap) (is : α → Value → Prop) (out : β → Value → Prop) (g : α → β)
    (hfun : ∀ a a' v, is a v → is a' v → a = a')
    (hh : A.handled = none) (hsw : swapsWith (.ListComp elt [⟨.Name x px, iter, [], 0⟩] scope pos) (some (.Name y py)) spos.line env = pure true)
    (hclos : closureFor scope env = pure cl) (hcell : ∀ z ∈ scope.names, z.2 ≠ .cell) (hkind : scope.kind = .function)
    (hnames : ∀ z ∈ scope.names, z.2 = .local → scope.names.lookup z.1 = some .local) (hx : scope.names.lookup x = some .local)
    (hy : env.kindOf y = some .local) (hp : (env.scope.kind == .class || (env.scope.kind == .module && env.locals != env.globals)) = false)
    (h : wpAny (model prog w) A (eval iter env) (fun xv s₁ => ∃ (as : List α) (P : Nat → Value → Prop) (m : Str → Option Value) (news : List (Addr × Obj)), Src prog w s₁ xv as.length P ∧ as.length ≤ sizeLine ∧ (∀ i v, P i v → ∃ a, as[i]? = some a ∧ is a v) ∧
      Fr h₀ env.locals s₁.heap m ∧ News h₀ env.locals s₁.heap news ∧
      (∀ C a v s₃ m₃ E', a ∈ as → is a v → Fr s₁.heap C s₃.heap m₃ → m₃ x = some v →
        wpAny (model prog w) A (eval elt (compEnvC scope cl C env)) (fun y s₄ => out (g a) y ∧ Keeps s₃ s₄) E' s₃) ∧
      (∀ D h' tk ys k, Fr h₀ env.locals h' (fun z => if z = y then some (.ref D) else m z) → News h₀ env.locals h' ((D, { cls := .type "list", data := .seq (List.toArray ys) k }) :: news) → (∀ b o, s₁.heap.get? b = some o → b ≠ D) →
        Paired out (as.map g) ys → Q .next { s₁ with heap := h', toks := tk })) E s)
    (hs : ∀ x, foldedSetIterable iter env x = pure x := by intro _; rfl) :
    wpAny (model prog w) A (exec (.Assign [.Name y py] (.ListComp elt [⟨.Name x px, iter, [], 0⟩] scope pos) spos) env) Q E s := by
  refine comp_assign h₀ (fun _ => true) (fun v y => ∀ a, is a v → out (g a) y) hh hsw hclos hcell hkind hnames hx hy hp (wpAny_mono h (fun xv s₁ h₁ => ?_) fun _ _ e => e) hs
  obtain ⟨as, P, m, news, src, hsz, hP, hF₁, hN₁, he, hq⟩ := h₁
  refine ⟨as.length, P, m, news, src, hsz, hF₁, hN₁, fun C i v s₃ m₃ E' _ _ _ => wpAny_tests_nil ⟨rfl, _, _, rfl, fun _ _ e => e⟩, fun C i v s₃ m₃ E' hv _ hF hm => ?_, fun D h' tk ys k vs hF' hN' hb hlen hPv hpa => ?_⟩
  · obtain ⟨a, ha, hva⟩ := hP i v hv
    exact wpAny_mono (he C a v s₃ m₃ E' (List.mem_of_getElem? ha) hva hF hm) (fun y s₄ r => ⟨fun a' ha' => hfun a a' v hva ha' ▸ r.1, r.2⟩) fun _ _ e => e
  · refine hq D h' tk ys.toList k hF' hN' hb ?_
    have := paired_map hfun (fun _ => true) (fun _ => true) (fun _ _ _ => rfl) hpa rfl hlen (fun j v hj => hP j v (hPv j v hj))
    rwa [List.filter_eq_self.mpr (fun _ _ => rfl)] at this

theorem asg_filter {α β : Type} {elt iter tst : PySem.Expr} {x y : Str} {px py : Pos} {scope : Scope} {cl : List (Str × Addr)} {pos spos : Pos} {Q : Flow → Shared → Prop} (h₀ : Heap) (is : α → Value → Prop) (out : β → Value → Prop) (q : α → Bool) (g : α → β)
    (hfun : ∀ a a' v, is a v → is a' v → a = a')
    (hh : A.handled = none) (hsw : swapsWith (.ListComp elt [⟨.Name x px, iter, [tst], 0⟩] scope pos) (some (.Name y py)) spos.line env = pure true)
    (hclos : closureFor scope env = pure cl) (hcell : ∀ z ∈ scope.names, z.2 ≠ .cell) (hkind : scope.kind = .function)
    (hnames : ∀ z ∈ scope.names, z.2 = .local → scope.names.lookup z.1 = some .local) (hx : scope.names.lookup x = some .local)
    (hy : env.kindOf y = some .local) (hp : (env.scope.kind == .class || (env.scope.kind == .module && env.locals != env.globals)) = false)
    (h : wpAny (model prog w) A (eval iter env) (fun xv s₁ => ∃ (as : List α) (P : Nat → Value → Prop) (m : Str → Option Value) (news : List (Addr × Obj)), Src prog w s₁ xv as.length P ∧ as.length ≤ sizeLine ∧ (∀ i v, P i v → ∃ a, as[i]? = some a ∧ is a v) ∧
      Fr h₀ env.locals s₁.heap m ∧ News h₀ env.locals s₁.heap news ∧
      (∀ C a v s₃ m₃ E', a ∈ as → is a v → Fr s₁.heap C s₃.heap m₃ → m₃ x = some v →
        wpAny (model prog w) A (isTrue tst (compEnvC scope cl C env) (eval tst (compEnvC scope cl C env))) (fun ok s₄ => ok = q a ∧ Keeps s₃ s₄) E' s₃) ∧
      (∀ C a v s₃ m₃ E', a ∈ as → is a v → q a = true → Fr s₁.heap C s₃.heap m₃ → m₃ x = some v →
        wpAny (model prog w) A (eval elt (compEnvC scope cl C env)) (fun y s₄ => out (g a) y ∧ Keeps s₃ s₄) E' s₃) ∧
      (∀ D h' tk ys k, Fr h₀ env.locals h' (fun z => if z = y then some (.ref D) else m z) → News h₀ env.locals h' ((D, { cls := .type "list", data := .seq (List.toArray ys) k }) :: news) → (∀ b o, s₁.heap.get? b = some o → b ≠ D) →
        Paired out ((as.filter q).map g) ys → Q .next { s₁ with heap := h', toks := tk })) E s)
    (hs : ∀ x, foldedSetIterable iter env x = pure x := by intro _; rfl) :
    wpAny (model prog w) A (exec (.Assign [.Name y py] (.ListComp elt [⟨.Name x px, iter, [tst], 0⟩] scope pos) spos) env) Q E s := by
  refine comp_assign h₀ (passes is q) (fun v y => ∀ a, is a v → out (g a) y) hh hsw hclos hcell hkind hnames hx hy hp (wpAny_mono h (fun xv s₁ h₁ => ?_) fun _ _ e => e) hs
  obtain ⟨as, P, m, news, src, hsz, hP, hF₁, hN₁, ht, he, hq⟩ := h₁
  refine ⟨as.length, P, m, news, src, hsz, hF₁, hN₁, fun C i v s₃ m₃ E' hv hF hm => ?_, fun C i v s₃ m₃ E' hv hp hF hm => ?_, fun D h' tk ys k vs hF' hN' hb hlen hPv hpa => ?_⟩
  · obtain ⟨a, ha, hva⟩ := hP i v hv
    refine wpAny_tests_one (wpAny_mono (ht C a v s₃ m₃ E' (List.mem_of_getElem? ha) hva hF hm) (fun ok s₄ r => ⟨?_, r.2⟩) fun _ _ e => e)
    rw [r.1, passes_is hfun q a v hva]
  · obtain ⟨a, ha, hva⟩ := hP i v hv
    rw [passes_is hfun q a v hva] at hp
    exact wpAny_mono (he C a v s₃ m₃ E' (List.mem_of_getElem? ha) hva hp hF hm) (fun y s₄ r => ⟨fun a' ha' => hfun a a' v hva ha' ▸ r.1, r.2⟩) fun _ _ e => e
  · exact hq D h' tk ys.toList k hF' hN' hb (paired_map hfun q (passes is q) (fun a v h => passes_is hfun q a v h) hpa rfl hlen (fun j v hj => hP j v (hPv j v hj)))

def isI (n : Int) (v : Value) : Prop := ∃ t, v = .int n t
def isN (n : Nat) (v : Value) : Prop := ∃ t, v = .int (n : Int) t
def isS (x : Str) (v : Value) : Prop := ∃ t, v = .str x t
/-- one sign, by its code -/
def isC (c : Nat) (v : Value) : Prop := ∃ t, v = .str ⟨#[c]⟩ t
theorem isI_fun (a a' : Int) (v : Value) (h : isI a v) (h' : isI a' v) : a = a' := by obtain ⟨t, rfl⟩ := h; obtain ⟨t', e⟩ := h'; cases e; rfl
theorem isN_fun (a a' : Nat) (v : Value) (h : isN a v) (h' : isN a' v) : a = a' := by obtain ⟨t, rfl⟩ := h; obtain ⟨t', e⟩ := h'; injection e with e1 e2; exact Int.ofNat.inj e1
theorem isS_fun (a a' : Str) (v : Value) (h : isS a v) (h' : isS a' v) : a = a' := by obtain ⟨t, rfl⟩ := h; obtain ⟨t', e⟩ := h'; cases e; rfl
theorem isC_fun (a a' : Nat) (v : Value) (h : isC a v) (h' : isC a' v) : a = a' := by obtain ⟨t, rfl⟩ := h; obtain ⟨t', e⟩ := h'; cases e; rfl
theorem ints_of_isI : ∀ {ns : List Int} {vs : List Value}, Paired isI ns vs → IntsAre vs ns
  | _, _, .nil => .nil
  | _, _, .cons ⟨t, e⟩ r => e ▸ .cons _ t (ints_of_isI r)
theorem ints_of_isN : ∀ {ns : List Nat} {vs : List Value}, Paired isN ns vs → IntsAre vs (ns.map Int.ofNat)
  | _, _, .nil => .nil
  | _, _, .cons ⟨t, e⟩ r => e ▸ .cons _ t (ints_of_isN r)
theorem strs_of_isS : ∀ {ns : List Str} {vs : List Value}, Paired isS ns vs → StrsAre vs ns
  | _, _, .nil => .nil
  | _, _, .cons ⟨t, e⟩ r => e ▸ .cons _ t (strs_of_isS r)
theorem isN_of_ints : ∀ {ns : List Nat} {vs : List Value}, IntsAre vs (ns.map Int.ofNat) → Paired isN ns vs
  | [], _, h => by cases h; exact .nil
  | n :: ns, _, h => by cases h with | cons _ t r => exact .cons ⟨t, rfl⟩ (isN_of_ints r)
theorem paired_at {α : Type} {R : α → Value → Prop} : ∀ {as : List α} {vs : List Value}, Paired R as vs → ∀ (i : Nat) v, vs[i]? = some v → ∃ a, as[i]? = some a ∧ R a v
  | _, _, .nil, i, v, h => by simp at h
  | _, _, .cons h1 h2, 0, v, h => by simp at h; subst h; exact ⟨_, rfl, h1⟩
  | _, _, .cons h1 h2, i + 1, v, h => by simpa using paired_at h2 i v (by simpa using h)
theorem paired_app {α : Type} {R : α → Value → Prop} : ∀ {as bs : List α} {vs us : List Value}, Paired R as vs → Paired R bs us → Paired R (as ++ bs) (vs ++ us)
  | _, _, _, _, .nil, h => h
  | _, _, _, _, .cons h1 h2, h => .cons h1 (paired_app h2 h)
theorem range_at {n : Nat} (i : Nat) (v : Value) (h : i < n ∧ ∃ t, v = .int (0 + (i : Int)) t) : ∃ c, (List.range n)[i]? = some c ∧ isN c v := by
  obtain ⟨hi, t, e⟩ := h
  exact ⟨i, by simp [hi], t, by rw [e, Int.zero_add]⟩
theorem signs_at {y : Str} (i : Nat) (v : Value) (h : SignAt y i v) : ∃ c, y.cps.toList[i]? = some c ∧ isC c v := by
  obtain ⟨c, u, hc, e⟩ := h
  exact ⟨c, by simpa using hc, u, e⟩
end
/- part f_names -/
section
variable {M : Model} {A : Around} {E : Value → Shared → Prop} {s : Shared} {K : Frag} {h₀ : Heap} {C : Addr} {m mg mb : Str → Option Value} {sc : Scope} {cl : List (Str × Addr)} {env : Env} {p : Program} {loose : List Str}
  {x : Str} {pos : Pos} {v : Value} {Q : Value → Shared → Prop} {c : Addr}
theorem cname_L (F : Fr h₀ C s.heap m) (hv : m x = some v) (h : Q v s)
    (hk : (compEnvC sc cl C env).scope.kind = .function := by rfl) (hx : (compEnvC sc cl C env).kindOf x = some .local := by rfl) (hd : (x == ("__debug__" : Str)) = false := by decide) :
    wpAny M A (eval (.Name x pos) (compEnvC sc cl C env)) Q E s := wpAny_Name (wpAny_loadName_local hk hx F.ns hv h) hd
theorem cname_K (F : Fr h₀ C s.heap m) (X : K.In h₀) (T : TopRead p loose mg mb h₀) (e : nsIn K mainGlobals x = some (some v)) (h : Q v s) (hg : env.globals = mainGlobals := by rfl)
    (hk : (compEnvC sc cl C env).scope.kind = .function := by rfl) (hx : (compEnvC sc cl C env).kindOf x = some .globalImplicit := by rfl) (hd : (x == ("__debug__" : Str)) = false := by decide) :
    wpAny M A (eval (.Name x pos) (compEnvC sc cl C env)) Q E s :=
  Name_function_global hk hx (loadGlobal_global (env := compEnvC sc cl C env) (by rw [show (compEnvC sc cl C env).globals = mainGlobals from hg]; exact T.g.keeps F.keep) (mg_of X T.g e) h) hd
theorem cname_B (F : Fr h₀ C s.heap m) (X : K.In h₀) (T : TopRead p loose mg mb h₀) (e : nsIn K mainGlobals x = some none) (hv : bootBuiltins x = some v) (hn : x ≠ "__name__") (h : Q v s) (hg : env.globals = mainGlobals := by rfl) (hb : env.builtins = builtinsNs := by rfl)
    (hk : (compEnvC sc cl C env).scope.kind = .function := by rfl) (hx : (compEnvC sc cl C env).kindOf x = some .globalImplicit := by rfl) (hd : (x == ("__debug__" : Str)) = false := by decide) :
    wpAny M A (eval (.Name x pos) (compEnvC sc cl C env)) Q E s :=
  Name_function_global hk hx (loadGlobal_builtin (env := compEnvC sc cl C env) (by rw [show (compEnvC sc cl C env).globals = mainGlobals from hg]; exact T.g.keeps F.keep) (mg_none_of X T.g e)
    (by rw [show (compEnvC sc cl C env).builtins = builtinsNs from hb]; exact T.b.keeps F.keep) ((T.builtins x hn).trans hv) h) hd
theorem cname_C (F : Fr h₀ C s.heap m) (hc : cl.lookup x = some c) (hv : h₀.IsCell c (some v)) (h : Q v s)
    (hk : (compEnvC sc cl C env).scope.kind = .function := by rfl) (hx : (compEnvC sc cl C env).kindOf x = some .cell := by rfl) (hd : (x == ("__debug__" : Str)) = false := by decide) :
    wpAny M A (eval (.Name x pos) (compEnvC sc cl C env)) Q E s := wpAny_Name (wpAny_loadName_cell hk hx hc (hv.keeps F.keep) h) hd
end
section
variable {prog : Program} {w : World} {A : Around} {E : Value → Shared → Prop} {s : Shared}
theorem item_listE {value slice : PySem.Expr} {l : Addr} {vs : List Value} {k : Int} {u : Tok} (P : Value → Prop) {Q : Value → Shared → Prop}
    (hl : s.heap.IsList l vs.toArray) (h0 : 0 ≤ k) (hhi : k < 2 ^ 63) (hx : ∃ v, vs[k.toNat]? = some v ∧ P v) (h : ∀ v, P v → Q v s)
    (hs : subscripted slice false (.ref l) (.int k u) = operate [.ref l, .int k u] (getItem (.ref l) (.int k u)) := by with_unfolding_all rfl) :
    wpAny (model prog w) A (subscriptTail value slice (.ref l) (.int k u)) Q E s := by
  obtain ⟨v, hv, hp⟩ := hx
  exact tail_any hl.typeIs slot_list_getitem.lookup (wpAny_getItem_list hl h0 hhi (by simpa using hv) (h v hp)) hs
theorem news_add {h₀ h₁ h' : Heap} {L D : Addr} {m : Str → Option Value} {news : List (Addr × Obj)} {ys : List Value} (F : Fr h₀ L h₁ m) (N : News h₀ L h₁ news) (hE : Ext h₁ h') (hD : h₁.get? D = none) (hpl : h'.PlainList D ys.toArray) :
    ∃ k, Fr h₀ L h' m ∧ News h₀ L h' ((D, { cls := .type "list", data := .seq ys.toArray k }) :: news) ∧ (∀ b o, h₁.get? b = some o → b ≠ D) := by
  obtain ⟨k, e⟩ := hpl
  have hne : ∀ b o, h₁.get? b = some o → b ≠ D := fun b o eb q => by rw [q, hD] at eb; cases eb
  refine ⟨k, F.keeps hE, fun p hp => ?_, hne⟩
  rcases List.mem_cons.mp hp with rfl | hp
  · refine ⟨e, fun q => ?_, ?_⟩
    · obtain ⟨oL, _, _, eL, _⟩ := F.ns
      exact hne _ _ eL q.symm
    · cases e' : h₀.get? D with
      | none => rfl
      | some o' => exact absurd rfl (hne _ _ (F.keep _ _ e'))
  · exact ⟨hE _ _ (N p hp).1, (N p hp).2⟩
theorem Src.of {prog : Program} {w : World} {s₁ : Shared} {α : Type} {R : α → Value → Prop} {as : List α} {ax : Addr} {vs : List Value} (hl : s₁.heap.IsList ax vs.toArray) (hp : Paired R as vs) :
    Src prog w s₁ (.ref ax) as.length (fun i v => vs[i]? = some v) := by
  have h := Src.list (prog := prog) (w := w) hl
  rw [List.size_toArray, ← hp.length] at h
  refine ⟨fun A hh Q E k => h.iter A hh Q E fun o fp St W => k o fp St { sub := W.sub, frame := W.frame, done := W.done, self := W.self, item := fun i s Q E hi st hq => W.item i s Q E hi st fun v h' tk hv => hq v h' tk (by simpa using hv) }⟩
theorem paired_one {α : Type} {R : α → Value → Prop} {a : α} {v : Value} (h : R a v) : Paired R [a] [v] := .cons h .nil
end
/- part f_strs -/
/-- a text by its signs' codes -/
def Tx (l : List Nat) : Str := ⟨l.toArray⟩
theorem Tx_toList (l : List Nat) : (Tx l).cps.toList = l := by simp [Tx]
theorem Tx_size (l : List Nat) : (Tx l).cps.size = l.length := by simp [Tx]
theorem Tx_len (l : List Nat) : (Tx l).length = l.length := Tx_size l
theorem Tx_of (y : Str) : Tx y.cps.toList = y := by cases y; simp [Tx]
theorem Tx_app (a b : List Nat) : Tx a ++ Tx b = Tx (a ++ b) := by
  rw [← Tx_of (Tx a ++ Tx b), Str.cps_append, Array.toList_append, Tx_toList, Tx_toList]
theorem Tx_inj {a b : List Nat} (h : Tx a = Tx b) : a = b := by rw [← Tx_toList a, h, Tx_toList]
theorem join_Tx : ∀ cs : List Nat, Txt.join (Str.ofString "") (cs.map fun c => (⟨#[c]⟩ : Str)) = Tx cs := by
  intro cs
  show Builtin.Str.glued (Str.ofString "") _ = _
  rw [StrLaws.glued_eq_join]
  have e : Str.ofString "" = Tx [] := by decide
  rw [e]
  induction cs with
  | nil => rfl
  | cons c r ih =>
    cases r with
    | nil => rfl
    | cons d r =>
      show (⟨#[c]⟩ : Str) ++ Tx [] ++ Str.join (Tx []) _ = _
      rw [ih, show (⟨#[c]⟩ : Str) = Tx [c] from rfl, Tx_app, Tx_app]; rfl
theorem carried_isC : ∀ {cs : List Nat} {ys : List Value}, Paired isC cs ys → CarriedAll ys (cs.map fun c => PyData.str (⟨#[c]⟩ : Str))
  | _, _, .nil => .nil
  | _, _, .cons ⟨t, e⟩ r => e ▸ .cons (.str _ t) (carried_isC r)
section
variable {prog : Program} {w : World} {A : Around} {E : Value → Shared → Prop} {s : Shared} {t : Tok}
theorem join_codes {D : Addr} {ys : List Value} {cs : List Nat} {Q : Value → Shared → Prop} (hl : s.heap.IsList D ys.toArray) (hp : Paired isC cs ys) (hn : cs.length ≤ 1048576) (h : ∀ t' k, Q (.str (Tx cs) t') { s with toks := k }) :
    wpAny (model prog w) A (call (.builtin "str.join") [.str (Str.ofString "") t, .ref D]) Q E s :=
  KT.join_1 (g := fun c : Nat => (⟨#[c]⟩ : Str)) hl (carried_isC hp) (fun _ _ => rfl) hn fun t' k _ => by rw [join_Tx]; exact h t' k
theorem item_strE {value slice : PySem.Expr} {x : Str} {k : Int} {u : Tok} {c : Nat} {Q : Value → Shared → Prop} (h0 : 0 ≤ k) (hhi : k < 2 ^ 63) (hc : x.cps.toList[k.toNat]? = some c) (h : Q (.str ⟨#[c]⟩ s.toks) { s with toks := s.toks + 1 })
    (hs : subscripted slice false (.str x t) (.int k u) = operate [.str x t, .int k u] (getItem (.str x t) (.int k u)) := by with_unfolding_all rfl) :
    wpAny (model prog w) A (subscriptTail value slice (.str x t) (.int k u)) Q E s := by
  refine PyProof.Rows.tail_any (typeIs_str s x t) slot_str_getitem.lookup (PyProof.Rows.getItem_str (c := c) ?_ ?_ h) hs
  · simp; omega
  · have hlt : k.toNat < x.length := by
      have := (List.getElem?_eq_some_iff.mp hc).1
      simpa [Str.length] using this
    have e : seqIndex? k x.length = some k.toNat := by
      unfold seqIndex?
      have hk : ¬ k < 0 := by omega
      have hk2 : k < (x.length : Int) := by omega
      simp [hk, hk2, h0]
    rw [e, Option.bind_some]
    simpa using hc
end
/- part g_macros -/
local macro_rules | `(tactic| walk_at "eval Name") => `(tactic| ((with_reducible show wpAny _ _ (eval (Expr.Name _ _) (compEnvC _ _ _ _)) _ _ _); k_dflt (first
  | (refine' cname_L ?F ?v ?_ ?e1 ?e2 ?e3; (case F => k_asm); (case v => first | assumption | rfl); (case e1 => rfl); (case e2 => rfl); (case e3 => decide); k_whole)
  | (refine' cname_K ?F ?X ?T ?e ?_ ?e0 ?e1 ?e2 ?e3; (case F => k_asm); (case X => k_asm); (case T => k_asm); (case e => k_is); (case e0 => rfl); (case e1 => rfl); (case e2 => rfl); (case e3 => decide); k_whole)
  | (refine' cname_B ?F ?X ?T ?e ?v ?n ?_ ?e0 ?e4 ?e1 ?e2 ?e3; (case F => k_asm); (case X => k_asm); (case T => k_asm); (case e => k_is); (case v => boot_by_name); (case n => decide); (case e0 => rfl); (case e4 => rfl); (case e1 => rfl); (case e2 => rfl); (case e3 => decide); k_whole)
  | (refine' cname_C ?F ?c ?v ?_ ?e1 ?e2 ?e3; (case F => k_asm); (case c => rfl); (case v => assumption); (case e1 => rfl); (case e2 => rfl); (case e3 => decide); k_whole))))
local macro_rules | `(tactic| walk_at "ws1") => `(tactic| (first
  | ((with_reducible first | show wpAny _ _ _ _ _ _ | show ite _ _ _);
     (with_reducible fail_if_success (show wpAny _ _ (pyIter _) _ _ _));
     (with_reducible fail_if_success (show wpAny _ _ (exec (Stmt.For _ _ _ _ _) _) _ _ _));
     (with_reducible fail_if_success (show wpAny _ _ (eval (Expr.ListComp _ _ _ _) _) _ _ _));
     (with_reducible fail_if_success (show wpAny _ _ (exec (Stmt.Assign _ (Expr.ListComp _ _ _ _) _) _) _ _ _));
     (with_reducible fail_if_success (show wpAny _ _ (isTrue (Expr.BoolOp BoolOp.And _ _) _ _) _ _ _));
     (with_reducible fail_if_success (show wpAny _ _ (eval (Expr.GeneratorExp _ _ _ _) _) _ _ _));
     (with_reducible fail_if_success (show wpAny _ _ (binaryOp Operator.LShift _ _) _ _ _));
     (with_reducible fail_if_success (show wpAny _ _ (binaryOp Operator.RShift _ _) _ _ _));
     (with_reducible fail_if_success (show wpAny _ _ (binaryOp Operator.Add (Value.ref _) (Value.ref _)) _ _ _));
     (with_reducible fail_if_success (show wpAny _ _ (binaryOp Operator.Add (Value.str _ _) (Value.str _ _)) _ _ _));
     (with_reducible fail_if_success (show wpAny _ _ (call (Value.builtin "str.join") _) _ _ _));
     (with_reducible fail_if_success (show wpAny _ _ (call (Value.builtin "str.rfind") _) _ _ _));
     (with_reducible fail_if_success (show wpAny _ _ (call (Value.builtin "str.find") _) _ _ _));
     (with_reducible fail_if_success (show wpAny _ _ (call (Value.builtin "str.lower") _) _ _ _));
     (with_reducible fail_if_success (show wpAny _ _ (call (Value.builtin "str.upper") _) _ _ _));
     (with_reducible fail_if_success (show wpAny _ _ (call (Value.builtin "len") [Value.str _ _]) _ _ _));
     (with_reducible fail_if_success (show wpAny _ _ (call (Value.builtin "chr") _) _ _ _));
     (with_reducible fail_if_success (show wpAny _ _ (compareOp CmpOp.In (Value.str _ _) (Value.str _ _)) _ _ _));
     (with_reducible fail_if_success (show wpAny _ _ (compareOp CmpOp.NotIn (Value.str _ _) (Value.str _ _)) _ _ _));
     (with_reducible fail_if_success (show wpAny _ _ (subscriptTail _ _ _ _) _ _ _));
     (with_reducible fail_if_success (show wpAny _ _ (call (Value.ref _) _) _ _ _));
     (first | walk1 | (dsimp only; walk1)))))
local macro_rules | `(tactic| walk_at "ws") => `(tactic| repeat' (walk_at "ws1"))
local macro_rules | `(tactic| walk_at "wo") => `(tactic| repeat' ((with_reducible fail_if_success (show wpAny _ _ (eval (Expr.BoolOp BoolOp.Or _ _) _) _ _ _)); walk_at "ws1"))
local macro_rules | `(tactic| walk_at "trim") => `(tactic| repeat' (first | exact List.forall_mem_nil _ | (refine List.forall_mem_cons.mpr ⟨by k_mem, ?_⟩)))
/- part h_polymod -/
def gen (i : Nat) : Nat := match i with | 0 => 996825010 | 1 => 642813549 | 2 => 513874426 | 3 => 1027748829 | _ => 705979059
def gsum (top : Nat) : Nat → Nat
  | 0 => 0
  | i + 1 => gsum top i ^^^ (if top.testBit i then gen i else 0)
def polyStep (c v : Nat) : Nat := (((c &&& 33554431) <<< 5) ^^^ v) ^^^ gsum (c >>> 25) 5
def poly (vs : List Nat) : Nat := vs.foldl polyStep 1

set_option maxHeartbeats 8000000 in
theorem polymod_call (w : World) (mg mb : Str → Option Value) (s : Shared) (l : Addr) (vs : List Value) (ns : List Nat) (G : Gr (hd.heap_39 w.params) hd.view_39 mg mb s.heap)
   (hl : s.heap.IsList l vs.toArray) (hi : IntsAre vs (ns.map Int.ofNat)) (hlen : ns.length < 1000) :
   Call PySem.Challenge.rw_jy0013_01.row.prog w 21 [.ref l] 1 16 s (fun v _ => ∃ t, v = .int (poly ns : Nat) t) := by
  revert G; k_fill; intro G
  obtain ⟨X, T⟩ := G
  refine enter (K := hd.heap_39 w.params) (binds := [("values", .ref l)]) X T.nolimit (by k_is) (by k_is) (BindsTo.of_eq rfl) (locs rfl) ?_
  intro dp un fr gd h₁ L hd hu hL F
  have N : News s.heap L h₁ [] := News.nil
  walk_at "ws"
  refine For_invVF (by assumption) (by rfl) (by rfl) ?_ 
  walk_at "ws"
  with_reducible rename Fr _ _ _ _ => F1
  with_reducible rename News _ _ _ _ => N1


  refine iter_inv (fun i m => (∃ t, m "chk" = some (.int (poly (ns.take i) : Nat) t)) ∧ m "generator" = some (.ref _)) rfl hl hi F1 N1 ⟨⟨_, rfl⟩, rfl⟩ ?_ ?_
  · rintro i n t m₁ h tk own hin ⟨⟨tc, hc⟩, hg⟩ F2 N2
    clear F1 N1
    have F3 := fr_names [("value", .int n t), ("chk", .int (poly (ns.take i) : Nat) tc), ("generator", _)] F2 (by
      intro p hp
      simp only [List.mem_cons, List.not_mem_nil, or_false] at hp
      rcases hp with rfl | rfl | rfl
      · rfl
      · exact hc
      · exact hg)
    clear F2
    walk_at "ws"
    refine rshift_int (by decide) ?_
    try dsimp only
    walk_at "ws"
    obtain ⟨v, hv, rfl⟩ : ∃ v : Nat, ns[i]? = some v ∧ n = (v : Int) := by
      rw [List.getElem?_map] at hin
      cases e : ns[i]? with
      | none => rw [e] at hin; cases hin
      | some v => rw [e] at hin; exact ⟨v, rfl, (Option.some.inj hin).symm⟩
    generalize hcv : poly (ns.take i) = c at *
    have hA : Builtin.bitAnd (c : Int) 33554431 = ((c &&& 33554431 : Nat) : Int) := bitAnd_nat c 33554431
    rw [hA]
    have hAlt : c &&& 33554431 < 2 ^ 26 := Nat.lt_of_le_of_lt Nat.and_le_right (by decide)
    refine lshift_int_small (by decide) (by decide) (by omega) ?_
    try dsimp only
    rw [show ((c &&& 33554431 : Nat) : Int) * (2 : Int) ^ Int.toNat 5 = (((c &&& 33554431) <<< 5 : Nat) : Int) from mul_pow_nat _ _]
    walk_at "ws"
    refine For_invVF (by assumption) (by rfl) (by rfl) ?_ 
    walk_at "ws"
    rw [bitXor_nat, show ((c : Nat) : Int).fdiv ((2 : Int) ^ Int.toNat 25) = ((c >>> 25 : Nat) : Int) from fdiv_pow_nat _ _] at *
    with_reducible rename IsRange _ _ _ _ _ _ _ _ => R4
    with_reducible rename Fr _ _ _ _ => F4
    with_reducible rename News _ _ _ _ => N4
    generalize hc1 : (c &&& 33554431) <<< 5 ^^^ v = c1 at *
    generalize htop : c >>> 25 = top at *
    refine iter_range (n := 5) (fun i m => (∃ t, m "chk" = some (.int (c1 ^^^ gsum top i : Nat) t)) ∧ (∃ t, m "top" = some (.int (top : Nat) t)) ∧ m "generator" = some (.ref _)) rfl R4 (by decide) (by decide) F4 N4 ⟨⟨_, by rw [gsum, Nat.xor_zero]; rfl⟩, ⟨_, rfl⟩, rfl⟩ ?_ ?_
    · rintro j tt m₂ h₂ tk₂ own₂ hj ⟨⟨t5, hc5⟩, ⟨t6, hc6⟩, hg6⟩ F5 N5
      clear F4 R4
      have F6 := fr_names [("i", .int (0 + (j : Int)) tt), ("chk", .int (c1 ^^^ gsum top j : Nat) t5), ("top", .int (top : Nat) t6), ("generator", .ref _)] F5 (by
        intro p hp
        simp only [List.mem_cons, List.not_mem_nil, or_false] at hp
        rcases hp with rfl | rfl | rfl | rfl
        · rfl
        · exact hc5
        · exact hc6
        · exact hg6)
      clear F5
      walk_at "ws"
      refine rshift_int (by omega) ?_
      try dsimp only
      rw [show ((top : Nat) : Int).fdiv ((2 : Int) ^ Int.toNat (0 + (j : Int))) = ((top >>> j : Nat) : Int) from by rw [Int.zero_add, Int.toNat_natCast]; exact fdiv_pow_nat _ _]
      walk_at "ws"
      · with_reducible rename News _ _ _ _ => N6
        have hx : Builtin.bitAnd ((top >>> j : Nat) : Int) 1 ≠ 0 := by assumption
        have hgj : gsum top (j + 1) = gsum top j ^^^ gen j := by
          rw [gsum, if_pos]
          rw [Nat.testBit, bne_iff_ne]
          intro e; apply hx
          rw [show (1 : Int) = ((1 : Nat) : Int) from rfl, bitAnd_nat, Nat.and_comm, e]; rfl
        refine item_listE (k := 0 + (j : Int)) (fun v => ∃ t, v = .int (gen j : Nat) t) (News.isList N6 (by k_mem)) (by omega) (by omega) ?_ ?_
        · have hj' : j = 0 ∨ j = 1 ∨ j = 2 ∨ j = 3 ∨ j = 4 := by omega
          rcases hj' with rfl | rfl | rfl | rfl | rfl <;> exact ⟨_, rfl, _, rfl⟩
        · rintro _ ⟨tg, rfl⟩
          try dsimp only
          rw [hgj]
          walk_at "ws"
          rw [bitXor_nat] at *
          with_reducible rename Fr _ _ _ _ => F7
          with_reducible rename News _ _ _ _ => N7
          refine InvEnd.intro F7 N7 (fun p hp => hp) ⟨⟨_, by rw [← Nat.xor_assoc]; rfl⟩, ⟨_, rfl⟩, rfl⟩
      · have hx : Builtin.bitAnd ((top >>> j : Nat) : Int) 1 = 0 := by assumption
        have hgj : gsum top (j + 1) = gsum top j := by
          rw [gsum, if_neg, Nat.xor_zero]
          rw [Nat.testBit, bne_iff_ne]
          intro e; apply e
          rw [show (1 : Int) = ((1 : Nat) : Int) from rfl, bitAnd_nat, Nat.and_comm] at hx
          omega
        rw [PyProof.Rows.bitXor_zero] at *
        with_reducible rename Fr _ _ _ _ => F7
        with_reducible rename News _ _ _ _ => N7
        refine InvEnd.intro F7 N7 (fun p hp => hp) ⟨⟨_, by rw [hgj]; rfl⟩, ⟨_, rfl⟩, rfl⟩
    · rintro m₂ h₂ tk₂ ⟨⟨t5, hc5⟩, ⟨t6, hc6⟩, hg6⟩ F5 N5
      have hstep : poly (ns.take (i + 1)) = c1 ^^^ gsum top 5 := by
        rw [List.take_add_one, hv, poly, List.foldl_append]
        show polyStep (poly (ns.take i)) v = _
        rw [hcv, polyStep, hc1, htop]
      walk_at "ws"
      exact InvEnd.intro F5 N5 (fun p hp => hp) ⟨⟨t5, by rw [hc5, hstep]⟩, hg6⟩
  · rintro m₂ h₂ tk₂ ⟨⟨t5, hc5⟩, hg6⟩ F5 N5
    rw [List.take_of_length_le (Nat.le_of_eq (by rw [List.length_map]))] at hc5
    have F6 := fr_names [("chk", .int (poly ns : Nat) t5)] F5 (by
      intro p hp
      simp only [List.mem_cons, List.not_mem_nil, or_false] at hp
      subst hp; exact hc5)
    clear F5
    walk_at "ws"
    exact ⟨_, _, rfl, F6.keep, _, rfl⟩
/- part i_expand -/
def hrpExp (h : List Nat) : List Nat := h.map (· >>> 5) ++ [0] ++ h.map (· &&& 31)
set_option maxHeartbeats 8000000 in
theorem expand_call (w : World) (mg mb : Str → Option Value) (s : Shared) (y : Str) (t : Tok) (G : Gr (hd.heap_39 w.params) hd.view_39 mg mb s.heap) (hlen : y.cps.size < 1000) :
   Call PySem.Challenge.rw_jy0013_01.row.prog w 26 [.str y t] 1 16 s (fun v h' => ∃ D vs, v = .ref D ∧ s.heap.get? D = none ∧ h'.PlainList D vs.toArray ∧ IntsAre vs ((hrpExp y.cps.toList).map Int.ofNat)) := by
  revert G; k_fill; intro G
  obtain ⟨X, T⟩ := G
  refine enter (K := hd.heap_39 w.params) (binds := [("hrp", .str y t)]) X T.nolimit (by k_is) (by k_is) (BindsTo.of_eq rfl) (locs rfl) ?_
  intro dp un fr gd h₁ L hd hu hL F
  have N : News s.heap L h₁ [] := News.nil
  walk_at "ws"
  refine comp_map (is := isC) (out := isN) (g := fun c => c >>> 5) isC_fun rfl (by with_unfolding_all rfl) (by decide) (by rfl) (by decide) (by rfl) ?_
  walk_at "ws"
  refine ⟨y.cps.toList, _, by rw [Array.length_toList]; exact Src.str, by rw [Array.length_toList, sizeLine_eq]; omega, signs_at, ?_, ?_⟩
  · rintro C c v s₃ m₃ E' hc ⟨tc, rfl⟩ FC hm
    have X1 := X.keeps F.keep
    have T1 := T.keeps F.keep
    clear X T F N
    have N : News h₁ C s₃.heap [] := News.nil
    walk_at "ws"
    refine rshift_int (by decide) ?_
    show isN _ _ ∧ Keeps _ _
    exact ⟨⟨_, congrArg (Value.int · _) (fdiv_pow_nat _ _)⟩, _, _, rfl, fun _ _ e => e⟩
  · intro D h' tk ys hE hD hpl hpa
    obtain ⟨k, F2, N2, -⟩ := news_add F N hE hD hpl
    clear F N
    walk_at "ws"
    refine add_lists (ws := [Value.int 0 _]) (by assumption) (by assumption) (News.isList (by assumption) (by k_mem)) (News.isList (by assumption) (by k_mem)) ?_ (by rw [← hpa.length, sizeLine_eq]; simp; omega)
    intro h'' F3 N3
    dsimp only at F3 N3 ⊢
    refine comp_map (is := isC) (out := isN) (g := fun c => c &&& 31) isC_fun rfl (by with_unfolding_all rfl) (by decide) (by rfl) (by decide) (by rfl) ?_
    walk_at "ws"
    refine ⟨y.cps.toList, _, by rw [Array.length_toList]; exact Src.str, by rw [Array.length_toList, sizeLine_eq]; omega, signs_at, ?_, ?_⟩
    · rintro C c v s₃ m₃ E' hc ⟨tc, rfl⟩ FC hm
      have X1 := X.keeps F3.keep
      have T1 := T.keeps F3.keep
      clear X T F3 N3
      have N : News h'' C s₃.heap [] := News.nil
      walk_at "ws"
      show isN _ _ ∧ Keeps _ _
      exact ⟨⟨_, congrArg (Value.int · _) (bitAnd_nat c 31)⟩, _, _, rfl, fun _ _ e => e⟩
    · intro D2 h3 tk2 ys2 hE2 hD2 hpl2 hpa2
      obtain ⟨k2, F4, N4, -⟩ := news_add F3 N3 hE2 hD2 hpl2
      clear F3 N3
      try dsimp only
      refine add_lists (vs := ys ++ [Value.int 0 _]) (by assumption) (by assumption) (News.isList (by assumption) (by k_mem)) (News.isList (by assumption) (by k_mem)) ?_ ?_
      · intro h5 F5 N5
        walk_at "ws"
        refine ⟨h5, _, rfl, F5.keep, _, ys ++ [Value.int 0 _] ++ ys2, rfl, (N5 _ (.head _)).2.2, ⟨_, (N5 _ (.head _)).1⟩, ints_of_isN ?_⟩
        exact paired_app (paired_app hpa (paired_one ⟨_, rfl⟩)) hpa2
      · have e1 := hpa.length; have e2 := hpa2.length
        rw [List.length_append, sizeLine_eq, ← e1, ← e2]; simp; omega
/- part j_verify -/
set_option maxHeartbeats 8000000 in
theorem verify_call (w : World) (mg mb : Str → Option Value) (s : Shared) (y : Str) (t : Tok) (l : Addr) (vs : List Value) (ds : List Nat) (G : Gr (hd.heap_39 w.params) hd.view_39 mg mb s.heap)
   (hl : s.heap.IsList l vs.toArray) (hi : IntsAre vs (ds.map Int.ofNat)) (hlen : y.cps.size < 200) (hlen2 : ds.length < 200) :
   Call PySem.Challenge.rw_jy0013_01.row.prog w 33 [.str y t, .ref l] 3 24 s (fun v _ => v = .bool (decide (poly (hrpExp y.cps.toList ++ ds) = 1))) := by
  revert G; k_fill; intro G
  obtain ⟨X, T⟩ := G
  refine enter (K := hd.heap_39 w.params) (binds := [("hrp", .str y t), ("data", .ref l)]) X T.nolimit (by k_is) (by k_is) (BindsTo.of_eq rfl) (locs rfl) ?_
  intro dp un fr gd h₁ L hd hu hL F
  have N : News s.heap L h₁ [] := News.nil
  walk_at "ws"
  refine ⟨X.keeps F.keep, expand_call w mg mb _ y t ⟨X.keeps F.keep, T.keeps F.keep⟩ (by omega) dp un fr gd _ _ (by omega) (by omega) ?_⟩
  rintro v h2 tk2 hE2 ⟨D, us, rfl, hD, hpl, hus⟩
  dsimp only at hE2 hD ⊢
  obtain ⟨k, F2, N2, -⟩ := news_add F N hE2 hD hpl
  clear F N
  walk_at "ws"
  have hul : us.length = 2 * y.cps.size + 1 := by rw [hus.length, List.length_map, hrpExp]; simp; omega
  have hvl : vs.length = ds.length := by rw [hi.length, List.length_map]
  refine add_lists (by assumption) (by assumption) (News.isList (by assumption) (by k_mem)) (News.isList (by assumption) (by k_mem)) ?_ (by rw [sizeLine_eq]; omega)
  intro h3 F3 N3
  dsimp only at F3 N3 ⊢
  walk_at "ws"
  refine ⟨X.keeps F3.keep, polymod_call w mg mb _ _ (us ++ vs) (hrpExp y.cps.toList ++ ds) ⟨X.keeps F3.keep, T.keeps F3.keep⟩ (News.isList N3 (.head _)) (by rw [List.map_append]; exact hus.append hi) (by rw [← List.length_map (f := Int.ofNat), List.map_append, List.length_append, ← hus.length, ← hi.length]; omega) dp un fr gd _ _ (by omega) (by omega) ?_⟩
  rintro v h4 tk4 hE4 ⟨tv, rfl⟩
  have F4 := F3.keeps hE4
  dsimp only at F4 ⊢
  clear F3 N3
  walk_at "ws"
  exact ⟨_, _, rfl, F4.keep, congrArg Value.bool (by rw [Bool.eq_iff_iff]; simp; omega)⟩
/- part k_create -/
def dig6 (p : Nat) : List Nat := (List.range 6).map fun i => p >>> (5 * (5 - i)) &&& 31
def createCk (h ds : List Nat) : List Nat := dig6 (poly (hrpExp h ++ ds ++ [0, 0, 0, 0, 0, 0]) ^^^ 1)
set_option maxHeartbeats 8000000 in
theorem create_call (w : World) (mg mb : Str → Option Value) (s : Shared) (y : Str) (t : Tok) (l : Addr) (vs : List Value) (ds : List Nat) (G : Gr (hd.heap_39 w.params) hd.view_39 mg mb s.heap)
   (hl : s.heap.IsList l vs.toArray) (hi : IntsAre vs (ds.map Int.ofNat)) (hlen : y.cps.size < 200) (hlen2 : ds.length < 200) :
   Call PySem.Challenge.rw_jy0013_01.row.prog w 38 [.str y t, .ref l] 3 24 s (fun v h' => ∃ D vs, v = .ref D ∧ s.heap.get? D = none ∧ h'.PlainList D vs.toArray ∧ IntsAre vs ((createCk y.cps.toList ds).map Int.ofNat)) := by
  revert G; k_fill; intro G
  obtain ⟨X, T⟩ := G
  refine enterC (K := hd.heap_39 w.params) (binds := [("hrp", .str y t), ("data", .ref l)]) X T.nolimit (by k_is) (by k_is) (BindsTo.of_eq rfl) rfl (by decide +kernel) ?_
  intro dp un fr gd h₁ L tk cells hd hu hL F N Y
  obtain ⟨oc, hEc, dc⟩ := CellsAre.one Y
  subst hEc
  clear Y
  walk_at "ws"
  refine ⟨X.keeps F.keep, expand_call w mg mb _ y t ⟨X.keeps F.keep, T.keeps F.keep⟩ (by omega) dp un fr gd _ _ (by omega) (by omega) ?_⟩
  rintro v h2 tk2 hE2 ⟨D, us, rfl, hD, hpl, hus⟩
  dsimp only at hE2 hD ⊢
  obtain ⟨k, F2, N2, -⟩ := news_add F N hE2 hD hpl
  clear F N
  walk_at "ws"
  have hul : us.length = 2 * y.cps.size + 1 := by rw [hus.length, List.length_map, hrpExp]; simp; omega
  have hvl : vs.length = ds.length := by rw [hi.length, List.length_map]
  refine add_lists (by assumption) (by assumption) (News.isList (by assumption) (by k_mem)) (News.isList (by assumption) (by k_mem)) ?_ (by rw [sizeLine_eq]; omega)
  intro h3 F3 N3
  dsimp only at F3 N3 ⊢
  walk_at "ws"
  refine add_lists (vs := us ++ vs) (ws := [.int 0 _, .int 0 _, .int 0 _, .int 0 _, .int 0 _, .int 0 _]) (by assumption) (by assumption) (News.isList (by assumption) (by k_mem)) (News.isList (by assumption) (by k_mem)) ?_ (by rw [sizeLine_eq, List.length_append]; simp; omega)
  intro h4 F4 N4
  dsimp only at F4 N4 ⊢
  walk_at "ws"
  refine ⟨X.keeps F4.keep, polymod_call w mg mb _ _ (us ++ vs ++ _) (hrpExp y.cps.toList ++ ds ++ [0, 0, 0, 0, 0, 0]) ⟨X.keeps F4.keep, T.keeps F4.keep⟩ (News.isList N4 (.head _)) (by rw [List.map_append, List.map_append]; exact (hus.append hi).append (.cons 0 _ (.cons 0 _ (.cons 0 _ (.cons 0 _ (.cons 0 _ (.cons 0 _ .nil))))))) (by
    rw [List.length_append, List.length_append, hrpExp]; simp; omega) dp un fr gd _ _ (by omega) (by omega) ?_⟩
  rintro v h5 tk5 hE5 ⟨tv, rfl⟩
  have F5 := F4.keeps hE5
  have N5 := N4.grown hE5
  dsimp only at F5 N5 ⊢
  clear F4 N4
  have N6 : News s.heap L h5 [(L + 1, oc)] := kst_newsOf N5 (fun p hp => by rw [List.mem_singleton.mp hp]; k_mem)
  clear N5
  walk_at "ws"
  rw [show (1 : Int) = ((1 : Nat) : Int) from rfl, bitXor_nat] at *
  generalize hpm : poly (hrpExp y.cps.toList ++ ds ++ [0, 0, 0, 0, 0, 0]) ^^^ 1 = pm at *
  refine comp_map (is := isN) (out := isN) (g := fun i => pm >>> (5 * (5 - i)) &&& 31) isN_fun rfl (by with_unfolding_all rfl) (by decide) (by rfl) (by decide) (by rfl) ?_
  walk_at "ws"
  with_reducible rename IsRange _ _ _ _ _ _ _ _ => R7
  with_reducible rename Fr _ _ _ _ => F7
  with_reducible rename News _ _ _ _ => N7
  refine ⟨List.range 6, _, by rw [List.length_range]; exact Src.range R7 (by decide) (by decide), by decide, fun i v h => range_at i v (by simpa using h), ?_, ?_⟩
  · rintro C i v s₃ m₃ E' hi6 ⟨ti, rfl⟩ FC hm
    have X1 := X.keeps F7.keep
    have T1 := T.keeps F7.keep
    (with_reducible rename (_ = Data.cell (some (Value.int _ _))) => dcell)
    have hcell : Heap.IsCell _ (L + 1) (some (Value.int (pm : Nat) _)) := ⟨_, (N7 _ (.head _)).1, dcell⟩
    have hi7 := List.mem_range.mp hi6
    clear F7 X T dcell N7
    have N : News _ C s₃.heap [] := News.nil (h₀ := s₃.heap)
    walk_at "ws"
    refine rshift_int (by omega) ?_
    try dsimp only
    rw [show ((pm : Nat) : Int).fdiv ((2 : Int) ^ ((5 : Int) * (5 - (i : Int))).toNat) = ((pm >>> (5 * (5 - i)) : Nat) : Int) from by
      rw [show ((5 : Int) * (5 - (i : Int))).toNat = 5 * (5 - i) from by omega]; exact fdiv_pow_nat _ _]
    walk_at "ws"
    show isN _ _ ∧ Keeps _ _
    exact ⟨⟨_, congrArg (Value.int · _) (bitAnd_nat _ 31)⟩, _, _, rfl, fun _ _ e => e⟩
  · intro D2 h7 tk7 ys hE7 hD7 hpl7 hpa7
    obtain ⟨k7, F8, N8, -⟩ := news_add F7 N7 hE7 hD7 hpl7
    clear F7 N7
    walk_at "ws"
    refine ⟨h7, _, rfl, F8.keep, D2, ys, rfl, (N8 _ (.head _)).2.2, hpl7, ?_⟩
    rw [createCk, hpm]
    exact ints_of_isN hpa7
/- part l_encode -/
/-- the signs of the data part -/
def chs : List Nat := [113, 112, 122, 114, 121, 57, 120, 56, 103, 102, 50, 116, 118, 100, 119, 48, 115, 51, 106, 110, 53, 52, 107, 104, 99, 101, 54, 109, 117, 97, 55, 108]
theorem charset_Tx : Str.ofString "qpzry9x8gf2tvdw0s3jn54khce6mua7l" = Tx chs := by decide +kernel
def ch (d : Nat) : Nat := chs.getD d 0
theorem ch_at {d : Nat} (h : d < 32) : chs[d]? = some (ch d) := by
  unfold ch
  have : d < chs.length := h
  simp [this]
theorem dig6_lt (p : Nat) : ∀ d ∈ dig6 p, d < 32 := by
  intro d hd
  obtain ⟨i, _, rfl⟩ := List.mem_map.mp hd
  exact Nat.lt_of_le_of_lt Nat.and_le_right (by decide)
theorem dig6_len (p : Nat) : (dig6 p).length = 6 := rfl
def encText (h ds : List Nat) : List Nat := h ++ [49] ++ (ds ++ createCk h ds).map ch
set_option maxHeartbeats 8000000 in
theorem encode_call (w : World) (mg mb : Str → Option Value) (s : Shared) (y : Str) (t : Tok) (l : Addr) (vs : List Value) (ds : List Nat) (G : Gr (hd.heap_39 w.params) hd.view_39 mg mb s.heap)
   (hl : s.heap.IsList l vs.toArray) (hi : IntsAre vs (ds.map Int.ofNat)) (hlen : y.cps.size < 200) (hlen2 : ds.length < 200) (hds : ∀ d ∈ ds, d < 32) :
   Call PySem.Challenge.rw_jy0013_01.row.prog w 43 [.str y t, .ref l] 6 40 s (fun v h' => ∃ t, v = .str (Tx (encText y.cps.toList ds)) t) := by
  revert G; k_fill; intro G
  obtain ⟨X, T0⟩ := G
  refine enter (K := hd.heap_39 w.params) (binds := [("hrp", .str y t), ("data", .ref l)]) X T0.nolimit (by k_is) (by k_is) (BindsTo.of_eq rfl) (locs rfl) ?_
  intro dp un fr gd h₁ L hd hu hL F
  have N : News s.heap L h₁ [] := News.nil
  walk_at "ws"
  with_reducible rename Fr _ _ _ _ => F1
  with_reducible rename News _ _ _ _ => N1
  refine ⟨X.keeps F1.keep, create_call w mg mb _ y t l vs ds ⟨X.keeps F1.keep, T0.keeps F1.keep⟩ (hl.at fun o e => F1.keep l o e) hi hlen hlen2 dp un fr gd _ _ (by omega) (by omega) ?_⟩
  rintro v h2 tk2 hE2 ⟨D, us, rfl, hD, hpl, hus⟩
  dsimp only at hE2 hD ⊢
  obtain ⟨k, F2, N2, -⟩ := news_add F1 N1 hE2 hD hpl
  clear F1 N1
  have hul : us.length = 6 := by rw [hus.length, List.length_map, createCk, dig6_len]
  have hvl : vs.length = ds.length := by rw [hi.length, List.length_map]
  have hcl := dig6_lt (poly (hrpExp y.cps.toList ++ ds ++ [0, 0, 0, 0, 0, 0]) ^^^ 1)
  refine add_lists (by assumption) (by assumption) (News.isList (by assumption) (by k_mem)) (News.isList (by assumption) (by k_mem)) ?_ (by rw [sizeLine_eq]; omega)
  intro h3 F3 N3
  dsimp only at F3 N3 ⊢
  have hp3 : Paired isN (ds ++ createCk y.cps.toList ds) (vs ++ us) := isN_of_ints (by rw [List.map_append]; exact hi.append hus)
  walk_at "ws"
  refine PyProof.Rows.add_str (fun t' tk' => ?_) (by rw [sizeLine_eq]; show y.cps.size + 1 ≤ _; omega)
  walk_at "ws"
  with_reducible rename Fr _ _ _ _ => F4
  with_reducible rename News _ _ _ _ => N4
  refine comp_map (is := isN) (out := isC) (g := ch) isN_fun rfl (by with_unfolding_all rfl) (by decide) (by rfl) (by decide) (by rfl) ?_
  walk_at "ws"
  refine ⟨ds ++ createCk y.cps.toList ds, _, Src.of (News.isList N4 (by k_mem)) hp3, by rw [hp3.length, List.length_append, sizeLine_eq]; omega, fun i v h => paired_at hp3 i v h, ?_, ?_⟩
  · rintro C d v s₃ m₃ E' hd ⟨td, rfl⟩ FC hm
    have hd32 : d < 32 := by
      rcases List.mem_append.mp hd with h | h
      · exact hds d h
      · exact hcl d h
    have X1 := X.keeps F4.keep
    have T1 := T0.keeps F4.keep
    clear F4 X T0 N4
    have N : News _ C s₃.heap [] := News.nil (h₀ := s₃.heap)
    walk_at "ws"
    rw [charset_Tx]
    refine item_strE (by omega) (by omega) (c := ch d) (by rw [Tx_toList, Int.toNat_natCast]; exact ch_at hd32) ?_
    show isC _ _ ∧ Keeps _ _
    exact ⟨⟨_, rfl⟩, _, _, rfl, fun _ _ e => e⟩
  · intro D2 h7 tk7 ys hE7 hD7 hpl7 hpa7
    obtain ⟨k7, F8, N8, -⟩ := news_add F4 N4 hE7 hD7 hpl7
    clear F4 N4
    walk_at "ws"
    refine join_codes (News.isList N8 (.head _)) hpa7 (by rw [List.length_map, hp3.length, List.length_append]; omega) (fun t2 k2 => ?_)
    have hsz : (encText y.cps.toList ds).length = y.cps.size + 1 + (ds.length + 6) := by
      rw [encText, List.length_append, List.length_append, List.length_map, List.length_append, createCk, dig6_len, Array.length_toList]; rfl
    have he : y ++ Str.ofString "1" ++ Tx ((ds ++ createCk y.cps.toList ds).map ch) = Tx (encText y.cps.toList ds) := by
      rw [show Str.ofString "1" = Tx [49] from by decide +kernel]
      conv => lhs; rw [← Tx_of y, Tx_app, Tx_app]
      rfl
    refine PyProof.Rows.add_str (fun t3 k3 => ?_) (by
      rw [← Str.length_append, he, Tx_len, hsz, sizeLine_eq]; omega)
    rw [he]
    exact ⟨h7, _, rfl, F8.keep, _, rfl⟩
/- part m_gen -/
/-- the table of decode's code apart: everything else stays -/
abbrev ExtP (P : Addr) (h h' : Heap) : Prop := ∀ b o, b ≠ P → h.get? b = some o → h'.get? b = some o
section
variable {prog : Program} {w : World} {A : Around} {E : Value → Shared → Prop} {s : Shared} {h₀ : Heap} {c P L : Addr} {m mg : Str → Option Value} {bm : Addr} {ob : Obj}

theorem range_true (n : Nat) : passing (fun _ => true) n 0 = List.range n := by
  unfold passing
  rw [List.drop_zero, List.filter_eq_self.mpr (fun _ _ => rfl)]

theorem genexp_str {env : Env} {elt iter : PySem.Expr} {x : Str} {px : Pos} {scope : Scope} {cl : List (Str × Addr)} {pos : Pos} {Q : Value → Shared → Prop} {q : Nat → Bool}
    (C0 : CodeHd h₀ c P) (M : BMod h₀ env.globals mg bm ob) (hlim : h₀.NoLimit) (hcode : env.code = .ref c)
    (hh : A.handled = none) (hco : scope.isCoroutine = false) (hclos : closureFor scope env = pure cl) (hcell : ∀ y ∈ scope.names, y.2 ≠ .cell) (h0 : scope.names.lookup (".0" : Str) = some NameKind.local)
    (hx : scope.names.lookup x = some .local) (hkind : scope.kind = .function) (hroom : A.depth < recursionLimit)
    (h : wpAny (model prog w) A (eval iter env) (fun xv s₁ => ∃ (m : Str → Option Value) (y : Str) (t : Tok) (ps : Array Value) (news : List (Addr × Obj)), xv = .str y t ∧ Fr h₀ L s₁.heap m ∧ News h₀ L s₁.heap ((P, tabObj ps) :: news) ∧ (∀ p ∈ news, p.1 ≠ P) ∧ TriplesOk ps.toList ∧ AllBare s₁.gens ∧
      (∀ C code (A' : Around) E' ch v (t : Shared) m₂, A'.handled = none → A'.depth ≤ A.depth + 1 → A'.units ≤ A.units + 8 → ch ∈ y.cps.toList → isC ch v → Fr h₀ C t.heap m₂ → m₂ x = some v →
        wpAny (model prog w) A' (eval elt (genEnv scope cl C code builtinsNs env)) (fun r s₃ => r = .bool (q ch) ∧ Keeps t s₃) E' t) ∧
      (∀ a s₅ ps', Fr h₀ L s₅.heap m → News h₀ L s₅.heap ((P, tabObj ps') :: news) → TriplesOk ps'.toList → AllBare s₅.gens → s₅.os = s₁.os → P < s₁.heap.objs.size →
        Gen prog w A (s₁.heap.objs.size - 1) a y.cps.size (fun j r => ∃ ch, y.cps.toList[j]? = some ch ∧ r = .bool (q ch)) s₅ → (∀ p ∈ news, p.1 ≤ s₁.heap.objs.size - 1) → P ≤ s₁.heap.objs.size - 1 → L ≤ s₁.heap.objs.size - 1 → Q (.ref a) s₅)) E s)
    (hs : ∀ x, genFold iter env x = pure x) :
    wpAny (model prog w) A (eval (.GeneratorExp elt [⟨.Name x px, iter, [], 0⟩] scope pos) env) Q E s := by
  refine wpAny_GeneratorExp_walksQD hh hco hclos hcell h0 hx hkind hroom (wpAny_mono h (fun xv s₁ h₁' => ?_) fun _ _ e => e) hs
  obtain ⟨m, y, t, ps, news, rfl, F₁, N₁, hnP, htr, G₁, hq1, hQ⟩ := h₁'
  have hP₁ := N₁ _ (.head _)
  have hPlt : @LT.lt Nat _ P s₁.heap.objs.size := Heap.lt_size hP₁.1
  have hLlt : @LT.lt Nat _ L s₁.heap.objs.size := F₁.ns.lt
  have hab : @LE.le Nat _ h₀.objs.size L := F₁.above
  refine wpAny_pyIter_str fun o St W hst => ?_
  have up : Ext s₁.heap (s₁.heap.push o) := fun b o' e => Heap.get?_push_of_some _ e
  have F₂ : Fr h₀ L (s₁.heap.push o) m := F₁.keeps up
  have N₂ : News h₀ L (s₁.heap.push o) ((P, tabObj ps) :: news) := N₁.grown up
  have hlim₂ : (s₁.heap.push o).NoLimit := hlim.keeps F₂.keep
  have cont : ∀ (code : Value) (h₃ : Heap) (tk₃ : Nat) (ps' : Array Value), Heap.ExtBut P (s₁.heap.push o) h₃ → (s₁.heap.push o).objs.size ≤ h₃.objs.size → h₃.get? P = some (tabObj ps') → TriplesOk ps'.toList →
      wpAny (model prog w) A (builtinsFor env.globals env.builtins) (fun bi s₄ =>
        ∃ I fp wr n₀ Pi St₀ pz F, Value.ref s₁.heap.objs.size = .ref I ∧ (∀ A' : Around, A'.handled = none → Walks prog w A' I fp wr n₀ Pi St₀) ∧ St₀ 0 s₄.heap ∧ (∀ b ∈ fp, b < s₄.heap.objs.size) ∧ s₄.heap.NoLimit ∧ cStatics ∉ wr ∧
          (∀ href : Heap, (∀ b o, s₄.heap.get? b = some o → href.get? b = some o) →
            QuietGenD prog w (genEnv scope cl s₄.heap.objs.size code bi env) x [] elt (List.range s₄.heap.objs.size) wr Pi pz F href (A.depth + 1) (A.units + 8)) ∧
          (∀ a h₅ tk gs, gs.bare = true → s₄.heap.objs.size < a → h₅.objs.size = a + 1 → (∀ b o, s₄.heap.get? b = some o → h₅.get? b = some o) →
            WalksS prog w A.in4 a (a :: s₄.heap.objs.size :: List.range s₄.heap.objs.size) (s₄.heap.objs.size :: wr) (GenOnlyQ s₄.gens.size) (passing pz n₀ 0).length
              (fun j y => ∃ i, (passing pz n₀ 0)[j]? = some i ∧ F i y) (GenAt prog w A.in4 a s₄.gens.size s₄.heap.objs.size (List.range s₄.heap.objs.size) wr pz n₀ F) →
            GenAt prog w A.in4 a s₄.gens.size s₄.heap.objs.size (List.range s₄.heap.objs.size) wr pz n₀ F 0 { s₄ with gens := s₄.gens.push gs, toks := tk, heap := h₅ } →
            Q (.ref a) { s₄ with gens := s₄.gens.push gs, toks := tk, heap := h₅ })) E { s₁ with heap := h₃, toks := tk₃ } := by
    intro code h₃ tk₃ ps' hx₃ hsz hP₃ htr'
    have old₀ : ∀ b o', h₀.get? b = some o' → h₃.get? b = some o' := fun b o' e => hx₃ b o' (fun q => by rw [q, hP₁.2.2] at e; cases e) (F₂.keep b o' e)
    have hLP : L ≠ P := Ne.symm hP₁.2.1
    have F₃ : Fr h₀ L h₃ m := ⟨F₂.ns.extBut hx₃ hLP, old₀, F₂.above⟩
    have N₃ : News h₀ L h₃ ((P, tabObj ps') :: news) := fun p hp => by
      rcases List.mem_cons.mp hp with rfl | hp
      · exact ⟨hP₃, hP₁.2⟩
      · exact ⟨hx₃ _ _ (hnP p hp) (N₂ p (.tail _ hp)).1, (N₂ p (.tail _ hp)).2⟩
    have M₃ : BMod h₃ env.globals mg bm ob := M.keeps old₀
    have hl₃ : h₃.NoLimit := hlim.keeps old₀
    have hsz₁ : s₁.heap.objs.size + 1 ≤ h₃.objs.size := by rw [← Heap.size_push s₁.heap o]; exact hsz
    refine wpAny_builtinsFor M₃.ns M₃.name M₃.ne M₃.obj M₃.cls M₃.dict M₃.data ?_
    refine ⟨s₁.heap.objs.size, [s₁.heap.objs.size], [s₁.heap.objs.size], y.cps.size, SignAt y, St, fun _ => true, (fun i r => ∃ ch, y.cps.toList[i]? = some ch ∧ r = .bool (q ch)), rfl, W,
      (W A hh).frame _ _ _ hst (fun b hb o' e => hx₃ b o' (fun e' => by have e2 : @Eq Nat s₁.heap.objs.size P := (List.mem_singleton.mp hb).symm.trans e'; omega) e), (fun b hb => by rw [List.mem_singleton.mp hb]; exact hsz₁), hl₃, ?_, ?_, ?_⟩
    · intro hm
      obtain ⟨mc, hns, _⟩ := hlim
      have h1 : @LT.lt Nat _ cStatics h₀.objs.size := hns.lt
      have h2 : @Eq Nat cStatics s₁.heap.objs.size := List.mem_singleton.mp hm
      omega
    · intro href hhref
      have inB : ∀ (u : Shared) m₂, u.heap.Ns h₃.objs.size m₂ → (∀ b ∈ List.range h₃.objs.size, b ∉ [s₁.heap.objs.size] → ∀ o', href.get? b = some o' → u.heap.get? b = some o') → Fr h₀ h₃.objs.size u.heap m₂ := fun u m₂ hn hkp =>
        ⟨hn, fun b o' e => hkp b (List.mem_range.mpr (Heap.lt_size (old₀ b o' e))) (fun hm => by
            have h1 : @LT.lt Nat _ b h₀.objs.size := Heap.lt_size e
            have h2 : @Eq Nat b s₁.heap.objs.size := List.mem_singleton.mp hm
            omega) o' (hhref b o' (old₀ b o' e)), (by omega : @LE.le Nat _ h₀.objs.size h₃.objs.size)⟩
      refine ⟨fun A' E' i v u m₂ hA hD hU hP hn hm hkp => wpAny_tests_nil ⟨rfl, _, _, rfl, fun _ _ e => e⟩, fun A' E' i v u m₂ hA hD hU hP hp hn hm hkp => ?_⟩
      obtain ⟨ch, hch, hv⟩ := signs_at i v hP
      exact wpAny_mono (hq1 _ code A' E' ch v u m₂ hA hD hU (List.mem_of_getElem? hch) hv (inB u m₂ hn hkp) hm) (fun r s₃ hr => ⟨⟨ch, hch, hr.1⟩, hr.2⟩) fun _ _ e => e
    · intro a h₅ tk gs hgb hag hsz₅ hk₅ W5 hat
      have hnews : ∀ p ∈ news, p.1 ≤ s₁.heap.objs.size - 1 := fun p hp => by have h1 : @LT.lt Nat _ p.1 s₁.heap.objs.size := Heap.lt_size (N₁ p (.tail _ hp)).1; exact (by omega : @LE.le Nat _ p.1 (s₁.heap.objs.size - 1))
      refine hQ a _ ps' (F₃.keeps hk₅) (N₃.grown hk₅) htr' (G₁.push hgb) rfl hPlt ?_ hnews (by omega : @LE.le Nat _ P (s₁.heap.objs.size - 1)) (by omega : @LE.le Nat _ L (s₁.heap.objs.size - 1))
      rw [range_true, List.length_range] at W5
      refine ⟨_, _, _, _, ({ W5 with item := fun i s Q E hi st hQ' => W5.item i s Q E hi st fun v s' hv => hQ' v s' ?_ } : WalksS prog w A.in4 a _ _ (GenOnlyQ s₁.gens.size) y.cps.size _ _), hat, (fun i s' st => st.1.typeIs), List.mem_cons_self, ?_, ?_⟩
      · obtain ⟨i', hi', r⟩ := hv
        obtain ⟨h1, h2⟩ := List.getElem?_eq_some_iff.mp hi'
        rw [List.getElem_range] at h2
        subst h2; exact r
      · intro b hb
        show b < h₅.objs.size
        rw [hsz₅]
        rcases List.mem_cons.mp hb with rfl | hb
        · exact Nat.lt_succ_self _
        · rcases List.mem_cons.mp hb with rfl | hb
          · exact Nat.lt_succ_of_lt hag
          · exact Nat.lt_succ_of_lt (Nat.lt_trans (List.mem_range.mp hb) hag)
      · intro b hb
        rcases List.mem_cons.mp hb with rfl | hb
        · exact (by omega : @LT.lt Nat _ (s₁.heap.objs.size - 1) h₃.objs.size)
        · rw [List.mem_singleton.mp hb]; exact (by omega : @LT.lt Nat _ (s₁.heap.objs.size - 1) s₁.heap.objs.size)
  refine ⟨hlim₂, ?_⟩
  have C2 : CodeHd (s₁.heap.push o) c P := C0.keeps F₂.keep
  have hP₂ := (N₂ _ (.head _)).1
  cases hca : codeAmong pos ps.toList with
  | none =>
    refine wpAny_genexprCodeX hcode (C2.code hP₂ htr) (C2.tab hP₂) hca fun c' h₃ tk₃ hx₃ hge hlt hcode₃ _ htab₃ _ => ?_
    exact cont _ h₃ tk₃ _ hx₃ (Nat.le_trans hge (Nat.le_of_lt hlt)) htab₃.2 (by rw [Array.toList_append]; exact TriplesOk_snoc _ _ _ _ htr)
  | some c' =>
    refine wpAny_genexprCode_hit hcode (C2.code hP₂ htr) hca ?_
    exact cont c' (s₁.heap.push o) s₁.toks ps (fun _ _ _ e => e) (Nat.le_refl _) hP₂ htr
end
/- part n_callp -/
/-- A call that may lay a generator's code into the table at P, and leaves finished generators behind. -/
def CallP (prog : Program) (w : World) (P f : Addr) (args : List Value) (nd nu : Nat) (s : Shared) (Post : Value → Heap → Prop) : Prop :=
  ∀ (dp un : Nat) (fr : Option (List Env)) (gd : Option (List Code)) (Q E : Value → Shared → Prop), dp + nd < recursionLimit → un + nu < cLine →
    (∀ v (s' : Shared) ps', s'.os = s.os → AllBare s'.gens → ExtP P s.heap s'.heap → s'.heap.get? P = some (tabObj ps') → TriplesOk ps'.toList → Post v s'.heap → Q v s') →
    wpAny (model prog w) { handled := none, depth := dp, frames := fr, guards := gd, units := un } (call (.ref f) args) Q E s

structure GrP (K : Frag) (p : Program) (mg mb : Str → Option Value) (bm : Addr) (ob : Obj) (h : Heap) : Prop where
  x : K.In h
  t : TopRead p [] mg mb h
  b : BMod h mainGlobals mg bm ob
theorem GrP.gr {K : Frag} {p : Program} {mg mb : Str → Option Value} {bm : Addr} {ob : Obj} {h : Heap} (G : GrP K p mg mb bm ob h) : Gr K p mg mb h := ⟨G.x, G.t⟩
theorem GrP.keeps {K : Frag} {p : Program} {mg mb : Str → Option Value} {bm : Addr} {ob : Obj} {h h' : Heap} (G : GrP K p mg mb bm ob h) (k : Ext h h') : GrP K p mg mb bm ob h' := ⟨G.x.keeps k, G.t.keeps k, G.b.keeps k⟩
theorem GrP.extP {K : Frag} {p : Program} {mg mb : Str → Option Value} {bm : Addr} {ob : Obj} {h h' : Heap} {P : Addr} {ps : Array Value} (G : GrP K p mg mb bm ob h) (hK : K.lookup P = none) (hP : h.get? P = some (tabObj ps)) (k : ExtP P h h') : GrP K p mg mb bm ob h' := by
  have ns : ∀ {a m}, h.Ns a m → a ≠ P := fun {a m} hn q => by
    obtain ⟨o, es, ep, ho, hd, _⟩ := hn
    rw [q, hP] at ho; cases ho; cases hd
  have hlim : cStatics ≠ P := by obtain ⟨mc, hns, _⟩ := G.t.nolimit; exact ns hns
  have hbm : bm ≠ P := fun q => by
    have h1 := G.b.obj; rw [q, hP] at h1; cases h1; have h2 := G.b.data; cases h2
  refine ⟨fun a o e => k a o (fun q => by rw [q, hK] at e; cases e) (G.x a o e), ⟨G.t.g.extBut k (ns G.t.g), G.t.b.extBut k (ns G.t.b), G.t.nolimit.extBut k hlim, G.t.builtins, G.t.free⟩,
    ⟨G.b.ns.extBut k (ns G.b.ns), G.b.name, G.b.ne, k _ _ hbm G.b.obj, G.b.cls, G.b.dict, G.b.data⟩⟩

theorem enterP {prog : Program} {w : World} {K : Frag} {P f : Addr} {args : List Value} {nd nu : Nat} {s : Shared} {Post : Value → Heap → Prop} {ps : Array Value}
    {name qual : Str} {params : Arguments} {body : List Stmt} {scope : Scope} {dV kV doc pm cdv ct oc : Value} {an od : Option Addr} {osl : Array (Option Value)} {binds : List (Str × Value)}
    (X : K.In s.heap) (hlim : s.heap.NoLimit) (hP : s.heap.get? P = some (tabObj ps))
    (ho : K.lookup f = some ⟨oc, od, .func (fnOf name qual params body scope dV kV doc pm an cdv ct), osl⟩) (hcd : codeIn K cdv qual = true)
    (hbind : BindsTo s (fnOf name qual params body scope dV kV doc pm an cdv ct) ⟨args, []⟩ binds) (hloc : ∀ y ∈ binds, scope.names.lookup y.1 = some .local)
    (h : ∀ (dp un : Nat) (fr : Option (List Env)) (gd : Option (List Code)) (h₁ : Heap) (L : Addr) (tk : Nat), dp + nd ≤ recursionLimit → un + nu < cLine + 4 →
      Fr (s.heap.hide P) L h₁ (fun x => binds.reverse.lookup x) → News (s.heap.hide P) L h₁ [(P, tabObj ps)] →
      wpAny (model prog w) { handled := none, depth := dp, frames := fr, guards := gd, units := un } (execs body (envOf qual scope L f cdv))
        (fun fl s' => ∃ ps', s'.os = s.os ∧ AllBare s'.gens ∧ Ext (s.heap.hide P) s'.heap ∧ s'.heap.get? P = some (tabObj ps') ∧ TriplesOk ps'.toList ∧ Post (match fl with | .ret v => v | _ => .none) s'.heap) (fun _ _ => False)
        { s with heap := h₁, toks := tk })
    (hco : scope.isCoroutine = false := by rfl) (hgen : scope.isGenerator = false := by rfl) (hk : scope.kind = .function := by rfl)
    (hcell : ∀ x ∈ scope.names, x.2 ≠ .cell := by decide) : CallP prog w P f args nd nu s Post := by
  intro dp un fr gd Q E hd hu hQ
  refine wpAny_call ?_
  have hdp : dp < recursionLimit := Nat.lt_of_le_of_lt (Nat.le_add_right _ _) hd
  refine codeAny_call_def (fd := fnOf name qual params body scope dV kV doc pm an cdv ct) (body := body) (binds := binds) hdp (X _ _ ho) rfl hlim (codeRec_of X hcd) rfl hbind hcell hloc (fun h₁ hns hk₁ => ?_) hco hgen hk
  refine wpAny_mono (h (dp + 1) (un + 3) _ _ h₁ s.heap.objs.size _ (by omega) (by omega) ⟨hns, fun b o e => hk₁ b o (Heap.of_hide e), by rw [Heap.hide_size]; exact Nat.le_refl _⟩
    (fun p hp => by rw [List.mem_singleton.mp hp]; exact ⟨hk₁ _ _ hP, Nat.ne_of_lt (Heap.lt_size hP), Heap.hide_self _ _⟩)) (fun fl s' hl => ?_) fun _ _ y => y.elim
  obtain ⟨ps', ho', hg', he, hP', ht', hp⟩ := hl
  exact hQ _ _ _ ho' hg' (fun b o hb e => he b o ((Heap.hide_ne _ hb).trans e)) hP' ht' hp

section
variable {M : Model} {A : Around} {E : Value → Shared → Prop} {s : Shared} {K : Frag} {h₀ : Heap} {C : Addr} {m mg mb : Str → Option Value} {sc : Scope} {cl : List (Str × Addr)} {env : Env} {p : Program} {loose : List Str} {code : Value}
  {x : Str} {pos : Pos} {v : Value} {Q : Value → Shared → Prop} {c : Addr}
theorem gname_L (F : Fr h₀ C s.heap m) (hv : m x = some v) (h : Q v s)
    (hk : (genEnv sc cl C code builtinsNs env).scope.kind = .function := by rfl) (hx : (genEnv sc cl C code builtinsNs env).kindOf x = some .local := by rfl) (hd : (x == ("__debug__" : Str)) = false := by decide) :
    wpAny M A (eval (.Name x pos) (genEnv sc cl C code builtinsNs env)) Q E s := wpAny_Name (wpAny_loadName_local hk hx F.ns hv h) hd
theorem gname_K (F : Fr h₀ C s.heap m) (X : K.In h₀) (T : TopRead p loose mg mb h₀) (e : nsIn K mainGlobals x = some (some v)) (h : Q v s) (hg : env.globals = mainGlobals := by rfl)
    (hk : (genEnv sc cl C code builtinsNs env).scope.kind = .function := by rfl) (hx : (genEnv sc cl C code builtinsNs env).kindOf x = some .globalImplicit := by rfl) (hd : (x == ("__debug__" : Str)) = false := by decide) :
    wpAny M A (eval (.Name x pos) (genEnv sc cl C code builtinsNs env)) Q E s :=
  Name_function_global hk hx (loadGlobal_global (env := genEnv sc cl C code builtinsNs env) (by rw [show (genEnv sc cl C code builtinsNs env).globals = mainGlobals from hg]; exact T.g.keeps F.keep) (mg_of X T.g e) h) hd
theorem gname_B (F : Fr h₀ C s.heap m) (X : K.In h₀) (T : TopRead p loose mg mb h₀) (e : nsIn K mainGlobals x = some none) (hv : bootBuiltins x = some v) (hn : x ≠ "__name__") (h : Q v s) (hg : env.globals = mainGlobals := by rfl)
    (hk : (genEnv sc cl C code builtinsNs env).scope.kind = .function := by rfl) (hx : (genEnv sc cl C code builtinsNs env).kindOf x = some .globalImplicit := by rfl) (hd : (x == ("__debug__" : Str)) = false := by decide) :
    wpAny M A (eval (.Name x pos) (genEnv sc cl C code builtinsNs env)) Q E s :=
  Name_function_global hk hx (loadGlobal_builtin (env := genEnv sc cl C code builtinsNs env) (by rw [show (genEnv sc cl C code builtinsNs env).globals = mainGlobals from hg]; exact T.g.keeps F.keep) (mg_none_of X T.g e)
    (T.b.keeps F.keep) ((T.builtins x hn).trans hv) h) hd
end
section
variable {prog : Program} {w : World} {A : Around} {E : Value → Shared → Prop} {s : Shared} {h₀ : Heap} {L Kb a : Addr} {m : Str → Option Value} {cs : List Nat} {q : Nat → Bool} {Q : Value → Shared → Prop}
theorem any_idx (B : List Nat) (q : Nat → Bool) : ((List.range B.length).any fun j => (B[j]?.map q).getD false) = B.any q := by
  rw [Bool.eq_iff_iff, List.any_eq_true, List.any_eq_true]
  constructor
  · rintro ⟨j, hj, h⟩
    have hj' := List.mem_range.mp hj
    exact ⟨B[j], List.getElem_mem hj', by simpa [List.getElem?_eq_getElem hj'] using h⟩
  · rintro ⟨b, hb, h⟩
    obtain ⟨j, hj, rfl⟩ := List.getElem_of_mem hb
    exact ⟨j, List.mem_range.mpr hj, by simpa [List.getElem?_eq_getElem hj] using h⟩
theorem all_idx (B : List Nat) (q : Nat → Bool) : ((List.range B.length).all fun j => (B[j]?.map q).getD true) = B.all q := by
  rw [Bool.eq_iff_iff, List.all_eq_true, List.all_eq_true]
  constructor
  · intro h b hb
    obtain ⟨j, hj, rfl⟩ := List.getElem_of_mem hb
    simpa [List.getElem?_eq_getElem hj] using h j (List.mem_range.mpr hj)
  · intro h j hj
    have hj' := List.mem_range.mp hj
    simp [List.getElem?_eq_getElem hj', h _ (List.getElem_mem hj')]
theorem any_codes (F : Fr h₀ L s.heap m) (G : AllBare s.gens) (X : Gen prog w A Kb a cs.length (fun j r => ∃ ch, cs[j]? = some ch ∧ r = .bool (q ch)) s) (hLK : L ≤ Kb)
    (hQ : ∀ s', Fr h₀ L s'.heap m → AllBare s'.gens → s'.os = s.os → (∀ b o, b ≤ Kb → s.heap.get? b = some o → s'.heap.get? b = some o) → Q (.bool (cs.any q)) s') : wpAny (model prog w) A (call (.builtin "any") [.ref a]) Q E s := by
  refine any_rowsK F G X hLK (fun j => (cs[j]?.map q).getD false) (fun j v s Q E hv hQ => ?_) fun s' F' G' hos hk => ?_
  · obtain ⟨b, hb, rfl⟩ := hv
    simp only [hb, Option.map_some, Option.getD_some] at hQ
    exact wpAny_truthy_bool hQ
  · rw [any_idx]; exact hQ s' F' G' hos hk
theorem all_codes (F : Fr h₀ L s.heap m) (G : AllBare s.gens) (X : Gen prog w A Kb a cs.length (fun j r => ∃ ch, cs[j]? = some ch ∧ r = .bool (q ch)) s) (hLK : L ≤ Kb)
    (hQ : ∀ s', Fr h₀ L s'.heap m → AllBare s'.gens → s'.os = s.os → (∀ b o, b ≤ Kb → s.heap.get? b = some o → s'.heap.get? b = some o) → Q (.bool (cs.all q)) s') : wpAny (model prog w) A (call (.builtin "all") [.ref a]) Q E s := by
  refine all_rowsK F G X hLK (fun j => (cs[j]?.map q).getD true) (fun j v s Q E hv hQ => ?_) fun s' F' G' hos hk => ?_
  · obtain ⟨b, hb, rfl⟩ := hv
    simp only [hb, Option.map_some, Option.getD_some] at hQ
    exact wpAny_truthy_bool hQ
  · rw [all_idx]; exact hQ s' F' G' hos hk
end
/- part o_txt -/
def clean (c : Nat) : Prop := 33 ≤ c ∧ c ≤ 126 ∧ ¬ (65 ≤ c ∧ c ≤ 90)
theorem ch_clean : ∀ d, d < 32 → clean (ch d) ∧ ch d ≠ 49 := by
  have h : ∀ d, d < 32 → (33 ≤ ch d ∧ ch d ≤ 126 ∧ ¬ (65 ≤ ch d ∧ ch d ≤ 90)) ∧ ch d ≠ 49 := by decide +kernel
  exact h
theorem lower_Tx {z : List Nat} (h : ∀ c ∈ z, c < 128) : Txt.lower (Tx z) = Tx (z.map lo1) := by
  rw [lower_ascii (by rw [Tx_toList]; exact h)]
  simp [Tx]
theorem upper_Tx {z : List Nat} (h : ∀ c ∈ z, c < 128) : Txt.upper (Tx z) = Tx (z.map up1) := by
  rw [upper_ascii (by rw [Tx_toList]; exact h)]
  simp [Tx]
theorem map_same {f : Nat → Nat} : ∀ {z : List Nat}, (∀ c ∈ z, f c = c) → z.map f = z := fun h => (List.map_congr_left h).trans (List.map_id' _)
theorem lo_clean {c : Nat} (h : clean c) : lo1 c = c := by unfold clean at h; unfold lo1; rw [if_neg h.2.2]
theorem lo_up {c : Nat} (h : clean c) : lo1 (up1 c) = c := by
  unfold clean at h; unfold lo1 up1
  split <;> split <;> omega
theorem up_up (c : Nat) : up1 (up1 c) = up1 c := by
  unfold up1
  by_cases h : 97 ≤ c ∧ c ≤ 122
  · rw [if_pos h, if_neg (by omega)]
  · rw [if_neg h, if_neg h]
theorem up_lt {c : Nat} (h : clean c) : 33 ≤ up1 c ∧ up1 c ≤ 126 := by
  unfold clean at h; unfold up1; split <;> omega
/-- the text as decode may meet it: in small letters, or in capitals -/
def Meets1 (z : List Nat) (x : Str) : Prop := x = Tx z ∨ x = Tx (z.map up1)
theorem meets_lower {z : List Nat} {x : Str} (hz : ∀ c ∈ z, clean c) (h : Meets1 z x) : Txt.lower x = Tx z := by
  rcases h with rfl | rfl
  · rw [lower_Tx fun c hc => by have := hz c hc; unfold clean at this; omega, map_same fun c hc => lo_clean (hz c hc)]
  · rw [lower_Tx fun c hc => by
      obtain ⟨b, hb, rfl⟩ := List.mem_map.mp hc
      have := up_lt (hz b hb); omega, List.map_map, map_same (f := lo1 ∘ up1) fun c hc => lo_up (hz c hc)]
theorem meets_upper {z : List Nat} {x : Str} (hz : ∀ c ∈ z, clean c) (h : Meets1 z x) (hn : Txt.lower x ≠ x) : Txt.upper x = x := by
  rcases h with rfl | rfl
  · exact absurd (meets_lower hz (.inl rfl)) hn
  · rw [upper_Tx fun c hc => by
      obtain ⟨b, hb, rfl⟩ := List.mem_map.mp hc
      have := up_lt (hz b hb); omega, List.map_map]
    exact congrArg Tx (List.map_congr_left fun c _ => up_up c)
theorem meets_codes {z : List Nat} {x : Str} (hz : ∀ c ∈ z, clean c) (h : Meets1 z x) : x.cps.toList.any (fun c => decide (c < 33) || decide (c > 126)) = false ∧ x.cps.size = z.length := by
  rcases h with rfl | rfl
  · rw [Tx_toList, Tx_size]
    refine ⟨List.any_eq_false.mpr fun c hc => ?_, rfl⟩
    have := hz c hc; unfold clean at this; simp; omega
  · rw [Tx_toList, Tx_size, List.length_map]
    refine ⟨List.any_eq_false.mpr fun c hc => ?_, rfl⟩
    obtain ⟨b, hb, rfl⟩ := List.mem_map.mp hc
    have := up_lt (hz b hb); simp; omega
theorem rfind_one {h v : List Nat} (hv : ∀ c ∈ v, c ≠ 49) : Txt.rfind (Tx (h ++ [49] ++ v)) (Str.ofString "1") = (h.length : Int) := by
  have e1 : Str.ofString "1" = ⟨#[49]⟩ := by decide +kernel
  rw [e1]
  have key : ∀ i, StrLaws.At (Tx (h ++ [49] ++ v)) ⟨#[49]⟩ (Tx (h ++ [49] ++ v)).length i ↔ (h ++ [49] ++ v)[i]? = some 49 := fun i => by
    rw [← Tx_toList (h ++ [49] ++ v), Tx_of]
    exact StrLaws.subAt_one _ _ _
  have at0 : (h ++ [49] ++ v)[h.length]? = some 49 := by simp
  have above : ∀ i, h.length < i → (h ++ [49] ++ v)[i]? ≠ some 49 := fun i hi e => by
    rw [List.getElem?_append_right (by simp; omega)] at e
    exact hv _ (List.mem_of_getElem? e) rfl
  unfold Txt.rfind
  rcases StrLaws.last_spec (Tx (h ++ [49] ++ v)) ⟨#[49]⟩ with ⟨_, hn⟩ | ⟨i, e, ha, hb⟩
  · exact absurd ((key _).mpr at0) (hn _)
  · rw [e]
    have h1 := (key i).mp ha
    have h2 : ¬ h.length < i := fun q => above i q h1
    have h3 : ¬ i < h.length := fun q => hb _ q ((key _).mpr at0)
    have : i = h.length := by omega
    rw [this]
theorem in_chs (c : Nat) : (!(Builtin.Str.occurrences (Tx chs) ⟨#[c]⟩ 0 (Tx chs).length 1).isEmpty) = decide (c ∈ chs) := by
  rw [StrLaws.found_one, Tx_toList]
theorem ch_mem {d : Nat} (h : d < 32) : ch d ∈ chs := List.mem_of_getElem? (ch_at h)
theorem find_ch : ∀ d, d < 32 → Txt.find (Tx chs) ⟨#[ch d]⟩ = (d : Int) := by decide +kernel
theorem slice_from (z : List Nat) {i : Int} (h0 : 0 ≤ i) (h1 : i ≤ z.length) : Txt.slice (Tx z) (some i) none = Tx (z.drop i.toNat) := by
  have e : Txt.slice (Tx z) (some i) none = StrLaws.sliceText (Tx z) (some i) none := rfl
  rw [e, StrLaws.sliceText_from ⟨h0, by rw [Tx_toList]; exact h1⟩, Tx_toList, List.take_of_length_le (by rw [List.length_drop]; omega)]
  rfl
theorem slice_to (z : List Nat) {j : Int} (h0 : 0 ≤ j) (h1 : j ≤ z.length) : Txt.slice (Tx z) none (some j) = Tx (z.take j.toNat) := by
  have e : Txt.slice (Tx z) none (some j) = StrLaws.sliceText (Tx z) none (some j) := rfl
  rw [e, StrLaws.sliceText_to ⟨h0, by rw [Tx_toList]; exact h1⟩, Tx_toList, List.drop_zero, Int.sub_zero]
  rfl
/- part p_decode -/
local macro_rules | `(tactic| walk_at "eval Name") => `(tactic| ((with_reducible show wpAny _ _ (eval (Expr.Name _ _) (genEnv _ _ _ _ builtinsNs _)) _ _ _); k_dflt (first
  | (refine' gname_L ?F ?v ?_ ?e1 ?e2 ?e3; (case F => k_asm); (case v => first | assumption | rfl); (case e1 => rfl); (case e2 => rfl); (case e3 => decide); k_whole)
  | (refine' gname_K ?F ?X ?T ?e ?_ ?e0 ?e1 ?e2 ?e3; (case F => k_asm); (case X => k_asm); (case T => k_asm); (case e => k_is); (case e0 => rfl); (case e1 => rfl); (case e2 => rfl); (case e3 => decide); k_whole)
  | (refine' gname_B ?F ?X ?T ?e ?v ?n ?_ ?e0 ?e1 ?e2 ?e3; (case F => k_asm); (case X => k_asm); (case T => k_asm); (case e => k_is); (case v => boot_by_name); (case n => decide); (case e0 => rfl); (case e1 => rfl); (case e2 => rfl); (case e3 => decide); k_whole))))
def isL (d : Nat) (v : Value) : Prop := d < 32 ∧ isC (ch d) v
theorem isL_fun (a a' : Nat) (v : Value) (h : isL a v) (h' : isL a' v) : a = a' := by
  have e := isC_fun _ _ v h.2 h'.2
  have f := find_ch a h.1
  rw [e, find_ch a' h'.1] at f
  exact (Int.ofNat.inj f).symm
theorem out_of_hide {h h' : Heap} {P D L : Addr} {ps : Array Value} {o : Obj} {news : List (Addr × Obj)} (N : News (h.hide P) L h' news) (hD : (D, o) ∈ news) (hP : (P, tabObj ps) ∈ news) (hne : o ≠ tabObj ps) : h.get? D = none := by
  have e := (N _ hD).2.2
  rw [Heap.hide_ne] at e
  · exact e
  · intro q
    have e1 := (N _ hD).1
    have e2 := (N _ hP).1
    dsimp only at e1 e2
    have q2 : D = P := q
    rw [q2, e2] at e1
    exact hne (Option.some.inj e1).symm
def DecPost (s : Shared) (h vals : List Nat) (v : Value) (h' : Heap) : Prop :=
  ∃ D a b n, v = .ref D ∧ s.heap.get? D = none ∧ h'.get? D = some { cls := .type "tuple", data := .seq #[a, b] n } ∧
    (if poly (hrpExp h ++ vals) = 1 then ∃ t l vs, a = .str (Tx h) t ∧ b = .ref l ∧ s.heap.get? l = none ∧ h'.PlainList l (List.toArray vs) ∧ IntsAre vs ((vals.take (vals.length - 6)).map Int.ofNat) else a = .none ∧ b = .none)
set_option maxHeartbeats 8000000 in
theorem decode_call (w : World) (mg mb : Str → Option Value) (bm : Addr) (ob : Obj) (s : Shared) (x : Str) (t : Tok) (h vals : List Nat) (ps : Array Value) (G : GrP (hd.heap_39 w.params) hd.view_39 mg mb bm ob s.heap)
   (hP : s.heap.get? 45 = some (tabObj ps)) (htr : TriplesOk ps.toList) (hg : AllBare s.gens) (hx : Meets1 (h ++ [49] ++ vals.map ch) x)
   (hh : ∀ c ∈ h, clean c) (hv : ∀ v ∈ vals, v < 32) (hl1 : 1 ≤ h.length) (hl2 : h.length ≤ 83) (hv1 : 6 ≤ vals.length) (hv2 : vals.length ≤ 100) :
   CallP PySem.Challenge.rw_jy0013_01.row.prog w 45 48 [.str x t] 6 60 s (DecPost s h vals) := by
  have hz : ∀ c ∈ h ++ [49] ++ vals.map ch, clean c := by
    intro c hc
    rcases List.mem_append.mp hc with hc | hc
    · rcases List.mem_append.mp hc with hc | hc
      · exact hh c hc
      · rw [List.mem_singleton.mp hc]; unfold clean; omega
    · obtain ⟨v, hv', rfl⟩ := List.mem_map.mp hc
      exact (ch_clean v (hv v hv')).1
  have hzl : (h ++ [49] ++ vals.map ch).length = h.length + 1 + vals.length := by simp; omega
  have hxl := (meets_codes hz hx).2
  have hG0 : GrP (hd.heap_39 w.params) hd.view_39 mg mb bm ob (s.heap.hide 45) := G.extP (by k_fill; exact rfl) hP (fun b o hb e => (Heap.hide_ne _ hb).trans e)
  revert G; k_fill; intro G
  refine enterP (K := hd.heap_39 w.params) (binds := [("bech", .str x t)]) G.x G.t.nolimit hP (by k_is) (by k_is) (BindsTo.of_eq rfl) (locs rfl) ?_
  have C0 : CodeHd (s.heap.hide 45) 47 45 := codeHd_of_K hG0.x (by kernel_rfl)
  obtain ⟨X, T0, M0⟩ := hG0
  generalize hh0 : s.heap.hide 45 = h₀ at *
  intro dp un fr gd h₁ L tk hd hu F N
  walk_at "ws"
  refine genexp_str (L := L) (q := fun c => decide (c < 33) || decide (c > 126)) C0 M0 T0.nolimit rfl rfl rfl (by with_unfolding_all rfl) (by decide) (by rfl) (by rfl) rfl (by dsimp only; omega) ?_ (by intro _; with_unfolding_all rfl)
  walk_at "ws"
  refine ⟨_, x, t, ps, [], rfl, F, N, (fun _ hp => nomatch hp), htr, hg, ?_, ?_⟩
  · rintro C code A' E' c v u m₂ hA' hD hU hc ⟨tc, rfl⟩ FC hm
    obtain ⟨hd', dp', fr', gd', un'⟩ := A'
    dsimp only at hA' hD hU
    subst hA'
    clear F N hx
    have N : News h₀ C u.heap [] := News.nil
    walk_at "ws"
    all_goals (refine ⟨congrArg Value.bool ?_, _, _, rfl, fun _ _ e => e⟩; rw [Bool.eq_iff_iff]; simp; omega)
  · intro a s₅ ps5 F5 N5 htr5 hg5 hos5 hP5 X5 _ hP6 hL6
    walk_at "ws"
    rw [← Array.length_toList] at X5
    refine any_codes F5 hg5 X5 hL6 ?_
    intro s₆ F6 hg6 hos6 hk6
    rw [(meets_codes hz hx).1]
    have N6 : News h₀ L s₆.heap [(45, tabObj ps5)] := fun p hp => by
      rw [List.mem_singleton.mp hp]; exact ⟨hk6 45 _ hP6 (N5 _ (.head _)).1, (N5 _ (.head _)).2⟩
    have hos : s₆.os = s.os := hos6.trans hos5
    clear F5 N5 X5 hk6 hos5 hos6 hg5 F N hP5 hP6 hL6 htr hP
    walk_at "ws"
    have hlow := meets_lower hz hx
    have hfit : Builtin.Str.tooLong (Txt.lower x).length = false := by
      rw [hlow, Tx_len, hzl]; unfold Builtin.Str.tooLong; rw [sizeLine_eq]; simp; omega
    refine wpAny_mono (Q := fun c s' => c = false ∧ ∃ tk, s' = { s₆ with toks := tk }) ?_ ?_ (fun _ _ e => e)
    · walk1
      walk_at "ws"
      refine SC.lower hfit ?_
      rw [hlow]
      walk_at "ws"
      · have hne : Tx (h ++ [49] ++ vals.map ch) ≠ x := by (with_reducible rename ((_ != _) = true) => hq); simpa using hq
        have hup := meets_upper hz hx (by rw [hlow]; exact hne)
        walk1
        walk_at "ws"
        refine SC.upper (by rw [hup]; show Builtin.Str.tooLong x.cps.size = _; rw [hxl, hzl]; unfold Builtin.Str.tooLong; rw [sizeLine_eq]; simp; omega) ?_
        rw [hup]
        walk_at "ws"
        all_goals first
          | (exfalso; (with_reducible rename ((x != x) = true) => hq2); simp at hq2; done)
          | exact ⟨rfl, _, rfl⟩
      · exact ⟨rfl, _, rfl⟩
    · rintro c s₇ ⟨rfl, tk7, rfl⟩
      walk_at "ws"
      refine SC.lower hfit ?_
      rw [hlow]
      clear hfit hx
      walk_at "ws"
      refine SC.rfind ?_
      rw [rfind_one (v := vals.map ch) (fun c hc => by obtain ⟨v, hv', rfl⟩ := List.mem_map.mp hc; exact (ch_clean v (hv v hv')).2)]
      walk_at "ws"
      refine PyProof.Rows.len_str (by rw [Tx_len, hzl]; omega) ?_
      rw [Tx_len, hzl]
      walk_at "ws"
      refine genexp_str (L := L) (q := fun c => decide (c ∈ chs)) C0 M0 T0.nolimit rfl rfl rfl (by with_unfolding_all rfl) (by decide) (by rfl) (by rfl) rfl (by dsimp only; omega) ?_ (by intro _; with_unfolding_all rfl)
      walk_at "ws"
      (with_reducible rename Fr _ _ _ _ => F7)
      (with_reducible rename News _ _ _ _ => N7)
      refine slice_strN_sn (hsz := by rw [Tx_len, hzl, sizeLine_eq]; omega) (s := ⟨_, _, _, _, _⟩) F7 N7 ?_
      intro h8 t8 k8 F8 N8
      have hsl : Txt.slice (Tx (h ++ [49] ++ vals.map ch)) (some ((h.length : Int) + 1)) none = Tx (vals.map ch) := by
        rw [slice_from _ (by omega) (by rw [hzl]; omega), show ((h.length : Int) + 1).toNat = (h ++ [49]).length from by simp, List.drop_left]
      rw [hsl]
      clear F7 N7
      dsimp only
      refine ⟨_, Tx (vals.map ch), t8, ps5, [], rfl, F8, N8, (fun _ hp => nomatch hp), htr5, hg6, ?_, ?_⟩
      · rintro C code A' E' c v u m₂ hA' hD hU hc ⟨tc, rfl⟩ FC hm
        obtain ⟨hd', dp', fr', gd', un'⟩ := A'
        dsimp only at hA' hD hU
        subst hA'
        clear F8 N8
        have N : News h₀ C u.heap [] := News.nil
        walk_at "ws"
        rw [charset_Tx]
        refine PyProof.Rows.in_str ?_
        rw [in_chs]
        exact ⟨rfl, _, _, rfl, fun _ _ e => e⟩
      · intro a s₉ ps9 F9 N9 htr9 hg9 hos9 hP9 X9 _ hP10 hL10
        walk_at "ws"
        rw [← Array.length_toList] at X9
        refine all_codes F9 hg9 X9 hL10 ?_
        intro s₁ F1 hg1 hos1 hk1
        have hall : (Tx (vals.map ch)).cps.toList.all (fun c => decide (c ∈ chs)) = true := by
          rw [Tx_toList, List.all_eq_true]
          intro c hc
          obtain ⟨v, hv', rfl⟩ := List.mem_map.mp hc
          exact decide_eq_true (ch_mem (hv v hv'))
        rw [hall]
        have N1 : News h₀ L s₁.heap [(45, tabObj ps9)] := fun p hp => by
          rw [List.mem_singleton.mp hp]; exact ⟨hk1 45 _ hP10 (N9 _ (.head _)).1, (N9 _ (.head _)).2⟩
        have hos : s₁.os = s.os := hos1.trans (hos9.trans hos)
        clear F9 N9 X9 hk1 hos1 hos9 hg9 hP10 hL10 htr5 hg6 hP9 F8 N8
        walk_at "ws"
        refine slice_strN_ns (hsz := by rw [Tx_len, hzl, sizeLine_eq]; omega) (s := ⟨_, _, _, _, _⟩) F1 N1 ?_
        intro h8' t8' k8' F3 N3
        have hsl2 : Txt.slice (Tx (h ++ [49] ++ vals.map ch)) none (some (h.length : Int)) = Tx h := by
          rw [slice_to _ (by omega) (by rw [hzl]; omega), Int.toNat_natCast, List.append_assoc, List.take_left']
          rfl
        rw [hsl2]
        clear F1 N1
        walk_at "ws"
        (with_reducible rename Fr _ _ _ _ => F4)
        (with_reducible rename News _ _ _ _ => N4)
        refine asg_map h₀ (is := isL) (out := isN) (g := id) isL_fun rfl (by with_unfolding_all rfl) (by with_unfolding_all rfl) (by decide) (by rfl) (by decide) (by rfl) (by rfl) (by rfl) ?_ (by intro _; with_unfolding_all rfl)
        walk_at "ws"
        refine slice_strN_sn (hsz := by rw [Tx_len, hzl, sizeLine_eq]; omega) (s := ⟨_, _, _, _, _⟩) F4 N4 ?_
        intro h9' t9' k9' F5 N5
        rw [hsl]
        clear F4 N4
        dsimp only
        refine ⟨vals, _, _, _, by rw [show vals.length = (Tx (vals.map ch)).cps.size from by rw [Tx_size, List.length_map]]; exact Src.str, by rw [sizeLine_eq]; omega, fun i v hiv => ?_, F5, N5, ?_, ?_⟩
        · obtain ⟨c, hc, hcv⟩ := signs_at i v hiv
          rw [Tx_toList, List.getElem?_map] at hc
          obtain ⟨d, hd1, rfl⟩ := Option.map_eq_some_iff.mp hc
          exact ⟨d, hd1, hv d (List.mem_of_getElem? hd1), hcv⟩
        · rintro C d v s₃ m₃ E' hd1 ⟨hd32, td, rfl⟩ FC hm
          have X1 := X.keeps F5.keep
          have T1 := T0.keeps F5.keep
          clear F5 X T0 N5
          have N : News _ C s₃.heap [] := News.nil (h₀ := s₃.heap)
          walk_at "ws"
          rw [charset_Tx]
          refine SC.find ?_
          rw [find_ch d hd32]
          show isN _ _ ∧ Keeps _ _
          exact ⟨⟨_, rfl⟩, _, _, rfl, fun _ _ e => e⟩
        · intro D2 h7 tk7' ys k7 F6 N6 hne hpa
          clear F5 N5
          walk_at "ws"
          (with_reducible rename Fr _ _ _ _ => F6)
          (with_reducible rename News _ _ _ _ => N6)
          rw [List.map_id] at hpa
          have hyl : ys.length = vals.length := hpa.length.symm
          have hyi : IntsAre ys (vals.map Int.ofNat) := ints_of_isN hpa
          refine ⟨X.keeps F6.keep, verify_call w mg mb _ (Tx h) _ D2 ys vals ⟨X.keeps F6.keep, T0.keeps F6.keep⟩ (News.isList N6 (by k_mem)) hyi (by rw [Tx_size]; omega) (by omega) dp un fr gd _ _ (by omega) (by omega) ?_⟩
          rintro v h2 tk2 hE2 rfl
          dsimp only at hE2 ⊢
          have F8 := F6.keeps hE2
          have N8 := N6.grown hE2
          clear F6 N6
          rw [Tx_toList]
          walk_at "ws"
          · (with_reducible rename poly _ = 1 => hpoly)
            refine slice_list F8 N8 (News.isList N8 (by k_mem)) .none (.int _ _) ?_ (by with_unfolding_all rfl) (by intro _; with_unfolding_all rfl) (by rw [List.size_toArray, hyl, sizeLine_eq]; omega)
            intro h10 F10 N10
            have hs6 : slicePick ys.toArray none (some (-6)) none = (ys.take (vals.length - 6)).toArray := by
              have q := slicePick_butLast ys.toArray 6 (by omega)
              rw [List.size_toArray, hyl] at q
              exact q
            rw [hs6] at N10
            clear F8 N8
            walk_at "ws"
            (with_reducible rename Fr _ _ _ _ => FZ)
            (with_reducible rename News _ _ _ _ => NZ)
            rw [← hh0] at NZ
            have hP45 := (NZ (45, tabObj ps9) (.tail _ (.tail _ (.tail _ (.head _))))).1
            refine ⟨ps9, hos, hg1, FZ.keep, hP45, htr9, _, _, _, _, rfl, out_of_hide NZ (.head _) (.tail _ (.tail _ (.tail _ (.head _)))) (fun q => nomatch congrArg Obj.cls q), (NZ _ (.head _)).1, ?_⟩
            rw [if_pos hpoly]
            refine ⟨_, _, _, rfl, rfl, out_of_hide NZ (.tail _ (.head _)) (.tail _ (.tail _ (.tail _ (.head _)))) (fun q => nomatch congrArg Obj.cls q), ⟨_, (NZ _ (.tail _ (.head _))).1⟩, ?_⟩
            rw [List.map_take]
            exact hyi.take _
          · (with_reducible rename ¬ (poly _ = 1) => hpoly)
            (with_reducible rename Fr _ _ _ _ => FZ)
            (with_reducible rename News _ _ _ _ => NZ)
            rw [← hh0] at NZ
            have hP45 := (NZ (45, tabObj ps9) (.tail _ (.tail _ (.head _)))).1
            refine ⟨ps9, hos, hg1, FZ.keep, hP45, htr9, _, _, _, _, rfl, out_of_hide NZ (.head _) (.tail _ (.tail _ (.head _))) (fun q => nomatch congrArg Obj.cls q), (NZ _ (.head _)).1, ?_⟩
            rw [if_neg hpoly]
            exact ⟨rfl, rfl⟩
/- part q1_plain -/
theorem xlc (a b c : Nat) : a ^^^ (b ^^^ c) = b ^^^ (a ^^^ c) := by rw [← Nat.xor_assoc, Nat.xor_comm a b, Nat.xor_assoc]
theorem xsc (a b : Nat) : a ^^^ (a ^^^ b) = b := by rw [← Nat.xor_assoc, Nat.xor_self, Nat.zero_xor]
theorem gsum_xor (a b : Nat) : ∀ i, gsum (a ^^^ b) i = gsum a i ^^^ gsum b i
  | 0 => by simp [gsum]
  | i + 1 => by
    have h := gsum_xor a b i
    simp only [gsum, h, Nat.testBit_xor]
    cases a.testBit i <;> cases b.testBit i <;> simp [Nat.xor_assoc, Nat.xor_comm, xlc, xsc]
theorem polyStep_xor (a b u v : Nat) : polyStep (a ^^^ b) (u ^^^ v) = polyStep a u ^^^ polyStep b v := by
  unfold polyStep
  rw [Nat.shiftRight_xor_distrib, gsum_xor, Nat.and_xor_distrib_right, Nat.shiftLeft_xor_distrib]
  simp only [Nat.xor_assoc, Nat.xor_comm, xlc]
def T (c : Nat) : Nat := polyStep c 0
theorem polyStep_T (c v : Nat) : polyStep c v = T c ^^^ v := by
  unfold T polyStep
  simp only [Nat.xor_assoc, Nat.xor_comm, xlc, Nat.zero_xor]
theorem T_xor (a b : Nat) : T (a ^^^ b) = T a ^^^ T b := by
  have h := polyStep_xor a b 0 0
  rwa [Nat.xor_zero] at h
theorem T_small {x : Nat} (h : x < 2 ^ 25) : T x = x <<< 5 := by
  unfold T polyStep
  rw [Nat.shiftRight_eq_div_pow, Nat.div_eq_of_lt h, show (33554431 : Nat) = 2 ^ 25 - 1 from rfl, Nat.and_two_pow_sub_one_eq_mod, Nat.mod_eq_of_lt h]
  simp [gsum]
def Tn : Nat → Nat → Nat
  | 0, c => c
  | n + 1, c => Tn n (T c)
theorem Tn_xor : ∀ n a b, Tn n (a ^^^ b) = Tn n a ^^^ Tn n b
  | 0, _, _ => rfl
  | n + 1, a, b => by rw [Tn, T_xor, Tn_xor n, Tn, Tn]
def num (x : Nat) (ds : List Nat) : Nat := ds.foldl (fun x d => x <<< 5 ^^^ d) x
theorem fold_digits : ∀ (ds : List Nat) (k c x : Nat), x < 2 ^ (5 * k) → k + ds.length ≤ 6 → (∀ d ∈ ds, d < 32) → ds.foldl polyStep (c ^^^ x) = Tn ds.length c ^^^ num x ds
  | [], _, _, _, _, _, _ => rfl
  | d :: ds, k, c, x, hx, hk, hd => by
    rw [List.length_cons] at hk
    have h25 : x < 2 ^ 25 := Nat.lt_of_lt_of_le hx (Nat.pow_le_pow_right (by decide) (by omega))
    have e : polyStep (c ^^^ x) d = T c ^^^ (x <<< 5 ^^^ d) := by rw [polyStep_T, T_xor, T_small h25, Nat.xor_assoc]
    rw [List.foldl_cons, e, fold_digits ds (k + 1) (T c) (x <<< 5 ^^^ d) ?_ (by omega) (fun y hy => hd y (.tail _ hy))]
    · rfl
    · have hd32 := hd d (.head _)
      refine Nat.xor_lt_two_pow ?_ (Nat.lt_of_lt_of_le hd32 (Nat.pow_le_pow_right (n := 2) (by decide) (by omega) : 2 ^ 5 ≤ 2 ^ (5 * (k + 1))))
      rw [Nat.shiftLeft_eq, Nat.mul_add, Nat.pow_add]
      exact Nat.mul_lt_mul_of_lt_of_le hx (Nat.le_refl _) (by decide)
theorem shl_xor {x d : Nat} (h : d < 32) : x <<< 5 ^^^ d = x * 32 + d := by
  have e := Nat.two_pow_add_eq_or_of_lt (i := 5) h x
  rw [show x * 32 + d = 2 ^ 5 * x + d from by omega, e]
  refine Nat.eq_of_testBit_eq fun i => ?_
  rw [Nat.testBit_xor, Nat.testBit_or, Nat.testBit_shiftLeft, Nat.testBit_two_pow_mul]
  by_cases hi : 5 ≤ i
  · have : d.testBit i = false := Nat.testBit_lt_two_pow (Nat.lt_of_lt_of_le h (Nat.pow_le_pow_right (n := 2) (by decide) hi : 2 ^ 5 ≤ 2 ^ i))
    rw [this]; simp
  · simp [hi]
theorem dig6_eq (q : Nat) : dig6 q = [q / 2 ^ 25 % 32, q / 2 ^ 20 % 32, q / 2 ^ 15 % 32, q / 2 ^ 10 % 32, q / 2 ^ 5 % 32, q % 32] := by
  have h31 : ∀ x, x &&& 31 = x % 32 := fun x => Nat.and_two_pow_sub_one_eq_mod x 5
  simp [dig6, List.range, List.range.loop, h31, Nat.shiftRight_eq_div_pow]
theorem num_dig6 {q : Nat} (h : q < 2 ^ 30) : num 0 (dig6 q) = q := by
  rw [dig6_eq]
  simp only [num, List.foldl_cons, List.foldl_nil]
  rw [shl_xor (x := 0) (Nat.mod_lt _ (by decide)), shl_xor (Nat.mod_lt _ (by decide)), shl_xor (Nat.mod_lt _ (by decide)), shl_xor (Nat.mod_lt _ (by decide)), shl_xor (Nat.mod_lt _ (by decide)), shl_xor (Nat.mod_lt _ (by decide))]
  omega
theorem gsum_lt (t : Nat) : ∀ i, gsum t i < 2 ^ 30
  | 0 => Nat.two_pow_pos 30
  | i + 1 => by
    refine Nat.xor_lt_two_pow (gsum_lt t i) ?_
    split
    · unfold gen; split <;> decide
    · decide
theorem polyStep_lt {c v : Nat} (hv : v < 32) : polyStep c v < 2 ^ 30 := by
  unfold polyStep
  refine Nat.xor_lt_two_pow (Nat.xor_lt_two_pow ?_ (Nat.lt_of_lt_of_le hv (by decide))) (gsum_lt _ _)
  rw [show (33554431 : Nat) = 2 ^ 25 - 1 from rfl, Nat.and_two_pow_sub_one_eq_mod, Nat.shiftLeft_eq]
  have := Nat.mod_lt c (show 0 < 2 ^ 25 by decide)
  omega
theorem T_lt (c : Nat) : T c < 2 ^ 30 := polyStep_lt (by decide)
theorem fold_zeros : ∀ (n c : Nat), (List.replicate n 0).foldl polyStep c = Tn n c
  | 0, _ => rfl
  | n + 1, c => by rw [List.replicate_succ, List.foldl_cons, fold_zeros n]; rfl
theorem Tn_lt : ∀ n c, Tn (n + 1) c < 2 ^ 30
  | 0, c => T_lt c
  | n + 1, c => Tn_lt n (T c)
/-- the checksum makes the whole come out at one -/
theorem poly_create (h ds : List Nat) : poly (hrpExp h ++ (ds ++ createCk h ds)) = 1 := by
  rw [← List.append_assoc]
  generalize hv : hrpExp h ++ ds = v
  have e0 : poly (v ++ [0, 0, 0, 0, 0, 0]) = Tn 6 (poly v) := by
    unfold poly; rw [List.foldl_append]; exact fold_zeros 6 _
  rw [createCk, hv, e0]
  have hlt := Tn_lt 5 (poly v)
  generalize hq : Tn 6 (poly v) = p at *
  have h1 : p ^^^ 1 < 2 ^ 30 := Nat.xor_lt_two_pow hlt (by decide)
  have e1 := fold_digits (dig6 (p ^^^ 1)) 0 (poly v) 0 (by decide) (by rw [dig6_len]; decide) (dig6_lt _)
  rw [Nat.xor_zero, dig6_len, num_dig6 h1, hq] at e1
  unfold poly at e1 ⊢
  rw [List.foldl_append, e1, ← Nat.xor_assoc, Nat.xor_self, Nat.zero_xor]
/- part q2_aux -/
theorem news_in {h₀ h h' : Heap} {L D : Addr} {m : Str → Option Value} {news : List (Addr × Obj)} {o : Obj} (F : Fr h₀ L h m) (N : News h₀ L h' news) (hD : h.get? D = none) (hD' : h'.get? D = some o) : News h₀ L h' ((D, o) :: news) := fun p hp => by
  rcases List.mem_cons.mp hp with rfl | hp
  · refine ⟨hD', fun q => ?_, ?_⟩
    · obtain ⟨oL, _, _, eL, _⟩ := F.ns
      rw [show D = L from q, eL] at hD; cases hD
    · cases e : h₀.get? D with
      | none => rfl
      | some o' => rw [F.keep _ _ e] at hD; cases hD
  · exact N p hp
theorem ne_of_cls {h₀ h : Heap} {L D P : Addr} {news : List (Addr × Obj)} {o : Obj} {ps : Array Value} (N : News h₀ L h news) (hp : (D, o) ∈ news) (hP : (P, tabObj ps) ∈ news) (hc : o.cls ≠ .none) : D ≠ P := fun q => by
  subst q
  have h1 := (N _ hp).1
  have h2 := (N _ hP).1
  dsimp only at h1 h2
  rw [h2] at h1
  exact hc (congrArg Obj.cls (Option.some.inj h1)).symm
theorem after_P {h₀ h h' : Heap} {L P : Addr} {m : Str → Option Value} {pre : List (Addr × Obj)} {ps ps' : Array Value} (F : Fr h₀ L h m) (N : News h₀ L h (pre ++ [(P, tabObj ps)])) (hne : ∀ p ∈ pre, p.1 ≠ P) (hE : ExtP P h h') (hP' : h'.get? P = some (tabObj ps')) :
    Fr h₀ L h' m ∧ News h₀ L h' (pre ++ [(P, tabObj ps')]) := by
  have hP := N (P, tabObj ps) (List.mem_append_right _ (.head _))
  refine ⟨⟨F.ns.extBut hE (fun q => hP.2.1 q.symm), fun b o e => hE b o (fun q => by rw [q, hP.2.2] at e; cases e) (F.keep b o e), F.above⟩, fun p hp => ?_⟩
  rcases List.mem_append.mp hp with hp | hp
  · exact ⟨hE _ _ (hne p hp) (N p (List.mem_append_left _ hp)).1, (N p (List.mem_append_left _ hp)).2⟩
  · rw [List.mem_singleton.mp hp]; exact ⟨hP', hP.2⟩
def pairD (x : Str) (ns : List Int) : PyData := .tuple [.str x, .list (ns.map .int)]
theorem shaped_pair (x : Str) (ns : List Int) (hx : PyData.strOk x = true) : SeqAt.shaped (pairD x ns) = true := by
  simp [hx, SeqAt.shaped, pairD, PyData.canLay0, PyData.canLayAll0, PyData.depth, PyData.depthAll, ke_canLayAll0, ke_depthAll]
theorem eqv_pair (x : Str) (ns : List Int) : PyData.eqv (pairD x ns) (pairD x ns) = true := by
  simp [pairD, PyData.eqv, PyData.eqvAll, ked_eqvAll]
theorem shaped_nones : SeqAt.shaped (.tuple [.none, .none]) = true := by decide
theorem eqv_nones : PyData.eqv (.tuple [.none, .none]) (.tuple [.none, .none]) = true := by decide
theorem reads_pair {h : Heap} {D l : Addr} {x : Str} {t : Tok} {n k : Nat} {vs : List Value} {ns : List Int} (hD : h.get? D = some { cls := .type "tuple", data := .seq #[.str x t, .ref l] n }) (hl : h.get? l = some { cls := .type "list", data := .seq (List.toArray vs) k }) (hi : IntsAre vs ns) :
    ∃ as, Reads h (.ref D) (pairD x ns) as := by
  have h1 : Reads h (.ref l) (.list (ns.map .int)) [l] := reads_newData ⟨_, hl, rfl, _, rfl⟩ (ke_carried hi)
  exact ⟨_, reads_tuple_at hD rfl rfl (.cons (.str _ _) (.cons h1 .nil))⟩
theorem reads_nones {h : Heap} {D : Addr} {n : Nat} (hD : h.get? D = some { cls := .type "tuple", data := .seq #[.none, .none] n }) : ∃ as, Reads h (.ref D) (.tuple [.none, .none]) as :=
  ⟨_, reads_tuple_at hD rfl rfl (.cons .none (.cons .none .nil))⟩
/- part q_macros -/
local macro_rules | `(tactic| walk_at "wp") => `(tactic| repeat' ((with_reducible fail_if_success (show wpAny _ _ (binaryOp Operator.Pow _ _) _ _ _)); (with_reducible fail_if_success (show wpAny _ _ (binaryOp Operator.FloorDiv _ _) _ _ _)); (with_reducible fail_if_success (show wpAny _ _ (binaryOp Operator.Mod _ _) _ _ _)); (with_reducible fail_if_success (show wpAny _ _ (eval (Expr.BoolOp BoolOp.Or _ _) _) _ _ _)); walk_at "ws1"))
local macro_rules | `(tactic| walk_at "names") => `(tactic| repeat' (first | exact List.forall_mem_nil _ | (refine List.forall_mem_cons.mpr ⟨by first | rfl | assumption, ?_⟩)))
local macro_rules | `(tactic| walk_at "wi") => `(tactic| repeat' ((with_reducible fail_if_success (show wpAny _ _ (eval (Expr.IfExp _ _ _ _) _) _ _ _)); walk_at "ws1"))
/- part q_pc -/
theorem cells_hide {h h₁ : Heap} {L P : Addr} {cells : List (Addr × Obj)} {o : Obj} (N : News h L h₁ cells) (hP : h.get? P = some o) (hP1 : h₁.get? P = some o) (hne : P ≠ L) : News (h.hide P) L h₁ (cells ++ [(P, o)]) := fun p hp => by
  rcases List.mem_append.mp hp with hp | hp
  · refine ⟨(N p hp).1, (N p hp).2.1, ?_⟩
    rw [Heap.hide_ne]
    · exact (N p hp).2.2
    · intro q
      have e := (N p hp).2.2
      rw [q, hP] at e; cases e
  · rw [List.mem_singleton.mp hp]
    exact ⟨hP1, hne, Heap.hide_self _ _⟩
theorem enterPC {prog : Program} {w : World} {K : Frag} {P f : Addr} {args : List Value} {nd nu : Nat} {s : Shared} {Post : Value → Heap → Prop} {ps : Array Value}
    {name qual : Str} {params : Arguments} {body : List Stmt} {scope : Scope} {dV kV doc pm cdv ct oc : Value} {an od : Option Addr} {osl : Array (Option Value)} {binds : List (Str × Value)}
    (X : K.In s.heap) (hlim : s.heap.NoLimit) (hP : s.heap.get? P = some (tabObj ps))
    (ho : K.lookup f = some ⟨oc, od, .func (fnOf name qual params body scope dV kV doc pm an cdv ct), osl⟩) (hcd : codeIn K cdv qual = true)
    (hbind : BindsTo s (fnOf name qual params body scope dV kV doc pm an cdv ct) ⟨args, []⟩ binds)
    (hkind : (binds.all fun y => scope.names.lookup y.1 == some .local || scope.names.lookup y.1 == some .cell) = true)
    (hnd : ((cellsFrom 0 scope.names []).map (·.1)).Nodup)
    (h : ∀ (dp un : Nat) (fr : Option (List Env)) (gd : Option (List Code)) (h₁ : Heap) (L : Addr) (tk : Nat) (cells : List (Addr × Obj)), dp + nd ≤ recursionLimit → un + nu < cLine + 4 → L = s.heap.objs.size →
      Fr (s.heap.hide P) L h₁ (bindL (envOfC qual scope L f cdv).kindOf binds fun _ => none) → News (s.heap.hide P) L h₁ (cells ++ [(P, tabObj ps)]) → CellsAre (bindC (envOfC qual scope L f cdv).kindOf binds fun _ => none) (cellsFrom (L + 1) scope.names []) cells →
      wpAny (model prog w) { handled := none, depth := dp, frames := fr, guards := gd, units := un } (execs body (envOfC qual scope L f cdv))
        (fun fl s' => ∃ ps', s'.os = s.os ∧ AllBare s'.gens ∧ Ext (s.heap.hide P) s'.heap ∧ s'.heap.get? P = some (tabObj ps') ∧ TriplesOk ps'.toList ∧ Post (match fl with | .ret v => v | _ => .none) s'.heap) (fun _ _ => False)
        { s with heap := h₁, toks := tk })
    (hco : scope.isCoroutine = false := by rfl) (hgen : scope.isGenerator = false := by rfl) (hk : scope.kind = .function := by rfl) : CallP prog w P f args nd nu s Post := by
  intro dp un fr gd Q E hd hu hQ
  refine wpAny_call ?_
  have hdp : dp < recursionLimit := Nat.lt_of_le_of_lt (Nat.le_add_right _ _) hd
  refine codeAny_call_function (fd := fnOf name qual params body scope dV kV doc pm an cdv ct) (body := body) hdp (X _ _ ho) rfl hco hgen rfl (codeRec_of X hcd) (hbind _ _ _ _ ?_)
  refine wpAny_newFunctionEnv_cells hk (kindsX hkind _) fun env' he s' x => ?_
  subst he
  refine ⟨hlim.keeps x.toInCall.keep, codeAny_func ?_⟩
  obtain ⟨h₁, tk, rfl, _⟩ := x.done
  have hk₁ := x.toInCall.keep
  obtain ⟨cells, NC, Y⟩ := Cl.news (h₀ := s.heap) (Nat.le_refl _) fun n c hm => ⟨x.cell n c (lookup_of_mem_nodup (cellsFrom_names scope.names 0 (s.heap.objs.size + 1) [] [] rfl ▸ hnd) hm), x.above n c hm⟩
  refine wpAny_mono (h (dp + 1) (un + 3) _ _ h₁ s.heap.objs.size tk cells (by omega) (by omega) rfl ⟨x.toInCall.ns, fun b o e => hk₁ b o (Heap.of_hide e), by rw [Heap.hide_size]; exact Nat.le_refl _⟩
    (cells_hide NC hP (hk₁ _ _ hP) (Nat.ne_of_lt (Heap.lt_size hP))) Y) (fun fl s' hl => ?_) fun _ _ y => y.elim
  obtain ⟨ps', ho', hg', he, hP', ht', hp⟩ := hl
  exact hQ _ _ _ ho' hg' (fun b o hb e => he b o ((Heap.hide_ne _ hb).trans e)) hP' ht' hp
/- part r_aux -/
def tl (ns : List Int) (i : Nat) : Int := (ns ++ [0, 0, 0]).getD i 0
theorem three_of {ns : List Int} {us : List Value} (h : IntsAre us ((ns ++ [0, 0, 0]).take 3)) : ∃ a b c, us = [.int (tl ns 0) a, .int (tl ns 1) b, .int (tl ns 2) c] := by
  have e : (ns ++ [0, 0, 0]).take 3 = [tl ns 0, tl ns 1, tl ns 2] := by
    rcases ns with _ | ⟨x, _ | ⟨y, _ | ⟨z, r⟩⟩⟩ <;> rfl
  rw [e] at h
  cases h with | cons _ a h => cases h with | cons _ b h => cases h with | cons _ c h => cases h; exact ⟨_, _, _, rfl⟩
theorem abs_nat (x : Int) : (if x < 0 then -x else x) = ((x.natAbs : Nat) : Int) := by split <;> omega
theorem abs_fdiv (x : Int) (b : Nat) : (if x < 0 then -x else x).fdiv (b : Int) = ((x.natAbs / b : Nat) : Int) := by rw [abs_nat, fdiv_nat]
theorem pow_cast (b k : Nat) : ((b : Int)) ^ ((k : Int)).toNat = ((b ^ k : Nat) : Int) := by rw [Int.toNat_natCast]; push_cast; rfl
theorem log2_pow_lt {b k : Nat} (hb : b < 2 ^ 7) (hk : 7 * k + 1 < 9000) : (b ^ k).log2 < 9000 := by
  by_cases h0 : b ^ k = 0
  · rw [h0]; decide
  · have h1 : b ^ k ≤ (2 ^ 7) ^ k := Nat.pow_le_pow_left (Nat.le_of_lt hb) k
    rw [← Nat.pow_mul] at h1
    have h2 : b ^ k < 2 ^ (7 * k + 1) := Nat.lt_of_le_of_lt h1 (Nat.pow_lt_pow_right (by decide) (Nat.lt_succ_self _))
    have h3 := (Nat.log2_lt h0).mpr h2
    omega
section
variable {prog : Program} {w : World} {A : Around} {E : Value → Shared → Prop} {s : Shared}
theorem floordiv_as {x y : Int} {a b : Nat} {t u : Tok} {Q : Value → Shared → Prop} (hx : x = (a : Int)) (hy : y = (b : Int)) (hb : 0 < b) (hlog : b.log2 < 9000) (h : Q (.int ((a / b : Nat) : Int) s.toks) { s with toks := s.toks + 1 }) :
    wpAny (model prog w) A (binaryOp .FloorDiv (.int x t) (.int y u)) Q E s := by
  subst hx; subst hy
  refine floordiv_int (by omega) ?_ (.inl (PyProof.noPylong_of_log2 (by rw [Int.natAbs_natCast]; exact hlog)))
  rw [fdiv_nat]; exact h
theorem pow_as {x y : Int} {a b : Nat} {t u : Tok} {Q : Value → Shared → Prop} (hx : x = (a : Int)) (hy : y = (b : Int)) (ha : a < 128) (hb : b ≤ 1000) (h : Q (.int ((a ^ b : Nat) : Int) s.toks) { s with toks := s.toks + 1 }) :
    wpAny (model prog w) A (binaryOp .Pow (.int x t) (.int y u)) Q E s := by
  subst hx; subst hy
  refine pow_int_small (by omega) (by omega) (by rw [Int.natAbs_natCast]; omega) ?_
  rw [pow_cast]; exact h
theorem mod_as {x y : Int} {b : Nat} {t u : Tok} {Q : Value → Shared → Prop} (hy : y = (b : Int)) (hb : 0 < b) (h : Q (.int (((x % (b : Int)).toNat : Nat) : Int) s.toks) { s with toks := s.toks + 1 }) :
    wpAny (model prog w) A (binaryOp .Mod (.int x t) (.int y u)) Q E s := by
  subst hy
  refine PyProof.Rows.mod_int' (by omega) ?_
  rw [Int.fmod_eq_emod_of_nonneg _ (by omega)]
  rw [Int.toNat_of_nonneg (Int.emod_nonneg _ (by omega))] at h
  exact h
theorem item_lit {value slice : PySem.Expr} {l : Addr} {vs : List Value} {k : Int} {u : Tok} {v : Value} {Q : Value → Shared → Prop}
    (hl : s.heap.IsList l vs.toArray) (hv : vs[k.toNat]? = some v) (h : Q v s) (h0 : 0 ≤ k := by decide) (hhi : k < 2 ^ 63 := by decide)
    (hs : subscripted slice false (.ref l) (.int k u) = operate [.ref l, .int k u] (getItem (.ref l) (.int k u)) := by with_unfolding_all rfl) :
    wpAny (model prog w) A (subscriptTail value slice (.ref l) (.int k u)) Q E s :=
  tail_any hl.typeIs slot_list_getitem.lookup (wpAny_getItem_list hl h0 hhi (by simpa using hv) h) hs
end
def nlet (ns : List Int) : Nat := 1 + (tl ns 0 % 8).toNat
theorem nlet_eq (ns : List Int) : 1 + (tl ns 0).fmod 8 = ((nlet ns : Nat) : Int) := by
  rw [Int.fmod_eq_emod_of_nonneg _ (by decide), nlet]; omega
theorem nlet_le (ns : List Int) : 1 ≤ nlet ns ∧ nlet ns ≤ 8 := by unfold nlet; omega
def lets (ns : List Int) : List Nat := (List.range (nlet ns)).map fun k => 97 + (tl ns 0).natAbs / 8 / 26 ^ k % 26
theorem range_small {n : Nat} (h : n < 2 ^ 20) : Builtin.Range.small 0 ((n : Nat) : Int) 1 = true := small_one (by omega) (by omega) (by omega) (by omega)
theorem range_size (n : Nat) : Builtin.Range.rangeSize 0 ((n : Nat) : Int) 1 = ((n : Nat) : Int) := by rw [rangeSize_nat, Int.sub_zero, Int.toNat_natCast]
def nsize (ns : List Int) : Nat := (tl ns 1 % ((84 - (lets ns).length : Nat) : Int)).toNat
def rowsOf (ns : List Int) : List Int := if (ns.drop 3).take 37 = [] then [(((tl ns 1).natAbs / 84 : Nat) : Int)] else (ns.drop 3).take 37
theorem lets_len (ns : List Int) : (lets ns).length = nlet ns := by rw [lets, List.length_map, List.length_range]
theorem nsize_eq (ns : List Int) : (tl ns 1).fmod (84 - ((lets ns).length : Int)) = ((nsize ns : Nat) : Int) := by
  have h1 := nlet_le ns
  rw [← lets_len] at h1
  rw [Int.fmod_eq_emod_of_nonneg _ (by omega), nsize, show (84 - ((lets ns).length : Int)) = ((84 - (lets ns).length : Nat) : Int) from by omega, Int.toNat_of_nonneg (Int.emod_nonneg _ (by omega))]
theorem lets_len2 (ns : List Int) : (lets ns).length = nlet ns := by rw [lets, List.length_map, List.length_range]
def lawBody : List Stmt := match PySem.Challenge.pw_jy0013_01.main.body.getLast? with | some (Stmt.FunctionDef _ _ b _ _ _ _ _ _ _) => b | _ => []
def lawScope : Scope := match PySem.Challenge.pw_jy0013_01.main.body.getLast? with | some (Stmt.FunctionDef _ _ _ _ _ _ sc _ _ _) => sc | _ => default
def stm (k : Nat) : Stmt := lawBody.getD k default
def LEnv (L : Addr) : Env := envOfC (Str.ofString "law") lawScope L 53 (.ref 52)
def toldObj (ns : List Int) (ta tb tc : Tok) : Obj := { cls := .type "list", data := .seq #[Value.int (tl ns 0) ta, Value.int (tl ns 1) tb, Value.int (tl ns 2) tc] }
theorem rows_slice {vs : List Value} {ns : List Int} (hi : IntsAre vs ns) : IntsAre (slicePick vs.toArray (some 3) (some 40) none).toList ((ns.drop 3).take 37) := by
  have h := kmk_run hi (x := 3) (y := 40) (by decide) (by decide)
  have e : (ns.drop (3 : Int).toNat).take (min (40 : Int).toNat ns.length - (3 : Int).toNat) = (ns.drop 3).take 37 := by
    show (ns.drop 3).take (min 40 ns.length - 3) = _
    by_cases q : ns.length ≤ 40
    · rw [Nat.min_eq_right q, List.take_of_length_le (by rw [List.length_drop]; exact Nat.le_refl _), List.take_of_length_le (by rw [List.length_drop]; omega)]
    · rw [Nat.min_eq_left (by omega)]
  rw [e] at h; exact h
def dataOf (ns : List Int) : List Nat := (List.range (nsize ns)).map fun j => ((rowsOf ns).getD (j % (rowsOf ns).length) 0).natAbs / 32 ^ (j / (rowsOf ns).length) % 32
theorem nsize_lt (ns : List Int) : nsize ns < 84 - nlet ns := by
  have h1 := nlet_le ns
  rw [nsize, lets_len]
  have h2 := Int.emod_lt_of_pos (tl ns 1) (b := ((84 - nlet ns : Nat) : Int)) (by omega)
  have h3 := Int.emod_nonneg (tl ns 1) (b := ((84 - nlet ns : Nat) : Int)) (by omega)
  omega
theorem data_len (ns : List Int) : (dataOf ns).length = nsize ns := by rw [dataOf, List.length_map, List.length_range]
theorem data_lt (ns : List Int) : ∀ d ∈ dataOf ns, d < 32 := fun d hd => by
  obtain ⟨j, _, rfl⟩ := List.mem_map.mp hd
  exact Nat.mod_lt _ (by decide)
theorem rows_pos (ns : List Int) : 0 < (rowsOf ns).length := by
  rw [rowsOf]; split
  · exact Nat.one_pos
  · exact List.length_pos_iff.mpr (by assumption)
theorem rows_le (ns : List Int) : (rowsOf ns).length ≤ 37 := by
  rw [rowsOf]; split
  · simp
  · rw [List.length_take]; omega
theorem ints_at : ∀ {ns : List Int} {vs : List Value}, IntsAre vs ns → ∀ k, k < ns.length → ∃ t, vs[k]? = some (.int (ns.getD k 0) t)
  | _ :: _, _ :: _, .cons _ t _, 0, _ => ⟨t, rfl⟩
  | _ :: _, _ :: _, .cons _ _ h, k + 1, hk => by
    obtain ⟨t, e⟩ := ints_at h k (Nat.lt_of_succ_lt_succ hk)
    exact ⟨t, e⟩
/- part r_b_macros -/
local macro_rules | `(tactic| walk_at "seg") => `(tactic| (dsimp only [LEnv, stm, lawBody, lawScope, PySem.Challenge.pw_jy0013_01, List.getLast?, List.getLast, List.getD, List.getElem?_cons_zero, List.getElem?_cons_succ, Option.getD]))
/- part r_q3aux -/
theorem lets_rng (ns : List Int) : ∀ c ∈ lets ns, 97 ≤ c ∧ c ≤ 122 := by
  intro c hc
  obtain ⟨k, _, rfl⟩ := List.mem_map.mp hc
  omega
theorem lets_clean (ns : List Int) : ∀ c ∈ lets ns, clean c := fun c hc => by
  have := lets_rng ns c hc
  unfold clean; omega
theorem strOk_Tx {z : List Nat} (h : ∀ c ∈ z, c < 128) : PyData.strOk (Tx z) = true := by
  unfold PyData.strOk
  rw [← Array.all_toList, Tx_toList, List.all_eq_true]
  intro c hc
  have := h c hc
  exact decide_eq_true (by omega)
/- part r_s1iter -/
def InvPostM (h₀ : Heap) (L : Addr) (J : (Str → Option Value) → List (Addr × Obj) → Prop) (it : Addr) (oit : Obj) (s₁ : Shared) (Q : Flow → Shared → Prop) (f : Flow) (s₂ : Shared) : Prop :=
  match f with
  | .ret v => Q (.ret v) s₂
  | .brk => Q .next s₂
  | _ => ∃ h' tk m' nx, s₂ = { s₁ with heap := h', toks := tk } ∧ Fr h₀ L h' m' ∧ News h₀ L h' ((it, oit) :: nx) ∧ (∀ p ∈ nx, p.1 ≠ it) ∧ J m' nx
section
variable {prog : Program} {w : World} {A : Around} {E : Value → Shared → Prop} {s : Shared} {env : Env} {h₀ : Heap} {x : Str} {body : List Stmt} {Q : Flow → Shared → Prop}
theorem iter_rangeM {r : Addr} {a b : Int} {t u v : Tok} {n : Nat} {m₀ : Str → Option Value} {news : List (Addr × Obj)} (J : Nat → (Str → Option Value) → List (Addr × Obj) → Prop)
    (hh : A.handled = none) (hr : IsRange s.heap r a b 1 t u v) (hsmall : Builtin.Range.small a b 1 = true) (hn : Builtin.Range.rangeSize a b 1 = (n : Int)) (F : Fr h₀ env.locals s.heap m₀) (N : News h₀ env.locals s.heap news) (hj : J 0 m₀ news)
    (turn : ∀ i tt m₁ news₁ h tk it oit, (∀ b o, s.heap.get? b = some o → b ≠ it) → i < n → J i m₁ news₁ → (∀ p ∈ news₁, p.1 ≠ it) → Fr h₀ env.locals h (fun y => if y = x then some (.int (a + (i : Int)) tt) else m₁ y) → News h₀ env.locals h ((it, oit) :: news₁) →
      wpAny (model prog w) A (execs body env) (InvPostM h₀ env.locals (J (i + 1)) it oit { s with heap := h, toks := tk } Q) E { s with heap := h, toks := tk })
    (done : ∀ m₁ news₁ h tk, J n m₁ news₁ → Fr h₀ env.locals h m₁ → News h₀ env.locals h news₁ → Q .next { s with heap := h, toks := tk }) :
    wpAny (model prog w) A (pyIter (.ref r)) (fun it s₂ => LoopAtV prog w A h₀ env x body Q E it s₂) E s := by
  refine wpAny_pyIter_range hr hsmall ?_
  have W : Walks prog w A s.heap.objs.size [s.heap.objs.size] [s.heap.objs.size] n (fun i v => i < n ∧ ∃ t, v = .int (a + i * 1) t)
      (fun i h => IsRangeIter h s.heap.objs.size (a + (i : Nat) * 1) ((n : Int) - (i : Nat)) 1) := (Walks.range hh _ a 1 n).bound
  refine ⟨_, _, _, n, _, _, m₀, news, J, rfl, W, ?_, ?_, ?_, by show IsRangeIter _ _ _ _ _; rw [hn]; simpa using Heap.get?_push_size _ rfl, F.push _, (fun p hp => ⟨Heap.get?_push_of_some _ (N p hp).1, (N p hp).2⟩), hj, ?_, ?_⟩
  · intro hm
    exact absurd F.ns.lt ((List.mem_singleton.mp hm) ▸ Nat.lt_irrefl _)
  · intro b hb
    rw [List.mem_singleton.mp hb]
    exact next_is_new F
  · intro p hp hI
    exact absurd (Heap.lt_size (N p hp).1) ((List.mem_singleton.mp hI) ▸ Nat.lt_irrefl _)
  · rintro i v m₁ news₁ s₁ own ⟨hh', tk', rfl⟩ hin ⟨_, tt, rfl⟩ hJ hoff hfp hget hall hst F₁ N₁
    have e1 : a + (i : Int) * 1 = a + (i : Int) := by omega
    rw [e1] at F₁
    have hst' : IsRangeIter hh' s.heap.objs.size (a + ((i + 1 : Nat) : Int) * 1) ((n : Int) - ((i + 1 : Nat) : Int)) 1 := hst
    obtain ⟨oit, hoit⟩ : ∃ o, hh'.get? s.heap.objs.size = some o := by
      unfold IsRangeIter at hst'
      exact ⟨_, hst'⟩
    have hmem : (s.heap.objs.size, oit) ∈ own := hall _ (List.mem_singleton.mpr rfl) (next_is_new F) _ hoit
    have hone : ∀ p ∈ own, p = (s.heap.objs.size, oit) := fun p hp => by
      have h1 := List.mem_singleton.mp (hfp p hp)
      have h2 := hget p hp
      dsimp only at h2
      rw [h1, hoit] at h2
      obtain ⟨p1, p2⟩ := p
      dsimp only at h1 h2
      rw [h1, Option.some.inj h2]
    have N₂ : News h₀ env.locals hh' ((s.heap.objs.size, oit) :: news₁) := fun p hp => by
      rcases List.mem_cons.mp hp with rfl | hp
      · exact N₁ _ (List.mem_append_left _ hmem)
      · exact N₁ _ (List.mem_append_right _ hp)
    refine wpAny_mono (turn i tt m₁ news₁ hh' tk' _ oit (fun b o e q => absurd (Heap.lt_size e) (by rw [q]; exact Nat.lt_irrefl _)) hin hJ (fun p hp q => hoff p hp (List.mem_singleton.mpr q)) F₁ N₂) (fun f s₂ p => ?_) fun _ _ e => e
    have fin : (∃ h' tk m' nx, s₂ = { s with heap := h', toks := tk } ∧ Fr h₀ env.locals h' m' ∧ News h₀ env.locals h' ((s.heap.objs.size, oit) :: nx) ∧ (∀ p ∈ nx, p.1 ≠ s.heap.objs.size) ∧ J (i + 1) m' nx) →
        LoopStepU h₀ env.locals [s.heap.objs.size] own (J (i + 1)) { s with heap := hh', toks := tk' } .next s₂ := by
      rintro ⟨h', tk, m', nx, e, F', N', ho, hm⟩
      refine ⟨rfl, h', tk, m', nx, e, F', fun p hp => ?_, fun p hp q => ho p hp (List.mem_singleton.mp q), hm⟩
      rcases List.mem_append.mp hp with hp | hp
      · rw [hone p hp]; exact N' _ (.head _)
      · exact N' _ (.tail _ hp)
    cases f with
    | ret v => exact .ret p
    | brk => exact .brk p
    | next => exact .next (fin p)
    | cont => exact .cont (fin p)
  · rintro h' tk m' news' F' N' _ hJ
    exact done m' news' h' tk hJ F' N'
end
/- part r_seg0 -/
set_option maxHeartbeats 16000000 in
theorem seg0 (w : World) (mg mb : Str → Option Value) (h₀ : Heap) (X : (hd.heap_39 w.params).In h₀) (T0 : TopRead hd.view_39 [] mg mb h₀) (L : Addr) (dp un : Nat) (fr : Option (List Env)) (gd : Option (List Code)) (s : Shared)
   (l : Addr) (vs : List Value) (ns : List Int) (o1 o2 o3 o4 : Obj) (ps : Array Value) (m : Str → Option Value) (rest : List Stmt) (Q : Flow → Shared → Prop) (E : Value → Shared → Prop)
   (F1 : Fr h₀ L s.heap (kstB m [(Str.ofString "script", .ref l)]))
   (N1 : News h₀ L s.heap [(L + 1 + 1 + 1 + 1, o1), (L + 1 + 1 + 1, o2), (L + 1 + 1, o3), (L + 1, o4), (45, tabObj ps)])
   (d1 : o1.data = Data.cell none) (d2 : o2.data = Data.cell none) (d3 : o3.data = Data.cell none) (d4 : o4.data = Data.cell none)
   (hL45 : @LT.lt Nat _ 45 L) (hl0 : h₀.IsList l vs.toArray) (hi : IntsAre vs ns) (hlen : ns.length ≤ 63)
   (cont : ∀ h' tk' m' D1 o3' o4' ta tb tc tz, Fr h₀ L h' (kstB m' [(Str.ofString "script", .ref l), (Str.ofString "size", .int (nsize ns : Nat) tz)]) →
      News h₀ L h' [(D1, toldObj ns ta tb tc), (L + 1 + 1 + 1 + 1, o1), (L + 1 + 1 + 1, o2), (L + 1 + 1, o3'), (L + 1, o4'), (45, tabObj ps)] →
      o4'.data = .cell (some (.ref D1)) → (∃ t, o3'.data = .cell (some (.str (Tx (lets ns)) t))) → @LT.lt Nat _ (L + 4) D1 →
      wpAny (model PySem.Challenge.rw_jy0013_01.row.prog w) { handled := none, depth := dp, frames := fr, guards := gd, units := un } (execs rest (LEnv L)) Q E { s with heap := h', toks := tk' }) :
   wpAny (model PySem.Challenge.rw_jy0013_01.row.prog w) { handled := none, depth := dp, frames := fr, guards := gd, units := un } (execs (stm 0 :: stm 1 :: stm 2 :: rest) (LEnv L)) Q E s := by
  have hvl : vs.length = ns.length := hi.length
  walk_at "seg"
  revert X; k_fill; intro X
  walk_at "ws"
  with_reducible rename Fr _ _ _ _ => F1
  with_reducible rename News _ _ _ _ => N1
  refine add_lists (by assumption) (by assumption) (hl0.at fun o e => F1.keep l o e) (News.isList (by assumption) (by k_mem)) ?_ (by rw [sizeLine_eq]; simp; omega)
  intro h2 F2 N2
  clear F1 N1
  walk_at "ws"
  refine kba_turn (value' := PySem.Expr.Name (PySem.Str.ofString "_") ⟨0, 0, 0, 0⟩) (fun _ => rfl) ?_
  refine slice_list F2 N2 (News.isList N2 (.head _)) .none (.int _ _) ?_ (by with_unfolding_all rfl) (by intro _; with_unfolding_all rfl) (by rw [sizeLine_eq]; simp; omega)
  intro h3 F3 N3
  have i3 := slice_ints_uptoW (hi.append (.cons 0 s.toks (.cons 0 (s.toks + 1) (.cons 0 (s.toks + 1 + 1) .nil)))) (y := 3) (by decide)
  obtain ⟨ta, tb, tc, hus⟩ := three_of i3
  have hus' := congrArg List.toArray hus
  rw [Array.toArray_toList] at hus'
  rw [hus'] at N3
  have hD1 : @LT.lt Nat _ (L + 4) (h2.objs.size + 1) := Nat.lt_succ_of_lt (Heap.lt_size (N2 (L + 1 + 1 + 1 + 1, o1) (by k_mem)).1)
  clear F2 N2 i3 hus hus'
  walk_at "ws"
  try dsimp only at N3
  generalize h2.objs.size + 1 = D1 at N3 hD1 ⊢
  have N4 : News h₀ L h3 [(D1, { cls := .type "list", data := .seq #[Value.int (tl ns 0) ta, Value.int (tl ns 1) tb, Value.int (tl ns 2) tc] }), (L + 1 + 1 + 1 + 1, o1), (L + 1 + 1 + 1, o2), (L + 1 + 1, o3), (L + 1, o4), (45, tabObj ps)] := kst_newsOf N3 (by walk_at "trim")
  clear N3
  walk_at "ws"
  (with_reducible rename Fr _ _ _ _ => F4)
  (with_reducible rename News _ _ _ _ => N4)
  (with_reducible rename (_ = Data.cell (some (Value.ref _))) => dt)
  refine comp_map (is := isN) (out := isC) (g := fun k => 97 + (tl ns 0).natAbs / 8 / 26 ^ k % 26) isN_fun rfl (by with_unfolding_all rfl) (by decide) (by rfl) (by decide) (by rfl) ?_
  walk_at "ws"
  refine item_lit (vs := [Value.int (tl ns 0) ta, Value.int (tl ns 1) tb, Value.int (tl ns 2) tc]) (News.isList N4 (.head _)) rfl ?_
  walk_at "ws"
  with_reducible rename IsRange _ _ _ _ _ _ _ _ => R5
  with_reducible rename Fr _ _ _ _ => F5
  with_reducible rename News _ _ _ _ => N5
  rw [nlet_eq] at R5
  have hnl := nlet_le ns
  refine ⟨List.range (nlet ns), _, by rw [List.length_range]; exact Src.range R5 (range_small (by omega)) (range_size _), by rw [List.length_range, sizeLine_eq]; omega, fun i v h => range_at i v (by simpa using h), ?_, ?_⟩
  · rintro C k v s₃ m₃ E' hk ⟨ti, rfl⟩ FC hm
    have X1 := X.keeps F5.keep
    have T1 := T0.keeps F5.keep
    have hcell : Heap.IsCell _ (L + 1) (some (Value.ref D1)) := ⟨_, (N5 _ (.tail _ (.tail _ (.tail _ (.tail _ (.head _)))))).1, dt⟩
    have hlt := News.isList N5 (.head _)
    have hlt3 := hlt.at (fun o e => FC.keep _ o e)
    have hk8 := List.mem_range.mp hk
    clear F5 X T0 dt N5
    have N : News _ C s₃.heap [] := News.nil (h₀ := s₃.heap)
    walk_at "ws"
    refine item_lit (vs := [Value.int (tl ns 0) ta, Value.int (tl ns 1) tb, Value.int (tl ns 2) tc]) hlt3 rfl ?_
    walk_at "ws"
    refine floordiv_as (abs_fdiv _ 8) (pow_cast 26 k) (Nat.pow_pos (by decide)) (log2_pow_lt (by decide) (by omega)) ?_
    walk_at "ws"
    have hch : (97 : Int) + (((tl ns 0).natAbs / 8 / 26 ^ k : Nat) : Int).fmod 26 = ((97 + (tl ns 0).natAbs / 8 / 26 ^ k % 26 : Nat) : Int) := by
      rw [show (26 : Int) = ((26 : Nat) : Int) from rfl, fmod_nat]; omega
    rw [hch]
    refine chr_of_range (by omega) (by omega) ?_
    show isC _ _ ∧ Keeps _ _
    rw [Int.toNat_natCast]
    exact ⟨⟨_, rfl⟩, _, _, rfl, fun _ _ e => e⟩
  · intro D2 h6 tk6 ys hE hD hpl hpa
    obtain ⟨k6, F6, N6, -⟩ := news_add F5 N5 hE hD hpl
    clear F5 N5
    walk_at "ws"
    refine join_codes (News.isList N6 (.head _)) hpa (by rw [List.length_map, List.length_range]; omega) (fun t2 k2 => ?_)
    change wpAny _ _ (storeName _ _ (Value.str (Tx (lets ns)) _)) _ _ _
    have hll := lets_len ns
    (with_reducible rename Obj => o4a)
    have N7 : News h₀ L h6 [(D1, { cls := .type "list", data := .seq #[Value.int (tl ns 0) ta, Value.int (tl ns 1) tb, Value.int (tl ns 2) tc] }), (L + 1 + 1 + 1 + 1, o1), (L + 1 + 1 + 1, o2), (L + 1 + 1, o3), (L + 1, o4a), (45, tabObj ps)] := kst_newsOf N6 (by walk_at "trim")
    clear N6
    walk_at "ws"
    refine item_lit (vs := [Value.int (tl ns 0) ta, Value.int (tl ns 1) tb, Value.int (tl ns 2) tc]) (News.isList (by assumption) (.head _)) rfl ?_
    walk_at "ws"
    refine PyProof.Rows.len_str (by rw [Tx_len]; omega) ?_
    rw [Tx_len]
    walk_at "wo"
    rw [nsize_eq] at *
    (with_reducible rename Fr _ _ _ _ => F8)
    (with_reducible rename News _ _ _ _ => N8)
    (with_reducible rename Obj => o3b)
    (with_reducible rename (o3b.data = _) => dl)
    exact cont _ _ _ D1 o3b o4a ta tb tc _ (fr_names [(Str.ofString "script", .ref l), (Str.ofString "size", .int (nsize ns : Nat) _)] F8 (by walk_at "names")) N8 dt ⟨_, dl⟩ hD1
/- part r_seg3 -/
set_option maxHeartbeats 16000000 in
theorem seg3 (w : World) (mg mb : Str → Option Value) (h₀ : Heap) (X : (hd.heap_39 w.params).In h₀) (T0 : TopRead hd.view_39 [] mg mb h₀) (L : Addr) (dp un : Nat) (fr : Option (List Env)) (gd : Option (List Code)) (s : Shared)
   (l D1 : Addr) (vs : List Value) (ns : List Int) (ta tb tc tz : Tok) (o1 o2 o3 o4 : Obj) (ps : Array Value) (m : Str → Option Value) (rest : List Stmt) (Q : Flow → Shared → Prop) (E : Value → Shared → Prop)
   (F : Fr h₀ L s.heap (kstB m [(Str.ofString "script", .ref l), (Str.ofString "size", .int (nsize ns : Nat) tz)]))
   (N : News h₀ L s.heap [(D1, toldObj ns ta tb tc), (L + 1 + 1 + 1 + 1, o1), (L + 1 + 1 + 1, o2), (L + 1 + 1, o3), (L + 1, o4), (45, tabObj ps)])
   (dt : o4.data = .cell (some (.ref D1))) (dl : ∃ t, o3.data = .cell (some (.str (Tx (lets ns)) t))) (dr : o2.data = .cell none) (dpl : o1.data = .cell none)
   (hL45 : @LT.lt Nat _ 45 L) (hD1 : @LT.lt Nat _ (L + 4) D1) (hl0 : h₀.IsList l vs.toArray) (hi : IntsAre vs ns) (hlen : ns.length ≤ 63)
   (cont : ∀ D3 rs k3 h' tk' o2', Fr h₀ L h' (kstB m [(Str.ofString "script", .ref l), (Str.ofString "size", .int (nsize ns : Nat) tz)]) →
      News h₀ L h' [(D3, { cls := .type "list", data := .seq (List.toArray rs) k3 }), (D1, toldObj ns ta tb tc), (L + 1 + 1 + 1 + 1, o1), (L + 1 + 1 + 1, o2'), (L + 1 + 1, o3), (L + 1, o4), (45, tabObj ps)] →
      o2'.data = .cell (some (.ref D3)) → @LT.lt Nat _ (L + 4) D3 → IntsAre rs (rowsOf ns) →
      wpAny (model PySem.Challenge.rw_jy0013_01.row.prog w) { handled := none, depth := dp, frames := fr, guards := gd, units := un } (execs rest (LEnv L)) Q E { s with heap := h', toks := tk' }) :
   wpAny (model PySem.Challenge.rw_jy0013_01.row.prog w) { handled := none, depth := dp, frames := fr, guards := gd, units := un } (execs (stm 3 :: rest) (LEnv L)) Q E s := by
  obtain ⟨tq, dl⟩ := dl
  unfold toldObj at *
  walk_at "seg"
  revert X; k_fill; intro X
  walk_at "wo"
  refine wpAny_mono (Q := fun v s' => ∃ D3 rs k3 h' tk', v = .ref D3 ∧ s' = { s with heap := h', toks := tk' } ∧ Fr h₀ L h' (kstB m [(Str.ofString "script", .ref l), (Str.ofString "size", .int (nsize ns : Nat) tz)]) ∧
      News h₀ L h' [(D3, { cls := .type "list", data := .seq (List.toArray rs) k3 }), (D1, toldObj ns ta tb tc), (L + 1 + 1 + 1 + 1, o1), (L + 1 + 1 + 1, o2), (L + 1 + 1, o3), (L + 1, o4), (45, tabObj ps)] ∧
      @LT.lt Nat _ (L + 4) D3 ∧ IntsAre rs (rowsOf ns)) ?_ ?_ (fun _ _ e => e)
  · walk1
    walk_at "wo"
    refine slice_list F N (hl0.at fun o e => F.keep l o e) (.int _ _) (.int _ _) ?_ (by with_unfolding_all rfl) (by intro _; with_unfolding_all rfl) (by rw [List.size_toArray, hi.length, sizeLine_eq]; omega)
    intro h2 F2 N2
    have hD3 : @LT.lt Nat _ (L + 4) (s.heap.objs.size + 1) := Nat.lt_succ_of_lt (Heap.lt_size (N (L + 1 + 1 + 1 + 1, o1) (by k_mem)).1)
    have hrs := rows_slice hi
    clear F N
    generalize hpk : slicePick vs.toArray (some 3) (some 40) none = pk at *
    have hpl : pk.size ≤ 60 := by
      have h1 := hrs.length
      rw [Array.length_toList, List.length_take, List.length_drop] at h1
      omega
    refine wpAny_truthy_list (News.isList N2 (.head _)) (by omega) ?_
    cases hemp : pk.isEmpty
    · refine if_pos rfl ▸ ?_
      have hne : (ns.drop 3).take 37 ≠ [] := by
        intro q
        rw [q] at hrs
        have h1 := hrs.length
        rw [Array.length_toList] at h1
        rw [Array.isEmpty_iff_size_eq_zero.mpr h1] at hemp; cases hemp
      refine ⟨_, pk.toList, 0, h2, _, rfl, rfl, F2, by rw [Array.toArray_toList]; exact N2, hD3, ?_⟩
      rw [rowsOf, if_neg hne]; exact hrs
    · have hee : (ns.drop 3).take 37 = [] := by
        have h1 := hrs.length
        rw [Array.length_toList, Array.isEmpty_iff_size_eq_zero.mp hemp] at h1
        exact List.eq_nil_of_length_eq_zero h1.symm
      have hD1b := hD1
      walk_at "ws"
      refine item_lit (vs := [Value.int (tl ns 0) ta, Value.int (tl ns 1) tb, Value.int (tl ns 2) tc]) (News.isList (by assumption) (.tail _ (.head _))) rfl ?_
      walk_at "ws"
      (with_reducible rename Fr _ _ _ _ => F4)
      (with_reducible rename News _ _ _ _ => N4)
      (with_reducible rename (_ ∧ _) => l4)
      have e84 : (if tl ns 1 < 0 then -tl ns 1 else tl ns 1).fdiv 84 = (((tl ns 1).natAbs / 84 : Nat) : Int) := abs_fdiv _ 84
      rw [e84] at N4
      exact ⟨_, [_], 0, _, _, rfl, rfl, F4, kst_newsOf N4 (by walk_at "trim"), l4.2.2.1, by rw [rowsOf, if_pos hee]; exact .cons _ _ .nil⟩
  · rintro v s' ⟨D3, rs, k3, h', tk', rfl, rfl, F3, N3, hD3, hrs⟩
    clear F N
    dsimp only at F3 N3 ⊢
    unfold toldObj at N3
    walk_at "wo"
    (with_reducible rename Fr _ _ _ _ => F4)
    (with_reducible rename News _ _ _ _ => N4)
    (with_reducible rename (_ = Data.cell (some (Value.ref D3))) => d4)
    exact cont _ _ _ _ _ _ F4 N4 d4 hD3 hrs
/- part r_seg4 -/
set_option maxHeartbeats 16000000 in
theorem seg4 (w : World) (mg mb : Str → Option Value) (h₀ : Heap) (X : (hd.heap_39 w.params).In h₀) (T0 : TopRead hd.view_39 [] mg mb h₀) (L : Addr) (dp un : Nat) (fr : Option (List Env)) (gd : Option (List Code)) (s : Shared)
   (l D1 D3 : Addr) (rs : List Value) (k3 : Nat) (ns : List Int) (ta tb tc tz : Tok) (o1 o2 o3 o4 : Obj) (ps : Array Value) (m : Str → Option Value) (rest : List Stmt) (Q : Flow → Shared → Prop) (E : Value → Shared → Prop)
   (F : Fr h₀ L s.heap (kstB m [(Str.ofString "script", .ref l), (Str.ofString "size", .int (nsize ns : Nat) tz)]))
   (N : News h₀ L s.heap [(D3, { cls := .type "list", data := .seq (List.toArray rs) k3 }), (D1, toldObj ns ta tb tc), (L + 1 + 1 + 1 + 1, o1), (L + 1 + 1 + 1, o2), (L + 1 + 1, o3), (L + 1, o4), (45, tabObj ps)])
   (dr : o2.data = .cell (some (.ref D3))) (hrs : IntsAre rs (rowsOf ns))
   (cont : ∀ m' D4 us k4 h' tk', Fr h₀ L h' (kstB m' [(Str.ofString "data", .ref D4), (Str.ofString "size", .int (nsize ns : Nat) tz)]) →
      News h₀ L h' [(D4, { cls := .type "list", data := .seq (List.toArray us) k4 }), (D1, toldObj ns ta tb tc), (L + 1 + 1 + 1 + 1, o1), (L + 1 + 1 + 1, o2), (L + 1 + 1, o3), (L + 1, o4), (45, tabObj ps)] →
      Paired isN (dataOf ns) us →
      wpAny (model PySem.Challenge.rw_jy0013_01.row.prog w) { handled := none, depth := dp, frames := fr, guards := gd, units := un } (execs rest (LEnv L)) Q E { s with heap := h', toks := tk' }) :
   wpAny (model PySem.Challenge.rw_jy0013_01.row.prog w) { handled := none, depth := dp, frames := fr, guards := gd, units := un } (execs (stm 4 :: rest) (LEnv L)) Q E s := by
  walk_at "seg"
  revert X; k_fill; intro X
  have hz := nsize_lt ns
  have hrp := rows_pos ns
  have hrl := rows_le ns
  have hrn : rs.length = (rowsOf ns).length := hrs.length
  walk_at "ws"
  refine asg_map h₀ (is := isN) (out := isN) (g := fun j => ((rowsOf ns).getD (j % (rowsOf ns).length) 0).natAbs / 32 ^ (j / (rowsOf ns).length) % 32) isN_fun rfl (by with_unfolding_all rfl) (by with_unfolding_all rfl) (by decide) (by rfl) (by decide) (by rfl) (by rfl) (by rfl) ?_ (by intro _; with_unfolding_all rfl)
  walk_at "ws"
  with_reducible rename IsRange _ _ _ _ _ _ _ _ => R5
  with_reducible rename Fr _ _ _ _ => F5
  with_reducible rename News _ _ _ _ => N5
  refine ⟨List.range (nsize ns), _, _, _, by rw [List.length_range]; exact Src.range R5 (range_small (by omega)) (range_size _), by rw [List.length_range, sizeLine_eq]; omega, fun i v h => range_at i v (by simpa using h), F5, N5, ?_, ?_⟩
  · rintro C j v s₃ m₃ E' hj ⟨ti, rfl⟩ FC hm
    have X1 := X.keeps F5.keep
    have T1 := T0.keeps F5.keep
    have hcell : Heap.IsCell _ (L + 1 + 1 + 1) (some (Value.ref D3)) := ⟨_, (N5 _ (.tail _ (.tail _ (.tail _ (.head _))))).1, dr⟩
    have hlt := News.isList N5 (.head _)
    have hlt3 := hlt.at (fun o e => FC.keep _ o e)
    have hj8 := List.mem_range.mp hj
    clear F5 X T0 dr N5 hlt
    have N : News _ C s₃.heap [] := News.nil (h₀ := s₃.heap)
    walk_at "ws"
    obtain ⟨tv, hv⟩ := ints_at hrs (j % (rowsOf ns).length) (Nat.mod_lt _ hrp)
    generalize (rowsOf ns).getD (j % (rowsOf ns).length) 0 = row at *
    refine item_lit (vs := rs) hlt3 (by rw [fmod_nat, Int.toNat_natCast]; exact hv) ?_ (by rw [fmod_nat]; omega) (by rw [fmod_nat]; have := Nat.mod_lt j hrp; omega)
    have hjd : j / (rowsOf ns).length ≤ j := Nat.div_le_self _ _
    walk_at "wp"
    refine floordiv_as (a := j) (b := (rowsOf ns).length) rfl rfl hrp (Nat.lt_of_le_of_lt (Nat.log2_le_self _) (by omega)) ?_
    walk_at "wp"
    refine pow_as (a := 32) (b := j / (rowsOf ns).length) rfl rfl (by decide) (by omega) ?_
    walk_at "wp"
    refine floordiv_as (abs_nat row) rfl (Nat.pow_pos (by decide)) (log2_pow_lt (by decide) (by omega)) ?_
    walk_at "wp"
    refine mod_as (b := 32) rfl (by decide) ?_
    walk_at "wp"
    show isN _ _ ∧ Keeps _ _
    exact ⟨⟨_, congrArg (Value.int · _) (by omega)⟩, _, _, rfl, fun _ _ e => e⟩
  · intro D h6 tk6 ys k6 F6 N6 hne hpa
    walk_at "ws"
    exact cont _ _ ys _ _ _ (fr_names [(Str.ofString "data", .ref D), (Str.ofString "size", .int (nsize ns : Nat) tz)] F6 (by walk_at "names")) (kst_newsOf N6 (by walk_at "trim")) hpa
/- part r_seg5 -/
set_option maxHeartbeats 16000000 in
theorem seg5 (w : World) (mg mb : Str → Option Value) (h₀ : Heap) (X : (hd.heap_39 w.params).In h₀) (T0 : TopRead hd.view_39 [] mg mb h₀) (L : Addr) (dp un : Nat) (fr : Option (List Env)) (gd : Option (List Code)) (s : Shared)
   (D1 D4 : Addr) (us : List Value) (k4 : Nat) (ns : List Int) (ta tb tc tz : Tok) (o1 o2 o3 o4 : Obj) (ps : Array Value) (m : Str → Option Value) (rest : List Stmt) (Q : Flow → Shared → Prop) (E : Value → Shared → Prop)
   (hd : dp + 8 ≤ recursionLimit) (hu : un + 80 < cLine + 4)
   (F : Fr h₀ L s.heap (kstB m [(Str.ofString "data", .ref D4), (Str.ofString "size", .int (nsize ns : Nat) tz)]))
   (N : News h₀ L s.heap [(D4, { cls := .type "list", data := .seq (List.toArray us) k4 }), (D1, toldObj ns ta tb tc), (L + 1 + 1 + 1 + 1, o1), (L + 1 + 1 + 1, o2), (L + 1 + 1, o3), (L + 1, o4), (45, tabObj ps)])
   (dl : ∃ t, o3.data = .cell (some (.str (Tx (lets ns)) t))) (hus : Paired isN (dataOf ns) us)
   (cont : ∀ m' h' tk' tt, Fr h₀ L h' (kstB m' [(Str.ofString "text", .str (Tx (encText (lets ns) (dataOf ns))) tt), (Str.ofString "data", .ref D4), (Str.ofString "size", .int (nsize ns : Nat) tz)]) →
      News h₀ L h' [(D4, { cls := .type "list", data := .seq (List.toArray us) k4 }), (D1, toldObj ns ta tb tc), (L + 1 + 1 + 1 + 1, o1), (L + 1 + 1 + 1, o2), (L + 1 + 1, o3), (L + 1, o4), (45, tabObj ps)] →
      wpAny (model PySem.Challenge.rw_jy0013_01.row.prog w) { handled := none, depth := dp, frames := fr, guards := gd, units := un } (execs rest (LEnv L)) Q E { s with heap := h', toks := tk' }) :
   wpAny (model PySem.Challenge.rw_jy0013_01.row.prog w) { handled := none, depth := dp, frames := fr, guards := gd, units := un } (execs (stm 5 :: rest) (LEnv L)) Q E s := by
  obtain ⟨tq, dl⟩ := dl
  walk_at "seg"
  revert X; k_fill; intro X
  have hz := nsize_lt ns
  have hll := lets_len ns
  have hnl := nlet_le ns
  have hdl := data_len ns
  walk_at "ws"
  refine ⟨X.keeps F.keep, encode_call w mg mb _ (Tx (lets ns)) _ D4 us (dataOf ns) ⟨X.keeps F.keep, T0.keeps F.keep⟩ (News.isList N (.head _)) (ints_of_isN hus) (by rw [Tx_size]; omega) (by omega) (data_lt ns) dp un fr gd _ _ (by omega) (by omega) ?_⟩
  rintro v h2 tk2 hE2 ⟨tt, rfl⟩
  have F2 := F.keeps hE2
  have N2 := N.grown hE2
  clear F N
  rw [Tx_toList]
  walk_at "ws"
  (with_reducible rename Fr _ _ _ _ => F6)
  (with_reducible rename News _ _ _ _ => N6)
  exact cont _ _ _ tt (fr_names [(Str.ofString "text", .str (Tx (encText (lets ns) (dataOf ns))) tt), (Str.ofString "data", .ref D4), (Str.ofString "size", .int (nsize ns : Nat) tz)] F6 (by walk_at "names")) N6
/- part r_seg6 -/
set_option maxHeartbeats 16000000 in
theorem seg6 (w : World) (mg mb : Str → Option Value) (h₀ : Heap) (X : (hd.heap_39 w.params).In h₀) (T0 : TopRead hd.view_39 [] mg mb h₀) (L : Addr) (dp un : Nat) (fr : Option (List Env)) (gd : Option (List Code)) (s : Shared)
   (D1 D4 : Addr) (us : List Value) (k4 : Nat) (ns : List Int) (ta tb tc tz tt : Tok) (o1 o2 o3 o4 : Obj) (ps : Array Value) (m : Str → Option Value) (rest : List Stmt) (Q : Flow → Shared → Prop) (E : Value → Shared → Prop)
   (hd : dp + 8 ≤ recursionLimit) (hu : un + 80 < cLine + 4)
   (F : Fr h₀ L s.heap (kstB m [(Str.ofString "text", .str (Tx (encText (lets ns) (dataOf ns))) tt), (Str.ofString "data", .ref D4), (Str.ofString "size", .int (nsize ns : Nat) tz)]))
   (N : News h₀ L s.heap [(D4, { cls := .type "list", data := .seq (List.toArray us) k4 }), (D1, toldObj ns ta tb tc), (L + 1 + 1 + 1 + 1, o1), (L + 1 + 1 + 1, o2), (L + 1 + 1, o3), (L + 1, o4), (45, tabObj ps)])
   (dl : ∃ t, o3.data = .cell (some (.str (Tx (lets ns)) t)))
   (cont : ∀ m' h' tk', Fr h₀ L h' (kstB m' [(Str.ofString "text", .str (Tx (encText (lets ns) (dataOf ns))) tt), (Str.ofString "data", .ref D4), (Str.ofString "size", .int (nsize ns : Nat) tz)]) →
      News h₀ L h' [(D4, { cls := .type "list", data := .seq (List.toArray us) k4 }), (D1, toldObj ns ta tb tc), (L + 1 + 1 + 1 + 1, o1), (L + 1 + 1 + 1, o2), (L + 1 + 1, o3), (L + 1, o4), (45, tabObj ps)] →
      wpAny (model PySem.Challenge.rw_jy0013_01.row.prog w) { handled := none, depth := dp, frames := fr, guards := gd, units := un } (execs rest (LEnv L)) Q E { s with heap := h', toks := tk' }) :
   wpAny (model PySem.Challenge.rw_jy0013_01.row.prog w) { handled := none, depth := dp, frames := fr, guards := gd, units := un } (execs (stm 6 :: rest) (LEnv L)) Q E s := by
  obtain ⟨tq, dl⟩ := dl
  walk_at "seg"
  revert X; k_fill; intro X
  have hz := nsize_lt ns
  have hll := lets_len ns
  have hnl := nlet_le ns
  have hdl := data_len ns
  have hcl : (createCk (lets ns) (dataOf ns)).length = 6 := by rw [createCk, dig6_len]
  have htl : (encText (lets ns) (dataOf ns)).length = nlet ns + nsize ns + 7 := by
    rw [encText, List.length_append, List.length_append, List.length_map, List.length_append]; simp only [List.length_singleton]; omega
  walk_at "ws"
  refine PyProof.Rows.len_str (by rw [Tx_len]; omega) ?_
  rw [Tx_len]
  walk_at "ws"
  have hpre : (encText (lets ns) (dataOf ns)).take (lets ns ++ [49]).length = lets ns ++ [49] := by rw [encText, List.take_left]
  have hpost : (encText (lets ns) (dataOf ns)).drop (lets ns ++ [49]).length = (dataOf ns ++ createCk (lets ns) (dataOf ns)).map ch := by rw [encText, List.drop_left]
  rw [List.length_append, List.length_singleton] at hpre hpost
  refine slice_strN_ns (hsz := by rw [Tx_len, sizeLine_eq]; omega) (s := ⟨_, _, _, _, _⟩) F N ?_
  intro h2 t2 k2 F2 N2
  rw [slice_to _ (by omega) (by omega), show (((lets ns).length : Int) + 1).toNat = (lets ns).length + 1 from by omega, hpre]
  walk_at "ws"
  refine PyProof.Rows.add_str (fun t3 k3 => ?_) (by rw [sizeLine_eq, Tx_len, show (Str.ofString "1").length = 1 from by decide +kernel]; omega)
  rw [show Str.ofString "1" = Tx [49] from by decide +kernel, Tx_app]
  walk_at "ws"
  · exfalso; (with_reducible rename ((_ != _) = true) => hq); simp at hq
  refine PyProof.Rows.len_str (by rw [Tx_len]; omega) ?_
  rw [Tx_len]
  walk_at "ws"
  refine PyProof.Rows.len_str (by rw [Tx_len]; omega) ?_
  rw [Tx_len]
  walk_at "ws"
  · exfalso; omega
  refine comp_filter (is := isC) (out := isC) (q := fun c => !decide (c ∈ chs)) (g := id) isC_fun rfl (by with_unfolding_all rfl) (by decide) (by rfl) (by decide) (by rfl) ?_
  walk_at "ws"
  refine PyProof.Rows.len_str (by rw [Tx_len]; omega) ?_
  rw [Tx_len]
  walk_at "ws"
  refine slice_strN_sn (hsz := by rw [Tx_len, sizeLine_eq]; omega) (s := ⟨_, _, _, _, _⟩) F2 N2 ?_
  intro h4 t4 k4' F4 N4
  rw [slice_from _ (by omega) (by omega), show (((lets ns).length : Int) + 1).toNat = (lets ns).length + 1 from by omega, hpost]
  clear F2 N2
  generalize hzz : (dataOf ns ++ createCk (lets ns) (dataOf ns)).map ch = zz
  have hzl : zz.length = nsize ns + 6 := by rw [← hzz, List.length_map, List.length_append]; omega
  have hzin : ∀ c ∈ zz, c ∈ chs := by
    intro c hc
    rw [← hzz] at hc
    obtain ⟨d, hd, rfl⟩ := List.mem_map.mp hc
    rcases List.mem_append.mp hd with hd | hd
    · exact ch_mem (data_lt ns d hd)
    · exact ch_mem (dig6_lt _ d hd)
  refine ⟨zz, _, by rw [show zz.length = (Tx zz).cps.size from (Tx_size zz).symm]; exact Src.str, by rw [sizeLine_eq]; omega, fun i v hiv => by have := signs_at i v hiv; rwa [Tx_toList] at this, ?_, ?_, ?_⟩
  · rintro C c v s₃ m₃ E' hc ⟨td, rfl⟩ FC hm
    have X1 := X.keeps F4.keep
    have T1 := T0.keeps F4.keep
    clear F4 X T0 N4 F N
    have N : News _ C s₃.heap [] := News.nil (h₀ := s₃.heap)
    walk_at "ws"
    rw [charset_Tx]
    refine PyProof.Rows.notIn_str ?_
    have hfound := in_chs c
    walk_at "ws"
    exact ⟨by rw [hfound], _, _, rfl, fun _ _ e => e⟩
  · rintro C c v s₃ m₃ E' hc ⟨td, rfl⟩ hq FC hm
    exfalso; rw [decide_eq_true (hzin c hc)] at hq; cases hq
  · intro D h' tk ys hE hD hpl hpa
    have hys : ys = [] := by
      have e : zz.filter (fun c => !decide (c ∈ chs)) = [] := List.filter_eq_nil_iff.mpr fun c hc => by rw [decide_eq_true (hzin c hc)]; decide
      rw [e] at hpa
      cases hpa; rfl
    subst hys
    obtain ⟨k6, F6, N6, -⟩ := news_add F4 N4 hE hD hpl
    clear F4 N4
    walk_at "ws"
    (with_reducible rename Fr _ _ _ _ => F8)
    (with_reducible rename News _ _ _ _ => N8)
    exact cont m _ _ F8 (kst_newsOf N8 (by walk_at "trim"))
/- part r_seg7 -/
set_option maxHeartbeats 16000000 in
theorem seg7 (w : World) (mg mb : Str → Option Value) (bm : Addr) (ob : Obj) (h₀ : Heap) (X : (hd.heap_39 w.params).In h₀) (T0 : TopRead hd.view_39 [] mg mb h₀) (M0 : BMod h₀ mainGlobals mg bm ob) (L : Addr) (dp un : Nat) (fr : Option (List Env)) (gd : Option (List Code)) (s : Shared)
   (D1 D4 : Addr) (us : List Value) (k4 : Nat) (ns : List Int) (ta tb tc tz tt : Tok) (o1 o2 o3 o4 : Obj) (ps : Array Value) (m : Str → Option Value) (rest : List Stmt) (Q : Flow → Shared → Prop) (E : Value → Shared → Prop)
   (hd : dp + 8 ≤ recursionLimit) (hu : un + 80 < cLine + 4) (hg : AllBare s.gens) (htr : TriplesOk ps.toList) (hL45 : @LT.lt Nat _ 45 L)
   (F : Fr h₀ L s.heap (kstB m [(Str.ofString "text", .str (Tx (encText (lets ns) (dataOf ns))) tt), (Str.ofString "data", .ref D4), (Str.ofString "size", .int (nsize ns : Nat) tz)]))
   (N : News h₀ L s.heap [(D4, { cls := .type "list", data := .seq (List.toArray us) k4 }), (D1, toldObj ns ta tb tc), (L + 1 + 1 + 1 + 1, o1), (L + 1 + 1 + 1, o2), (L + 1 + 1, o3), (L + 1, o4), (45, tabObj ps)])
   (dt : o4.data = .cell (some (.ref D1))) (dl : ∃ t, o3.data = .cell (some (.str (Tx (lets ns)) t))) (hus : Paired isN (dataOf ns) us)
   (cont : ∀ (s' : Shared) m' ps', s'.os = s.os → AllBare s'.gens → TriplesOk ps'.toList → Fr h₀ L s'.heap (kstB m' [(Str.ofString "text", .str (Tx (encText (lets ns) (dataOf ns))) tt)]) →
      News h₀ L s'.heap [(D1, toldObj ns ta tb tc), (L + 1 + 1 + 1 + 1, o1), (L + 1 + 1 + 1, o2), (L + 1 + 1, o3), (L + 1, o4), (45, tabObj ps')] →
      wpAny (model PySem.Challenge.rw_jy0013_01.row.prog w) { handled := none, depth := dp, frames := fr, guards := gd, units := un } (execs rest (LEnv L)) Q E s') :
   wpAny (model PySem.Challenge.rw_jy0013_01.row.prog w) { handled := none, depth := dp, frames := fr, guards := gd, units := un } (execs (stm 7 :: rest) (LEnv L)) Q E s := by
  obtain ⟨tq, dl⟩ := dl
  have hD4 := ne_of_cls N (.head _) (by k_mem) (by intro q; cases q)
  have hD1 := ne_of_cls N (.tail _ (.head _)) (by k_mem) (by intro q; cases q)
  walk_at "seg"
  revert X; k_fill; intro X
  have hz := nsize_lt ns
  have hll := lets_len ns
  have hnl := nlet_le ns
  have hdl := data_len ns
  walk_at "wi"
  have hcl : ∀ c ∈ encText (lets ns) (dataOf ns), c < 128 := by
    intro c hc
    rcases List.mem_append.mp hc with hc | hc
    · rcases List.mem_append.mp hc with hc | hc
      · have := lets_rng ns c hc; omega
      · rw [List.mem_singleton.mp hc]; decide
    · obtain ⟨d, hd', rfl⟩ := List.mem_map.mp hc
      have hd32 : d < 32 := by
        rcases List.mem_append.mp hd' with hd' | hd'
        · exact data_lt ns d hd'
        · exact dig6_lt _ d hd'
      have := (ch_clean d hd32).1
      unfold clean at this; omega
  have hckl : (createCk (lets ns) (dataOf ns)).length = 6 := by rw [createCk, dig6_len]
  have htl : (encText (lets ns) (dataOf ns)).length = nlet ns + nsize ns + 7 := by
    rw [encText, List.length_append, List.length_append, List.length_map, List.length_append]; simp only [List.length_singleton]; omega
  refine wpAny_mono (Q := fun v s' => ∃ x t tk, v = .str x t ∧ Meets1 (encText (lets ns) (dataOf ns)) x ∧ s' = { s with toks := tk }) ?_ ?_ (fun _ _ e => e)
  · unfold toldObj at *
    walk1
    walk_at "ws"
    refine item_lit (vs := [Value.int (tl ns 0) ta, Value.int (tl ns 1) tb, Value.int (tl ns 2) tc]) (News.isList (by assumption) (.tail _ (.head _))) rfl ?_
    walk_at "ws"
    refine item_lit (vs := [Value.int (tl ns 0) ta, Value.int (tl ns 1) tb, Value.int (tl ns 2) tc]) (News.isList (by assumption) (.tail _ (.head _))) rfl ?_
    walk_at "ws"
    · exact ⟨_, _, _, rfl, .inl rfl, rfl⟩
    · refine SC.upper (by rw [upper_Tx hcl, Tx_len, List.length_map, htl]; unfold Builtin.Str.tooLong; rw [sizeLine_eq]; simp; omega) ?_
      rw [upper_Tx hcl]
      walk_at "ws"
      exact ⟨_, _, _, rfl, .inr rfl, rfl⟩
  · rintro v s' ⟨x, t, tk, rfl, hx, rfl⟩
    walk_at "ws"
    have hvlen : (dataOf ns ++ createCk (lets ns) (dataOf ns)).length = nsize ns + 6 := by rw [List.length_append]; omega
    refine ⟨X.keeps F.keep, decode_call w mg mb bm ob { s with toks := tk } x t (lets ns) (dataOf ns ++ createCk (lets ns) (dataOf ns)) ps ⟨X.keeps F.keep, T0.keeps F.keep, M0.keeps F.keep⟩ (N (45, tabObj ps) (by k_mem)).1 htr hg hx (lets_clean ns)
      (fun d hd' => by
        rcases List.mem_append.mp hd' with hd' | hd'
        · exact data_lt ns d hd'
        · exact dig6_lt _ d hd') (by omega) (by omega) (by omega) (by omega) dp un fr gd _ _ (by omega) (by omega) ?_⟩
    rintro v s' ps' hos hg' hE hP' htr' ⟨D, a, b, n, rfl, hD, hDg, hif⟩
    rw [if_pos (poly_create _ _)] at hif
    obtain ⟨t5, l5, vs5, rfl, rfl, hl5, ⟨k5, hl5g⟩, hi5⟩ := hif
    have hFN := after_P (pre := [(D4, { cls := .type "list", data := .seq (List.toArray us) k4 }), (D1, toldObj ns ta tb tc), (L + 1 + 1 + 1 + 1, o1), (L + 1 + 1 + 1, o2), (L + 1 + 1, o3), (L + 1, o4)]) F N (by
      intro p hp
      simp only [List.mem_cons, List.not_mem_nil, or_false] at hp
      rcases hp with rfl | rfl | rfl | rfl | rfl | rfl
      · exact hD4
      · exact hD1
      all_goals (refine neN ?_; dsimp only; omega)) hE hP'
    obtain ⟨F2, N2⟩ := hFN
    have N3 := news_in F N2 hl5 hl5g
    have N4 := news_in F N3 hD hDg
    rw [hvlen, show nsize ns + 6 - 6 = (dataOf ns).length from by omega, List.take_left' rfl] at hi5
    dsimp only [List.cons_append, List.nil_append] at N4
    clear N3 N2 F N hE hD hl5
    repeat' ((with_reducible fail_if_success (show wpAny _ _ (compareOp _ (Value.ref _) (Value.ref _)) _ _ _)); walk_at "ws1")
    (with_reducible rename Fr _ _ _ _ => F8)
    (with_reducible rename News _ _ _ _ => N8)
    obtain ⟨as1, r1⟩ := reads_pair (N8 (D, _) (.tail _ (.head _))).1 (N8 (l5, _) (.tail _ (.tail _ (.head _)))).1 hi5
    obtain ⟨as2, r2⟩ := reads_pair (N8 _ (.head _)).1 (N8 (D4, _) (.tail _ (.tail _ (.tail _ (.head _))))).1 (ints_of_isN hus)
    have hok : PyData.strOk (Tx (lets ns)) = true := strOk_Tx fun c hc => by have := lets_rng ns c hc; omega
    refine ne_dataH r1 r2 (shaped_pair _ _ hok) (shaped_pair _ _ hok) (by dsimp only; omega) ?_
    rw [eqv_pair, Bool.not_true]
    clear r1 r2
    walk_at "ws"
    exact cont _ _ ps' hos hg' htr' (fr_names [(Str.ofString "text", .str (Tx (encText (lets ns) (dataOf ns))) tt)] F8 (by walk_at "names")) (kst_newsOf N8 (by walk_at "trim"))
/- part r_seg8 -/
def placesOf (ns : List Int) : List Nat := (List.range (nlet ns + nsize ns + 7)).filter fun p => p != nlet ns
set_option maxHeartbeats 16000000 in
theorem seg8 (w : World) (mg mb : Str → Option Value) (h₀ : Heap) (X : (hd.heap_39 w.params).In h₀) (T0 : TopRead hd.view_39 [] mg mb h₀) (L : Addr) (dp un : Nat) (fr : Option (List Env)) (gd : Option (List Code)) (s : Shared)
   (D1 : Addr) (ns : List Int) (ta tb tc tt : Tok) (o1 o2 o3 o4 : Obj) (ps : Array Value) (m : Str → Option Value) (rest : List Stmt) (Q : Flow → Shared → Prop) (E : Value → Shared → Prop)
   (F : Fr h₀ L s.heap (kstB m [(Str.ofString "text", .str (Tx (encText (lets ns) (dataOf ns))) tt)]))
   (N : News h₀ L s.heap [(D1, toldObj ns ta tb tc), (L + 1 + 1 + 1 + 1, o1), (L + 1 + 1 + 1, o2), (L + 1 + 1, o3), (L + 1, o4), (45, tabObj ps)])
   (dt : o4.data = .cell (some (.ref D1))) (dl : ∃ t, o3.data = .cell (some (.str (Tx (lets ns)) t)))
   (cont : ∀ h' tk' m' Ds Dp zs pls kz kp tr, Fr h₀ L h' (kstB m' [(Str.ofString "rest", .int (((tl ns 2).natAbs / 4 : Nat) : Int) tr), (Str.ofString "places", .ref Dp), (Str.ofString "signs", .ref Ds)]) →
      News h₀ L h' [(Dp, { cls := .type "list", data := .seq (List.toArray pls) kp }), (Ds, { cls := .type "list", data := .seq (List.toArray zs) kz }), (D1, toldObj ns ta tb tc), (L + 1 + 1 + 1 + 1, o1), (L + 1 + 1 + 1, o2), (L + 1 + 1, o3), (L + 1, o4), (45, tabObj ps)] →
      Paired isC (encText (lets ns) (dataOf ns)) zs → Paired isN (placesOf ns) pls → (∀ b ∈ [D1, L + 1 + 1 + 1 + 1, L + 1 + 1 + 1, L + 1 + 1, L + 1, 45], @Ne Nat b Ds) → (∀ b ∈ [Ds, D1, L + 1 + 1 + 1 + 1, L + 1 + 1 + 1, L + 1 + 1, L + 1, 45], @Ne Nat b Dp) →
      wpAny (model PySem.Challenge.rw_jy0013_01.row.prog w) { handled := none, depth := dp, frames := fr, guards := gd, units := un } (execs rest (LEnv L)) Q E { s with heap := h', toks := tk' }) :
   wpAny (model PySem.Challenge.rw_jy0013_01.row.prog w) { handled := none, depth := dp, frames := fr, guards := gd, units := un } (execs (stm 8 :: stm 9 :: stm 10 :: rest) (LEnv L)) Q E s := by
  obtain ⟨tq, dl⟩ := dl
  walk_at "seg"
  revert X; k_fill; intro X
  have hz := nsize_lt ns
  have hll := lets_len ns
  have hnl := nlet_le ns
  have hdl := data_len ns
  have hckl : (createCk (lets ns) (dataOf ns)).length = 6 := by rw [createCk, dig6_len]
  have htl : (encText (lets ns) (dataOf ns)).length = nlet ns + nsize ns + 7 := by
    rw [encText, List.length_append, List.length_append, List.length_map, List.length_append]; simp only [List.length_singleton]; omega
  generalize hzz : encText (lets ns) (dataOf ns) = zz at *
  walk_at "ws"
  refine asg_map h₀ (is := isC) (out := isC) (g := id) isC_fun rfl (by with_unfolding_all rfl) (by with_unfolding_all rfl) (by decide) (by rfl) (by decide) (by rfl) (by rfl) (by rfl) ?_ (by intro _; with_unfolding_all rfl)
  walk_at "ws"
  refine ⟨zz, _, _, _, by rw [show zz.length = (Tx zz).cps.size from (Tx_size zz).symm]; exact Src.str, by rw [sizeLine_eq]; omega, fun i v hiv => by have := signs_at i v hiv; rwa [Tx_toList] at this, F, N, ?_, ?_⟩
  · rintro C c v s₃ m₃ E' hc ⟨td, rfl⟩ FC hm
    clear F N
    have N : News _ C s₃.heap [] := News.nil (h₀ := s₃.heap)
    walk_at "ws"
    show isC _ _ ∧ Keeps _ _
    exact ⟨⟨_, rfl⟩, _, _, rfl, fun _ _ e => e⟩
  · intro Ds h2 tk2 zs kz F2 N2 hne hpa
    rw [List.map_id] at hpa
    have hds : ∀ b ∈ [D1, L + 1 + 1 + 1 + 1, L + 1 + 1 + 1, L + 1 + 1, L + 1, 45], @Ne Nat b Ds := by
      refine List.forall_mem_cons.mpr ⟨hne _ _ (N (D1, _) (by k_mem)).1, List.forall_mem_cons.mpr ⟨hne _ _ (N (_, o1) (by k_mem)).1, List.forall_mem_cons.mpr ⟨hne _ _ (N (_, o2) (by k_mem)).1, List.forall_mem_cons.mpr ⟨hne _ _ (N (_, o3) (by k_mem)).1,
        List.forall_mem_cons.mpr ⟨hne _ _ (N (_, o4) (by k_mem)).1, List.forall_mem_cons.mpr ⟨hne _ _ (N (45, _) (by k_mem)).1, List.forall_mem_nil _⟩⟩⟩⟩⟩⟩
    clear F N
    walk_at "ws"
    refine asg_filter h₀ (is := isN) (out := isN) (q := fun p => p != nlet ns) (g := id) isN_fun rfl (by with_unfolding_all rfl) (by with_unfolding_all rfl) (by decide) (by rfl) (by decide) (by rfl) (by rfl) (by rfl) ?_ (by intro _; with_unfolding_all rfl)
    walk_at "ws"
    refine PyProof.Rows.len_str (by rw [Tx_len]; omega) ?_
    rw [Tx_len, htl]
    walk_at "ws"
    with_reducible rename IsRange _ _ _ _ _ _ _ _ => R5
    with_reducible rename Fr _ _ _ _ => F5
    with_reducible rename News _ _ _ _ => N5
    refine ⟨List.range (nlet ns + nsize ns + 7), _, _, _, by rw [List.length_range]; exact Src.range R5 (range_small (by omega)) (range_size _), by rw [List.length_range, sizeLine_eq]; omega, fun i v h => range_at i v (by simpa using h), F5, N5, ?_, ?_, ?_⟩
    · rintro C p v s₃ m₃ E' hp ⟨tp, rfl⟩ FC hm
      have X1 := X.keeps F5.keep
      have T1 := T0.keeps F5.keep
      have hcell : Heap.IsCell _ (L + 1 + 1) (some (Value.str (Tx (lets ns)) tq)) := ⟨_, (N5 (L + 1 + 1, o3) (by k_mem)).1, dl⟩
      clear F5 X T0 dl N5
      have N : News _ C s₃.heap [] := News.nil (h₀ := s₃.heap)
      walk_at "ws"
      refine PyProof.Rows.len_str (by rw [Tx_len]; omega) ?_
      rw [Tx_len, hll]
      walk_at "ws"
      refine ⟨?_, _, _, rfl, fun _ _ e => e⟩
      rw [Bool.eq_iff_iff, bne_iff_ne, bne_iff_ne]
      omega
    · rintro C p v s₃ m₃ E' hp ⟨tp, rfl⟩ hq FC hm
      clear F5 N5
      have N : News _ C s₃.heap [] := News.nil (h₀ := s₃.heap)
      walk_at "ws"
      show isN _ _ ∧ Keeps _ _
      exact ⟨⟨_, rfl⟩, _, _, rfl, fun _ _ e => e⟩
    · intro Dp h3 tk3 pls kp F6 N6 hne2 hpa2
      rw [List.map_id] at hpa2
      have hdd : ∀ b ∈ [Ds, D1, L + 1 + 1 + 1 + 1, L + 1 + 1 + 1, L + 1 + 1, L + 1, 45], @Ne Nat b Dp := by
        refine List.forall_mem_cons.mpr ⟨hne2 _ _ (N5 (Ds, _) (by k_mem)).1, List.forall_mem_cons.mpr ⟨hne2 _ _ (N5 (D1, _) (by k_mem)).1, List.forall_mem_cons.mpr ⟨hne2 _ _ (N5 (_, o1) (by k_mem)).1, List.forall_mem_cons.mpr ⟨hne2 _ _ (N5 (_, o2) (by k_mem)).1, List.forall_mem_cons.mpr ⟨hne2 _ _ (N5 (_, o3) (by k_mem)).1,
          List.forall_mem_cons.mpr ⟨hne2 _ _ (N5 (_, o4) (by k_mem)).1, List.forall_mem_cons.mpr ⟨hne2 _ _ (N5 (45, _) (by k_mem)).1, List.forall_mem_nil _⟩⟩⟩⟩⟩⟩⟩
      clear F5 N5
      unfold toldObj at *
      walk_at "ws"
      refine item_lit (vs := [Value.int (tl ns 0) ta, Value.int (tl ns 1) tb, Value.int (tl ns 2) tc]) (News.isList (by assumption) (.tail _ (.tail _ (.head _)))) rfl ?_
      walk_at "ws"
      (with_reducible rename Fr _ _ _ _ => F8)
      (with_reducible rename News _ _ _ _ => N8)
      have e4 : (if tl ns 2 < 0 then -tl ns 2 else tl ns 2).fdiv 4 = (((tl ns 2).natAbs / 4 : Nat) : Int) := abs_fdiv _ 4
      rw [e4] at F8
      exact cont _ _ _ Ds Dp zs pls kz kp _ (fr_names [(Str.ofString "rest", .int (((tl ns 2).natAbs / 4 : Nat) : Int) _), (Str.ofString "places", .ref Dp), (Str.ofString "signs", .ref Ds)] F8 (by walk_at "names")) N8 hpa hpa2 hds hdd
/- part r_t1def -/
/-- one turn of the law's loop, on codes, places and the rest -/
def newSign (nl c r p : Nat) : Nat := if p < nl then 97 + (c - 96 + r % 25) % 26 else ch ((chs.idxOf c + 1 + r % 31) % 32)
def stepL (nl : Nat) (st : List Nat × List Nat × Nat) : List Nat × List Nat × Nat :=
  let p := st.2.1.getD (st.2.2 % st.2.1.length) 0
  (st.1.set p (newSign nl (st.1.getD p 0) (st.2.2 / st.2.1.length) p), st.2.1.filter (fun q => q != p), st.2.2 / st.2.1.length / 31)
def iterL (nl : Nat) (st : List Nat × List Nat × Nat) : Nat → List Nat × List Nat × Nat
  | 0 => st
  | n + 1 => stepL nl (iterL nl st n)
structure InvL (nl n k : Nat) (st : List Nat × List Nat × Nat) : Prop where
  len : st.1.length = n
  low : ∀ p, p < nl → 97 ≤ st.1.getD p 0 ∧ st.1.getD p 0 ≤ 122
  high : ∀ p, nl < p → p < n → st.1.getD p 0 ∈ chs
  mid : st.1.getD nl 0 = 49
  rng : ∀ p ∈ st.2.1, p < n ∧ p ≠ nl
  dup : st.2.1.Nodup
  cnt : st.2.1.length + k = n - 1
theorem getD_set {l : List Nat} {i j a d : Nat} : (l.set i a).getD j d = if i = j ∧ i < l.length then a else l.getD j d := by
  simp only [List.getD_eq_getElem?_getD, List.getElem?_set]
  by_cases h : i = j
  · subst h
    by_cases h2 : i < l.length
    · simp [h2]
    · simp [h2, List.getElem?_eq_none (Nat.le_of_not_lt h2)]
  · simp [h]
theorem getD_mem {l : List Nat} {i : Nat} (h : i < l.length) : l.getD i 0 ∈ l := by
  rw [List.getD_eq_getElem?_getD, List.getElem?_eq_getElem h]; exact List.getElem_mem h
theorem nodup_filter_len {l : List Nat} {p : Nat} (hd : l.Nodup) (hp : p ∈ l) : (l.filter (fun q => q != p)).length + 1 = l.length := by
  have e : l.erase p = l.filter (fun q => q != p) := hd.erase_eq_filter p
  rw [← e, List.length_erase_of_mem hp]
  have := List.length_pos_of_mem hp
  omega
theorem InvL.step {nl n k : Nat} {st : List Nat × List Nat × Nat} (h : InvL nl n k st) (hk : k + 2 ≤ n) (hnl : nl < n) : InvL nl n (k + 1) (stepL nl st) := by
  have hpos : 0 < st.2.1.length := by have := h.cnt; omega
  have hm := getD_mem (l := st.2.1) (Nat.mod_lt st.2.2 hpos)
  obtain ⟨h1, h2⟩ := h.rng _ hm
  have hl := nodup_filter_len h.dup hm
  unfold stepL
  generalize st.2.1.getD (st.2.2 % st.2.1.length) 0 = p at *
  generalize st.2.2 / st.2.1.length = r
  refine ⟨by rw [List.length_set]; exact h.len, fun q hq => ?_, fun q hq hq2 => ?_, ?_, fun q hq => h.rng q (List.mem_filter.mp hq).1, h.dup.sublist List.filter_sublist, by have := h.cnt; dsimp only; omega⟩
  · dsimp only
    rw [getD_set]
    split
    · rename_i e
      rw [newSign, if_pos (by omega)]; omega
    · exact h.low q hq
  · dsimp only
    rw [getD_set]
    split
    · rename_i e
      rw [newSign, if_neg (by omega)]
      exact ch_mem (Nat.mod_lt _ (by decide))
    · exact h.high q hq hq2
  · dsimp only
    rw [getD_set, if_neg (by omega)]; exact h.mid
theorem InvL.iter {nl n : Nat} {st : List Nat × List Nat × Nat} (h : InvL nl n 0 st) (hnl : nl < n) : ∀ k, k + 1 ≤ n → InvL nl n k (iterL nl st k)
  | 0, _ => h
  | k + 1, hk => (InvL.iter h hnl k (by omega)).step (by omega) hnl
def st0 (ns : List Int) : List Nat × List Nat × Nat := (encText (lets ns) (dataOf ns), placesOf ns, (tl ns 2).natAbs / 4)
theorem nats_at {pl : List Nat} {vs : List Value} (h : Paired isN pl vs) (k : Nat) (hk : k < pl.length) : ∃ t, vs[k]? = some (.int ((pl.getD k 0 : Nat) : Int) t) := by
  obtain ⟨v, hv⟩ : ∃ v, vs[k]? = some v := ⟨_, List.getElem?_eq_getElem (by rw [← h.length]; exact hk)⟩
  obtain ⟨a, ha, t, e⟩ := paired_at h k v hv
  refine ⟨t, ?_⟩
  rw [hv, e, List.getD_eq_getElem?_getD, ha]; rfl
theorem signs_item {sg : List Nat} {vs : List Value} (h : Paired isC sg vs) (k : Nat) (hk : k < sg.length) : ∃ t, vs[k]? = some (.str ⟨#[sg.getD k 0]⟩ t) := by
  obtain ⟨v, hv⟩ : ∃ v, vs[k]? = some v := ⟨_, List.getElem?_eq_getElem (by rw [← h.length]; exact hk)⟩
  obtain ⟨a, ha, t, e⟩ := paired_at h k v hv
  refine ⟨t, ?_⟩
  rw [hv, e, List.getD_eq_getElem?_getD, ha]; rfl
theorem paired_set {α : Type} {R : α → Value → Prop} : ∀ {as : List α} {vs : List Value} (k : Nat) {a : α} {v : Value}, Paired R as vs → R a v → Paired R (as.set k a) (vs.set k v)
  | _, _, _, _, _, .nil, _ => .nil
  | _, _, 0, _, _, .cons _ t, h => .cons h t
  | _, _, k + 1, _, _, .cons h0 t, h => .cons h0 (paired_set k t h)
section
variable {prog : Program} {w : World} {A : Around} {E : Value → Shared → Prop} {s : Shared}
theorem modn_as {x y : Int} {a b : Nat} {t u : Tok} {Q : Value → Shared → Prop} (hx : x = (a : Int)) (hy : y = (b : Int)) (hb : 0 < b) (h : Q (.int ((a % b : Nat) : Int) s.toks) { s with toks := s.toks + 1 }) :
    wpAny (model prog w) A (binaryOp .Mod (.int x t) (.int y u)) Q E s := by
  refine mod_as hy hb ?_
  subst hx
  rw [show ((a : Int) % (b : Int)).toNat = a % b from by rw [← Int.natCast_emod, Int.toNat_natCast]]
  exact h
theorem setItem_N {h₀ : Heap} {L l : Addr} {m : Str → Option Value} {news : List (Addr × Obj)} {g : Obj → List (Addr × Obj)} {oz : Obj} {zs : List Value} {k : Int} {t : Tok} {v : Value} {Q : Unit → Shared → Prop}
    (F : Fr h₀ L s.heap m) (N : News h₀ L s.heap news) (U : UpdF l oz news g) (hz : oz.cls = .type "list" ∧ ∃ n, oz.data = .seq (List.toArray zs) n) (h0 : 0 ≤ k) (hfit : k < 2 ^ 63) (hn : k.toNat < zs.length)
    (h : ∀ h' o', Fr h₀ L h' m → News h₀ L h' (g o') → (o'.cls = .type "list" ∧ ∃ n, o'.data = .seq (List.toArray (zs.set k.toNat v)) n) → Q () { s with heap := h' }) :
    wpAny (model prog w) A (setItem (.ref l) (.int k t) v) Q E s := by
  obtain ⟨own, rest, rfl, hg, h1, h2⟩ := U.split
  have hmem := N (l, oz) (List.mem_append_right _ (.head _))
  refine wpAny_setItem_list ⟨oz, hmem.1, hz.1, hz.2⟩ h0 hfit (by rw [List.size_toArray]; omega) fun h' hl hs => ?_
  obtain ⟨o', ho', hc', n', hd'⟩ := hl
  refine h h' o' ⟨F.ns.sameBut hs (Ne.symm hmem.2.1), fun b ob e => (hs.2 b (fun q => ?_)).trans (F.keep b ob e), F.above⟩ (hg o' ▸ N.setAt h1 h2 hs ho') ⟨hc', n', by rw [hd', List.setIfInBounds_toArray]⟩
  rw [q, hmem.2.2] at e; cases e
end
/- part r_t2loop -/
theorem find_chs {c : Nat} (h : c ∈ chs) : Txt.find (Tx chs) ⟨#[c]⟩ = ((chs.idxOf c : Nat) : Int) := by
  have key : ∀ c ∈ chs, Txt.find (Tx chs) ⟨#[c]⟩ = ((chs.idxOf c : Nat) : Int) := by decide +kernel
  exact key c h
def LoopJ (ns : List Int) (L D1 Ds : Addr) (ta tb tc : Tok) (o2 o3 o4 : Obj) (ps : Array Value) (i : Nat) (m : Str → Option Value) (nx : List (Addr × Obj)) : Prop :=
  ∃ Dp zs pls oz kp o1 tr vc, nx = [(Dp, { cls := .type "list", data := .seq (List.toArray pls) kp }), (Ds, oz), (D1, toldObj ns ta tb tc), (L + 1 + 1 + 1 + 1, o1), (L + 1 + 1 + 1, o2), (L + 1 + 1, o3), (L + 1, o4), (45, tabObj ps)] ∧
    m (Str.ofString "places") = some (.ref Dp) ∧ m (Str.ofString "signs") = some (.ref Ds) ∧ m (Str.ofString "rest") = some (.int (((iterL (nlet ns) (st0 ns) i).2.2 : Nat) : Int) tr) ∧
    Paired isC (iterL (nlet ns) (st0 ns) i).1 zs ∧ Paired isN (iterL (nlet ns) (st0 ns) i).2.1 pls ∧ o1.data = .cell vc ∧ (oz.cls = .type "list" ∧ ∃ n, oz.data = .seq (List.toArray zs) n) ∧ (∀ b ∈ [Ds, D1, L + 1 + 1 + 1 + 1, L + 1 + 1 + 1, L + 1 + 1, L + 1, 45], @Ne Nat b Dp)
set_option maxHeartbeats 16000000 in
theorem seg11 (w : World) (mg mb : Str → Option Value) (h₀ : Heap) (X : (hd.heap_39 w.params).In h₀) (T0 : TopRead hd.view_39 [] mg mb h₀) (L : Addr) (dp un : Nat) (fr : Option (List Env)) (gd : Option (List Code)) (s : Shared)
   (D1 Ds Dp : Addr) (zs pls : List Value) (kz kp : Nat) (ns : List Int) (ta tb tc tr : Tok) (o1 o2 o3 o4 : Obj) (ps : Array Value) (m : Str → Option Value) (rest : List Stmt) (Q : Flow → Shared → Prop) (E : Value → Shared → Prop) (v1 : Option Value)
   (F : Fr h₀ L s.heap (kstB m [(Str.ofString "rest", .int (((tl ns 2).natAbs / 4 : Nat) : Int) tr), (Str.ofString "places", .ref Dp), (Str.ofString "signs", .ref Ds)]))
   (N : News h₀ L s.heap [(Dp, { cls := .type "list", data := .seq (List.toArray pls) kp }), (Ds, { cls := .type "list", data := .seq (List.toArray zs) kz }), (D1, toldObj ns ta tb tc), (L + 1 + 1 + 1 + 1, o1), (L + 1 + 1 + 1, o2), (L + 1 + 1, o3), (L + 1, o4), (45, tabObj ps)])
   (dt : o4.data = .cell (some (.ref D1))) (dl : ∃ t, o3.data = .cell (some (.str (Tx (lets ns)) t))) (d1 : o1.data = .cell v1) (hL45 : @LT.lt Nat _ 45 L) (hD1 : @LT.lt Nat _ (L + 4) D1)
   (hzs : Paired isC (encText (lets ns) (dataOf ns)) zs) (hpl : Paired isN (placesOf ns) pls)
   (hds : ∀ b ∈ [D1, L + 1 + 1 + 1 + 1, L + 1 + 1 + 1, L + 1 + 1, L + 1, 45], @Ne Nat b Ds) (hdp : ∀ b ∈ [Ds, D1, L + 1 + 1 + 1 + 1, L + 1 + 1 + 1, L + 1 + 1, L + 1, 45], @Ne Nat b Dp)
   (hinv : InvL (nlet ns) (nlet ns + nsize ns + 7) 0 (st0 ns))
   (hE : PassesOwn (model PySem.Challenge.rw_jy0013_01.row.prog w) { handled := none, depth := dp, frames := fr, guards := gd, units := un } (LEnv L) E)
   (cont : ∀ h' tk' m' nx, Fr h₀ L h' m' → News h₀ L h' nx → LoopJ ns L D1 Ds ta tb tc o2 o3 o4 ps (1 + (tl ns 2 % 4).toNat) m' nx →
      wpAny (model PySem.Challenge.rw_jy0013_01.row.prog w) { handled := none, depth := dp, frames := fr, guards := gd, units := un } (execs rest (LEnv L)) Q E { s with heap := h', toks := tk' }) :
   wpAny (model PySem.Challenge.rw_jy0013_01.row.prog w) { handled := none, depth := dp, frames := fr, guards := gd, units := un } (execs (stm 11 :: rest) (LEnv L)) Q E s := by
  obtain ⟨tq, dl⟩ := dl
  revert hE cont
  walk_at "seg"
  intro hE cont
  revert X; k_fill; intro X
  have hz := nsize_lt ns
  have hll := lets_len ns
  have hnl := nlet_le ns
  have hdl := data_len ns
  walk_at "ws"
  refine For_invVF F (by rfl) (by rfl) ?_ (by intro _; rfl) hE
  walk_at "ws"
  refine item_lit (vs := [Value.int (tl ns 0) ta, Value.int (tl ns 1) tb, Value.int (tl ns 2) tc]) (News.isList (by assumption) (.tail _ (.tail _ (.head _)))) rfl ?_
  walk_at "ws"
  with_reducible rename IsRange _ _ _ _ _ _ _ _ => R5
  with_reducible rename Fr _ _ _ _ => F5
  with_reducible rename News _ _ _ _ => N5
  have hnk : 1 + (tl ns 2).fmod 4 = ((1 + (tl ns 2 % 4).toNat : Nat) : Int) := by
    rw [Int.fmod_eq_emod_of_nonneg _ (by decide)]; omega
  rw [hnk] at R5
  have hk4 : 1 + (tl ns 2 % 4).toNat ≤ 4 := by omega
  generalize 1 + (tl ns 2 % 4).toNat = nk at *
  refine iter_rangeM (n := nk) (LoopJ ns L D1 Ds ta tb tc o2 o3 o4 ps) rfl R5 (range_small (by omega)) (range_size _) F5 N5 ⟨Dp, zs, pls, _, kp, o1, tr, v1, rfl, rfl, rfl, rfl, hzs, hpl, d1, ⟨rfl, _, rfl⟩, hdp⟩ ?_ ?_
  · rintro i tt m₁ nx h tk it oit hit hik ⟨Dp', zs', pls', oz, kp', o1', tr', v1', rfl, mp, ms, mr, hzs', hpl', d1', hoz, hdp'⟩ hoff F6 N6
    clear F5 N5 R5
    have hI := InvL.iter hinv (by omega) i (by omega)
    have hst : iterL (nlet ns) (st0 ns) (i + 1) = stepL (nlet ns) (iterL (nlet ns) (st0 ns) i) := rfl
    unfold LoopJ
    rw [hst]
    generalize iterL (nlet ns) (st0 ns) i = st at *
    obtain ⟨sg, pl, r⟩ := st
    dsimp only at mr hzs' hpl'
    have hpos : 0 < pl.length := by have := hI.cnt; dsimp only at this; omega
    have hmem := getD_mem (l := pl) (Nat.mod_lt r hpos)
    obtain ⟨hp1, hp2⟩ := hI.rng _ hmem
    have hsl : sg.length = nlet ns + nsize ns + 7 := hI.len
    have hpl1 : pl.length ≤ nlet ns + nsize ns + 7 := by have := hI.cnt; dsimp only at this; omega
    have hplv : pls'.length = pl.length := hpl'.length.symm
    have hzsv : zs'.length = sg.length := hzs'.length.symm
    have F7 := fr_names [(Str.ofString "rest", .int (r : Int) tr'), (Str.ofString "places", .ref Dp'), (Str.ofString "signs", .ref Ds)] F6 (List.forall_mem_cons.mpr ⟨mr, List.forall_mem_cons.mpr ⟨mp, List.forall_mem_cons.mpr ⟨ms, List.forall_mem_nil _⟩⟩⟩)
    clear F6 mr mp ms
    have q1 : @Ne Nat D1 Ds := hds _ (by k_mem)
    have q2 : @Ne Nat (L + 1 + 1 + 1 + 1) Ds := hds _ (by k_mem)
    have q3 : @Ne Nat (L + 1 + 1 + 1) Ds := hds _ (by k_mem)
    have q4 : @Ne Nat (L + 1 + 1) Ds := hds _ (by k_mem)
    have q5 : @Ne Nat (L + 1) Ds := hds _ (by k_mem)
    have q6 : @Ne Nat 45 Ds := hds _ (by k_mem)
    have u0 : @Ne Nat Ds Dp' := hdp' _ (by k_mem)
    have u1 : @Ne Nat D1 Dp' := hdp' _ (by k_mem)
    have u2 : @Ne Nat (L + 1 + 1 + 1 + 1) Dp' := hdp' _ (by k_mem)
    have i0 : @Ne Nat Ds it := hoff _ (.tail _ (.head _))
    have i1 : @Ne Nat D1 it := hoff _ (.tail _ (.tail _ (.head _)))
    have i2 : @Ne Nat (L + 1 + 1 + 1 + 1) it := hoff _ (.tail _ (.tail _ (.tail _ (.head _))))
    walk_at "wp"
    refine len_list (News.isList N6 (.tail _ (.head _))) (by rw [List.size_toArray]; omega) ?_
    rw [List.size_toArray, hplv]
    refine modn_as rfl rfl hpos ?_
    obtain ⟨tp, hpv⟩ := nats_at hpl' (r % pl.length) (Nat.mod_lt _ hpos)
    refine item_lit (vs := pls') (News.isList N6 (.tail _ (.head _))) (by rw [Int.toNat_natCast]; exact hpv) ?_ (by omega) (by have := Nat.mod_lt r hpos; omega)
    have hs1 : stepL (nlet ns) (sg, pl, r) = (sg.set (pl.getD (r % pl.length) 0) (newSign (nlet ns) (sg.getD (pl.getD (r % pl.length) 0) 0) (r / pl.length) (pl.getD (r % pl.length) 0)), pl.filter (fun q => q != pl.getD (r % pl.length) 0), r / pl.length / 31) := rfl
    rw [hs1]
    generalize pl.getD (r % pl.length) 0 = p at *
    clear hst hs1
    walk_at "wp"
    (with_reducible rename Obj => oc)
    (with_reducible rename (oc.data = _) => dc)
    clear d1'
    (with_reducible rename Fr _ _ _ _ => F8)
    (with_reducible rename News _ _ _ _ => N8)
    refine len_list (News.isList N8 (.tail _ (.head _))) (by rw [List.size_toArray]; omega) ?_
    rw [List.size_toArray, hplv]
    refine floordiv_as (a := r) (b := pl.length) rfl rfl hpos (Nat.lt_of_le_of_lt (Nat.log2_le_self _) (by omega)) ?_
    walk_at "wp"
    (with_reducible rename Fr _ _ _ _ => F9)
    (with_reducible rename News _ _ _ _ => N9)
    refine asg_filter h₀ (is := isN) (out := isN) (q := fun q => q != p) (g := id) isN_fun rfl (by with_unfolding_all rfl) (by with_unfolding_all rfl) (by decide) (by rfl) (by decide) (by rfl) (by rfl) (by rfl) ?_ (by intro _; with_unfolding_all rfl)
    walk_at "wp"
    refine ⟨pl, _, _, _, Src.of (News.isList N9 (.tail _ (.head _))) hpl', by rw [sizeLine_eq]; omega, fun j v h => paired_at hpl' j v h, F9, N9, ?_, ?_, ?_⟩
    · rintro C q v s₃ m₃ E' hq ⟨tq2, rfl⟩ FC hm
      have X1 := X.keeps F9.keep
      have T1 := T0.keeps F9.keep
      have hcell : Heap.IsCell _ (L + 1 + 1 + 1 + 1) (some (Value.int (p : Int) tp)) := ⟨_, (N9 (L + 1 + 1 + 1 + 1, oc) (by k_mem)).1, dc⟩
      clear F9 X T0 dl N9 N6 dc
      have N : News _ C s₃.heap [] := News.nil (h₀ := s₃.heap)
      walk_at "ws"
      refine ⟨?_, _, _, rfl, fun _ _ e => e⟩
      rw [Bool.eq_iff_iff, bne_iff_ne, bne_iff_ne]
      omega
    · rintro C q v s₃ m₃ E' hq ⟨tq2, rfl⟩ hq2 FC hm
      clear F9 N9 N6
      have N : News _ C s₃.heap [] := News.nil (h₀ := s₃.heap)
      walk_at "ws"
      show isN _ _ ∧ Keeps _ _
      exact ⟨⟨_, rfl⟩, _, _, rfl, fun _ _ e => e⟩
    · intro Dq h9 tk9 qls kq F10 N10 hne hpq
      rw [List.map_id] at hpq
      have hdq : ∀ b ∈ [Ds, D1, L + 1 + 1 + 1 + 1, L + 1 + 1 + 1, L + 1 + 1, L + 1, 45], @Ne Nat b Dq := by
        refine List.forall_mem_cons.mpr ⟨hne _ _ (N9 (Ds, _) (by k_mem)).1, List.forall_mem_cons.mpr ⟨hne _ _ (N9 (D1, _) (by k_mem)).1, List.forall_mem_cons.mpr ⟨hne _ _ (N9 (_, oc) (by k_mem)).1, List.forall_mem_cons.mpr ⟨hne _ _ (N9 (_, o2) (by k_mem)).1, List.forall_mem_cons.mpr ⟨hne _ _ (N9 (_, o3) (by k_mem)).1,
          List.forall_mem_cons.mpr ⟨hne _ _ (N9 (_, o4) (by k_mem)).1, List.forall_mem_cons.mpr ⟨hne _ _ (N9 (45, _) (by k_mem)).1, List.forall_mem_nil _⟩⟩⟩⟩⟩⟩⟩
      have hiq : @Ne Nat it Dq := hne _ _ (N9 (it, _) (by k_mem)).1
      have w0 : @Ne Nat Ds Dq := hdq _ (by k_mem)
      have F11 := fr_names [(Str.ofString "rest", .int ((r / pl.length : Nat) : Int) _), (Str.ofString "places", .ref Dq), (Str.ofString "signs", .ref Ds)] F10 (by walk_at "names")
      have N11 : News h₀ L h9 [(it, oit), (Dq, { cls := .type "list", data := .seq (List.toArray qls) kq }), (Ds, oz), (D1, toldObj ns ta tb tc), (L + 1 + 1 + 1 + 1, oc), (L + 1 + 1 + 1, o2), (L + 1 + 1, o3), (L + 1, o4), (45, tabObj ps)] := kst_newsOf N10 (by walk_at "trim")
      clear F10 N10 F9 N9 N6
      try dsimp only
      walk_at "wp"
      refine PyProof.Rows.len_str (by rw [Tx_len]; omega) ?_
      rw [Tx_len, hll]
      have hlow := hI.low
      have hhigh := hI.high
      dsimp only at hlow hhigh
      obtain ⟨tz2, hzv⟩ := signs_item hzs' p (by omega)
      have hLz : ∀ (h : Heap), News h₀ L h [(it, oit), (Dq, { cls := .type "list", data := .seq (List.toArray qls) kq }), (Ds, oz), (D1, toldObj ns ta tb tc), (L + 1 + 1 + 1 + 1, oc), (L + 1 + 1 + 1, o2), (L + 1 + 1, o3), (L + 1, o4), (45, tabObj ps)] → h.IsList Ds (List.toArray zs') := fun h N => ⟨oz, (N (Ds, oz) (.tail _ (.tail _ (.head _)))).1, hoz⟩
      try dsimp only
      walk_at "wp"
      · have hpn : p < nlet ns := by omega
        have hc := hlow p hpn
        have hns : newSign (nlet ns) (sg.getD p 0) (r / pl.length) p = 97 + (sg.getD p 0 - 96 + r / pl.length % 25) % 26 := by rw [newSign, if_pos hpn]
        generalize hnsv : newSign (nlet ns) (sg.getD p 0) (r / pl.length) p = nsv at *
        generalize sg.getD p 0 = c at *
        refine item_lit (vs := zs') (hLz _ (by assumption)) (by rw [Int.toNat_natCast]; exact hzv) ?_ (by omega) (by omega)
        try dsimp only
        walk_at "wp"
        refine modn_as (a := r / pl.length) (b := 25) rfl rfl (by decide) ?_
        try dsimp only
        walk_at "wp"
        refine modn_as (a := c - 96 + r / pl.length % 25) (b := 26) (by show ((c : Nat) : Int) - 96 + _ = _; omega) rfl (by decide) ?_
        try dsimp only
        walk_at "wp"
        refine chr_of_range (by omega) (by omega) ?_
        rw [show ((97 : Int) + (((c - 96 + r / pl.length % 25) % 26 : Nat) : Int)).toNat = nsv from by rw [hns]; omega]
        try dsimp only
        walk_at "wp"
        refine setItem_N (by assumption) (by assumption) (by k_updF) hoz (by omega) (by omega) (by rw [Int.toNat_natCast]; omega) ?_
        intro h12 oz2 F12 N12 hoz2
        rw [Int.toNat_natCast] at hoz2
        try dsimp only
        walk_at "wp"
        refine floordiv_as (a := r / pl.length) (b := 31) rfl rfl (by decide) (by decide) ?_
        try dsimp only
        walk_at "wp"
        (with_reducible rename Fr _ _ _ _ => F13)
        (with_reducible rename News _ _ _ _ => N13)
        exact ⟨_, _, _, _, rfl, F13, N13, List.forall_mem_cons.mpr ⟨Ne.symm hiq, List.forall_mem_cons.mpr ⟨i0, List.forall_mem_cons.mpr ⟨i1, List.forall_mem_cons.mpr ⟨i2, List.forall_mem_cons.mpr ⟨hoff (L + 1 + 1 + 1, o2) (by k_mem), List.forall_mem_cons.mpr ⟨hoff (L + 1 + 1, o3) (by k_mem),
          List.forall_mem_cons.mpr ⟨hoff (L + 1, o4) (by k_mem), List.forall_mem_cons.mpr ⟨hoff (45, _) (by k_mem), List.forall_mem_nil _⟩⟩⟩⟩⟩⟩⟩⟩, Dq, zs'.set p _, qls, oz2, kq, oc, _, _, rfl, rfl, rfl, rfl, paired_set p hzs' ⟨_, rfl⟩, hpq, dc, hoz2, hdq⟩
      · have hpn : ¬ p < nlet ns := by omega
        have hc := hhigh p (by omega) (by omega)
        have hns : newSign (nlet ns) (sg.getD p 0) (r / pl.length) p = ch ((chs.idxOf (sg.getD p 0) + 1 + r / pl.length % 31) % 32) := by rw [newSign, if_neg hpn]
        generalize hnsv : newSign (nlet ns) (sg.getD p 0) (r / pl.length) p = nsv at *
        generalize sg.getD p 0 = c at *
        refine item_lit (vs := zs') (hLz _ (by assumption)) (by rw [Int.toNat_natCast]; exact hzv) ?_ (by omega) (by omega)
        try dsimp only
        walk_at "wp"
        rw [charset_Tx]
        refine SC.find ?_
        rw [find_chs hc]
        try dsimp only
        walk_at "wp"
        refine modn_as (a := r / pl.length) (b := 31) rfl rfl (by decide) ?_
        try dsimp only
        walk_at "wp"
        refine modn_as (a := chs.idxOf c + 1 + r / pl.length % 31) (b := 32) (by show ((chs.idxOf c : Nat) : Int) + 1 + _ = _; omega) rfl (by decide) ?_
        refine item_strE (by omega) (by omega) (c := nsv) (by rw [Tx_toList, Int.toNat_natCast, hns]; exact ch_at (Nat.mod_lt _ (by decide))) ?_
        try dsimp only
        walk_at "wp"
        refine setItem_N (by assumption) (by assumption) (by k_updF) hoz (by omega) (by omega) (by rw [Int.toNat_natCast]; omega) ?_
        intro h12 oz2 F12 N12 hoz2
        rw [Int.toNat_natCast] at hoz2
        try dsimp only
        walk_at "wp"
        refine floordiv_as (a := r / pl.length) (b := 31) rfl rfl (by decide) (by decide) ?_
        try dsimp only
        walk_at "wp"
        (with_reducible rename Fr _ _ _ _ => F13)
        (with_reducible rename News _ _ _ _ => N13)
        exact ⟨_, _, _, _, rfl, F13, N13, List.forall_mem_cons.mpr ⟨Ne.symm hiq, List.forall_mem_cons.mpr ⟨i0, List.forall_mem_cons.mpr ⟨i1, List.forall_mem_cons.mpr ⟨i2, List.forall_mem_cons.mpr ⟨hoff (L + 1 + 1 + 1, o2) (by k_mem), List.forall_mem_cons.mpr ⟨hoff (L + 1 + 1, o3) (by k_mem),
          List.forall_mem_cons.mpr ⟨hoff (L + 1, o4) (by k_mem), List.forall_mem_cons.mpr ⟨hoff (45, _) (by k_mem), List.forall_mem_nil _⟩⟩⟩⟩⟩⟩⟩⟩, Dq, zs'.set p _, qls, oz2, kq, oc, _, _, rfl, rfl, rfl, rfl, paired_set p hzs' ⟨_, rfl⟩, hpq, dc, hoz2, hdq⟩
  · intro m₁ nx h tk hJ F6 N6
    exact cont _ _ _ _ F6 N6 hJ
/- part r_t3end -/
theorem InvL.shape {nl n k : Nat} {st : List Nat × List Nat × Nat} (h : InvL nl n k st) (hnl : nl < n) :
    ∃ (hs vals : List Nat), st.1 = hs ++ [49] ++ vals.map ch ∧ hs.length = nl ∧ vals.length = n - nl - 1 ∧ (∀ c ∈ hs, 97 ≤ c ∧ c ≤ 122) ∧ ∀ v ∈ vals, v < 32 := by
  refine ⟨st.1.take nl, (st.1.drop (nl + 1)).map chs.idxOf, ?_, by rw [List.length_take, h.len]; omega, by rw [List.length_map, List.length_drop, h.len]; omega, ?_, ?_⟩
  · have hhigh : ∀ c ∈ st.1.drop (nl + 1), c ∈ chs := by
      intro c hc
      obtain ⟨j, hj, rfl⟩ := List.getElem_of_mem hc
      rw [List.length_drop, h.len] at hj
      have e := h.high (nl + 1 + j) (by omega) (by omega)
      rw [List.getD_eq_getElem?_getD, List.getElem?_eq_getElem (by rw [h.len]; omega)] at e
      rw [List.getElem_drop]; exact e
    have hid : ((st.1.drop (nl + 1)).map chs.idxOf).map ch = st.1.drop (nl + 1) := by
      rw [List.map_map]
      refine map_same fun c hc => ?_
      have key : ∀ c ∈ chs, ch (chs.idxOf c) = c := by decide +kernel
      exact key c (hhigh c hc)
    rw [hid]
    have h49 : st.1[nl]'(by rw [h.len]; exact hnl) = 49 := by
      have e := h.mid
      rw [List.getD_eq_getElem?_getD, List.getElem?_eq_getElem (by rw [h.len]; exact hnl)] at e
      exact e
    rw [← h49, List.take_append_getElem (by rw [h.len]; exact hnl), List.take_append_drop]
  · intro c hc
    obtain ⟨j, hj, rfl⟩ := List.getElem_of_mem hc
    rw [List.length_take, h.len] at hj
    have e := h.low j (by omega)
    rw [List.getD_eq_getElem?_getD, List.getElem?_eq_getElem (by rw [h.len]; omega)] at e
    rw [List.getElem_take]; exact e
  · intro v hv
    obtain ⟨c, hc, rfl⟩ := List.mem_map.mp hv
    obtain ⟨j, hj, rfl⟩ := List.getElem_of_mem hc
    rw [List.length_drop, h.len] at hj
    have e := h.high (nl + 1 + j) (by omega) (by omega)
    rw [List.getD_eq_getElem?_getD, List.getElem?_eq_getElem (by rw [h.len]; omega)] at e
    rw [List.getElem_drop]
    have key : ∀ c ∈ chs, chs.idxOf c < 32 := by decide +kernel
    exact key _ e
set_option maxHeartbeats 16000000 in
theorem seg12 (w : World) (mg mb : Str → Option Value) (bm : Addr) (ob : Obj) (h₀ : Heap) (X : (hd.heap_39 w.params).In h₀) (T0 : TopRead hd.view_39 [] mg mb h₀) (M0 : BMod h₀ mainGlobals mg bm ob) (L : Addr) (dp un : Nat) (fr : Option (List Env)) (gd : Option (List Code)) (s : Shared)
   (D1 Ds : Addr) (ns : List Int) (ta tb tc : Tok) (o2 o3 o4 : Obj) (ps : Array Value) (nk : Nat) (m : Str → Option Value) (nx : List (Addr × Obj)) (Q : Flow → Shared → Prop) (E : Value → Shared → Prop)
   (hd : dp + 8 ≤ recursionLimit) (hu : un + 80 < cLine + 4) (hg : AllBare s.gens) (htr : TriplesOk ps.toList) (hL45 : @LT.lt Nat _ 45 L)
   (F : Fr h₀ L s.heap m) (N : News h₀ L s.heap nx) (hJ : LoopJ ns L D1 Ds ta tb tc o2 o3 o4 ps nk m nx)
   (dt : o4.data = .cell (some (.ref D1))) (hI : InvL (nlet ns) (nlet ns + nsize ns + 7) nk (iterL (nlet ns) (st0 ns) nk))
   (hds : ∀ b ∈ [D1, L + 1 + 1 + 1 + 1, L + 1 + 1 + 1, L + 1 + 1, L + 1, 45], @Ne Nat b Ds)
   (hdet : ∀ (hs vals : List Nat), (iterL (nlet ns) (st0 ns) nk).1 = hs ++ [49] ++ vals.map ch → (∀ c ∈ hs, 97 ≤ c ∧ c ≤ 122) → (∀ v ∈ vals, v < 32) → hs.length = nlet ns → vals.length = nsize ns + 6 → poly (hrpExp hs ++ vals) ≠ 1)
   (cont : ∀ (s' : Shared) ps', s'.os = s.os → AllBare s'.gens → TriplesOk ps'.toList → Ext h₀ s'.heap → s'.heap.get? 45 = some (tabObj ps') → Q (.ret (.bool true)) s') :
   wpAny (model PySem.Challenge.rw_jy0013_01.row.prog w) { handled := none, depth := dp, frames := fr, guards := gd, units := un } (execs [stm 12, stm 13] (LEnv L)) Q E s := by
  obtain ⟨Dp, zs, pls, oz, kp, o1, tr, v1, rfl, mp, ms, mr, hzs, hpl, d1, hoz, hdp⟩ := hJ
  have hz := nsize_lt ns
  have hnl := nlet_le ns
  obtain ⟨hs, vals, hsh, hsl, hvl, hsr, hvr⟩ := hI.shape (by omega)
  have hno := hdet hs vals hsh hsr hvr hsl (by omega)
  rw [hsh] at hzs
  clear hdet hI
  have hvl2 : vals.length = nsize ns + 6 := by omega
  have F1 := fr_names [(Str.ofString "signs", .ref Ds)] F (List.forall_mem_cons.mpr ⟨ms, List.forall_mem_nil _⟩)
  clear F mp ms mr
  have hD1 : @Ne Nat D1 45 := ne_of_cls N (.tail _ (.tail _ (.head _))) (by k_mem) (by intro q; cases q)
  walk_at "seg"
  revert X; k_fill; intro X
  have hlen : (hs ++ [49] ++ vals.map ch).length = nlet ns + nsize ns + 7 := by
    rw [List.length_append, List.length_append, List.length_map]; simp only [List.length_singleton]; omega
  have hcl : ∀ c ∈ hs ++ [49] ++ vals.map ch, c < 128 := by
    intro c hc
    rcases List.mem_append.mp hc with hc | hc
    · rcases List.mem_append.mp hc with hc | hc
      · have := hsr c hc; omega
      · rw [List.mem_singleton.mp hc]; decide
    · obtain ⟨d, hd', rfl⟩ := List.mem_map.mp hc
      have := (ch_clean d (hvr d hd')).1
      unfold clean at this; omega
  generalize hzz : hs ++ [49] ++ vals.map ch = zz at *
  walk_at "ws"
  refine join_codes ⟨oz, (N (Ds, oz) (.tail _ (.head _))).1, hoz⟩ hzs (by omega) (fun t2 k2 => ?_)
  walk_at "wi"
  try dsimp only
  (with_reducible rename Fr _ _ _ _ => F2)
  (with_reducible rename News _ _ _ _ => N2)
  (with_reducible rename Heap => hh2)
  refine wpAny_mono (Q := fun v s' => ∃ x t tk, v = .str x t ∧ Meets1 zz x ∧ s' = { s with heap := hh2, toks := tk }) ?_ ?_ (fun _ _ e => e)
  · unfold toldObj at *
    walk1
    walk_at "ws"
    refine item_lit (vs := [Value.int (tl ns 0) ta, Value.int (tl ns 1) tb, Value.int (tl ns 2) tc]) (News.isList (by assumption) (.tail _ (.tail _ (.head _)))) rfl ?_
    walk_at "ws"
    refine item_lit (vs := [Value.int (tl ns 0) ta, Value.int (tl ns 1) tb, Value.int (tl ns 2) tc]) (News.isList (by assumption) (.tail _ (.tail _ (.head _)))) rfl ?_
    walk_at "ws"
    · exact ⟨_, _, _, rfl, .inl rfl, rfl⟩
    · refine SC.upper (by rw [upper_Tx hcl, Tx_len, List.length_map, hlen]; unfold Builtin.Str.tooLong; rw [sizeLine_eq]; simp; omega) ?_
      rw [upper_Tx hcl]
      walk_at "ws"
      exact ⟨_, _, _, rfl, .inr rfl, rfl⟩
  · rintro v s' ⟨x, t, tk, rfl, hx, rfl⟩
    walk_at "ws"
    refine ⟨X.keeps F2.keep, decode_call w mg mb bm ob { s with heap := hh2, toks := tk } x t hs vals ps ⟨X.keeps F2.keep, T0.keeps F2.keep, M0.keeps F2.keep⟩ (N2 (45, tabObj ps) (by k_mem)).1 htr hg (hzz ▸ hx) (fun c hc => by
      have := hsr c hc
      unfold clean; omega) hvr (by omega) (by omega) (by omega) (by omega) dp un fr gd _ _ (by omega) (by omega) ?_⟩
    rintro v s' ps' hos hg' hE hP' htr' ⟨D, a, b, n, rfl, hD, hDg, hif⟩
    rw [if_neg hno] at hif
    obtain ⟨rfl, rfl⟩ := hif
    have u1 : @Ne Nat 45 Dp := hdp _ (by k_mem)
    have u2 : @Ne Nat 45 Ds := hds _ (by k_mem)
    have hFN := after_P (pre := [(Dp, { cls := .type "list", data := .seq (List.toArray pls) kp }), (Ds, oz), (D1, toldObj ns ta tb tc), (L + 1 + 1 + 1 + 1, o1), (L + 1 + 1 + 1, o2), (L + 1 + 1, o3), (L + 1, o4)]) F2 N2 (by
      intro p hp
      simp only [List.mem_cons, List.not_mem_nil, or_false] at hp
      rcases hp with rfl | rfl | rfl | rfl | rfl | rfl | rfl
      · exact Ne.symm u1
      · exact Ne.symm u2
      · exact hD1
      all_goals (refine neN ?_; dsimp only; omega)) hE hP'
    obtain ⟨F3, N3⟩ := hFN
    have N4 := news_in F2 N3 hD hDg
    dsimp only [List.cons_append, List.nil_append] at N4
    clear N3 F2 N2 hE hD
    repeat' ((with_reducible fail_if_success (show wpAny _ _ (compareOp _ (Value.ref _) (Value.ref _)) _ _ _)); walk_at "ws1")
    (with_reducible rename Fr _ _ _ _ => F8)
    (with_reducible rename News _ _ _ _ => N8)
    obtain ⟨as1, r1⟩ := reads_nones (N8 (D, _) (.tail _ (.head _))).1
    obtain ⟨as2, r2⟩ := reads_nones (N8 _ (.head _)).1
    refine eq_dataH r1 r2 shaped_nones shaped_nones (by dsimp only; omega) ?_
    rw [eqv_nones]
    exact cont _ ps' hos hg' htr' F8.keep (N8 (45, tabObj ps') (by k_mem)).1
/- part r_t4inv -/
theorem inv0 (ns : List Int) : InvL (nlet ns) (nlet ns + nsize ns + 7) 0 (st0 ns) := by
  have hll := lets_len ns
  have hdl := data_len ns
  have hckl : (createCk (lets ns) (dataOf ns)).length = 6 := by rw [createCk, dig6_len]
  have htl : (encText (lets ns) (dataOf ns)).length = nlet ns + nsize ns + 7 := by
    rw [encText, List.length_append, List.length_append, List.length_map, List.length_append]; simp only [List.length_singleton]; omega
  have hvr : ∀ v ∈ dataOf ns ++ createCk (lets ns) (dataOf ns), v < 32 := by
    intro d hd'
    rcases List.mem_append.mp hd' with hd' | hd'
    · exact data_lt ns d hd'
    · exact dig6_lt _ d hd'
  refine ⟨htl, fun p hp => ?_, fun p hp hp2 => ?_, ?_, fun p hp => ?_, ?_, ?_⟩
  · show 97 ≤ (encText (lets ns) (dataOf ns)).getD p 0 ∧ (encText (lets ns) (dataOf ns)).getD p 0 ≤ 122
    rw [encText, List.append_assoc, List.getD_eq_getElem?_getD, List.getElem?_append_left (by omega)]
    have := getD_mem (l := lets ns) (i := p) (by omega)
    rw [List.getD_eq_getElem?_getD] at this
    exact lets_rng ns _ this
  · show (encText (lets ns) (dataOf ns)).getD p 0 ∈ chs
    rw [encText, List.getD_eq_getElem?_getD, List.getElem?_append_right (by simp; omega)]
    have hlen : (List.map ch (dataOf ns ++ createCk (lets ns) (dataOf ns))).length = nsize ns + 6 := by rw [List.length_map, List.length_append]; omega
    have := getD_mem (l := List.map ch (dataOf ns ++ createCk (lets ns) (dataOf ns))) (i := p - (lets ns ++ [49]).length) (by simp only [hlen, List.length_append, List.length_singleton]; omega)
    rw [List.getD_eq_getElem?_getD] at this
    obtain ⟨d, hd, e⟩ := List.mem_map.mp this
    rw [← e]
    exact ch_mem (hvr d hd)
  · show (encText (lets ns) (dataOf ns)).getD (nlet ns) 0 = 49
    rw [encText, List.append_assoc, List.getD_eq_getElem?_getD, List.getElem?_append_right (by omega), hll, Nat.sub_self]; rfl
  · have h := List.mem_filter.mp hp
    exact ⟨List.mem_range.mp h.1, by simpa using h.2⟩
  · exact List.nodup_range.sublist List.filter_sublist
  · show (placesOf ns).length + 0 = _
    have h := nodup_filter_len (l := List.range (nlet ns + nsize ns + 7)) (p := nlet ns) List.nodup_range (List.mem_range.mpr (by omega))
    rw [List.length_range] at h
    unfold placesOf
    omega
/- part r_u0gf -/
def mulA (x : Nat) : Nat := (x <<< 1) ^^^ (if x.testBit 9 then 1315 else 0)
theorem mulA_xor (a b : Nat) : mulA (a ^^^ b) = mulA a ^^^ mulA b := by
  unfold mulA
  rw [Nat.shiftLeft_xor_distrib, Nat.testBit_xor]
  cases a.testBit 9 <;> cases b.testBit 9 <;> simp [Nat.xor_assoc, Nat.xor_comm, xlc, xsc]
def MA : Nat → Nat → Nat
  | 0, x => x
  | n + 1, x => MA n (mulA x)
theorem MA_xor : ∀ n a b, MA n (a ^^^ b) = MA n a ^^^ MA n b
  | 0, _, _ => rfl
  | n + 1, a, b => by rw [MA, mulA_xor, MA_xor n, MA, MA]
theorem MA_zero : ∀ n, MA n 0 = 0
  | 0 => rfl
  | n + 1 => by rw [MA, show mulA 0 = 0 from by decide, MA_zero n]
theorem MA_add (a : Nat) : ∀ b x, MA (a + b) x = MA a (MA b x)
  | 0, _ => rfl
  | b + 1, x => by rw [← Nat.add_assoc, MA, MA_add a b, MA]
def A (t : Nat) : Nat := MA t 1
theorem MA_A (s t : Nat) : MA s (A t) = A (s + t) := (MA_add s t 1).symm
theorem A_1023 : A 1023 = 1 := by decide +kernel
theorem A_per (t : Nat) : ∀ k, A (t + 1023 * k) = A t
  | 0 => rfl
  | k + 1 => by rw [show t + 1023 * (k + 1) = (t + 1023 * k) + 1023 from by omega, ← MA_A, A_1023]; exact A_per t k
theorem A_ne (t : Nat) : A t ≠ 0 := fun h => by
  have e := MA_A (1022 * t) t
  rw [h, MA_zero, show 1022 * t + t = 0 + 1023 * t from by omega, A_per] at e
  exact absurd e (by decide)
def chkA : Nat → Nat → Bool
  | 0, _ => true
  | n + 1, x => !(Nat.beq x 1) && chkA n (mulA x)
theorem chkA_ok : ∀ n x, chkA n x = true → ∀ d, d < n → MA d x ≠ 1
  | n + 1, x, h, d, hd => by
    rw [chkA, Bool.and_eq_true] at h
    cases d with
    | zero => intro e; rw [show x = 1 from e] at h; exact absurd h.1 (by decide)
    | succ d => exact chkA_ok n (mulA x) h.2 d (by omega)
theorem A_one {d : Nat} (h : A d = 1) : d % 1023 = 0 := by
  have h2 : A (d % 1023) = 1 := by
    rw [← A_per (d % 1023) (d / 1023), Nat.mod_add_div]; exact h
  have hlt := Nat.mod_lt d (show 0 < 1023 by decide)
  generalize d % 1023 = e at *
  cases e with
  | zero => rfl
  | succ e =>
    have k : chkA 1022 (mulA 1) = true := by decide +kernel
    exact absurd h2 (chkA_ok _ _ k e (by omega))
theorem A_inj' {t u : Nat} (h : A t = A u) (hle : t ≤ u) : t % 1023 = u % 1023 := by
  have e1 := MA_A (1022 * t) t
  have e2 := MA_A (1022 * t) u
  rw [h, e2, show 1022 * t + t = 0 + 1023 * t from by omega, A_per, show 1022 * t + u = (u - t) + 1023 * t from by omega, A_per] at e1
  have := A_one (d := u - t) (e1.trans rfl)
  omega
theorem A_inj {t u : Nat} (h : A t = A u) : t % 1023 = u % 1023 := by
  rcases Nat.le_total t u with q | q
  · exact A_inj' h q
  · exact (A_inj' h.symm q).symm
def zech (d : Nat) : Nat := Nat.mod (Nat.shiftRight 331005138971825324589625228590379597546422650500282556157649981561047296674359192205584977457199891906812801400083786735350245258884085954647239261511931889916877014227669293295653718224038153179327453950538465156503329731802839685270760528932741206766253816829669376 (Nat.mul 10 d)) 1024
theorem zech_ok : ∀ d, d < 89 → 1 ≤ d → 1 ^^^ A d = A (zech d) := by decide +kernel
theorem pair_lt {t p q : Nat} (h : p < q) (h2 : q ≤ 88) : A (t + p) ^^^ A (t + q) = A (t + p + zech (q - p)) := by
  have e := zech_ok (q - p) (by omega) (by omega)
  rw [← MA_A (t + p) (zech (q - p)), ← e, MA_xor, MA_A, show t + p + (q - p) = t + q from by omega]; rfl
def dist (p q : Nat) : Nat := (p - q) + (q - p)
theorem pair_ne {t p q : Nat} (h : p ≠ q) (hp : p ≤ 88) (hq : q ≤ 88) : A (t + p) ^^^ A (t + q) = A (t + min p q + zech (dist p q)) := by
  rcases Nat.lt_or_gt_of_ne h with k | k
  · rw [pair_lt k hq, Nat.min_eq_left (by omega), show dist p q = q - p from by unfold dist; omega]
  · rw [Nat.xor_comm, pair_lt k hp, Nat.min_eq_right (by omega), show dist p q = p - q from by unfold dist; omega]
theorem eq_of_xor {a b : Nat} (h : a ^^^ b = 0) : b = a := by
  have e := xsc a b
  rw [h, Nat.xor_zero] at e; exact e.symm
def xsum (l : List (Nat × Nat)) (i : Nat) : Nat := l.foldr (fun q x => A (q.1 + i * q.2) ^^^ x) 0
def Rel (r : Nat) (l : List (Nat × Nat)) : Prop := ∀ i, i < r → xsum l i = 0
def fz (p0 : Nat) (q : Nat × Nat) : Nat × Nat := (q.1 + min p0 q.2 + zech (dist p0 q.2), q.2)
theorem elim_sum (p0 i : Nat) (hp : p0 ≤ 88) : ∀ rest : List (Nat × Nat), (∀ q ∈ rest, p0 ≠ q.2 ∧ q.2 ≤ 88) → MA p0 (xsum rest i) ^^^ xsum rest (i + 1) = xsum (rest.map (fz p0)) i
  | [], _ => by simp [xsum, MA_zero]
  | q :: r, h => by
    have ih := elim_sum p0 i hp r (fun x hx => h x (.tail _ hx))
    have hq := h q (.head _)
    have e := pair_ne (t := q.1 + i * q.2) hq.1 hp hq.2
    have e1 : xsum (q :: r) i = A (q.1 + i * q.2) ^^^ xsum r i := rfl
    have e2 : xsum (q :: r) (i + 1) = A (q.1 + i * q.2 + q.2) ^^^ xsum r (i + 1) := by rw [show q.1 + i * q.2 + q.2 = q.1 + (i + 1) * q.2 from by rw [Nat.add_mul]; omega]; rfl
    have e3 : xsum ((q :: r).map (fz p0)) i = A (q.1 + i * q.2 + min p0 q.2 + zech (dist p0 q.2)) ^^^ xsum (r.map (fz p0)) i := by
      rw [show q.1 + i * q.2 + min p0 q.2 + zech (dist p0 q.2) = (fz p0 q).1 + i * (fz p0 q).2 from by simp only [fz]; omega]; rfl
    rw [e1, e2, e3, MA_xor, MA_A, ← ih, ← e, Nat.add_comm p0]
    simp only [Nat.xor_assoc, Nat.xor_comm, xlc]
theorem elim {r t0 p0 : Nat} {rest : List (Nat × Nat)} (h : Rel (r + 1) ((t0, p0) :: rest)) (hp : p0 ≤ 88) (hq : ∀ q ∈ rest, p0 ≠ q.2 ∧ q.2 ≤ 88) : Rel r (rest.map (fz p0)) := fun i hi => by
  have h1 : A (t0 + i * p0) ^^^ xsum rest i = 0 := h i (by omega)
  have h2 : A (t0 + (i + 1) * p0) ^^^ xsum rest (i + 1) = 0 := h (i + 1) (by omega)
  rw [← elim_sum p0 i hp rest hq, eq_of_xor h1, eq_of_xor h2, MA_A, show p0 + (t0 + i * p0) = t0 + (i + 1) * p0 from by rw [Nat.add_mul]; omega, Nat.xor_self]
theorem rel_one {t p : Nat} (h : Rel 1 [(t, p)]) : False := by
  have e : A (t + 0 * p) ^^^ 0 = 0 := h 0 (by decide)
  rw [Nat.xor_zero] at e
  exact A_ne _ e
theorem rel_mono {r s : Nat} {l : List (Nat × Nat)} (h : Rel r l) (hs : s ≤ r) : Rel s l := fun i hi => h i (by omega)
theorem rel_two {t p u q : Nat} (h : Rel 1 [(t, p), (u, q)]) : t % 33 = u % 33 := by
  have e : A (t + 0 * p) ^^^ (A (u + 0 * q) ^^^ 0) = 0 := h 0 (by decide)
  rw [Nat.xor_zero] at e
  have := A_inj (eq_of_xor e)
  omega
theorem rel_perm {r : Nat} {l l' : List (Nat × Nat)} (h : Rel r l) (hp : l.Perm l') : Rel r l' := fun i hi => by
  have e := hp.foldr_eq' (f := fun q x => A (q.1 + i * q.2) ^^^ x) (fun x _ y _ z => xlc _ _ _) 0
  rw [← h i hi]; exact e.symm
/-- what four places would have to meet -/
def four (a b c : Nat) : Bool := Nat.beq ((26 * a + zech (c - a) + zech (b - a)) % 33) ((zech c + zech b) % 33) && (Nat.beq ((25 * b + a + zech (c - b) + zech (b - a)) % 33) ((zech c + zech a) % 33) &&
  Nat.beq ((24 * c + b + a + zech (c - b) + zech (c - a)) % 33) ((zech b + zech a) % 33))
def allLt : Nat → (Nat → Bool) → Bool
  | 0, _ => true
  | n + 1, f => f n && allLt n f
theorem allLt_ok : ∀ {n : Nat} {f : Nat → Bool}, allLt n f = true → ∀ k, k < n → f k = true
  | n + 1, f, h, k, hk => by
    rw [allLt, Bool.and_eq_true] at h
    rcases Nat.lt_or_eq_of_le (Nat.le_of_lt_succ hk) with q | q
    · exact allLt_ok h.2 k q
    · rw [q]; exact h.1
/-- for each place a and each rest of 33: the places above it, bit by bit (printed by wip/gf2.py) -/
def TL : List Nat := [
  0x1000002000000000400000100000000000000200000000002004000000002000800000401800080040000000000002000000000000010010000000004000000000000000000000000000000000000200000400000200200000000000010000000000000020000000000100000000000000000004000002000040008000000080000000000000200000000000001000008000000000000000000000000000000000000080001000002000100000000000000000001004200000000888000000000000000440000000000000001042240000000000000000000080000008000000001000000000000000000008000000000000000000200020000000000000021000000000000000a00000410008000000000400002000000001000000200000002000110100000000000000008000000000000000000000000000000821120000400004040000000400000000000000000000000000080000000000000000400000000020002040000000000020,
  0x10040000000000800000400000040000000000000800008008002000101000000000000000000400000200100001001004041000000000080000000000000050030000000200004000000000000000000020010008000000400000000000000000008000000000000000000004000000000000000000000000800000080000000000104000000000000000000000008084010000001000000000000000000000000208448000000800004000000200000200000000000802100000000000800000000004000000000022000200040000000000010000000080000000000000000020000000000000000000080001000000020000000000000000000000000000400021000000000000000000400401010400000000100000000100000000008000000000100000000000000000000000000004040000000000000000000000004000000000000000000020000000000800100000000000000080000000000000000000000000000000080000000400,
  0x100420000000000000000800000008000000000004000004000000000000000000000000000082100102000000000000000000000200000000000000000000900000000000000000000000000041089000038000000000800000800000000040008000200400000000000000000000000000000002000000000004000040000000000004000000200000004000000000000002410040100000002000000000000000000000000000000010000000400000000000000001210000000100010000000000000020000000000000000000100000008004002000000000000000000000000000010000000002000000000000000000002000000000000000000001000002000001000000080001000000020000200002100000000002000000000000000000010000000000004000000000000000000000000020100100010000001000000000000000120000000000000000000000000210020200000100800000000010040000000080200000,
  0x40100000000002000000000000030000000000008000000100000000000000000000000000004000020000018002200000000000000000000800081000000000000000000020000000000000000000000000002000000800000000000000000000000000080400000004000000000080000000004000000000000000041089000038000100000000000000200000000000000000000000000000000000000000000000002080000002000000004000008001008000000080000000100000000000000002100000000000000000000400008000000000000000800000000000000000000000000200200100000001000000060000020102010000000000000000000000000800800001000000000008000100020000000000000000000002000200000000004000000200000000000000000000000000000000000200000080000000002002008082000000000000000000020000000000000000002000004000002000040a0000000000800100000,
  0x200000000000000000080000400000000000000000000000000000080000800000000000000000000000000000000000440000000010001020000000000000000080000000000002000002000000000800020200000000000000000200000000000000000000000000020000000000000000408000000000000400004000010000000000000000080000040000000400008000000100000000001042240000e0000480000000000080d0000000000080000000000000000240000001000000000002000000000000000004000000000000001000002000000000008000000000000000000000010000000000000000002048000001008000004040000030028000000000000000000400000000000000001000200000000000000004000000000000000000000020000000002001000800000000000000400000000020008000000000000004000000000004000000000002000000000000100400080000000000004800001000000000000,
  0x9040100000802000000000040000000008000000000000000000000000000200000001400000000000000000000000000080000000040000000000000000004000000008000000000040000000020020080000800000080000000000100000000000000000000000000000000000000800000000000100000100000000000000000000000000000000001000040000000000000000004000020000001000000008000000002a0000000000000000000040000000004000000000100000000000800002000000400000000000000000000040000000000000000010000020000000000000000000000000002000000000000000000000000080000100800000000100000008001000000010000000080020010400100000008000000000000000081040080000002084480001c000091000000000000000000000000000000000000000000010000018000400000000020000000000000801000000000000000004000040002000000,
  0x100000000000000000000000040080000000000000110000000000000400010002000000020000000000001000000000000002010000000000000000000000001100010002000000000080040000004000000010000000800000002000000000000808000000000000000000000000000000100100000000000000080000210000000000000000000000000800000000040000002000000000000004000000000000000000000000000100000000000000000000020000010000000000000000000010000000000000000000000010400000000410890000380000000000000000000100004000000000200000000010000000100800040001000000000000000004001000000000000808000004020000004000004000000000010004000048000000000000000000000040000000000000001000000000000000000000000000000040000001002000000000800c40000000000000000000000000000000000000000000001020801002000,
  0x4000000000000000012000000000030000000000000000000004010800000002800000000100000000210000000200100000000040000000000000000000004004000000400000000000000800000000000002000100000000000000000000040000040000010000040040010000000000000000001400000000000000000000400000000000000000000000000200000000001000000000000000000000400000000001000000020000000000002100000000812000000402000000000000000000000000000000000000200004000800040000080000000000000000000000000000040000000000081000000000000000000000200000020000000000000000000002a000000000800000000040000000000000000002000001000000000000040200000002000000000010000000040000000000000000000000080280000000000000400000000200200000100000800000040000000000000800000000002000002000c00000010000000000,
  0x2000000802000000000000000000800000000000008000000000000000000000000000000000000000040000000000000204000000000000000000200000000800000010240000000002220000000040000000000000000000000000000800000000000000000000000000000000000000000000000000000002000000020000010000000000000000000000044000000000000100800000000000000012080200000000000000000000000000000082000010000000000000000010000000000000000000000000000400000000000000002008400000001000000000000000000000000040000440000000000000000000800000000010040000000000000000000100000000001004000800000004000220002000400000000000000001042240000e000040000400000480004000400000000000042004040000000000204000000800020000000000040000000000000000000000000000000000800002000000000080000000000,
  0x241000000000000000000400000000000000000004000000000000000000000000000000000010000000000000000000000000000000002000000004000008000000000000000000400000000000000000000800000000000000002000000000080d000000004000000000000020200000040000000000000100000000000000000000100010000000050000000000020000000000000000000000000000000000001006000200100010000000000000000000090000000200000000000001000000000000000000100800000040000400000012000000000000008000000004000000000804200000001000000000004000000008000000000101000000804000000000000000000004000080400020000000000008000000000000100000008000000000000000000080000000000000008000040000000000000000002a0000000008200000004800020080000000000028800000400000000000000000200000000000000000,
  0x200200000000000000000000000004000000000002008400000000000200000000000004000000000000000010000800000001000000000000000a00400000000000001000000000000008000000000204000000000821120000700002400000000000000100000000000000000000000102080000000000000000010000000004000002400000000000000024000000804000002000000002000000000100000000020010000000000000000000000000040000000080000000010000000008000000000001006000200100000000000000000000001020000000000000000000000000000000000000000000000000080100000004000000000000002000000000000000000042000000000000001000040000200400000000000000004000001000000000000000000000000000000000000000080000000001000000008000000000000000000200000001820000000000000040000000000000004000,
  0x10000000002084480001c000000000000000000000004000000000000c0000000000000000000000000000000000000000000000040400000000002002000000000000000000000000000088100000000000000800000000000000000010010000000000000000000000200004000800000000000000000000000000000000000000000000004000000000002000000000000000000000010000000000000000020000024000200000000108000000000000004000000000000000000000c000000008000000400000000000000000000000000000000040010010000040000000000010200000000000110000015000000000410100000000000004000000000000000000000002000000000000000000000000000000000000a000000202000100000010000000000040010100000000000000000400000000000000008000010000000001000000000000000a00000200000000400000004000003000000004000000000000,
  0x800000000000000000200000000000000040000000000000000000000000010000000000000000000000000000000000000000000100000040000000000000000000000080008000000000000000000000000000000000000000020000008000000000080000000000000000000000000400000000000000000100001480000000001000000000000000a00400000040000000002000a000000000080000040180000000000000000000800000000000840000000000000000000080000a400000020000002000004001000400000000000000000008001000000000000000000000100000000000102000000000001000000080800020000000000000000000020010002000000010000002000080004000002000000000000000008000000000000040820040000000000000000000000000000020040000000000000000000000010000800001000000104001000000080020000000030000800000000000000000000000000000000000,
  0x100000000000000000040000000000000000000000100080000000020000000000000014000000000200000000100100000000000000000000800000000000000054000000000000002100000000000000000000000010008000010000000000000040000020010800000000000000100002000000000050000001010000000000001000000000000000004400000000000000020000001000000000000000000000000000040800000000000000400000000020010000000000010000000000000000000000100000010000000000000000040010000000000000000000000000000000080000080000000000000000000000000080081000000000200800100000000000000000000000000000000000000400000002000000000000001000004000000000000020010400100000000000008000000000000000000001000000000000000100000808000000080000002000080000400000000001000000400400001000004000000,
  0x400000000000000000000000000000020010000000000000040000000001000000000000000000000000000000000000000000000000000000000000000000008000000000000001000040000000010000000000040000000008000000002000080000000000000400000000000000000010280000000000000000000080420000000000000000100000000000200000000000000200000001000000000800000000008000000100000008000110000000000000800000000000000000000800000000000080000000000000000000200000010600000001000000000000000000800001000000000000082112000070000200000010000000000000000000080000002000000080000000000000000000000000000000000080d000000000000000000000002001000000004040000000400000000000000000000000040000000000014000000000000000000000000000040440000000220000000000000001000000004000000000010000000,
  0x10000c0000000000000000000000000000048200000000000000000000000000000000000001000000000000120000004020000010000000000000000400000220000000000000000000002000000000000002008000000000000000800000000000000000000000080000040100000000000000000000000000100000000800000800000000000000000000000000000000000040000020010000000000800000008040000000000004800000000000000008800000000000020000000000080000004000080000000020002000000000000000080000008000000000000400000000000000000000000188000000000004000000000000000020000000000008140000000001000000000004400000000000000000000000100002000000000000000004000004800000000000000040000000000000000000100000200000000000000000000080000000000000000000800400000000000400000200c000400000000100000000000000000000,
  0x20040000000000800080000000000020000010000008030001000000000000000000010008000000001000000000000000000000000000000102080000000a0000000000000010000000200000200000000000000800002000008008000000000000000040000800000000000400000000800000000004000000000000000000000000008000041000000000006000000000001010000000000000280000008000000001000000000000000000000000100000000000000000000000000000000800000000100000000000000000000000408000001000000000000000001000000800000000104002000000000000000000000000000000000000000001000000000001000000000400000000000800000000000000008000008000000000008004040000000000000408000000000000000000000000000000000000008000000c000000000000001000000010080080000000000000000080000000000000000000000000000000000,
  0x800000000000000000000000210002000000000000000000000000000000000400200000000000000012000000000002000000000000000000001000000000000000000200000100000041000000000000000000000000000000000000000000000400000000020008000000000000000000000000000000000040020100000000000000010000100000000000020800400000000000000000000001000000000000000800000000000000000000000200800000001000000000000400000000200000002200000000000000000000004000000040000001000000000054000000001000000000040000400000010000000010000000100020000000000000000200000000000010001000000000000000000000000010000000400000400000000408000000000000000000008000204000000000000000008000000000000082112000070000000000000000000000400000000000000000000000000000004000000000000080000000,
  0x40000200000000000000000000000000000000000000000000000000000000000022000000000000000000000000000000000000000000000000002084480001800000000000000000000000000001000004000000000000000000040000000040000000000000000000000000000000000200000000000000000000800000000000000000000000020002000000000000004a00002000000000000000000000000082110000000000000000009040000000020000000200000000000000000040440002000000000000040000010044000000000040000000000000000008000000000020008000000000000040000000080000000000000400004000000000082000800000040000000000000100000000000000000000000020004000400000000028000000000000000000000000002000000000000000000000000000000000000300008000000000000000800000000100000800000012000000402000000000000000000000000000000000,
  0x41088000000000000208448000100000000200000000010000000000000800010000000000000000002100004000000000080000000000000400000000200001040000800000000000000000000000000000000000000000100000000000100000000000000000000000802000090000000000000000020000001000000000000000400000000000000000000000000010000000000000100000000008000000000000000000000000000000100000000040001000000000000000000000120000000000400000000000000000000040000000000800000000400208002000000000000402000000000000080000000000000000000000000000814000000000100000000000000000000000000000000000008000000000000000000000008040040000000000020000000000000000000000000008000000000000000000010000000000000000000000200000000000000002001000800000048000000000000000200000000000,
  0x8000080000000000000000000040000800000000100042000000000000000001000010000800010000000000000200010000000000000040100000000000000004000000008000000000000000000000000000000000000000000000000800000000000000000011000000000000800000900008000000001000000000000000000000000000000000000000000000000100800000000000000014100000100000000000000180000000000040000000001004000000008000000000000000800000004000000000000000000001000000000000000040000000000000000000410890000000000000000000000002000000008000000004000000000000000000800000000000000010020000000001000000000000000000002000000000000000020000010000000000040000000000000800000000001000000000000000000000000000041088000000000100000010000000000000000000000000040000000000100000000000000000,
  0x100000000000000000000000000000004000000000000200000000000000000000000040800000800000000040000001080000000000040020010000000800000000000000010000000000000002020001000400000000004000080000000000000000000000000000000000000000002000000000000000000000008000000000000000000001042240000c00000010000000000000000000008000000004000000000000002000000000000000000000000200080000000000000000000000000821000000000a80000000020800000000000008000000200000000080000010000400000000000000000000000000000001000080020020000000000000000000000000000000000000800010000000000000008000000001000000000000001000000000000000000000000000002002000000080000000000020000000000a00000000000000000000000000080000000000000000000000000000810000000,
  0x1000000000000100000000000000001000000000000000000004000000000000010008000010004000000000000000000000410800000000001000000000000000000000000000000000000000000003080000000000000010040000000000000000000000000104224000080000000020000000004000000000000080000000000000000000000000000400000000000040000000010000000000000000000000020000000002000000800000000000000000000000010008000000000000000004000000000000080000000000000000000000620000000000000000000000840000000000000000000000000800000000000000000000080000000000000800000000000000400000000000200002000000000000000000020004000000000000000000000000100000004000000400000000000000000001900100000000000000000004000000000000000300000000004000000000000040000000004400000000000000000000440000000,
  0x821000000000000000000080000000000020000000000050000000000000a8000000000000000010000800000000000000000000000008104000000000000000080000000000000000000010000000000000000000920000000000000000000010000000000000000000000200000001010000001008000000000000000000002010010001000080000000400000000400000000000000000000000000000000002000800000000000000000000000000000000000000000000000001000000000000000000000000000000000000400000000000040000004000000010000000000000900000020100000000000001000000100010000000000000000000000000000000000100000000000000000000001000000000800000000000100000800000000000000010000000004000000000000000208448000000000000000000000000400000000000000000010000000000000000002000000000000000000000008000020000000,
  0x100840000000000000000000000008000000000000000000080000000000000000000000000000800000000000000000000000000000044000000000000000000000000000000000010000000000000000000000000000080100000000000100000000000000000019000000000000008000000000000000000080200000000000000000000081200000040000000000000004001420000000001000000000000000000000000000000080002000000000600020010001800000000000400008000000000000000008000020020000000000000080000000000000000000040400000000000000001000000000200000000000000000100001000000000000000002000000000000000002000000000000000000000000000500000000000000040020010000000000000000000000000000000000000000000000000000000000800000000000000400000000000000000000000000000200000000420040000000000000000008000a0000000,
  0x2080000000000000000000000000000020000000040000000000000000000000000008000000020010000000000000000000140000004040000000000000080100000000000000000000000000000040000000002001000000000000000000000000000040000000000000020000000100000000000100000000004000000000000000000000000000000000210000000000000000010000000400000000000000000000000000000000000000408000001000000000000000000000210000000000000000000000024000000000000010000000000000000040040000100000000000000000001100000000000000000000000000000000000020000040000000000000000000000000000000000000000001042240000c00000040000000000100000000000000020000402200000000000000400000040000000000080000a400000000000000000000000000000000000000200000000000000000000800000000200000000000,
  0x4000000000008000000000020000000200000000002000000000008000000000010000100008000000000000008040000000000000000000000000000000000000000000000000000000000000000000004000000000000002010010001000000000000200000000040000000000002080000000000000000000000200000004080000000000000000000000000000000000000018000000000000000000000000080000000000000008100000000000000000000000000800000000080040200010000000000000000200c0004000000000000000000000082000000010000000000000000000000000001042240000800000000000000040000000000000000080000000080000000000000000000080200000000008000000000000000000000000000000000000000000000020000000000000000000000008000000000000010801010000008000000001000000000000000000000000400000000000000000000000000000000000000000,
  0x400000100000000000080000000000000000000000000000000000000000000000000000000000000000000000100000000000000000020000000000000000000000100000800000000000000000410890000000000000200002000000080000000000080000090000000000000000000000000000000000000002001000000000000004000004001000000000000000100000001000000000000080200000000000000000000000000010400000000000000000000000000000000000000800400000000002004000000000000000000000002000000802000000010000800000000020000000080000000020000000000010000000800000000000000408000800000000000000000000000800000000000000414000000000000000000000000000000810000000000100100040002000000000000000000000004000000000000000000004000000000000000000001000000000000000000000000000000000000000010000000000000,
  0x40000000000000000000000000000000000000000100082000000000020001000000000000000000000000282000000000000000000000000000000000000004000000000000000000000000000000020000000000000000000020000000000000200000000000000000024000000200100000000000000000000000400000000004010000000000000000000100000080300000000000000000000000000000000000004000000000400000000400000040000000000000000600000000000000000000048000000000000000000000000800000000000000000000008000100000000000000010010000000000000000000040000000000000000000090200000000000000000000200000100400000000000000000400040000000000000000000200000000004000000080000a00000000080010001100000000000000040000000000000000000000000002000000000000000000000000000000000000000000000004800000000,
  0x80000200008000000000000000000000000000000000000800000400000000000000080000000000000000800000004000000000000000000000000800000000000008000000000000000000000000000000000000000000100000800000000000000000004000000000000000000150000000004000000000010000000000020000000000000000000000000000000800000000800000000000000000000400000000000000000000800000000000000200000000000000000000002000001006000000000000000800000000000000000000000000000000000000004000801000000000000000000000000110004000000000000000000000000000000000000401000040000000000001000000020000000000000000000020000000000000000000002000000000000000000000000800000001080101000000800000000000000000020000000000000080080020001000000000000008080000000000000000000008100020000000000,
  0x800000040000800000000020500000000000000000000400000000001000000000000000040000000000000000800000000100000000000000000000800000000000000000000088000000000000000821120000600000000800002000008000000000020000000000000000000000008040000009000000000000000008000020000000000001000000000000000000080200000000000000000000040100000000000000000000000000800000000000000000000000400000000000000002000000000000000000000000000000000000004000000250000000000000020000200000000000000000000000004000000000004000000000000000000000000000000000000000000000000001000000000000000000000000020000000000000000a000000200000000000000000000004000000000000080800000000000000000000000000800000000000000000000000000000000000800000000000000000000000000000000000000000,
  0x40000000000000000000000000000000000001000000000400000000000000821120000400000000000888000000000000000000000000040000000000000000000000002000000000000000000000000000000000000000000000800000000000000000080000000000000000000001000000000000000000000020200000000040002000200200000000000000000000002000000000008800300000000000000000020000000000000000000000000000000000000000004000000000000000000000400800000000000000000040000000800008000000000001060000000000000000000000000000000000000000000000000000000000000000000240000000000000004000020000000000000000040000000000000000000400000000000000000000000000200000080000000000010000000000200000000000020000804000000000002000000100080000000000000000000040000000000000000000000080000000000,
  0x80008002000000000000000000000000200000000000040000000084000000000000000000000000000000000000000000000000000000000000800000000000000000010000000000000000000014000000000000000000000000000020000000000000000000000000400000000000000200000280000000000000001000000000000000040000000402000000000000002000000000000000000000000000020100000000020040000000020800000000010002000000000000000000000002008000000000000104001000000000000000000000020000020000000000008000000000000000000000000000000000000000000001042240000000000000000000401000000000000020000000000000000000000000000082000400000000000080000000000000000000000000000000000000000000000000000200000000000409000000200000000000000000000000000000000000000000000000000000000000040000000000000000,
  0x80800000000000000000000408000000000000000000000080800040000000000000000000000406000000000000800000000000000000000000008004000000000000000100000000000000000000804000200000000000002000000040000000000000000000040000000000000000000000008020000000000080020020000000000000000000000000800000000000000000000080000000000000000000000100000000000000010110000000000000000000000040000000000020000020000000000000004008000000004000000000000010240000000000000000100000000000000000000000200000000040000000000000200000000000000000000000000004000000000000000000000000000000000800800000000000000000000000000000000000000000000000840080000000000020004000000000000000000000001020000000000000000000000000000000000000000000000000000000000000000000000000000000,
  0x2050000000000000000000000000000000000000000000001000000000000000000000000010400000000000040000010000000000000000000000000000000000000000000000008800000000000000000000000000000000000000000000000000000000100000000220000000000000200010000000000000000080000200000000000000000102000000000000000000001200008000000000000000000400200000000000000000000000000000000000002000000000000000004004020000000000000000020000010100200000000000000000000802000000000000000000000000000000000000000000010000000000000022080000000000000001000000000000000000000000000800000000000000000000000040800000000001000000080000000000000000000000200000000000000000000000000000000000001000000000000000000040040000000000000000000600020010001000000000,
  0x1000000000000000000000000000000000000000000040000000000000000c00040020000000000000008008002000000000000000000000000000000000000000000000001000000000000000000000000000000000000000201000000000000000000020000000000000000000020000100000000000000008000100000000000010000000400000000000000000000000080000000000000020000000000000000001000001000000000000000000000000020200000000000010000000000000000000008000000102000000000000002000040200000000000000000000000000000000000400000000000000000020000040010000000000002000080000010000000000040000000000000000000001080101000000000000000001500000000000000000000000000010040000000000000100000000000000000000000000000000000000000000000020000000000000000000000000000000000000000004000000000000000,
  0x10000000000000000000000001040401000000000000000410890000300000000000000000000000000000000020000024000000000000000000800000000000000000000400000000000000000208000000000000000000000000000020000000000000000000000000000000000000100000000000000000000000000002008000000000080040000080000000000000000000002000000000000000000000008000000000000000080100000000000000000000000000000000000000040000000000000000001800004000000000000000010000082000000000000000080800000400000000000000010000000000000000000000000002000000000000000000000000000000000000000000000000000000000000000000000000000000000800000006000000000000000000000060000000000010000000000000000000000000040000000000000000000000000000000000000000000020000000000000000000000001000000000000,
  0x80400000080000000000001000001000000000000010800101000000000000000000040000000000000000280000000000000000000000400400100000000000000040000004000000000000000000000000000000000000000000000400000000000082000000000a000000000000030000000000000000000000000000000000000000000001000000000000000000000000000000000000000000000802000000000000000000008000000000000000010000000100000000000000000000000000000000000000000000000000000000000000000000000000000000000000000000000000000100000040000000000000000000000008000000000000000000001000000000000000000000000000000000000000001000500000000000000000000400000000000000020020080800000000004000000000000000000000000208448000100000000000000800000000000000000,
  0x10000000000000000000000000000000000000000000004000000000000000028000000000000000000000000000000000000000000040000000000000000000080000000200000000001000000200000000000000000000000000000000000008000104000000000000000080000010000000000000000800000010000000000000000000000000000000000000000000000000000000000000000000000000000000000000004000000000000000082112000000000000000000800002000000000000000000000080c000000000000080000100000000000000000000000000000000000000000000020000000000000400001000000000000001080101000000000000000000000020000000000000000000002000000000000000000800000001000000000000100800000000000000000000000008000000000000000000000000c000000000000040000000800000000000c000000000000000000000,
  0x803000000000000000008008020200000000000000000010422000000000008200000000080000000000000002000000000000000000000800010000000000000000000400000000000000004000000000000000000000000200000000000000000080000040400000000000000000008004000000000000000000800000000000000000000000000000000000000002000000000000000000080030000000000000000000000000000040000000000000000000000000000000080100000000000000000000000000000000000000000000000001000000000000008001000000000000000000004000000000000000000000000020000000000000000008000000000000000000000000000000000000000000000000010000000000000000000000000000000000001800000000000000000000000000000000000000000000000200000000000000000000800001040000000000000100000004000000000000000000000000000000000,
  0x10080000000000000000000000000010000000000000000000004000000000000000800428000000000000080000000004800000000000000400800000000000000080004000400000000000000000008100000000000000002000000000000000000002000000000000000000000080100000000000000000011100000000000000000000000000000000000000000000000800000000000000004400000000000000000000000004000000000000000000400000000000000000000000100000000000000000000001000001000000000000000000008000000000000000000000000000000000000000000000000000000000000000000200000000000080000000000000000000000002000820000000000000000080000400000000000000000001800000000000000000000000000000000000000000000000000000000000000004000000000000000000000000004000000000000000000004040000000000,
  0x40000000000000000000004000000000000000000000000010000000000000102400000000000000000000000001000000000000000000000000000000000000000020000280000000000000000000800000000000004100000000000000000000800000000000000000000000000084000000000000000000000000000000000000000220002000000000000000000000000000000000000000000000000000000000000001000000100000000000000801000200000000000000002000000000000000000804000000000000000000008000010000000000000000000100000000000000000000200000000000000000000000000020400000000000000000000000000000000002000000000000000000000000001000000000000000001001004040000000000001000000000000000000000900000008000000000000000000000000000000000000000000001000000000000000000008400000000000000000000000000000000000,
  0x10000000000000000000000200000400000000000000000000000000000000000000040000000000000000000000000000000000000000000000001042000000000000000a2000000000000000000000000000000000000000000100801000000000000000000008211000000000000800000000000000000000010080000000000000000008000200000000000000000000020000000000000000000000000000000000000000000008000000000000000000000000800000000000000008000000040000000000000000080040000000000000280000008000000000000000000000000000000000000000900000000000000000000000100040000000000000000000000000000000000000000000000000000000000000000000000000000000200000002000000000000040000000000000000000040000100000000000000000004002080000000000000000000000800000000000000000000000000000000000,
  0x80000000000000000000040000000000000000000080000000000000000000000000000000000000000400401000000000000000000080000000000000000080400400000000000000000000000000000000000000000040000000000000000000010002000000000000000102000000000000000000120000004000000000000000000800000000000000000001000002000000000000400000000020000000000000000000000000000000000000000800000000000000000000800000000000000000800000000000000000000000000000004000000000001000000002000000000000000000010000000000000000000080000000000000000000000000000000000000004000004000000000000000000000000000000000000000400000000000000000008000000002800000000000000000000000000000000000000000000000000000000008000000000000000000001100010000000000000008000400100000000000000,
  0x2400000000000000000004000004000000000000000000041000000000000000800000000000000000000000000000000000000000000000080000000000000001000000000000000000000000400000000000000000000000000100000000000000100000000000000000000080000000800000000000000012000080000000000000000008000000000000000000000004010000000000001000000080000000000000000000008000000000000008000000008000000000000000000800000000000000000000c000000000000000000000000002000000000000000000000000000000000000500000000000000000000040000020080000000000000000100000000000000000000000000000000000000080800000000000000000000000000000000000000000000800000000000000000008004020000000000000000000000000000000000000000001000010000000000000000000000000000000000,
  0x100000040000000000000000100000080000000000000080000000000000000000000000000000000000000000000002000800000000000000000000000000000000000000000000000000000000000080010000000000000000002000000000000000000000800802000000000000000000000000000000000000000000000000000000000000200000000000000000000000000000000000000000000000082100000000000000000400000000000000000008080000000000000000000000000000000000000000010000000000000000000080000000020000000000000000000010000000000000000080000000000000000000000000080000000000000000000000000000000000000000800000000000000000800000000000000000000020000200000000000000000800000401000000000000010000000200000000000000002000000000000000000000010100000000000000000000000000000000000008008101000000000000000,
  0x108000000000000000000000000000000000000000008000200000000000000004000000800000000000002000001000000000000000000000000000000000000106000000000000000000000001004000000000000000001000000000000000000002000000000000000000000200000000000000000000000800000820000000000000008000000000000000000000000000000000000000000000000002000000000000000004000000000000000080000000000000000000000000000000000000000000000000000000000000000000000080000000000000000000000020800000000000000000082110000000000000000000200000000000000000000000000000000000000000280010000000000000000020000000000000000000004000000000000000000400000000000000000000000000000000000000000000000002000000000000000040100000000000000000000000002000000000000000,
  0x200200800000000000000000000000000000000000002000000000000000000000000000000000000000000000000c8000000000000000000020001000000000000000000004000000000000000000000002000000000000000000000000000000000000000000000000000000000080080000000000000000000100000080000000000000010000400000000000000000080800000000000000000000000000000000000000800000000000000000000010000000000000000000000000400000000000000000004000000000000000000000000000000000000000000040008000800000000000000012000000000000000000000000400000000000000040000000000000000000008000000060000000000000000000100800000000000000010400000000000000000100000000000000000000000000000000000000000000000000000000000000000001000000000000000000000000000400000000000000,
  0x90000002000000000000000000000001000000000000000000000000000000000000000400000000000000000002000110000000000000004000000000000000000000000020000000000000000000108000000000000000000002000000000000000000100000000000000000000000000000000000000000000802000000000000000000000040080000000000000000000400040000000000000004000000000000000000000000000000000000000000000000200000000000000000000080000000000000000000000000000000000000000000000000000000000000000000000000000000000004000000000000000000000800410000000000000000000208080000000000000000000000000000000000000000010018000000000000010000000000000000000000080000080000000000000000000080c0000000000000000000000000000000000000000000000000000000000000000000000000000000,
  0x9400000000000000000010040001000000000000000000000000000000000000000000000000000000000000400000000000000000000000000000000000000000020000000000000000000000000002000000000000000002000000000000000000000001000000000000000000000000000000000000000000000000000000000000003000000000000000000000000000000800000000000000000020000000000000000000000000000000000000000000800000000000000000000000080000000000000000000008000000000000000a080000000000000000000002000000000000000000000000000000000000000000000000000000000000000000000000000000000000000000000000000000000000000080004000000000000000000821000000000000008020000000000000000000000000000000000000000000000010400000000000004000010000000000000000100000200000000000000000080004400000000000000,
  0x400000000000000000000000000020000000000000020000000000000000000000000000000000000000000000000000000000000000022000200000000000000000000800000000000000000000000040000000000000000000000000000000000000000000080800000000000000020000000000000000000000004000000000000000000000004000000000000000000000000000000000000000400000000000000000010008000000000000000001000000000000000000000000000800000000000000000800000048000000000000000008000000000000000000000080000000000000000000000010000000000000000000040000000000000000020000800000000000000010000008000000000000000000000000000000000000000040000000000000000000040400000000000000000000000000000000000000000000040400000000000000000200000000000000000005000000000000000000000000000000000000000000,
  0x100000000000000000000000002002000000000000000018000800000000000000000000000000000000000000000041088000000000000000000000000000000000000002000000000000000000000000020000000000000000000000000000000000000000000100000000000000000000000000000000000000800000000000000000000000000000000000000000000000000000000000000000000800000800000000000000000000800000000000000000080000000000000000000000000000000000000000000000050000000000000000804000000000000000001000008000000000000000040008000000000000000000404000800000000000000000008000000000000000000100000000000000000000000000000000000000000200000000000000000000000100000000000000000000000008000000000000000000000000000000000000000800000000000000000000000000000000000000000000002000000000000000000,
  0x100400000000000000000000000000000000000000000000008000000000000000000000000000000000000000000000000000000000000510000000000000000000000000050000000000000000001000000000000000000000000000000000000000000000000000000000000002000000000000000000000000000000000000000000000040040000000000000000000001001000000000000000000000000000000000000000000040000000000000000000100000000000000000240000000000000000000000000000000000000000000010001000000000000000000000004000000000000000000000800000000000000800040000000000000000000200000000000000000000004000000000000000000080000004000000000000000008000000000000000000000201000000000000000000002800000000000000000000000000000000000000000000100000000000000008000000000000000000000,
  0x804080000000000000000000002000000000000000000000000000000000000002000000000000000000000010008000000000000000002000000000000000000000004004000000000000000000000000000000000000000000020800000000000000000000000000000000000000000000400000000000001000000000000000000000020000000000000000000000000000000000000000000000084000000000000000000000000000000000000000004000040000000000000080000000400000000000000002000000000000000000080000000000000000000000020002000000000000000000000000000000000000002000000000000000000000000800200000000000000000000000000000000000000000000000000000000000000060000000000000000000000000000000000000000000000000000000000000000000200000000000000000080000080000000000000000004000000000000000000000000000000000000000,
  0x200000000000000000000000000000000000000000000000000000000000000000000000000000000000000020000800000000000000000008000040000000000000120000000000000000000000000410800000000000000100200000000000000000000200000000000000000000000000000000000000000000400000000000000000000000000000000000000000000200108000000000000000000000000000000000000020020000000000000000000000000000000000000000000400000000000000000000001400000000000000000000040000000000000000040000000000000000000000000000000000000000000000000400000000000000001000014000000000000000000000000000000000000000000000000000000000000000000000000000000000000000000000000000000080000000000000000000000000200000000000000000000000100000000000000000012000000000000000000,
  0x80000000000000000000080000000000000000000100000000000000000000000400000000000000000000000000000000000000000000004000000000000000000420004000000000000000000004000000000000000000000000400000000000000000000000000000000000000000200800000000000000000001000000000000000000000000000000000000001000000000000000000000000000000000000000000000000000000000000000000000000080000000000000004000020000000000000000000000000000000000000000000000000000000000000400100000000000000000000001000000000000000000004000000000000000000000000000000000000000000020030000000000000008000000000000000000000200010000000000000000000008000000000000000000001000000000000000000000000000000000000000000000000000000000000000000800800000000000000000020000000000000000000,
  0x408000000000000000000000000000000000000040000000000000000000001000000000000000000000000000040000000000000000000000000000000000001000000000000000000000008000000000000000000000000000000000000000000000000000000000000000000000000000000000000002000020000000000000000020000000000000000000000100000000000000000000000400200000000000000000000000000000000000000000000000000000000000000002000000000000000000002001000000000000000000080600000000000000000000000000000000000000000004000000000000000000000800000000000000001000100000000000000000000400020000000000000000040000000000000000000000000000000000000000000000000000000000000000002200000000000000000000000000000000000000000040400000000000000000000000000000000000000000000001000000000000000,
  0x4000000000000000000000000000000000000000020000000000000000000000000000000000000000000000000000000000000000012000000000000000000000010000000000000000000000020000000000000000000000000000000000000000000000000000000000000000000100000000000000000000820000000000000000000002010000000000000000010000100000000000000002000000000000000000000020001000000000000000000000000000000000000000040000000000000000000080000000000000000000000000440000000000000000100810000000000000000000000000000000000000000000000000000000000000000000000000000000000010000000000000000000000000000000000000000000000000004000000000000000000000000000000000000000000800000000000000000010422000000000000000,
  0x8000000000000000000002000000000000000000000000000800000000000000000000000000000000000000000000000000000000000000000000000000000000000010400000000000000000000000000000000000000001000000000000000000000008000000000000000000000000000000000000000000000008000000000000000100000010000000000000000200000000000000000000002200000000000000000000000010000000000000000000000200000000000000000000000000000000000000000000000000000000000000000000000000000000000000000000000000000000000104000000000000000000000000000000000000000000082000000000000000000103000000000000000000000000000000000000000200000100000000000000004000000000000000000000020000000000000000000000004000000000000000000000000000000000000000000080000000000000000000020000000000000000000,
  0x800000000000000000000000240000000000000000000000000000000000000000000040000000000000000000000000000000000000000800000000000000000000000000000000000000000000000000000000000000000000000000000000000000000000000000000000000000000010000000000000002000000000000000000000000020020000000000000000000000000000000000000080001000000000000000000000000000000000000000000400000000000000000000000000000000000000000400000000000000000000000000000000000000000004000800000000000000000010080000000000000000020020400000000000000000000003000000000000000000600000000000000000000000000000000000000000000008000000000000000000000000000000000000000001000000000000000000004000000000000000000000000000000000000000000000000000000000000000000400000000000000000000,
  0x4000000000000000000020840000000000000000000008000000000000000000000000000000000000000000001000000000000000280180100000000000000008000000000000000000000000000000000000000000000000000000000000000000000000000000000000000000010000000000000000000000000000000000000000040000000000000000000001000080000000000000000004000000000000000000001000000000000000000000020000000000000000000000000000000000000000000000000000000000000000000000000000000000000000000000000000000000000000000000000000000000021002000000000000000000200000000000000000000000000000000000000000000004000000000000000000002000000000000000000000000000000000000000000000000000000000000000000010200000000000000000000000000000000000000,
  0x10008000000000000000000000200000000000000000000000000000000000000000440010000000000000000000020000000000000000000000c000000000000000000000000000000000000000000000000000000000000008000000000000000000000080000000000000000000002000000000000000000000000040000000000000000000000000000000000000000000000000000000000000000000000000000000000000000a0000000000000000000000000000000000000020000000000000000000000000800000000000000000000000000000000000000002040000000000000000000020800000000000000000000010000000000000000000000200000000000000000000000000000000000000000000000000000000000000400000000000000000000000000000000000000000000800000000000000000000000000000000000000000000000000000000000000000000100000000000000000000000000000000000000000,
  0x8000000000000000000000000000000000000000000000000000000000000000008000000000000000000004000040000000000000000080004000000000000000000800400000000000000000000000000000000000000000000000000000000000000000000000000000000000000000200000000000000000010000000000000000000a006000000000000000000002010000000000000000000000000000000000000000000000000000000000000000000000000000000000000000000000000000000000000000000000000000000000000000000000000000000011000000000000000000000000000000000000000000000008000000000000000000000000000000000000000000800000000000000000040000000000000000000000000000000000000000000004002000000000000000000010000000000000000000000000000000000000000000010000000000000000000000000000000000000000,
  0x4000000000000000000000000000000000000000000000000000000000000000000000800000000000000000000800000000000000000000000040000000000000000000000800000000000000000000200000000000000000000000000000000000000000000000000000000000000000100000000000000000000200000000000000000000120040000000000000000000000000000000000000000000000000000000000000000000000000000000000000002000000000000000000000000000000000000000000000000000000000000000000000000000000000000000000000000000000000004200000000000000000002100200000000000000000000040200000000000000000200000000000000000000000000000000000000000000020000000000000000000000000000000000000000000000000000000000000000000000000000000000000000040000000000000000006000000000000000000000,
  0x2080000000000000000004000000000000000000000000000000000000000000000000000000000000000001000000000000000000001800200000000000000000000000000000000000000000000000000000000000000000000000000000000000000000000000000000000000080000000000000000000000024000000000000000000010000000000000000000000000000000000000000003000000000000000000000004100000000000000000200000000000000000000008000000000000000000000000000000000000000000000000000000000000000000000000000000000000000000000000000000000000002000000000000000000000000100000000000000000000040000000000000000000200000000000000000000000010000000000000000000000020000000000000000000000000000000000000000000000000000000000000,
  0x8000000000000000000000000000000000000000000000000000000000000000000000000000000000000000000000000000000000000080000000000000000000000000400000000000000000000000000000000000000000000000000000000000000000100000000000000000000000000000000000000000000000000000000000000000000000000000000000004000000000000000000000080000000000000000000000001000000000000000000000020000000000000000000040000000000000000000008100000000000000000000800000000000000000000000000000000000000000220000000000000000000000000000000000000000000000000000000000000000000040000000000000000000100000000000000000000040002000000000000000000000000000000000000000000000000000000000000000080000000000000000000000000000000000000000003002000000000000000000000000000000000000000,
  0x2000000000000000000000000000000000000000000000000000000000000000000000000000000000000080400000000000000000000000000000000000000000000000000000000000000080020000000000000000000000000000000000000000400000000000000000000000900000000000000000000000000000000000000000000020000000000000000000040000000000000000000000000000000000000000000011000000000000000000000000000000000000000000000000000000000000000400000000000000000000000000000000000000000000000000000000000000000000000000000000000000000400000000000000000000000000000000000000000000000000000000000000000000000000000000000000000010000000000000000000000200000000000000000000000000000000000000002100000000000000000000000000000000000000000200200000000000000000002000000000000000000000,
  0x1000000000000000000000000000000000000000000000000000000000000000000180000000000000000000000000000000000000000000000000000000000000000000a0000000000000000000000000000000000000000000000000000000000000000001000000000000000000000000000000000000000008000000000000000000000001000000000000000000010000000000000000000000000000000000000000000000000000000000000000000000000000000000000000000000000000000000000000000000000000000000000000000000000000000000002000000000000000000004000000000000000000000000100000000000000000020000000000000000000002000000000000000000000000000000000000000000020000000000000000000000800800000000000000000000081000000000000000000000000000000000000000000400000000000000000000000000000000000000000,
  0x200000000000000000000000010000000000000000000001000000000000000000000400000000000000000000080000000000000000000000000000000000000000000000000000000000000000000000000000000000000c001000000000000000000000000000000000000000000102000000000000000000020000000000000000000020000000000000000000000000000000000000000000000000000000000000000000000000000000000000000000000000000000000000000000000000000000000000008000000000000000000000000000000000000000000000000000000000000000000000000000000000000000000000000000000000000210000000000000000000000100000000000000000000600000000000000000000000100000000000000000000000000000000000000000,
  0x4001000000000000000000000000000000000000000040000000000000000000000040000000000000000000004000000000000000000000004000000000000000000001000000000000000000000000000000000000000000000000000000000000000000100000000000000000000000000000000000000000000000000000000000000002000000000000000000000000000000000000000000000400000000000000000000000000000000000000000000000000000000000000000400000000000000000000242100000000000000000000000000000000000000000000000000000000000000000000000000000000000000000000000000000000000000000000000000000000000000000000000000000000000000000000000000000000000000000000000000000000000000000000000000200000000000000000000000009000000000000000000,
  0x20000000000000000000000000000000000000000001000000000000000000000000000000000000000000000010000000000000000000400000000000000000000000000000000000000000000100000000000000000000400000000000000000000000000000000000000000000080000000000000000000000200000000000000000000008000000000000000000000000000000000000000000100000000000000000000000400000000000000000000000000000000000000000080000000000000000000000000000000000000000000000000000000000000000100000000000000000000000000000000000000000002000000000000000000000000000000000000000000000000000000000000000000000000000000000000000000000000000000000000000000100000000000000000020000000000000000000000000000000000000000000000000000000000000000000008000000000000000000,
  0x40000000000000000000001000000000000000000000000000000000000000000000000000000000000000004000000000000000000000000000000000000000000040000000000000000000000100000000000000000000000000000000000000000000000000000000000000000000000000000000000000000000000000000000000020000000000000000000000018000000000000000000100000000000000000000000000000000000000000000000000000000000000000040000000000000000000000000000000000000000000000000000000000000000000200000000000000000000080000000000000000000001000000000000000000000000000000000000000000000000000000000000000000000000000000000000000000000000000000000000021000000000000000000000008000000000000000000000000000000000000000000000000000000000000000000000000000000000000000000000000000000000000,
  0x600000000000000000000000000000000000000000000000000000000000000000024200000000000000000000000000000000000000000000000000000000000000000000000000000000000000000000000000000000000000000000000000000000000000000000000000000000010000000000000000000000010000000000000000000000000000000000000000000000000000000000000000000000000000000000000000000000000000000000000080000000000000000000002000000000000000000000000000000000000000000000800000000000000000000000000000000000000000000000000000000000000004080000000000000000000000000000000000000000000000000000000000000004000000000000000000000000000000000000000000000020000000000000000000000000000000000000000001000000000000000000000000000000000000000000,
  0x280000000000000000000000000000000000000000010000000000000000000000000000000000000000000000000000000000000000000000000000000000000000000000000000000000000000000000000000000000000000000000000000000000000000000000000000000000000000000000000000000000000000000000000000000000000000000000000000800000000000000000000000000000000000000000014008000000000000000000001000000000000000000001400000000000000000000200000000000000000000000000000000000000000000000000000000000000000200000000000000000000000000000000000000000000000000000000000000000000000000000000000000000000000000000000000000004000000000000000000000080000000000000000000,
  0x108000000000000000000010000000000000000000000000000000000000000000000000000000000000000004100000000000000000000000000000000000000000000000000000000000000008000000000000000000000000000000000000000000000000000000000000000002800000000000000000000000000000000000000000000020000000000000000000000000000000000000000000000000000000000000000000000000000000000000000000000000000000000000000000000000000000000000000000000000000000000000000000000000000000000000000000000000000000000000000000000000000020000000000000000000000000000000000000000000800000000000000000000000000000000000000000000000000000000000000000000000000000000000000010000000000000000000000000000000000000000000000000000000000000000000080000000000000000000,
  0x10000000000000000000008000000000000000000000000000000000000000000000000000000000000000002000000000000000000000000000000000000000000001000000000000000000000000000000000000000000000000000000000000000000000000000000000000000000000000000000000000000000000000000000000000000000000000000000000000000000000000000000000000000000000000000000000000000000000000000000000000000000000000000200000000000000000000000000000000000000000000000000000000000000000000000000000000000000010000000000000000000000220000000000000000000000000000000000000000000000000000000000000000400000000000000000000000000000000000000000000000000000000000000000000000000000000000000000010000000000000000000040000000000000000000008000000000000000000000,
  0x8000000000000000000002000000000000000000000000000000000000000000000000000000000000000000100000000000000000000000000000000000000000000000000000000000000000000000000000000000000020000000000000000000000000000000000000000000000000000000000000000000000000000000000000000000000000000000000000000000000000000000000000000000000000000000000080000000000000000000000000000000000000000000000000000000000000000000000000000000000000000040000000000000000000000000000000000000000000000000000000000000000040800000000000000000000000000000000000000000001000000000000000000000000000000000000000000000000000000000000000010000000000000000000000000000000000000000000002000000000000000000000000000000000000000000,
  0x500000000000000000000000000000000000000000000000000000000000000000100000000000000000000000800000000000000000000000000000000000000000080000000000000000000000000000000000000000000000000000000000000000000200000000000000000000000000000000000000000000000000000000000000000000000000000000000000000000000000000000000000080000000000000000000000000000000000000000012000000000000000000000000000000000000000000000000000000000000000000000000000000000000000000000000000000000000000000000000000000000001000000000000000000000000000000000000000000000000000000000000000000000000000000000000000000000000000000000000000,
  0x100000000000000000000000000000000000000000000000000000000000000000000000000000000000000000000000000000000000000020000000000000000000000000000000000000000000000000000000000000000020000000000000000000000020000000000000000000020000000000000000000000000000000000000000000010000000000000000000000000000000000000000000000000000000000000000000000000000000000000000000000000000000000000000000000000000000000000000000000000000000000000000000000000000000002000000000000000000000000000000000000000000000000000000000000000000000000000000000000000000000000000000000000000400000000000000000000000000000000000000000000000000000000000000004000000000000000000000000000000000000000000000000000000000000000000,
  0x20000000000000000000000000000000000000000000020000000000000000000000000000000000000000000000000000000000000000000000000000000000000000000000000000000000000000000000000000000000001000000000000000000000000000000000000000000000000000000000000000000000000000000000000000000000000000000000000000000000000000000000000000000000000000000000000000000000000000000000000000000000000000000000000000000000000000001040000000000000000000000000000000000000000000000000000000000000000000000000000000000000000000000000000000000001000000000000000000000000000000000000000000000200000000000000000000008000000000000000000000000000000000000000000,
  0x1000000000000000000000000000000000000000000010000000000000000000000000000000000000000000000000000000000000000000000000000000000000000000000000000000000000001000000000000000000000020000000000000000000002000000000000000000000000000000000000000000000000000000000000000000000000000000000000000000000000000000000000000000000000000000000000000000000000000000000000000000000000000000000000000000000000000000000000000000000000000000000000000000000000000200000000000000000000000800000000000000000000000000000000000000000000000000000000000000000000000000000000000000000000000000000000000000000000000000000000000,
  0x1000000000000000000000000000000000000000000000000000000000000000000000000000000000000000002000000000000000000002000000000000000000000000000000000000000000000000000000000000000000000000000000000000000000000000000000000000000000000000000000000000000000000000000000000000000000000000000000000000000000000000000000000000000000000000000000100000000000000000000000000000000000000000000000000000000000000000000000000000000000000000000000000000000000000000000000000000000000010000000000000000000000000000000000000000000000000000000000000000000000000000000000000000000000000000000000000001000000000000000000000,
  0x10000000000000000000000000000000000000000000000000000000000000000000000000000000000000000000000000000000000000000000000000000000000000000000000000000000000100000000000000000000000000000000000000000000100000000000000000000000000000000000000000000000000000000000000000000000000000000000000000000000000000000000000000000000000000000000000000000000000000000000000000000000000000000000000000000000000000000000000000000000000000000000000000000000000000000000000000000000000000000000000000000000010000000000000000000000100000000000000000000000000000000000000000000000000000000000000000000000000000000000000000000000000000000000000,
  0x1000000000000000000000200000000000000000000000000000000000000000000000000000000000000000000000000000000000000000000000000000000000000000000000000000000000000000000000000000000000000000000000000000000000000000000000000000000000000000000000000000100000000000000000000000000000000000000000000000000000000000000000000000000000000000000000000000000000000000000000000000000000000000000000000000000000000000000000000000000000000000000000000000000000000000000000000000000000000000000000000000000000000000000000000000000000000000000000000000000000000000000000000000000000000000000000000000000000000000000000000000000000000000000000000000000000000000000000000000000000000000000080000000000000000000000000000000000000000000,
  0x100000000000000000000010000000000000000000000000000000000000000000000000000000000000000000000000000000000000000000000000000000000000000000000000000000000000000000000000000000000008000000000000000000000000000000000000000000000000000000000000000000000000000000000000000000000000000000000000000000000000000000000000,
  0x1000000000000000000000000000000000000000000000000000000000000000000000000000000000000000000000000000000000000000000000000000000000000000000000000000000000000000000000000000000000000000000000000000000000000000000000000000000000000000000000000000010000000000000000000000000000000000000000000000000000000000000000000000000000000000000000000000000000000000000000000000000000000000000000000000000000000000000000000000000000000000000000000000000000000000000000000000000000000000000000000000000000000000000000000000000000000000000000000000000000000000000000000000000000000000000000000000000000000000000000000000000000000000000000000000000000000000000000,
  0x100000000000000000000000000000000000000000000000000000000000000000000000000000000000000000000000000000000000000000000000000000000000000000000000000000000000000000000000000000000000000000000000000000000000000000000000000000000000000000000000000000000000000000000000000000000000000000000000000000000000000000000000000000000000000000000000000000000000000000000000000000000000000000000000000000000000000000000000000000000000000000000000000000000000000000000000000000000000000000000000000000000000000000000000000000000000000000000000000000000000000000000000000000000000000000000000000000000000000000000000000000000000000000000000000000000000000000000000000000000000000000000000000000000000000000000000000000000000000000000000000000000000000,
  0x0]
def VV : Nat := 0x10800240000000000100000000000000000080000000000400000000000000001000000020000000000000000000000000000000000000000000000000000100008000000000002000000001000004100000001000000000000100001020000000080000000004010040040000000000000000000004000000800400000080000000200000000000000002000000000000400000000000008400000000000000000000080000808001000100010010040001000020000004008000010000000004000020000000040000000000000000000000000008000000000000001000000000000010040000000000080000000000002000001000000000000000000000000000000200000000000000000000001000002000100010000000000000000000000000000000000004200000000000204840000000000000000001000000040000440000040020000000002000000040000000001000200800800040800008000040000006040000002200000000
def kA (a c : Nat) : Nat := Nat.mod (Nat.add (Nat.add (Nat.mul 26 a) (zech (Nat.sub c a))) (Nat.mul 32 (zech c))) 33
def k1 (a b : Nat) : Nat := Nat.mod (Nat.add (zech b) (Nat.mul 32 (zech (Nat.sub b a)))) 33
def k2 (a b : Nat) : Nat := Nat.mod (Nat.add (Nat.add (zech a) (Nat.mul 32 a)) (Nat.add (Nat.mul 32 (zech (Nat.sub b a))) b)) 33
def hV (c : Nat) : Nat := Nat.mod (Nat.add (Nat.mul 24 c) (Nat.mul 2 (zech c))) 33
def k3 (a b : Nat) : Nat := Nat.mod (Nat.add (Nat.add (Nat.add (zech a) (zech b)) (Nat.mul 25 (Nat.add a b))) (Nat.mul 32 (Nat.add (k1 a b) (k2 a b)))) 33
theorem kA_eq (a c : Nat) : kA a c = (26 * a + zech (c - a) + 32 * zech c) % 33 := rfl
theorem k1_eq (a b : Nat) : k1 a b = (zech b + 32 * zech (b - a)) % 33 := rfl
theorem k2_eq (a b : Nat) : k2 a b = (zech a + 32 * a + (32 * zech (b - a) + b)) % 33 := rfl
theorem hV_eq (c : Nat) : hV c = (24 * c + 2 * zech c) % 33 := rfl
theorem k3_eq (a b : Nat) : k3 a b = (zech a + zech b + 25 * (a + b) + 32 * (k1 a b + k2 a b)) % 33 := rfl
def cutAt (t n : Nat) : Nat := Nat.shiftRight t (Nat.mul 89 n)
theorem cutAt_eq (t n : Nat) : cutAt t n = t >>> (89 * n) := rfl
def bitAt (t i : Nat) : Bool := Nat.beq (Nat.land 1 (Nat.shiftRight t i)) 1
theorem bitAt_eq {t i : Nat} (h : bitAt t i = true) : t.testBit i = true := by
  have h1 : 1 &&& (t >>> i) = 1 := Nat.eq_of_beq_eq_true h
  rw [Nat.testBit, h1]; rfl
def rowsT : Nat → List Nat → Bool
  | _, [] => true
  | a, t :: r => allLt 89 (fun c => Nat.ble c a || bitAt t (Nat.add (Nat.mul 89 (kA a c)) c)) && rowsT (a + 1) r
def inner (a t : Nat) : Nat → List Nat → Bool
  | _, [] => true
  | b, u :: r => Nat.beq (Nat.mod (Nat.land (cutAt t (k1 a b)) (Nat.land (cutAt u (k2 a b)) (cutAt VV (k3 a b)))) 618970019642690137449562112) 0 && inner a t (b + 1) r
def outer : Nat → List Nat → Bool
  | _, [] => true
  | a, t :: r => inner a t (a + 1) r && outer (a + 1) r
theorem rowsT_ok : ∀ {l : List Nat} {a : Nat}, rowsT a l = true → ∀ i t, l[i]? = some t → allLt 89 (fun c => Nat.ble c (a + i) || bitAt t (Nat.add (Nat.mul 89 (kA (a + i) c)) c)) = true
  | t :: r, a, h, 0, t', e => by
    rw [rowsT, Bool.and_eq_true] at h
    cases e; exact h.1
  | t :: r, a, h, i + 1, t', e => by
    rw [rowsT, Bool.and_eq_true] at h
    have := rowsT_ok h.2 i t' e
    rwa [show a + 1 + i = a + (i + 1) from by omega] at this
theorem inner_ok {a t : Nat} : ∀ {l : List Nat} {b : Nat}, inner a t b l = true → ∀ i u, l[i]? = some u → (cutAt t (k1 a (b + i)) &&& (cutAt u (k2 a (b + i)) &&& cutAt VV (k3 a (b + i)))) % 2 ^ 89 = 0
  | u :: r, b, h, 0, u', e => by
    rw [inner, Bool.and_eq_true] at h
    cases e; exact Nat.eq_of_beq_eq_true h.1
  | u :: r, b, h, i + 1, u', e => by
    rw [inner, Bool.and_eq_true] at h
    have := inner_ok h.2 i u' e
    rwa [show b + 1 + i = b + (i + 1) from by omega] at this
theorem outer_ok : ∀ {l : List Nat} {a : Nat}, outer a l = true → ∀ i j t u, l[i]? = some t → l[i + 1 + j]? = some u → (cutAt t (k1 (a + i) (a + i + 1 + j)) &&& (cutAt u (k2 (a + i) (a + i + 1 + j)) &&& cutAt VV (k3 (a + i) (a + i + 1 + j)))) % 2 ^ 89 = 0
  | t :: r, a, h, 0, j, t', u, e, e2 => by
    rw [outer, Bool.and_eq_true] at h
    cases e
    rw [show 0 + 1 + j = j + 1 from by omega] at e2
    exact inner_ok h.1 j u e2
  | t :: r, a, h, i + 1, j, t', u, e, e2 => by
    rw [outer, Bool.and_eq_true] at h
    rw [show i + 1 + 1 + j = (i + 1 + j) + 1 from by omega] at e2
    have := outer_ok h.2 i j t' u e e2
    rwa [show a + 1 + i = a + (i + 1) from by omega] at this
theorem T_ok : rowsT 1 TL = true := by decide +kernel
theorem V_ok : allLt 89 (fun c => Nat.beq c 0 || bitAt VV (Nat.add (Nat.mul 89 (hV c)) c)) = true := by decide +kernel
theorem M_ok : outer 1 TL = true := by decide +kernel
theorem TL_len : TL.length = 88 := by decide +kernel
theorem four_no {a b c : Nat} (ha : 0 < a) (hab : a < b) (hbc : b < c) (hc : c ≤ 88) : four a b c = false := by
  cases h : four a b c with
  | false => rfl
  | true =>
    exfalso
    obtain ⟨i, rfl⟩ : ∃ i, a = 1 + i := ⟨a - 1, by omega⟩
    obtain ⟨j, rfl⟩ : ∃ j, b = 1 + i + 1 + j := ⟨b - (1 + i + 1), by omega⟩
    obtain ⟨t, ht⟩ : ∃ t, TL[i]? = some t := ⟨_, List.getElem?_eq_getElem (by rw [TL_len]; omega)⟩
    obtain ⟨u, hu⟩ : ∃ u, TL[i + 1 + j]? = some u := ⟨_, List.getElem?_eq_getElem (by rw [TL_len]; omega)⟩
    have tA := allLt_ok (rowsT_ok T_ok i t ht) c (by omega)
    have tB := allLt_ok (rowsT_ok T_ok (i + 1 + j) u hu) c (by omega)
    have tV := allLt_ok V_ok c (by omega)
    have tM := outer_ok M_ok i j t u ht hu
    rw [show 1 + (i + 1 + j) = 1 + i + 1 + j from by omega] at tB
    generalize 1 + i = a at *
    generalize a + 1 + j = b at *
    have zb : ∀ {n m : Nat}, m < n → Nat.ble n m = false := fun {n m} hn => by
      cases q : Nat.ble n m with
      | false => rfl
      | true => exact absurd (Nat.le_of_ble_eq_true q) (by omega)
    have z0 : Nat.beq c 0 = false := by cases c with | zero => omega | succ n => rfl
    rw [zb (by omega), Bool.false_or] at tA tB
    rw [z0, Bool.false_or] at tV
    replace tA := bitAt_eq tA
    replace tB := bitAt_eq tB
    replace tV := bitAt_eq tV
    unfold four at h
    rw [Bool.and_eq_true, Bool.and_eq_true, Nat.beq_eq, Nat.beq_eq, Nat.beq_eq] at h
    obtain ⟨h1, h2, h3⟩ := h
    have hba : a ≤ b := by omega
    have hcb : b ≤ c := by omega
    have e1 : kA a c = k1 a b := by
      rw [kA_eq, k1_eq]
      clear tA tB tV tM ht hu h2 h3
      generalize zech b = zb' at *
      generalize zech c = zc at *
      generalize zech (b - a) = zba at *
      generalize zech (c - a) = zca at *
      clear hab hbc hc hba hcb ha
      omega
    have e2 : kA b c = k2 a b := by
      rw [kA_eq, k2_eq]
      clear tA tB tV tM ht hu h1 h3 e1
      generalize zech a = za at *
      generalize zech c = zc at *
      generalize zech (b - a) = zba at *
      generalize zech (c - b) = zcb at *
      clear hab hbc hc hba hcb ha
      omega
    have e3 : hV c = k3 a b := by
      rw [hV_eq, k3_eq, ← e1, ← e2, kA_eq, kA_eq]
      clear tA tB tV tM ht hu h1 h2 e1 e2
      generalize zech a = za at *
      generalize zech b = zb' at *
      generalize zech c = zc at *
      generalize zech (c - a) = zca at *
      generalize zech (c - b) = zcb at *
      clear hab hbc hc hba hcb ha
      omega
    rw [e1] at tA
    rw [e2] at tB
    rw [e3] at tV
    replace tA : t.testBit (89 * k1 a b + c) = true := tA
    replace tB : u.testBit (89 * k2 a b + c) = true := tB
    replace tV : VV.testBit (89 * k3 a b + c) = true := tV
    have tM' := congrArg (fun x => x.testBit c) tM
    simp only [cutAt_eq, Nat.testBit_mod_two_pow, Nat.testBit_and, Nat.testBit_shiftRight, tA, tB, tV, Nat.zero_testBit, Bool.and_true, decide_eq_false_iff_not] at tM'
    omega
def wt (v : Nat) : Nat := ((128660195697985348771562688941042764012546846720 : Nat) >>> (5 * v)) % 32
def Fc (j : Nat) : Nat := match j with | 0 => 200144897091027151427054618524617778981488239625590082734016663997650039063124540510976001 | 1 => 1984745076491743561049466543550629428424605061659699653063330794200023575939810038602807297 | _ => 1360284699461552775967564530502582972283966291343567076996103806258515235248848300840859649
def phi (j c : Nat) : Nat → Nat
  | 0 => 0
  | i + 1 => phi j c i ^^^ (if c.testBit i then (Fc j >>> (10 * i)) % 1024 else 0)
/- part r_u1phi -/
theorem phi_xor (j a b : Nat) : ∀ n, phi j (a ^^^ b) n = phi j a n ^^^ phi j b n
  | 0 => by simp [phi]
  | i + 1 => by
    have h := phi_xor j a b i
    simp only [phi, h, Nat.testBit_xor]
    cases a.testBit i <;> cases b.testBit i <;> simp [Nat.xor_assoc, Nat.xor_comm, xlc, xsc]
theorem pow_xor {n x : Nat} (h : x < 2 ^ n) : 2 ^ n ^^^ x = 2 ^ n + x := by
  have e := Nat.two_pow_add_eq_or_of_lt h 1
  rw [Nat.mul_one] at e
  rw [e]
  refine Nat.eq_of_testBit_eq fun i => ?_
  rw [Nat.testBit_xor, Nat.testBit_or, Nat.testBit_two_pow]
  by_cases hi : n = i
  · subst hi
    rw [Nat.testBit_lt_two_pow h]; simp
  · simp [hi]
theorem lin_zero {f : Nat → Nat} (hf : ∀ a b, f (a ^^^ b) = f a ^^^ f b) : f 0 = 0 := by
  have e := hf 0 0
  rw [Nat.xor_self, Nat.xor_self] at e; exact e
theorem lin_ext {f g : Nat → Nat} (hf : ∀ a b, f (a ^^^ b) = f a ^^^ f b) (hg : ∀ a b, g (a ^^^ b) = g a ^^^ g b) : ∀ n, (∀ i, i < n → f (2 ^ i) = g (2 ^ i)) → ∀ c, c < 2 ^ n → f c = g c
  | 0, _, c, hc => by
    have : c = 0 := by omega
    rw [this, lin_zero hf, lin_zero hg]
  | n + 1, h, c, hc => by
    have ih := lin_ext hf hg n (fun i hi => h i (by omega))
    by_cases q : c < 2 ^ n
    · exact ih c q
    · have h2 : c - 2 ^ n < 2 ^ n := by rw [Nat.pow_succ] at hc; omega
      have e : c = 2 ^ n ^^^ (c - 2 ^ n) := by rw [pow_xor h2]; omega
      rw [e, hf, hg, h n (by omega), ih _ h2]
theorem phi_T_base : ∀ j, j < 3 → ∀ i, i < 30 → phi j (T (2 ^ i)) 30 = MA (24 + j) (phi j (2 ^ i) 30) := by decide +kernel
theorem phi_T {j c : Nat} (hj : j < 3) (hc : c < 2 ^ 30) : phi j (T c) 30 = MA (24 + j) (phi j c 30) :=
  lin_ext (f := fun c => phi j (T c) 30) (g := fun c => MA (24 + j) (phi j c 30)) (fun a b => by rw [T_xor, phi_xor]) (fun a b => by rw [phi_xor, MA_xor]) 30 (phi_T_base j hj) c hc
theorem phi_v : ∀ j, j < 3 → ∀ v, v < 32 → v ≠ 0 → phi j v 30 = A (33 * wt v) := by decide +kernel
theorem phi_Tn {j : Nat} (hj : j < 3) : ∀ n c, c < 2 ^ 30 → phi j (Tn n c) 30 = MA ((24 + j) * n) (phi j c 30)
  | 0, _, _ => rfl
  | n + 1, c, hc => by
    rw [Tn, phi_Tn hj n (T c) (T_lt c), phi_T hj hc, ← MA_add, Nat.mul_add, Nat.mul_one]
theorem fold_lin : ∀ (r : List Nat) (c : Nat), r.foldl polyStep c = Tn r.length c ^^^ r.foldl polyStep 0
  | [], c => by simp [Tn]
  | v :: r, c => by
    have e0 : polyStep 0 v = v := by rw [polyStep_T, show T 0 = 0 from by decide, Nat.zero_xor]
    rw [List.foldl_cons, List.foldl_cons, fold_lin r, fold_lin r (polyStep 0 v), e0, polyStep_T, Tn_xor, List.length_cons, Tn, Nat.xor_assoc]
def terms : List Nat → List (Nat × Nat)
  | [] => []
  | v :: r => if v = 0 then terms r else (33 * wt v + 24 * r.length, r.length) :: terms r
theorem phi_zero (j : Nat) : phi j 0 30 = 0 := lin_zero (f := fun c => phi j c 30) fun a b => phi_xor j a b 30
theorem phi_fold {j : Nat} (hj : j < 3) : ∀ e : List Nat, (∀ v ∈ e, v < 32) → phi j (e.foldl polyStep 0) 30 = xsum (terms e) j
  | [], _ => by rw [List.foldl_nil, phi_zero]; rfl
  | v :: r, h => by
    have hv := h v (.head _)
    have e0 : polyStep 0 v = v := by rw [polyStep_T, show T 0 = 0 from by decide, Nat.zero_xor]
    rw [List.foldl_cons, e0, fold_lin, phi_xor, phi_fold hj r (fun x hx => h x (.tail _ hx)), phi_Tn hj _ _ (Nat.lt_of_lt_of_le hv (by decide)), terms]
    by_cases q : v = 0
    · rw [if_pos q, q, phi_zero, MA_zero, Nat.zero_xor]
    · rw [if_neg q, phi_v j hj v hv q, MA_A, show (24 + j) * r.length + 33 * wt v = 33 * wt v + 24 * r.length + j * r.length from by rw [Nat.add_mul]; omega]
      rfl
theorem rel_terms {e : List Nat} (he : ∀ v ∈ e, v < 32) (h : e.foldl polyStep 0 = 0) : Rel 3 (terms e) := fun j hj => by
  rw [← phi_fold hj e he, h, phi_zero]
theorem terms_ok : ∀ e : List Nat, (∀ q ∈ terms e, q.2 < e.length ∧ ∃ w, q.1 = 33 * w + 24 * q.2) ∧ (terms e).Pairwise (fun a b => b.2 < a.2)
  | [] => ⟨(fun _ h => nomatch h), List.Pairwise.nil⟩
  | v :: r => by
    obtain ⟨h1, h2⟩ := terms_ok r
    rw [terms]
    by_cases q : v = 0
    · rw [if_pos q]
      exact ⟨fun x hx => ⟨Nat.lt_succ_of_lt (h1 x hx).1, (h1 x hx).2⟩, h2⟩
    · rw [if_neg q]
      refine ⟨fun x hx => ?_, .cons (fun b hb => (h1 b hb).1) h2⟩
      rcases List.mem_cons.mp hx with rfl | hx
      · exact ⟨Nat.lt_succ_self _, _, rfl⟩
      · exact ⟨Nat.lt_succ_of_lt (h1 x hx).1, (h1 x hx).2⟩
theorem alg1 {p2 p3 w2 w3 z02 z12 z03 z13 : Nat} (h : p3 < p2) (e : (33 * w2 + 24 * p2 + p2 + z02 + p2 + z12) % 33 = (33 * w3 + 24 * p3 + p3 + z03 + p3 + z13) % 33) : (26 * (p2 - p3) + z02 + z12) % 33 = (z03 + z13) % 33 := by omega
theorem alg2 {p1 p2 p3 w1 w3 z01 z12 z03 z23 : Nat} (h : p3 < p2) (h' : p2 < p1) (e : (33 * w1 + 24 * p1 + p1 + z01 + p2 + z12) % 33 = (33 * w3 + 24 * p3 + p3 + z03 + p3 + z23) % 33) : (25 * (p1 - p3) + (p2 - p3) + z01 + z12) % 33 = (z03 + z23) % 33 := by omega
theorem alg3 {p0 p1 p2 p3 w0 w3 z01 z02 z13 z23 : Nat} (h : p3 < p2) (h' : p2 < p1) (h2 : p1 < p0) (e : (33 * w0 + 24 * p0 + p1 + z01 + p2 + z02) % 33 = (33 * w3 + 24 * p3 + p3 + z13 + p3 + z23) % 33) : (24 * (p0 - p3) + (p1 - p3) + (p2 - p3) + z01 + z02) % 33 = (z13 + z23) % 33 := by omega
theorem beq_of {a b : Nat} (h : a = b) : Nat.beq a b = true := by rw [h]; exact Nat.beq_refl _
theorem two_rel {t0 p0 t1 p1 t2 p2 t3 p3 : Nat} (hR : Rel 3 [(t0, p0), (t1, p1), (t2, p2), (t3, p3)]) (b0 : p0 ≤ 88) (b1 : p1 ≤ 88) (b2 : p2 ≤ 88) (b3 : p3 ≤ 88) (n1 : p0 ≠ p1) (n2 : p0 ≠ p2) (n3 : p0 ≠ p3) (n4 : p1 ≠ p2) (n5 : p1 ≠ p3) :
    (t2 + min p0 p2 + zech (dist p0 p2) + min p1 p2 + zech (dist p1 p2)) % 33 = (t3 + min p0 p3 + zech (dist p0 p3) + min p1 p3 + zech (dist p1 p3)) % 33 := by
  have r := elim hR b0 (List.forall_mem_cons.mpr ⟨⟨n1, b1⟩, List.forall_mem_cons.mpr ⟨⟨n2, b2⟩, List.forall_mem_cons.mpr ⟨⟨n3, b3⟩, List.forall_mem_nil _⟩⟩⟩)
  have r2 := elim r b1 (List.forall_mem_cons.mpr ⟨⟨n4, b2⟩, List.forall_mem_cons.mpr ⟨⟨n5, b3⟩, List.forall_mem_nil _⟩⟩)
  exact rel_two r2
theorem four_rel {t0 p0 t1 p1 t2 p2 t3 p3 w0 w1 w2 w3 : Nat} (hR : Rel 3 [(t0, p0), (t1, p1), (t2, p2), (t3, p3)]) (a0 : p0 ≤ 88) (q1 : p1 < p0) (q2 : p2 < p1) (q3 : p3 < p2)
    (e0 : t0 = 33 * w0 + 24 * p0) (e1 : t1 = 33 * w1 + 24 * p1) (e2 : t2 = 33 * w2 + 24 * p2) (e3 : t3 = 33 * w3 + 24 * p3) : False := by
  have s1 := two_rel hR a0 (by omega) (by omega) (by omega) (by omega) (by omega) (by omega) (by omega) (by omega)
  have s2 := two_rel (rel_perm hR (List.Perm.cons _ (List.Perm.swap _ _ _))) a0 (by omega) (by omega) (by omega) (by omega) (by omega) (by omega) (by omega) (by omega)
  have s3 := two_rel (rel_perm hR ((List.Perm.swap _ _ _).trans (List.Perm.cons _ (List.Perm.swap _ _ _)))) (by omega) (by omega) a0 (by omega) (by omega) (by omega) (by omega) (by omega) (by omega)
  have hf := four_no (a := p2 - p3) (b := p1 - p3) (c := p0 - p3) (by omega) (by omega) (by omega) (by omega)
  have d02 : dist p0 p2 = (p0 - p3) - (p2 - p3) := by unfold dist; omega
  have d12 : dist p1 p2 = (p1 - p3) - (p2 - p3) := by unfold dist; omega
  have d03 : dist p0 p3 = p0 - p3 := by unfold dist; omega
  have d13 : dist p1 p3 = p1 - p3 := by unfold dist; omega
  have d01 : dist p0 p1 = (p0 - p3) - (p1 - p3) := by unfold dist; omega
  have d23 : dist p2 p3 = p2 - p3 := by unfold dist; omega
  have d21 : dist p2 p1 = (p1 - p3) - (p2 - p3) := by unfold dist; omega
  have d10 : dist p1 p0 = (p0 - p3) - (p1 - p3) := by unfold dist; omega
  have d20 : dist p2 p0 = (p0 - p3) - (p2 - p3) := by unfold dist; omega
  have m02 : min p0 p2 = p2 := by omega
  have m12 : min p1 p2 = p2 := by omega
  have m03 : min p0 p3 = p3 := by omega
  have m13 : min p1 p3 = p3 := by omega
  have m01 : min p0 p1 = p1 := by omega
  have m21 : min p2 p1 = p2 := by omega
  have m23 : min p2 p3 = p3 := by omega
  have m10 : min p1 p0 = p1 := by omega
  have m20 : min p2 p0 = p2 := by omega
  rw [d02, d12, d03, d13, m02, m12, m03, m13, e2, e3] at s1
  rw [d01, d21, d03, d23, m01, m21, m03, m23, e1, e3] at s2
  rw [d10, d20, d13, d23, m10, m20, m13, m23, e0, e3] at s3
  have ht : four (p2 - p3) (p1 - p3) (p0 - p3) = true := by
    unfold four
    rw [beq_of (alg1 q3 s1), beq_of (alg2 q3 q2 s2), beq_of (alg3 q3 q2 q1 s3)]
    rfl
  rw [ht] at hf; cases hf
theorem no_rel {l : List (Nat × Nat)} (hR : Rel 3 l) (hok : ∀ q ∈ l, q.2 ≤ 88 ∧ ∃ w, q.1 = 33 * w + 24 * q.2) (hp : l.Pairwise (fun a b => b.2 < a.2)) (h1 : 1 ≤ l.length) (h4 : l.length ≤ 4) : False := by
  match l, hR, hok, hp, h1, h4 with
  | [(t, p)], hR, _, _, _, _ => exact rel_one (rel_mono hR (by decide))
  | [(t0, p0), (t1, p1)], hR, hok, hp, _, _ =>
    have a0 := (hok _ (.head _)).1
    have a1 := (hok _ (.tail _ (.head _))).1
    have q := List.rel_of_pairwise_cons hp (.head _)
    dsimp only at a0 a1 q
    have r := elim hR a0 (List.forall_mem_cons.mpr ⟨⟨by omega, a1⟩, List.forall_mem_nil _⟩)
    exact rel_one (rel_mono r (by decide))
  | [(t0, p0), (t1, p1), (t2, p2)], hR, hok, hp, _, _ =>
    have a0 := (hok _ (.head _)).1
    have a1 := (hok _ (.tail _ (.head _))).1
    have a2 := (hok _ (.tail _ (.tail _ (.head _)))).1
    have q1 := List.rel_of_pairwise_cons hp (.head _)
    have q2 := List.rel_of_pairwise_cons hp.of_cons (.head _)
    dsimp only at a0 a1 a2 q1 q2
    have r := elim hR a0 (List.forall_mem_cons.mpr ⟨⟨by omega, a1⟩, List.forall_mem_cons.mpr ⟨⟨by omega, a2⟩, List.forall_mem_nil _⟩⟩)
    have r2 := elim r a1 (List.forall_mem_cons.mpr ⟨⟨by simp only [fz]; omega, a2⟩, List.forall_mem_nil _⟩)
    exact rel_one r2
  | [(t0, p0), (t1, p1), (t2, p2), (t3, p3)], hR, hok, hp, _, _ =>
    obtain ⟨a0, w0, e0⟩ := hok _ (.head _)
    obtain ⟨a1, w1, e1⟩ := hok _ (.tail _ (.head _))
    obtain ⟨a2, w2, e2⟩ := hok _ (.tail _ (.tail _ (.head _)))
    obtain ⟨a3, w3, e3⟩ := hok _ (.tail _ (.tail _ (.tail _ (.head _))))
    have q1 := List.rel_of_pairwise_cons hp (.head _)
    have q2 := List.rel_of_pairwise_cons hp.of_cons (.head _)
    have q3 := List.rel_of_pairwise_cons hp.of_cons.of_cons (.head _)
    dsimp only at a0 a1 a2 a3 q1 q2 q3 e0 e1 e2 e3
    exact four_rel hR a0 q1 q2 q3 e0 e1 e2 e3
  | _ :: _ :: _ :: _ :: _ :: _, _, _, _, _, h4 => exact absurd h4 (by simp only [List.length_cons]; omega)
theorem detect {e : List Nat} (he : ∀ v ∈ e, v < 32) (hl : e.length ≤ 89) (h1 : 1 ≤ (terms e).length) (h4 : (terms e).length ≤ 4) : e.foldl polyStep 0 ≠ 0 := fun h => by
  obtain ⟨k1, k2⟩ := terms_ok e
  exact no_rel (rel_terms he h) (fun q hq => ⟨by have := (k1 q hq).1; omega, (k1 q hq).2⟩) k2 h1 h4
/- part r_u9det -/
def diff : List Nat → List Nat → Nat
  | a :: r, b :: t => (if a = b then 0 else 1) + diff r t
  | _, _ => 0
theorem diff_self : ∀ l, diff l l = 0
  | [] => rfl
  | a :: r => by rw [diff, if_pos rfl, diff_self r]
theorem diff_app : ∀ {a b c d : List Nat}, a.length = b.length → diff (a ++ c) (b ++ d) = diff a b + diff c d
  | [], [], _, _, _ => by simp [diff]
  | x :: a, y :: b, c, d, h => by
    rw [List.cons_append, List.cons_append, diff, diff, diff_app (Nat.succ.inj h)]; omega
theorem diff_map {f : Nat → Nat} : ∀ {a b : List Nat}, (∀ x ∈ a, ∀ y ∈ b, f x = f y → x = y) → diff (a.map f) (b.map f) = diff a b
  | [], [], _ => rfl
  | [], _ :: _, _ => rfl
  | _ :: _, [], _ => rfl
  | x :: a, y :: b, h => by
    rw [List.map_cons, List.map_cons, diff, diff, diff_map (fun u hu v hv => h u (.tail _ hu) v (.tail _ hv))]
    by_cases q : x = y
    · rw [if_pos q, if_pos (congrArg f q)]
    · rw [if_neg q, if_neg fun e => q (h x (.head _) y (.head _) e)]
theorem diff_set : ∀ {l z : List Nat} {p x : Nat}, l.length = z.length → p < l.length → l.getD p 0 = z.getD p 0 → x ≠ z.getD p 0 → diff (l.set p x) z = diff l z + 1
  | a :: l, b :: z, 0, x, _, _, h1, h2 => by
    have e1 : a = b := h1
    have e2 : x ≠ b := h2
    rw [List.set_cons_zero, diff, diff, if_neg e2, if_pos e1]; omega
  | a :: l, b :: z, p + 1, x, hl, hp, h1, h2 => by
    rw [List.set_cons_succ, diff, diff, diff_set (Nat.succ.inj hl) (Nat.lt_of_succ_lt_succ hp) h1 h2]; omega
theorem terms_diff : ∀ {a b : List Nat}, a.length = b.length → (terms (List.zipWith (· ^^^ ·) a b)).length = diff a b
  | [], [], _ => rfl
  | x :: a, y :: b, h => by
    have ih := terms_diff (a := a) (b := b) (Nat.succ.inj h)
    rw [List.zipWith_cons_cons, terms, diff]
    by_cases q : x = y
    · rw [if_pos (by rw [q, Nat.xor_self]), if_pos q, ih]; omega
    · rw [if_neg (fun e => q (eq_of_xor e).symm), if_neg q, List.length_cons, ih]; omega
theorem fold_xor : ∀ {a b : List Nat} (c d : Nat), a.length = b.length → a.foldl polyStep c ^^^ b.foldl polyStep d = (List.zipWith (· ^^^ ·) a b).foldl polyStep (c ^^^ d)
  | [], [], _, _, _ => rfl
  | x :: a, y :: b, c, d, h => by
    rw [List.zipWith_cons_cons, List.foldl_cons, List.foldl_cons, List.foldl_cons, fold_xor _ _ (Nat.succ.inj h), polyStep_xor]
theorem new_ne {nl n k : Nat} {st : List Nat × List Nat × Nat} (h : InvL nl n k st) {p r : Nat} (hp : p < n) (hne : p ≠ nl) : newSign nl (st.1.getD p 0) r p ≠ st.1.getD p 0 := by
  by_cases q : p < nl
  · have h1 := h.low p q
    rw [newSign, if_pos q]
    generalize st.1.getD p 0 = c at *
    omega
  · have h1 := h.high p (by omega) hp
    rw [newSign, if_neg q]
    generalize st.1.getD p 0 = c at *
    have key : ∀ d, d < 32 → chs.idxOf (ch d) = d := by decide +kernel
    have key2 : ∀ c ∈ chs, chs.idxOf c < 32 := by decide +kernel
    intro e
    have e2 := congrArg chs.idxOf e
    rw [key _ (Nat.mod_lt _ (by decide))] at e2
    have := key2 c h1
    omega
theorem iter_diff {nl n : Nat} {st : List Nat × List Nat × Nat} (h : InvL nl n 0 st) (hnl : nl < n) : ∀ k, k + 1 ≤ n → (∀ q ∈ (iterL nl st k).2.1, (iterL nl st k).1.getD q 0 = st.1.getD q 0) ∧ diff (iterL nl st k).1 st.1 = k
  | 0, _ => ⟨fun _ _ => rfl, diff_self _⟩
  | k + 1, hk => by
    obtain ⟨h1, h2⟩ := iter_diff h hnl k (by omega)
    have hI := InvL.iter h hnl k (by omega)
    rw [iterL]
    generalize iterL nl st k = s2 at *
    have hpos : 0 < s2.2.1.length := by have := hI.cnt; omega
    have hm := getD_mem (l := s2.2.1) (Nat.mod_lt s2.2.2 hpos)
    obtain ⟨hp1, hp2⟩ := hI.rng _ hm
    have hn := new_ne hI (r := s2.2.2 / s2.2.1.length) hp1 hp2
    have he := h1 _ hm
    unfold stepL
    generalize s2.2.1.getD (s2.2.2 % s2.2.1.length) 0 = p at *
    constructor
    · intro q hq
      obtain ⟨hq1, hq2⟩ := List.mem_filter.mp hq
      have hqp : q ≠ p := by simpa using hq2
      dsimp only
      rw [getD_set, if_neg (fun e => hqp e.1.symm)]
      exact h1 q hq1
    · dsimp only
      rw [diff_set (by rw [hI.len, h.len]) (by rw [hI.len]; exact hp1) he (by rw [← he]; exact hn), h2]
theorem det_law (ns : List Int) (nk : Nat) (h1 : 1 ≤ nk) (h4 : nk ≤ 4) (hs vals : List Nat) (hz : (iterL (nlet ns) (st0 ns) nk).1 = hs ++ [49] ++ vals.map ch) (hr : ∀ c ∈ hs, 97 ≤ c ∧ c ≤ 122) (hv : ∀ v ∈ vals, v < 32)
    (hl : hs.length = nlet ns) (hvl : vals.length = nsize ns + 6) : poly (hrpExp hs ++ vals) ≠ 1 := by
  intro hone
  have hsz := nsize_lt ns
  have hnl := nlet_le ns
  have hd := (iter_diff (inv0 ns) (by omega) nk (by omega)).2
  have hone0 := poly_create (lets ns) (dataOf ns)
  have hll := lets_len ns
  have hr0 := lets_rng ns
  have hv0 : ∀ v ∈ dataOf ns ++ createCk (lets ns) (dataOf ns), v < 32 := by
    intro d hd'
    rcases List.mem_append.mp hd' with hd' | hd'
    · exact data_lt ns d hd'
    · exact dig6_lt _ d hd'
  have hvl0 : (dataOf ns ++ createCk (lets ns) (dataOf ns)).length = nsize ns + 6 := by rw [List.length_append, data_len, createCk, dig6_len]
  have hz0 : (st0 ns).1 = lets ns ++ [49] ++ (dataOf ns ++ createCk (lets ns) (dataOf ns)).map ch := rfl
  rw [hz, hz0] at hd
  generalize dataOf ns ++ createCk (lets ns) (dataOf ns) = v0 at *
  generalize lets ns = l0 at *
  have key : ∀ d, d < 32 → chs.idxOf (ch d) = d := by decide +kernel
  rw [diff_app (by rw [List.length_append, List.length_append]; omega), diff_app (by omega), diff_self, Nat.add_zero,
    diff_map (fun x hx y hy e => by have e2 := congrArg chs.idxOf e; rwa [key x (hv x hx), key y (hv0 y hy)] at e2)] at hd
  have and31 : ∀ x : Nat, x &&& 31 = x % 32 := fun x => Nat.and_two_pow_sub_one_eq_mod x 5
  have rep : ∀ z : List Nat, (∀ c ∈ z, 97 ≤ c ∧ c ≤ 122) → z.map (· >>> 5) = List.replicate z.length 3 := fun z h => by
    refine List.eq_replicate_iff.mpr ⟨List.length_map _, fun b hb => ?_⟩
    obtain ⟨c, hc, rfl⟩ := List.mem_map.mp hb
    have := h c hc
    show c >>> 5 = 3
    rw [Nat.shiftRight_eq_div_pow]; omega
  have split : ∀ z v : List Nat, (∀ c ∈ z, 97 ≤ c ∧ c ≤ 122) → poly (hrpExp z ++ v) = (z.map (· &&& 31) ++ v).foldl polyStep ((List.replicate z.length 3 ++ [0]).foldl polyStep 1) := fun z v h => by
    unfold poly hrpExp
    rw [rep z h, List.append_assoc, List.foldl_append]
  rw [split hs vals hr, hl] at hone
  rw [split l0 v0 hr0, hll] at hone0
  have hlen : (hs.map (· &&& 31) ++ vals).length = (l0.map (· &&& 31) ++ v0).length := by
    rw [List.length_append, List.length_append, List.length_map, List.length_map]; omega
  have hx := fold_xor ((List.replicate (nlet ns) 3 ++ [0]).foldl polyStep 1) ((List.replicate (nlet ns) 3 ++ [0]).foldl polyStep 1) hlen
  rw [hone, hone0, Nat.xor_self, Nat.xor_self] at hx
  have ht := terms_diff hlen
  rw [diff_app (by rw [List.length_map, List.length_map]; omega), diff_map (fun x hx y hy e => by
    have a := hr x hx
    have b := hr0 y hy
    rw [and31, and31] at e; omega), hd] at ht
  refine detect ?_ ?_ (by omega) (by omega) hx.symm
  · intro v hv'
    obtain ⟨i, hi, rfl⟩ := List.getElem_of_mem hv'
    rw [List.getElem_zipWith]
    have l32 : ∀ z u : List Nat, (∀ v ∈ u, v < 32) → ∀ v ∈ z.map (· &&& 31) ++ u, v < 2 ^ 5 := fun z u h v hv => by
      rcases List.mem_append.mp hv with q | q
      · obtain ⟨c, _, rfl⟩ := List.mem_map.mp q
        show c &&& 31 < 2 ^ 5
        rw [and31]; exact Nat.mod_lt _ (by decide)
      · exact h v q
    exact Nat.xor_lt_two_pow (l32 _ _ hv _ (List.getElem_mem _)) (l32 _ _ hv0 _ (List.getElem_mem _))
  · rw [List.length_zipWith, List.length_append, List.length_map, List.length_append, List.length_map]; omega
/- part s_join -/
set_option maxHeartbeats 16000000 in
theorem law_call (w : World) (mg mb : Str → Option Value) (bm : Addr) (ob : Obj) (s : Shared) (l : Addr) (vs : List Value) (ns : List Int) (ps : Array Value) (G : GrP (hd.heap_39 w.params) hd.view_39 mg mb bm ob s.heap)
   (hP : s.heap.get? 45 = some (tabObj ps)) (htr : TriplesOk ps.toList) (hg : AllBare s.gens) (hl : s.heap.IsList l vs.toArray) (hi : IntsAre vs ns) (hlen : ns.length ≤ 63) :
   CallP PySem.Challenge.rw_jy0013_01.row.prog w 45 53 [.ref l] 8 80 s (fun v _ => v = .bool true) := by
  have hG0 : GrP (hd.heap_39 w.params) hd.view_39 mg mb bm ob (s.heap.hide 45) := G.extP (by k_fill; exact rfl) hP (fun b o hb e => (Heap.hide_ne _ hb).trans e)
  have hl0 : (s.heap.hide 45).IsList l vs.toArray := by
    obtain ⟨o, e, hc, r⟩ := hl
    refine ⟨o, (Heap.hide_ne _ fun q => ?_).trans e, hc, r⟩
    rw [q, hP] at e; cases e; cases hc
  revert G; k_fill; intro G
  refine enterPC (K := hd.heap_39 w.params) (binds := [("script", .ref l)]) G.x G.t.nolimit hP (by k_is) (by k_is) (BindsTo.of_eq rfl) rfl (by decide +kernel) ?_
  obtain ⟨X, T0, M0⟩ := hG0
  generalize hh0 : s.heap.hide 45 = h₀ at *
  intro dp un fr gd h₁ L tk cells hd hu hL F N Y
  obtain ⟨o1, o2, o3, o4, hEc, d1, d2, d3, d4⟩ := CellsAre.four Y
  subst hEc
  clear Y
  have hL45 : @LT.lt Nat _ 45 L := hL ▸ Heap.lt_size hP
  replace d1 : o1.data = Data.cell none := d1
  replace d2 : o2.data = Data.cell none := d2
  replace d3 : o3.data = Data.cell none := d3
  replace d4 : o4.data = Data.cell none := d4
  have F1 := fr_names [(Str.ofString "script", .ref l)] F (by walk_at "names")
  dsimp only [List.cons_append, List.nil_append] at N
  clear F
  show wpAny _ _ (execs (stm 0 :: stm 1 :: stm 2 :: stm 3 :: stm 4 :: stm 5 :: stm 6 :: stm 7 :: stm 8 :: stm 9 :: stm 10 :: stm 11 :: [stm 12, stm 13]) (LEnv L)) _ _ _
  refine seg0 w mg mb h₀ X T0 L dp un fr gd _ l vs ns o1 o2 o3 o4 ps _ _ _ _ F1 N d1 d2 d3 d4 hL45 hl0 hi hlen ?_
  intro h2 tk2 m2 D1 o3 o4 ta tb tc tz F2 N2 dt dl hD1
  try dsimp only
  refine seg3 w mg mb h₀ X T0 L dp un fr gd _ l D1 vs ns ta tb tc tz o1 o2 o3 o4 ps _ _ _ _ F2 N2 dt dl d2 d1 hL45 hD1 hl0 hi hlen ?_
  intro D3 rs k3 h3 tk3 o2 F3 N3 dr hD3 hrs
  try dsimp only
  refine seg4 w mg mb h₀ X T0 L dp un fr gd _ l D1 D3 rs k3 ns ta tb tc tz o1 o2 o3 o4 ps _ _ _ _ F3 N3 dr hrs ?_
  intro m4 D4 us k4 h4 tk4 F4 N4 hus
  try dsimp only
  refine seg5 w mg mb h₀ X T0 L dp un fr gd _ D1 D4 us k4 ns ta tb tc tz o1 o2 o3 o4 ps _ _ _ _ hd hu F4 N4 dl hus ?_
  intro m5 h5 tk5 tt F5 N5
  try dsimp only
  refine seg6 w mg mb h₀ X T0 L dp un fr gd _ D1 D4 us k4 ns ta tb tc tz tt o1 o2 o3 o4 ps _ _ _ _ hd hu F5 N5 dl ?_
  intro m6 h6 tk6 F6 N6
  try dsimp only
  refine seg7 w mg mb bm ob h₀ X T0 M0 L dp un fr gd _ D1 D4 us k4 ns ta tb tc tz tt o1 o2 o3 o4 ps _ _ _ _ hd hu hg htr hL45 F6 N6 dt dl hus ?_
  intro s7 m7 ps7 hos7 hg7 htr7 F7 N7
  refine seg8 w mg mb h₀ X T0 L dp un fr gd _ D1 ns ta tb tc tt o1 o2 o3 o4 ps7 _ _ _ _ F7 N7 dt dl ?_
  intro h8 tk8 m8 Ds Dp zs pls kz kp tr F8 N8 hzs hpl hds hdp
  try dsimp only
  refine seg11 w mg mb h₀ X T0 L dp un fr gd _ D1 Ds Dp zs pls kz kp ns ta tb tc tr o1 o2 o3 o4 ps7 _ _ _ _ _ F8 N8 dt dl d1 hL45 hD1 hzs hpl hds hdp (inv0 ns) (by passes_own) ?_
  intro h9 tk9 m9 nx F9 N9 hJ
  try dsimp only
  have hnl := nlet_le ns
  refine seg12 w mg mb bm ob h₀ X T0 M0 L dp un fr gd _ D1 Ds ns ta tb tc o2 o3 o4 ps7 _ _ nx _ _ hd hu hg7 htr7 hL45 F9 N9 hJ dt (InvL.iter (inv0 ns) (by omega) _ (by omega)) hds (fun hs vals e1 e2 e3 e4 e5 => det_law ns _ (by omega) (by omega) hs vals e1 e2 e3 e4 e5) ?_
  intro s' ps' hos' hg' htr' hE hP'
  exact ⟨ps', hos'.trans hos7, hg', hE, hP', htr', rfl⟩
/- part s_top -/
set_option maxHeartbeats 8000000 in
theorem law_holds : PySem.Challenge.rw_jy0013_01.Holds := by
  refine hd ?_
  k_fill
  intro w s₀ s₁ mg mb G Y fa o pm cd doc dV kV ho hdd hcd hD hmg hg args vals as hpre hlay hrd hwl hlo
  have KX := kIn_of Y
  refine Ground.open G ?_
  intro T B D TE TW
  try (refine guard_noD D (by decide +kernel) ?_; clear D)
  obtain ⟨bm, ob, M⟩ := bmod_of_top T
  have TA := at_of_top T
  have htab := tab_of (x := Str.ofString "bech32_decode") (c := 47) (P := 45) T KX (by rfl) (by kernel_rfl)
  have hfa : fa = 53 := by
    have e := mg_of KX T.g (n := Str.ofString "law") (v := Value.ref 53) (by k_is)
    have e2 := hmg.symm.trans e
    exact (Value.ref.inj (Option.some.inj e2))
  subst hfa
  wrow_args hpre hlay hrd hwl hlo
  with_reducible rename Heap.IsList _ _ _ => hLL
  with_reducible rename IntsAre _ _ => hII
  have GG : GrP (hd.heap_39 w.params) hd.view_39 mg mb bm ob s₁.heap := ⟨KX, topRead_of T, M⟩
  refine law_call w mg mb bm ob s₁ _ _ _ #[] GG htab.2 (by trivial) (AllBare.of_eq hg) hLL hII (by omega) callerA.depth callerA.units callerA.frames callerA.guards _ _ (by decide) (by decide) ?_
  rintro v s' ps' hos hg' hE hP' htr' rfl
  refine ⟨.inl ⟨_, .bool true, [], rfl, fun _ => rfl, .bool _, ?_, fun _ => ⟨.nil, fun a ha => nomatch ha⟩⟩, ⟨fun b o e => ?_, fun b o e => ?_⟩, hos, hg'⟩
  · exact postW_of (by wrow_shape) (by wtm_val) (by w_fin)
  · by_cases hb : b = 45
    · subst hb
      have e2 := htab.2.symm.trans e
      cases e2
      exact .inr (.inl ⟨(htab.1.tab htab.2).isCodeTable, rfl, #[], ps', rfl, by rw [Array.empty_append]; exact hP'⟩)
    · exact .inl (hE b o hb e)
  · by_cases hb : b = 45
    · subst hb; exact ⟨_, hP'⟩
    · exact ⟨o, hE b o hb e⟩
end Mine
theorem PySem.Challenge.cw_jy0013_01_holds : PySem.Challenge.rw_jy0013_01.Holds := by
  exact Mine.law_holds
