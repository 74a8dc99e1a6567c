import PyProof.Rows.All
import Wide.All
import OpenK.AllK
import Wide.FinOn
import PySem.Challenge.RW_oo0002_01
set_option Elab.async false
section
open PySem PySem.W PyProof.Rows
namespace Mine
set_option maxRecDepth 100000 in
set_option maxHeartbeats 8000000 in
open_top hd for PySem.Challenge.rw_oo0002_01
end Mine
end
section
open PySem PySem.W PyProof.Rows PySem.Calls
namespace Mine

def Stop (P : Prop) : Prop := P

theorem fr_cut {h₀ h : Heap} {L : Addr} {m : Str → Option Value} (F : Fr h₀ L h m) (ps : List (Str × Value)) (hp : ∀ p ∈ ps, m p.1 = some p.2) : ∃ u, Fr h₀ L h (kstB u ps) := by
  have e : kstB m ps = m := by funext z; exact kstB_eq hp (fun _ => rfl)
  exact ⟨m, by rw [e]; exact F⟩

theorem fr_turn {h₀ h : Heap} {L : Addr} {x : Str} {v : Value} {m : Str → Option Value} {ps : List (Str × Value)} (F : Fr h₀ L h (fun y => if y = x then some v else m y)) (hp : ∀ p ∈ ps, m p.1 = some p.2) (hx : (ps.all fun p => !(p.1 == x)) = true) : ∃ u, Fr h₀ L h (kstB u ((x, v) :: ps)) := by
  refine fr_cut F _ (List.forall_mem_cons.mpr ⟨if_pos rfl, fun p hm => ?_⟩)
  have h1 := List.all_eq_true.mp hx p hm
  rw [← hp p hm]
  refine if_neg fun e => ?_
  rw [e] at h1
  simp at h1
theorem add_xor_and (a : Nat) : ∀ b : Nat, a + b = (a ^^^ b) + 2 * (a &&& b) := by
  induction a using Nat.strongRecOn with
  | ind a ih =>
    intro b
    by_cases h0 : a = 0
    · subst h0; simp
    · have h := ih (a / 2) (by omega) (b / 2)
      have h1 : (a ^^^ b) / 2 = a / 2 ^^^ b / 2 := Nat.xor_div_two
      have h2 : (a &&& b) / 2 = a / 2 &&& b / 2 := Nat.and_div_two
      have h3 := @Nat.xor_mod_two_eq_one a b
      have h4 := @Nat.and_mod_two_eq_one a b
      omega
theorem xor_nat (a b : Nat) : Builtin.bitXor (a : Int) (b : Int) = ((a ^^^ b : Nat) : Int) := by
  rw [bitXor_and, bitAnd_pp (by omega) (by omega)]
  have h := add_xor_and a b
  simp only [Int.toNat_natCast]
  omega
theorem xor_int' {a b : Int} (ha : 0 ≤ a) (hb : 0 ≤ b) : Builtin.bitXor a b = ((a.toNat ^^^ b.toNat : Nat) : Int) := by
  rw [← xor_nat, Int.toNat_of_nonneg ha, Int.toNat_of_nonneg hb]
theorem ints_gen {vs : List Value} {ns : List Int} (hi : IntsAre vs ns) {P : List Value → Prop} (h : P vs) : ∃ tv, IntsAre tv ns ∧ P tv := ⟨vs, hi, h⟩
theorem news_drop {h₀ h : Heap} {L : Addr} {a : Addr} {o : Obj} {r rest : List (Addr × Obj)} (N : News h₀ L h ((a, o) :: r)) (hs : ∀ p ∈ rest, p ∈ r) : News h₀ L h ((a, o) :: rest) := fun p hp => by
  rcases List.mem_cons.mp hp with rfl | hp
  · exact N _ (.head _)
  · exact N p (.tail _ (hs p hp))
theorem news_head {h₀ h : Heap} {L : Addr} {a : Addr} {o : Obj} {r : List (Addr × Obj)} (N : News h₀ L h ((a, o) :: r)) : ∃ o', o' = o ∧ News h₀ L h ((a, o') :: r) := ⟨o, rfl, N⟩

def TEnd (h₀ : Heap) (L : Addr) (J : (Str → Option Value) → List (Addr × Obj) → Prop) (I : Addr) (oi : Obj) (s₁ s₂ : Shared) : Prop :=
  ∃ h' tk m' news' nx, s₂ = { s₁ with heap := h', toks := tk } ∧ Fr h₀ L h' m' ∧ News h₀ L h' news' ∧ (I, oi) ∈ news' ∧ (∀ p ∈ nx, p ∈ news') ∧ (∀ p ∈ nx, p.1 ≠ I) ∧ J m' nx
def TPost (h₀ : Heap) (L : Addr) (J : (Str → Option Value) → List (Addr × Obj) → Prop) (I : Addr) (oi : Obj) (s₁ : Shared) (Q : Flow → Shared → Prop) (f : Flow) (s₂ : Shared) : Prop :=
  match f with
  | .ret v => Q (.ret v) s₂
  | .brk => Q .next s₂
  | _ => TEnd h₀ L J I oi s₁ s₂

def WEnd {σ : Type} (h₀ : Heap) (L : Addr) (J : σ → (Str → Option Value) → List (Addr × Obj) → Prop) (μ : σ → Nat) (c : σ) (s s₃ : Shared) : Prop :=
  ∃ c' h' tk m' news', s₃ = { s with heap := h', toks := tk } ∧ Fr h₀ L h' m' ∧ News h₀ L h' news' ∧ J c' m' news' ∧ μ c' < μ c
def WPost {σ : Type} (h₀ : Heap) (L : Addr) (J : σ → (Str → Option Value) → List (Addr × Obj) → Prop) (μ : σ → Nat) (c : σ) (s : Shared) (Q : Flow → Shared → Prop) (f : Flow) (s₃ : Shared) : Prop :=
  match f with
  | .ret v => Q (.ret v) s₃
  | .brk => Q .next s₃
  | _ => WEnd h₀ L J μ c s s₃
theorem WPost.next {σ : Type} {h₀ : Heap} {L : Addr} {J : σ → (Str → Option Value) → List (Addr × Obj) → Prop} {μ : σ → Nat} {c : σ} {s s₃ : Shared} {Q : Flow → Shared → Prop} (h : WEnd h₀ L J μ c s s₃) : WPost h₀ L J μ c s Q .next s₃ := h
theorem TPost.next {h₀ : Heap} {L : Addr} {J : (Str → Option Value) → List (Addr × Obj) → Prop} {I : Addr} {oi : Obj} {s₁ s₂ : Shared} {Q : Flow → Shared → Prop} (h : TEnd h₀ L J I oi s₁ s₂) : TPost h₀ L J I oi s₁ Q .next s₂ := h

section
variable {prog : Program} {w : World} {A : Around} {E : Value → Shared → Prop} {s : Shared} {env : Env} {h₀ : Heap} {x : Str} {body : List Stmt} {Q : Flow → Shared → Prop}

theorem loop_gen {I : Addr} {fp : List Addr} {n : Nat} {P : Nat → Value → Prop} {St : Nat → Heap → Prop} {m₀ : Str → Option Value} {news : List (Addr × Obj)} {s₂ : Shared} (fx : List (Addr × Obj)) (J : Nat → (Str → Option Value) → List (Addr × Obj) → Prop)
    (W : Walks prog w A I fp [I] n P St) (hIo : ∀ i h, St i h → ∃ o, h.get? I = some o) (hIf : I ∈ fp) (hI0 : h₀.get? I = none) (hLf : env.locals ∉ fp) (hfp : ∀ b ∈ fp, b = I ∨ (∃ o, h₀.get? b = some o) ∨ ∃ o, (b, o) ∈ fx)
    (hfx : ∀ i m nx, J i m nx → ∀ p ∈ fx, p ∈ nx)
    (hst : St 0 s₂.heap) (F : Fr h₀ env.locals s₂.heap m₀) (N : News h₀ env.locals s₂.heap news) (hnI : ∀ p ∈ news, p.1 ≠ I) (hj : J 0 m₀ news)
    (turn : ∀ i v m₁ nx h tk oi, i < n → P i v → J i m₁ nx → (∀ p ∈ nx, p.1 ≠ I) → Fr h₀ env.locals h (fun y => if y = x then some v else m₁ y) → News h₀ env.locals h ((I, oi) :: nx) →
      wpAny (model prog w) A (execs body env) (TPost h₀ env.locals (J (i + 1)) I oi { s₂ with heap := h, toks := tk } Q) E { s₂ with heap := h, toks := tk })
    (done : ∀ m₁ nx h tk, J n m₁ nx → Fr h₀ env.locals h m₁ → News h₀ env.locals h nx → Q .next { s₂ with heap := h, toks := tk }) :
    LoopAtV prog w A h₀ env x body Q E (.ref I) s₂ := by
  refine ⟨I, fp, [I], n, P, St, m₀, news, J, rfl, W, hLf, ?_, ?_, hst, F, N, hj, ?_, ?_⟩
  · intro b hb
    rw [List.mem_singleton.mp hb]; exact hI0
  · intro p hp hI
    exact hnI p hp (List.mem_singleton.mp hI)
  · rintro i v m₁ nx s₁ own ⟨h, tk, rfl⟩ hi hP hJ hoff hown hget hall hst₁ F₁ N₁
    obtain ⟨oi, hoi⟩ := hIo _ _ hst₁
    have hI : (I, oi) ∈ own := hall I hIf hI0 oi hoi
    have hoffI : ∀ p ∈ nx, p.1 ≠ I := fun p hp e => hoff p hp (List.mem_singleton.mpr e)
    refine wpAny_mono (turn i v m₁ nx h tk oi hi hP hJ hoffI F₁ (fun p hp => ?_)) (fun f s₃ p => ?_) fun _ _ e => e
    · rcases List.mem_cons.mp hp with rfl | hp
      · exact N₁ _ (List.mem_append.mpr (.inl hI))
      · exact N₁ _ (List.mem_append.mpr (.inr hp))
    have fin : TEnd h₀ env.locals (J (i + 1)) I oi { s₂ with heap := h, toks := tk } s₃ → LoopStepU h₀ env.locals [I] own (J (i + 1)) { s₂ with heap := h, toks := tk } .next s₃ := by
      rintro ⟨h', tk', m', news', nx', e, F', N', hI', hn, ho, hm⟩
      refine ⟨rfl, h', tk', m', nx', e, F', fun p hp => ?_, fun p hp hq => ho p hp (List.mem_singleton.mp hq), hm⟩
      rcases List.mem_append.mp hp with hp | hp
      · have hg := hget p hp
        have h0 := (N₁ p (List.mem_append.mpr (.inl hp))).2
        refine ⟨?_, h0⟩
        rcases hfp _ (hown p hp) with e1 | ⟨o, e1⟩ | ⟨o, e1⟩
        · have : p.2 = oi := by
            have e2 : h.get? I = some p.2 := by rw [← e1]; exact hg
            have e3 : h.get? I = some oi := hoi
            rw [e2] at e3
            exact Option.some.inj e3
          have e4 : p = (I, oi) := by rw [← e1, ← this]
          rw [e4]
          exact (N' _ hI').1
        · rw [h0.2] at e1; cases e1
        · have e2 : h.get? p.1 = some o := (N₁ (p.1, o) (List.mem_append.mpr (.inr (hfx _ _ _ hJ _ e1)))).1
          have e3 : h.get? p.1 = some p.2 := hg
          rw [e3] at e2
          have e4 : p = (p.1, o) := by rw [← Option.some.inj e2]
          rw [e4]
          exact (N' _ (hn _ (hfx _ _ _ hm _ e1))).1
      · exact N' p (hn p hp)
    cases f with
    | ret v => exact .ret p
    | brk => exact .brk p
    | next => exact .next (fin p)
    | cont => exact .cont (fin p)
  · rintro h' tk m' news' F' N' _ hJ
    exact done m' news' h' tk hJ F' N'

theorem iter_led {l : Addr} {vs : List Value} {nn : Nat} {m₀ : Str → Option Value} {news : List (Addr × Obj)} (J : Nat → (Str → Option Value) → List (Addr × Obj) → Prop)
    (hh : A.handled = none) (hJl : ∀ i m nx, J i m nx → (l, listOf vs.toArray nn) ∈ nx) (F : Fr h₀ env.locals s.heap m₀) (N : News h₀ env.locals s.heap news) (hj : J 0 m₀ news)
    (turn : ∀ I i v m₁ nx h tk oi, i < vs.length → vs[i]? = some v → J i m₁ nx → (∀ p ∈ nx, p.1 ≠ I) → Fr h₀ env.locals h (fun y => if y = x then some v else m₁ y) → News h₀ env.locals h ((I, oi) :: nx) →
      wpAny (model prog w) A (execs body env) (TPost h₀ env.locals (J (i + 1)) I oi { s with heap := h, toks := tk } Q) E { s with heap := h, toks := tk })
    (done : ∀ m₁ nx h tk, J vs.length m₁ nx → Fr h₀ env.locals h m₁ → News h₀ env.locals h nx → Q .next { s with heap := h, toks := tk }) :
    wpAny (model prog w) A (pyIter (.ref l)) (fun it s₂ => LoopAtV prog w A h₀ env x body Q E it s₂) E s := by
  have hm := N _ (hJl _ _ _ hj)
  have hls : s.heap.IsList l vs.toArray := ⟨_, hm.1, rfl, nn, rfl⟩
  have hlt : l < s.heap.objs.size := Heap.lt_size hm.1
  refine wpAny_pyIter_list hls ?_
  have W := Walks.list (prog := prog) (w := w) hh s.heap.objs.size l (Nat.ne_of_lt hlt) vs.toArray
  rw [List.size_toArray] at W
  refine loop_gen (s₂ := { s with heap := _ }) (fx := [(l, listOf vs.toArray nn)]) J W (fun i h st => by obtain ⟨o, e, _⟩ := st.1; exact ⟨o, e⟩) (by simp) ?_ ?_ ?_ (fun i m nx hJ p hp => by rw [List.mem_singleton.mp hp]; exact hJl _ _ _ hJ)
    ⟨⟨_, Heap.get?_push_size _ rfl, rfl, rfl⟩, hls.at fun o e => Heap.get?_push_of_some _ e⟩ (F.push _) (fun p hp => ⟨Heap.get?_push_of_some _ (N p hp).1, (N p hp).2⟩) ?_ hj ?_ done
  · exact next_is_new F
  · intro hq
    rcases List.mem_cons.mp hq with e | hq
    · exact absurd F.ns.lt (e ▸ Nat.lt_irrefl _)
    · exact hm.2.1 (List.mem_singleton.mp hq).symm
  · intro b hb
    rcases List.mem_cons.mp hb with e | hb
    · exact .inl e
    · exact .inr (.inr ⟨_, by rw [List.mem_singleton.mp hb]; exact List.mem_singleton.mpr rfl⟩)
  · intro p hp
    exact Nat.ne_of_lt (Heap.lt_size (N p hp).1)
  · intro i v m₁ nx h tk oi hi hP hJ hoff F₁ N₁
    exact turn _ i v m₁ nx h tk oi hi (by simpa using hP) hJ hoff F₁ N₁

theorem iter_rng {r : Addr} {a₀ b₀ : Int} {t₀ u₀ v₀ : Tok} {n : Nat} {m₀ : Str → Option Value} {news : List (Addr × Obj)} (J : Nat → (Str → Option Value) → List (Addr × Obj) → Prop)
    (hh : A.handled = none) (hr : IsRange s.heap r a₀ b₀ 1 t₀ u₀ v₀) (hsmall : Builtin.Range.small a₀ b₀ 1 = true) (hn : Builtin.Range.rangeSize a₀ b₀ 1 = (n : Int)) (F : Fr h₀ env.locals s.heap m₀) (N : News h₀ env.locals s.heap news) (hj : J 0 m₀ news)
    (turn : ∀ I i t m₁ nx h tk oi, i < n → J i m₁ nx → (∀ p ∈ nx, p.1 ≠ I) → Fr h₀ env.locals h (fun y => if y = x then some (.int (a₀ + (i : Int)) t) else m₁ y) → News h₀ env.locals h ((I, oi) :: nx) →
      wpAny (model prog w) A (execs body env) (TPost h₀ env.locals (J (i + 1)) I oi { s with heap := h, toks := tk } Q) E { s with heap := h, toks := tk })
    (done : ∀ m₁ nx h tk, J n m₁ nx → Fr h₀ env.locals h m₁ → News h₀ env.locals h nx → Q .next { s with heap := h, toks := tk }) :
    wpAny (model prog w) A (pyIter (.ref r)) (fun it s₂ => LoopAtV prog w A h₀ env x body Q E it s₂) E s := by
  refine wpAny_pyIter_range hr hsmall ?_
  have W : Walks prog w A s.heap.objs.size [s.heap.objs.size] [s.heap.objs.size] n (fun i v => i < n ∧ ∃ t, v = .int (a₀ + i * 1) t)
      (fun i h => IsRangeIter h s.heap.objs.size (a₀ + (i : Nat) * 1) ((n : Int) - (i : Nat)) 1) := (Walks.range hh _ a₀ 1 n).bound
  refine loop_gen (s₂ := { s with heap := _ }) (fx := []) J W (fun i h st => ⟨_, st⟩) (by simp) ?_ ?_ ?_ (fun i m nx hJ p hp => by simp at hp)
    (by show IsRangeIter _ _ _ _ _; rw [hn]; simpa using Heap.get?_push_size _ rfl) (F.push _) (fun p hp => ⟨Heap.get?_push_of_some _ (N p hp).1, (N p hp).2⟩) ?_ hj ?_ done
  · exact next_is_new F
  · intro hq
    exact absurd F.ns.lt ((List.mem_singleton.mp hq) ▸ Nat.lt_irrefl _)
  · intro b hb
    exact .inl (List.mem_singleton.mp hb)
  · intro p hp
    exact Nat.ne_of_lt (Heap.lt_size (N p hp).1)
  · rintro i v m₁ nx h tk oi hi ⟨_, t, rfl⟩ hJ hoff F₁ N₁
    have e1 : a₀ + (i : Int) * 1 = a₀ + (i : Int) := by omega
    rw [e1] at F₁
    exact turn _ i t m₁ nx h tk oi hi hJ hoff F₁ N₁

theorem For_loc {px pos : Pos} {iter : Expr} (h₀ : Heap) (hx : env.kindOf x = some .local)
    (hp : (env.scope.kind == .class || (env.scope.kind == .module && env.locals != env.globals)) = false)
    (hs : ∀ x, foldedSetIterable iter env x = pure x)
    (h : wpAny (model prog w) A (eval iter env) (fun xv s₁ => Stop (wpAny (model prog w) A (pyIter xv) (fun it s₂ => LoopAtV prog w A h₀ env x body Q (fun _ _ => False) it s₂) (fun _ _ => False) s₁)) (fun _ _ => False) s) :
    wpAny (model prog w) A (exec (.For (.Name x px) iter body [] pos) env) Q (fun _ _ => False) s := For_invV h₀ hx hp h hs PassesOwn.never

theorem While_my {test : Expr} {pos : Pos} {m : Str → Option Value} {news : List (Addr × Obj)} {L : Addr} {σ : Type} (J : σ → (Str → Option Value) → List (Addr × Obj) → Prop) (μ : σ → Nat) (c₀ : σ)
    (F : Fr h₀ L s.heap m) (N : News h₀ L s.heap news) (hJ : J c₀ m news)
    (turn : ∀ c m₁ news₁ h₁ tk₁, Fr h₀ L h₁ m₁ → News h₀ L h₁ news₁ → J c m₁ news₁ →
      wpAny (model prog w) A (isTrue test env (eval test env)) (fun b s₂ =>
        if b = true then wpAny (model prog w) A (execs body env) (WPost h₀ L J μ c s Q) (fun _ _ => False) s₂ else Q .next s₂) (fun _ _ => False) { s with heap := h₁, toks := tk₁ }) :
    wpAny (model prog w) A (exec (.While test body [] pos) env) Q (fun _ _ => False) s := by
  refine While_inv2 (fun n m nx => ∃ c : σ, μ c = n ∧ J c m nx) F N ⟨c₀, rfl, hJ⟩ ?_ PassesOwn.never
  rintro n m₁ nx h tk F₁ N₁ ⟨c, hsz, hJ'⟩
  rw [← hsz]
  refine wpAny_mono (turn c m₁ nx h tk F₁ N₁ hJ') (fun b s₂ p => ?_) fun _ _ x => x
  cases b with
  | false => simpa using p
  | true =>
    simp only [if_true] at p ⊢
    refine wpAny_mono p (fun f s₃ q => ?_) fun _ _ x => x
    cases f with
    | ret v => exact q
    | brk => exact q
    | next =>
      obtain ⟨c', h', tk', m', news', rfl, F', N', hJ9, hm9⟩ := q
      exact ⟨h', tk', m', news', μ c', rfl, F', N', hm9, c', rfl, hJ9⟩
    | cont =>
      obtain ⟨c', h', tk', m', news', rfl, F', N', hJ9, hm9⟩ := q
      exact ⟨h', tk', m', news', μ c', rfl, F', N', hm9, c', rfl, hJ9⟩
end

/-- a def entered, with no raise to come -/
theorem enter {prog : Program} {w : World} {K : Frag} {p : Program} {loose : List Str} {mean : ExcName → Option Value} {mg mb : Str → Option Value} {A A₀ : Around} {env : Env} {outer : List Env} {base h₀ : Heap} {L : Addr} {m : Str → Option Value} {news : List (Addr × Obj)} {s : Shared}
    {R : Result → Shared → Prop} {name qual : Str} {params : Arguments} {body : List Stmt} {scope : Scope} {dV kV doc pm cdv ct oc : Value} {an od : Option Addr} {osl : Array (Option Value)} {f : Addr} {args : Args} {binds : List (Str × Value)}
    (B : Below A₀ base outer h₀) (F : Fr h₀ L s.heap m) (X₀ : K.In h₀) (N : News h₀ L s.heap news) (T : Top p loose mean mg mb h₀) (hA : A.frames = some (env :: outer)) (hf : env.frame = some L) (hke : env.scope.kind = .function)
    (ho : K.lookup f = some ⟨oc, od, .func (fnOf name qual params body scope dV kV doc pm an cdv ct), osl⟩) (hcd : codeIn K cdv qual = true) (hroom : A.depth < recursionLimit)
    (hbind : BindsTo s (fnOf name qual params body scope dV kV doc pm an cdv ct) args binds) (hloc : ∀ y ∈ binds, scope.names.lookup y.1 = some .local)
    (hco : scope.isCoroutine = false) (hgen : scope.isGenerator = false) (hk : scope.kind = .function)
    (hcell : ∀ x ∈ scope.names, x.2 ≠ .cell)
    (h : ∀ g L' h₁, Fr h₀ L g m → Fr g L' h₁ (fun y => binds.reverse.lookup y) → News g L' h₁ news → Below A base (env :: outer) g → K.In g → Top p loose mean mg mb g → (∀ p ∈ news, p.1 < L') →
      wpAny (model prog w) (A.deeper (envOf qual scope L' f cdv)) (execs body (envOf qual scope L' f cdv))
        (fun fl s' => LeaveK h₀ L m g R (match fl with | .ret v => v | _ => .none) s') (fun _ _ => False)
        { s with heap := h₁, toks := s.toks + binds.length }) : codeAny (model prog w) A (.call (.ref f) args) R s :=
  callX_plain (cl := []) B F N T.nolimit hA hf hke ((X₀.keeps F.keep) _ _ ho) rfl (codeRec_of (X₀.keeps F.keep) hcd) hroom hbind hloc (fun g L' h₁ FG F' N' B' st lt => wpAny_noRaise (h g L' h₁ FG F' N' B' (X₀.keeps st) (T.keeps st) lt)) hcell hco hgen hk

end Mine
end
section
open PySem PySem.W PyProof.Rows PySem.Calls
namespace Mine
theorem dg_mod {x b : Int} (hb : 2 ≤ b) : 0 ≤ x.fmod b ∧ x.fmod b < b := by
  rw [Int.fmod_eq_emod_of_nonneg _ (by omega)]
  exact ⟨Int.emod_nonneg _ (by omega), Int.emod_lt_of_pos _ (by omega)⟩
def DgP (b k : Int) (number : Int) (digits : List Int) : Prop := 0 ≤ number ∧ 1 ≤ digits.length ∧ (digits.length : Int) ≤ k ∧ ∀ d ∈ digits, 0 ≤ d ∧ d < b
theorem dg_start {n b k : Int} (hb : 2 ≤ b) (hk : 1 ≤ k) : DgP b k (if n < 0 then -n else n) [(if n < 0 then -n else n).fmod b] := by
  refine ⟨by split <;> omega, by simp, by simpa using hk, fun d hd => ?_⟩
  rw [List.mem_singleton.mp hd]
  exact dg_mod hb
theorem dg_turn {b k x : Int} {ds : List Int} (hb : 2 ≤ b) (h : DgP b k x ds) (hl : (ds.length : Int) < k) : DgP b k (x.fdiv b) (ds ++ [(x.fdiv b).fmod b]) := by
  obtain ⟨h0, h1, h2, h3⟩ := h
  refine ⟨?_, by simp, by simp; omega, fun d hd => ?_⟩
  · rw [Int.fdiv_eq_ediv_of_nonneg _ (by omega)]
    exact Int.ediv_nonneg h0 (by omega)
  · rcases List.mem_append.mp hd with hd | hd
    · exact h3 d hd
    · rw [List.mem_singleton.mp hd]
      exact dg_mod hb
theorem dg_less {b x : Int} (hb : 2 ≤ b) (h : b ≤ x) : (x.fdiv b).toNat < x.toNat := by
  rw [Int.fdiv_eq_ediv_of_nonneg _ (by omega)]
  have h1 : x / b < x := Int.ediv_lt_of_lt_mul (by omega) (by
    have := Int.mul_le_mul_of_nonneg_left hb (show 0 ≤ x by omega)
    omega)
  omega
-- steps up to a loop
local macro_rules | `(tactic| ktr_unf) => `(tactic| repeat' ((fail_if_success (with_reducible show wpAny _ _ (PySem.exec (PySem.Stmt.While _ _ _ _) _) _ _ _)); (fail_if_success (with_reducible show wpAny _ _ (PySem.exec (PySem.Stmt.For _ _ _ _ _) _) _ _ _)); first | (k_unfold; (try dsimp only)) | (k_end; wrow_close) | walk1 | (dsimp only; walk1) | (leave1; walk_say "STEP leave1"; try dsimp only) | fail "no step"))
-- a def entered
local macro_rules | `(tactic| ktr_rel) => `(tactic| ((refine wpAny_call ?_); k_dflt (refine' enter ?k1 ?k2 ?k3 ?k4 ?k5 ?kA ?kF ?kK ?k6 ?k7 ?k8 ?k9 ?kB ?c2 ?c3 ?c4 ?c5 ?_; (case kA => exact rfl); (case kF => exact rfl); (case kK => assumption); (case k1 => k_asm); (case k2 => k_asm); (case k3 => k_asm); (case k4 => k_asm); (case k5 => k_asm); (case k6 => k_is); (case k7 => k_is); (case k8 => ktr_room); (case k9 => exact BindsTo.of_eq rfl); (case c5 => decide); (case kB => exact locs rfl); (case c2 => exact rfl); (case c3 => exact rfl); (case c4 => exact rfl))))

set_option maxRecDepth 100000 in
set_option maxHeartbeats 4000000 in
theorem con_digits {w : World} {p : Program} {loose : List Str} {mean : ExcName → Option Value} {mg mb : Str → Option Value} {dp un : Nat} {gd : Option (List Code)} {cn : Str} {cs : Scope} {a : Addr} {ccd : Value} {cl : List (Str × Addr)} {outer : List Env} {A₀ : Around} {base h₀ : Heap} {L : Addr} {m : Str → Option Value} {news : List (Addr × Obj)} {s : Shared}
    {Q E : Value → Shared → Prop} {n b k : Int} {t1 t2 t3 : Tok}
    (B : Below A₀ base outer h₀) (F : Fr h₀ L s.heap m) (X : (Mine.hd.heap_39 w.params).In h₀) (N : News h₀ L s.heap news) (T : Top p loose mean mg mb h₀) (hk : cs.kind = .function) (hd : dp + 1 < recursionLimit)
    (hb : 2 ≤ b) (hb2 : b ≤ 100) (hk1 : 1 ≤ k) (hk2 : k ≤ 60)
    (hret : ∀ D ds vs c h' tk', IntsAre vs ds → 1 ≤ ds.length → (ds.length : Int) ≤ k → (∀ d ∈ ds, 0 ≤ d ∧ d < b) → Fr h₀ L h' m → News h₀ L h' ((D, listOf vs.toArray c) :: news) → (∀ p ∈ news, p.1 < D) → Q (.ref D) { s with heap := h', toks := tk' }) :
    wpAny (model PySem.Challenge.rw_oo0002_01.row.prog w) (ktrTop dp un gd cn cs L a ccd cl outer) (call (.ref 47) [.int n t1, .int b t2, .int k t3]) Q E s := by
  w_top off
  revert X; k_fill; intro X
  k_with_none
  ktr_rel
  intro g' L' h' FG' F' N' B' X' T' lt'
  dsimp only
  obtain ⟨u, F2⟩ := fr_cut F' [(Str.ofString "number", .int n t1), (Str.ofString "base", .int b t2), (Str.ofString "most", .int k t3)] (by kst_all1)
  clear F'
  dsimp only [kstB] at F2
  k_unmd
  k_fold
  ktr_unf
  rename_i u1 tk1 hh2 tkd lD hh1 lltD hh3 F3 N3
  refine While_my (fun (c : Int × Tok × List Int × List Value × Nat) m nx => nx = (lD, listOf c.2.2.2.1.toArray c.2.2.2.2) :: news ∧ IntsAre c.2.2.2.1 c.2.2.1 ∧ DgP b k c.1 c.2.2.1 ∧ (c.2.2.1.length : Int) ≤ 60 ∧
    ∀ p ∈ [(Str.ofString "digits", Value.ref lD), (Str.ofString "number", .int c.1 c.2.1), (Str.ofString "base", .int b t2), (Str.ofString "most", .int k t3)], m p.1 = some p.2) (fun c => c.1.toNat)
    ((if n < 0 then -n else n), u1, [(if n < 0 then -n else n).fmod b], _, 0) F3 N3 ⟨rfl, .cons _ _ .nil, dg_start hb hk1, by simp, by kst_all1⟩ ?_
  clear F3 N3
  rintro ⟨x, tx, ds, vs, cnt⟩ m₁ nx h₁ tk₁ F4 N4 ⟨hnx, hints, hdg, hlen, hps⟩
  dsimp only at hnx hints hdg hlen hps
  subst hnx
  obtain ⟨u2, F5⟩ := fr_cut F4 _ hps
  clear F4 hps
  dsimp only [kstB] at F5
  have hlv : vs.length = ds.length := hints.length
  have hkst : KstMark := kstMark
  k_unmd
  k_fold
  ktr_unf
  · (rename Fr _ _ _ _ => F6); (rename News _ _ _ _ => N6)
    simp only [List.push_toArray] at N6
    have hT := dg_turn hb hdg (by assumption)
    refine WPost.next ⟨(x.fdiv b, _, ds ++ [(x.fdiv b).fmod b], vs ++ [_], cnt + 1), _, _, _, _, rfl, F6, N6, ⟨rfl, IntsAre.append hints (.cons _ _ .nil), hT, (by dsimp only; have := hT.2.2.1; omega), by kst_all1⟩, dg_less hb (by assumption)⟩
  · exact hret _ _ _ _ _ _ hints hdg.2.1 hdg.2.2.1 hdg.2.2.2 (by assumption) (by assumption) lltD
  · exact hret _ _ _ _ _ _ hints hdg.2.1 hdg.2.2.1 hdg.2.2.2 (by assumption) (by assumption) lltD
end Mine
end
section
open PySem PySem.W PyProof.Rows PySem.Calls
namespace Mine
def pgen : Nat → Nat
  | 0 => 996825010
  | 1 => 642813549
  | 2 => 513874426
  | 3 => 1027748829
  | 4 => 705979059
  | _ => 0
def pin (top c : Nat) : Nat → Nat
  | 0 => c
  | i + 1 => pin top c i ^^^ (if top / 2 ^ i % 2 = 1 then pgen i else 0)
def pstep (c v : Nat) : Nat := pin (c / 33554432) ((c % 33554432 * 32) ^^^ v) 5
def pmod (l : List Nat) : Nat := l.foldl pstep 1
theorem and_is (z : Int) : Builtin.bitAnd z 33554431 = z % 33554432 := by
  rw [show (33554431 : Int) = 2 ^ 25 - 1 from rfl, kbt_mask]
  rfl
theorem and_small (z : Int) : (Builtin.bitAnd z 33554431).natAbs < 2 ^ 64 := by
  rw [and_is]
  omega
theorem inner_zero {z n : Int} {c : Nat} (hz : z = (c : Int)) (hn : 0 ≤ n ∧ n < 32) : Builtin.bitXor (Builtin.bitAnd z 33554431 * 2 ^ Int.toNat 5) n = ((pin (c / 33554432) ((c % 33554432 * 32) ^^^ n.toNat) 0 : Nat) : Int) := by
  subst hz
  rw [and_is]
  have e1 : ((c : Int) % 33554432 * 2 ^ Int.toNat 5) = ((c % 33554432 * 32 : Nat) : Int) := by
    show (c : Int) % 33554432 * 32 = _
    omega
  have e2 : n = ((n.toNat : Nat) : Int) := by omega
  rw [e1]
  conv => lhs; rw [e2]
  rw [xor_nat]
  rfl
theorem inner_top {z : Int} {c : Nat} (hz : z = (c : Int)) : z.fdiv (2 ^ Int.toNat 25) = ((c / 33554432 : Nat) : Int) := by
  subst hz
  rw [Int.fdiv_eq_ediv_of_nonneg _ (by decide)]
  show (c : Int) / 33554432 = _
  omega
theorem bit_is {top jv : Int} {topc j : Nat} (hj : jv = (j : Int)) (ht : top = (topc : Int)) : Builtin.bitAnd (top.fdiv (2 ^ Int.toNat jv)) 1 = ((topc / 2 ^ j % 2 : Nat) : Int) := by
  subst hj; subst ht
  rw [Int.fdiv_eq_ediv_of_nonneg _ (Int.le_of_lt (kbt_pos _)), bitAnd_m1, Int.toNat_natCast, Int.natCast_emod, Int.natCast_ediv, kbt_cast]
  rfl
theorem pin_off {y top jv : Int} {topc c0 j : Nat} (hj : jv = (j : Int)) (hy : y = (pin topc c0 j : Nat)) (ht : top = (topc : Int)) (h : Builtin.bitAnd (top.fdiv (2 ^ Int.toNat jv)) 1 = 0) : Builtin.bitXor y 0 = (pin topc c0 (j + 1) : Nat) := by
  rw [bit_is hj ht] at h
  have h' : ¬ topc / 2 ^ j % 2 = 1 := by omega
  subst hy
  rw [bitXor_zero]
  show _ = ((pin topc c0 j ^^^ (if topc / 2 ^ j % 2 = 1 then pgen j else 0) : Nat) : Int)
  rw [if_neg h', Nat.xor_zero]
theorem pin_on {y top jv g : Int} {topc c0 j : Nat} (hj : jv = (j : Int)) (hg : g = (pgen j : Nat)) (hy : y = (pin topc c0 j : Nat)) (ht : top = (topc : Int)) (h : ¬ Builtin.bitAnd (top.fdiv (2 ^ Int.toNat jv)) 1 = 0) : Builtin.bitXor y g = (pin topc c0 (j + 1) : Nat) := by
  rw [bit_is hj ht] at h
  have h' : topc / 2 ^ j % 2 = 1 := by omega
  subst hy; subst hg
  rw [xor_nat]
  show _ = ((pin topc c0 j ^^^ (if topc / 2 ^ j % 2 = 1 then pgen j else 0) : Nat) : Int)
  rw [if_pos h']
theorem pmod_snoc (l : List Nat) (v : Nat) : pmod (l ++ [v]) = pstep (pmod l) v := by
  unfold pmod
  rw [List.foldl_append]
  rfl
theorem outer_step {ns : List Int} {i c topc c0 : Nat} {n y : Int} (hy : y = (pin topc c0 5 : Nat)) (hvn : ns[i]? = some n) (hc : pmod ((ns.take i).map Int.toNat) = c) (hc0 : (c % 33554432 * 32) ^^^ n.toNat = c0) (htc : c / 33554432 = topc) :
    y = (pmod ((ns.take (i + 1)).map Int.toNat) : Nat) := by
  rw [List.take_add_one, hvn]
  simp only [Option.toList_some, List.map_append, List.map_cons, List.map_nil]
  rw [pmod_snoc, hc]
  unfold pstep
  rw [hc0, htc]
  exact hy
theorem pgen_lt (j : Nat) : pgen j < 2 ^ 30 := by
  unfold pgen
  split <;> decide
theorem pin_lt (top : Nat) {c : Nat} (h : c < 2 ^ 30) (j : Nat) : pin top c j < 2 ^ 30 := by
  induction j with
  | zero => exact h
  | succ j ih =>
    refine Nat.xor_lt_two_pow ih ?_
    split
    · exact pgen_lt j
    · decide
theorem pstep_lt (c : Nat) {v : Nat} (h : v < 32) : pstep c v < 2 ^ 30 := by
  refine pin_lt _ (Nat.xor_lt_two_pow ?_ ?_) 5 <;> omega
theorem pfold_lt : ∀ (l : List Nat) (c : Nat), c < 2 ^ 30 → (∀ v ∈ l, v < 32) → l.foldl pstep c < 2 ^ 30
  | [], _, h, _ => h
  | v :: l, c, _, hv => pfold_lt l (pstep c v) (pstep_lt c (hv v (.head _))) fun x hx => hv x (.tail _ hx)
theorem pmod_lt (l : List Nat) (h : ∀ v ∈ l, v < 32) : pmod l < 1073741824 := pfold_lt l 1 (by decide) h
end Mine
end
section
open PySem PySem.W PyProof.Rows PySem.Calls
namespace Mine
local macro_rules | `(tactic| walk_at "binaryOp LShift int int") => `(tactic| refine lshift_int_small (by decide) (by decide) (and_small _) ?_)
local macro_rules | `(tactic| ktr_unf) => `(tactic| repeat' ((fail_if_success (with_reducible show wpAny _ _ (PySem.exec (PySem.Stmt.While _ _ _ _) _) _ _ _)); (fail_if_success (with_reducible show wpAny _ _ (PySem.exec (PySem.Stmt.For _ _ _ _ _) _) _ _ _)); (fail_if_success (with_reducible show wpAny _ _ (PySem.pyIter _) _ _ _)); first | (k_unfold; (try dsimp only)) | (k_end; wrow_close) | walk1 | (dsimp only; walk1) | (leave1; walk_say "STEP leave1"; try dsimp only) | fail "no step"))
local macro_rules | `(tactic| ktr_rel) => `(tactic| ((refine wpAny_call ?_); k_dflt (refine' enter ?k1 ?k2 ?k3 ?k4 ?k5 ?kA ?kF ?kK ?k6 ?k7 ?k8 ?k9 ?kB ?c2 ?c3 ?c4 ?c5 ?_; (case kA => exact rfl); (case kF => exact rfl); (case kK => assumption); (case k1 => k_asm); (case k2 => k_asm); (case k3 => k_asm); (case k4 => k_asm); (case k5 => k_asm); (case k6 => k_is); (case k7 => k_is); (case k8 => ktr_room); (case k9 => exact BindsTo.of_eq rfl); (case c5 => decide); (case kB => exact locs rfl); (case c2 => exact rfl); (case c3 => exact rfl); (case c4 => exact rfl))))

set_option maxRecDepth 100000 in
set_option maxHeartbeats 4000000 in
theorem con_polymod {w : World} {p : Program} {loose : List Str} {mean : ExcName → Option Value} {mg mb : Str → Option Value} {dp un : Nat} {gd : Option (List Code)} {cn : Str} {cs : Scope} {a : Addr} {ccd : Value} {cl : List (Str × Addr)} {outer : List Env} {A₀ : Around} {base h₀ : Heap} {L : Addr} {m : Str → Option Value} {news : List (Addr × Obj)} {s : Shared}
    {Q E : Value → Shared → Prop} {l : Addr} {vs : List Value} {ns : List Int} {nn : Nat}
    (B : Below A₀ base outer h₀) (F : Fr h₀ L s.heap m) (X : (Mine.hd.heap_39 w.params).In h₀) (N : News h₀ L s.heap news) (T : Top p loose mean mg mb h₀) (hk : cs.kind = .function) (hd : dp + 1 < recursionLimit)
    (hl : (l, listOf vs.toArray nn) ∈ news) (hi : IntsAre vs ns) (hns : ∀ v ∈ ns, 0 ≤ v ∧ v < 32)
    (hret : ∀ t h' tk', Fr h₀ L h' m → News h₀ L h' news → Q (.int (pmod (ns.map Int.toNat) : Nat) t) { s with heap := h', toks := tk' }) :
    wpAny (model PySem.Challenge.rw_oo0002_01.row.prog w) (ktrTop dp un gd cn cs L a ccd cl outer) (call (.ref 21) [.ref l]) Q E s := by
  w_top off
  revert X; k_fill; intro X
  k_with_none
  ktr_rel
  intro g' L' h' FG' F' N' B' X' T' lt'
  dsimp only
  obtain ⟨u, F2⟩ := fr_cut F' [(Str.ofString "values", .ref l)] (by kst_all1)
  clear F'
  dsimp only [kstB] at F2
  k_unmd
  k_fold
  ktr_unf
  (rename Fr _ _ _ _ => F3); (rename News _ _ _ _ => N3)
  with_unfolding_all refine For_loc g' ?k1 ?k2 ?k3 ?_
  case k1 => rfl
  case k2 => rfl
  case k3 => intro _; rfl
  k_unmd
  k_fold
  ktr_unf
  unfold Stop
  obtain ⟨G, hG, N4⟩ := news_head N3
  clear N3
  rename_i lG _ lltG _ _
  have hlG := fun q hq => Nat.ne_of_lt (lltG q hq)
  refine iter_led (vs := vs) (nn := nn) (fun i m nx => ∃ (z : Int) (tc : Tok), z = (pmod ((ns.take i).map Int.toNat) : Nat) ∧ nx = (lG, G) :: news ∧ (∀ p ∈ [(Str.ofString "chk", Value.int z tc), (Str.ofString "generator", .ref lG)], m p.1 = some p.2)) rfl ?_ F3 N4 ⟨1, _, rfl, rfl, by kst_all1⟩ ?_ ?_
  · rintro i m nx ⟨z, tc, -, rfl, -⟩
    exact .tail _ hl
  · rintro I i v m₁ nx h₁ tk₁ oi hi' hv ⟨z, tc, hz, rfl, hps⟩ hoff F5 N5
    obtain ⟨n, tn, hn, hvn⟩ := IntsAre.at hi i v hv
    have hn32 := hns n (List.mem_of_getElem? hvn)
    subst hn
    obtain ⟨u2, F6⟩ := fr_turn F5 hps (by rfl)
    clear F5 hps F3 N4
    dsimp only [kstB] at F6
    have hz30 := pmod_lt ((ns.take i).map Int.toNat) (by
      intro v hv
      obtain ⟨z, hz, rfl⟩ := List.mem_map.mp hv
      have := hns z (List.mem_of_mem_take hz)
      omega)
    generalize hc : pmod ((ns.take i).map Int.toNat) = c at hz hz30
    k_unmd
    k_fold
    ktr_unf
    clear F6 N5
    (rename Fr _ _ _ _ => F7); (rename News _ _ _ _ => N7)
    obtain ⟨u3, F8⟩ := fr_cut F7 [(Str.ofString "chk", .int (Builtin.bitXor (Builtin.bitAnd z 33554431 * 2 ^ Int.toNat 5) n) _), (Str.ofString "top", .int (z.fdiv (2 ^ Int.toNat 25)) _), (Str.ofString "generator", .ref lG)] (by kst_all1)
    clear F7
    dsimp only [kstB] at F8
    with_unfolding_all refine For_loc g' ?k1 ?k2 ?k3 ?_
    case k1 => rfl
    case k2 => rfl
    case k3 => intro _; rfl
    k_unmd
    k_fold
    ktr_unf
    unfold Stop

    (rename Fr _ _ _ _ => F9); (rename News _ _ _ _ => N9); (rename IsRange _ _ _ _ _ _ _ _ => R9)
    have hz0 := inner_zero hz hn32
    have ht0 := inner_top hz
    generalize Builtin.bitXor (Builtin.bitAnd z 33554431 * 2 ^ Int.toNat 5) n = z0 at F9 hz0
    generalize z.fdiv (2 ^ Int.toNat 25) = top at F9 ht0
    generalize hc0 : (c % 33554432 * 32) ^^^ n.toNat = c0 at hz0
    generalize htc : c / 33554432 = topc at hz0 ht0
    refine iter_rng (n := 5) (fun j m nx => ∃ (y : Int) (tc tt : Tok), y = (pin topc c0 j : Nat) ∧ nx = (I, oi) :: (lG, G) :: news ∧ (∀ p ∈ [(Str.ofString "chk", Value.int y tc), (Str.ofString "top", .int top tt), (Str.ofString "generator", .ref lG)], m p.1 = some p.2)) rfl R9 (by decide) (by rfl) F9 N9 ⟨z0, _, _, hz0, rfl, by kst_all1⟩ ?_ ?_
    · rintro I2 j tj m₂ nx h₂ tk₂ oi2 hj ⟨y, ty, tt, hy, rfl, hps⟩ hoff2 G1 N10
      generalize hjv : (0 + (j : Int)) = jv at G1
      obtain ⟨u4, G2⟩ := fr_turn G1 hps (by rfl)
      clear G1 hps F9 N9 R9
      dsimp only [kstB] at G2
      subst hG
      have hj5 : (j = 0 ∧ jv = 0) ∨ (j = 1 ∧ jv = 1) ∨ (j = 2 ∧ jv = 2) ∨ (j = 3 ∧ jv = 3) ∨ (j = 4 ∧ jv = 4) := by omega
      k_unmd
      k_fold
      rcases hj5 with ⟨rfl, rfl⟩ | ⟨rfl, rfl⟩ | ⟨rfl, rfl⟩ | ⟨rfl, rfl⟩ | ⟨rfl, rfl⟩
      all_goals (
        ktr_unf
        all_goals (
          (rename Fr _ _ _ _ => G3); (rename News _ _ _ _ => N11)
          first
          | exact TPost.next ⟨_, _, _, _, _, rfl, G3, N11, .head _, fun p hp => .tail _ hp, hoff2, _, _, _, pin_off rfl hy ht0 (by assumption), rfl, by kst_all1⟩
          | exact TPost.next ⟨_, _, _, _, _, rfl, G3, N11, .head _, fun p hp => .tail _ hp, hoff2, _, _, _, pin_on rfl rfl hy ht0 (by assumption), rfl, by kst_all1⟩))
    · rintro m₂ nx h₂ tk₂ ⟨y, ty, tt, hy, rfl, hps⟩ G1 N10
      obtain ⟨u4, G2⟩ := fr_cut G1 _ hps
      clear G1 hps F9 N9 R9
      dsimp only [kstB] at G2
      dsimp only
      ktr_unf
      (rename Fr _ _ _ _ => G3); (rename News _ _ _ _ => N11)
      exact TPost.next ⟨_, _, _, _, _, rfl, G3, N11, .head _, fun p hp => .tail _ hp, hoff, _, _, outer_step hy hvn hc hc0 htc, rfl, by kst_all1⟩
  · rintro m₁ nx h₁ tk₁ ⟨z, tc, hz, rfl, hps⟩ F5 N5
    rw [hi.length, List.take_length] at hz
    obtain ⟨u4, F6⟩ := fr_cut F5 _ hps
    clear F5 hps F3 N4
    dsimp only [kstB] at F6
    subst hz
    dsimp only
    ktr_unf
    (rename News _ _ _ _ => N11)
    exact hret _ _ _ (by assumption) (fun p hp => N11 p (.tail _ hp))
end Mine
end
section
open PySem PySem.W PyProof.Rows PySem.Calls PyProof.Rows.LCg
namespace Mine

def EEnd (h₀ : Heap) (L : Addr) (m : Str → Option Value) (s₁ : Shared) (led : List (Addr × Obj)) (G : Value → Prop) (y : Value) (s₂ : Shared) : Prop :=
  G y ∧ ∃ h' tk, s₂ = { s₁ with heap := h', toks := tk } ∧ Fr h₀ L h' m ∧ News h₀ L h' led

section
variable {prog : Program} {w : World} {A : Around} {E : Value → Shared → Prop} {s : Shared} {h₀ : Heap} {L : Addr} {m : Str → Option Value} {env : Env}
theorem rest_of {elt : Expr} {x : Str} {scope : Scope} {cl : List (Str × Addr)} {S : List (Addr × Obj) → Prop} {P : Nat → Value → Prop} {Fin : List Value → List (Addr × Obj) → Prop} {n : Nat} {news : List (Addr × Obj)} (G : Nat → Value → Prop) (hS : S news)
    (turn : ∀ i v I oI C oC D m₂ ys h tk, i < n → P i v → NsObj oC m₂ → m₂ x = some v → Fr h₀ L h m → News h₀ L h ((I, oI) :: (C, oC) :: (D, lst ys) :: news) → (∀ p ∈ news, p.1 ≠ I ∧ p.1 ≠ C ∧ p.1 ≠ D) → ((@Ne Nat I C) ∧ (@Ne Nat I D) ∧ (@Ne Nat C D)) →
      wpAny (model prog w) A (eval elt (compEnvC scope cl C env)) (EEnd h₀ L m { s with heap := h, toks := tk } ((I, oI) :: (C, oC) :: (D, lst ys) :: news) (G i)) (fun _ _ => False) { s with heap := h, toks := tk })
    (fin : ∀ ys, ys.length = n → (∀ i y, ys[i]? = some y → G i y) → Fin ys news) : CompRest prog w A h₀ L m env elt x scope cl s S P Fin n 0 [] news := by
  have key : ∀ (j i : Nat) (ys : List Value), i + j = n → ys.length = i → (∀ i y, ys[i]? = some y → G i y) → CompRest prog w A h₀ L m env elt x scope cl s S P Fin j i ys news := by
    intro j
    induction j with
    | zero =>
      intro i ys hi hl hG
      exact CompRest.zero (fin ys (by omega) hG)
    | succ j ih =>
      intro i ys hi hl hG
      refine CompRest.succ ?_
      intro v I oI C oC D m₂ h tk E' hv hC hx F N off ne
      refine wpAny_noRaise (wpAny_mono (turn i v I oI C oC D m₂ ys h tk (by omega) hv hC hx F N off.mem ne) (fun y s₂ hq => ?_) fun _ _ e => e)
      obtain ⟨hy, h', tk', e, F', N'⟩ := hq
      refine ⟨h', tk', news, e, F', N', off, hS, ?_⟩
      refine ih (i + 1) _ (by omega) (by simp [hl]) ?_
      intro k z hk
      by_cases hkl : k < ys.length
      · rw [List.getElem?_append_left hkl] at hk
        exact hG k z hk
      · have hk' : k = i := by
          have := (List.getElem?_eq_some_iff.mp hk).1
          simp at this
          omega
        subst hk'
        rw [List.getElem?_append_right (by omega), hl, Nat.sub_self] at hk
        simp at hk
        exact hk ▸ hy
  exact key n 0 [] (by omega) rfl (by simp)

/-- a comprehension over a text -/
theorem comp_str {elt iter : Expr} {x : Str} {px : Pos} {scope : Scope} {cl : List (Str × Addr)} {pos : Pos} {Q : Value → Shared → Prop} {news : List (Addr × Obj)} (G : Nat → Value → Prop)
    (hh : A.handled = none) (F : Fr h₀ L s.heap m) (N : News h₀ L s.heap news)
    (hclos : closureFor scope env = pure cl) (hcell : ∀ y ∈ scope.names, y.2 ≠ .cell) (hkind : scope.kind = .function)
    (hnames : ∀ y ∈ scope.names, y.2 = .local → scope.names.lookup y.1 = some .local) (hx : scope.names.lookup x = some .local)
    (hs : ∀ x, foldedSetIterable iter env x = pure x) {xt : Str} (ha : xt.cps.all (· < 128) = true) (hsz : xt.cps.size ≤ sizeLine)
    (hi : wpAny (model prog w) A (eval iter env) (fun v s' => ∃ tx, v = .str xt tx ∧ s' = s) (fun _ _ => False) s)
    (turn : ∀ i c t I oI C oC D m₂ ys h tk, xt.cps[i]? = some c → NsObj oC m₂ → m₂ x = some (.str ⟨#[c]⟩ t) → Fr h₀ L h m → News h₀ L h ((I, oI) :: (C, oC) :: (D, lst ys) :: news) → (∀ p ∈ news, p.1 ≠ I ∧ p.1 ≠ C ∧ p.1 ≠ D) → ((@Ne Nat I C) ∧ (@Ne Nat I D) ∧ (@Ne Nat C D)) →
      wpAny (model prog w) A (eval elt (compEnvC scope cl C env)) (EEnd h₀ L m { s with heap := h, toks := tk } ((I, oI) :: (C, oC) :: (D, lst ys) :: news) (G i)) (fun _ _ => False) { s with heap := h, toks := tk })
    (fin : ∀ (ys : List Value) D h tk, ys.length = xt.cps.size → (∀ i y, ys[i]? = some y → G i y) → Fr h₀ L h m → News h₀ L h ((D, listOf ys.toArray ys.length) :: news) → (∀ p ∈ news, p.1 ≠ D) → Q (.ref D) { s with heap := h, toks := tk }) :
    wpAny (model prog w) A (eval (.ListComp elt [⟨.Name x px, iter, [], 0⟩] scope pos) env) Q (fun _ _ => False) s := by
  rw [eval_ListComp]
  refine wpAny_comprehension_free (use := none) rfl hs hclos hkind hnames (wpAny_mono hi (fun xv s₁ h₁ => ?_) fun _ _ e => e)
  obtain ⟨tx, rfl, rfl⟩ := h₁
  refine wpAny_pyIter_ascii ha ?_
  have hIo : ∀ (i : Nat) (h : Heap), h.IsStrIter s₁.heap.objs.size "str_ascii_iterator" xt tx i → ∃ o, h.get? s₁.heap.objs.size = some o := fun i h st => by obtain ⟨o, e, _⟩ := st; exact ⟨o, e⟩
  refine block_U (S := fun _ => True) (news := news) (Fin := fun ys nw => nw = news ∧ ys.length = xt.cps.size ∧ ∀ i y, ys[i]? = some y → G i y) (Walks.strAscii hh _ xt tx) hsz hIo (fun i h h' o nw st e e' _ _ _ => by obtain ⟨o', q, r⟩ := st; rw [e] at q; cases q; exact ⟨o, e', r⟩) hcell hkind hx ⟨_, Heap.get?_push_size _ rfl, rfl, rfl⟩ (fun b hb => ?_)
    (F.keeps fun _ _ e => Heap.get?_push_of_some _ e) (N.grown fun _ _ e => Heap.get?_push_of_some _ e) (Nat.ne_of_lt F.ns.lt) (next_is_new F) (fun p hp => Nat.ne_of_lt (Heap.lt_size (N p hp).1)) trivial
    (rest_of G trivial (fun i v I oI C oC D m₂ ys h tk hi hP hC hx F N off ne => ?_) fun ys hl hG => ⟨rfl, hl, hG⟩) ?_
  · rw [List.mem_singleton.mp hb]
    show s₁.heap.objs.size < (s₁.heap.push _).objs.size
    rw [Heap.size_push]; exact Nat.lt_succ_self _
  · obtain ⟨c, u, hc, rfl⟩ := hP
    exact turn i c u I oI C oC D m₂ ys h tk hc hC hx F N off ne
  · intro D C h tk m' ys news' F' N' o1 hn hC₀ hD₀ hCL hDL hCD offC fin'
    obtain ⟨rfl, hl, hG⟩ := fin'
    refine ⟨m', hn, fun h'' hs'' => fin ys D h'' tk hl hG (F'.change hs'' hCL hC₀) (fun p hp => ?_) ?_⟩
    · refine ⟨hs''.extBut _ _ ?_ (N' p hp).1, (N' p hp).2⟩
      rcases List.mem_cons.mp hp with rfl | hp
      · exact Ne.symm hCD
      · exact offC p hp
    · have o1' : ∀ {l : List (Addr × Obj)}, Off1 D l → ∀ p ∈ l, p.1 ≠ D := by
        intro l
        induction l with
        | nil => intro _ p hp; simp at hp
        | cons q r ih =>
          intro o p hp
          rcases List.mem_cons.mp hp with rfl | hp
          · exact o.1
          · exact ih o.2 p hp
      exact o1' o1
theorem comp_U {elt iter : Expr} {x : Str} {px : Pos} {scope : Scope} {cl : List (Str × Addr)} {pos : Pos} {Q : Value → Shared → Prop} (F₀ : Fr h₀ L s.heap m)
    (hclos : closureFor scope env = pure cl) (hcell : ∀ y ∈ scope.names, y.2 ≠ .cell) (hkind : scope.kind = .function)
    (hnames : ∀ y ∈ scope.names, y.2 = .local → scope.names.lookup y.1 = some .local) (hx : scope.names.lookup x = some .local)
    (hs : ∀ x, foldedSetIterable iter env x = pure x)
    (h : wpAny (model prog w) A (eval iter env) (fun xv s₁ => Stop (CompSrc prog w A h₀ L m env elt x scope cl (fun s₂ => FinE h₀ L m s₂ Q) xv s₁)) (fun _ _ => False) s) :
    wpAny (model prog w) A (eval (.ListComp elt [⟨.Name x px, iter, [], 0⟩] scope pos) env) Q (fun _ _ => False) s :=
  ListComp_U F₀ hclos hcell hkind hnames hx h hs
theorem compA_U {elt iter : Expr} {x y : Str} {px py : Pos} {scope : Scope} {cl : List (Str × Addr)} {pos spos : Pos} {Q : Flow → Shared → Prop} (F₀ : Fr h₀ L s.heap m) (hLe : env.locals = L)
    (hsw : swapsWith (.ListComp elt [⟨.Name x px, iter, [], 0⟩] scope pos) (some (.Name y py)) spos.line env = pure true)
    (hclos : closureFor scope env = pure cl) (hcell : ∀ z ∈ scope.names, z.2 ≠ .cell) (hkind : scope.kind = .function)
    (hnames : ∀ z ∈ scope.names, z.2 = .local → scope.names.lookup z.1 = some .local) (hx : scope.names.lookup x = some .local)
    (hy : env.kindOf y = some .local) (hp : (env.scope.kind == .class || (env.scope.kind == .module && env.locals != env.globals)) = false)
    (hs : ∀ x, foldedSetIterable iter env x = pure x)
    (h : wpAny (model prog w) A (eval iter env) (fun xv s₁ => Stop (CompSrc prog w A h₀ L m env elt x scope cl (fun s₂ => FinA h₀ L m s₂ y Q) xv s₁)) (fun _ _ => False) s) :
    wpAny (model prog w) A (exec (.Assign [.Name y py] (.ListComp elt [⟨.Name x px, iter, [], 0⟩] scope pos) spos) env) Q (fun _ _ => False) s :=
  Assign_ListComp_U F₀ hLe hsw hclos hcell hkind hnames hx hy hp h hs
theorem off1 {D : Addr} : ∀ {l : List (Addr × Obj)}, Off1 D l → ∀ p ∈ l, p.1 ≠ D
  | [], _, p, hp => nomatch hp
  | q :: r, o, p, hp => by
    rcases List.mem_cons.mp hp with rfl | hp
    · exact o.1
    · exact off1 o.2 p hp
theorem ints_of : ∀ {ys : List Value} {f : Nat → Int}, (∀ i y, ys[i]? = some y → ∃ t : Tok, y = Value.int (f i) t) → IntsAre ys ((List.range ys.length).map f)
  | [], _, _ => .nil
  | y :: ys, f, h => by
    obtain ⟨t, ht⟩ := h 0 y rfl
    subst ht
    have := ints_of (ys := ys) (f := fun i => f (i + 1)) fun i y hy => h (i + 1) y (by simpa using hy)
    rw [List.length_cons, List.range_succ_eq_map, List.map_cons, List.map_map]
    exact .cons _ _ this
theorem strs_of : ∀ {ys : List Value} {f : Nat → Str}, (∀ i y, ys[i]? = some y → ∃ t : Tok, y = Value.str (f i) t) → StrsAre ys ((List.range ys.length).map f)
  | [], _, _ => .nil
  | y :: ys, f, h => by
    obtain ⟨t, ht⟩ := h 0 y rfl
    subst ht
    have := strs_of (ys := ys) (f := fun i => f (i + 1)) fun i y hy => h (i + 1) y (by simpa using hy)
    rw [List.length_cons, List.range_succ_eq_map, List.map_cons, List.map_map]
    exact .cons _ _ this
end
end Mine
end
section
open PySem PySem.W PyProof.Rows PySem.Calls
namespace Mine
theorem range_getD {x : Array Nat} (f : Nat → Int) {n : Nat} (hn : n = x.size) : (List.range n).map (fun i => f (x.getD i 0)) = x.toList.map f := by
  subst hn
  refine List.ext_getElem (by simp) fun i h1 h2 => ?_
  simp at h1 h2
  simp [h1]
theorem getD_of {x : Array Nat} {i c : Nat} (h : x[i]? = some c) : x.getD i 0 = c := by
  simp [Array.getD_eq_getD_getElem?, h]
theorem shr5 {x : Array Nat} {i c : Nat} (h : x[i]? = some c) : (c : Int).fdiv (2 ^ Int.toNat 5) = ((x.getD i 0 / 32 : Nat) : Int) := by
  rw [getD_of h, Int.fdiv_eq_ediv_of_nonneg _ (by decide)]
  show (c : Int) / 32 = _
  omega
theorem and31 {x : Array Nat} {i c : Nat} (h : x[i]? = some c) : Builtin.bitAnd (c : Int) 31 = ((x.getD i 0 % 32 : Nat) : Int) := by
  rw [getD_of h, bitAnd_m5]
  omega
local macro_rules | `(tactic| ktr_unf) => `(tactic| repeat' ((fail_if_success (with_reducible show wpAny _ _ (PySem.exec (PySem.Stmt.While _ _ _ _) _) _ _ _)); (fail_if_success (with_reducible show wpAny _ _ (PySem.exec (PySem.Stmt.For _ _ _ _ _) _) _ _ _)); (fail_if_success (with_reducible show wpAny _ _ (PySem.eval (PySem.Expr.ListComp _ _ _ _) _) _ _ _)); first | (k_unfold; (try dsimp only)) | (k_end; wrow_close) | walk1 | (dsimp only; walk1) | (leave1; walk_say "STEP leave1"; try dsimp only) | fail "no step"))
local macro_rules | `(tactic| ktr_rel) => `(tactic| ((refine wpAny_call ?_); k_dflt (refine' enter ?k1 ?k2 ?k3 ?k4 ?k5 ?kA ?kF ?kK ?k6 ?k7 ?k8 ?k9 ?kB ?c2 ?c3 ?c4 ?c5 ?_; (case kA => exact rfl); (case kF => exact rfl); (case kK => assumption); (case k1 => k_asm); (case k2 => k_asm); (case k3 => k_asm); (case k4 => k_asm); (case k5 => k_asm); (case k6 => k_is); (case k7 => k_is); (case k8 => ktr_room); (case k9 => exact BindsTo.of_eq rfl); (case c5 => decide); (case kB => exact locs rfl); (case c2 => exact rfl); (case c3 => exact rfl); (case c4 => exact rfl))))

set_option maxRecDepth 100000 in
set_option maxHeartbeats 4000000 in
theorem con_hrp {w : World} {p : Program} {loose : List Str} {mean : ExcName → Option Value} {mg mb : Str → Option Value} {dp un : Nat} {gd : Option (List Code)} {cn : Str} {cs : Scope} {a : Addr} {ccd : Value} {cl : List (Str × Addr)} {outer : List Env} {A₀ : Around} {base h₀ : Heap} {L : Addr} {m : Str → Option Value} {news : List (Addr × Obj)} {s : Shared}
    {Q E : Value → Shared → Prop} {x : Str} {tx : Tok}
    (B : Below A₀ base outer h₀) (F : Fr h₀ L s.heap m) (X : (Mine.hd.heap_39 w.params).In h₀) (N : News h₀ L s.heap news) (T : Top p loose mean mg mb h₀) (hk : cs.kind = .function) (hd : dp + 1 < recursionLimit)
    (hx : ∀ c ∈ x.cps.toList, c < 128) (hlen : x.cps.size ≤ 100)
    (hret : ∀ D vs c h' tk', IntsAre vs (x.cps.toList.map (fun c => ((c / 32 : Nat) : Int)) ++ [0] ++ x.cps.toList.map (fun c => ((c % 32 : Nat) : Int))) → Fr h₀ L h' m → News h₀ L h' ((D, listOf vs.toArray c) :: news) → (∀ p ∈ news, p.1 < D) → Q (.ref D) { s with heap := h', toks := tk' }) :
    wpAny (model PySem.Challenge.rw_oo0002_01.row.prog w) (ktrTop dp un gd cn cs L a ccd cl outer) (call (.ref 26) [.str x tx]) Q E s := by
  have hx' : x.cps.all (· < 128) = true := by
    rw [Array.all_eq_true']
    intro c hc
    exact decide_eq_true (hx c (by simpa using hc))
  w_top off
  revert X; k_fill; intro X
  k_with_none
  ktr_rel
  intro g' L' h' FG' F' N' B' X' T' lt'
  dsimp only
  obtain ⟨u, F2⟩ := fr_cut F' [(Str.ofString "hrp", .str x tx)] (by kst_all1)
  clear F'
  dsimp only [kstB] at F2
  k_unmd
  k_fold
  ktr_unf
  refine comp_str (xt := x) (news := news) (fun i y => ∃ t : Tok, y = Value.int ((x.cps.getD i 0 / 32 : Nat) : Int) t) rfl F2 N' (by rfl) (by decide) (by rfl) (by decide) (by rfl) (by intro _; rfl) hx' (by rw [PySem.sizeLine_eq]; omega) ?_ ?_ ?_
  · ktr_unf
  · intro i c t I oI C oC D m₂ ys h tk hc hC hx2 F3 N3 off ne
    k_unmd
    k_fold
    ktr_unf
    exact ⟨⟨_, by rw [shr5 hc]⟩, _, _, rfl, F3, N3⟩
  · intro ys D h tk hl hG F3 N3 off
    have hi1 := ints_of hG
    k_unmd
    ktr_unf
    (rename Fr _ _ _ _ => F4); (rename News _ _ _ _ => N4)
    dsimp only at N4
    refine comp_str (xt := x) (fun i y => ∃ t : Tok, y = Value.int ((x.cps.getD i 0 % 32 : Nat) : Int) t) rfl F4 N4 (by rfl) (by decide) (by rfl) (by decide) (by rfl) (by intro _; rfl) hx' (by rw [PySem.sizeLine_eq]; omega) ?_ ?_ ?_
    · ktr_unf
    · intro i c t I oI C oC D m₂ ys h tk hc hC hx2 F3 N3 off ne
      k_unmd
      k_fold
      ktr_unf
      exact ⟨⟨_, by rw [and31 hc]⟩, _, _, rfl, F3, N3⟩
    · intro ys2 D2 h2 tk2 hl2 hG2 F5 N5 off2
      have hi2 := ints_of hG2
      k_unmd
      ktr_unf
      (rename Fr _ _ _ _ => F6); (rename News _ _ _ _ => N6)
      dsimp only at N6
      rw [hl, range_getD (fun c => ((c / 32 : Nat) : Int)) rfl] at hi1
      rw [hl2, range_getD (fun c => ((c % 32 : Nat) : Int)) rfl] at hi2
      refine hret _ _ _ _ _ ?hI (by assumption) (news_drop N6 ?hs) ?hlt
      case hI => exact IntsAre.append (IntsAre.append hi1 (.cons _ _ .nil)) hi2
      case hs => exact fun p hp => .tail _ (.tail _ (.tail _ (.tail _ hp)))
      case hlt => exact fun p hp => Heap.lt_size (N5 p (.tail _ (.tail _ (.tail _ (.tail _ hp))))).1
end Mine
end
section
open PySem PySem.W PyProof.Rows PySem.Calls
namespace Mine
theorem vf_bnd {l : List Nat} {dns : List Int} (hx : ∀ c ∈ l, c < 128) (hd : ∀ v ∈ dns, 0 ≤ v ∧ v < 32) : ∀ v ∈ l.map (fun c => ((c / 32 : Nat) : Int)) ++ [0] ++ l.map (fun c => ((c % 32 : Nat) : Int)) ++ dns, 0 ≤ v ∧ v < 32 := by
  intro v hv
  rcases List.mem_append.mp hv with hv | hv
  · rcases List.mem_append.mp hv with hv | hv
    · rcases List.mem_append.mp hv with hv | hv
      · obtain ⟨c, hc, rfl⟩ := List.mem_map.mp hv
        have := hx c hc
        omega
      · rw [List.mem_singleton.mp hv]; decide
    · obtain ⟨c, hc, rfl⟩ := List.mem_map.mp hv
      omega
  · exact hd v hv
theorem vf_eq {l : List Nat} {dns : List Int} : (((pmod (List.map Int.toNat (l.map (fun c => ((c / 32 : Nat) : Int)) ++ [0] ++ l.map (fun c => ((c % 32 : Nat) : Int)) ++ dns)) : Nat) : Int) == 1) = decide (pmod (l.map (· / 32) ++ [0] ++ l.map (· % 32) ++ dns.map Int.toNat) = 1) := by
  have e : List.map Int.toNat (l.map (fun c => ((c / 32 : Nat) : Int)) ++ [0] ++ l.map (fun c => ((c % 32 : Nat) : Int)) ++ dns) = l.map (· / 32) ++ [0] ++ l.map (· % 32) ++ dns.map Int.toNat := by
    have e1 : (fun c : Nat => ((c : Int) / 32).toNat) = fun c => c / 32 := by funext c; omega
    have e2 : (fun c : Nat => ((c : Int) % 32).toNat) = fun c => c % 32 := by funext c; omega
    simp [Function.comp_def, e1, e2]
  rw [e, Bool.eq_iff_iff]
  simp only [beq_iff_eq, decide_eq_true_eq]
  omega
local macro_rules | `(tactic| ktr_unf) => `(tactic| repeat' ((fail_if_success (with_reducible show wpAny _ _ (PySem.exec (PySem.Stmt.While _ _ _ _) _) _ _ _)); (fail_if_success (with_reducible show wpAny _ _ (PySem.exec (PySem.Stmt.For _ _ _ _ _) _) _ _ _)); (fail_if_success (with_reducible show wpAny _ _ (PySem.eval (PySem.Expr.ListComp _ _ _ _) _) _ _ _)); (fail_if_success (with_reducible show wpAny _ _ (PySem.call (Value.ref _) _) _ _ _)); first | (k_unfold; (try dsimp only)) | (k_end; wrow_close) | walk1 | (dsimp only; walk1) | (leave1; walk_say "STEP leave1"; try dsimp only) | fail "no step"))
local macro_rules | `(tactic| ktr_rel) => `(tactic| ((refine wpAny_call ?_); k_dflt (refine' enter ?k1 ?k2 ?k3 ?k4 ?k5 ?kA ?kF ?kK ?k6 ?k7 ?k8 ?k9 ?kB ?c2 ?c3 ?c4 ?c5 ?_; (case kA => exact rfl); (case kF => exact rfl); (case kK => assumption); (case k1 => k_asm); (case k2 => k_asm); (case k3 => k_asm); (case k4 => k_asm); (case k5 => k_asm); (case k6 => k_is); (case k7 => k_is); (case k8 => ktr_room); (case k9 => exact BindsTo.of_eq rfl); (case c5 => decide); (case kB => exact locs rfl); (case c2 => exact rfl); (case c3 => exact rfl); (case c4 => exact rfl))))

set_option maxRecDepth 100000 in
set_option maxHeartbeats 4000000 in
theorem con_verify {w : World} {p : Program} {loose : List Str} {mean : ExcName → Option Value} {mg mb : Str → Option Value} {dp un : Nat} {gd : Option (List Code)} {cn : Str} {cs : Scope} {a : Addr} {ccd : Value} {cl : List (Str × Addr)} {outer : List Env} {A₀ : Around} {base h₀ : Heap} {L : Addr} {m : Str → Option Value} {news : List (Addr × Obj)} {s : Shared}
    {Q E : Value → Shared → Prop} {x : Str} {tx : Tok} {l : Addr} {dvs : List Value} {dns : List Int} {dn : Nat}
    (B : Below A₀ base outer h₀) (F : Fr h₀ L s.heap m) (X : (Mine.hd.heap_39 w.params).In h₀) (N : News h₀ L s.heap news) (T : Top p loose mean mg mb h₀) (hk : cs.kind = .function) (hd : dp + 2 < recursionLimit)
    (hx : ∀ c ∈ x.cps.toList, c < 128) (hlen : x.cps.size ≤ 100)
    (hl : (l, listOf dvs.toArray dn) ∈ news) (hi : IntsAre dvs dns) (hns : ∀ v ∈ dns, 0 ≤ v ∧ v < 32) (hdl : dns.length ≤ 100)
    (hret : ∀ h' tk', Fr h₀ L h' m → News h₀ L h' news → Q (.bool (decide (pmod (x.cps.toList.map (· / 32) ++ [0] ++ x.cps.toList.map (· % 32) ++ dns.map Int.toNat) = 1))) { s with heap := h', toks := tk' }) :
    wpAny (model PySem.Challenge.rw_oo0002_01.row.prog w) (ktrTop dp un gd cn cs L a ccd cl outer) (call (.ref 33) [.str x tx, .ref l]) Q E s := by
  w_top off
  revert X; k_fill; intro X
  k_with_none
  ktr_rel
  intro g' L' h' FG' F' N' B' X' T' lt'
  dsimp only
  obtain ⟨u, F2⟩ := fr_cut F' [(Str.ofString "hrp", .str x tx), (Str.ofString "data", .ref l)] (by kst_all1)
  clear F'
  dsimp only [kstB] at F2
  k_unmd
  k_fold
  ktr_unf
  refine con_hrp B' (by assumption) X' (by assumption) T' rfl (by ktr_room) hx hlen ?_
  intro D vs c h2 tk2 hI F3 N3 hlt
  have hl3 := List.mem_cons_of_mem (D, listOf vs.toArray c) hl
  have hkst : KstMark := kstMark
  have hlen1 := hi.length
  have hlen2 := hI.length
  simp only [List.length_append, List.length_map, List.length_cons, List.length_nil, Array.length_toList] at hlen2
  ktr_unf
  refine list_copyK F3 N3 ⟨_, (N3 _ hl3).1, rfl, _, rfl⟩ ?_ (by rw [List.size_toArray, PySem.sizeLine_eq]; omega)
  intro D2 c2 h3 F4 N4 hlt2
  ktr_unf
  (rename Fr _ _ _ _ => F5); (rename News _ _ _ _ => N5)
  dsimp only at N5
  refine con_polymod B' F5 X' N5 T' rfl (by ktr_room) (.head _) (IntsAre.append hI hi) ?_ ?_
  · exact vf_bnd hx hns
  intro t h6 tk6 F6 N6
  ktr_unf
  (rename News h₀ L _ _ => N7)
  rw [vf_eq]
  exact hret _ _ (by assumption) (fun p hp => N7 p (.tail _ (.tail _ (.tail _ hp))))
end Mine
end
section
open PySem PySem.W PyProof.Rows PySem.Calls
namespace Mine
def P31 : List Int := [1, 2, 4, 8, 16, 9, 18, 13, 26, 29, 19, 15, 30, 21, 3, 6, 12, 24, 25, 27, 31, 23, 7, 14, 28, 17, 11, 22, 5, 10, 20]
theorem pw_all : ∀ n : Fin 31, 1 ≤ n.1 →
    ((31 < (P31.take n.1).getD (-1 + ((P31.take n.1).length : Int)).toNat 0 * 2 → P31.take n.1 ++ [Builtin.bitXor ((P31.take n.1).getD (-1 + ((P31.take n.1).length : Int)).toNat 0 * 2) 41] = P31.take (n.1 + 1)) ∧
    (¬ 31 < (P31.take n.1).getD (-1 + ((P31.take n.1).length : Int)).toNat 0 * 2 → P31.take n.1 ++ [(P31.take n.1).getD (-1 + ((P31.take n.1).length : Int)).toNat 0 * 2] = P31.take (n.1 + 1))) := by decide +kernel
def tabUp (st : Nat) : Nat → List Int
  | 0 => List.replicate 32 0
  | k + 1 => (tabUp st k).set (P31.getD k 0).toNat (P31.getD ((st + k) % 31) 0)
abbrev tEnt (t : Addr × List Value × Nat) : Addr × Obj := (t.1, listOf t.2.1.toArray t.2.2)
def nums6 : List Int := [29, 22, 20, 21, 18, 17]
def tabN (num : Int) : List Int := tabUp (P31.idxOf num) 31
def TabsOk (ts : List (Addr × List Value × Nat)) : Prop := ∀ j t, ts[j]? = some t → IntsAre t.2.1 (tabN (nums6.getD j 0))
theorem num_mem {i : Nat} {num : Int} (h : [29, 22, 20, 21, 18, 17][i]? = some num) : num ∈ P31 := by
  have h1 := List.mem_of_getElem? h
  have h2 : ∀ x ∈ ([29, 22, 20, 21, 18, 17] : List Int), x ∈ P31 := by decide +kernel
  exact h2 _ h1
theorem tabUp_len (st : Nat) : ∀ k, (tabUp st k).length = 32
  | 0 => rfl
  | k + 1 => by
    show ((tabUp st k).set _ _).length = 32
    rw [List.length_set, tabUp_len st k]
theorem P31_bnd (i : Nat) : 0 ≤ P31.getD i 0 ∧ P31.getD i 0 < 32 := by
  by_cases h : i < 31
  · have : ∀ i : Fin 31, 0 ≤ P31.getD i.1 0 ∧ P31.getD i.1 0 < 32 := by decide +kernel
    exact this ⟨i, h⟩
  · rw [List.getD_eq_getElem?_getD, List.getElem?_eq_none (by show 31 ≤ i; omega)]
    decide
theorem tabs_snoc {ts : List (Addr × List Value × Nat)} {lt : Addr} {tv : List Value} {c i st : Nat} {num : Int} (h : TabsOk ts) (hv : IntsAre tv (tabUp st 31)) (hl : ts.length = i) (hn : [29, 22, 20, 21, 18, 17][i]? = some num) (hst : st = P31.idxOf num) : TabsOk (ts ++ [(lt, tv, c)]) := by
  intro j t hj
  by_cases hjl : j < ts.length
  · rw [List.getElem?_append_left hjl] at hj
    exact h j t hj
  · have hj2 := (List.getElem?_eq_some_iff.mp hj).1
    simp at hj2
    have e : j = i := by omega
    subst e
    rw [List.getElem?_append_right (by omega), hl, Nat.sub_self] at hj
    simp at hj
    subst hj
    have e2 : nums6.getD j 0 = num := by
      rw [List.getD_eq_getElem?_getD]
      show ([29, 22, 20, 21, 18, 17][j]?).getD 0 = num
      rw [hn]
      rfl
    show IntsAre tv (tabN (nums6.getD j 0))
    rw [e2]
    unfold tabN
    rw [← hst]
    exact hv
local macro_rules | `(tactic| ktr_unf) => `(tactic| repeat' ((fail_if_success (with_reducible show wpAny _ _ (PySem.exec (PySem.Stmt.While _ _ _ _) _) _ _ _)); (fail_if_success (with_reducible show wpAny _ _ (PySem.exec (PySem.Stmt.For _ _ _ _ _) _) _ _ _)); (fail_if_success (with_reducible show wpAny _ _ (PySem.eval (PySem.Expr.ListComp _ _ _ _) _) _ _ _)); (fail_if_success (with_reducible show wpAny _ _ (PySem.call (Value.ref _) _) _ _ _)); first | (k_unfold; (try dsimp only)) | (k_end; wrow_close) | walk1 | (dsimp only; walk1) | (leave1; walk_say "STEP leave1"; try dsimp only) | fail "no step"))
local macro_rules | `(tactic| ktr_rel) => `(tactic| ((refine wpAny_call ?_); k_dflt (refine' enter ?k1 ?k2 ?k3 ?k4 ?k5 ?kA ?kF ?kK ?k6 ?k7 ?k8 ?k9 ?kB ?c2 ?c3 ?c4 ?c5 ?_; (case kA => exact rfl); (case kF => exact rfl); (case kK => assumption); (case k1 => k_asm); (case k2 => k_asm); (case k3 => k_asm); (case k4 => k_asm); (case k5 => k_asm); (case k6 => k_is); (case k7 => k_is); (case k8 => ktr_room); (case k9 => exact BindsTo.of_eq rfl); (case c5 => decide); (case kB => exact locs rfl); (case c2 => exact rfl); (case c3 => exact rfl); (case c4 => exact rfl))))

set_option maxRecDepth 100000 in
set_option maxHeartbeats 4000000 in
theorem con_tables {w : World} {p : Program} {loose : List Str} {mean : ExcName → Option Value} {mg mb : Str → Option Value} {dp un : Nat} {gd : Option (List Code)} {cn : Str} {cs : Scope} {a : Addr} {ccd : Value} {cl : List (Str × Addr)} {outer : List Env} {A₀ : Around} {base h₀ : Heap} {L : Addr} {m : Str → Option Value} {news : List (Addr × Obj)} {s : Shared}
    {Q E : Value → Shared → Prop} {l : Addr} {vs : List Value} {nn : Nat}
    (B : Below A₀ base outer h₀) (F : Fr h₀ L s.heap m) (X : (Mine.hd.heap_39 w.params).In h₀) (N : News h₀ L s.heap news) (T : Top p loose mean mg mb h₀) (hk : cs.kind = .function) (hd : dp + 1 < recursionLimit)
    (hl : (l, listOf vs.toArray nn) ∈ news) (hi : IntsAre vs [29, 22, 20, 21, 18, 17]) 
    (hret : ∀ D ts ct h' tk', ts.length = 6 → TabsOk ts → Fr h₀ L h' m → News h₀ L h' ((D, listOf (ts.map (fun t => Value.ref t.1)).toArray ct) :: (ts.map tEnt ++ news)) → (∀ p ∈ news, p.1 < D) → (∀ t ∈ ts, ∀ p ∈ news, p.1 < t.1) → Q (.ref D) { s with heap := h', toks := tk' }) :
    wpAny (model PySem.Challenge.rw_oo0002_01.row.prog w) (ktrTop dp un gd cn cs L a ccd cl outer) (call (.ref 54) [.ref l]) Q E s := by
  w_top off
  revert X; k_fill; intro X
  k_with_none
  ktr_rel
  intro g' L' h' FG' F' N' B' X' T' lt'
  dsimp only
  obtain ⟨u, F2⟩ := fr_cut F' [(Str.ofString "numbers", .ref l)] (by kst_all1)
  clear F'
  dsimp only [kstB] at F2
  k_unmd
  k_fold
  ktr_unf
  (rename Fr _ _ _ _ => F3); (rename News _ _ _ _ => N3)
  rename_i lP hp1 lltP hp2
  refine While_my (fun (c : Nat × List Value × Nat) m nx => 1 ≤ c.1 ∧ c.1 ≤ 31 ∧ nx = (lP, listOf c.2.1.toArray c.2.2) :: news ∧ IntsAre c.2.1 (P31.take c.1) ∧
    ∀ p ∈ [(Str.ofString "powers", Value.ref lP), (Str.ofString "numbers", .ref l)], m p.1 = some p.2) (fun c => 31 - c.1)
    (1, [_], 0) F3 N3 ⟨(by dsimp only; omega), (by dsimp only; omega), rfl, .cons _ _ .nil, by kst_all1⟩ ?_
  rintro ⟨n, ps, cnt⟩ m₁ nx h₁ tk₁ F4 N4 ⟨hn1, hn2, hnx, hints, hps⟩
  dsimp only at hn1 hn2 hnx hints hps
  subst hnx
  obtain ⟨u2, F5⟩ := fr_cut F4 _ hps
  clear F4 hps F3 N3
  dsimp only [kstB] at F5
  have hlen := hints.length
  have hkst : KstMark := kstMark
  have hlen31 : P31.length = 31 := rfl
  have hpl : (P31.take n).length = n := by rw [List.length_take]; omega
  obtain ⟨pn, hpn⟩ : ∃ pn, pn = P31.take n := ⟨_, rfl⟩
  rw [← hpn] at hints hlen hpl
  k_unmd
  k_fold
  ktr_unf
  · (rename Fr _ _ _ _ => F6); (rename News _ _ _ _ => N6)
    simp only [List.push_toArray] at N6
    have hst := (pw_all ⟨n, by omega⟩ hn1).1
    dsimp only at hst
    rw [← hpn] at hst
    refine WPost.next ⟨(n + 1, ps ++ [_], cnt + 1), _, _, _, _, rfl, F6, N6, ⟨(by dsimp only; omega), (by dsimp only; omega), rfl, ?_, by kst_all1⟩, by dsimp only; omega⟩
    dsimp only
    rw [← hst (by assumption)]
    exact IntsAre.append hints (.cons _ _ .nil)
  · (rename Fr _ _ _ _ => F6); (rename News _ _ _ _ => N6)
    simp only [List.push_toArray] at N6
    have hst := (pw_all ⟨n, by omega⟩ hn1).2
    dsimp only at hst
    rw [← hpn] at hst
    refine WPost.next ⟨(n + 1, ps ++ [_], cnt + 1), _, _, _, _, rfl, F6, N6, ⟨(by dsimp only; omega), (by dsimp only; omega), rfl, ?_, by kst_all1⟩, by dsimp only; omega⟩
    dsimp only
    rw [← hst (by assumption)]
    exact IntsAre.append hints (.cons _ _ .nil)
  · (rename Fr _ _ _ _ => F6); (rename News _ _ _ _ => N6)
    have hn31 : n = 31 := by omega
    subst hn31
    rw [hpn] at hints

    rename_i lT hp3 lltT hp4
    obtain ⟨u3, F7⟩ := fr_cut F6 [(Str.ofString "tables", .ref lT), (Str.ofString "powers", .ref lP), (Str.ofString "numbers", .ref l)] (by kst_all1)
    clear F6
    with_unfolding_all refine For_loc g' ?k1 ?k2 ?k3 ?_
    case k1 => rfl
    case k2 => rfl
    case k3 => intro _; rfl
    k_unmd
    k_fold
    ktr_unf
    unfold Stop
    rw [show P31.take 31 = P31 from rfl] at hints
    have lltT1 : ∀ p ∈ news, p.1 < lT := kst_ltOf lltT.2
    have hnums := hi.length
    refine iter_led (vs := vs) (nn := nn) (fun i m nx => ∃ (ts : List (Addr × List Value × Nat)) (ct : Nat), ts.length = i ∧ nx = (lT, listOf (ts.map (fun t => Value.ref t.1)).toArray ct) :: (lP, listOf ps.toArray cnt) :: (ts.map tEnt ++ news) ∧ TabsOk ts ∧
      (∀ t ∈ ts, lT < t.1 ∧ ∀ p ∈ news, p.1 < t.1) ∧
      ∀ p ∈ [(Str.ofString "tables", Value.ref lT), (Str.ofString "powers", .ref lP), (Str.ofString "numbers", .ref l)], m p.1 = some p.2) rfl ?_ F7 N6 ⟨[], 0, rfl, rfl, by intro j t hj; simp at hj, by simp, by kst_all1⟩ ?_ ?_
    · rintro i m nx ⟨ts, ct, -, rfl, -⟩
      exact .tail _ (.tail _ (List.mem_append.mpr (.inr hl)))
    · rintro I i v m₂ nx h₂ tk₂ oi hi' hv ⟨ts, ct, htl, rfl, hok, hlts, hps⟩ hoff F8 N8
      obtain ⟨num, tn, hn, hvn⟩ := IntsAre.at hi i v hv
      subst hn
      have hnumP := num_mem hvn
      obtain ⟨u4, F9⟩ := fr_turn F8 hps (by rfl)
      clear F8 hps F7 N6
      dsimp only [kstB] at F9
      have hlay : PyData.layable0 (.list (P31.map .int)) = true := by decide +kernel
      k_unmd
      k_fold
      ktr_unf
      (rename Fr _ _ _ _ => F10); (rename News _ _ _ _ => N10); (rename IntsAre (List.replicate (Int.toNat 32) _).flatten _ => i10)
      rename_i lt hp5 _ _ _ _ _ llt hp6
      have hst31 : P31.idxOf num < 31 := List.idxOf_lt_length_of_mem hnumP
      obtain ⟨st, hst⟩ : ∃ st, st = P31.idxOf num := ⟨_, rfl⟩
      rw [← hst] at F10 hst31
      have hz0 : (List.replicate (Int.toNat 32) ([0] : List Int)).flatten = tabUp st 0 := rfl
      rw [hz0] at i10
      obtain ⟨u5, F11⟩ := fr_cut F10 [(Str.ofString "table", .ref lt), (Str.ofString "start", .int (st : Int) _), (Str.ofString "tables", .ref lT), (Str.ofString "powers", .ref lP), (Str.ofString "numbers", .ref l)] (by kst_all1)
      have N11 := news_drop N10 (rest := (I, oi) :: (lT, listOf (ts.map (fun t => Value.ref t.1)).toArray ct) :: (lP, listOf ps.toArray cnt) :: (ts.map tEnt ++ news)) (fun p hp => .tail _ hp)
      obtain ⟨tv0, j10, N12⟩ := ints_gen (P := fun tv => News g' L' hp6 ((lt, listOf tv.toArray 0) :: (I, oi) :: (lT, listOf (ts.map (fun t => Value.ref t.1)).toArray ct) :: (lP, listOf ps.toArray cnt) :: (ts.map tEnt ++ news))) i10 N11
      clear F10 F9 N10 N11 i10
      dsimp only [kstB] at F11
      with_unfolding_all refine For_loc g' ?k1 ?k2 ?k3 ?_
      case k1 => rfl
      case k2 => rfl
      case k3 => intro _; rfl
      k_unmd
      k_fold
      ktr_unf
      unfold Stop
      (rename Fr _ _ _ _ => F12); (rename News _ _ _ _ => N13); (rename IsRange _ _ _ _ _ _ _ _ => R9)

      refine iter_rng (n := 31) (fun j m nx => ∃ (tv : List Value) (tst : Tok), nx = (lt, listOf tv.toArray 0) :: (I, oi) :: (lT, listOf (ts.map (fun t => Value.ref t.1)).toArray ct) :: (lP, listOf ps.toArray cnt) :: (ts.map tEnt ++ news) ∧ IntsAre tv (tabUp st j) ∧
        ∀ p ∈ [(Str.ofString "table", Value.ref lt), (Str.ofString "start", .int (st : Int) tst), (Str.ofString "tables", .ref lT), (Str.ofString "powers", .ref lP), (Str.ofString "numbers", .ref l)], m p.1 = some p.2) rfl R9 (by decide) (by rfl) F12 N13 ⟨tv0, _, rfl, j10, by kst_all1⟩ ?_ ?_
      · rintro I2 j tj m₃ nx h₃ tk₃ oi2 hj ⟨tv, tst, rfl, itv, hps⟩ hoff2 G1 N14
        generalize hjv : (0 + (j : Int)) = jv at G1
        obtain ⟨u6, G2⟩ := fr_turn G1 hps (by rfl)
        clear G1 hps F12 N13 R9
        dsimp only [kstB] at G2
        have htu := tabUp_len st j
        obtain ⟨hp0, hp32⟩ := P31_bnd jv.toNat
        have hkst : KstMark := kstMark
        obtain ⟨tu, hTu⟩ : ∃ tu, tu = tabUp st j := ⟨_, rfl⟩
        rw [← hTu] at itv htu
        k_unmd
        k_fold
        ktr_unf
        have e1 : jv.toNat = j := by omega
        have e2 : (((st : Int) + jv).fmod 31).toNat = (st + j) % 31 := by
          rw [Int.fmod_eq_emod_of_nonneg _ (by decide)]
          omega
        have hrest : ∀ p ∈ (I, oi) :: (lT, listOf (ts.map (fun t => Value.ref t.1)).toArray ct) :: (lP, listOf ps.toArray cnt) :: (ts.map tEnt ++ news), p.1 < lt := kst_ltOf llt.2
        refine ksa_set G2 N14 (.tail (fun e => hoff2 _ (.head _) e.symm) (.head fun p hp => Nat.ne_of_lt (hrest p hp))) itv hp0 (by rw [htu]; exact hp32) (by omega) ?_
        rw [e2, e1, hTu]
        intro h4 G3 N15 i15 _ _
        ktr_unf
        (rename Fr _ _ _ _ => G4); (rename News _ _ _ _ => N16)
        exact TPost.next ⟨_, _, _, _, _, rfl, G4, N16, .head _, fun p hp => .tail _ hp, (fun p hp => by
          rcases List.mem_cons.mp hp with rfl | hp
          · show lt ≠ I2
            exact hoff2 (lt, _) (.head _)
          · exact hoff2 p (.tail _ hp)), _, _, rfl, i15, by kst_all1⟩
      · rintro m₃ nx h₃ tk₃ ⟨tv, tst, rfl, itv, hps⟩ G1 N14
        obtain ⟨u6, G2⟩ := fr_cut G1 _ hps
        clear G1 hps F12 N13 R9
        dsimp only [kstB] at G2
        dsimp only
        have hrest : ∀ p ∈ (I, oi) :: (lT, listOf (ts.map (fun t => Value.ref t.1)).toArray ct) :: (lP, listOf ps.toArray cnt) :: (ts.map tEnt ++ news), p.1 < lt := kst_ltOf llt.2
        have htsl : ts.length ≤ 6 := by rw [htl]; rw [hnums] at hi'; simp at hi'; omega
        ktr_unf
        have hrT : ∀ p ∈ (lP, listOf ps.toArray cnt) :: (ts.map tEnt ++ news), p.1 ≠ lT := by
          intro p hp
          rcases List.mem_cons.mp hp with rfl | hp
          · exact Nat.ne_of_lt lltT.1
          · rcases List.mem_append.mp hp with hp | hp
            · obtain ⟨t, ht, rfl⟩ := List.mem_map.mp hp
              exact Nat.ne_of_gt (hlts t ht).1
            · exact Nat.ne_of_lt (lltT1 p hp)
        refine append_K G2 N14 (.tail (Nat.ne_of_gt (hrest _ (.tail _ (.head _)))) (.tail (fun e => hoff _ (.head _) e.symm) (.head hrT))) ?_ (by rw [List.size_toArray, List.length_map, PySem.sizeLine_eq]; omega)
        intro h4 G3 N15
        ktr_unf
        (rename Fr _ _ _ _ => G4); (rename News _ _ _ _ => N16)
        have em : ts.map (fun t : Addr × List Value × Nat => Value.ref t.1) ++ [Value.ref lt] = (ts ++ [(lt, tv, 0)]).map (fun t : Addr × List Value × Nat => Value.ref t.1) := by simp
        simp only [List.push_toArray] at N16
        rw [em] at N16
        refine TPost.next ⟨_, _, _, _, _, rfl, G4, N16, .tail _ (.head _), ?_, ?_, ts ++ [(lt, tv, 0)], ct + 1, by simp [htl], rfl, tabs_snoc hok itv htl hvn hst, ?_, by kst_all1⟩
        · intro p hp
          rcases List.mem_cons.mp hp with rfl | hp
          · exact .tail _ (.tail _ (.head _))
          · rcases List.mem_cons.mp hp with rfl | hp
            · exact .tail _ (.tail _ (.tail _ (.head _)))
            · rw [List.map_append, List.append_assoc] at hp
              rcases List.mem_append.mp hp with hp | hp
              · exact .tail _ (.tail _ (.tail _ (.tail _ (List.mem_append.mpr (.inl hp)))))
              · rcases List.mem_cons.mp hp with rfl | hp
                · exact .head _
                · exact .tail _ (.tail _ (.tail _ (.tail _ (List.mem_append.mpr (.inr hp)))))
        · intro p hp
          rcases List.mem_cons.mp hp with rfl | hp
          · show lT ≠ I
            exact hoff (lT, _) (.head _)
          · rcases List.mem_cons.mp hp with rfl | hp
            · exact hoff (lP, _) (.tail _ (.head _))
            · rw [List.map_append, List.append_assoc] at hp
              rcases List.mem_append.mp hp with hp | hp
              · exact hoff p (.tail _ (.tail _ (List.mem_append.mpr (.inl hp))))
              · rcases List.mem_cons.mp hp with rfl | hp
                · exact Nat.ne_of_gt (hrest _ (.head _))
                · exact hoff p (.tail _ (.tail _ (List.mem_append.mpr (.inr hp))))
        · intro t ht
          rcases List.mem_append.mp ht with ht | ht
          · exact hlts t ht
          · rw [List.mem_singleton.mp ht]
            exact ⟨hrest _ (.tail _ (.head _)), fun p hp => hrest p (.tail _ (.tail _ (.tail _ (List.mem_append.mpr (.inr hp)))))⟩
    · rintro m₂ nx h₂ tk₂ ⟨ts, ct, htl, rfl, hok, hlts, hps⟩ F8 N8
      obtain ⟨u4, F9⟩ := fr_cut F8 _ hps
      clear F8 hps F7 N6
      dsimp only [kstB] at F9
      dsimp only
      rw [hnums] at htl
      ktr_unf
      (rename News _ _ _ _ => N16)
      exact hret _ _ _ _ _ (by simpa using htl) hok (by assumption) (news_drop N16 (fun p hp => .tail _ hp)) lltT1 (fun t ht => (hlts t ht).2)
end Mine
end
section
open PySem PySem.W PyProof.Rows PySem.Calls
namespace Mine
local macro_rules | `(tactic| ktr_unf) => `(tactic| repeat' ((fail_if_success (with_reducible show wpAny _ _ (PySem.exec (PySem.Stmt.While _ _ _ _) _) _ _ _)); (fail_if_success (with_reducible show wpAny _ _ (PySem.exec (PySem.Stmt.For _ _ _ _ _) _) _ _ _)); (fail_if_success (with_reducible show wpAny _ _ (PySem.eval (PySem.Expr.ListComp _ _ _ _) _) _ _ _)); (fail_if_success (with_reducible show wpAny _ _ (PySem.call (Value.ref _) _) _ _ _)); first | (k_unfold; (try dsimp only)) | (k_end; wrow_close) | walk1 | (dsimp only; walk1) | (leave1; walk_say "STEP leave1"; try dsimp only) | fail "no step"))
local macro_rules | `(tactic| ktr_rel) => `(tactic| ((refine wpAny_call ?_); k_dflt (refine' enter ?k1 ?k2 ?k3 ?k4 ?k5 ?kA ?kF ?kK ?k6 ?k7 ?k8 ?k9 ?kB ?c2 ?c3 ?c4 ?c5 ?_; (case kA => exact rfl); (case kF => exact rfl); (case kK => assumption); (case k1 => k_asm); (case k2 => k_asm); (case k3 => k_asm); (case k4 => k_asm); (case k5 => k_asm); (case k6 => k_is); (case k7 => k_is); (case k8 => ktr_room); (case k9 => exact BindsTo.of_eq rfl); (case c5 => decide); (case kB => exact locs rfl); (case c2 => exact rfl); (case c3 => exact rfl); (case c4 => exact rfl))))

set_option maxRecDepth 100000 in
set_option maxHeartbeats 4000000 in
theorem con_at {w : World} {p : Program} {loose : List Str} {mean : ExcName → Option Value} {mg mb : Str → Option Value} {dp un : Nat} {gd : Option (List Code)} {cn : Str} {cs : Scope} {a : Addr} {ccd : Value} {cl : List (Str × Addr)} {outer : List Env} {A₀ : Around} {base h₀ : Heap} {L : Addr} {m : Str → Option Value} {news : List (Addr × Obj)} {s : Shared}
    {Q E : Value → Shared → Prop} {l : Addr} {vs : List Value} {ns : List Int} {k z : Int} {t1 t2 : Tok}
    (B : Below A₀ base outer h₀) (F : Fr h₀ L s.heap m) (X : (Mine.hd.heap_39 w.params).In h₀) (N : News h₀ L s.heap news) (T : Top p loose mean mg mb h₀) (hk : cs.kind = .function) (hd : dp + 1 < recursionLimit)
    (hl : h₀.IsList l vs.toArray) (hi : IntsAre vs ns) (hlen : ns.length ≤ 100) (hk0 : 0 ≤ k)
    (hret : ∀ x t h' tk', Fr h₀ L h' m → News h₀ L h' news → Q (.int x t) { s with heap := h', toks := tk' }) :
    wpAny (model PySem.Challenge.rw_oo0002_01.row.prog w) (ktrTop dp un gd cn cs L a ccd cl outer) (call (.ref 40) [.ref l, .int k t1, .int z t2]) Q E s := by
  w_top off
  revert X; k_fill; intro X
  k_with_none
  ktr_rel
  intro g' L' h' FG' F' N' B' X' T' lt'
  dsimp only
  obtain ⟨u, F2⟩ := fr_cut F' [(Str.ofString "script", .ref l), (Str.ofString "k", .int k t1), (Str.ofString "other", .int z t2)] (by kst_all1)
  clear F'
  dsimp only [kstB] at F2
  have hlg : g'.IsList l vs.toArray := hl.at fun o e => FG'.keep l o e
  clear hl
  have hvl := hi.length
  k_unmd
  k_fold
  ktr_unf
  all_goals exact hret _ _ _ _ (by assumption) (by assumption)
end Mine
end
section
open PySem PySem.W PyProof.Rows PySem.Calls
namespace Mine
def bodyOf : Stmt → List Stmt
  | .FunctionDef (body := b) .. => b
  | _ => []
def scopeOf : Stmt → Scope
  | .FunctionDef (scope := sc) .. => sc
  | _ => { kind := .function, names := [], isGenerator := false, isCoroutine := false }
def lawStmt : Stmt := PySem.Challenge.pw_oo0002_01.main.body.getLastD (.Pass ⟨0, 0, 0, 0⟩)
def lawBody : List Stmt := bodyOf lawStmt
def lawScope : Scope := scopeOf lawStmt
theorem join_chars (cs : List Nat) : Txt.join (Str.ofString "") (cs.map fun c => (⟨#[c]⟩ : Str)) = ⟨cs.toArray⟩ := by
  unfold Txt.join
  rw [StrLaws.glued_eq_join, (by decide : Str.ofString "" = (⟨#[]⟩ : Str))]
  have h := join_nil_signs ⟨cs.toArray⟩
  unfold signs at h
  simpa using h
theorem join_call {prog : Program} {w : World} {A : Around} {E : Value → Shared → Prop} {s : Shared} {Q : Value → Shared → Prop} {D : Addr} {ys : List Value} {cs : List Nat} {t : Tok} (hl : s.heap.IsList D ys.toArray) (hi : StrsAre ys (cs.map fun c => (⟨#[c]⟩ : Str))) (hn : cs.length ≤ 1000)
    (h : ∀ t' k, Q (.str ⟨cs.toArray⟩ t') { s with toks := k }) : wpAny (model prog w) A (call (.builtin "str.join") [.str (Str.ofString "") t, .ref D]) Q E s := by
  refine join_list hl (by simpa using hi) ?_ fun t' k => ?_
  · have e1 : ((cs.map fun c => (⟨#[c]⟩ : Str)).map (·.length)).sum = cs.length := by
      rw [List.map_map]
      have : ((fun x : Str => x.length) ∘ fun c : Nat => (⟨#[c]⟩ : Str)) = fun _ => 1 := rfl
      rw [this, List.map_const', List.sum_replicate_nat]
      omega
    have e2 : (Str.ofString "").length = 0 := by decide
    rw [e1, e2]
    omega
  · rw [join_chars]
    exact h t' k
abbrev SetH (s : Shared) (h : Heap) (tk : Nat) : Shared := { s with heap := h, toks := tk }
end Mine
end
section
open PySem PySem.W PyProof.Rows PySem.Calls PyProof.Rows.LCg
namespace Mine
local macro_rules | `(tactic| ktr_unf) => `(tactic| repeat' ((fail_if_success (with_reducible show wpAny _ _ (PySem.exec (PySem.Stmt.While _ _ _ _) _) _ _ _)); (fail_if_success (with_reducible show wpAny _ _ (PySem.exec (PySem.Stmt.For _ _ _ _ _) _) _ _ _)); (fail_if_success (with_reducible show wpAny _ _ (PySem.execs (PySem.Stmt.For _ _ _ _ _ :: _) _) _ _ _)); (fail_if_success (with_reducible show wpAny _ _ (PySem.eval (PySem.Expr.ListComp _ _ _ _) _) _ _ _)); (fail_if_success (with_reducible show wpAny _ _ (PySem.exec (PySem.Stmt.Assign _ (PySem.Expr.ListComp _ _ _ _) _) _) _ _ _)); (fail_if_success (with_reducible show wpAny _ _ (PySem.call (Value.ref _) _) _ _ _)); first | (k_unfold; (try dsimp only)) | (k_end; wrow_close) | walk1 | (dsimp only; walk1) | (leave1; walk_say "STEP leave1"; try dsimp only) | fail "no step"))
local macro_rules | `(tactic| walk_at "eval Call Name") => `(tactic| ((with_reducible show wpAny _ _ (eval (PySem.Expr.Call (PySem.Expr.Name "_law_at" _) _ _ _) _) _ _ _); refine Call_ ?_))
/-- the readable part: one to eight signs from 33 to 126 -/
def ReadOk (x : Str) : Prop := 1 ≤ x.cps.size ∧ x.cps.size ≤ 8 ∧ ∀ c ∈ x.cps.toList, 33 ≤ c ∧ c < 127

set_option maxRecDepth 100000 in
set_option maxHeartbeats 4000000 in
theorem seg0 {w : World} {p : Program} {loose : List Str} {mean : ExcName → Option Value} {mg mb : Str → Option Value} {dp un : Nat} {gd : Option (List Code)} {a : Addr} {ccd : Value} {A₀ : Around} {base H : Heap} {L : Addr} {s : Shared} {Q : Flow → Shared → Prop} {sc : Scope} {body rest : List Stmt}
    (hsc : lawScope = sc) (B : Below A₀ base [] H) (X : (Mine.hd.heap_39 w.params).In H) (T : Top p loose mean mg mb H) (hd : dp + 5 < recursionLimit) {m : Str → Option Value} {l : Addr} {vs : List Value} {ns : List Int} {cells : List (Addr × Obj)}
    (hb : lawBody = body) (hr : lawBody.drop 2 = rest)
    (hl : H.IsList l vs.toArray) (hi : IntsAre vs ns) (hlen : ns.length ≤ 63)
    (F : Fr H L s.heap m) (hm : m (Str.ofString "script") = some (.ref l)) (N : News H L s.heap cells)
    (next : ∀ u x t lr h tk, ReadOk x → (∀ p ∈ cells, p.1 < lr) → Fr H L h (kstB u [(Str.ofString "script", .ref l), (Str.ofString "readable", .str x t), (Str.ofString "row", .ref lr)]) → News H L h ((lr, listOf #[] 0) :: cells) → wpAny (model PySem.Challenge.rw_oo0002_01.row.prog w) (ktrTop dp un gd (Str.ofString "law") sc L a ccd (cellsFrom (L + 1) sc.names []) []) (execs rest (envX (Str.ofString "law") sc L a ccd (cellsFrom (L + 1) sc.names []))) Q (fun _ _ => False) (SetH s h tk)) :
    wpAny (model PySem.Challenge.rw_oo0002_01.row.prog w) (ktrTop dp un gd (Str.ofString "law") sc L a ccd (cellsFrom (L + 1) sc.names []) []) (execs body (envX (Str.ofString "law") sc L a ccd (cellsFrom (L + 1) sc.names []))) Q (fun _ _ => False) s := by
  w_top off
  revert X; k_fill; intro X
  k_with_none
  conv at hb =>
    lhs
    whnf
  conv at hr =>
    lhs
    whnf
  conv at hsc =>
    lhs
    whnf
  dsimp only at hsc
  subst hb
  subst hr
  subst hsc
  obtain ⟨u, F2⟩ := fr_cut F [(Str.ofString "script", .ref l)] (fun p hp => by rw [List.mem_singleton.mp hp]; exact hm)
  clear F hm
  dsimp only [kstB] at F2

  ktr_unf
  refine comp_U F2 (by rfl) (by decide) (by rfl) (by decide) (by rfl) (by intro _; rfl) ?_
  k_unmd
  ktr_unf
  refine con_at B F2 X N T rfl (by ktr_room) hl hi (by omega) (by decide) ?_
  intro z1 t1 h1 tk1 F3 N3
  ktr_unf
  refine con_digits B F3 X N3 T rfl (by ktr_room) (by decide) (by decide) (by decide) (by decide) ?_
  intro D ds dvs c h2 tk2 ids hd1 hd2 hd3 F4 N4 hlt
  ktr_unf
  unfold Stop
  have hdl := ids.length
  refine CompSrc.ledger rfl F4 N4 (.head _) (by rw [List.size_toArray, PySem.sizeLine_eq]; omega) ?_
  intro g9
  refine rest_of (fun i y => ∃ t : Tok, y = .str ⟨#[(33 + ds.getD i 0).toNat]⟩ t) (.inr ⟨_, .head _, rfl, _, rfl⟩) ?turn ?fin
  case turn =>
    intro i v I oI C oC Dd m₂ ys h tk hi9 hv hC hx F5 N5 off ne
    obtain ⟨d, td, hd4, hd5⟩ := IntsAre.at ids i v (by simpa using hv)
    subst hd4
    have hd6 := hd3 d (List.mem_of_getElem? hd5)
    k_unmd
    k_fold
    ktr_unf
    exact ⟨⟨_, by rw [List.getD_eq_getElem?_getD, hd5]; rfl⟩, _, _, rfl, F5, N5⟩
  case fin =>
    intro ys hyl hG
    unfold FinE
    intro D2 h3 tk3 F5 N5 o1
    ktr_unf
    have hst := strs_of hG
    have e1 : (List.range ys.length).map (fun i => (⟨#[(33 + ds.getD i 0).toNat]⟩ : Str)) = ((List.range ys.length).map (fun i => (33 + ds.getD i 0).toNat)).map (fun c => (⟨#[c]⟩ : Str)) := by rw [List.map_map]; rfl
    rw [e1] at hst
    rw [List.size_toArray] at hyl
    refine join_call ⟨_, (N5 _ (.head _)).1, rfl, _, rfl⟩ hst (by rw [List.length_map, List.length_range]; omega) ?_
    intro t' k
    ktr_unf
    (rename Fr _ _ _ _ => F6); (rename News _ _ _ _ => N6)
    rename_i lr _ lltr _
    obtain ⟨u6, F7⟩ := fr_cut F6 [(Str.ofString "script", .ref l), (Str.ofString "readable", .str ⟨((List.range ys.length).map (fun i => (33 + ds.getD i 0).toNat)).toArray⟩ t'), (Str.ofString "row", .ref lr)] (by kst_all1)
    refine next u6 _ t' lr _ _ ?_ (kst_ltOf lltr.2.2) F7 (news_drop N6 (fun p hp => .tail _ (.tail _ hp)))
    refine ⟨by simp; omega, by simp; omega, fun c hc => ?_⟩
    simp only [List.toList_toArray, List.mem_map, List.mem_range] at hc
    obtain ⟨i, hi9, rfl⟩ := hc
    have hil : i < ds.length := by omega
    have hdi := hd3 (ds.getD i 0) (by rw [List.getD_eq_getElem?_getD, List.getElem?_eq_getElem hil]; exact List.getElem_mem _)
    omega
end Mine
end
section
open PySem PySem.W PyProof.Rows PySem.Calls
namespace Mine
def CEnd (h₀ : Heap) (L : Addr) (J : (Str → Option Value) → List (Addr × Obj) → Prop) (I c : Addr) (oi : Obj) (s₁ s₂ : Shared) : Prop :=
  ∃ h' tk m' news' nx oc v', s₂ = { s₁ with heap := h', toks := tk } ∧ Fr h₀ L h' m' ∧ News h₀ L h' news' ∧ (I, oi) ∈ news' ∧ (c, oc) ∈ news' ∧ oc.data = .cell v' ∧ (∀ p ∈ nx, p ∈ news') ∧ (∀ p ∈ nx, p.1 ≠ I ∧ p.1 ≠ c) ∧ J m' nx
def CPost (h₀ : Heap) (L : Addr) (J : (Str → Option Value) → List (Addr × Obj) → Prop) (I c : Addr) (oi : Obj) (s₁ : Shared) (Q : Flow → Shared → Prop) (f : Flow) (s₂ : Shared) : Prop :=
  match f with
  | .ret v => Q (.ret v) s₂
  | .brk => Q .next s₂
  | _ => CEnd h₀ L J I c oi s₁ s₂
theorem CPost.next {h₀ : Heap} {L : Addr} {J : (Str → Option Value) → List (Addr × Obj) → Prop} {I c : Addr} {oi : Obj} {s₁ s₂ : Shared} {Q : Flow → Shared → Prop} (h : CEnd h₀ L J I c oi s₁ s₂) : CPost h₀ L J I c oi s₁ Q .next s₂ := h

section
variable {prog : Program} {w : World} {A : Around} {s : Shared} {env : Env} {h₀ : Heap} {x : Str} {body : List Stmt} {Q : Flow → Shared → Prop} {L c : Addr}
def CLoop (prog : Program) (w : World) (A : Around) (h₀ : Heap) (L c : Addr) (env : Env) (body : List Stmt) (Q : Flow → Shared → Prop) (xv : Value) (s₁ : Shared) : Prop :=
  ∃ (l : Addr) (vs : List Value) (nn : Nat) (m : Str → Option Value) (nx : List (Addr × Obj)) (oc : Obj) (v₀ : Option Value) (J : Nat → (Str → Option Value) → List (Addr × Obj) → Prop),
    xv = .ref l ∧ A.handled = none ∧ Fr h₀ L s₁.heap m ∧ News h₀ L s₁.heap ((c, oc) :: nx) ∧ oc.data = .cell v₀ ∧ (∀ p ∈ nx, p.1 ≠ c) ∧ J 0 m nx ∧ (∀ i m nx, J i m nx → (l, listOf vs.toArray nn) ∈ nx) ∧
    (∀ I i v m₁ nx h tk oi oc, i < vs.length → vs[i]? = some v → J i m₁ nx → (∀ p ∈ nx, p.1 ≠ I ∧ p.1 ≠ c) → I ≠ c → oc.data = .cell (some v) → Fr h₀ L h m₁ → News h₀ L h ((I, oi) :: (c, oc) :: nx) →
      wpAny (model prog w) A (execs body env) (CPost h₀ L (J (i + 1)) I c oi { s₁ with heap := h, toks := tk } Q) (fun _ _ => False) { s₁ with heap := h, toks := tk }) ∧
    (∀ m₁ nx h tk oc v', J vs.length m₁ nx → Fr h₀ L h m₁ → News h₀ L h ((c, oc) :: nx) → oc.data = .cell v' → (∀ p ∈ nx, p.1 ≠ c) → Q .next { s₁ with heap := h, toks := tk })

theorem st_cell {x : Str} {o : Obj} {v : Value} {v₀ : Option Value} {m : Str → Option Value} {news : List (Addr × Obj)} {E : Value → Shared → Prop} {Q : Unit → Shared → Prop} (others : List (Addr × Obj)) (F : Fr h₀ L s.heap m) (N : News h₀ L s.heap news) (hc : env.cells.lookup x = some c) (hm : (c, o) ∈ news) (hd : o.data = .cell v₀)
    (ho : ∀ p ∈ others, p ∈ news ∧ @Ne Nat p.1 c)
    (h : ∀ h' o', o'.data = .cell (some v) → Fr h₀ L h' m → News h₀ L h' ((c, o') :: others) → Q () { s with heap := h' })
    (hk : env.scope.kind = .function := by rfl) (hx : env.kindOf x = some .cell := by rfl) : wpAny (model prog w) A (storeName env x v) Q E s := by
  have hz := N _ hm
  refine wpAny_storeName_cell hk hx hc ⟨o, hz.1, hd⟩ fun h' hv hs => ?_
  obtain ⟨o', ho', hd'⟩ := hv
  refine h h' o' hd' (F.change hs hz.2.1 hz.2.2) fun p hp => ?_
  rcases List.mem_cons.mp hp with rfl | hp
  · exact ⟨ho', hz.2⟩
  · have h9 := N p (ho p hp).1
    exact ⟨hs.extBut _ _ (ho p hp).2 h9.1, h9.2⟩
theorem For_cell {px pos : Pos} {iter : Expr} (h₀ : Heap) (hk : env.scope.kind = .function) (hx : env.kindOf x = some .cell) (hc : env.cells.lookup x = some c)
    (hs : ∀ x, foldedSetIterable iter env x = pure x)
    (h : wpAny (model prog w) A (eval iter env) (fun xv s₁ => Stop (CLoop prog w A h₀ L c env body Q xv s₁)) (fun _ _ => False) s) :
    wpAny (model prog w) A (exec (.For (.Name x px) iter body [] pos) env) Q (fun _ _ => False) s := by
  refine wpAny_For (wpAny_mono h (fun xv s₁ h₁ => ?_) fun _ _ e => e) hs
  obtain ⟨l, vs, nn, m, nx, oc, v₀, J, rfl, hh, F, N, hd, hnc, hj, hJl, turn, done⟩ := h₁
  have hm := N (l, listOf vs.toArray nn) (.tail _ (hJl _ _ _ hj))
  have hls : s₁.heap.IsList l vs.toArray := ⟨_, hm.1, rfl, nn, rfl⟩
  have hlt : l < s₁.heap.objs.size := Heap.lt_size hm.1
  refine wpAny_pyIter_list hls ?_
  have hI0' : h₀.get? s₁.heap.objs.size = none := next_is_new F
  have hIL' : s₁.heap.objs.size ≠ L := Nat.ne_of_gt F.ns.lt
  obtain ⟨I, hI⟩ : ∃ I, s₁.heap.objs.size = I := ⟨_, rfl⟩
  have W := Walks.list (prog := prog) (w := w) hh I l (by rw [← hI]; exact Nat.ne_of_lt hlt) vs.toArray
  rw [List.size_toArray] at W
  have hI0 : h₀.get? I = none := by rw [← hI]; exact hI0'
  have hIL : I ≠ L := by rw [← hI]; exact hIL'
  rw [hI]
  have hcI : I ≠ c := by
    have := Heap.lt_size (N (c, oc) (.head _)).1
    rw [hI] at this
    exact Nat.ne_of_gt this
  refine codeAny_forLoop (fun k s' => ∃ h tk i m nx oi oc v', s' = { s₁ with heap := h, toks := tk } ∧ (h.IsListIter I l i ∧ h.IsList l vs.toArray) ∧ Fr h₀ L h m ∧ News h₀ L h ((I, oi) :: (c, oc) :: nx) ∧ oc.data = .cell v' ∧ (∀ p ∈ nx, p.1 ≠ I ∧ p.1 ≠ c) ∧ J i m nx ∧ i ≤ vs.length ∧ k = vs.length + 1 - i) ?_ (vs.length + 1)
    ⟨s₁.heap.push { cls := .type "list_iterator", data := .fields #[.ref l, .int 0 0] }, s₁.toks, 0, m, nx, { cls := .type "list_iterator", data := .fields #[.ref l, .int 0 0] }, oc, v₀, rfl, ⟨⟨_, by rw [← hI]; exact Heap.get?_push_size _ rfl, rfl, rfl⟩, hls.at fun o e => Heap.get?_push_of_some _ e⟩, F.push _, ?_, hd, fun p hp => ⟨?_, hnc p hp⟩, hj, Nat.zero_le _, rfl⟩
  · rintro k s' ⟨h', tk, i, m', nx', oi, oc', v', rfl, hst, F', N', hd', hoff, hJ, hi, rfl⟩
    have keepL : ∀ (h₁ : Heap), (∀ b o, b ∉ [I] → h'.get? b = some o → h₁.get? b = some o) → Fr h₀ L h₁ m' ∧ News h₀ L h₁ ((c, oc') :: nx') := fun h₁ hk₁ =>
      ⟨⟨F'.ns.at' fun o e => hk₁ _ o (fun q => hIL (List.mem_singleton.mp q).symm) e, fun b o e => hk₁ b o (fun q => by rw [List.mem_singleton.mp q, hI0] at e; cases e) (F'.keep b o e), F'.above⟩, fun p hp => by
        have hz := N' p (.tail _ hp)
        refine ⟨hk₁ _ _ (fun q => ?_) hz.1, hz.2⟩
        have e := List.mem_singleton.mp q
        rcases List.mem_cons.mp hp with rfl | hp
        · exact hcI e.symm
        · exact (hoff p hp).1 e⟩
    by_cases hlt : i < vs.length
    · refine W.item i _ _ _ hlt hst fun v h₁ tk₁ hP hst₁ hk₁ => ?_
      obtain ⟨F₁, N₁⟩ := keepL h₁ hk₁
      obtain ⟨o₁, ho₁, hod₁⟩ := hst₁.1
      have hPc := (N₁ (c, oc') (.head _)).1
      refine wpAny_assign_Name (wpAny_storeName_cell hk hx hc ⟨oc', hPc, hd'⟩ fun h₂ hv hs₂ => ?_)
      obtain ⟨oc₂, hoc₂, hd₂⟩ := hv
      have hc0 := (N₁ (c, oc') (.head _)).2
      have F₂ : Fr h₀ L h₂ m' := F₁.change hs₂ hc0.1 hc0.2
      have hI₂ : h₂.get? I = some o₁ := hs₂.extBut _ _ hcI ho₁
      have N₂ : News h₀ L h₂ ((I, o₁) :: (c, oc₂) :: nx') := fun p hp => by
        rcases List.mem_cons.mp hp with rfl | hp
        · exact ⟨hI₂, hIL, hI0⟩
        · rcases List.mem_cons.mp hp with rfl | hp
          · exact ⟨hoc₂, hc0⟩
          · have hz := N₁ p (.tail _ hp)
            exact ⟨hs₂.extBut _ _ (hoff p hp).2 hz.1, hz.2⟩
      refine wpAny_noRaise (wpAny_mono (turn I i v m' nx' h₂ tk₁ o₁ oc₂ hlt (by simpa using hP) hJ hoff hcI hd₂ F₂ N₂) (fun f s₃ h₃ => ?_) fun _ _ e => e)
      have fin : CEnd h₀ L (J (i + 1)) I c o₁ { s₁ with heap := h₂, toks := tk₁ } s₃ → ∃ mm, mm < vs.length + 1 - i ∧ ∃ h tk i m nx oi oc v', s₃ = { s₁ with heap := h, toks := tk } ∧ (h.IsListIter I l i ∧ h.IsList l vs.toArray) ∧ Fr h₀ L h m ∧ News h₀ L h ((I, oi) :: (c, oc) :: nx) ∧ oc.data = .cell v' ∧ (∀ p ∈ nx, p.1 ≠ I ∧ p.1 ≠ c) ∧ J i m nx ∧ i ≤ vs.length ∧ mm = vs.length + 1 - i := by
        rintro ⟨h₄, tk₄, m₄, news₄, nx₄, oc₄, v₄, e, F₄, N₄, hI₄, hc₄, hd₄, hn₄, ho₄, hJ₄⟩
        refine ⟨vs.length + 1 - (i + 1), by omega, h₄, tk₄, i + 1, m₄, nx₄, o₁, oc₄, v₄, e, ⟨⟨o₁, (N₄ _ hI₄).1, hod₁⟩, ⟨_, (N₄ _ (hn₄ _ (hJl _ _ _ hJ₄))).1, rfl, nn, rfl⟩⟩, F₄, fun p hp => ?_, hd₄, ho₄, hJ₄, hlt, rfl⟩
        rcases List.mem_cons.mp hp with rfl | hp
        · exact N₄ _ hI₄
        · rcases List.mem_cons.mp hp with rfl | hp
          · exact N₄ _ hc₄
          · exact N₄ _ (hn₄ p hp)
      cases f with
      | ret v => exact h₃
      | brk => exact h₃
      | cont => exact fin h₃
      | next => exact fin h₃
    · have hin : i = vs.length := by omega
      subst hin
      refine W.done _ _ _ hst fun h₁ tk₁ hk₁ => wpAny_execs_nil ?_
      obtain ⟨F₁, N₁⟩ := keepL h₁ hk₁
      exact done m' nx' h₁ tk₁ oc' v' hJ F₁ N₁ hd' fun p hp => (hoff p hp).2
  · intro p hp
    rcases List.mem_cons.mp hp with rfl | hp
    · exact ⟨by rw [← hI]; exact Heap.get?_push_size _ rfl, hIL, hI0⟩
    · exact ⟨Heap.get?_push_of_some _ (N p hp).1, (N p hp).2⟩
  · rw [← hI]
    exact Nat.ne_of_lt (Heap.lt_size (N p (.tail _ hp)).1)
end
end Mine
end
section
open PySem PySem.W PyProof.Rows PySem.Calls PyProof.Rows.LCg
namespace Mine
local macro_rules | `(tactic| ktr_unf) => `(tactic| repeat' ((fail_if_success (with_reducible show wpAny _ _ (PySem.exec (PySem.Stmt.While _ _ _ _) _) _ _ _)); (fail_if_success (with_reducible show wpAny _ _ (PySem.exec (PySem.Stmt.For _ _ _ _ _) _) _ _ _)); (fail_if_success (with_reducible show wpAny _ _ (PySem.execs (PySem.Stmt.For _ _ _ _ _ :: _) _) _ _ _)); (fail_if_success (with_reducible show wpAny _ _ (PySem.eval (PySem.Expr.ListComp _ _ _ _) _) _ _ _)); (fail_if_success (with_reducible show wpAny _ _ (PySem.exec (PySem.Stmt.Assign _ (PySem.Expr.ListComp _ _ _ _) _) _) _ _ _)); (fail_if_success (with_reducible show wpAny _ _ (PySem.call (Value.ref _) _) _ _ _)); first | (k_unfold; (try dsimp only)) | (k_end; wrow_close) | walk1 | (dsimp only; walk1) | (leave1; walk_say "STEP leave1"; try dsimp only) | fail "no step"))
local macro_rules | `(tactic| walk_at "eval Call Name") => `(tactic| ((with_reducible show wpAny _ _ (eval (PySem.Expr.Call (PySem.Expr.Name "_law_at" _) _ _ _) _) _ _ _); refine Call_ ?_))
abbrev cells5 (L : Addr) (o2 o3 o4 o5 o6 : Obj) : List (Addr × Obj) := [(L + 1 + 1 + 1 + 1 + 1 + 1, o6), (L + 1 + 1 + 1 + 1 + 1, o5), (L + 1 + 1 + 1 + 1, o4), (L + 1 + 1 + 1, o3), (L + 1 + 1, o2)]
def LtA (a b : Nat) : Prop := a < b
def Up (L b : Nat) : Prop := L + 6 < b
def RowOk (rns : List Int) : Prop := rns.length ≤ 60 ∧ ∀ v ∈ rns, 0 ≤ v ∧ v < 32

set_option maxRecDepth 100000 in
set_option maxHeartbeats 4000000 in
theorem seg1 {w : World} {p : Program} {loose : List Str} {mean : ExcName → Option Value} {mg mb : Str → Option Value} {dp un : Nat} {gd : Option (List Code)} {a : Addr} {ccd : Value} {A₀ : Around} {base H : Heap} {L : Addr} {s : Shared} {Q : Flow → Shared → Prop} {sc : Scope} {body rest : List Stmt}
    (hsc : lawScope = sc) (B : Below A₀ base [] H) (X : (Mine.hd.heap_39 w.params).In H) (T : Top p loose mean mg mb H) (hd : dp + 5 < recursionLimit) {m : Str → Option Value} {l lr : Addr} {vs : List Value} {ns : List Int} {x : Str} {tx : Tok} {o1 o2 o3 o4 o5 o6 : Obj} {v1 : Option Value}
    (hb : lawBody.drop 2 = body) (hr : lawBody.drop 3 = rest)
    (hl : H.IsList l vs.toArray) (hi : IntsAre vs ns) (hlen : ns.length ≤ 63)
    (F : Fr H L s.heap m) (hm : ∀ p ∈ [(Str.ofString "script", Value.ref l), (Str.ofString "readable", .str x tx), (Str.ofString "row", .ref lr)], m p.1 = some p.2)
    (N : News H L s.heap ((lr, listOf #[] 0) :: (cells5 L o2 o3 o4 o5 o6 ++ [(L + 1, o1)]))) (hlr : Up L lr) (hd1 : o1.data = .cell v1)
    (next : ∀ u lr rv rns rc o1 v1 h tk, IntsAre rv rns → RowOk rns → Up L lr → o1.data = .cell v1 → Fr H L h (kstB u [(Str.ofString "script", Value.ref l), (Str.ofString "readable", .str x tx), (Str.ofString "row", .ref lr)]) →
      News H L h ((lr, listOf rv.toArray rc) :: (cells5 L o2 o3 o4 o5 o6 ++ [(L + 1, o1)])) → wpAny (model PySem.Challenge.rw_oo0002_01.row.prog w) (ktrTop dp un gd (Str.ofString "law") sc L a ccd (cellsFrom (L + 1) sc.names []) []) (execs rest (envX (Str.ofString "law") sc L a ccd (cellsFrom (L + 1) sc.names []))) Q (fun _ _ => False) (SetH s h tk)) :
    wpAny (model PySem.Challenge.rw_oo0002_01.row.prog w) (ktrTop dp un gd (Str.ofString "law") sc L a ccd (cellsFrom (L + 1) sc.names []) []) (execs body (envX (Str.ofString "law") sc L a ccd (cellsFrom (L + 1) sc.names []))) Q (fun _ _ => False) s := by
  w_top off
  revert X; k_fill; intro X
  k_with_none
  conv at hb =>
    lhs
    whnf
  conv at hr =>
    lhs
    whnf
  conv at hsc =>
    lhs
    whnf
  dsimp only at hsc
  subst hb
  subst hr
  subst hsc
  obtain ⟨u, F2⟩ := fr_cut F _ hm
  clear F hm
  dsimp only [kstB] at F2
  have hlv := hi.length
  dsimp only [cells5, List.cons_append, List.nil_append] at N
  refine wpAny_execs_cons ?_
  with_unfolding_all refine For_cell (L := L) (c := L + 1) H ?k1 ?k2 ?k3 ?k4 ?_
  case k1 => rfl
  case k2 => rfl
  case k3 => rfl
  case k4 => intro _; rfl
  k_unmd
  k_fold
  have main : ∀ (lS : Addr) (sv : List Value) (sns : List Int) (h : Heap) (tk : Nat), IntsAre sv sns → LtA lr lS → Fr H L h (fun z => if z = Str.ofString "script" then some (Value.ref l) else if z = Str.ofString "readable" then some (Value.str x tx) else if z = Str.ofString "row" then some (Value.ref lr) else u z) →
      News H L h ((lS, listOf sv.toArray 0) :: (lr, listOf #[] 0) :: (cells5 L o2 o3 o4 o5 o6 ++ [(L + 1, o1)])) → qk (.ref lS) (SetH s h tk) := by
    intro lS sv sns h tk hsv hlS F3 N3
    k_unfold
    k_unmd
    unfold Stop
    refine ⟨lS, sv, 0, _, (lS, listOf sv.toArray 0) :: (lr, listOf #[] 0) :: cells5 L o2 o3 o4 o5 o6, o1, v1, fun i m nx => ∃ (lr : Addr) (rv : List Value) (rns : List Int) (rc : Nat), nx = (lS, listOf sv.toArray 0) :: (lr, listOf rv.toArray rc) :: cells5 L o2 o3 o4 o5 o6 ∧ IntsAre rv rns ∧ RowOk rns ∧ Up L lr ∧ @Ne Nat lS lr ∧ Up L lS ∧
        ∀ p ∈ [(Str.ofString "script", Value.ref l), (Str.ofString "readable", .str x tx), (Str.ofString "row", .ref lr)], m p.1 = some p.2, rfl, rfl, F3, ?_, hd1, ?_, ⟨lr, [], [], 0, rfl, .nil, ⟨by simp, by simp⟩, hlr, Nat.ne_of_gt hlS, by (unfold Up LtA at *; omega), by kst_all1⟩, ?_, ?_, ?_⟩
    · intro p hp
      refine N3 p ?_
      simp only [cells5, List.cons_append, List.nil_append, List.mem_cons, List.not_mem_nil, or_false] at hp ⊢
      rcases hp with h | h | h | h | h | h | h | h <;> simp [h]
    · intro p hp
      simp only [cells5, List.mem_cons, List.not_mem_nil, or_false] at hp
      unfold Up LtA at *
      rcases hp with h | h | h | h | h | h | h <;> subst h <;> (refine neN ?_; dsimp only; omega)
    · rintro i m nx ⟨lr, rv, rns, rc, rfl, -⟩
      exact .head _
    · rintro I i v m₁ nx h₁ tk₁ oi oc hi9 hv ⟨lr, rv, rns, rc, rfl, hrv, hrok, hlr2, hlS2, hlS3, hps⟩ hoff hIc hoc F4 N4
      obtain ⟨n, tn, hn, hvn⟩ := IntsAre.at hsv i v hv
      subst hn
      obtain ⟨u3, F5⟩ := fr_cut F4 _ hps
      clear F4 hps F3 N3 F2 N
      dsimp only [kstB] at F5
      dsimp only [cells5] at N4
      have hrl := hrv.length
      unfold Up LtA at *
      have hr60 := hrok.1
      have hkst : KstMark := kstMark
      k_unmd
      k_fold
      ktr_unf
      · refine con_digits B F5 X N4 T rfl (by ktr_room) (by decide) (by decide) (by omega) (by omega) ?_
        intro D ds dvs c h2 tk2 ids hd1' hd2 hd3 F6 N6 hlt
        have hdl := ids.length
        ktr_unf
        (rename Fr _ _ _ _ => F7); (rename News _ _ _ _ => N7)
        rename_i D' ws' _ hI' l1' _
        refine CPost.next ⟨_, _, _, _, (lS, listOf sv.toArray 0) :: (D', listOf ws'.toArray 0) :: cells5 L o2 o3 o4 o5 o6, oc, _, rfl, F7, N7, .tail _ (.tail _ (.head _)), .tail _ (.tail _ (.tail _ (.head _))), hoc, ?_, ?_, D', ws', rns ++ ds, 0, rfl, hI', ⟨by simp; omega, ?_⟩, by omega, by refine neN ?_; omega, hlS3, by kst_all1⟩
        · intro p hp
          simp only [cells5, List.mem_cons, List.not_mem_nil, or_false] at hp ⊢
          rcases hp with h | h | h | h | h | h | h <;> simp [h]
        · intro p hp
          rcases List.mem_cons.mp hp with rfl | hp
          · exact hoff _ (.head _)
          · rcases List.mem_cons.mp hp with rfl | hp
            · exact ⟨by refine neN ?_; dsimp only; omega, by refine neN ?_; dsimp only; omega⟩
            · exact hoff p (.tail _ (.tail _ hp))
        · intro v hv9
          rcases List.mem_append.mp hv9 with hv9 | hv9
          · exact hrok.2 v hv9
          · exact hd3 v hv9
      · have h9 := rns.length
        exact CPost.next ⟨_, _, _, _, _, oc, _, rfl, F5, N4, .head _, .tail _ (.head _), hoc, fun p hp => .tail _ (.tail _ hp), hoff, lr, rv, rns, rc, rfl, hrv, hrok, hlr2, hlS2, hlS3, by kst_all1⟩
    · rintro m₁ nx h₁ tk₁ oc v' ⟨lr, rv, rns, rc, rfl, hrv, hrok, hlr2, hlS2, hlS3, hps⟩ F4 N4 hoc hnc
      obtain ⟨u3, F5⟩ := fr_cut F4 _ hps
      refine next u3 lr rv rns rc oc v' h₁ tk₁ hrv hrok hlr2 hoc F5 (fun p hp => N4 p ?_)
      simp only [cells5, List.cons_append, List.nil_append, List.mem_cons, List.not_mem_nil, or_false] at hp ⊢
      rcases hp with h | h | h | h | h | h | h <;> simp [h]
  ktr_unf
  · exact main _ _ _ _ _ (by assumption) (by (unfold LtA; omega)) (by assumption) (by assumption)
  · exact main _ [_, _] _ _ _ (.cons 1 _ (.cons 700 _ .nil)) (by (unfold LtA; omega)) (by assumption) (by assumption)
end Mine
end
section
open PySem PySem.W PyProof.Rows PySem.Calls PyProof.Rows.LCg
namespace Mine
local macro_rules | `(tactic| ktr_unf) => `(tactic| repeat' ((fail_if_success (with_reducible show wpAny _ _ (PySem.exec (PySem.Stmt.While _ _ _ _) _) _ _ _)); (fail_if_success (with_reducible show wpAny _ _ (PySem.exec (PySem.Stmt.For _ _ _ _ _) _) _ _ _)); (fail_if_success (with_reducible show wpAny _ _ (PySem.execs (PySem.Stmt.For _ _ _ _ _ :: _) _) _ _ _)); (fail_if_success (with_reducible show wpAny _ _ (PySem.eval (PySem.Expr.ListComp _ _ _ _) _) _ _ _)); (fail_if_success (with_reducible show wpAny _ _ (PySem.exec (PySem.Stmt.Assign _ (PySem.Expr.ListComp _ _ _ _) _) _) _ _ _)); (fail_if_success (with_reducible show wpAny _ _ (PySem.call (Value.ref _) _) _ _ _)); (fail_if_success (with_reducible show wpAny _ _ (PySem.execs (PySem.Stmt.Assign [PySem.Expr.Name (PySem.Str.ofString "size") _] _ _ :: _) _) _ _ _)); first | (k_unfold; (try dsimp only)) | (k_end; wrow_close) | walk1 | (dsimp only; walk1) | (leave1; walk_say "STEP leave1"; try dsimp only) | fail "no step"))
local macro_rules | `(tactic| walk_at "eval Call Name") => `(tactic| ((with_reducible show wpAny _ _ (eval (PySem.Expr.Call (PySem.Expr.Name "_law_at" _) _ _ _) _) _ _ _); refine Call_ ?_))
def RowOk6 (rns : List Int) : Prop := 6 ≤ rns.length ∧ rns.length ≤ 60 ∧ ∀ v ∈ rns, 0 ≤ v ∧ v < 32
theorem row_more {rns : List Int} (h : RowOk rns) (hl : rns.length < 6) : RowOk6 (rns ++ [5, 9, 2, 30, 17, 8]) := by
  refine ⟨by simp, by simp; omega, fun v hv => ?_⟩
  rcases List.mem_append.mp hv with hv | hv
  · exact h.2 v hv
  · have : ∀ v ∈ ([5, 9, 2, 30, 17, 8] : List Int), 0 ≤ v ∧ v < 32 := by decide
    exact this v hv

set_option maxRecDepth 100000 in
set_option maxHeartbeats 4000000 in
theorem seg2a {w : World} {p : Program} {loose : List Str} {mean : ExcName → Option Value} {mg mb : Str → Option Value} {dp un : Nat} {gd : Option (List Code)} {a : Addr} {ccd : Value} {A₀ : Around} {base H : Heap} {L : Addr} {s : Shared} {Q : Flow → Shared → Prop} {sc : Scope} {body rest : List Stmt}
    (hsc : lawScope = sc) (B : Below A₀ base [] H) (X : (Mine.hd.heap_39 w.params).In H) (T : Top p loose mean mg mb H) (hd : dp + 5 < recursionLimit) {m : Str → Option Value} {l lr : Addr} {rv : List Value} {rns : List Int} {rc : Nat} {x : Str} {tx : Tok} {cells : List (Addr × Obj)}
    (hb : lawBody.drop 3 = body) (hr : lawBody.drop 4 = rest)
    (F : Fr H L s.heap m) (hm : ∀ p ∈ [(Str.ofString "script", Value.ref l), (Str.ofString "readable", .str x tx), (Str.ofString "row", .ref lr)], m p.1 = some p.2)
    (hrv : IntsAre rv rns) (hrok : RowOk rns)
    (N : News H L s.heap ((lr, listOf rv.toArray rc) :: cells)) (hlr : ∀ p ∈ cells, p.1 < lr)
    (next : ∀ u lr rv rns rc h tk, IntsAre rv rns → RowOk6 rns → (∀ p ∈ cells, p.1 < lr) → Fr H L h (kstB u [(Str.ofString "script", Value.ref l), (Str.ofString "readable", .str x tx), (Str.ofString "row", .ref lr)]) →
      News H L h ((lr, listOf rv.toArray rc) :: cells) → wpAny (model PySem.Challenge.rw_oo0002_01.row.prog w) (ktrTop dp un gd (Str.ofString "law") sc L a ccd (cellsFrom (L + 1) sc.names []) []) (execs rest (envX (Str.ofString "law") sc L a ccd (cellsFrom (L + 1) sc.names []))) Q (fun _ _ => False) (SetH s h tk)) :
    wpAny (model PySem.Challenge.rw_oo0002_01.row.prog w) (ktrTop dp un gd (Str.ofString "law") sc L a ccd (cellsFrom (L + 1) sc.names []) []) (execs body (envX (Str.ofString "law") sc L a ccd (cellsFrom (L + 1) sc.names []))) Q (fun _ _ => False) s := by
  w_top off
  revert X; k_fill; intro X
  k_with_none
  conv at hb =>
    lhs
    whnf
  conv at hr =>
    lhs
    whnf
  conv at hsc =>
    lhs
    whnf
  dsimp only at hsc
  subst hb
  subst hr
  subst hsc
  obtain ⟨u, F2⟩ := fr_cut F _ hm
  clear F hm
  dsimp only [kstB] at F2
  have hrl := hrv.length
  have hr60 := hrok.1
  have hkst : KstMark := kstMark
  ktr_unf
  · (rename Fr _ _ _ _ => F6); (rename News _ _ _ _ => N6)
    obtain ⟨u3, F7⟩ := fr_cut F6 [(Str.ofString "script", Value.ref l), (Str.ofString "readable", .str x tx), (Str.ofString "row", .ref _)] (by kst_all1)
    rename_i hlt6 D' ws' _ hI' l1' _
    exact next u3 D' ws' _ 0 _ _ hI' (row_more hrok (by omega)) (kst_ltOf l1'.2.2) F7 (news_drop N6 (fun p hp => .tail _ (.tail _ hp)))
  · exact next u lr rv rns rc _ _ hrv ⟨by omega, hrok.1, hrok.2⟩ hlr F2 N
end Mine
end
section
open PySem PySem.W PyProof.Rows PySem.Calls PyProof.Rows.LCg
namespace Mine
local macro_rules | `(tactic| ktr_unf) => `(tactic| repeat' ((fail_if_success (with_reducible show wpAny _ _ (PySem.exec (PySem.Stmt.While _ _ _ _) _) _ _ _)); (fail_if_success (with_reducible show wpAny _ _ (PySem.exec (PySem.Stmt.For _ _ _ _ _) _) _ _ _)); (fail_if_success (with_reducible show wpAny _ _ (PySem.execs (PySem.Stmt.For _ _ _ _ _ :: _) _) _ _ _)); (fail_if_success (with_reducible show wpAny _ _ (PySem.eval (PySem.Expr.ListComp _ _ _ _) _) _ _ _)); (fail_if_success (with_reducible show wpAny _ _ (PySem.exec (PySem.Stmt.Assign _ (PySem.Expr.ListComp _ _ _ _) _) _) _ _ _)); (fail_if_success (with_reducible show wpAny _ _ (PySem.call (Value.ref _) _) _ _ _)); (fail_if_success (with_reducible show wpAny _ _ (PySem.execs (PySem.Stmt.Assign [PySem.Expr.Name (PySem.Str.ofString "place") _] _ _ :: _) _) _ _ _)); first | (k_unfold; (try dsimp only)) | (k_end; wrow_close) | walk1 | (dsimp only; walk1) | (leave1; walk_say "STEP leave1"; try dsimp only) | fail "no step"))
local macro_rules | `(tactic| walk_at "eval Call Name") => `(tactic| ((with_reducible show wpAny _ _ (eval (PySem.Expr.Call (PySem.Expr.Name "_law_at" _) _ _ _) _) _ _ _); refine Call_ ?_))
def highs (x : Str) : List Int := x.cps.toList.map fun c => ((c / 32 : Nat) : Int)
def lows (x : Str) : List Int := x.cps.toList.map fun c => ((c % 32 : Nat) : Int)

/-- an address that is none of the six cells' -/
def OffC (L a : Nat) : Prop := a ≠ L + 1 ∧ a ≠ L + 2 ∧ a ≠ L + 3 ∧ a ≠ L + 4 ∧ a ≠ L + 5 ∧ a ≠ L + 6
theorem div32 {x : Array Nat} {i c : Nat} (h : x[i]? = some c) : (c : Int).fdiv 32 = ((x.getD i 0 / 32 : Nat) : Int) := by
  rw [getD_of h, Int.fdiv_eq_ediv_of_nonneg _ (by decide)]
  omega
theorem mod32 {x : Array Nat} {i c : Nat} (h : x[i]? = some c) : (c : Int).fmod 32 = ((x.getD i 0 % 32 : Nat) : Int) := by
  rw [getD_of h, Int.fmod_eq_emod_of_nonneg _ (by decide)]
  omega
theorem offC_of {L a : Addr} {o1 o2 o3 o4 o5 o6 : Obj} (h : ∀ p ∈ cells5 L o2 o3 o4 o5 o6 ++ [(L + 1, o1)], p.1 ≠ a) : OffC L a := by
  have h1 := h (L + 1, o1) (by simp [cells5])
  have h2 := h (L + 1 + 1, o2) (by simp [cells5])
  have h3 := h (L + 1 + 1 + 1, o3) (by simp [cells5])
  have h4 := h (L + 1 + 1 + 1 + 1, o4) (by simp [cells5])
  have h5 := h (L + 1 + 1 + 1 + 1 + 1, o5) (by simp [cells5])
  have h6 := h (L + 1 + 1 + 1 + 1 + 1 + 1, o6) (by simp [cells5])
  exact ⟨fun e => h1 e.symm, fun e => h2 e.symm, fun e => h3 e.symm, fun e => h4 e.symm, fun e => h5 e.symm, fun e => h6 e.symm⟩
set_option maxRecDepth 100000 in
set_option maxHeartbeats 4000000 in
theorem seg2b {w : World} {p : Program} {loose : List Str} {mean : ExcName → Option Value} {mg mb : Str → Option Value} {dp un : Nat} {gd : Option (List Code)} {a : Addr} {ccd : Value} {A₀ : Around} {base H : Heap} {L : Addr} {s : Shared} {Q : Flow → Shared → Prop} {sc : Scope} {body rest : List Stmt}
    (hsc : lawScope = sc) (B : Below A₀ base [] H) (X : (Mine.hd.heap_39 w.params).In H) (T : Top p loose mean mg mb H) (hd : dp + 5 < recursionLimit) {m : Str → Option Value} {l lr : Addr} {rv : List Value} {rns : List Int} {rc : Nat} {x : Str} {tx : Tok} {o1 o2 o3 o4 o5 o6 : Obj} {v2 : Option Value}
    (hb : lawBody.drop 4 = body) (hr : lawBody.drop 7 = rest) (hx : ReadOk x)
    (F : Fr H L s.heap m) (hm : ∀ p ∈ [(Str.ofString "script", Value.ref l), (Str.ofString "readable", .str x tx), (Str.ofString "row", .ref lr)], m p.1 = some p.2)
    (hrv : IntsAre rv rns) (hrok : RowOk6 rns)
    (N : News H L s.heap ((lr, listOf rv.toArray rc) :: (cells5 L o2 o3 o4 o5 o6 ++ [(L + 1, o1)]))) (hlr : OffC L lr) (hd2 : o2.data = .cell v2)
    (next : ∀ u ts lh hv hc lw wv wc o2 h tk, IntsAre hv (highs x) → IntsAre wv (lows x ++ rns) → OffC L lh → OffC L lw → LtA lh lw → o2.data = .cell (some (.ref lh)) →
      Fr H L h (kstB u [(Str.ofString "script", Value.ref l), (Str.ofString "size", .int (x.cps.size : Nat) ts), (Str.ofString "whole", .ref lw)]) →
      News H L h ((lw, listOf wv.toArray wc) :: (lh, listOf hv.toArray hc) :: (cells5 L o2 o3 o4 o5 o6 ++ [(L + 1, o1)])) → wpAny (model PySem.Challenge.rw_oo0002_01.row.prog w) (ktrTop dp un gd (Str.ofString "law") sc L a ccd (cellsFrom (L + 1) sc.names []) []) (execs rest (envX (Str.ofString "law") sc L a ccd (cellsFrom (L + 1) sc.names []))) Q (fun _ _ => False) (SetH s h tk)) :
    wpAny (model PySem.Challenge.rw_oo0002_01.row.prog w) (ktrTop dp un gd (Str.ofString "law") sc L a ccd (cellsFrom (L + 1) sc.names []) []) (execs body (envX (Str.ofString "law") sc L a ccd (cellsFrom (L + 1) sc.names []))) Q (fun _ _ => False) s := by
  w_top off
  revert X; k_fill; intro X
  k_with_none
  conv at hb =>
    lhs
    whnf
  conv at hr =>
    lhs
    whnf
  conv at hsc =>
    lhs
    whnf
  dsimp only at hsc
  subst hb
  subst hr
  subst hsc
  obtain ⟨u, F2⟩ := fr_cut F _ hm
  clear F hm
  dsimp only [kstB] at F2
  have hrl := hrv.length
  have hr60 := hrok.2.1
  have hkst : KstMark := kstMark
  have hxs := hx.2.1
  have hxl : x.length ≤ 8 := hx.2.1
  dsimp only [cells5, List.cons_append, List.nil_append] at N
  ktr_unf
  (rename Fr _ _ _ _ => F3); (rename News _ _ _ _ => N3)
  have hx' : x.cps.all (· < 128) = true := by
    rw [Array.all_eq_true']
    intro c hc
    have := hx.2.2 c (by simpa using hc)
    exact decide_eq_true (by omega)
  refine wpAny_Assign_Name ?_
  refine comp_str (xt := x) (fun i y => ∃ t : Tok, y = Value.int ((x.cps.getD i 0 / 32 : Nat) : Int) t) rfl F3 N3 (by rfl) (by decide) (by rfl) (by decide) (by rfl) (by intro _; rfl) hx' (by rw [PySem.sizeLine_eq]; omega) ?_ ?_ ?_
  · ktr_unf
  · intro i c t I oI C oC D m₂ ys h tk hc hC hx2 F4 N4 off ne
    k_unmd
    k_fold
    ktr_unf
    exact ⟨⟨_, by rw [div32 hc]⟩, _, _, rfl, F4, N4⟩
  · intro ys D h tk hl hG F4 N4 off
    have hi1 := ints_of hG
    have offD : OffC L D := offC_of (o1 := o1) (o2 := o2) (o3 := o3) (o4 := o4) (o5 := o5) (o6 := o6) fun p hp => off p (.tail _ hp)
    have oD := offD
    have olr := hlr
    unfold OffC at oD olr
    refine st_cell (c := L + 1 + 1) (L := L) [(D, listOf ys.toArray ys.length), (lr, listOf rv.toArray rc), (L + 1 + 1 + 1 + 1 + 1 + 1, o6), (L + 1 + 1 + 1 + 1 + 1, o5), (L + 1 + 1 + 1 + 1, o4), (L + 1 + 1 + 1, o3), (L + 1, o1)] F4 N4 (by rfl) (by simp) hd2 ?_ ?_
    · intro p hp
      simp only [List.mem_cons, List.not_mem_nil, or_false] at hp ⊢
      rcases hp with h | h | h | h | h | h | h <;> (subst h; exact ⟨by simp, by dsimp only; omega⟩)
    intro h5 o2' hd2' F5 N5
    clear N4 F4
    dsimp only
    ktr_unf
    (rename Fr _ _ _ _ => F6); (rename News _ _ _ _ => N6)
    refine comp_str (xt := x) (fun i y => ∃ t : Tok, y = Value.int ((x.cps.getD i 0 % 32 : Nat) : Int) t) rfl F6 N6 (by rfl) (by decide) (by rfl) (by decide) (by rfl) (by intro _; rfl) hx' (by rw [PySem.sizeLine_eq]; omega) ?_ ?_ ?_
    · ktr_unf
    · intro i c t I oI C oC D m₂ ys h tk hc hC hx2 F4 N4 off ne
      k_unmd
      k_fold
      ktr_unf
      exact ⟨⟨_, by rw [mod32 hc]⟩, _, _, rfl, F4, N4⟩
    · intro ys2 D2 h2 tk2 hl2 hG2 F7 N7 off2
      have hi2 := ints_of hG2
      have hlen2 := hi2.length
      rw [hl, range_getD (fun c => ((c / 32 : Nat) : Int)) rfl] at hi1
      rw [hl2, range_getD (fun c => ((c % 32 : Nat) : Int)) rfl] at hi2
      have hsz2 : ys2.length ≤ 8 := by rw [hl2]; exact hx.2.1
      have hlt7 := fun p hp => Heap.lt_size (N7 p hp).1
      have hltD := hlt7 (D, listOf ys.toArray ys.length) (by simp)
      have offW : OffC L h2.objs.size := offC_of (o1 := o1) (o2 := o2') (o3 := o3) (o4 := o4) (o5 := o5) (o6 := o6) fun p hp => Nat.ne_of_lt (hlt7 p (by
        simp only [cells5, List.cons_append, List.nil_append, List.mem_cons, List.not_mem_nil, or_false] at hp ⊢
        rcases hp with h | h | h | h | h | h <;> simp [h]))
      k_unmd
      ktr_unf
      (rename Fr _ _ _ _ => F8); (rename News _ _ _ _ => N8)
      obtain ⟨u9, F9⟩ := fr_cut F8 [(Str.ofString "script", Value.ref l), (Str.ofString "size", .int (x.length : Nat) _), (Str.ofString "whole", .ref h2.objs.size)] (by kst_all1)
      refine next u9 _ D ys ys.length h2.objs.size (ys2 ++ rv) 0 o2' _ _ hi1 (IntsAre.append hi2 hrv) offD offW hltD hd2' F9 (news_drop N8 fun p hp => ?_)
      simp only [cells5, List.cons_append, List.nil_append, List.mem_cons, List.not_mem_nil, or_false] at hp ⊢
      rcases hp with h | h | h | h | h | h | h <;> simp [h]
end Mine
end
section
open PySem PySem.W PyProof.Rows PySem.Calls PyProof.Rows.LCg
namespace Mine
local macro_rules | `(tactic| ktr_unf) => `(tactic| repeat' ((fail_if_success (with_reducible show wpAny _ _ (PySem.exec (PySem.Stmt.While _ _ _ _) _) _ _ _)); (fail_if_success (with_reducible show wpAny _ _ (PySem.exec (PySem.Stmt.For _ _ _ _ _) _) _ _ _)); (fail_if_success (with_reducible show wpAny _ _ (PySem.execs (PySem.Stmt.For _ _ _ _ _ :: _) _) _ _ _)); (fail_if_success (with_reducible show wpAny _ _ (PySem.eval (PySem.Expr.ListComp _ _ _ _) _) _ _ _)); (fail_if_success (with_reducible show wpAny _ _ (PySem.exec (PySem.Stmt.Assign _ (PySem.Expr.ListComp _ _ _ _) _) _) _ _ _)); (fail_if_success (with_reducible show wpAny _ _ (PySem.call (Value.ref _) _) _ _ _)); first | (k_unfold; (try dsimp only)) | (k_end; wrow_close) | walk1 | (dsimp only; walk1) | (leave1; walk_say "STEP leave1"; try dsimp only) | fail "no step"))
local macro_rules | `(tactic| walk_at "eval Call Name") => `(tactic| ((with_reducible show wpAny _ _ (eval (PySem.Expr.Call (PySem.Expr.Name "_law_at" _) _ _ _) _) _ _ _); refine Call_ ?_))
theorem six_of {α : Type} {l : List α} (h : l.length = 6) : ∃ a b c d e f, l = [a, b, c, d, e, f] := by
  match l, h with
  | [a, b, c, d, e, f], _ => exact ⟨a, b, c, d, e, f, rfl⟩

theorem place_of (z : Int) {n : Nat} (h : 6 ≤ n) : ∃ pl : Nat, z.fmod ((n : Int) - 5) = (pl : Int) ∧ pl + 6 ≤ n := by
  have h1 : 0 ≤ z % ((n : Int) - 5) := Int.emod_nonneg _ (by omega)
  have h2 : z % ((n : Int) - 5) < (n : Int) - 5 := Int.emod_lt_of_pos _ (by omega)
  rw [Int.fmod_eq_emod_of_nonneg _ (by omega)]
  exact ⟨(z % ((n : Int) - 5)).toNat, by omega, by omega⟩
set_option maxRecDepth 100000 in
set_option maxHeartbeats 4000000 in
theorem seg2c {w : World} {p : Program} {loose : List Str} {mean : ExcName → Option Value} {mg mb : Str → Option Value} {dp un : Nat} {gd : Option (List Code)} {a : Addr} {ccd : Value} {A₀ : Around} {base H : Heap} {L : Addr} {s : Shared} {Q : Flow → Shared → Prop} {sc : Scope} {body rest : List Stmt}
    (hsc : lawScope = sc) (B : Below A₀ base [] H) (X : (Mine.hd.heap_39 w.params).In H) (T : Top p loose mean mg mb H) (hd : dp + 5 < recursionLimit) {m : Str → Option Value} {l lh lw : Addr} {vs : List Value} {ns : List Int} {hv wv : List Value} {wns : List Int} {hc wc sz : Nat} {ts : Tok} {cells : List (Addr × Obj)}
    (hb : lawBody.drop 7 = body) (hr : lawBody.drop 10 = rest)
    (hl : H.IsList l vs.toArray) (hi : IntsAre vs ns) (hlen : ns.length ≤ 63)
    (F : Fr H L s.heap m) (hm : ∀ p ∈ [(Str.ofString "script", Value.ref l), (Str.ofString "size", .int (sz : Nat) ts), (Str.ofString "whole", .ref lw)], m p.1 = some p.2)
    (hwv : IntsAre wv wns) (hw1 : 6 ≤ wns.length) (hw2 : wns.length ≤ 100)
    (N : News H L s.heap ((lw, listOf wv.toArray wc) :: (lh, listOf hv.toArray hc) :: cells))
    (next : ∀ u (t1 t2 t3 t4 t5 t6 : Addr × List Value × Nat) (pl : Nat) tp e1 e2 e3 e4 e5 e6 h tk, pl + 6 ≤ wns.length → TabsOk [t1, t2, t3, t4, t5, t6] → (∀ t ∈ [t1, t2, t3, t4, t5, t6], ∀ p ∈ cells, @LT.lt Nat _ p.1 t.1) →
      Fr H L h (kstB u [(Str.ofString "script", Value.ref l), (Str.ofString "size", .int (sz : Nat) ts), (Str.ofString "whole", .ref lw), (Str.ofString "place", .int (pl : Nat) tp), (Str.ofString "by29", .ref t1.1), (Str.ofString "by22", .ref t2.1), (Str.ofString "by20", .ref t3.1), (Str.ofString "by21", .ref t4.1), (Str.ofString "by18", .ref t5.1), (Str.ofString "by17", .ref t6.1),
        (Str.ofString "u", .int 0 e1), (Str.ofString "v", .int 0 e2), (Str.ofString "w", .int 0 e3), (Str.ofString "x", .int 0 e4), (Str.ofString "y", .int 0 e5), (Str.ofString "z", .int 1 e6)]) →
      News H L h ((lw, listOf wv.toArray wc) :: (lh, listOf hv.toArray hc) :: tEnt t1 :: tEnt t2 :: tEnt t3 :: tEnt t4 :: tEnt t5 :: tEnt t6 :: cells) → wpAny (model PySem.Challenge.rw_oo0002_01.row.prog w) (ktrTop dp un gd (Str.ofString "law") sc L a ccd (cellsFrom (L + 1) sc.names []) []) (execs rest (envX (Str.ofString "law") sc L a ccd (cellsFrom (L + 1) sc.names []))) Q (fun _ _ => False) (SetH s h tk)) :
    wpAny (model PySem.Challenge.rw_oo0002_01.row.prog w) (ktrTop dp un gd (Str.ofString "law") sc L a ccd (cellsFrom (L + 1) sc.names []) []) (execs body (envX (Str.ofString "law") sc L a ccd (cellsFrom (L + 1) sc.names []))) Q (fun _ _ => False) s := by
  w_top off
  revert X; k_fill; intro X
  k_with_none
  conv at hb =>
    lhs
    whnf
  conv at hr =>
    lhs
    whnf
  conv at hsc =>
    lhs
    whnf
  dsimp only at hsc
  subst hb
  subst hr
  subst hsc
  obtain ⟨u, F2⟩ := fr_cut F _ hm
  clear F hm
  dsimp only [kstB] at F2
  have hwl := hwv.length
  have hkst : KstMark := kstMark
  ktr_unf
  refine con_at B (by assumption) X (by assumption) T rfl (by ktr_room) hl hi (by omega) (by decide) ?_
  intro z1 t1 h1 tk1 F3 N3
  ktr_unf
  (rename Fr _ _ _ _ => F4); (rename News _ _ _ _ => N4)
  obtain ⟨pl, hpl, hpl6⟩ := place_of z1 hw1
  rw [hpl] at F4
  obtain ⟨u4, F4⟩ := fr_cut F4 [(Str.ofString "script", Value.ref l), (Str.ofString "size", .int (sz : Nat) ts), (Str.ofString "whole", .ref lw), (Str.ofString "place", .int (pl : Nat) _)] (by kst_all1)
  dsimp only [kstB] at F4
  refine con_tables (vs := [_, _, _, _, _, _]) B F4 X N4 T rfl (by ktr_room) (.head _) (.cons _ _ (.cons _ _ (.cons _ _ (.cons _ _ (.cons _ _ (.cons _ _ .nil)))))) ?_
  intro D tbs ct h5 tk5 htl hok F5 N5 hlt5 hlt6
  obtain ⟨a1, a2, a3, a4, a5, a6, rfl⟩ := six_of htl
  dsimp only [List.map, List.cons_append, List.nil_append] at N5
  clear hlt5
  ktr_unf
  (rename Fr _ _ _ _ => F6); (rename News _ _ _ _ => N6)
  obtain ⟨u7, F7⟩ := fr_cut F6 [(Str.ofString "script", .ref l), (Str.ofString "size", .int (sz : Nat) ts), (Str.ofString "whole", .ref lw), (Str.ofString "place", .int (pl : Nat) _), (Str.ofString "by29", .ref a1.1), (Str.ofString "by22", .ref a2.1), (Str.ofString "by20", .ref a3.1), (Str.ofString "by21", .ref a4.1), (Str.ofString "by18", .ref a5.1), (Str.ofString "by17", .ref a6.1),
        (Str.ofString "u", .int 0 _), (Str.ofString "v", .int 0 _), (Str.ofString "w", .int 0 _), (Str.ofString "x", .int 0 _), (Str.ofString "y", .int 0 _), (Str.ofString "z", .int 1 _)] (by kst_all1)
  refine next u7 a1 a2 a3 a4 a5 a6 pl _ _ _ _ _ _ _ _ _ hpl6 hok (fun t ht p hp => hlt6 t ht p (.tail _ (.tail _ (.tail _ hp)))) F7 (fun p hp => N6 p ?_)
  simp only [List.mem_cons] at hp ⊢
  rcases hp with h | h | h | h | h | h | h | h | h <;> simp [h]
end Mine
end
section
open PySem PySem.W PyProof.Rows PySem.Calls
namespace Mine
/-- multiplication by a written number in the field of 32, as the law's tables give it -/
def gN (c : Int) (a : Nat) : Nat := ((tabN c).getD a 0).toNat
abbrev S6 := Nat × Nat × Nat × Nat × Nat × Nat
def step6 (s : S6) (value : Nat) : S6 := (gN 29 s.1 ^^^ s.2.1, gN 22 s.1 ^^^ s.2.2.1, gN 20 s.1 ^^^ s.2.2.2.1, gN 21 s.1 ^^^ s.2.2.2.2.1, gN 29 s.1 ^^^ s.2.2.2.2.2, gN 18 s.1 ^^^ value)
def back6 (s : S6) (value : Nat) : S6 :=
  let top := gN 17 (s.2.2.2.2.2 ^^^ value)
  (top, s.1 ^^^ gN 29 top, s.2.1 ^^^ gN 22 top, s.2.2.1 ^^^ gN 20 top, s.2.2.2.1 ^^^ gN 21 top, s.2.2.2.2.1 ^^^ gN 29 top)
def S6ok (s : S6) : Prop := s.1 < 32 ∧ s.2.1 < 32 ∧ s.2.2.1 < 32 ∧ s.2.2.2.1 < 32 ∧ s.2.2.2.2.1 < 32 ∧ s.2.2.2.2.2 < 32
def one6 : S6 := (0, 0, 0, 0, 0, 1)
theorem tab_bnd : ∀ j : Fin 6, ∀ a : Fin 32, 0 ≤ (tabN (nums6.getD j.1 0)).getD a.1 0 ∧ (tabN (nums6.getD j.1 0)).getD a.1 0 < 32 := by decide +kernel
theorem tabN_len (c : Int) : (tabN c).length = 32 := tabUp_len _ _
theorem tab_nat {j : Nat} (hj : j < 6) {a : Nat} (ha : a < 32) : (tabN (nums6.getD j 0)).getD a 0 = ((gN (nums6.getD j 0) a : Nat) : Int) ∧ gN (nums6.getD j 0) a < 32 := by
  have h := tab_bnd ⟨j, hj⟩ ⟨a, ha⟩
  dsimp only at h
  unfold gN
  omega
theorem xor32 {a b : Nat} (ha : a < 32) (hb : b < 32) : a ^^^ b < 32 := Nat.xor_lt_two_pow (n := 5) ha hb
theorem step6_ok {s : S6} (h : S6ok s) {v : Nat} (hv : v < 32) : S6ok (step6 s v) := by
  obtain ⟨h1, h2, h3, h4, h5, h6⟩ := h
  exact ⟨xor32 (tab_nat (j := 0) (by decide) h1).2 h2, xor32 (tab_nat (j := 1) (by decide) h1).2 h3, xor32 (tab_nat (j := 2) (by decide) h1).2 h4, xor32 (tab_nat (j := 3) (by decide) h1).2 h5, xor32 (tab_nat (j := 0) (by decide) h1).2 h6, xor32 (tab_nat (j := 4) (by decide) h1).2 hv⟩
theorem back6_ok {s : S6} (h : S6ok s) {v : Nat} (hv : v < 32) : S6ok (back6 s v) := by
  obtain ⟨h1, h2, h3, h4, h5, h6⟩ := h
  have ht : gN 17 (s.2.2.2.2.2 ^^^ v) < 32 := (tab_nat (j := 5) (by decide) (xor32 h6 hv)).2
  exact ⟨ht, xor32 h1 (tab_nat (j := 0) (by decide) ht).2, xor32 h2 (tab_nat (j := 1) (by decide) ht).2, xor32 h3 (tab_nat (j := 2) (by decide) ht).2, xor32 h4 (tab_nat (j := 3) (by decide) ht).2, xor32 h5 (tab_nat (j := 0) (by decide) ht).2⟩
/-- one cell of the walk: a table's item, xor an int -/
theorem tab_xor {j : Nat} (hj : j < 6) {a b : Nat} (ha : a < 32) : Builtin.bitXor ((tabN (nums6.getD j 0)).getD (Int.toNat (a : Int)) 0) (b : Int) = ((gN (nums6.getD j 0) a ^^^ b : Nat) : Int) := by
  rw [Int.toNat_natCast, (tab_nat hj ha).1, xor_nat]
theorem xor_tab {j : Nat} (hj : j < 6) {a b : Nat} (ha : a < 32) : Builtin.bitXor (b : Int) ((tabN (nums6.getD j 0)).getD (Int.toNat (a : Int)) 0) = ((b ^^^ gN (nums6.getD j 0) a : Nat) : Int) := by
  rw [Int.toNat_natCast, (tab_nat hj ha).1, xor_nat]
end Mine
end
section
open PySem PySem.W PyProof.Rows PySem.Calls PyProof.Rows.LCg
namespace Mine
local macro_rules | `(tactic| ktr_unf) => `(tactic| repeat' ((fail_if_success (with_reducible show wpAny _ _ (PySem.exec (PySem.Stmt.While _ _ _ _) _) _ _ _)); (fail_if_success (with_reducible show wpAny _ _ (PySem.exec (PySem.Stmt.For _ _ _ _ _) _) _ _ _)); (fail_if_success (with_reducible show wpAny _ _ (PySem.execs (PySem.Stmt.For _ _ _ _ _ :: _) _) _ _ _)); (fail_if_success (with_reducible show wpAny _ _ (PySem.eval (PySem.Expr.ListComp _ _ _ _) _) _ _ _)); (fail_if_success (with_reducible show wpAny _ _ (PySem.exec (PySem.Stmt.Assign _ (PySem.Expr.ListComp _ _ _ _) _) _) _ _ _)); (fail_if_success (with_reducible show wpAny _ _ (PySem.call (Value.ref _) _) _ _ _)); first | (k_unfold; (try dsimp only)) | (k_end; wrow_close) | walk1 | (dsimp only; walk1) | (leave1; walk_say "STEP leave1"; try dsimp only) | fail "no step"))
local macro_rules | `(tactic| walk_at "eval Call Name") => `(tactic| ((with_reducible show wpAny _ _ (eval (PySem.Expr.Call (PySem.Expr.Name "_law_at" _) _ _ _) _) _ _ _); refine Call_ ?_))
abbrev tabs6 (t1 t2 t3 t4 t5 t6 : Addr × List Value × Nat) : List (Addr × Obj) := [tEnt t1, tEnt t2, tEnt t3, tEnt t4, tEnt t5, tEnt t6]
abbrev kept (l lw : Addr) (sz pl : Nat) (ts tp : Tok) (t1 t2 t3 t4 t5 t6 : Addr × List Value × Nat) : List (Str × Value) :=
  [(Str.ofString "script", .ref l), (Str.ofString "size", .int (sz : Nat) ts), (Str.ofString "whole", .ref lw), (Str.ofString "place", .int (pl : Nat) tp), (Str.ofString "by29", .ref t1.1), (Str.ofString "by22", .ref t2.1), (Str.ofString "by20", .ref t3.1), (Str.ofString "by21", .ref t4.1), (Str.ofString "by18", .ref t5.1), (Str.ofString "by17", .ref t6.1)]
abbrev six6 (z : S6) (e1 e2 e3 e4 e5 e6 : Tok) : List (Str × Value) :=
  [(Str.ofString "u", .int (z.1 : Nat) e1), (Str.ofString "v", .int (z.2.1 : Nat) e2), (Str.ofString "w", .int (z.2.2.1 : Nat) e3), (Str.ofString "x", .int (z.2.2.2.1 : Nat) e4), (Str.ofString "y", .int (z.2.2.2.2.1 : Nat) e5), (Str.ofString "z", .int (z.2.2.2.2.2 : Nat) e6)]

theorem one6_ok : S6ok one6 := by
  unfold S6ok one6
  decide
set_option maxRecDepth 100000 in
set_option maxHeartbeats 4000000 in
theorem seg3 {w : World} {p : Program} {loose : List Str} {mean : ExcName → Option Value} {mg mb : Str → Option Value} {dp un : Nat} {gd : Option (List Code)} {a : Addr} {ccd : Value} {A₀ : Around} {base H : Heap} {L : Addr} {s : Shared} {Q : Flow → Shared → Prop} {sc : Scope} {body rest : List Stmt}
    (hsc : lawScope = sc) (B : Below A₀ base [] H) (X : (Mine.hd.heap_39 w.params).In H) (T : Top p loose mean mg mb H) (hd : dp + 5 < recursionLimit) {m : Str → Option Value} {l lh lw : Addr} {hv wv : List Value} {hns wns : List Int} {hc wc sz pl : Nat} {ts tp e1 e2 e3 e4 e5 e6 : Tok} {t1 t2 t3 t4 t5 t6 : Addr × List Value × Nat} {o1 o2 o3 o4 o5 o6 : Obj}
    (hb : lawBody.drop 10 = body) (hr : lawBody.drop 11 = rest)
    (F : Fr H L s.heap m) (hm : ∀ p ∈ six6 one6 e1 e2 e3 e4 e5 e6 ++ kept l lw sz pl ts tp t1 t2 t3 t4 t5 t6, m p.1 = some p.2)
    (hhv : IntsAre hv hns) (hh32 : ∀ v ∈ hns, 0 ≤ v ∧ v < 32) (hhl : hns.length ≤ 8)
    (hwv : IntsAre wv wns) (hw32 : ∀ v ∈ wns, 0 ≤ v ∧ v < 32) (hw2 : wns.length ≤ 100) (hpl : pl + 6 ≤ wns.length)
    (hok : TabsOk [t1, t2, t3, t4, t5, t6]) (hd2 : o2.data = .cell (some (.ref lh)))
    (N : News H L s.heap ((lw, listOf wv.toArray wc) :: (lh, listOf hv.toArray hc) :: (tabs6 t1 t2 t3 t4 t5 t6 ++ (cells5 L o2 o3 o4 o5 o6 ++ [(L + 1, o1)]))))
    (next : ∀ u (z : S6) e1 e2 e3 e4 e5 e6 h tk, z = ((hns ++ [0] ++ wns.take pl ++ [0, 0, 0, 0, 0, 0]).map Int.toNat).foldl step6 one6 → S6ok z →
      Fr H L h (kstB u (six6 z e1 e2 e3 e4 e5 e6 ++ kept l lw sz pl ts tp t1 t2 t3 t4 t5 t6)) →
      News H L h ((lw, listOf wv.toArray wc) :: (lh, listOf hv.toArray hc) :: (tabs6 t1 t2 t3 t4 t5 t6 ++ (cells5 L o2 o3 o4 o5 o6 ++ [(L + 1, o1)]))) → wpAny (model PySem.Challenge.rw_oo0002_01.row.prog w) (ktrTop dp un gd (Str.ofString "law") sc L a ccd (cellsFrom (L + 1) sc.names []) []) (execs rest (envX (Str.ofString "law") sc L a ccd (cellsFrom (L + 1) sc.names []))) Q (fun _ _ => False) (SetH s h tk)) :
    wpAny (model PySem.Challenge.rw_oo0002_01.row.prog w) (ktrTop dp un gd (Str.ofString "law") sc L a ccd (cellsFrom (L + 1) sc.names []) []) (execs body (envX (Str.ofString "law") sc L a ccd (cellsFrom (L + 1) sc.names []))) Q (fun _ _ => False) s := by
  w_top off
  revert X; k_fill; intro X
  k_with_none
  conv at hb =>
    lhs
    whnf
  conv at hr =>
    lhs
    whnf
  conv at hsc =>
    lhs
    whnf
  dsimp only at hsc
  subst hb
  subst hr
  subst hsc
  obtain ⟨u, F2⟩ := fr_cut F _ hm
  clear F hm
  dsimp only [kstB, six6, kept, List.cons_append, List.nil_append, one6] at F2
  have hwl := hwv.length
  have hhl2 := hhv.length
  dsimp only [tabs6, cells5, List.cons_append, List.nil_append] at N
  have hkst : KstMark := kstMark
  refine wpAny_execs_cons ?_
  with_unfolding_all refine For_loc H ?k1 ?k2 ?k3 ?_
  case k1 => rfl
  case k2 => rfl
  case k3 => intro _; rfl
  k_unmd
  k_fold
  have main : ∀ (lS : Addr) (sv : List Value) (sns : List Int) (h : Heap) (tk : Nat), IntsAre sv sns → sns = hns ++ [0] ++ wns.take pl ++ [0, 0, 0, 0, 0, 0] → Fr H L h (kstB u (six6 one6 e1 e2 e3 e4 e5 e6 ++ kept l lw sz pl ts tp t1 t2 t3 t4 t5 t6)) →
      News H L h ((lS, listOf sv.toArray 0) :: (lw, listOf wv.toArray wc) :: (lh, listOf hv.toArray hc) :: (tabs6 t1 t2 t3 t4 t5 t6 ++ (cells5 L o2 o3 o4 o5 o6 ++ [(L + 1, o1)]))) → qk (.ref lS) (SetH s h tk) := by
    intro lS sv sns h tk hsv hsns F3 N3
    have hs32 : ∀ v ∈ sns, 0 ≤ v ∧ v < 32 := by
      intro v hv9
      rw [hsns] at hv9
      rcases List.mem_append.mp hv9 with h1 | h1
      · rcases List.mem_append.mp h1 with h1 | h1
        · rcases List.mem_append.mp h1 with h1 | h1
          · exact hh32 v h1
          · rw [List.mem_singleton.mp h1]; decide
        · exact hw32 v (List.mem_of_mem_take h1)
      · have : ∀ v ∈ ([0, 0, 0, 0, 0, 0] : List Int), 0 ≤ v ∧ v < 32 := by decide
        exact this v h1
    clear F2 N
    k_unmd
    k_unfold
    k_unmd
    unfold Stop
    refine iter_led (vs := sv) (nn := 0) (fun i m nx => ∃ (z : S6) (e1 e2 e3 e4 e5 e6 : Tok), z = ((sns.take i).map Int.toNat).foldl step6 one6 ∧ S6ok z ∧ nx = (lS, listOf sv.toArray 0) :: (lw, listOf wv.toArray wc) :: (lh, listOf hv.toArray hc) :: (tabs6 t1 t2 t3 t4 t5 t6 ++ (cells5 L o2 o3 o4 o5 o6 ++ [(L + 1, o1)])) ∧
      ∀ p ∈ six6 z e1 e2 e3 e4 e5 e6 ++ kept l lw sz pl ts tp t1 t2 t3 t4 t5 t6, m p.1 = some p.2) rfl ?_ F3 N3 ⟨one6, e1, e2, e3, e4, e5, e6, rfl, one6_ok, rfl, ?_⟩ ?_ ?_
    · rintro i m nx ⟨z, _, _, _, _, _, _, -, -, rfl, -⟩
      exact .head _
    · dsimp only [six6, kept, List.cons_append, List.nil_append, one6]
      kst_all1
    · rintro I i v m₁ nx h₁ tk₁ oi hi9 hv9 ⟨⟨zu, zv, zw, zx, zy, zz⟩, f1, f2, f3, f4, f5, f6, hz, hzok, rfl, hps⟩ hoff F4 N4
      obtain ⟨n, tn, hn, hvn⟩ := IntsAre.at hsv i v hv9
      subst hn
      have hn32 := hs32 n (List.mem_of_getElem? hvn)
      obtain ⟨nv, rfl⟩ : ∃ nv : Nat, n = (nv : Int) := ⟨n.toNat, by omega⟩
      obtain ⟨u3, F5⟩ := fr_turn F4 hps (by rfl)
      clear F4 hps F3 N3
      dsimp only [kstB, six6, kept, List.cons_append, List.nil_append] at F5
      dsimp only [tabs6, tEnt, cells5, List.cons_append, List.nil_append] at N4 hoff
      have i1 := hok 0 t1 rfl
      have i2 := hok 1 t2 rfl
      have i3 := hok 2 t3 rfl
      have i4 := hok 3 t4 rfl
      have i5 := hok 4 t5 rfl
      have g1 := tabN_len (nums6.getD 0 0)
      have g2 := tabN_len (nums6.getD 1 0)
      have g3 := tabN_len (nums6.getD 2 0)
      have g4 := tabN_len (nums6.getD 3 0)
      have g5 := tabN_len (nums6.getD 4 0)
      have hzu : zu < 32 := hzok.1
      k_unmd
      k_fold
      ktr_unf
      (rename Fr _ _ _ _ => F7); (rename News _ _ _ _ => N7)
      rw [tab_xor (j := 0) (by decide) hzu, tab_xor (j := 0) (by decide) hzu, tab_xor (j := 1) (by decide) hzu, tab_xor (j := 2) (by decide) hzu, tab_xor (j := 3) (by decide) hzu, tab_xor (j := 4) (by decide) hzu] at F7
      refine TPost.next ⟨_, _, _, _, _, rfl, F7, N7, .tail _ (.head _), fun p hp => .tail _ (.tail _ hp), hoff, step6 (zu, zv, zw, zx, zy, zz) nv, tk₁, tk₁ + 1, tk₁ + 1 + 1, tk₁ + 1 + 1 + 1, tk₁ + 1 + 1 + 1 + 1, tk₁ + 1 + 1 + 1 + 1 + 1, ?_, step6_ok hzok (by omega), rfl, ?_⟩
      · rw [List.take_add_one, hvn, List.map_append, List.foldl_append, ← hz]
        rfl
      · dsimp only [six6, kept, List.cons_append, List.nil_append, step6]
        kst_all1
    · rintro m₁ nx h₁ tk₁ ⟨z, f1, f2, f3, f4, f5, f6, hz, hzok, rfl, hps⟩ F4 N4
      obtain ⟨u3, F5⟩ := fr_cut F4 _ hps
      rw [hsv.length, List.take_length, hsns] at hz
      exact next u3 z f1 f2 f3 f4 f5 f6 h₁ tk₁ hz hzok F5 (fun p hp => N4 p (.tail _ hp))
  ktr_unf
  (rename Fr _ _ _ _ => F9); (rename News _ _ _ _ => N9)
  exact main _ _ _ _ _ (by assumption) rfl F9 (news_drop N9 fun p hp => .tail _ (.tail _ (.tail _ (.tail _ (.tail _ (.tail _ hp))))))
end Mine
end
section
open PySem PySem.W PyProof.Rows PySem.Calls PyProof.Rows.LCg
namespace Mine
local macro_rules | `(tactic| ktr_unf) => `(tactic| repeat' ((fail_if_success (with_reducible show wpAny _ _ (PySem.exec (PySem.Stmt.While _ _ _ _) _) _ _ _)); (fail_if_success (with_reducible show wpAny _ _ (PySem.exec (PySem.Stmt.For _ _ _ _ _) _) _ _ _)); (fail_if_success (with_reducible show wpAny _ _ (PySem.execs (PySem.Stmt.For _ _ _ _ _ :: _) _) _ _ _)); (fail_if_success (with_reducible show wpAny _ _ (PySem.eval (PySem.Expr.ListComp _ _ _ _) _) _ _ _)); (fail_if_success (with_reducible show wpAny _ _ (PySem.exec (PySem.Stmt.Assign _ (PySem.Expr.ListComp _ _ _ _) _) _) _ _ _)); (fail_if_success (with_reducible show wpAny _ _ (PySem.call (Value.ref _) _) _ _ _)); first | (k_unfold; (try dsimp only)) | (k_end; wrow_close) | walk1 | (dsimp only; walk1) | (leave1; walk_say "STEP leave1"; try dsimp only) | fail "no step"))
local macro_rules | `(tactic| walk_at "eval Call Name") => `(tactic| ((with_reducible show wpAny _ _ (eval (PySem.Expr.Call (PySem.Expr.Name "_law_at" _) _ _ _) _) _ _ _); refine Call_ ?_))
def OffAll (L : Addr) (l : List Addr) : Prop := ∀ a ∈ l, OffC L a
theorem six_ints {z : S6} {e1 e2 e3 e4 e5 e6 : Tok} : IntsAre [.int (z.1 : Nat) e1, .int (z.2.1 : Nat) e2, .int (z.2.2.1 : Nat) e3, .int (z.2.2.2.1 : Nat) e4, .int (z.2.2.2.2.1 : Nat) e5, .int (z.2.2.2.2.2 : Nat) e6] [(z.1 : Int), (z.2.1 : Int), (z.2.2.1 : Int), (z.2.2.2.1 : Int), (z.2.2.2.2.1 : Int), (z.2.2.2.2.2 : Int)] :=
  .cons _ _ (.cons _ _ (.cons _ _ (.cons _ _ (.cons _ _ (.cons _ _ .nil)))))
abbrev sixI (z : S6) : List Int := [(z.1 : Int), (z.2.1 : Int), (z.2.2.1 : Int), (z.2.2.2.1 : Int), (z.2.2.2.2.1 : Int), (z.2.2.2.2.2 : Int)]

set_option maxRecDepth 100000 in
set_option maxHeartbeats 4000000 in
theorem seg4 {w : World} {p : Program} {loose : List Str} {mean : ExcName → Option Value} {mg mb : Str → Option Value} {dp un : Nat} {gd : Option (List Code)} {a : Addr} {ccd : Value} {A₀ : Around} {base H : Heap} {L : Addr} {s : Shared} {Q : Flow → Shared → Prop} {sc : Scope} {body rest : List Stmt}
    (hsc : lawScope = sc) (B : Below A₀ base [] H) (X : (Mine.hd.heap_39 w.params).In H) (T : Top p loose mean mg mb H) (hd : dp + 5 < recursionLimit) {m : Str → Option Value} {l lh lw : Addr} {hv wv : List Value} {hc wc sz pl : Nat} {ts tp e1 e2 e3 e4 e5 e6 : Tok} {z : S6} {t1 t2 t3 t4 t5 t6 : Addr × List Value × Nat} {o1 o2 o3 o4 o5 o6 : Obj} {v3 : Option Value}
    (hb : lawBody.drop 11 = body) (hr : lawBody.drop 13 = rest)
    (F : Fr H L s.heap m) (hm : ∀ p ∈ six6 z e1 e2 e3 e4 e5 e6 ++ kept l lw sz pl ts tp t1 t2 t3 t4 t5 t6, m p.1 = some p.2)
    (hoffs : OffAll L [lw, lh, t1.1, t2.1, t3.1, t4.1, t5.1, t6.1]) (hd3 : o3.data = .cell v3)
    (N : News H L s.heap ((lw, listOf wv.toArray wc) :: (lh, listOf hv.toArray hc) :: (tabs6 t1 t2 t3 t4 t5 t6 ++ (cells5 L o2 o3 o4 o5 o6 ++ [(L + 1, o1)]))))
    (next : ∀ u la av ac o3 e1 e2 e3 e4 e5 e6 h tk, IntsAre av (sixI z) → OffC L la → o3.data = .cell (some (.ref la)) →
      Fr H L h (kstB u (six6 one6 e1 e2 e3 e4 e5 e6 ++ kept l lw sz pl ts tp t1 t2 t3 t4 t5 t6)) →
      News H L h ((la, listOf av.toArray ac) :: (lw, listOf wv.toArray wc) :: (lh, listOf hv.toArray hc) :: (tabs6 t1 t2 t3 t4 t5 t6 ++ (cells5 L o2 o3 o4 o5 o6 ++ [(L + 1, o1)]))) → wpAny (model PySem.Challenge.rw_oo0002_01.row.prog w) (ktrTop dp un gd (Str.ofString "law") sc L a ccd (cellsFrom (L + 1) sc.names []) []) (execs rest (envX (Str.ofString "law") sc L a ccd (cellsFrom (L + 1) sc.names []))) Q (fun _ _ => False) (SetH s h tk)) :
    wpAny (model PySem.Challenge.rw_oo0002_01.row.prog w) (ktrTop dp un gd (Str.ofString "law") sc L a ccd (cellsFrom (L + 1) sc.names []) []) (execs body (envX (Str.ofString "law") sc L a ccd (cellsFrom (L + 1) sc.names []))) Q (fun _ _ => False) s := by
  w_top off
  revert X; k_fill; intro X
  k_with_none
  conv at hb =>
    lhs
    whnf
  conv at hr =>
    lhs
    whnf
  conv at hsc =>
    lhs
    whnf
  dsimp only at hsc
  subst hb
  subst hr
  subst hsc
  obtain ⟨u, F2⟩ := fr_cut F _ hm
  clear F hm
  dsimp only [kstB, six6, kept, List.cons_append, List.nil_append] at F2
  dsimp only [tabs6, cells5, List.cons_append, List.nil_append] at N
  ktr_unf
  (rename Fr _ _ _ _ => F3); (rename News _ _ _ _ => N3)
  rename_i la hh3 l1'
  obtain ⟨av, iav, N4⟩ := ints_gen (P := fun av => News H L hh3 ((la, listOf av.toArray 0) :: [(lw, listOf wv.toArray wc), (lh, listOf hv.toArray hc), tEnt t1, tEnt t2, tEnt t3, tEnt t4, tEnt t5, tEnt t6, (L + 1 + 1 + 1 + 1 + 1 + 1, o6), (L + 1 + 1 + 1 + 1 + 1, o5), (L + 1 + 1 + 1 + 1, o4), (L + 1 + 1 + 1, o3), (L + 1 + 1, o2), (L + 1, o1)])) (six_ints (z := z)) N3
  clear N3
  have hq := hoffs
  simp only [OffAll, OffC, List.forall_mem_cons, List.not_mem_nil, false_implies, implies_true, and_true] at hq
  have offA : OffC L la := by unfold OffC; omega
  refine st_cell (c := L + 1 + 1 + 1) (L := L) [(la, listOf av.toArray 0), (lw, listOf wv.toArray wc), (lh, listOf hv.toArray hc), tEnt t1, tEnt t2, tEnt t3, tEnt t4, tEnt t5, tEnt t6, (L + 1 + 1 + 1 + 1 + 1 + 1, o6), (L + 1 + 1 + 1 + 1 + 1, o5), (L + 1 + 1 + 1 + 1, o4), (L + 1 + 1, o2), (L + 1, o1)] F3 N4 (by rfl) (by simp) hd3 ?_ ?_
  · refine List.forall_mem_cons.mpr ⟨⟨.head _, by dsimp only; omega⟩, ?_⟩
    intro p hp
    simp only [List.mem_cons, List.not_mem_nil, or_false] at hp
    rcases hp with h | h | h | h | h | h | h | h | h | h | h | h | h <;> (subst h; exact ⟨by simp, by dsimp only [tEnt]; omega⟩)
  intro h5 o3' hd3' F5 N5
  clear N4 F3
  dsimp only
  ktr_unf
  (rename Fr _ _ _ _ => F6); (rename News _ _ _ _ => N6)
  obtain ⟨u9, F9⟩ := fr_cut F6 (six6 one6 _ _ _ _ _ _ ++ kept l lw sz pl ts tp t1 t2 t3 t4 t5 t6) (by dsimp only [six6, kept, List.cons_append, List.nil_append, one6]; kst_all1)
  refine next u9 la av 0 o3' _ _ _ _ _ _ _ _ iav offA hd3' F9 (fun p hp => N6 p ?_)
  simp only [tabs6, cells5, List.cons_append, List.nil_append, List.mem_cons, List.not_mem_nil, or_false] at hp ⊢
  rcases hp with h | h | h | h | h | h | h | h | h | h | h | h | h | h | h <;> simp [h]
end Mine
end
section
open PySem PySem.W PyProof.Rows PySem.Calls PyProof.Rows.LCg
namespace Mine
local macro_rules | `(tactic| ktr_unf) => `(tactic| repeat' ((fail_if_success (with_reducible show wpAny _ _ (PySem.exec (PySem.Stmt.While _ _ _ _) _) _ _ _)); (fail_if_success (with_reducible show wpAny _ _ (PySem.exec (PySem.Stmt.For _ _ _ _ _) _) _ _ _)); (fail_if_success (with_reducible show wpAny _ _ (PySem.execs (PySem.Stmt.For _ _ _ _ _ :: _) _) _ _ _)); (fail_if_success (with_reducible show wpAny _ _ (PySem.eval (PySem.Expr.ListComp _ _ _ _) _) _ _ _)); (fail_if_success (with_reducible show wpAny _ _ (PySem.exec (PySem.Stmt.Assign _ (PySem.Expr.ListComp _ _ _ _) _) _) _ _ _)); (fail_if_success (with_reducible show wpAny _ _ (PySem.call (Value.ref _) _) _ _ _)); first | (k_unfold; (try dsimp only)) | (k_end; wrow_close) | walk1 | (dsimp only; walk1) | (leave1; walk_say "STEP leave1"; try dsimp only) | fail "no step"))
local macro_rules | `(tactic| walk_at "eval Call Name") => `(tactic| ((with_reducible show wpAny _ _ (eval (PySem.Expr.Call (PySem.Expr.Name "_law_at" _) _ _ _) _) _ _ _); refine Call_ ?_))
theorem whole_at {wns : List Int} (h : ∀ v ∈ wns, 0 ≤ v ∧ v < 32) {i : Nat} {k : Int} (hi : i < wns.length) (hk : 0 + (i : Int) = k) : ∃ wk : Nat, wns.getD ((wns.length : Int) - 1 - k).toNat 0 = (wk : Int) ∧ wk < 32 ∧
    (wns.drop (wns.length - (i + 1))).map Int.toNat = wk :: (wns.drop (wns.length - i)).map Int.toNat := by
  have e : ((wns.length : Int) - 1 - k).toNat = wns.length - (i + 1) := by omega
  rw [e]
  have hlt : wns.length - (i + 1) < wns.length := by omega
  have hb := h wns[wns.length - (i + 1)] (List.getElem_mem hlt)
  refine ⟨(wns[wns.length - (i + 1)]).toNat, ?_, by omega, ?_⟩
  · rw [List.getD_eq_getElem?_getD, List.getElem?_eq_getElem hlt, Option.getD_some]
    omega
  · rw [List.drop_eq_getElem_cons hlt, List.map_cons, show wns.length - (i + 1) + 1 = wns.length - i by omega]
set_option maxRecDepth 100000 in
set_option maxHeartbeats 4000000 in
theorem seg5 {w : World} {p : Program} {loose : List Str} {mean : ExcName → Option Value} {mg mb : Str → Option Value} {dp un : Nat} {gd : Option (List Code)} {a : Addr} {ccd : Value} {A₀ : Around} {base H : Heap} {L : Addr} {s : Shared} {Q : Flow → Shared → Prop} {sc : Scope} {body rest : List Stmt}
    (hsc : lawScope = sc) (B : Below A₀ base [] H) (X : (Mine.hd.heap_39 w.params).In H) (T : Top p loose mean mg mb H) (hd : dp + 5 < recursionLimit) {m : Str → Option Value} {l lh lw la : Addr} {hv wv av : List Value} {wns : List Int} {hc wc ac sz pl : Nat} {ts tp e1 e2 e3 e4 e5 e6 : Tok} {t1 t2 t3 t4 t5 t6 : Addr × List Value × Nat} {o1 o2 o3 o4 o5 o6 : Obj}
    (hb : lawBody.drop 13 = body) (hr : lawBody.drop 14 = rest)
    (F : Fr H L s.heap m) (hm : ∀ p ∈ six6 one6 e1 e2 e3 e4 e5 e6 ++ kept l lw sz pl ts tp t1 t2 t3 t4 t5 t6, m p.1 = some p.2)
    (hwv : IntsAre wv wns) (hw32 : ∀ v ∈ wns, 0 ≤ v ∧ v < 32) (hw2 : wns.length ≤ 100) (hpl : pl + 6 ≤ wns.length)
    (hok : TabsOk [t1, t2, t3, t4, t5, t6])
    (N : News H L s.heap ((la, listOf av.toArray ac) :: (lw, listOf wv.toArray wc) :: (lh, listOf hv.toArray hc) :: (tabs6 t1 t2 t3 t4 t5 t6 ++ (cells5 L o2 o3 o4 o5 o6 ++ [(L + 1, o1)]))))
    (next : ∀ u (z : S6) e1 e2 e3 e4 e5 e6 h tk, z = ((wns.drop (pl + 6)).map Int.toNat).foldr (fun v s => back6 s v) one6 → S6ok z →
      Fr H L h (kstB u (six6 z e1 e2 e3 e4 e5 e6 ++ kept l lw sz pl ts tp t1 t2 t3 t4 t5 t6)) →
      News H L h ((la, listOf av.toArray ac) :: (lw, listOf wv.toArray wc) :: (lh, listOf hv.toArray hc) :: (tabs6 t1 t2 t3 t4 t5 t6 ++ (cells5 L o2 o3 o4 o5 o6 ++ [(L + 1, o1)]))) → wpAny (model PySem.Challenge.rw_oo0002_01.row.prog w) (ktrTop dp un gd (Str.ofString "law") sc L a ccd (cellsFrom (L + 1) sc.names []) []) (execs rest (envX (Str.ofString "law") sc L a ccd (cellsFrom (L + 1) sc.names []))) Q (fun _ _ => False) (SetH s h tk)) :
    wpAny (model PySem.Challenge.rw_oo0002_01.row.prog w) (ktrTop dp un gd (Str.ofString "law") sc L a ccd (cellsFrom (L + 1) sc.names []) []) (execs body (envX (Str.ofString "law") sc L a ccd (cellsFrom (L + 1) sc.names []))) Q (fun _ _ => False) s := by
  w_top off
  revert X; k_fill; intro X
  k_with_none
  conv at hb =>
    lhs
    whnf
  conv at hr =>
    lhs
    whnf
  conv at hsc =>
    lhs
    whnf
  dsimp only at hsc
  subst hb
  subst hr
  subst hsc
  obtain ⟨u, F2⟩ := fr_cut F _ hm
  clear F hm
  dsimp only [kstB, six6, kept, List.cons_append, List.nil_append, one6] at F2
  have hwl := hwv.length
  dsimp only [tabs6, cells5, List.cons_append, List.nil_append] at N
  have hkst : KstMark := kstMark
  refine wpAny_execs_cons ?_
  with_unfolding_all refine For_loc H ?k1 ?k2 ?k3 ?_
  case k1 => rfl
  case k2 => rfl
  case k3 => intro _; rfl
  k_unmd
  k_fold
  ktr_unf
  unfold Stop
  (rename Fr _ _ _ _ => F3); (rename News _ _ _ _ => N3); (rename IsRange _ _ _ _ _ _ _ _ => R3)
  refine iter_rng (n := wns.length - pl - 6) (fun i m nx => ∃ (z : S6) (e1 e2 e3 e4 e5 e6 : Tok), z = ((wns.drop (wns.length - i)).map Int.toNat).foldr (fun v s => back6 s v) one6 ∧ S6ok z ∧ nx = (la, listOf av.toArray ac) :: (lw, listOf wv.toArray wc) :: (lh, listOf hv.toArray hc) :: (tabs6 t1 t2 t3 t4 t5 t6 ++ (cells5 L o2 o3 o4 o5 o6 ++ [(L + 1, o1)])) ∧
      ∀ p ∈ six6 z e1 e2 e3 e4 e5 e6 ++ kept l lw sz pl ts tp t1 t2 t3 t4 t5 t6, m p.1 = some p.2) rfl R3 ?_ ?_ F3 N3 ⟨one6, e1, e2, e3, e4, e5, e6, ?_, one6_ok, rfl, ?_⟩ ?_ ?_
  · exact small_one (by decide) (by decide) (by omega) (by omega)
  · rw [rangeSize_nat]
    omega
  · rw [Nat.sub_zero, List.drop_length]
    rfl
  · dsimp only [six6, kept, List.cons_append, List.nil_append, one6]
    kst_all1
  · rintro I i tk9 m₁ nx h₁ tk₁ oi hi9 ⟨⟨zu, zv, zw, zx, zy, zz⟩, f1, f2, f3, f4, f5, f6, hz, hzok, rfl, hps⟩ hoff F4 N4
    generalize hkv : (0 + (i : Int)) = kv at F4
    obtain ⟨u3, F5⟩ := fr_turn F4 hps (by rfl)
    clear F4 hps F3 N3 R3
    dsimp only [kstB, six6, kept, List.cons_append, List.nil_append] at F5
    dsimp only [tabs6, tEnt, cells5, List.cons_append, List.nil_append] at N4 hoff
    have i1 := hok 0 t1 rfl
    have i2 := hok 1 t2 rfl
    have i3 := hok 2 t3 rfl
    have i4 := hok 3 t4 rfl
    have i6 := hok 5 t6 rfl
    have g1 := tabN_len (nums6.getD 0 0)
    have g2 := tabN_len (nums6.getD 1 0)
    have g3 := tabN_len (nums6.getD 2 0)
    have g4 := tabN_len (nums6.getD 3 0)
    have g6 := tabN_len (nums6.getD 5 0)
    obtain ⟨wk, hwk1, hwk2, hwk3⟩ := whole_at hw32 (i := i) (k := kv) (by omega) hkv
    k_unmd
    k_fold
    ktr_unf
    rw [hwk1, xor_nat]
    have hx32 : zz ^^^ wk < 32 := xor32 hzok.2.2.2.2.2 hwk2
    refine ksa_sub (by assumption) (by k_mem) i6 (by omega) (by rw [g6]; omega) (by omega) ?_
    intro tt
    rw [Int.toNat_natCast, (tab_nat (j := 5) (by decide) hx32).1]
    have htop32 : gN (nums6.getD 5 0) (zz ^^^ wk) < 32 := (tab_nat (j := 5) (by decide) hx32).2
    obtain ⟨top, htop⟩ : ∃ top, gN (nums6.getD 5 0) (zz ^^^ wk) = top := ⟨_, rfl⟩
    rw [htop] at htop32 ⊢
    dsimp only
    k_unmd
    ktr_unf
    (rename Fr _ _ _ _ => F7); (rename News _ _ _ _ => N7)
    rw [xor_tab (j := 0) (by decide) htop32, xor_tab (j := 0) (by decide) htop32, xor_tab (j := 1) (by decide) htop32, xor_tab (j := 2) (by decide) htop32, xor_tab (j := 3) (by decide) htop32] at F7
    have hb6 : back6 (zu, zv, zw, zx, zy, zz) wk = (top, zu ^^^ gN (nums6.getD 0 0) top, zv ^^^ gN (nums6.getD 1 0) top, zw ^^^ gN (nums6.getD 2 0) top, zx ^^^ gN (nums6.getD 3 0) top, zy ^^^ gN (nums6.getD 0 0) top) := by
      rw [← htop]
      rfl
    refine TPost.next ⟨_, _, _, _, _, rfl, F7, N7, .tail _ (.head _), fun p hp => .tail _ (.tail _ hp), hoff, back6 (zu, zv, zw, zx, zy, zz) wk, _, _, _, _, _, _, (by rw [hwk3, List.foldr_cons, ← hz]), back6_ok hzok hwk2, rfl, (by
      rw [hb6]
      dsimp only [six6, kept, List.cons_append, List.nil_append]
      kst_all1)⟩
  · rintro m₁ nx h₁ tk₁ ⟨z, f1, f2, f3, f4, f5, f6, hz, hzok, rfl, hps⟩ F4 N4
    obtain ⟨u3, F5⟩ := fr_cut F4 _ hps
    rw [show wns.length - (wns.length - pl - 6) = pl + 6 by omega] at hz
    exact next u3 z f1 f2 f3 f4 f5 f6 h₁ tk₁ hz hzok F5 N4
end Mine
end
section
open PySem PySem.W PyProof.Rows PySem.Calls PyProof.Rows.LCg
namespace Mine
local macro_rules | `(tactic| ktr_unf) => `(tactic| repeat' ((fail_if_success (with_reducible show wpAny _ _ (PySem.exec (PySem.Stmt.While _ _ _ _) _) _ _ _)); (fail_if_success (with_reducible show wpAny _ _ (PySem.exec (PySem.Stmt.For _ _ _ _ _) _) _ _ _)); (fail_if_success (with_reducible show wpAny _ _ (PySem.execs (PySem.Stmt.For _ _ _ _ _ :: _) _) _ _ _)); (fail_if_success (with_reducible show wpAny _ _ (PySem.eval (PySem.Expr.ListComp _ _ _ _) _) _ _ _)); (fail_if_success (with_reducible show wpAny _ _ (PySem.exec (PySem.Stmt.Assign _ (PySem.Expr.ListComp _ _ _ _) _) _) _ _ _)); (fail_if_success (with_reducible show wpAny _ _ (PySem.call (Value.ref _) _) _ _ _)); (fail_if_success (with_reducible show wpAny _ _ (PySem.execs (PySem.Stmt.Assign [PySem.Expr.Name (PySem.Str.ofString "number") _] _ _ :: _) _) _ _ _)); first | (k_unfold; (try dsimp only)) | (k_end; wrow_close) | walk1 | (dsimp only; walk1) | (leave1; walk_say "STEP leave1"; try dsimp only) | fail "no step"))
local macro_rules | `(tactic| walk_at "eval Call Name") => `(tactic| ((with_reducible show wpAny _ _ (eval (PySem.Expr.Call (PySem.Expr.Name "_law_at" _) _ _ _) _) _ _ _); refine Call_ ?_))
def xor6 (a b : S6) : S6 := (a.1 ^^^ b.1, a.2.1 ^^^ b.2.1, a.2.2.1 ^^^ b.2.2.1, a.2.2.2.1 ^^^ b.2.2.2.1, a.2.2.2.2.1 ^^^ b.2.2.2.2.1, a.2.2.2.2.2 ^^^ b.2.2.2.2.2)
theorem xor6_ints (a b : S6) {n : Nat} (hn : n = 6) : (List.range n).map (fun i => Builtin.bitXor ((sixI a).getD i 0) ((sixI b).getD i 0)) = sixI (xor6 a b) := by
  subst hn
  show [Builtin.bitXor (a.1 : Int) (b.1 : Int), Builtin.bitXor (a.2.1 : Int) (b.2.1 : Int), Builtin.bitXor (a.2.2.1 : Int) (b.2.2.1 : Int), Builtin.bitXor (a.2.2.2.1 : Int) (b.2.2.2.1 : Int), Builtin.bitXor (a.2.2.2.2.1 : Int) (b.2.2.2.2.1 : Int), Builtin.bitXor (a.2.2.2.2.2 : Int) (b.2.2.2.2.2 : Int)] = _
  simp only [xor_nat]
  rfl
abbrev kept2 (l lw : Addr) (sz pl : Nat) (ts tp : Tok) : List (Str × Value) :=
  [(Str.ofString "script", .ref l), (Str.ofString "size", .int (sz : Nat) ts), (Str.ofString "whole", .ref lw), (Str.ofString "place", .int (pl : Nat) tp)]
abbrev sixN (z : S6) (e1 e2 e3 e4 e5 e6 : Tok) : List (Str × Value) := six6 z e1 e2 e3 e4 e5 e6

set_option maxRecDepth 100000 in
set_option maxHeartbeats 4000000 in
theorem seg6a {w : World} {p : Program} {loose : List Str} {mean : ExcName → Option Value} {mg mb : Str → Option Value} {dp un : Nat} {gd : Option (List Code)} {a : Addr} {ccd : Value} {A₀ : Around} {base H : Heap} {L : Addr} {s : Shared} {Q : Flow → Shared → Prop} {sc : Scope} {body rest : List Stmt}
    (hsc : lawScope = sc) (B : Below A₀ base [] H) (X : (Mine.hd.heap_39 w.params).In H) (T : Top p loose mean mg mb H) (hd : dp + 5 < recursionLimit) {m : Str → Option Value} {l lh lw la : Addr} {hv wv av : List Value} {hc wc ac sz pl : Nat} {ts tp e1 e2 e3 e4 e5 e6 : Tok} {za z : S6} {o1 o2 o3 o4 o5 o6 : Obj} {v4 v5 : Option Value}
    (hb : lawBody.drop 14 = body) (hr : lawBody.drop 16 = rest)
    (F : Fr H L s.heap m) (hm : ∀ p ∈ six6 z e1 e2 e3 e4 e5 e6 ++ kept2 l lw sz pl ts tp, m p.1 = some p.2)
    (hav : IntsAre av (sixI za)) (hoffs : OffAll L [lw, lh, la]) (hd3 : o3.data = .cell (some (.ref la))) (hd4 : o4.data = .cell v4) (hd5 : o5.data = .cell v5)
    (N : News H L s.heap ((la, listOf av.toArray ac) :: (lw, listOf wv.toArray wc) :: (lh, listOf hv.toArray hc) :: (cells5 L o2 o3 o4 o5 o6 ++ [(L + 1, o1)])))
    (next : ∀ u ls sv svc o4 o5 h tk, IntsAre sv (sixI (xor6 za z)) → OffC L ls → o5.data = .cell (some (.ref ls)) →
      Fr H L h (kstB u (kept2 l lw sz pl ts tp)) →
      News H L h ((ls, listOf sv.toArray svc) :: (lw, listOf wv.toArray wc) :: (lh, listOf hv.toArray hc) :: (cells5 L o2 o3 o4 o5 o6 ++ [(L + 1, o1)])) → wpAny (model PySem.Challenge.rw_oo0002_01.row.prog w) (ktrTop dp un gd (Str.ofString "law") sc L a ccd (cellsFrom (L + 1) sc.names []) []) (execs rest (envX (Str.ofString "law") sc L a ccd (cellsFrom (L + 1) sc.names []))) Q (fun _ _ => False) (SetH s h tk)) :
    wpAny (model PySem.Challenge.rw_oo0002_01.row.prog w) (ktrTop dp un gd (Str.ofString "law") sc L a ccd (cellsFrom (L + 1) sc.names []) []) (execs body (envX (Str.ofString "law") sc L a ccd (cellsFrom (L + 1) sc.names []))) Q (fun _ _ => False) s := by
  w_top off
  revert X; k_fill; intro X
  k_with_none
  conv at hb =>
    lhs
    whnf
  conv at hr =>
    lhs
    whnf
  conv at hsc =>
    lhs
    whnf
  dsimp only at hsc
  subst hb
  subst hr
  subst hsc
  obtain ⟨u, F2⟩ := fr_cut F _ hm
  clear F hm
  dsimp only [kstB, six6, kept2, List.cons_append, List.nil_append] at F2
  dsimp only [cells5, List.cons_append, List.nil_append] at N
  have hkst : KstMark := kstMark
  ktr_unf
  (rename Fr _ _ _ _ => F3); (rename News _ _ _ _ => N3)
  rename_i lb hh3 l1'
  obtain ⟨bv, ibv, N4⟩ := ints_gen (P := fun bv => News H L hh3 ((lb, listOf bv.toArray 0) :: [(la, listOf av.toArray ac), (lw, listOf wv.toArray wc), (lh, listOf hv.toArray hc), (L + 1 + 1 + 1 + 1 + 1 + 1, o6), (L + 1 + 1 + 1 + 1 + 1, o5), (L + 1 + 1 + 1 + 1, o4), (L + 1 + 1 + 1, o3), (L + 1 + 1, o2), (L + 1, o1)])) (six_ints (z := z)) N3
  clear N3
  have hq := hoffs
  simp only [OffAll, OffC, List.forall_mem_cons, List.not_mem_nil, false_implies, implies_true, and_true] at hq
  refine st_cell (c := L + 1 + 1 + 1 + 1) (L := L) [(lb, listOf bv.toArray 0), (la, listOf av.toArray ac), (lw, listOf wv.toArray wc), (lh, listOf hv.toArray hc), (L + 1 + 1 + 1 + 1 + 1 + 1, o6), (L + 1 + 1 + 1 + 1 + 1, o5), (L + 1 + 1 + 1, o3), (L + 1 + 1, o2), (L + 1, o1)] F3 N4 (by rfl) (by simp) hd4 ?_ ?_
  · intro p hp
    simp only [List.mem_cons, List.not_mem_nil, or_false] at hp
    rcases hp with h | h | h | h | h | h | h | h | h <;> (subst h; exact ⟨by simp, by dsimp only; omega⟩)
  intro h5 o4' hd4' F5 N5
  clear N4 F3
  dsimp only
  ktr_unf
  (rename Fr _ _ _ _ => F6); (rename News _ _ _ _ => N6)
  refine wpAny_Assign_Name ?_
  refine comp_U F6 (by rfl) (by decide) (by rfl) (by decide) (by rfl) (by intro _; rfl) ?_
  k_unmd
  k_fold
  ktr_unf
  unfold Stop
  (rename Fr _ _ _ _ => F7); (rename News _ _ _ _ => N7); (rename IsRange _ _ _ _ _ _ _ _ => R7)
  have hbl : (sixI z).length = 6 := rfl
  replace ibv : IntsAre bv (sixI z) := ibv
  have hal : (sixI za).length = 6 := rfl
  refine CompSrc.range (n := 6) rfl F7 N7 R7 (by decide) (by rfl) (by rw [PySem.sizeLine_eq]; omega) ?_
  intro g9
  refine rest_of (fun i y => ∃ t : Tok, y = Value.int (Builtin.bitXor ((sixI za).getD i 0) ((sixI z).getD i 0)) t) trivial ?turn ?fin
  case turn =>
    rintro i v I oI C oC D m₂ ys h tk hi9 ⟨tv, rfl⟩ hC hx2 F8 N8 off ne
    generalize hkv : (0 + (i : Int)) = kv at hx2
    have hkv2 : kv.toNat = i := by omega
    clear F7 N7 R7
    obtain ⟨sa, hsa⟩ : ∃ sa, sa = sixI za := ⟨_, rfl⟩
    obtain ⟨sb, hsb⟩ : ∃ sb, sb = sixI z := ⟨_, rfl⟩
    rw [← hsa] at hav hal ⊢
    rw [← hsb] at ibv hbl ⊢
    k_unmd
    k_fold
    ktr_unf
    exact ⟨⟨_, by rw [hkv2]⟩, _, _, rfl, by assumption, by assumption⟩
  case fin =>
    intro ys hyl hG
    unfold FinE
    intro D h6 tk6 F8 N8 oD
    have hy6 := ints_of hG
    rw [xor6_ints za z hyl] at hy6
    have oD' := off1 oD
    have offD : OffC L D := offC_of (o1 := o1) (o2 := o2) (o3 := o3) (o4 := o4') (o5 := o5) (o6 := o6) fun p hp => oD' p (by
      simp only [cells5, List.cons_append, List.nil_append, List.mem_cons, List.not_mem_nil, or_false] at hp ⊢
      rcases hp with h | h | h | h | h | h <;> simp [h])
    have hq2 := offD
    unfold OffC at hq2
    refine st_cell (c := L + 1 + 1 + 1 + 1 + 1) (L := L) [(D, listOf ys.toArray ys.length), (lw, listOf wv.toArray wc), (lh, listOf hv.toArray hc), (L + 1 + 1 + 1 + 1 + 1 + 1, o6), (L + 1 + 1 + 1 + 1, o4'), (L + 1 + 1 + 1, o3), (L + 1 + 1, o2), (L + 1, o1)] F8 N8 (by rfl) (by simp) hd5 ?_ ?_
    · intro p hp
      simp only [List.mem_cons, List.not_mem_nil, or_false] at hp
      rcases hp with h | h | h | h | h | h | h | h <;> (subst h; exact ⟨by simp, by dsimp only; omega⟩)
    intro h7 o5' hd5' F9 N9
    clear N8 F8
    dsimp only
    obtain ⟨u9, F10⟩ := fr_cut F9 (kept2 l lw sz pl ts tp) (by dsimp only [kept2]; kst_all1)
    refine next u9 D ys ys.length o4' o5' _ _ hy6 offD hd5' F10 (fun p hp => N9 p ?_)
    simp only [cells5, List.cons_append, List.nil_append, List.mem_cons, List.not_mem_nil, or_false] at hp ⊢
    rcases hp with h | h | h | h | h | h | h | h | h <;> simp [h]
end Mine
end
section
open PySem PySem.W PyProof.Rows PySem.Calls PyProof.Rows.LCg
namespace Mine
local macro_rules | `(tactic| ktr_unf) => `(tactic| repeat' ((fail_if_success (with_reducible show wpAny _ _ (PySem.exec (PySem.Stmt.While _ _ _ _) _) _ _ _)); (fail_if_success (with_reducible show wpAny _ _ (PySem.exec (PySem.Stmt.For _ _ _ _ _) _) _ _ _)); (fail_if_success (with_reducible show wpAny _ _ (PySem.execs (PySem.Stmt.For _ _ _ _ _ :: _) _) _ _ _)); (fail_if_success (with_reducible show wpAny _ _ (PySem.eval (PySem.Expr.ListComp _ _ _ _) _) _ _ _)); (fail_if_success (with_reducible show wpAny _ _ (PySem.exec (PySem.Stmt.Assign _ (PySem.Expr.ListComp _ _ _ _) _) _) _ _ _)); (fail_if_success (with_reducible show wpAny _ _ (PySem.call (Value.ref _) _) _ _ _)); first | (k_unfold; (try dsimp only)) | (k_end; wrow_close) | walk1 | (dsimp only; walk1) | (leave1; walk_say "STEP leave1"; try dsimp only) | fail "no step"))
local macro_rules | `(tactic| walk_at "eval Call Name") => `(tactic| ((with_reducible show wpAny _ _ (eval (PySem.Expr.Call (PySem.Expr.Name "_law_at" _) _ _ _) _) _ _ _); refine Call_ ?_))
def dig6 (n : Nat) : S6 := (n / 33554432 % 32, n / 1048576 % 32, n / 32768 % 32, n / 1024 % 32, n / 32 % 32, n % 32)
theorem number_of (z : Int) : ∃ nb : Nat, 1 + z.fmod (2 ^ Int.toNat 30 - 1) = (nb : Int) ∧ 1 ≤ nb ∧ nb < 1073741824 := by
  have e : (2 : Int) ^ Int.toNat 30 - 1 = 1073741823 := by decide
  rw [e, Int.fmod_eq_emod_of_nonneg _ (by decide)]
  have h1 : 0 ≤ z % 1073741823 := Int.emod_nonneg _ (by decide)
  have h2 : z % 1073741823 < 1073741823 := Int.emod_lt_of_pos _ (by decide)
  exact ⟨(1 + z % 1073741823).toNat, by omega, by omega, by omega⟩

theorem dgl (nb : Nat) {p : Int} (k : Nat) (hp : p = (k : Int)) : ((nb : Int).fdiv p).fmod 32 = ((nb / k % 32 : Nat) : Int) := by
  subst hp
  rw [Int.fdiv_eq_ediv_of_nonneg _ (Int.natCast_nonneg k), Int.fmod_eq_emod_of_nonneg _ (by decide), Int.natCast_emod, Int.natCast_ediv]
  rfl
theorem dig_val (nb : Nat) {p : Int} (k : Nat) {sa sb : List Int} {i : Nat} {t : Tok} (hp : p = (k : Int)) (hd : sb.getD i 0 = ((nb / k % 32 : Nat) : Int)) : ∃ t' : Tok, Value.int (Builtin.bitXor (sa.getD i 0) (((nb : Int).fdiv p).fmod 32)) t = Value.int (Builtin.bitXor (sa.getD i 0) (sb.getD i 0)) t' :=
  ⟨t, by rw [dgl nb k hp, hd]⟩
set_option maxRecDepth 100000 in
set_option maxHeartbeats 4000000 in
theorem seg6b {w : World} {p : Program} {loose : List Str} {mean : ExcName → Option Value} {mg mb : Str → Option Value} {dp un : Nat} {gd : Option (List Code)} {a : Addr} {ccd : Value} {A₀ : Around} {base H : Heap} {L : Addr} {s : Shared} {Q : Flow → Shared → Prop} {sc : Scope} {body rest : List Stmt}
    (hsc : lawScope = sc) (B : Below A₀ base [] H) (X : (Mine.hd.heap_39 w.params).In H) (T : Top p loose mean mg mb H) (hd : dp + 5 < recursionLimit) {m : Str → Option Value} {l lh lw ls : Addr} {vs hv wv sv : List Value} {ns : List Int} {hc wc svc sz pl : Nat} {ts tp : Tok} {z : S6} {o1 o2 o3 o4 o5 o6 : Obj} {v1 : Option Value}
    (hb : lawBody.drop 16 = body) (hr : lawBody.drop 19 = rest)
    (hl : H.IsList l vs.toArray) (hi : IntsAre vs ns) (hlen : ns.length ≤ 63)
    (F : Fr H L s.heap m) (hm : ∀ p ∈ kept2 l lw sz pl ts tp, m p.1 = some p.2)
    (hsv : IntsAre sv (sixI z)) (hoffs : OffAll L [lw, lh, ls]) (hd1 : o1.data = .cell v1) (hd5 : o5.data = .cell (some (.ref ls)))
    (N : News H L s.heap ((ls, listOf sv.toArray svc) :: (lw, listOf wv.toArray wc) :: (lh, listOf hv.toArray hc) :: (cells5 L o2 o3 o4 o5 o6 ++ [(L + 1, o1)])))
    (next : ∀ u lo lt nb ov ovc o1 h tk, 1 ≤ nb → nb < 1073741824 → IntsAre ov (sixI (xor6 z (dig6 nb))) → OffC L lo → (∀ p ∈ (lo, listOf ov.toArray ovc) :: (ls, listOf sv.toArray svc) :: (lw, listOf wv.toArray wc) :: (lh, listOf hv.toArray hc) :: (cells5 L o2 o3 o4 o5 o6 ++ [(L + 1, o1)]), p.1 < lt) →
      Fr H L h (kstB u ([(Str.ofString "told", Value.ref lt), (Str.ofString "other", .ref lo)] ++ kept2 l lw sz pl ts tp)) →
      News H L h ((lt, listOf #[] 0) :: (lo, listOf ov.toArray ovc) :: (ls, listOf sv.toArray svc) :: (lw, listOf wv.toArray wc) :: (lh, listOf hv.toArray hc) :: (cells5 L o2 o3 o4 o5 o6 ++ [(L + 1, o1)])) → wpAny (model PySem.Challenge.rw_oo0002_01.row.prog w) (ktrTop dp un gd (Str.ofString "law") sc L a ccd (cellsFrom (L + 1) sc.names []) []) (execs rest (envX (Str.ofString "law") sc L a ccd (cellsFrom (L + 1) sc.names []))) Q (fun _ _ => False) (SetH s h tk)) :
    wpAny (model PySem.Challenge.rw_oo0002_01.row.prog w) (ktrTop dp un gd (Str.ofString "law") sc L a ccd (cellsFrom (L + 1) sc.names []) []) (execs body (envX (Str.ofString "law") sc L a ccd (cellsFrom (L + 1) sc.names []))) Q (fun _ _ => False) s := by
  w_top off
  revert X; k_fill; intro X
  k_with_none
  conv at hb =>
    lhs
    whnf
  conv at hr =>
    lhs
    whnf
  conv at hsc =>
    lhs
    whnf
  dsimp only at hsc
  subst hb
  subst hr
  subst hsc
  obtain ⟨u, F2⟩ := fr_cut F _ hm
  clear F hm
  dsimp only [kstB, kept2, List.cons_append, List.nil_append] at F2
  dsimp only [cells5, List.cons_append, List.nil_append] at N
  have hkst : KstMark := kstMark
  ktr_unf
  refine con_at B (by assumption) X (by assumption) T rfl (by ktr_room) hl hi (by omega) (by decide) ?_
  intro z1 t1 h1 tk1 F3 N3
  ktr_unf
  obtain ⟨nb, hnb, hnb1, hnb2⟩ := number_of z1
  dsimp only
  rw [hnb]
  clear hnb
  have hq := hoffs
  simp only [OffAll, OffC, List.forall_mem_cons, List.not_mem_nil, false_implies, implies_true, and_true] at hq
  refine st_cell (c := L + 1) (L := L) [(ls, listOf sv.toArray svc), (lw, listOf wv.toArray wc), (lh, listOf hv.toArray hc), (L + 1 + 1 + 1 + 1 + 1 + 1, o6), (L + 1 + 1 + 1 + 1 + 1, o5), (L + 1 + 1 + 1 + 1, o4), (L + 1 + 1 + 1, o3), (L + 1 + 1, o2)] F3 N3 (by rfl) (by simp) hd1 ?_ ?_
  · intro p hp
    simp only [List.mem_cons, List.not_mem_nil, or_false] at hp
    rcases hp with h | h | h | h | h | h | h | h <;> (subst h; exact ⟨by simp, by dsimp only; omega⟩)
  intro h5 o1' hd1' F5 N5
  clear N3 F3
  dsimp only
  ktr_unf
  (rename Fr _ _ _ _ => F6); (rename News _ _ _ _ => N6)
  refine compA_U F6 (by rfl) (by rfl) (by rfl) (by decide) (by rfl) (by decide) (by rfl) (by rfl) (by rfl) (by intro _; rfl) ?_
  k_unmd
  k_fold
  ktr_unf
  unfold Stop
  (rename Fr _ _ _ _ => F7); (rename News _ _ _ _ => N7); (rename IsRange _ _ _ _ _ _ _ _ => R7)
  have hsl : (sixI z).length = 6 := rfl
  refine CompSrc.range (n := 6) rfl F7 N7 R7 (by decide) (by rfl) (by rw [PySem.sizeLine_eq]; omega) ?_
  intro g9
  refine rest_of (fun i y => ∃ t : Tok, y = Value.int (Builtin.bitXor ((sixI z).getD i 0) ((sixI (dig6 nb)).getD i 0)) t) trivial ?turn ?fin
  case turn =>
    rintro i v I oI C oC D m₂ ys h tk hi9 ⟨tv, rfl⟩ hC hx2 F8 N8 off ne
    generalize hkv : (0 + (i : Int)) = kv at hx2
    have hkv2 : kv.toNat = i := by omega
    clear F7 N7 R7
    obtain ⟨sa, hsa⟩ : ∃ sa, sa = sixI z := ⟨_, rfl⟩
    rw [← hsa] at hsv hsl ⊢
    have hi6 : (i = 0 ∧ kv = 0) ∨ (i = 1 ∧ kv = 1) ∨ (i = 2 ∧ kv = 2) ∨ (i = 3 ∧ kv = 3) ∨ (i = 4 ∧ kv = 4) ∨ (i = 5 ∧ kv = 5) := by omega
    k_unmd
    k_fold
    rcases hi6 with ⟨rfl, rfl⟩ | ⟨rfl, rfl⟩ | ⟨rfl, rfl⟩ | ⟨rfl, rfl⟩ | ⟨rfl, rfl⟩ | ⟨rfl, rfl⟩
    · ktr_unf
      exact ⟨dig_val nb 33554432 (by decide) rfl, _, _, rfl, by assumption, by assumption⟩
    · ktr_unf
      exact ⟨dig_val nb 1048576 (by decide) rfl, _, _, rfl, by assumption, by assumption⟩
    · ktr_unf
      exact ⟨dig_val nb 32768 (by decide) rfl, _, _, rfl, by assumption, by assumption⟩
    · ktr_unf
      exact ⟨dig_val nb 1024 (by decide) rfl, _, _, rfl, by assumption, by assumption⟩
    · ktr_unf
      exact ⟨dig_val nb 32 (by decide) rfl, _, _, rfl, by assumption, by assumption⟩
    · ktr_unf
      exact ⟨dig_val nb 1 (by decide) (by show ((nb % 32 : Nat) : Int) = _; rw [Nat.div_one]), _, _, rfl, by assumption, by assumption⟩
  case fin =>
    intro ys hyl hG
    unfold FinA
    intro D h6 tk6 F8 N8 oD
    have hy6 := ints_of hG
    rw [xor6_ints z (dig6 nb) hyl] at hy6
    have oD' := off1 oD
    have offD : OffC L D := offC_of (o1 := o1') (o2 := o2) (o3 := o3) (o4 := o4) (o5 := o5) (o6 := o6) fun p hp => oD' p (by
      simp only [cells5, List.cons_append, List.nil_append, List.mem_cons, List.not_mem_nil, or_false] at hp ⊢
      rcases hp with h | h | h | h | h | h <;> simp [h])
    ktr_unf
    (rename Fr _ _ _ _ => F9); (rename News _ _ _ _ => N9)
    rename_i lt _ hlt9 _
    obtain ⟨u9, F10⟩ := fr_cut F9 ([(Str.ofString "told", Value.ref lt), (Str.ofString "other", .ref D)] ++ kept2 l lw sz pl ts tp) (by dsimp only [kept2, List.cons_append, List.nil_append]; kst_all1)
    refine next u9 D lt nb ys ys.length o1' _ _ hnb1 hnb2 hy6 offD ?_ F10 (fun p hp => N9 p ?_)
    · intro p hp
      simp only [cells5, List.cons_append, List.nil_append, List.mem_cons, List.not_mem_nil, or_false] at hp
      rcases hp with h | h | h | h | h | h | h | h | h | h <;> (subst h; refine ltN ?_; dsimp only; omega)
    · simp only [cells5, List.cons_append, List.nil_append, List.mem_cons, List.not_mem_nil, or_false] at hp ⊢
      rcases hp with h | h | h | h | h | h | h | h | h | h | h <;> simp [h]
end Mine
end
section
open PySem PySem.W PyProof.Rows PySem.Calls PyProof.Rows.LCg
namespace Mine
local macro_rules | `(tactic| ktr_unf) => `(tactic| repeat' ((fail_if_success (with_reducible show wpAny _ _ (PySem.exec (PySem.Stmt.While _ _ _ _) _) _ _ _)); (fail_if_success (with_reducible show wpAny _ _ (PySem.exec (PySem.Stmt.For _ _ _ _ _) _) _ _ _)); (fail_if_success (with_reducible show wpAny _ _ (PySem.execs (PySem.Stmt.For _ _ _ _ _ :: _) _) _ _ _)); (fail_if_success (with_reducible show wpAny _ _ (PySem.eval (PySem.Expr.ListComp _ _ _ _) _) _ _ _)); (fail_if_success (with_reducible show wpAny _ _ (PySem.exec (PySem.Stmt.Assign _ (PySem.Expr.ListComp _ _ _ _) _) _) _ _ _)); (fail_if_success (with_reducible show wpAny _ _ (PySem.call (Value.ref _) _) _ _ _)); first | (k_unfold; (try dsimp only)) | (k_end; wrow_close) | walk1 | (dsimp only; walk1) | (leave1; walk_say "STEP leave1"; try dsimp only) | fail "no step"))
local macro_rules | `(tactic| walk_at "eval Call Name") => `(tactic| ((with_reducible show wpAny _ _ (eval (PySem.Expr.Call (PySem.Expr.Name "_law_at" _) _ _ _) _) _ _ _); refine Call_ ?_))
def fillI (wns : List Int) (pl : Nat) (f : S6) : List Int := wns.take pl ++ sixI f ++ wns.drop (pl + 6)
def Vd (hns wns : List Int) (pl : Nat) (f : S6) : Bool := decide (pmod (hns.map Int.toNat ++ [0] ++ (fillI wns pl f).map Int.toNat) = 1)
theorem fill_len {wns : List Int} {pl : Nat} {f : S6} (h : pl + 6 ≤ wns.length) : (fillI wns pl f).length = wns.length := by
  unfold fillI
  simp only [List.length_append, List.length_take, List.length_drop, List.length_cons, List.length_nil]
  omega
theorem fill_bnd {wns : List Int} {pl : Nat} {f : S6} (h : ∀ v ∈ wns, 0 ≤ v ∧ v < 32) (hf : S6ok f) : ∀ v ∈ fillI wns pl f, 0 ≤ v ∧ v < 32 := by
  obtain ⟨h1, h2, h3, h4, h5, h6⟩ := hf
  intro v hv
  unfold fillI at hv
  rcases List.mem_append.mp hv with hv | hv
  · rcases List.mem_append.mp hv with hv | hv
    · exact h v (List.mem_of_mem_take hv)
    · simp only [sixI, List.mem_cons, List.not_mem_nil, or_false] at hv
      rcases hv with h | h | h | h | h | h <;> (rw [h]; omega)
  · exact h v (List.mem_of_mem_drop hv)
def nmI (hns fl : List Int) (n : Nat) : List Nat := (List.range n).map fun i => (32 * hns.getD i 0 + fl.getD i 0).toNat
theorem name_hi {hns fl : List Int} {n : Nat} (hh : ∀ v ∈ hns, 0 ≤ v ∧ v ≤ 3) (hl : hns.length = n) (hf : n ≤ fl.length) (hb : ∀ v ∈ fl, 0 ≤ v ∧ v < 32) : (nmI hns fl n).map (· / 32) = hns.map Int.toNat := by
  apply List.ext_getElem
  · simp [nmI, hl]
  · intro i h1 h2
    have h3 : i < hns.length := by simpa using h2
    have h4 : i < fl.length := by omega
    have a1 := hh _ (List.getElem_mem h3)
    have a2 := hb _ (List.getElem_mem h4)
    simp only [nmI, List.getElem_map, List.getElem_range, List.getD_eq_getElem?_getD, List.getElem?_eq_getElem h3, List.getElem?_eq_getElem h4, Option.getD_some]
    omega
theorem name_lo {hns fl : List Int} {n : Nat} (hh : ∀ v ∈ hns, 0 ≤ v ∧ v ≤ 3) (hl : hns.length = n) (hf : n ≤ fl.length) (hb : ∀ v ∈ fl, 0 ≤ v ∧ v < 32) : (nmI hns fl n).map (· % 32) = (fl.take n).map Int.toNat := by
  apply List.ext_getElem
  · simp only [nmI, List.length_map, List.length_range, List.length_take]
    omega
  · intro i h1 h2
    have h3 : i < hns.length := by simp [nmI] at h1; omega
    have h4 : i < fl.length := by omega
    have a1 := hh _ (List.getElem_mem h3)
    have a2 := hb _ (List.getElem_mem h4)
    simp only [nmI, List.getElem_map, List.getElem_range, List.getElem_take, List.getD_eq_getElem?_getD, List.getElem?_eq_getElem h3, List.getElem?_eq_getElem h4, Option.getD_some]
    omega
theorem name_lt {hns fl : List Int} {n : Nat} (hh : ∀ v ∈ hns, 0 ≤ v ∧ v ≤ 3) (hl : hns.length = n) (hf : n ≤ fl.length) (hb : ∀ v ∈ fl, 0 ≤ v ∧ v < 32) : ∀ c ∈ nmI hns fl n, c < 128 := by
  intro c hc
  obtain ⟨i, hi, rfl⟩ := List.mem_map.mp hc
  rw [List.mem_range] at hi
  have h3 : i < hns.length := by omega
  have h4 : i < fl.length := by omega
  have a1 := hh _ (List.getElem_mem h3)
  have a2 := hb _ (List.getElem_mem h4)
  simp only [List.getD_eq_getElem?_getD, List.getElem?_eq_getElem h3, List.getElem?_eq_getElem h4, Option.getD_some]
  omega
theorem vd_of {hns wns : List Int} {pl n : Nat} {f : S6} {cs : List Nat} {ds : List Int} (hc : cs = nmI hns (fillI wns pl f) n) (hd : ds = (fillI wns pl f).drop n) (hh : ∀ v ∈ hns, 0 ≤ v ∧ v ≤ 3) (hl : hns.length = n) (hf : n ≤ (fillI wns pl f).length) (hb : ∀ v ∈ fillI wns pl f, 0 ≤ v ∧ v < 32) :
    decide (pmod (cs.map (· / 32) ++ [0] ++ cs.map (· % 32) ++ ds.map Int.toNat) = 1) = Vd hns wns pl f := by
  subst hc hd
  rw [name_hi hh hl hf hb, name_lo hh hl hf hb, List.append_assoc _ (List.map _ _), ← List.map_append, List.take_append_drop]
  rfl
theorem app_led {prog : Program} {w : World} {A : Around} {E : Value → Shared → Prop} {s : Shared} {Q : Value → Shared → Prop} {h₀ : Heap} {L lt : Addr} {m : Str → Option Value} {news : List (Addr × Obj)} {its : Array Value} {n : Nat} {x : Value} (others : List (Addr × Obj)) (F : Fr h₀ L s.heap m) (N : News h₀ L s.heap news) (hm : (lt, listOf its n) ∈ news)
    (ho : ∀ p ∈ others, p ∈ news ∧ @Ne Nat p.1 lt) (hsz : its.size ≤ sizeLine)
    (h : ∀ h', Fr h₀ L h' m → News h₀ L h' ((lt, listOf (its.push x) (n + 1)) :: others) → Q .none { s with heap := h' }) : wpAny (model prog w) A (call (.builtin "list.append") [.ref lt, x]) Q E s := by
  have z := N _ hm
  refine append_at (hsz := hsz) z.1 fun h' hs ho' => h h' (F.change hs z.2.1 z.2.2) fun p hp => ?_
  rcases List.mem_cons.mp hp with rfl | hp
  · exact ⟨ho', z.2⟩
  · have h9 := N p (ho p hp).1
    exact ⟨hs.extBut _ _ (ho p hp).2 h9.1, h9.2⟩
abbrev kept3 (lt lw : Addr) (sz pl : Nat) (ts tp : Tok) : List (Str × Value) :=
  [(Str.ofString "told", .ref lt), (Str.ofString "size", .int (sz : Nat) ts), (Str.ofString "whole", .ref lw), (Str.ofString "place", .int (pl : Nat) tp)]
abbrev cellsB (L : Addr) (o2 : Obj) : List (Addr × Obj) := [(L + 1 + 1, o2)]
abbrev cellsD (L : Addr) (o2 o5 : Obj) : List (Addr × Obj) := [(L + 1 + 1, o2), (L + 1 + 1 + 1 + 1 + 1, o5)]

set_option maxRecDepth 100000 in
set_option maxHeartbeats 4000000 in
theorem seg7 {w : World} {p : Program} {loose : List Str} {mean : ExcName → Option Value} {mg mb : Str → Option Value} {dp un : Nat} {gd : Option (List Code)} {a : Addr} {ccd : Value} {A₀ : Around} {base H : Heap} {L : Addr} {s : Shared} {Q : Flow → Shared → Prop} {sc : Scope} {body rest : List Stmt}
    (hsc : lawScope = sc) (B : Below A₀ base [] H) (X : (Mine.hd.heap_39 w.params).In H) (T : Top p loose mean mg mb H) (hd : dp + 5 < recursionLimit) {m : Str → Option Value} {lh lw ls lo lt : Addr} {hv wv sv ov : List Value} {hns wns : List Int} {hc wc svc ovc sz pl : Nat} {ts tp : Tok} {z zo : S6} {o2 o5 o6 : Obj} {v6 : Option Value}
    (hb : lawBody.drop 19 = body) (hr : lawBody.drop 20 = rest)
    (F : Fr H L s.heap m) (hm : ∀ p ∈ (Str.ofString "other", Value.ref lo) :: kept3 lt lw sz pl ts tp, m p.1 = some p.2)
    (hhv : IntsAre hv hns) (hh3 : ∀ v ∈ hns, 0 ≤ v ∧ v ≤ 3) (hhl : hns.length = sz) (hsz : sz ≤ 8)
    (hwv : IntsAre wv wns) (hw32 : ∀ v ∈ wns, 0 ≤ v ∧ v < 32) (hw2 : wns.length ≤ 100) (hpl : pl + 6 ≤ wns.length) (hszw : sz ≤ wns.length)
    (hsv : IntsAre sv (sixI z)) (hov : IntsAre ov (sixI zo)) (hzok : S6ok z) (hzook : S6ok zo) (hV1 : Vd hns wns pl z = true) (hV2 : Vd hns wns pl zo = false)
    (hoffs : OffAll L [lw, lh, ls, lo]) (hd2 : o2.data = .cell (some (.ref lh))) (hd5 : o5.data = .cell (some (.ref ls))) (hd6 : o6.data = .cell v6)
    (hlt : ∀ p ∈ (lo, listOf ov.toArray ovc) :: (ls, listOf sv.toArray svc) :: (lw, listOf wv.toArray wc) :: (lh, listOf hv.toArray hc) :: (L + 1 + 1 + 1 + 1 + 1 + 1, o6) :: cellsD L o2 o5, p.1 < lt)
    (N : News H L s.heap ((lt, listOf #[] 0) :: (lo, listOf ov.toArray ovc) :: (ls, listOf sv.toArray svc) :: (lw, listOf wv.toArray wc) :: (lh, listOf hv.toArray hc) :: (L + 1 + 1 + 1 + 1 + 1 + 1, o6) :: cellsD L o2 o5))
    (next : ∀ u lt tc h tk, Fr H L h (kstB u [(Str.ofString "told", .ref lt)]) →
      News H L h [(lt, listOf #[Value.bool true, Value.bool false] tc)] → wpAny (model PySem.Challenge.rw_oo0002_01.row.prog w) (ktrTop dp un gd (Str.ofString "law") sc L a ccd (cellsFrom (L + 1) sc.names []) []) (execs rest (envX (Str.ofString "law") sc L a ccd (cellsFrom (L + 1) sc.names []))) Q (fun _ _ => False) (SetH s h tk)) :
    wpAny (model PySem.Challenge.rw_oo0002_01.row.prog w) (ktrTop dp un gd (Str.ofString "law") sc L a ccd (cellsFrom (L + 1) sc.names []) []) (execs body (envX (Str.ofString "law") sc L a ccd (cellsFrom (L + 1) sc.names []))) Q (fun _ _ => False) s := by
  w_top off
  revert X; k_fill; intro X
  k_with_none
  conv at hb =>
    lhs
    whnf
  conv at hr =>
    lhs
    whnf
  conv at hsc =>
    lhs
    whnf
  dsimp only at hsc
  subst hb
  subst hr
  subst hsc
  obtain ⟨u, F2⟩ := fr_cut F _ hm
  clear F hm
  dsimp only [kstB, kept3, List.cons_append, List.nil_append] at F2
  have hwl := hwv.length
  have hhl2 := hhv.length
  dsimp only [cellsD, List.cons_append, List.nil_append] at N
  have hkst : KstMark := kstMark
  refine wpAny_execs_cons ?_
  with_unfolding_all refine For_loc H ?k1 ?k2 ?k3 ?_
  case k1 => rfl
  case k2 => rfl
  case k3 => intro _; rfl
  k_unmd
  k_fold
  ktr_unf
  k_unmd
  k_unfold
  k_unmd
  unfold Stop
  (rename Fr _ _ _ _ => F3); (rename News _ _ _ _ => N3)
  rename_i l' h' l1'
  have N4 : News H L h' ((l', listOf #[Value.ref ls, Value.ref lo] 0) :: (lt, listOf #[] 0) :: (lo, listOf ov.toArray ovc) :: (ls, listOf sv.toArray svc) :: (lw, listOf wv.toArray wc) :: (lh, listOf hv.toArray hc) :: (L + 1 + 1 + 1 + 1 + 1 + 1, o6) :: cellsB L o2) := by
    intro p hp
    refine N3 p ?_
    simp only [cellsB, List.mem_cons, List.not_mem_nil, or_false] at hp ⊢
    rcases hp with h | h | h | h | h | h | h | h <;> simp [h]
  refine iter_led (l := l') (vs := [.ref ls, .ref lo]) (nn := 0) (fun i m nx => ∃ (tc : Nat) (o6 : Obj) (v6 : Option Value), o6.data = .cell v6 ∧ nx = (l', listOf #[Value.ref ls, Value.ref lo] 0) :: (lt, listOf (([z, zo].take i).map (fun f => Value.bool (Vd hns wns pl f))).toArray tc) :: (lo, listOf ov.toArray ovc) :: (ls, listOf sv.toArray svc) :: (lw, listOf wv.toArray wc) :: (lh, listOf hv.toArray hc) :: (L + 1 + 1 + 1 + 1 + 1 + 1, o6) :: cellsB L o2 ∧
    ∀ p ∈ kept3 lt lw sz pl ts tp, m p.1 = some p.2) rfl ?_ F3 N4 ⟨0, o6, v6, hd6, rfl, by dsimp only [kept3]; kst_all1⟩ ?_ ?_
  · rintro i m nx ⟨tc, o6, v6, hd6, rfl, hps⟩
    exact .head _
  · rintro I i v m₁ nx h₁ tk₁ oi hi9 hvi ⟨tc, o7, v7, hd7, rfl, hps⟩ hoff2 G1 N6
    clear F3 N3 N4
    have hf : ∃ (f : S6) (fa : Addr) (fv : List Value) (fc : Nat), v = .ref fa ∧ IntsAre fv (sixI f) ∧ S6ok f ∧ (∀ (nx : List (Addr × Obj)), (lo, listOf ov.toArray ovc) ∈ nx → (ls, listOf sv.toArray svc) ∈ nx → (fa, listOf fv.toArray fc) ∈ nx) ∧ [z, zo].take (i + 1) = [z, zo].take i ++ [f] ∧ OffC L fa ∧ LtA fa lt := by
      have hq := hoffs
      simp only [OffAll, List.forall_mem_cons, List.not_mem_nil, false_implies, implies_true, and_true] at hq
      match i, hi9 with
      | 0, _ => exact ⟨z, ls, sv, svc, (Option.some.inj hvi).symm, hsv, hzok, fun nx h1 h2 => h2, rfl, hq.2.2.1, hlt _ (.tail _ (.head _))⟩
      | 1, _ => exact ⟨zo, lo, ov, ovc, (Option.some.inj hvi).symm, hov, hzook, fun nx h1 h2 => h1, rfl, hq.2.2.2, hlt _ (.head _)⟩
    obtain ⟨f, fa, fv, fc, rfl, hfv, hfok, hfm, htake, hofa, hfl⟩ := hf
    obtain ⟨told, htold⟩ : ∃ told, told = ([z, zo].take i).map (fun f => Value.bool (Vd hns wns pl f)) := ⟨_, rfl⟩
    have htl : told.length ≤ 2 := by rw [htold, List.length_map, List.length_take]; exact Nat.min_le_right _ _
    rw [← htold] at N6
    obtain ⟨u6, G2⟩ := fr_turn G1 hps (by rfl)
    clear G1 hps
    dsimp only [kstB, kept3] at G2
    have N5 : News H L h₁ ((fa, listOf fv.toArray fc) :: (lt, listOf told.toArray tc) :: (I, oi) :: (l', listOf #[Value.ref ls, Value.ref lo] 0) :: (lw, listOf wv.toArray wc) :: (lh, listOf hv.toArray hc) :: (L + 1 + 1 + 1 + 1 + 1 + 1, o7) :: (L + 1 + 1, o2) :: [(lo, listOf ov.toArray ovc), (ls, listOf sv.toArray svc)]) := by
      intro p hp
      rcases List.mem_cons.mp hp with rfl | hp
      · exact N6 _ (hfm _ (by simp) (by simp))
      · refine N6 p ?_
        simp only [cellsB, List.mem_cons, List.not_mem_nil, or_false] at hp ⊢
        rcases hp with h | h | h | h | h | h | h | h | h <;> simp [h]
    have hfl6 : (sixI f).length = 6 := rfl
    have hfvl := hfv.length
    obtain ⟨fns, hfns⟩ : ∃ fns, fns = sixI f := ⟨_, rfl⟩
    rw [← hfns] at hfv hfl6
    have hwz := kmk_sz hwv (by rw [PySem.sizeLine_eq]; omega)
    have hp0 : (0 : Int) ≤ (pl : Int) := Int.natCast_nonneg _
    have hp6 : (0 : Int) ≤ (pl : Int) + 6 := by omega
    have hlt6 : @LT.lt Nat _ (L + 1 + 1 + 1 + 1 + 1 + 1) lt := hlt (L + 1 + 1 + 1 + 1 + 1 + 1, o6) (by simp)
    have hlt1 : @LT.lt Nat _ (lw) lt := hlt (lw, listOf wv.toArray wc) (by simp)
    have hlt2 : @LT.lt Nat _ (lh) lt := hlt (lh, listOf hv.toArray hc) (by simp)
    have hlt3 : @LT.lt Nat _ (lo) lt := hlt (lo, listOf ov.toArray ovc) (by simp)
    have hlt5 : @LT.lt Nat _ (L + 1 + 1) lt := hlt (L + 1 + 1, o2) (by simp)
    have hlt4 : @LT.lt Nat _ (ls) lt := hlt (ls, listOf sv.toArray svc) (by simp)
    have hq := hoffs
    simp only [OffAll, OffC, List.forall_mem_cons, List.not_mem_nil, false_implies, implies_true, and_true] at hq
    clear hlt
    k_unmd
    k_fold
    ktr_unf
    (rename Fr _ _ _ _ => F7); (rename News _ _ _ _ => N7); (rename IntsAre _ (_ ++ _ ++ _) => hfil)
    rename_i D3 w3 g3 hI3 hC3 hL3 l3 D2 w2 g2 hI2 l2 D1 w1 g1 hI1 hC1 hL1 l1 D fw h5 lD
    clear hI3 hC3 hL3 l3 hI2 l2 hI1 hC1 hL1 l1
    replace lD := lD.2.2.2
    have hfe : List.take ((pl : Int)).toNat wns ++ fns ++ List.drop ((pl : Int) + 6).toNat wns = fillI wns pl f := by
      rw [hfns, Int.toNat_natCast, (by omega : ((pl : Int) + 6).toNat = pl + 6)]
      rfl
    rw [hfe] at hfil
    have hfll := fill_len (f := f) hpl
    have hflb := fill_bnd (pl := pl) hw32 hfok
    obtain ⟨fl, hfl9⟩ : ∃ fl, fl = fillI wns pl f := ⟨_, rfl⟩
    rw [← hfl9] at hfil hfll hflb
    dsimp only
    refine st_cell (c := L + 1 + 1 + 1 + 1 + 1 + 1) (L := L) [(D, listOf fw.toArray 0), (lt, listOf told.toArray tc), (I, oi), (l', listOf #[Value.ref ls, Value.ref lo] 0), (lw, listOf wv.toArray wc), (lh, listOf hv.toArray hc), (L + 1 + 1, o2), (lo, listOf ov.toArray ovc), (ls, listOf sv.toArray svc)] F7 N7 (by rfl) (by simp) hd7 ?_ ?_
    · have hI := (hoff2 (L + 1 + 1 + 1 + 1 + 1 + 1, o7) (by simp)).symm
      clear F7 N7
      intro p hp
      simp only [List.mem_cons, List.not_mem_nil, or_false] at hp
      rcases hp with h | h | h | h | h | h | h | h | h
      · subst h; exact ⟨by simp, by dsimp only; omega⟩
      · subst h; exact ⟨by simp, by dsimp only; omega⟩
      · subst h; exact ⟨by simp, hI⟩
      · subst h; exact ⟨by simp, by dsimp only; omega⟩
      · subst h; exact ⟨by simp, by dsimp only; omega⟩
      · subst h; exact ⟨by simp, by dsimp only; omega⟩
      · subst h; exact ⟨by simp, by dsimp only; omega⟩
      · subst h; exact ⟨by simp, by dsimp only; omega⟩
      · subst h; exact ⟨by simp, by dsimp only; omega⟩
    intro h6 o8 hd8 F8 N8
    clear F7 N7
    dsimp only
    ktr_unf
    (rename Fr _ _ _ _ => F9); (rename News _ _ _ _ => N9)
    refine comp_U F9 (by rfl) (by decide) (by rfl) (by decide) (by rfl) (by intro _; rfl) ?_
    k_unmd
    k_fold
    ktr_unf
    unfold Stop
    (rename Fr _ _ _ _ => F10); (rename News _ _ _ _ => N10); (rename IsRange _ _ _ _ _ _ _ _ => R10)
    refine CompSrc.range (n := sz) rfl F10 N10 R10 (by exact small_one (by decide) (by decide) (by omega) (by omega)) (by rw [rangeSize_nat]; omega) (by rw [PySem.sizeLine_eq]; omega) ?_
    intro g9
    refine rest_of (fun i y => ∃ t : Tok, y = .str ⟨#[(32 * hns.getD i 0 + fl.getD i 0).toNat]⟩ t) trivial ?turn ?fin
    case turn =>
      rintro j v I2 oI2 oC C D2 m₂ ys h tk hj9 ⟨tv, rfl⟩ hC hx2 F11 N11 off ne
      generalize hkv : (0 + (j : Int)) = kv at hx2
      have hkv2 : kv.toNat = j := by omega
      have hkv3 : 0 ≤ kv := by omega
      have hkv4 : kv < sz := by omega
      have h3 : kv.toNat < hns.length := by omega
      have h4 : kv.toNat < fl.length := by omega
      have a1 : 0 ≤ hns.getD kv.toNat 0 ∧ hns.getD kv.toNat 0 ≤ 3 := by
        rw [List.getD_eq_getElem?_getD, List.getElem?_eq_getElem h3]
        exact hh3 _ (List.getElem_mem h3)
      have a2 : 0 ≤ fl.getD kv.toNat 0 ∧ fl.getD kv.toNat 0 < 32 := by
        rw [List.getD_eq_getElem?_getD, List.getElem?_eq_getElem h4]
        exact hflb _ (List.getElem_mem h4)
      clear F10 N10 R10
      k_unmd
      k_fold
      ktr_unf
      exact ⟨⟨_, by rw [hkv2]⟩, _, _, rfl, by assumption, by assumption⟩
    case fin =>
      intro ys hyl hG
      unfold FinE
      intro D2 h7 tk7 F11 N11 oD2
      have hst := strs_of hG
      have e1 : (List.range ys.length).map (fun i => (⟨#[(32 * hns.getD i 0 + fl.getD i 0).toNat]⟩ : Str)) = (nmI hns fl sz).map (fun c => (⟨#[c]⟩ : Str)) := by rw [hyl, nmI, List.map_map]; rfl
      rw [e1] at hst
      have hnl : (nmI hns fl sz).length = sz := by rw [nmI, List.length_map, List.length_range]
      have hvd := vd_of (hns := hns) (n := sz) (cs := nmI hns fl sz) (ds := fl.drop sz) (by rw [hfl9]) (by rw [hfl9]) hh3 hhl (by rw [← hfl9]; omega) (by rw [← hfl9]; exact hflb)
      have hnlt := name_lt hh3 hhl (by omega : sz ≤ fl.length) hflb
      have hdb : ∀ v ∈ fl.drop sz, 0 ≤ v ∧ v < 32 := fun v hv => hflb v (List.mem_of_mem_drop hv)
      have hdl : (fl.drop sz).length ≤ 100 := by rw [List.length_drop]; omega
      obtain ⟨nm, hnm⟩ : ∃ nm, nm = nmI hns fl sz := ⟨_, rfl⟩
      rw [← hnm] at hst hnl hvd hnlt
      clear F10 N10 R10
      ktr_unf
      refine join_call ⟨_, (N11 _ (.head _)).1, rfl, _, rfl⟩ hst (by omega) ?_
      intro t' k'
      have hs0 : (0 : Int) ≤ (sz : Int) := Int.natCast_nonneg _
      ktr_unf
      (rename Fr _ _ _ _ => F12); (rename News _ _ _ _ => N12); (rename IntsAre _ (List.drop _ fl) => hdr)
      rename_i D4 dw h8 hC4 hL4 l8
      rw [Int.toNat_natCast] at hdr
      refine con_verify B F12 X N12 T rfl (by ktr_room) (x := ⟨nm.toArray⟩) (by simpa using hnlt) (by simp; omega) (.head _) hdr hdb hdl ?_
      intro h9 tk9 F13 N13
      clear F12 N12 hC4 hL4
      ktr_unf
      rw [hvd]
      refine app_led (its := told.toArray) (n := tc) [(L + 1 + 1 + 1 + 1 + 1 + 1, o8), (I, oi), (l', listOf #[Value.ref ls, Value.ref lo] 0), (lw, listOf wv.toArray wc), (lh, listOf hv.toArray hc), (L + 1 + 1, o2), (lo, listOf ov.toArray ovc), (ls, listOf sv.toArray svc)] F13 N13 (by simp) ?_ (by rw [List.size_toArray, PySem.sizeLine_eq]; omega) ?_
      · have hI := (hoff2 (lt, listOf told.toArray tc) (by simp [htold])).symm
        clear F13 N13
        intro p hp
        simp only [List.mem_cons, List.not_mem_nil, or_false] at hp
        rcases hp with h | h | h | h | h | h | h | h
        · subst h; exact ⟨by simp, by dsimp only; omega⟩
        · subst h; exact ⟨by simp, hI⟩
        · subst h; exact ⟨by simp, by dsimp only; omega⟩
        · subst h; exact ⟨by simp, by dsimp only; omega⟩
        · subst h; exact ⟨by simp, by dsimp only; omega⟩
        · subst h; exact ⟨by simp, by dsimp only; omega⟩
        · subst h; exact ⟨by simp, by dsimp only; omega⟩
        · subst h; exact ⟨by simp, by dsimp only; omega⟩
      intro h10 F14 N14
      clear F13 N13
      dsimp only
      rw [List.push_toArray] at N14
      ktr_unf
      (rename Fr _ _ _ _ => F15); (rename News _ _ _ _ => N15)
      have hmap : told ++ [Value.bool (Vd hns wns pl f)] = ([z, zo].take (i + 1)).map (fun f => Value.bool (Vd hns wns pl f)) := by rw [htake, List.map_append, htold]; rfl
      rw [hmap] at N15
      refine TPost.next ⟨_, _, _, _, (l', listOf #[Value.ref ls, Value.ref lo] 0) :: (lt, listOf (([z, zo].take (i + 1)).map (fun f => Value.bool (Vd hns wns pl f))).toArray (tc + 1)) :: (lo, listOf ov.toArray ovc) :: (ls, listOf sv.toArray svc) :: (lw, listOf wv.toArray wc) :: (lh, listOf hv.toArray hc) :: (L + 1 + 1 + 1 + 1 + 1 + 1, o8) :: cellsB L o2, rfl, F15, N15, by simp, ?_, ?_, tc + 1, o8, _, hd8, rfl, by dsimp only [kept3]; kst_all1⟩
      · intro p hp
        simp only [cellsB, List.mem_cons, List.not_mem_nil, or_false] at hp ⊢
        rcases hp with h | h | h | h | h | h | h | h <;> simp [h]
      · intro p hp
        simp only [cellsB, List.mem_cons, List.not_mem_nil, or_false] at hp
        rcases hp with h | h | h | h | h | h | h | h
        · subst h; exact hoff2 _ (.head _)
        · subst h; exact hoff2 (lt, listOf (([z, zo].take i).map (fun f => Value.bool (Vd hns wns pl f))).toArray tc) (.tail _ (.head _))
        · subst h; exact hoff2 _ (.tail _ (.tail _ (.head _)))
        · subst h; exact hoff2 _ (.tail _ (.tail _ (.tail _ (.head _))))
        · subst h; exact hoff2 _ (.tail _ (.tail _ (.tail _ (.tail _ (.head _)))))
        · subst h; exact hoff2 _ (.tail _ (.tail _ (.tail _ (.tail _ (.tail _ (.head _))))))
        · subst h; exact hoff2 (L + 1 + 1 + 1 + 1 + 1 + 1, o7) (.tail _ (.tail _ (.tail _ (.tail _ (.tail _ (.tail _ (.head _)))))))
        · subst h; exact hoff2 _ (.tail _ (.tail _ (.tail _ (.tail _ (.tail _ (.tail _ (.tail _ (.head _))))))))
  · rintro m₁ nx h₁ tk₁ ⟨tc, o7, v7, hd7, rfl, hps⟩ G1 N6
    obtain ⟨u6, G2⟩ := fr_cut G1 [(Str.ofString "told", Value.ref lt)] (fun p hp => by rw [List.mem_singleton.mp hp]; exact hps _ (.head _))
    have e : (List.map (fun f => Value.bool (Vd hns wns pl f)) (List.take [Value.ref ls, Value.ref lo].length [z, zo])).toArray = #[Value.bool true, Value.bool false] := by
      show #[Value.bool (Vd hns wns pl z), Value.bool (Vd hns wns pl zo)] = _
      rw [hV1, hV2]
    rw [e] at N6
    dsimp only
    exact next u6 lt tc _ _ G2 (fun p hp => N6 p (by rw [List.mem_singleton.mp hp]; exact .tail _ (.head _)))
end Mine
end
section
open PySem PySem.W PyProof.Rows PySem.Calls PyProof.Rows.LCg
namespace Mine
local macro_rules | `(tactic| ktr_unf) => `(tactic| repeat' ((fail_if_success (with_reducible show wpAny _ _ (PySem.exec (PySem.Stmt.While _ _ _ _) _) _ _ _)); (fail_if_success (with_reducible show wpAny _ _ (PySem.exec (PySem.Stmt.For _ _ _ _ _) _) _ _ _)); (fail_if_success (with_reducible show wpAny _ _ (PySem.execs (PySem.Stmt.For _ _ _ _ _ :: _) _) _ _ _)); (fail_if_success (with_reducible show wpAny _ _ (PySem.exec (PySem.Stmt.Assign _ (PySem.Expr.ListComp _ _ _ _) _) _) _ _ _)); (fail_if_success (with_reducible show wpAny _ _ (PySem.call (Value.ref _) _) _ _ _)); first | (k_unfold; (try dsimp only)) | (k_end; wrow_close) | walk1 | (dsimp only; walk1) | (leave1; walk_say "STEP leave1"; try dsimp only) | fail "no step"))
local macro_rules | `(tactic| walk_at "eval Call Name") => `(tactic| ((with_reducible show wpAny _ _ (eval (PySem.Expr.Call (PySem.Expr.Name "_law_at" _) _ _ _) _) _ _ _); refine Call_ ?_))

set_option maxRecDepth 100000 in
set_option maxHeartbeats 4000000 in
theorem seg8 {w : World} {p : Program} {loose : List Str} {mean : ExcName → Option Value} {mg mb : Str → Option Value} {dp un : Nat} {gd : Option (List Code)} {a : Addr} {ccd : Value} {A₀ : Around} {base H : Heap} {L : Addr} {s : Shared} {Q : Flow → Shared → Prop} {sc : Scope} {body rest : List Stmt}
    (hsc : lawScope = sc) (B : Below A₀ base [] H) (X : (Mine.hd.heap_39 w.params).In H) (T : Top p loose mean mg mb H) (hd : dp + 5 < recursionLimit) {m : Str → Option Value} {lt : Addr} {tc : Nat}
    (hb : lawBody.drop 20 = body) (hr : lawBody.drop 21 = rest)
    (F : Fr H L s.heap m) (hm : m (Str.ofString "told") = some (.ref lt))
    (N : News H L s.heap [(lt, listOf #[Value.bool true, Value.bool false] tc)])
    (hun : un + 200 < cLine) (next : ∀ h tk m, Fr H L h m → Q (.ret (.bool true)) (SetH s h tk)) :
    wpAny (model PySem.Challenge.rw_oo0002_01.row.prog w) (ktrTop dp un gd (Str.ofString "law") sc L a ccd (cellsFrom (L + 1) sc.names []) []) (execs body (envX (Str.ofString "law") sc L a ccd (cellsFrom (L + 1) sc.names []))) Q (fun _ _ => False) s := by
  w_top off
  revert X; k_fill; intro X
  k_with_none
  conv at hb =>
    lhs
    whnf
  conv at hr =>
    lhs
    whnf
  conv at hsc =>
    lhs
    whnf
  dsimp only at hsc
  subst hb
  subst hr
  subst hsc
  obtain ⟨u, F2⟩ := fr_cut F [(Str.ofString "told", Value.ref lt)] (fun p hp => by rw [List.mem_singleton.mp hp]; exact hm)
  clear F hm
  dsimp only [kstB] at F2
  have hkst : KstMark := kstMark
  ktr_unf
  all_goals exact next _ _ _ (by assumption)
end Mine
end
section
open PySem PySem.W PyProof.Rows PySem.Calls
namespace Mine
def pack (s : S6) : Nat := ((((s.1 * 32 + s.2.1) * 32 + s.2.2.1) * 32 + s.2.2.2.1) * 32 + s.2.2.2.2.1) * 32 + s.2.2.2.2.2
theorem xor_self_r (a b : Nat) : a ^^^ (b ^^^ a) = b := by rw [Nat.xor_comm b a, ← Nat.xor_assoc, Nat.xor_self, Nat.zero_xor]
theorem xor_self_l (a b : Nat) : (a ^^^ b) ^^^ a = b := by rw [Nat.xor_comm, ← Nat.xor_assoc, Nat.xor_self, Nat.zero_xor]
theorem xor_self_m (a b : Nat) : (a ^^^ b) ^^^ b = a := by rw [Nat.xor_assoc, Nat.xor_self, Nat.xor_zero]
theorem block (a b c d : Nat) (hb : b < 32) (hd : d < 32) : (a * 32 + b) ^^^ (c * 32 + d) = (a ^^^ c) * 32 + (b ^^^ d) := by
  have h1 : ((a * 32 + b) ^^^ (c * 32 + d)) / 2 ^ 5 = (a * 32 + b) / 2 ^ 5 ^^^ (c * 32 + d) / 2 ^ 5 := Nat.xor_div_two_pow
  have h2 : ((a * 32 + b) ^^^ (c * 32 + d)) % 2 ^ 5 = (a * 32 + b) % 2 ^ 5 ^^^ (c * 32 + d) % 2 ^ 5 := Nat.xor_mod_two_pow
  have e1 : (a * 32 + b) / 2 ^ 5 = a := by omega
  have e2 : (c * 32 + d) / 2 ^ 5 = c := by omega
  have e3 : (a * 32 + b) % 2 ^ 5 = b := by omega
  have e4 : (c * 32 + d) % 2 ^ 5 = d := by omega
  rw [e1, e2] at h1
  rw [e3, e4] at h2
  omega
theorem pack_xor {a b : S6} (ha : S6ok a) (hb : S6ok b) : pack a ^^^ pack b = pack (xor6 a b) := by
  obtain ⟨a1, a2, a3, a4, a5, a6⟩ := ha
  obtain ⟨b1, b2, b3, b4, b5, b6⟩ := hb
  unfold pack xor6
  dsimp only
  rw [block _ _ _ _ a6 b6, block _ _ _ _ a5 b5, block _ _ _ _ a4 b4, block _ _ _ _ a3 b3, block _ _ _ _ a2 b2]
def G6 (u : Nat) : S6 := (gN 29 u, gN 22 u, gN 20 u, gN 21 u, gN 29 u, gN 18 u)
theorem pin_xor (u : Nat) : ∀ (n c : Nat), pin u c n = c ^^^ pin u 0 n
  | 0, c => (Nat.xor_zero c).symm
  | n + 1, c => by
    show pin u c n ^^^ _ = c ^^^ (pin u 0 n ^^^ _)
    rw [pin_xor u n c, Nat.xor_assoc]
theorem pin_G : ∀ u : Fin 32, pin u.1 0 5 = pack (G6 u.1) := by decide +kernel
theorem g_ok {u : Nat} (h : u < 32) : S6ok (G6 u) := ⟨(tab_nat (j := 0) (by decide) h).2, (tab_nat (j := 1) (by decide) h).2, (tab_nat (j := 2) (by decide) h).2, (tab_nat (j := 3) (by decide) h).2, (tab_nat (j := 0) (by decide) h).2, (tab_nat (j := 4) (by decide) h).2⟩
theorem g1718 : ∀ u : Fin 32, gN 17 (gN 18 u.1) = u.1 := by decide +kernel
theorem g1817 : ∀ u : Fin 32, gN 18 (gN 17 u.1) = u.1 := by decide +kernel
theorem xor6_comm (a b : S6) : xor6 a b = xor6 b a := by
  unfold xor6
  rw [Nat.xor_comm a.1, Nat.xor_comm a.2.1, Nat.xor_comm a.2.2.1, Nat.xor_comm a.2.2.2.1, Nat.xor_comm a.2.2.2.2.1, Nat.xor_comm a.2.2.2.2.2]
theorem xor6_ok {a b : S6} (ha : S6ok a) (hb : S6ok b) : S6ok (xor6 a b) :=
  ⟨xor32 ha.1 hb.1, xor32 ha.2.1 hb.2.1, xor32 ha.2.2.1 hb.2.2.1, xor32 ha.2.2.2.1 hb.2.2.2.1, xor32 ha.2.2.2.2.1 hb.2.2.2.2.1, xor32 ha.2.2.2.2.2 hb.2.2.2.2.2⟩
theorem z32 : (0 : Nat) < 32 := by decide
theorem pack_step {s : S6} (h : S6ok s) {v : Nat} (hv : v < 32) : pstep (pack s) v = pack (step6 s v) := by
  obtain ⟨h1, h2, h3, h4, h5, h6⟩ := h
  unfold pstep
  have e1 : pack s / 33554432 = s.1 := by unfold pack; omega
  have e2 : pack s % 33554432 * 32 = pack (s.2.1, s.2.2.1, s.2.2.2.1, s.2.2.2.2.1, s.2.2.2.2.2, 0) := by unfold pack; dsimp only; omega
  have e3 : v = pack (0, 0, 0, 0, 0, v) := by unfold pack; dsimp only; omega
  rw [e1, e2, pin_xor, pin_G ⟨s.1, h1⟩]
  conv => lhs; lhs; rhs; rw [e3]
  rw [pack_xor ⟨h2, h3, h4, h5, h6, z32⟩ ⟨z32, z32, z32, z32, z32, hv⟩, pack_xor ?_ (g_ok h1)]
  · congr 1
    rw [xor6_comm]
    unfold xor6 G6 step6
    dsimp only
    simp only [Nat.xor_zero, Nat.zero_xor]
  · exact xor6_ok ⟨h2, h3, h4, h5, h6, z32⟩ ⟨z32, z32, z32, z32, z32, hv⟩
theorem fold_pack : ∀ (l : List Nat) (s : S6), S6ok s → (∀ v ∈ l, v < 32) → l.foldl pstep (pack s) = pack (l.foldl step6 s)
  | [], _, _, _ => rfl
  | v :: l, s, h, hl => by
    rw [List.foldl_cons, List.foldl_cons, pack_step h (hl v (.head _))]
    exact fold_pack l _ (step6_ok h (hl v (.head _))) fun x hx => hl x (.tail _ hx)
theorem fold_ok : ∀ (l : List Nat) (s : S6), S6ok s → (∀ v ∈ l, v < 32) → S6ok (l.foldl step6 s)
  | [], _, h, _ => h
  | v :: l, s, h, hl => fold_ok l _ (step6_ok h (hl v (.head _))) fun x hx => hl x (.tail _ hx)
theorem pack_one {s : S6} (h : S6ok s) : pack s = 1 ↔ s = one6 := by
  obtain ⟨s1, s2, s3, s4, s5, s6⟩ := s
  obtain ⟨h1, h2, h3, h4, h5, h6⟩ := h
  dsimp only at *
  unfold pack one6
  simp only [Prod.mk.injEq]
  constructor
  · intro h
    omega
  · rintro ⟨rfl, rfl, rfl, rfl, rfl, rfl⟩
    rfl
theorem step_sh (s : S6) (b c d e f v : Nat) : step6 (xor6 s (0, b, c, d, e, f)) v = xor6 (step6 s 0) (b, c, d, e, f, v) := by
  unfold step6 xor6
  dsimp only
  simp only [Nat.xor_zero, Nat.xor_assoc]
theorem six_in (s : S6) (f : S6) : [f.1, f.2.1, f.2.2.1, f.2.2.2.1, f.2.2.2.2.1, f.2.2.2.2.2].foldl step6 s = xor6 ([0, 0, 0, 0, 0, 0].foldl step6 s) f := by
  have e0 : s = xor6 s (0, 0, 0, 0, 0, 0) := by
    unfold xor6
    simp only [Nat.xor_zero]
  simp only [List.foldl_cons, List.foldl_nil]
  conv =>
    lhs
    rw [e0]
  rw [step_sh, step_sh, step_sh, step_sh, step_sh, step_sh]
theorem back_step {s : S6} (h : S6ok s) (v : Nat) : back6 (step6 s v) v = s := by
  unfold back6 step6
  dsimp only
  rw [xor_self_m, g1718 ⟨s.1, h.1⟩]
  simp only [xor_self_l]
theorem step_back {s : S6} (h : S6ok s) {v : Nat} (hv : v < 32) : step6 (back6 s v) v = s := by
  unfold back6 step6
  dsimp only
  rw [g1817 ⟨s.2.2.2.2.2 ^^^ v, xor32 h.2.2.2.2.2 hv⟩]
  simp only [xor_self_r, xor_self_m]
theorem back_ok : ∀ (l : List Nat), (∀ v ∈ l, v < 32) → S6ok (l.foldr (fun v s => back6 s v) one6)
  | [], _ => one6_ok
  | v :: l, h => back6_ok (back_ok l fun x hx => h x (.tail _ hx)) (h v (.head _))
theorem back_fold : ∀ (l : List Nat), (∀ v ∈ l, v < 32) → l.foldl step6 (l.foldr (fun v s => back6 s v) one6) = one6
  | [], _ => rfl
  | v :: l, h => by
    rw [List.foldl_cons, List.foldr_cons, step_back (back_ok l fun x hx => h x (.tail _ hx)) (h v (.head _))]
    exact back_fold l fun x hx => h x (.tail _ hx)
theorem fold_back : ∀ (l : List Nat) (s : S6), S6ok s → (∀ v ∈ l, v < 32) → l.foldl step6 s = one6 → s = l.foldr (fun v s => back6 s v) one6
  | [], _, _, _, e => e
  | v :: l, s, hs, h, e => by
    have h1 := fold_back l (step6 s v) (step6_ok hs (h v (.head _))) (fun x hx => h x (.tail _ hx)) e
    rw [List.foldr_cons, ← h1, back_step hs]
/-- the two ends, as the law reckons them -/
def zA (hns wns : List Int) (pl : Nat) : S6 := ((hns ++ [0] ++ wns.take pl ++ [0, 0, 0, 0, 0, 0]).map Int.toNat).foldl step6 one6
def zB (wns : List Int) (pl : Nat) : S6 := ((wns.drop (pl + 6)).map Int.toNat).foldr (fun v s => back6 s v) one6
theorem tn {l : List Int} (h : ∀ v ∈ l, 0 ≤ v ∧ v < 32) : ∀ v ∈ l.map Int.toNat, v < 32 := by
  intro v hv
  obtain ⟨x, hx, rfl⟩ := List.mem_map.mp hv
  have := h x hx
  omega
section
variable {hns wns : List Int} {pl : Nat} (hh : ∀ v ∈ hns, 0 ≤ v ∧ v ≤ 3) (hw : ∀ v ∈ wns, 0 ≤ v ∧ v < 32)
include hh hw
theorem pre_bnd : ∀ v ∈ (hns ++ [0] ++ wns.take pl ++ [0, 0, 0, 0, 0, 0]).map Int.toNat, v < 32 := tn fun v hv => by
  simp only [List.mem_append, List.mem_cons, List.not_mem_nil, or_false] at hv
  rcases hv with ((hv | hv) | hv) | hv
  · have := hh v hv; omega
  · omega
  · exact hw v (List.mem_of_mem_take hv)
  · omega
theorem zA_ok : S6ok (zA hns wns pl) := fold_ok _ _ one6_ok (pre_bnd hh hw)
omit hh in
theorem post_bnd : ∀ v ∈ (wns.drop (pl + 6)).map Int.toNat, v < 32 := tn fun v hv => hw v (List.mem_of_mem_drop hv)
omit hh in
theorem zB_ok : S6ok (zB wns pl) := back_ok _ (post_bnd hw)
theorem Vd_is {f : S6} (hf : S6ok f) : Vd hns wns pl f = decide (((wns.drop (pl + 6)).map Int.toNat).foldl step6 (xor6 (zA hns wns pl) f) = one6) := by
  have hall : ∀ v ∈ hns.map Int.toNat ++ [0] ++ (fillI wns pl f).map Int.toNat, v < 32 := by
    intro v hv
    simp only [List.mem_append, List.mem_cons, List.not_mem_nil, or_false] at hv
    rcases hv with (hv | hv) | hv
    · exact tn (fun v hv => ⟨(hh v hv).1, by have := (hh v hv).2; omega⟩) v hv
    · omega
    · exact tn (fill_bnd hw hf) v hv
  have e1 : pmod (hns.map Int.toNat ++ [0] ++ (fillI wns pl f).map Int.toNat) = pack ((hns.map Int.toNat ++ [0] ++ (fillI wns pl f).map Int.toNat).foldl step6 one6) := fold_pack _ one6 one6_ok hall
  have e2 : (hns.map Int.toNat ++ [0] ++ (fillI wns pl f).map Int.toNat).foldl step6 one6 = ((wns.drop (pl + 6)).map Int.toNat).foldl step6 (xor6 (zA hns wns pl) f) := by
    have e3 : (sixI f).map Int.toNat = [f.1, f.2.1, f.2.2.1, f.2.2.2.1, f.2.2.2.2.1, f.2.2.2.2.2] := rfl
    have e4 : List.map Int.toNat [0, 0, 0, 0, 0, 0] = [0, 0, 0, 0, 0, 0] := rfl
    have e5 : List.map Int.toNat [0] = [0] := rfl
    unfold fillI zA
    rw [List.map_append, List.map_append, e3, List.map_append, List.map_append, List.map_append, e4, e5]
    simp only [List.foldl_append]
    rw [six_in]
  unfold Vd
  rw [e1, e2]
  have hok : S6ok (((wns.drop (pl + 6)).map Int.toNat).foldl step6 (xor6 (zA hns wns pl) f)) := fold_ok _ _ (xor6_ok (zA_ok hh hw) hf) (post_bnd hw)
  exact decide_eq_decide.mpr (pack_one hok)
omit hh hw in
theorem xor6_cancel (a b : S6) : xor6 a (xor6 a b) = b := by
  unfold xor6
  dsimp only
  simp only [← Nat.xor_assoc, Nat.xor_self, Nat.zero_xor]
theorem V_true : Vd hns wns pl (xor6 (zA hns wns pl) (zB wns pl)) = true := by
  rw [Vd_is hh hw (xor6_ok (zA_ok hh hw) (zB_ok hw)), xor6_cancel]
  exact decide_eq_true (back_fold _ (post_bnd hw))
omit hh hw in
theorem dig_ok (nb : Nat) : S6ok (dig6 nb) := ⟨Nat.mod_lt _ (by decide), Nat.mod_lt _ (by decide), Nat.mod_lt _ (by decide), Nat.mod_lt _ (by decide), Nat.mod_lt _ (by decide), Nat.mod_lt _ (by decide)⟩
omit hh hw in
theorem xor_fix {a b : Nat} (h : a ^^^ b = a) : b = 0 := by
  have h1 : a ^^^ (a ^^^ b) = b := by rw [← Nat.xor_assoc, Nat.xor_self, Nat.zero_xor]
  rw [h, Nat.xor_self] at h1
  exact h1.symm
omit hh hw in
theorem xor6_assoc (a b c : S6) : xor6 a (xor6 b c) = xor6 (xor6 a b) c := by
  unfold xor6
  dsimp only
  simp only [Nat.xor_assoc]
theorem V_false {nb : Nat} (h1 : 1 ≤ nb) (h2 : nb < 1073741824) : Vd hns wns pl (xor6 (xor6 (zA hns wns pl) (zB wns pl)) (dig6 nb)) = false := by
  have hx := xor6_ok (zA_ok (pl := pl) hh hw) (zB_ok (pl := pl) hw)
  rw [Vd_is hh hw (xor6_ok hx (dig_ok nb)), xor6_assoc, xor6_cancel]
  refine decide_eq_false fun e => ?_
  have h3 : xor6 (zB wns pl) (dig6 nb) = zB wns pl := fold_back _ _ (xor6_ok (zB_ok hw) (dig_ok nb)) (post_bnd hw) e
  have g1 := xor_fix (congrArg (·.1) h3)
  have g2 := xor_fix (congrArg (·.2.1) h3)
  have g3 := xor_fix (congrArg (·.2.2.1) h3)
  have g4 := xor_fix (congrArg (·.2.2.2.1) h3)
  have g5 := xor_fix (congrArg (·.2.2.2.2.1) h3)
  have g6 := xor_fix (congrArg (·.2.2.2.2.2) h3)
  unfold dig6 at g1 g2 g3 g4 g5 g6
  dsimp only at g1 g2 g3 g4 g5 g6
  omega
end
end Mine
end
section
open PySem PySem.W PyProof.Rows PySem.Calls PyProof.Rows.LCg
namespace Mine
theorem off_gt {L a : Addr} {o1 o2 o3 o4 o5 o6 : Obj} (h : ∀ p ∈ cells5 L o2 o3 o4 o5 o6 ++ [(L + 1, o1)], @LT.lt Nat _ p.1 a) : OffC L a := offC_of (o1 := o1) (o2 := o2) (o3 := o3) (o4 := o4) (o5 := o5) (o6 := o6) fun p hp => Nat.ne_of_lt (h p hp)
theorem up_off {L a : Nat} (h : Up L a) : OffC L a := by
  unfold Up at h
  unfold OffC
  omega
theorem highs_bnd {x : Str} (h : ReadOk x) : ∀ v ∈ highs x, 0 ≤ v ∧ v ≤ 3 := by
  intro v hv
  obtain ⟨c, hc, rfl⟩ := List.mem_map.mp hv
  have := h.2.2 c hc
  omega
theorem highs_len (x : Str) : (highs x).length = x.cps.size := by unfold highs; simp
theorem whole_bnd {x : Str} {rns : List Int} (hr : RowOk6 rns) : ∀ v ∈ lows x ++ rns, 0 ≤ v ∧ v < 32 := by
  intro v hv
  rcases List.mem_append.mp hv with hv | hv
  · obtain ⟨c, hc, rfl⟩ := List.mem_map.mp hv
    omega
  · exact hr.2.2 v hv
theorem whole_len (x : Str) (rns : List Int) : (lows x ++ rns).length = x.cps.size + rns.length := by unfold lows; simp

set_option maxRecDepth 100000 in
set_option maxHeartbeats 4000000 in
theorem lawC {w : World} {p : Program} {loose : List Str} {mean : ExcName → Option Value} {mg mb : Str → Option Value} {dp un : Nat} {gd : Option (List Code)} {a : Addr} {ccd : Value} {A₀ : Around} {base H : Heap} {L : Addr} {s : Shared} {Q : Flow → Shared → Prop} {sc : Scope} {body rest : List Stmt}
    (hsc : lawScope = sc) (B : Below A₀ base [] H) (X : (Mine.hd.heap_39 w.params).In H) (T : Top p loose mean mg mb H) (hd : dp + 5 < recursionLimit) {m : Str → Option Value} {l : Addr} {vs : List Value} {ns : List Int} {o1 o2 o3 o4 o5 o6 : Obj} {v1 v2 v3 v4 v5 v6 : Option Value}
    (hb : lawBody = body) (hun : un + 200 < cLine)
    (hl : H.IsList l vs.toArray) (hi : IntsAre vs ns) (hlen : ns.length ≤ 63)
    (F : Fr H L s.heap m) (hm : m (Str.ofString "script") = some (.ref l)) (N : News H L s.heap (cells5 L o2 o3 o4 o5 o6 ++ [(L + 1, o1)]))
    (hd1 : o1.data = .cell v1) (hd2 : o2.data = .cell v2) (hd3 : o3.data = .cell v3) (hd4 : o4.data = .cell v4) (hd5 : o5.data = .cell v5) (hd6 : o6.data = .cell v6)
    (next : ∀ h tk m, Fr H L h m → Q (.ret (.bool true)) (SetH s h tk)) :
    wpAny (model PySem.Challenge.rw_oo0002_01.row.prog w) (ktrTop dp un gd (Str.ofString "law") sc L a ccd (cellsFrom (L + 1) sc.names []) []) (execs body (envX (Str.ofString "law") sc L a ccd (cellsFrom (L + 1) sc.names []))) Q (fun _ _ => False) s := by
  refine seg0 hsc B X T hd hb rfl hl hi hlen F hm N ?_
  intro u0 x tx lr h0 tk0 hx hlr F0 N0
  have hup : Up L lr := hlr (L + 1 + 1 + 1 + 1 + 1 + 1, o6) (by simp [cells5])
  refine seg1 hsc B X T hd rfl rfl hl hi hlen F0 (by dsimp only [kstB, six6, kept, kept2, kept3, one6, List.cons_append, List.nil_append]; kst_all1) N0 hup hd1 ?_
  intro u1 lr1 rv rns rc o1 v1 h1 tk1 hrv hrok hup1 hd1 F1 N1
  refine seg2a hsc B X T hd rfl rfl F1 (by dsimp only [kstB, six6, kept, kept2, kept3, one6, List.cons_append, List.nil_append]; kst_all1) hrv hrok N1 (fun p hp => ?_) ?_
  · simp only [cells5, List.cons_append, List.nil_append, List.mem_cons, List.not_mem_nil, or_false] at hp
    unfold Up at hup1
    rcases hp with h | h | h | h | h | h <;> (subst h; refine ltN ?_; dsimp only; omega)
  intro u2 lr2 rv2 rns2 rc2 h2 tk2 hrv2 hrok2 hlr2 F2 N2
  have off2 : OffC L lr2 := off_gt hlr2
  refine seg2b hsc B X T hd rfl rfl hx F2 (by dsimp only [kstB, six6, kept, kept2, kept3, one6, List.cons_append, List.nil_append]; kst_all1) hrv2 hrok2 N2 off2 hd2 ?_
  intro u3 ts lh hv hc lw wv wc o2 h3 tk3 hhv hwv offh offw hlhw hd2 F3 N3
  have hw6 := whole_len x rns2
  have hh3 := highs_bnd hx
  have hhl := highs_len x
  have hw32 := whole_bnd (x := x) hrok2
  have hx8 := hx.2.1
  have hr6 := hrok2.1
  have hr60 := hrok2.2.1
  generalize hwns : lows x ++ rns2 = wns at *
  generalize hhns : highs x = hns at *
  refine seg2c hsc B X T hd rfl rfl hl hi hlen F3 (by dsimp only [kstB, six6, kept, kept2, kept3, one6, List.cons_append, List.nil_append]; kst_all1) hwv (by omega) (by omega) N3 ?_
  intro u4 t1 t2 t3 t4 t5 t6 pl tp e1 e2 e3 e4 e5 e6 h4 tk4 hpl hok htl F4 N4
  refine seg3 hsc B X T hd rfl rfl F4 (by dsimp only [kstB, six6, kept, kept2, kept3, one6, List.cons_append, List.nil_append]; kst_all1) hhv (fun v hv => ⟨(hh3 v hv).1, by have := (hh3 v hv).2; omega⟩) (by omega) hwv hw32 (by omega) hpl hok hd2 N4 ?_
  intro u5 za f1 f2 f3 f4 f5 f6 h5 tk5 hza hzaok F5 N5
  have hoffs : OffAll L [lw, lh, t1.1, t2.1, t3.1, t4.1, t5.1, t6.1] := by
    unfold OffAll
    simp only [List.forall_mem_cons, List.not_mem_nil, false_implies, implies_true, and_true]
    exact ⟨offw, offh, off_gt (htl t1 (by simp)), off_gt (htl t2 (by simp)), off_gt (htl t3 (by simp)), off_gt (htl t4 (by simp)), off_gt (htl t5 (by simp)), off_gt (htl t6 (by simp))⟩
  refine seg4 hsc B X T hd rfl rfl F5 (by dsimp only [kstB, six6, kept, kept2, kept3, one6, List.cons_append, List.nil_append]; kst_all1) hoffs hd3 N5 ?_
  intro u6 la av ac o3 g1 g2 g3 g4 g5 g6 h6 tk6 hav offa hd3 F6 N6
  refine seg5 hsc B X T hd rfl rfl F6 (by dsimp only [kstB, six6, kept, kept2, kept3, one6, List.cons_append, List.nil_append]; kst_all1) hwv hw32 (by omega) hpl hok N6 ?_
  intro u7 zb k1 k2 k3 k4 k5 k6 h7 tk7 hzb hzbok F7 N7
  have N7' : News H L h7 ((la, listOf av.toArray ac) :: (lw, listOf wv.toArray wc) :: (lh, listOf hv.toArray hc) :: (cells5 L o2 o3 o4 o5 o6 ++ [(L + 1, o1)])) := by
    intro p hp
    refine N7 p ?_
    simp only [tabs6, cells5, List.cons_append, List.nil_append, List.mem_cons, List.not_mem_nil, or_false] at hp ⊢
    rcases hp with h | h | h | h | h | h | h | h | h <;> simp [h]
  refine seg6a (z := zb) (za := za) (o6 := o6) (o2 := o2) (o1 := o1) hsc B X T hd rfl rfl F7 (by dsimp only [kstB, six6, kept, kept2, kept3, one6, List.cons_append, List.nil_append]; kst_all1) hav ?_ hd3 hd4 hd5 N7' ?_
  · unfold OffAll
    simp only [List.forall_mem_cons, List.not_mem_nil, false_implies, implies_true, and_true]
    exact ⟨offw, offh, offa⟩
  intro u8 ls sv svc o4 o5 h8 tk8 hsv offs hd5 F8 N8
  refine seg6b (z := xor6 za zb) hsc B X T hd rfl rfl hl hi hlen F8 (by dsimp only [kstB, six6, kept, kept2, kept3, one6, List.cons_append, List.nil_append]; kst_all1) hsv ?_ hd1 hd5 N8 ?_
  · unfold OffAll
    simp only [List.forall_mem_cons, List.not_mem_nil, false_implies, implies_true, and_true]
    exact ⟨offw, offh, offs⟩
  intro u9 lo lt nb ov ovc o1 h9 tk9 hnb1 hnb2 hov offo hlt F9 N9
  have hzaE : za = zA hns wns pl := hza
  have hzbE : zb = zB wns pl := hzb
  have hsub : ∀ p ∈ (lo, listOf ov.toArray ovc) :: (ls, listOf sv.toArray svc) :: (lw, listOf wv.toArray wc) :: (lh, listOf hv.toArray hc) :: (L + 1 + 1 + 1 + 1 + 1 + 1, o6) :: cellsD L o2 o5, p ∈ (lo, listOf ov.toArray ovc) :: (ls, listOf sv.toArray svc) :: (lw, listOf wv.toArray wc) :: (lh, listOf hv.toArray hc) :: (cells5 L o2 o3 o4 o5 o6 ++ [(L + 1, o1)]) := by
    intro p hp
    simp only [cellsD, cells5, List.cons_append, List.nil_append, List.mem_cons, List.not_mem_nil, or_false] at hp ⊢
    rcases hp with h | h | h | h | h | h | h <;> simp [h]
  have N9' : News H L h9 ((lt, listOf #[] 0) :: (lo, listOf ov.toArray ovc) :: (ls, listOf sv.toArray svc) :: (lw, listOf wv.toArray wc) :: (lh, listOf hv.toArray hc) :: (L + 1 + 1 + 1 + 1 + 1 + 1, o6) :: cellsD L o2 o5) := by
    intro p hp
    rcases List.mem_cons.mp hp with rfl | hp
    · exact N9 _ (.head _)
    · exact N9 p (.tail _ (hsub p hp))
  refine seg7 (z := xor6 za zb) (zo := xor6 (xor6 za zb) (dig6 nb)) (o2 := o2) (o5 := o5) (o6 := o6) hsc B X T hd rfl rfl F9 (by dsimp only [kstB, six6, kept, kept2, kept3, one6, List.cons_append, List.nil_append]; kst_all1) hhv hh3 hhl hx8 hwv hw32 (by omega) hpl (by omega) hsv hov (xor6_ok hzaok hzbok) (xor6_ok (xor6_ok hzaok hzbok) (dig_ok nb)) (by rw [hzaE, hzbE]; exact V_true hh3 hw32) (by rw [hzaE, hzbE]; exact V_false hh3 hw32 hnb1 hnb2) ?_ hd2 hd5 hd6 (fun p hp => hlt p (hsub p hp)) N9' ?_
  · unfold OffAll
    simp only [List.forall_mem_cons, List.not_mem_nil, false_implies, implies_true, and_true]
    exact ⟨offw, offh, offs, offo⟩
  intro u10 lt2 tc h10 tk10 F10 N10
  have hm10 : kstB u10 [(Str.ofString "told", Value.ref lt2)] (Str.ofString "told") = some (.ref lt2) := by
    dsimp only [kstB]
    rw [if_pos rfl]
  refine seg8 hsc B X T hd rfl rfl F10 hm10 N10 hun ?_
  intro h11 tk11 m11 F11
  exact next h11 tk11 m11 F11
end Mine
end
open PySem PySem.W PyProof.Rows PySem.Calls PyProof.Rows.LCg
set_option maxRecDepth 100000 in
set_option maxHeartbeats 8000000 in
theorem PySem.Challenge.cw_oo0002_01_holds : PySem.Challenge.rw_oo0002_01.Holds := by
  refine Mine.hd ?_
  w_top off
  k_go0
  refine wpAny_noRaise ?_
  (rename Fr _ _ _ _ => F); (rename News _ _ _ _ => N); (rename Below _ _ _ _ => B); (rename Top _ _ _ _ _ _ => T); (rename IntsAre _ _ => hi); (rename Heap.IsList _ _ _ => hl); (rename ¬ _ => hlen); (rename Frag.In _ _ => X)
  have hlen2 := hlen
  refine Mine.lawC (rest := []) rfl B X T ?hd rfl ?hun hl hi ?hlen F ?hm N (by assumption) (by assumption) (by assumption) (by assumption) (by assumption) (by assumption) ?next
  case hd => decide
  case hun => decide
  case hlen => omega
  case hm => rfl
  case next =>
    intro h tk m F9
    clear F N
    dsimp only [Mine.SetH]
    refine goodW_bool (L := _) F9 (by assumption) (raisesW_false ?_) ?_
    · wrow_none_raised
    · wrow_post
