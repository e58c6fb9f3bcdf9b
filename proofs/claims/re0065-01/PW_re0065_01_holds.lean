import PyProof.Rows.All
import Wide.All
import OpenK.AllK
import Wide.FinOn
import PySem.Challenge.RW_re0065_01
open PySem PySem.W PyProof.Rows
set_option Elab.async false
set_option maxRecDepth 100000
set_option linter.unusedVariables false
set_option compiler.extract_closed false
namespace Mine
end Mine
open Mine
section
set_option maxHeartbeats 8000000
open_top hd1 for PySem.Challenge.rw_re0065_01
end
theorem Mine.top_off : True := by
  w_top off
  trivial
section
namespace Mine
theorem world_ne : Nonempty World := by
  refine ⟨⟨fun _ _ => 0, ?_⟩⟩
  constructor <;> first | exact default | exact fun _ => default | exact fun _ _ => default | exact fun _ _ _ => default | exact fun _ => 0 | exact fun _ _ => 0 | exact ⟨default⟩ | constructor
noncomputable def gen {α : Type _} (ne : Nonempty α) (P : α → Prop) : α := @Classical.epsilon α ne fun x => ¬ P x
theorem of_gen {α : Type _} {ne : Nonempty α} {P : α → Prop} (h : P (gen ne P)) (x : α) : P x := Classical.byContradiction fun q => (@Classical.epsilon_spec α (fun x => ¬ P x) ⟨x, q⟩) h
end Mine
end
section
namespace Mine
abbrev Aro (dp un : Nat) (gd : Option (List Code)) (outers : List Env) : Around :=
  { depth := dp, frames := some outers, guards := gd, units := un }
noncomputable def Keeps (h h' : Heap) : Prop := ∀ b o, h.get? b = some o → h'.get? b = some o
theorem Keeps.refl (h : Heap) : Keeps h h := fun _ _ e => e
theorem Keeps.trans {h h' h'' : Heap} (a : Keeps h h') (b : Keeps h' h'') : Keeps h h'' := fun x o e => b x o (a x o e)
noncomputable def Tells (prog : Program) (w : World) (K : Frag) (p : Program) (loose : List Str) (mean : ExcName → Option Value) (mg mb : Str → Option Value)
    (d : Nat) (f : Addr) (vs : List Value) (Pre : Heap → Prop) (Post : Value → Heap → Heap → Prop) : Prop :=
  ∀ (dp un : Nat) (gd : Option (List Code)) (outers : List Env) (base : Heap) (s : Shared) (Q E : Value → Shared → Prop),
    Below (Aro dp un gd outers) base outers s.heap → K.In s.heap → Top p loose mean mg mb s.heap →
    dp + d < recursionLimit → un + 20 * d < cLine → Pre s.heap →
    (∀ v h' tk', Keeps s.heap h' → Post v s.heap h' → Q v { s with heap := h', toks := tk' }) →
    wpAny (model prog w) (Aro dp un gd outers) (call (.ref f) vs) Q E s
section
variable {prog : Program} {w : World} {s : Shared} {K : Frag} {base : Heap} {mg mb : Str → Option Value} {p : Program} {loose : List Str} {mean : ExcName → Option Value}
theorem enter {A : Around} {outers : List Env} {R : Result → Shared → Prop} {name qual : Str} {params : Arguments} {body : List Stmt} {scope : Scope} {dV kV doc pm cdv ct oc : Value} {an od : Option Addr} {osl : Array (Option Value)} {f : Addr} {args : Args} {binds : List (Str × Value)}
    (B : Below A base outers s.heap) (X : K.In s.heap) (T : Top p loose mean mg mb s.heap)
    (ho : K.lookup f = some ⟨oc, od, .func (fnOf name qual params body scope dV kV doc pm an cdv ct), osl⟩) (hcd : codeIn K cdv qual = true) (hroom : A.depth < recursionLimit)
    (hbind : BindsTo s (fnOf name qual params body scope dV kV doc pm an cdv ct) args binds) (hloc : ∀ y ∈ binds, scope.names.lookup y.1 = some .local)
    (h : ∀ g L' h₁, g = s.heap → Fr g L' h₁ (fun y => binds.reverse.lookup y) → News g L' h₁ [] → Below A base outers g → K.In g → Top p loose mean mg mb g →
      wpAny (model prog w) (A.deeper (envOf qual scope L' f cdv)) (execs body (envOf qual scope L' f cdv))
        (fun fl s' => R (.ok (.ret (match fl with | .ret v => v | _ => .none))) s')
        (fun e s' => wpAny (model prog w) (A.deeper (envOf qual scope L' f cdv)) (leaving (envOf qual scope L' f cdv) e) (fun _ s'' => R (.error e) s'') (fun e' s'' => R (.error e') s'') s')
        { s with heap := h₁, toks := s.toks + binds.length })
    (hco : scope.isCoroutine = false) (hgen : scope.isGenerator = false) (hk : scope.kind = .function)
    (hcell : ∀ x ∈ scope.names, x.2 ≠ .cell) : codeAny (model prog w) A (.call (.ref f) args) R s := by
  refine codeAny_call_def (fd := fnOf name qual params body scope dV kV doc pm an cdv ct) (body := body) (binds := binds) hroom (X _ _ ho) rfl T.nolimit (codeRec_of X hcd) rfl hbind hcell hloc (fun h₁ hns hk₁ => ?_) hco hgen hk
  exact h s.heap s.heap.objs.size h₁ rfl ⟨hns, hk₁, Nat.le_refl _⟩ News.nil B X T
end
theorem below_here {A A₀ : Around} {base h₀ h : Heap} {outer : List Env} {env : Env} {L : Addr} {m : Str → Option Value}
    (B : Below A₀ base outer h₀) (F : Fr h₀ L h m) (hA : A.frames = some (env :: outer)) (hf : env.frame = some L) (hke : env.scope.kind = .function) : Below A base (env :: outer) h := by
  have hnew : base.get? L = none := by
    cases hq : base.get? L with
    | none => rfl
    | some o => exact absurd (Nat.lt_of_lt_of_le (Heap.lt_size (B.stays L o hq)) F.above) (Nat.lt_irrefl _)
  refine ⟨hA, fun b o e => F.keep b o (B.stays b o e), ?_⟩
  exact .cons (by rw [hke]; decide) hf F.ns hnew (B.frames.of_keeps fun b o e _ => ⟨o, F.keep b o e, rfl⟩)
section
variable {prog : Program} {w : World} {s : Shared} {K : Frag} {base : Heap} {mg mb : Str → Option Value} {p : Program} {loose : List Str} {mean : ExcName → Option Value}
theorem tells_use {d : Nat} {f : Addr} {vs : List Value} {Pre : Heap → Prop} {Post : Value → Heap → Heap → Prop} {A A₀ : Around} {outer : List Env} {env : Env} {h₀ : Heap} {L : Addr} {m : Str → Option Value} {news : List (Addr × Obj)} {Q E : Value → Shared → Prop}
    (C : Tells prog w K p loose mean mg mb d f vs Pre Post) (B : Below A₀ base outer h₀) (F : Fr h₀ L s.heap m) (N : News h₀ L s.heap news) (X : K.In h₀) (T : Top p loose mean mg mb h₀)
    (hA : A = Aro A.depth A.units A.guards (env :: outer)) (hf : env.frame = some L) (hke : env.scope.kind = .function) (hd : A.depth + d < recursionLimit) (hu : A.units + 20 * d < cLine) (hp : Pre s.heap)
    (h : ∀ v h' tk', Fr h₀ L h' m → News h₀ L h' news → Keeps s.heap h' → Post v s.heap h' → Q v { s with heap := h', toks := tk' }) :
    wpAny (model prog w) A (call (.ref f) vs) Q E s := by
  have hfr : A.frames = some (env :: outer) := by rw [hA]
  have B1 : Below A base (env :: outer) s.heap := below_here B F hfr hf hke
  rw [hA] at B1 ⊢
  exact C A.depth A.units A.guards (env :: outer) base s Q E B1 (X.keeps F.keep) (T.keeps F.keep) hd hu hp fun v h' tk' k q => h v h' tk' (F.keeps k) (N.grown k) k q
theorem int_is {x y : Int} {t : Tok} (h : x = y) : ∃ t', Value.int x t = Value.int y t' := ⟨t, by rw [h]⟩
theorem ret_keep {g h h' : Heap} {L : Addr} {m : Str → Option Value} (hg : g = h') (F : Fr g L h m) : Keeps h' h := hg ▸ F.keep
theorem news_join {h₀ h h' : Heap} {L l : Addr} {m : Str → Option Value} {news : List (Addr × Obj)} {o : Obj} (F : Fr h₀ L h m) (N' : News h₀ L h' news) (ho : h'.get? l = some o) (hn : h.get? l = none) : News h₀ L h' ((l, o) :: news) := by
  intro p hp
  rcases List.mem_cons.mp hp with rfl | hp
  · refine ⟨ho, fun e => ?_, ?_⟩
    · obtain ⟨oL, _, _, hL, _⟩ := F.ns
      rw [← e, hn] at hL; cases hL
    · cases q : h₀.get? l with
      | none => rfl
      | some o' => have := F.keep _ _ q; rw [hn] at this; cases this
  · exact N' p hp
end
noncomputable def At (h₀ : Heap) (L : Addr) (s : Shared) (led : List (Addr × Obj)) (ps : List (Str × Value)) (s₂ : Shared) : Prop :=
  ∃ h tk m news, s₂ = { s with heap := h, toks := tk } ∧ Fr h₀ L h m ∧ News h₀ L h news ∧ (∀ p ∈ led, p ∈ news) ∧ (∀ p ∈ ps, m p.1 = some p.2)
theorem At.mk' {h₀ : Heap} {L : Addr} {s : Shared} {led news : List (Addr × Obj)} {ps : List (Str × Value)} {h : Heap} {tk : Nat} {m : Str → Option Value}
    (F : Fr h₀ L h m) (N : News h₀ L h news) (hl : ∀ p ∈ led, p ∈ news) (hp : ∀ p ∈ ps, m p.1 = some p.2) : At h₀ L s led ps { s with heap := h, toks := tk } :=
  ⟨h, tk, m, news, rfl, F, N, hl, hp⟩
theorem fr_known {h₀ h : Heap} {L : Addr} {m : Str → Option Value} {ps : List (Str × Value)} (F : Fr h₀ L h m) (hp : ∀ p ∈ ps, m p.1 = some p.2) : Fr h₀ L h (kstB m ps) := by
  have e : kstB m ps = m := by
    funext y
    exact kstB_eq hp fun _ => rfl
  rw [e]; exact F
noncomputable def Out {σ : Type} (h₀ : Heap) (L : Addr) (s : Shared) (Led : σ → List (Addr × Obj)) (ps : σ → List (Str × Value)) (X : σ → Prop) (s₂ : Shared) : Prop :=
  ∃ c, At h₀ L s (Led c) (ps c) s₂ ∧ X c
theorem Out.mk' {σ : Type} {h₀ : Heap} {L : Addr} {s : Shared} {Led : σ → List (Addr × Obj)} {ps : σ → List (Str × Value)} {X : σ → Prop} {news : List (Addr × Obj)} {h : Heap} {tk : Nat} {m : Str → Option Value} (c : σ)
    (F : Fr h₀ L h m) (N : News h₀ L h news) (hl : ∀ p ∈ Led c, p ∈ news) (hp : ∀ p ∈ ps c, m p.1 = some p.2) (hx : X c) : Out h₀ L s Led ps X { s with heap := h, toks := tk } :=
  ⟨c, At.mk' F N hl hp, hx⟩
theorem Out.use {σ : Type} {h₀ : Heap} {L : Addr} {s s₂ : Shared} {Led : σ → List (Addr × Obj)} {ps : σ → List (Str × Value)} {X : σ → Prop} {P : Shared → Prop} (o : Out h₀ L s Led ps X s₂)
    (h : ∀ c u h tk, X c → Fr h₀ L h (kstB u (ps c)) → News h₀ L h (Led c) → P { s with heap := h, toks := tk }) : P s₂ := by
  obtain ⟨c, ⟨h', tk, m, news, rfl, F, N, hl, hp⟩, hx⟩ := o
  exact h c m h' tk hx (fr_known F hp) fun p hp => N p (hl p hp)
section
variable {prog : Program} {w : World} {A : Around} {E : Value → Shared → Prop} {Q : Flow → Shared → Prop} {s : Shared} {env : Env} {h₀ : Heap} {L : Addr}
theorem seq_cut {σ : Type} {st : Stmt} {rest : List Stmt} (Led : σ → List (Addr × Obj)) (ps : σ → List (Str × Value)) (X : σ → Prop)
    (h : wpAny (model prog w) A (exec st env) (fun f s' => match f with | .next => Out h₀ L s Led ps X s' | f => Q f s') E s)
    (k : ∀ c u h tk, X c → Fr h₀ L h (kstB u (ps c)) → News h₀ L h (Led c) → wpAny (model prog w) A (execs rest env) Q E { s with heap := h, toks := tk }) :
    wpAny (model prog w) A (execs (st :: rest) env) Q E s := by
  refine wpAny_execs_cons (wpAny_mono h (fun f s' q => ?_) fun _ _ x => x)
  cases f with
  | next => exact Out.use (P := fun s' => wpAny (model prog w) A (execs rest env) Q E s') q k
  | brk => exact q
  | cont => exact q
  | ret v => exact q
noncomputable def WTurn {σ : Type} (h₀ : Heap) (L : Addr) (s : Shared) (Led : σ → List (Addr × Obj)) (ps : σ → List (Str × Value)) (P X : σ → Prop) (μ : σ → Nat) (Q : Flow → Shared → Prop) (c : σ) (f : Flow) (s₂ : Shared) : Prop :=
  match f with
  | .ret v => Q (.ret v) s₂
  | .brk => Out h₀ L s Led ps X s₂
  | _ => Out h₀ L s Led ps (fun c' => P c' ∧ μ c' < μ c) s₂
theorem while_cut {σ : Type} {test : Expr} {body : List Stmt} {pos : Pos} {m₀ : Str → Option Value} (Led : σ → List (Addr × Obj)) (ps : σ → List (Str × Value)) (P X : σ → Prop) (μ : σ → Nat) (c₀ : σ)
    (F : Fr h₀ L s.heap m₀) (N : News h₀ L s.heap (Led c₀)) (hk : ∀ p ∈ ps c₀, m₀ p.1 = some p.2) (hp : P c₀)
    (turn : ∀ (c : σ) (u : Str → Option Value) h tk, P c → Fr h₀ L h (kstB u (ps c)) → News h₀ L h (Led c) →
      wpAny (model prog w) A (isTrue test env (eval test env)) (fun b s₂ =>
        if b = true then wpAny (model prog w) A (execs body env) (WTurn h₀ L s Led ps P X μ Q c) E s₂ else Out h₀ L s Led ps X s₂) E { s with heap := h, toks := tk })
    (done : ∀ c u h tk, X c → Fr h₀ L h (kstB u (ps c)) → News h₀ L h (Led c) → Q .next { s with heap := h, toks := tk })
    (hE : PassesOwn (model prog w) A env E := by passes_own) :
    wpAny (model prog w) A (exec (.While test body [] pos) env) Q E s := by
  refine While_inv2 (fun n m nx => ∃ c : σ, nx = Led c ∧ μ c = n ∧ (∀ p ∈ ps c, m p.1 = some p.2) ∧ P c) F N ⟨c₀, rfl, rfl, hk, hp⟩ ?_ hE
  rintro n m₁ nx h tk F₁ N₁ ⟨c, hnx, hsz, h1, hp'⟩
  rw [hnx] at N₁
  rw [← hsz]
  refine wpAny_mono (turn c m₁ h tk hp' (fr_known F₁ h1) N₁) (fun b s₂ p => ?_) fun _ _ x => x
  cases b with
  | false => simp only [Bool.false_eq_true, if_false] at p ⊢; exact Out.use (P := fun s' => Q .next s') p done
  | true =>
    simp only [if_true] at p ⊢
    refine wpAny_mono p (fun f s₃ q => ?_) fun _ _ x => x
    cases f with
    | ret v => exact q
    | brk => exact Out.use (P := fun s' => Q .next s') q done
    | next =>
      obtain ⟨c', ⟨h', tk', m', news', rfl, F', N', hn, hk9⟩, hp9, hm9⟩ := q
      exact ⟨h', tk', m', Led c', μ c', rfl, F', fun p hp => N' p (hn p hp), hm9, c', rfl, rfl, hk9, hp9⟩
    | cont =>
      obtain ⟨c', ⟨h', tk', m', news', rfl, F', N', hn, hk9⟩, hp9, hm9⟩ := q
      exact ⟨h', tk', m', Led c', μ c', rfl, F', fun p hp => N' p (hn p hp), hm9, c', rfl, rfl, hk9, hp9⟩
noncomputable def FTurn {σ : Type} (h₀ : Heap) (L : Addr) (s : Shared) (Led : σ → List (Addr × Obj)) (ps : σ → List (Str × Value)) (I : Addr) (oI : Obj) (P X : σ → Prop) (Q : Flow → Shared → Prop) (f : Flow) (s₂ : Shared) : Prop :=
  match f with
  | .ret v => Q (.ret v) s₂
  | .brk => Out h₀ L s Led ps X s₂
  | _ => Out h₀ L s (fun c => (I, oI) :: Led c) ps (fun c' => P c' ∧ ∀ p ∈ Led c', p.1 ≠ I) s₂
theorem loop_cut {σ : Type} {x : Str} {body : List Stmt} {I : Addr} {fp : List Addr} {n : Nat} {Pv : Nat → Value → Prop} {St : Nat → Heap → Prop} {m₀ : Str → Option Value}
    (Led : σ → List (Addr × Obj)) (ps : σ → List (Str × Value)) (P : Nat → σ → Prop) (X : σ → Prop) (c₀ : σ)
    (W : Walks prog w A I fp [I] n Pv St) (hIf : I ∈ fp) (hLf : env.locals ∉ fp) (hI0 : h₀.get? I = none) (hSt : ∀ i h, St i h → ∃ o, h.get? I = some o)
    (hfp : ∀ b ∈ fp, b ≠ I → (∃ o, h₀.get? b = some o) ∨ (∃ o, ∀ c, (b, o) ∈ Led c))
    (hnw : ∀ p ∈ Led c₀, p.1 ≠ I) (hst : St 0 s.heap) (F : Fr h₀ env.locals s.heap m₀) (N : News h₀ env.locals s.heap (Led c₀)) (hk : ∀ p ∈ ps c₀, m₀ p.1 = some p.2) (hP : P 0 c₀)
    (turn : ∀ i v c u h tk oI, i < n → Pv i v → P i c → (∀ p ∈ Led c, p.1 ≠ I) → Fr h₀ env.locals h (fun y => if y = x then some v else kstB u (ps c) y) → News h₀ env.locals h ((I, oI) :: Led c) →
      wpAny (model prog w) A (execs body env) (FTurn h₀ env.locals s Led ps I oI (P (i + 1)) X Q) E { s with heap := h, toks := tk })
    (hX : ∀ c, P n c → X c)
    (done : ∀ c u h tk, X c → Fr h₀ env.locals h (kstB u (ps c)) → News h₀ env.locals h (Led c) → Q .next { s with heap := h, toks := tk }) :
    LoopAtV prog w A h₀ env x body Q E (.ref I) s := by
  refine ⟨I, fp, [I], n, Pv, St, m₀, Led c₀, (fun i m nx => ∃ c, nx = Led c ∧ (∀ p ∈ ps c, m p.1 = some p.2) ∧ P i c), rfl, W, hLf, ?_, ?_, hst, F, N, ⟨c₀, rfl, hk, hP⟩, ?_, ?_⟩
  · intro b hb; rw [List.mem_singleton.mp hb]; exact hI0
  · intro p hp hI; exact hnw p hp (List.mem_singleton.mp hI)
  · rintro i v m₁ news₁ s₁ own ⟨hh', tk', rfl⟩ hin hPv ⟨c, rfl, hk₁, hPc⟩ hoff hown hownh hmem hst₁ F₁ N₁
    obtain ⟨oI, hoI⟩ := hSt _ _ hst₁
    have hIown : (I, oI) ∈ own := hmem I hIf hI0 oI hoI
    have F₂ : Fr h₀ env.locals hh' (fun y => if y = x then some v else kstB m₁ (ps c) y) := by
      have e : kstB m₁ (ps c) = m₁ := by funext y; exact kstB_eq hk₁ fun _ => rfl
      rw [e]; exact F₁
    have N₂ : News h₀ env.locals hh' ((I, oI) :: Led c) := fun p hp => by
      rcases List.mem_cons.mp hp with rfl | hp
      · exact N₁ _ (List.mem_append_left _ hIown)
      · exact N₁ _ (List.mem_append_right _ hp)
    refine wpAny_mono (turn i v c m₁ hh' tk' oI hin hPv hPc (fun p hp e => hoff p hp (by rw [e]; exact .head _)) F₂ N₂) (fun f s₂ q => ?_) fun _ _ e => e
    have fin : Out h₀ env.locals s (fun c => (I, oI) :: Led c) ps (fun c' => P (i + 1) c' ∧ ∀ p ∈ Led c', p.1 ≠ I) s₂ →
        LoopStepU h₀ env.locals [I] own (fun m nx => ∃ c, nx = Led c ∧ (∀ p ∈ ps c, m p.1 = some p.2) ∧ P (i + 1) c) { s with heap := hh', toks := tk' } .next s₂ := by
      rintro ⟨c', ⟨h', tk, m', news', rfl, F', N', hn, hk9⟩, hp9, hne⟩
      refine ⟨rfl, h', tk, m', Led c', rfl, F', ?_, fun p hp hI => hne p hp (List.mem_singleton.mp hI), c', rfl, hk9, hp9⟩
      intro p hp
      rcases List.mem_append.mp hp with hp | hp
      · have hb := hown p hp
        have hN := N₁ p (List.mem_append_left _ hp)
        by_cases hpI : p.1 = I
        · have e2 : p.2 = oI := by have := hN.1; rw [hpI, hoI] at this; exact (Option.some.inj this).symm
          have : p = (I, oI) := by rw [← hpI, ← e2]
          rw [this]; exact N' _ (hn _ (.head _))
        · rcases hfp p.1 hb hpI with ⟨o, ho⟩ | ⟨o, ho⟩
          · rw [hN.2.2] at ho; cases ho
          · have e1 := (N₁ _ (List.mem_append_right _ (ho c))).1
            have e2 : p.2 = o := by have := hN.1; rw [this] at e1; exact Option.some.inj e1
            have : p = (p.1, o) := by rw [← e2]
            rw [this]; exact N' _ (hn _ (.tail _ (ho c')))
      · exact N' p (hn p (.tail _ hp))
    cases f with
    | ret v => exact .ret q
    | brk => exact .brk (Out.use (P := fun s' => Q .next s') q done)
    | next => exact .next (fin q)
    | cont => exact .cont (fin q)
  · rintro h' tk m' news' F' N' _ ⟨c, rfl, hk₁, hPc⟩
    exact done c m' h' tk (hX c hPc) (fr_known F' hk₁) N'
theorem range_cut {σ : Type} {x : Str} {body : List Stmt} {r : Addr} {a₀ b₀ : Int} {t₀ u₀ v₀ : Tok} {n : Nat} {m₀ : Str → Option Value} {news : List (Addr × Obj)}
    (Led : σ → List (Addr × Obj)) (ps : σ → List (Str × Value)) (P : Nat → σ → Prop) (X : σ → Prop) (c₀ : σ)
    (hh : A.handled = none) (hr : IsRange s.heap r a₀ b₀ 1 t₀ u₀ v₀) (hsmall : Builtin.Range.small a₀ b₀ 1 = true) (hn : Builtin.Range.rangeSize a₀ b₀ 1 = (n : Int))
    (F : Fr h₀ env.locals s.heap m₀) (N : News h₀ env.locals s.heap news) (hl : ∀ p ∈ Led c₀, p ∈ news) (hk : ∀ p ∈ ps c₀, m₀ p.1 = some p.2) (hP : P 0 c₀)
    (turn : ∀ (i : Nat) t c u h tk I oI, i < n → P i c → (∀ p ∈ Led c, p.1 ≠ I) → Fr h₀ env.locals h (fun y => if y = x then some (.int (a₀ + (i : Int)) t) else kstB u (ps c) y) → News h₀ env.locals h ((I, oI) :: Led c) →
      wpAny (model prog w) A (execs body env) (FTurn h₀ env.locals s Led ps I oI (P (i + 1)) X Q) E { s with heap := h, toks := tk })
    (hX : ∀ c, P n c → X c)
    (done : ∀ c u h tk, X c → Fr h₀ env.locals h (kstB u (ps c)) → News h₀ env.locals h (Led c) → Q .next { s with heap := h, toks := tk }) :
    wpAny (model prog w) A (pyIter (.ref r)) (fun it s₂ => LoopAtV prog w A h₀ env x body Q E it s₂) E s := by
  refine wpAny_pyIter_range hr hsmall ?_
  have W : Walks prog w A s.heap.objs.size [s.heap.objs.size] [s.heap.objs.size] n (fun i v => i < n ∧ ∃ t, v = .int (a₀ + i * 1) t)
      (fun i h => IsRangeIter h s.heap.objs.size (a₀ + (i : Nat) * 1) ((n : Int) - (i : Nat)) 1) := (Walks.range hh _ a₀ 1 n).bound
  have N0 : News h₀ env.locals s.heap (Led c₀) := fun p hp => N p (hl p hp)
  refine loop_cut Led ps P X c₀ W (.head _) ?_ (next_is_new F) (fun i h st => ⟨_, st⟩) ?_ ?_ (by show IsRangeIter _ _ _ _ _; rw [hn]; simpa using Heap.get?_push_size _ rfl) (F.push _) (fun p hp => ⟨Heap.get?_push_of_some _ (N0 p hp).1, (N0 p hp).2⟩) hk hP ?_ hX ?_
  · intro hm
    exact absurd F.ns.lt ((List.mem_singleton.mp hm) ▸ Nat.lt_irrefl _)
  · intro b hb hne; exact absurd (List.mem_singleton.mp hb) hne
  · intro p hp hI
    exact absurd (Heap.lt_size (N0 p hp).1) (hI ▸ Nat.lt_irrefl _)
  · rintro i v c u h tk oI hin ⟨_, t, rfl⟩ hPc hne F' N'
    rw [Int.mul_one] at F'
    exact turn i t c u h tk _ oI hin hPc hne F' N'
  · exact done
theorem list_cut {σ : Type} {x : Str} {body : List Stmt} {l : Addr} {vs : List Value} {m₀ : Str → Option Value} {news : List (Addr × Obj)}
    (Led : σ → List (Addr × Obj)) (ps : σ → List (Str × Value)) (P : Nat → σ → Prop) (X : σ → Prop) (c₀ : σ)
    (hh : A.handled = none) (hls : s.heap.IsList l vs.toArray) (hl0 : (∃ o, h₀.get? l = some o) ∨ (∃ o, ∀ c, (l, o) ∈ Led c))
    (F : Fr h₀ env.locals s.heap m₀) (N : News h₀ env.locals s.heap news) (hl : ∀ p ∈ Led c₀, p ∈ news) (hk : ∀ p ∈ ps c₀, m₀ p.1 = some p.2) (hP : P 0 c₀)
    (turn : ∀ (i : Nat) v c u h tk I oI, vs[i]? = some v → P i c → (∀ p ∈ Led c, p.1 ≠ I) → Fr h₀ env.locals h (fun y => if y = x then some v else kstB u (ps c) y) → News h₀ env.locals h ((I, oI) :: Led c) →
      wpAny (model prog w) A (execs body env) (FTurn h₀ env.locals s Led ps I oI (P (i + 1)) X Q) E { s with heap := h, toks := tk })
    (hX : ∀ c, P vs.length c → X c)
    (done : ∀ c u h tk, X c → Fr h₀ env.locals h (kstB u (ps c)) → News h₀ env.locals h (Led c) → Q .next { s with heap := h, toks := tk }) :
    wpAny (model prog w) A (pyIter (.ref l)) (fun it s₂ => LoopAtV prog w A h₀ env x body Q E it s₂) E s := by
  obtain ⟨ol, hol, _⟩ := id hls
  have hlt : l < s.heap.objs.size := Heap.lt_size hol
  have hne : l ≠ s.heap.objs.size := Nat.ne_of_lt hlt
  refine wpAny_pyIter_list hls ?_
  have W := Walks.list (prog := prog) (w := w) hh s.heap.objs.size l hne vs.toArray
  have hlen : vs.toArray.size = vs.length := by simp
  rw [hlen] at W
  have N0 : News h₀ env.locals s.heap (Led c₀) := fun p hp => N p (hl p hp)
  have hlL : env.locals ≠ l := by
    rcases hl0 with ⟨o, ho⟩ | ⟨o, ho⟩
    · exact fun e => absurd (Nat.lt_of_lt_of_le (Heap.lt_size ho) F.above) (e ▸ Nat.lt_irrefl _)
    · exact fun e => (N0 _ (ho c₀)).2.1 e.symm
  refine loop_cut Led ps P X c₀ W (.head _) ?_ (next_is_new F) (fun i h st => let ⟨o, ho, _⟩ := st.1; ⟨o, ho⟩) ?_ ?_ ⟨⟨_, Heap.get?_push_size _ rfl, rfl, rfl⟩, hls.at fun o e => Heap.get?_push_of_some _ e⟩ (F.push _) (fun p hp => ⟨Heap.get?_push_of_some _ (N0 p hp).1, (N0 p hp).2⟩) hk hP ?_ hX ?_
  · intro hm
    rcases List.mem_cons.mp hm with e | hm
    · exact absurd F.ns.lt (e ▸ Nat.lt_irrefl _)
    · exact hlL (List.mem_singleton.mp hm)
  · intro b hb hne'
    rcases List.mem_cons.mp hb with e | hb
    · exact absurd e hne'
    · rw [List.mem_singleton.mp hb]; exact hl0
  · intro p hp hI
    exact absurd (Heap.lt_size (N0 p hp).1) (hI ▸ Nat.lt_irrefl _)
  · rintro i v c u h tk oI hin hPv hPc hne F' N'
    exact turn i v c u h tk _ oI (by simpa using hPv) hPc hne F' N'
  · exact done
end
end Mine
end
section
namespace Mine
noncomputable def nthD {α : Type} : List α → Nat → Option α
  | [], _ => none
  | a :: _, 0 => some a
  | _ :: l, i + 1 => nthD l i
theorem nth {α : Type} {p : α} : ∀ {l : List α} (i : Nat), nthD l i = some p → p ∈ l
  | a :: l, 0, h => by cases h; exact .head _
  | a :: l, i + 1, h => .tail _ (nth i h)
theorem sub_nil {α : Type} {l : List α} : ∀ p ∈ ([] : List α), p ∈ l := fun _ h => nomatch h
theorem sub_cons {α : Type} {l as : List α} {a : α} (h : a ∈ l) (hs : ∀ p ∈ as, p ∈ l) : ∀ p ∈ a :: as, p ∈ l := List.forall_mem_cons.mpr ⟨h, hs⟩
theorem sub_id {α : Type} {l : List α} : ∀ p ∈ l, p ∈ l := fun _ h => h
theorem sub_suf {α : Type} {l as : List α} (k : Nat) (h : l.drop k = as) : ∀ p ∈ as, p ∈ l := fun _ hp => List.mem_of_mem_drop (h ▸ hp)
theorem all_nil {α : Type} {P : α → Prop} : ∀ p ∈ ([] : List α), P p := fun _ h => nomatch h
theorem all_cons {α : Type} {P : α → Prop} {as : List α} {a : α} (h : P a) (hs : ∀ p ∈ as, P p) : ∀ p ∈ a :: as, P p := List.forall_mem_cons.mpr ⟨h, hs⟩
noncomputable def LtAll (D : Nat) (as : List Nat) : Prop := ∀ a ∈ as, a < D
theorem ltAll_of {D : Nat} {l : List (Addr × Obj)} (h : ∀ p ∈ l, p.1 < D) : LtAll D (l.map Prod.fst) := fun a ha => by
  obtain ⟨p, hp, e⟩ := List.mem_map.mp ha
  rw [← e]; exact h p hp
theorem ne_all {D : Nat} {as : List Nat} {r : List (Addr × Obj)} (h : LtAll D as) (hr : r.map Prod.fst = as) : ∀ p ∈ r, p.1 ≠ D := fun p hp => Nat.ne_of_lt (h p.1 (by rw [← hr]; exact List.mem_map_of_mem hp))
theorem roomK {dp d : Nat} (K : Nat) (h : dp + d < recursionLimit) (hk : Nat.ble K d = true) : dp + K < recursionLimit := Nat.lt_of_le_of_lt (Nat.add_le_add_left (Nat.le_of_ble_eq_true hk) dp) h
end Mine
namespace Mine
theorem neIn_r {D a : Nat} {as : List Nat} (h : LtAll D as) (ha : a ∈ as) : D ≠ a := (Nat.ne_of_lt (h a ha)).symm
end Mine
namespace Mine
theorem ne_same {J : Nat} {l l' : List (Addr × Obj)} (h : ∀ p ∈ l, p.1 ≠ J) (e : l'.map Prod.fst = l.map Prod.fst) : ∀ p ∈ l', p.1 ≠ J := fun p hp => by
  have h1 : p.1 ∈ l'.map Prod.fst := List.mem_map_of_mem hp
  rw [e] at h1
  obtain ⟨q, hq, e2⟩ := List.mem_map.mp h1
  rw [← e2]; exact h q hq
end Mine
namespace Mine
theorem neL {D a : Nat} {l : List (Addr × Obj)} (h : ∀ p ∈ l, p.1 ≠ D) (ha : a ∈ l.map Prod.fst) : a ≠ D := by
  obtain ⟨q, hq, e⟩ := List.mem_map.mp ha
  rw [← e]; exact h q hq
theorem neR {D a : Nat} {l : List (Addr × Obj)} (h : ∀ p ∈ l, p.1 ≠ D) (ha : a ∈ l.map Prod.fst) : D ≠ a := Ne.symm (neL h ha)
end Mine
namespace Mine
end Mine
namespace Mine
theorem ltAll_sub {D : Nat} {as bs : List Nat} (h : LtAll D as) (hs : ∀ a ∈ bs, a ∈ as) : LtAll D bs := fun a ha => h a (hs a ha)
abbrev six (L : Nat) : List Nat := [L + 1 + 1 + 1 + 1 + 1 + 1, L + 1 + 1 + 1 + 1 + 1, L + 1 + 1 + 1 + 1, L + 1 + 1 + 1, L + 1 + 1, L + 1]
end Mine
namespace Mine
noncomputable def Apart (D : Nat) (as : List Nat) : Prop := ∀ a ∈ as, a ≠ D
theorem apR {D a : Nat} {as : List Nat} (h : Apart D as) (ha : a ∈ as) : D ≠ a := Ne.symm (h a ha)
theorem apart_lt {D : Nat} {as bs : List Nat} (h : LtAll D as) (hs : ∀ a ∈ bs, a ∈ as) : Apart D bs := fun a ha => Nat.ne_of_lt (h a (hs a ha))
theorem apart_ne {D : Nat} {l : List (Addr × Obj)} {bs : List Nat} (h : ∀ p ∈ l, p.1 ≠ D) (hs : ∀ a ∈ bs, a ∈ l.map Prod.fst) : Apart D bs := fun a ha => neL h (hs a ha)
end Mine
end
section
local macro_rules | `(tactic| omega) => `(tactic| lia)
namespace Mine
abbrev tl (x : Str) : List Nat := x.cps.toList
theorem tl_length (x : Str) : (tl x).length = x.length := by simp [tl, Str.length]
theorem tl_ext {x y : Str} (h : tl x = tl y) : x = y := by
  cases x with | mk a => cases y with | mk b => cases a with | mk a => cases b with | mk b => simp only [tl] at h; rw [h]
theorem tl_mk (l : List Nat) : tl ⟨l.toArray⟩ = l := rfl
theorem tl_append (x y : Str) : tl (x ++ y) = tl x ++ tl y := by
  show (x.cps ++ y.cps).toList = _
  simp [tl]
theorem beq_tl (x y : Str) : (x == y) = (tl x == tl y) := by
  cases h : (tl x == tl y) with
  | true => rw [beq_iff_eq] at h; rw [tl_ext h]; simp
  | false =>
    cases h2 : (x == y) with
    | false => rfl
    | true => rw [beq_iff_eq] at h2; rw [h2] at h; simp at h
theorem tl_slice_from {x : Str} {i : Int} (h0 : 0 ≤ i) (h2 : i ≤ x.length) : tl (Txt.slice x (some i) none) = (tl x).drop i.toNat := by
  rw [slice_from_eq (b := (x.length : Int)) h0 h2 rfl, tl_mk]
  rw [List.take_of_length_le]
  rw [List.length_drop]; have := tl_length x; simp only [tl] at this ⊢; omega
theorem tl_slice_none (x : Str) : Txt.slice x none none = x := by
  unfold Txt.slice
  rw [if_pos]
  simp [Builtin.Str.strSliceIndices, sliceRange]
  by_cases h : 0 < x.length <;> simp [h] <;> omega
theorem sliceIdx_to (n k : Nat) (h : k ≤ n) : Builtin.Str.strSliceIndices none (some (k : Int)) 1 n = List.range k := by
  have h1 : ¬ ((k : Int) < 0) := by omega
  have h2 : max 0 (min (k : Int) n) = (k : Int) := by omega
  have h3 : (1 : Int) > 0 := by decide
  simp only [Builtin.Str.strSliceIndices, sliceRange, h1, h2, h3, if_true, if_false]
  by_cases hk : (0 : Int) < k
  · simp only [hk, if_true]
    have e : (((k : Int) - 0 + 1 - 1) / 1).toNat = k := by rw [Int.ediv_one]; omega
    rw [e]
    simp
  · have : k = 0 := by omega
    subst this
    simp
theorem filterMap_range (l : List Nat) (k : Nat) (h : k ≤ l.length) : (List.range k).filterMap (l.toArray[·]?) = l.take k := by
  induction k with
  | zero => simp
  | succ k ih =>
    rw [List.range_succ, List.filterMap_append, ih (by omega), List.take_add_one]
    congr 1
    have : k < l.length := by omega
    simp [this]
theorem tl_slice_to {x : Str} {k : Nat} (h : k ≤ x.length) : tl (Txt.slice x none (some (k : Int))) = (tl x).take k := by
  obtain ⟨⟨l⟩⟩ := x
  have hl : k ≤ l.length := by simpa [Str.length] using h
  unfold Txt.slice
  have hlen : (Str.mk ⟨l⟩).length = l.length := rfl
  rw [hlen, sliceIdx_to _ _ hl]
  by_cases hk : k = l.length
  · rw [if_pos (by simp [hk])]
    show l = l.take k
    rw [hk, List.take_length]
  · rw [if_neg (by simp [hk])]
    show (List.range k).filterMap _ = l.take k
    exact filterMap_range l k hl
theorem sliceIdx_neg (n k : Nat) (h0 : 0 < k) (h : k ≤ n) : Builtin.Str.strSliceIndices none (some (-(k : Int))) 1 n = Builtin.Str.strSliceIndices none (some ((n - k : Nat) : Int)) 1 n := by
  have h1 : (-(k : Int)) < 0 := by omega
  have h1' : ¬ ((n - k : Nat) : Int) < 0 := by omega
  have h2 : max 0 (min (-(k : Int) + n) n) = ((n - k : Nat) : Int) := by omega
  have h2' : max 0 (min ((n - k : Nat) : Int) n) = ((n - k : Nat) : Int) := by omega
  have h3 : (1 : Int) > 0 := by decide
  simp only [Builtin.Str.strSliceIndices, h1, h1', h2, h2', h3, if_true, if_false]
theorem tl_slice_neg {x : Str} {k : Nat} (h0 : 0 < k) (h : k ≤ x.length) : tl (Txt.slice x none (some (-(k : Int)))) = (tl x).take (x.length - k) := by
  rw [← tl_slice_to (x := x) (k := x.length - k) (by omega)]
  unfold Txt.slice
  rw [sliceIdx_neg _ _ h0 h]
theorem tl_item {x : Str} {i : Nat} (h : i < x.length) : tl (Txt.item x (i : Int)) = [(tl x).getD i 0] := by
  rw [eq_of_beq (item_closes (x := x) (i := (i : Int)) ⟨by omega, by omega⟩)]
  simp [tl]
theorem tl_item_neg {x : Str} {k : Nat} (h0 : 0 < k) (h : k ≤ x.length) : tl (Txt.item x (-(k : Int))) = [(tl x).getD (x.length - k) 0] := by
  rw [eq_of_beq (item_closes_neg (x := x) (i := -(k : Int)) (j := ((x.length - k : Nat) : Int)) (by omega) (by omega) (by omega))]
  simp [tl]
noncomputable def lcpL : List Nat → List Nat → Nat
  | x :: xs, y :: ys => if x = y then lcpL xs ys + 1 else 0
  | _, _ => 0
theorem lcpL_le1 : ∀ a b : List Nat, lcpL a b ≤ a.length
  | [], _ => by simp [lcpL]
  | _ :: _, [] => by simp [lcpL]
  | x :: xs, y :: ys => by
    unfold lcpL; split
    · have := lcpL_le1 xs ys; simp; omega
    · simp
theorem lcpL_le2 : ∀ a b : List Nat, lcpL a b ≤ b.length
  | [], _ => by simp [lcpL]
  | _ :: _, [] => by simp [lcpL]
  | x :: xs, y :: ys => by
    unfold lcpL; split
    · have := lcpL_le2 xs ys; simp; omega
    · simp
theorem lcpL_stop : ∀ (a b : List Nat) (c : Nat), c ≤ lcpL a b → (a.length ≤ c ∨ b.length ≤ c ∨ a.getD c 0 ≠ b.getD c 0) → c = lcpL a b
  | a, b, c, h, h2 => by
    have := lcpL_le1 a b
    have := lcpL_le2 a b
    rcases h2 with h2 | h2 | h2
    · omega
    · omega
    · rcases Nat.lt_or_ge c (lcpL a b) with h3 | h3
      · exfalso
        revert h2 h3
        clear h
        induction a generalizing b c with
        | nil => simp [lcpL]
        | cons x xs ih =>
          cases b with
          | nil => simp [lcpL]
          | cons y ys =>
            unfold lcpL
            split
            · rename_i e
              cases c with
              | zero => simp [e]
              | succ c =>
                intro h2 h3
                exact ih ys c (lcpL_le1 xs ys) (lcpL_le2 xs ys) (by simpa using h2) (by omega)
            · intro _ h3; omega
      · omega
theorem lcpL_go : ∀ (a b : List Nat) (c : Nat), c ≤ lcpL a b → c < a.length → c < b.length → a.getD c 0 = b.getD c 0 → c + 1 ≤ lcpL a b
  | a, b, c, h, h1, h2, h3 => by
    revert h h1 h2 h3
    induction a generalizing b c with
    | nil => simp
    | cons x xs ih =>
      cases b with
      | nil => simp
      | cons y ys =>
        unfold lcpL
        cases c with
        | zero => intro _ _ _ h3; have : x = y := by simpa using h3
                  rw [if_pos this]; omega
        | succ c =>
          split
          · intro h h1 h2 h3
            have := ih ys c (by omega) (by simpa using h1) (by simpa using h2) (by simpa using h3)
            omega
          · intro h; omega
end Mine
namespace Mine
noncomputable def lcpI (a b : Str) : Int := (lcpL (tl a) (tl b) : Nat)
theorem lcpI_le1 (a b : Str) : lcpI a b ≤ a.length := by have := lcpL_le1 (tl a) (tl b); rw [tl_length] at this; unfold lcpI; omega
theorem lcpI_le2 (a b : Str) : lcpI a b ≤ b.length := by have := lcpL_le2 (tl a) (tl b); rw [tl_length] at this; unfold lcpI; omega
theorem lcpI_nn (a b : Str) : 0 ≤ lcpI a b := by unfold lcpI; omega
theorem slice_from_len {a : Str} {c : Int} (h0 : 0 ≤ c) (h1 : c ≤ a.length) : (Txt.slice a (some c) none).length = a.length - c.toNat := by
  rw [← tl_length, tl_slice_from h0 h1, List.length_drop, tl_length]
theorem pre_stop1 {a b : Str} {c : Int} (h0 : 0 ≤ c) (h1 : c ≤ lcpI a b) (hf : ((Txt.slice a (some c) none).length : Int) = 0) : c = lcpI a b := by
  have := lcpI_le1 a b
  rw [slice_from_len h0 (by omega)] at hf
  omega
theorem pre_stop2 {a b : Str} {c : Int} (h0 : 0 ≤ c) (h1 : c ≤ lcpI a b) (hf : ((Txt.slice b (some c) none).length : Int) = 0) : c = lcpI a b := by
  have := lcpI_le2 a b
  rw [slice_from_len h0 (by omega)] at hf
  omega
theorem pre_in1 {a b : Str} {c : Int} (h0 : 0 ≤ c) (h1 : c ≤ lcpI a b) (hf : ((Txt.slice a (some c) none).length : Int) ≠ 0) : c < a.length := by
  have := lcpI_le1 a b
  rw [slice_from_len h0 (by omega)] at hf
  omega
theorem pre_in2 {a b : Str} {c : Int} (h0 : 0 ≤ c) (h1 : c ≤ lcpI a b) (hf : ((Txt.slice b (some c) none).length : Int) ≠ 0) : c < b.length := by
  have := lcpI_le2 a b
  rw [slice_from_len h0 (by omega)] at hf
  omega
theorem items_beq {a b : Str} {c : Int} (h0 : 0 ≤ c) (ha : c < a.length) (hb : c < b.length) : (Txt.item a c == Txt.item b c) = ((tl a).getD c.toNat 0 == (tl b).getD c.toNat 0) := by
  obtain ⟨n, rfl⟩ := Int.eq_ofNat_of_zero_le h0
  rw [beq_tl, tl_item (by omega), tl_item (by omega)]
  simp
theorem pre_stop3 {a b : Str} {c : Int} (h0 : 0 ≤ c) (h1 : c ≤ lcpI a b) (ha : ((Txt.slice a (some c) none).length : Int) ≠ 0) (hb : ((Txt.slice b (some c) none).length : Int) ≠ 0) (hi : (Txt.item a c == Txt.item b c) = false) : c = lcpI a b := by
  rw [items_beq h0 (pre_in1 h0 h1 ha) (pre_in2 h0 h1 hb)] at hi
  have : c.toNat = lcpL (tl a) (tl b) := lcpL_stop _ _ _ (by unfold lcpI at h1; omega) (.inr (.inr (by simpa using hi)))
  unfold lcpI; omega
theorem pre_go {a b : Str} {c : Int} (h0 : 0 ≤ c) (h1 : c ≤ lcpI a b) (ha : ((Txt.slice a (some c) none).length : Int) ≠ 0) (hb : ((Txt.slice b (some c) none).length : Int) ≠ 0) (hi : (Txt.item a c == Txt.item b c) = true) : c + 1 ≤ lcpI a b := by
  have ia := pre_in1 h0 h1 ha
  have ib := pre_in2 h0 h1 hb
  rw [items_beq h0 ia ib] at hi
  have : c.toNat + 1 ≤ lcpL (tl a) (tl b) := lcpL_go _ _ _ (by unfold lcpI at h1; omega) (by rw [tl_length]; omega) (by rw [tl_length]; omega) (by simpa using hi)
  unfold lcpI; omega
end Mine
end
section
local macro_rules | `(tactic| omega) => `(tactic| lia)
namespace Mine
noncomputable def costS (x y : Str) : Int := if (x == y) = true then 0 else if (Txt.lower x == Txt.lower y) = true then 1 else 2
noncomputable def costN (x y : Nat) : Int := costS ⟨#[x]⟩ ⟨#[y]⟩
noncomputable def iStep (cost : Nat → Nat → Int) (bc : Nat) (la : List Nat) (q : List Int × Int × Int × Int) (i : Nat) : List Int × Int × Int × Int :=
  let sub := q.2.1 + cost bc (la.getD i 0)
  let d' := q.1.getD i 0
  let r' := min (min q.2.2.1 d' + 2) sub
  (q.1.set i r', d', r', if r' < q.2.2.2 then r' else q.2.2.2)
noncomputable def iRun (cost : Nat → Nat → Int) (bc : Nat) (la : List Nat) (row : List Int) (b0 : Int) (n : Nat) : List Int × Int × Int × Int :=
  (List.range n).foldl (iStep cost bc la) (row, b0, b0, 9223372036854775807)
theorem iRun_zero (cost bc la row b0) : iRun cost bc la row b0 0 = (row, b0, b0, 9223372036854775807) := rfl
theorem iRun_succ (cost bc la row b0 n) : iRun cost bc la row b0 (n + 1) = iStep cost bc la (iRun cost bc la row b0 n) n := by
  unfold iRun; rw [List.range_succ, List.foldl_append]; rfl
theorem iRun_len (cost bc la row b0) : ∀ n, (iRun cost bc la row b0 n).1.length = row.length
  | 0 => rfl
  | n + 1 => by rw [iRun_succ]; simp [iStep, iRun_len cost bc la row b0 n]
noncomputable def oGo (cost : Nat → Nat → Int) (la lb : List Nat) (mc : Int) : Nat → Nat → List Int → Int → Int
  | 0, _, _, res => res
  | f + 1, i, row, _ =>
    let z := iRun cost (lb.getD i 0) la row (2 * (i : Int)) la.length
    if z.2.2.2 > mc then mc + 1 else oGo cost la lb mc f (i + 1) z.1 z.2.2.1
noncomputable def row0 (n : Nat) : List Int := (List.range n).map fun (i : Nat) => 2 + 2 * (i : Int)
noncomputable def levRows (cost : Nat → Nat → Int) (la lb : List Nat) (mc : Int) : Int := oGo cost la lb mc lb.length 0 (row0 la.length) 0
noncomputable def core (cost : Nat → Nat → Int) (a2 b2 : List Nat) (mc : Int) : Int :=
  if a2.length = 0 ∨ b2.length = 0 then 2 * ((a2.length : Int) + b2.length) else
  if a2.length > 40 ∨ b2.length > 40 then mc + 1 else
  if b2.length < a2.length then
    (if ((a2.length : Int) - b2.length) * 2 > mc then mc + 1 else levRows cost b2 a2 mc)
  else
    (if ((b2.length : Int) - a2.length) * 2 > mc then mc + 1 else levRows cost a2 b2 mc)
noncomputable def lcsL (a b : List Nat) : Nat := lcpL a.reverse b.reverse
noncomputable def levL (cost : Nat → Nat → Int) (a b : List Nat) (mc : Int) : Int :=
  if a = b then 0 else
  let p := lcpL a b
  let a1 := a.drop p
  let b1 := b.drop p
  let q := lcsL a1 b1
  core cost (a1.take (a1.length - q)) (b1.take (b1.length - q)) mc
noncomputable def lcsI (a b : Str) : Int := (lcsL (tl a) (tl b) : Nat)
theorem lcsI_le1 (a b : Str) : lcsI a b ≤ a.length := by have := lcpL_le1 (tl a).reverse (tl b).reverse; rw [List.length_reverse, tl_length] at this; unfold lcsI lcsL; omega
theorem lcsI_le2 (a b : Str) : lcsI a b ≤ b.length := by have := lcpL_le2 (tl a).reverse (tl b).reverse; rw [List.length_reverse, tl_length] at this; unfold lcsI lcsL; omega
theorem lcsI_nn (a b : Str) : 0 ≤ lcsI a b := by unfold lcsI; omega
theorem slice_neg_len {a : Str} {c : Int} (h0 : c < 0) (h1 : -c ≤ a.length) : ((Txt.slice a none (some c)).length : Int) = a.length + c := by
  obtain ⟨n, hn⟩ := Int.eq_ofNat_of_zero_le (show 0 ≤ -c by omega)
  have hc : c = -(n : Int) := by omega
  subst hc
  rw [← tl_length, tl_slice_neg (by omega) (by omega), List.length_take, tl_length]
  omega
theorem rev_getD {l : List Nat} {n : Nat} (h : n < l.length) : l.reverse.getD n 0 = l.getD (l.length - 1 - n) 0 := by
  simp only [List.getD_eq_getElem?_getD]
  rw [List.getElem?_reverse h]
theorem items_beq_neg {a b : Str} {c : Int} (h0 : c < 0) (ha : -(a.length : Int) ≤ c) (hb : -(b.length : Int) ≤ c) :
    (Txt.item a c == Txt.item b c) = ((tl a).reverse.getD (-c - 1).toNat 0 == (tl b).reverse.getD (-c - 1).toNat 0) := by
  obtain ⟨n, hn⟩ := Int.eq_ofNat_of_zero_le (show 0 ≤ -c by omega)
  have hc : c = -(n : Int) := by omega
  subst hc
  rw [beq_tl, tl_item_neg (by omega) (by omega), tl_item_neg (by omega) (by omega), rev_getD (by rw [tl_length]; omega), rev_getD (by rw [tl_length]; omega)]
  rw [tl_length, tl_length]
  have e1 : ∀ L : Nat, L - 1 - (-(-(n : Int)) - 1).toNat = L - n := by intro L; omega
  rw [e1, e1]
  simp
theorem post_stop {a b : Str} {c : Int} (_h0 : c ≤ 0) (h1 : -c ≤ lcsI a b) (hl : a.length ≤ -c ∨ b.length ≤ -c) : -c = lcsI a b := by
  have := lcsI_le1 a b
  have := lcsI_le2 a b
  omega
theorem post_stop3 {a b : Str} {c : Int} (h0 : c ≤ 0) (h1 : -c ≤ lcsI a b) (ha : -c < a.length) (hb : -c < b.length) (hi : (Txt.item a (c - 1) == Txt.item b (c - 1)) = false) : -c = lcsI a b := by
  rw [items_beq_neg (by omega) (by omega) (by omega)] at hi
  have : (-c).toNat = lcpL (tl a).reverse (tl b).reverse := lcpL_stop _ _ _ (by unfold lcsI lcsL at h1; omega) (.inr (.inr (by
    have e : (-(c - 1) - 1).toNat = (-c).toNat := by omega
    rw [e] at hi; simpa using hi)))
  unfold lcsI lcsL; omega
theorem post_go {a b : Str} {c : Int} (h0 : c ≤ 0) (h1 : -c ≤ lcsI a b) (ha : -c < a.length) (hb : -c < b.length) (hi : (Txt.item a (c - 1) == Txt.item b (c - 1)) = true) : -(c - 1) ≤ lcsI a b := by
  rw [items_beq_neg (by omega) (by omega) (by omega)] at hi
  have : (-c).toNat + 1 ≤ lcpL (tl a).reverse (tl b).reverse := lcpL_go _ _ _ (by unfold lcsI lcsL at h1; omega) (by rw [List.length_reverse, tl_length]; omega) (by rw [List.length_reverse, tl_length]; omega) (by
    have e : (-(c - 1) - 1).toNat = (-c).toNat := by omega
    rw [e] at hi; simpa using hi)
  unfold lcsI lcsL; omega
noncomputable def cutEnd (a : Str) (q : Nat) : Str := ⟨((tl a).take (a.length - q)).toArray⟩
theorem cutEnd_zero (a : Str) : cutEnd a 0 = a := tl_ext (by show (tl a).take (a.length - 0) = tl a; rw [Nat.sub_zero, ← tl_length, List.take_length])
theorem cutEnd_neg {a : Str} {c : Int} (h0 : c < 0) (h1 : -c ≤ a.length) : Txt.slice a none (some c) = cutEnd a (-c).toNat := by
  obtain ⟨n, hn⟩ := Int.eq_ofNat_of_zero_le (show 0 ≤ -c by omega)
  have hc : c = -(n : Int) := by omega
  subst hc
  refine tl_ext ?_
  rw [tl_slice_neg (by omega) (by omega)]
  show _ = (tl a).take _
  congr 1
  omega
theorem cutEnd_len (a : Str) (q : Nat) : (cutEnd a q).length = a.length - q := by
  rw [← tl_length]; show ((tl a).take (a.length - q)).length = _; rw [List.length_take, tl_length]; omega
theorem tl_cutEnd (a : Str) (q : Nat) : tl (cutEnd a q) = (tl a).take (a.length - q) := rfl
theorem slice_all {prog : Program} {w : World} {A : Around} {E : Value → Shared → Prop} {s : Shared} {value slice : Expr} {x : Str} {t : Tok} {h₀ : Heap} {L : Addr} {m : Str → Option Value} {news : List (Addr × Obj)} {Q : Value → Shared → Prop}
    (hF : Fr h₀ L s.heap m) (hN : News h₀ L s.heap news) (h : ∀ h' t' k, Fr h₀ L h' m → News h₀ L h' news → Q (.str x t') { s with heap := h', toks := k })
    (hs : subscripted slice false (.str x t) (.ref s.heap.objs.size) = operate [.ref s.heap.objs.size, .str x t] (getItem (.str x t) (.ref s.heap.objs.size)) := by with_unfolding_all rfl)
    (ht : ∀ r, letTemporaryGo value (.str x t) r = pure () := by intro _; with_unfolding_all rfl) (hsz : x.length ≤ sizeLine := by size_fits) :
    wpAny (model prog w) A (subscriptTail value slice (.str x t) (.ref s.heap.objs.size)) Q E { s with heap := s.heap.push { cls := .type "slice", data := .fields #[.none, .none, .none] } } :=
  slice_strN_nn hF hN (fun h' t' k F N => by rw [tl_slice_none]; exact h h' t' k F N) hs ht hsz
theorem truthy_ne {prog : Program} {w : World} {A : Around} {E : Value → Shared → Prop} {s : Shared} {a : Int} {t : Tok} {Q : Bool → Shared → Prop} (hz : a ≠ 0) (h : Q true s) : wpAny (model prog w) A (truthy (.int a t)) Q E s :=
  PyProof.Rows.truthy_int (by rw [bne_iff_ne.mpr hz]; exact h)
theorem truthy_zero {prog : Program} {w : World} {A : Around} {E : Value → Shared → Prop} {s : Shared} {a : Int} {t : Tok} {Q : Bool → Shared → Prop} (hz : a = 0) (h : Q false s) : wpAny (model prog w) A (truthy (.int a t)) Q E s :=
  PyProof.Rows.truthy_int (by subst hz; exact h)
end Mine
namespace Mine
theorem core_empty {cost : Nat → Nat → Int} {a b : Str} {mc : Int} (h : a.length = 0 ∨ b.length = 0) : core cost (tl a) (tl b) mc = 2 * ((a.length : Int) + b.length) := by
  unfold core
  rw [tl_length, tl_length, if_pos h]
theorem core_long {cost : Nat → Nat → Int} {a b : Str} {mc : Int} (h1 : a.length ≠ 0) (h2 : b.length ≠ 0) (h : a.length > 40 ∨ b.length > 40) : core cost (tl a) (tl b) mc = mc + 1 := by
  unfold core
  rw [tl_length, tl_length, if_neg (by omega), if_pos h]
theorem core_swap {cost : Nat → Nat → Int} {a b : Str} {mc : Int} (h1 : a.length ≠ 0) (h2 : b.length ≠ 0) (ha : a.length ≤ 40) (hb : b.length ≤ 40) (h : b.length < a.length) :
    core cost (tl a) (tl b) mc = if ((a.length : Int) - b.length) * 2 > mc then mc + 1 else levRows cost (tl b) (tl a) mc := by
  unfold core
  rw [tl_length, tl_length, if_neg (by omega), if_neg (by omega), if_pos h]
theorem core_stay {cost : Nat → Nat → Int} {a b : Str} {mc : Int} (h1 : a.length ≠ 0) (h2 : b.length ≠ 0) (ha : a.length ≤ 40) (hb : b.length ≤ 40) (h : ¬ b.length < a.length) :
    core cost (tl a) (tl b) mc = if ((b.length : Int) - a.length) * 2 > mc then mc + 1 else levRows cost (tl a) (tl b) mc := by
  unfold core
  rw [tl_length, tl_length, if_neg (by omega), if_neg (by omega), if_neg h]
theorem row0_range (n : Nat) : rangeInts 2 2 n = row0 n := by
  unfold rangeInts row0
  refine List.map_congr_left fun i _ => ?_
  omega
theorem size_two {n : Nat} : Builtin.Range.rangeSize 2 (2 * ((n : Int) + 1)) 2 = (n : Int) := by
  unfold Builtin.Range.rangeSize
  have h3 : (2 : Int) > 0 := by decide
  rw [if_pos h3]
  split <;> omega
theorem small_two {n : Nat} (h : n ≤ 1000) : Builtin.Range.small 2 (2 * ((n : Int) + 1)) 2 = true := by
  unfold Builtin.Range.small
  rw [size_two]
  have h3 : (2 : Int) > 0 := by decide
  have f : ∀ x : Int, -5000 ≤ x → x ≤ 5000 → Builtin.Range.rangeFitsLong x = true := fun x h1 h2 => by
    unfold Builtin.Range.rangeFitsLong
    simp; omega
  rw [f 2 (by omega) (by omega), f (2 * ((n : Int) + 1)) (by omega) (by omega), f (n : Int) (by omega) (by omega), if_pos h3, f (2 * ((n : Int) + 1) + (2 - 1)) (by omega) (by omega)]
  simp
theorem size_one {n : Nat} : Builtin.Range.rangeSize 0 (n : Int) 1 = (n : Int) := by
  unfold Builtin.Range.rangeSize
  have h3 : (1 : Int) > 0 := by decide
  rw [if_pos h3]
  split <;> omega
end Mine
namespace Mine
theorem item_one {x : Str} {i : Nat} (h : i < x.length) : Txt.item x (0 + (i : Int)) = ⟨#[(tl x).getD i 0]⟩ := tl_ext (by rw [Int.zero_add, tl_item h])
theorem iStep_is {a b : Str} {row row' : List Int} {d' r' mn' : Int} {i j : Nat} (hi : i < b.length) (hj : j < a.length)
    (hR : (row', d', r', mn') = iRun costN ((tl b).getD i 0) (tl a) row (2 * (i : Int)) j) (x : Int)
    (hx : x = if d' + costS (Txt.item b (0 + (i : Int))) (Txt.item a (0 + (j : Int))) < (if row'.getD (0 + (j : Int)).toNat 0 < r' then row'.getD (0 + (j : Int)).toNat 0 else r') + 2
      then d' + costS (Txt.item b (0 + (i : Int))) (Txt.item a (0 + (j : Int))) else (if row'.getD (0 + (j : Int)).toNat 0 < r' then row'.getD (0 + (j : Int)).toNat 0 else r') + 2) :
    (row'.set (0 + (j : Int)).toNat x, row'.getD (0 + (j : Int)).toNat 0, x, if x < mn' then x else mn') = iRun costN ((tl b).getD i 0) (tl a) row (2 * (i : Int)) (j + 1) := by
  rw [iRun_succ, ← hR]
  unfold iStep
  dsimp only
  have e : (0 + (j : Int)).toNat = j := by omega
  rw [e] at hx ⊢
  rw [item_one hi, item_one hj] at hx
  have hc : costS ⟨#[(tl b).getD i 0]⟩ ⟨#[(tl a).getD j 0]⟩ = costN ((tl b).getD i 0) ((tl a).getD j 0) := rfl
  rw [hc] at hx
  have : x = min (min r' (row'.getD j 0) + 2) (d' + costN ((tl b).getD i 0) ((tl a).getD j 0)) := by
    rw [hx]
    simp only [Int.min_def]
    repeat' split
    all_goals omega
  rw [← this]
theorem iStep_two {a b : Str} {row row' : List Int} {d' r' mn' : Int} {i j : Nat} (hi : i < b.length) (hj : j < a.length)
    (hR : (row', d', r', mn') = iRun costN ((tl b).getD i 0) (tl a) row (2 * (i : Int)) j) (x : Int)
    (hx : x = if d' + costS (Txt.item b (0 + (i : Int))) (Txt.item a (0 + (j : Int))) < (if row'.getD (0 + (j : Int)).toNat 0 < r' then row'.getD (0 + (j : Int)).toNat 0 else r') + 2
      then d' + costS (Txt.item b (0 + (i : Int))) (Txt.item a (0 + (j : Int))) else (if row'.getD (0 + (j : Int)).toNat 0 < r' then row'.getD (0 + (j : Int)).toNat 0 else r') + 2) :
    (x < mn' → (row'.set (0 + (j : Int)).toNat x, row'.getD (0 + (j : Int)).toNat 0, x, x) = iRun costN ((tl b).getD i 0) (tl a) row (2 * (i : Int)) (j + 1)) ∧
    (¬ x < mn' → (row'.set (0 + (j : Int)).toNat x, row'.getD (0 + (j : Int)).toNat 0, x, mn') = iRun costN ((tl b).getD i 0) (tl a) row (2 * (i : Int)) (j + 1)) := by
  have h := iStep_is hi hj hR x hx
  constructor
  · intro q; rw [if_pos q] at h; exact h
  · intro q; rw [if_neg q] at h; exact h
theorem oGo_step {cost : Nat → Nat → Int} {la lb : List Nat} {mc V : Int} {i n : Nat} {row row' : List Int} {r d' r' mn' : Int} (hi : i < n)
    (hg : oGo cost la lb mc (n - i) i row r = V) (hR : (row', d', r', mn') = iRun cost (lb.getD i 0) la row (2 * (i : Int)) la.length) :
    (mn' > mc → mc + 1 = V) ∧ (¬ mn' > mc → oGo cost la lb mc (n - (i + 1)) (i + 1) row' r' = V) := by
  have e : n - i = (n - (i + 1)) + 1 := by omega
  rw [e] at hg
  unfold oGo at hg
  dsimp only at hg
  rw [← hR] at hg
  dsimp only at hg
  constructor
  · intro h; rw [if_pos h] at hg; exact hg
  · intro h; rw [if_neg h] at hg; exact hg
end Mine
end
section
local macro_rules | `(tactic| omega) => `(tactic| lia)
namespace Mine
theorem intsAre_of_get : ∀ (vs : List Value) (ns : List Int), vs.length = ns.length → (∀ (i : Nat) (n : Int), ns[i]? = some n → ∃ t, vs[i]? = some (.int n t)) → IntsAre vs ns
  | [], [], _, _ => .nil
  | v :: vs, n :: ns, hl, h => by
    obtain ⟨t, ht⟩ := h 0 n rfl
    have : v = .int n t := by simpa using ht
    subst this
    exact .cons n t (intsAre_of_get vs ns (by simpa using hl) fun i m hm => by
      have := h (i + 1) m (by simpa using hm)
      simpa using this)
  | [], _ :: _, hl, _ => by simp at hl
  | _ :: _, [], hl, _ => by simp at hl
theorem intsAre_set {vs : List Value} {ns : List Int} (h : IntsAre vs ns) (i : Nat) (x : Int) (t : Tok) : IntsAre (vs.set i (.int x t)) (ns.set i x) := by
  induction h generalizing i with
  | nil => exact .nil
  | cons n u h ih =>
    cases i with
    | zero => exact .cons x t h
    | succ i => exact .cons n u (ih i)
theorem intsAre_snoc {vs : List Value} {ns : List Int} (h : IntsAre vs ns) (x : Int) (t : Tok) : IntsAre (vs ++ [.int x t]) (ns ++ [x]) := by
  induction h with
  | nil => exact .cons x t .nil
  | cons n u h ih => exact .cons n u ih
section
variable {prog : Program} {w : World} {A : Around} {E : Value → Shared → Prop} {s : Shared} {h₀ : Heap} {L : Addr} {m : Str → Option Value} {news : List (Addr × Obj)}
theorem isList_of {h : Heap} {l : Addr} {vs : List Value} {n : Nat} (N : News h₀ L h news) (hm : (l, W.listOf vs.toArray n) ∈ news) : h.IsList l vs.toArray :=
  ⟨_, (N _ hm).1, rfl, n, rfl⟩
theorem list_range_led {r : Addr} {a b c : Int} {t u v : Tok} {n : Nat} {Q : Value → Shared → Prop} (hh : A.handled = none) (F : Fr h₀ L s.heap m) (N : News h₀ L s.heap news)
    (hr : IsRange s.heap r a b c t u v) (hsmall : Builtin.Range.small a b c = true) (hn : Builtin.Range.rangeSize a b c = (n : Int)) (hlen : n ≤ 2 ^ 24)
    (hQ : ∀ l h' tk (vs : List Value) e, Fr h₀ L h' m → News h₀ L h' ((l, W.listOf vs.toArray e) :: news) → IntsAre vs (rangeInts a c n) → (∀ p ∈ news, p.1 < l) → Q (.ref l) { s with heap := h', toks := tk }) :
    wpAny (model prog w) A (call (.type "list") [.ref r]) Q E s := by
  refine call_list_range hh hr hsmall hn hlen fun h' tk acc' c' hk hS' hacc => ?_
  have hnew : h₀.get? s.heap.objs.size = none := by
    cases e : h₀.get? s.heap.objs.size with
    | none => rfl
    | some o => exact absurd (Heap.lt_size (F.keep _ _ e)) (Nat.lt_irrefl _)
  refine hQ s.heap.objs.size h' tk acc'.toList c' (F.keeps hk) ?_ ?_ (fun p hp => Heap.lt_size (N p hp).1)
  · intro p hp
    rcases List.mem_cons.mp hp with rfl | hp
    · exact ⟨by simpa [W.listOf] using hS', fun e => absurd F.ns.lt (e ▸ Nat.lt_irrefl _), hnew⟩
    · exact ⟨hk _ _ (N p hp).1, (N p hp).2⟩
  · refine intsAre_of_get _ _ (by simp [hacc.1, rangeInts_length]) fun i x hx => ?_
    have hi : i < n := by
      have := (List.getElem?_eq_some_iff.mp hx).1
      rw [rangeInts_length] at this; exact this
    rw [rangeInts_get hi] at hx
    have hx : a + (i : Nat) * c = x := Option.some.inj hx
    have hi' : i < acc'.size := by rw [hacc.1]; exact hi
    obtain ⟨t, ht⟩ := hacc.2 i acc'[i] (by simp [hi'])
    exact ⟨t, by simp [hi', ht, hx]⟩
theorem append_led {l : Addr} {vs : List Value} {n : Nat} {v : Value} {rest : List (Addr × Obj)} {Q : Value → Shared → Prop}
    (F : Fr h₀ L s.heap m) (N : News h₀ L s.heap news) (hm : (l, W.listOf vs.toArray n) ∈ news) (hr : ∀ p ∈ rest, p ∈ news ∧ p.1 ≠ l) (hfit : vs.length ≤ sizeLine)
    (h : ∀ h' e, Fr h₀ L h' m → News h₀ L h' ((l, W.listOf (vs ++ [v]).toArray e) :: rest) → Q .none { s with heap := h' }) :
    wpAny (model prog w) A (call (.builtin "list.append") [.ref l, v]) Q E s := by
  have z := N _ hm
  refine append_at (hsz := by simpa using hfit) z.1 fun h' hs ho' => h h' (n + 1) (F.change hs z.2.1 z.2.2) fun p hp => ?_
  rcases List.mem_cons.mp hp with rfl | hp
  · exact ⟨by simpa using ho', z.2⟩
  · obtain ⟨hp1, hp2⟩ := hr p hp
    exact ⟨(hs.2 _ hp2).trans (N p hp1).1, (N p hp1).2⟩
theorem item_last_led {value slice : Expr} {l : Addr} {vs : List Value} {v : Value} {n : Nat} {u : Tok} {Q : Value → Shared → Prop}
    (N : News h₀ L s.heap news) (hm : (l, W.listOf (vs ++ [v]).toArray n) ∈ news) (hfit : vs.length < 2 ^ 30) (h : Q v s)
    (hs : subscripted slice false (.ref l) (.int (-1) u) = operate [.ref l, .int (-1) u] (getItem (.ref l) (.int (-1) u)) := by with_unfolding_all rfl) :
    wpAny (model prog w) A (subscriptTail value slice (.ref l) (.int (-1) u)) Q E s := by
  have hl := isList_of N hm
  refine tail_any hl.typeIs slot_list_getitem.lookup (wpAny_getItem_list_neg (k := -1) (x := v) hl (by omega) (by simp; omega) (by omega) ?_ h) hs
  have e : (-1 + (((vs ++ [v]).toArray.size : Nat) : Int)).toNat = vs.length := by simp; omega
  rw [e]
  simp
theorem del_led {l : Addr} {vs : List Value} {n : Nat} {i : Int} {k : Nat} {u : Tok} {rest : List (Addr × Obj)} {Q : Unit → Shared → Prop}
    (F : Fr h₀ L s.heap m) (N : News h₀ L s.heap news) (hm : (l, W.listOf vs.toArray n) ∈ news) (hr : ∀ p ∈ rest, p ∈ news ∧ p.1 ≠ l) (hfit : Builtin.List.listFitsIndex i = true) (hk : seqIndex? i vs.length = some k) (hsz : vs.length ≤ sizeLine)
    (h : ∀ h' e, Fr h₀ L h' m → News h₀ L h' ((l, W.listOf (vs.eraseIdx k).toArray e) :: rest) → Q () { s with heap := h' }) :
    wpAny (model prog w) A (delItem (.ref l) (.int i u)) Q E s := by
  have z := N _ hm
  refine P.delItem_list (n := n) z.1 hfit (by simpa using hk) ?_ (by simpa using hsz)
  have hs : Heap.SameBut l s.heap (s.heap.update l (Obj.mapSeq fun xs => xs.eraseIdxIfInBounds k)) := Heap.SameBut.update ..
  have q := PySem.IsL.update z.1 (fun xs => xs.eraseIdxIfInBounds k)
  have e1 : vs.toArray.eraseIdxIfInBounds k = (vs.eraseIdx k).toArray := by
    apply Array.toList_inj.mp
    simp
  rw [e1] at q
  refine h _ (if ((vs.eraseIdx k).toArray.size == vs.toArray.size) = true then n else n + 1) (F.change hs z.2.1 z.2.2) ?_
  intro p hp
  rcases List.mem_cons.mp hp with rfl | hp
  · exact ⟨q, z.2⟩
  · obtain ⟨hp1, hp2⟩ := hr p hp
    exact ⟨(hs.2 _ hp2).trans (N p hp1).1, (N p hp1).2⟩
end
end Mine
end
local macro_rules | `(tactic| k_mem) => `(tactic| first | exact nth 0 rfl | exact nth 1 rfl | exact nth 2 rfl | exact nth 3 rfl | exact nth 4 rfl | exact nth 5 rfl | exact nth 6 rfl | exact nth 7 rfl | exact nth 8 rfl | exact nth 9 rfl | exact nth 10 rfl | exact nth 11 rfl | exact nth 12 rfl | exact nth 13 rfl | exact nth 14 rfl | exact nth 15 rfl | exact nth 16 rfl | exact nth 17 rfl | exact nth 18 rfl | exact nth 19 rfl | exact nth 20 rfl | exact nth 21 rfl | exact nth 22 rfl | exact nth 23 rfl | exact nth 24 rfl | exact nth 25 rfl | assumption)
local macro_rules | `(tactic| k_ne) => `(tactic| first | ((with_reducible refine neIn_r (by assumption) ?_); k_mem) | ((with_reducible refine apR (by assumption) ?_); k_mem) | ((with_reducible refine neL (by assumption) ?_); k_mem) | ((with_reducible refine neR (by assumption) ?_); k_mem) | (dsimp only; k_ne) | (refine neN ?_; (try dsimp only); omega))
local macro_rules | `(tactic| k_all) => `(tactic| first | exact all_nil | ((with_reducible refine ne_all (by assumption) ?_); exact rfl) | (with_reducible assumption) | (refine all_cons ?_ ?_; k_ne; k_all))
local macro_rules | `(tactic| k_lt $h:ident) => `(tactic| (replace $h := ltAll_of $h; (try dsimp only [List.map] at $h:ident)))
local macro_rules | `(tactic| kst_allIn) => `(tactic| first | exact sub_id | exact sub_nil | exact sub_suf 1 rfl | exact sub_suf 2 rfl | exact sub_suf 3 rfl | exact sub_suf 4 rfl | (refine sub_cons (by k_mem) ?_; kst_allIn))
local macro_rules | `(tactic| kst_all1) => `(tactic| first | exact all_nil | (refine all_cons (by with_unfolding_all rfl) ?_; kst_all1))
local macro_rules | `(tactic| ktr_room) => `(tactic| (have h9 := ‹_ + _ < recursionLimit›; first | exact roomK 0 h9 rfl | exact roomK 1 h9 rfl | exact roomK 2 h9 rfl | exact roomK 3 h9 rfl | exact roomK 4 h9 rfl | exact roomK 5 h9 rfl | exact roomK 6 h9 rfl))
local macro_rules | `(tactic| is_list) => `(tactic| k_dflt (exact isList_of (by k_asm) (by k_mem)))
section
local macro_rules | `(tactic| omega) => `(tactic| lia)
set_option maxHeartbeats 8000000
set_option rowWalk.seconds 0
namespace Mine
theorem sub_tells (w : World) (mean : ExcName → Option Value) (mg mb : Str → Option Value) (a b : Str) (ta tb : Tok) (ha : a.length ≤ 1000) (hb : b.length ≤ 1000) :
   Tells Challenge.rw_re0065_01.row.prog w (hd1.heap_39 w.params) hd1.view_39 (looseW hd1.view_39 []) mean mg mb 1 42 [.str a ta, .str b tb] (fun _ => True) (fun v _ _ => ∃ t, v = .int (costS a b) t) := by
  ((k_fill; intro dp un gd outers base s Q E B X T hdp hun hpre hret; ((refine wpAny_call ?_; k_dflt (refine' enter ?k1 ?k2 ?k3 ?k6 ?k7 ?k8 ?k9 ?kB ?_ ?c2 ?c3 ?c4 ?c5; (case k1 => k_asm); (case k2 => k_asm); (case k3 => k_asm); (case k6 => k_is); (case k7 => k_is); (case k8 => ktr_room); (case k9 => exact BindsTo.of_eq rfl); (case c5 => decide); (case kB => exact locs rfl); (case c2 => exact rfl); (case c3 => exact rfl); (case c4 => exact rfl); k_whole))); intro g L' h₁ hg F' N' B' X' T'; (try dsimp only); (try k_lift B'); (try k_fold); (((try k_fold); ((repeat' (first | (k_unfold; (try dsimp only)) | ((fail_if_success (with_reducible show wpAny _ _ (exec (Stmt.While _ _ _ _) _) _ _ _)); (fail_if_success (with_reducible show wpAny _ _ (exec (Stmt.For _ _ _ _ _) _) _ _ _)); (fail_if_success (with_reducible show wpAny _ _ (pyIter _) _ _ _)); ((first | walk1 | (dsimp only; walk1)); (try dsimp only))))))))))
  all_goals (((try k_unfold); (try dsimp only); refine hret _ _ _ (ret_keep hg (by k_asm)) ?_))
  all_goals (refine int_is ?_; simp [costS, *])
end Mine
end
section
local macro_rules | `(tactic| omega) => `(tactic| lia)
set_option maxHeartbeats 8000000
set_option rowWalk.seconds 0
namespace Mine
local macro_rules | `(tactic| walk_at "call ref") => `(tactic| (k_here; (with_reducible show wpAny _ _ (call (Value.ref 42) [Value.str _ _, Value.str _ _]) _ _ _); k_dflt (refine' tells_use (sub_tells _ _ _ _ _ _ _ _ ?c1 ?c2) ?k1 ?k2 ?k3 ?k4 ?k5 ?k6 ?k7 ?k8 ?k9 ?k10 trivial ?_; (case c1 => omega); (case c2 => omega); (case k1 => k_asm); (case k2 => k_asm); (case k3 => k_asm); (case k4 => k_asm); (case k5 => k_asm); (case k6 => exact rfl); (case k7 => exact rfl); (case k8 => exact rfl); (case k9 => ktr_room); (case k10 => ktr_units)); rintro v' h' tk' F' N' _ ⟨t', he'⟩; subst he'))
namespace lev_tells
noncomputable def cutQ1 : { qq : (World → (ExcName → Option Value) → (Str → Option Value) → (Str → Option Value) → Str → Str → Tok → Tok → Int → Tok → Nat → Nat → (Option (List Code)) → (List Env) → Heap → Shared → (Value → Shared → Prop) → (Value → Shared → Prop) → Heap → Addr → Heap → Prop) // (∀ (w : World) (mean : ExcName → Option Value) (mg : Str → Option Value) (mb : Str → Option Value) (a : Str) (b : Str) (ta : Tok) (tb : Tok) (mc : Int) (tm : Tok) (dp : Nat) (un : Nat) (gd : Option (List Code)) (outers : List Env) (base : Heap) (s : Shared) (Q : Value → Shared → Prop) (E : Value → Shared → Prop) (g : Heap) (L' : Addr) (h₁ : Heap), qq w mean mg mb a b ta tb mc tm dp un gd outers base s Q E g L' h₁) → ∀ (w : World) (mean : ExcName → Option Value) (mg mb : Str → Option Value) (a b : Str) (ta tb : Tok) (mc : Int) (tm : Tok) (ha : a.length ≤ 1000) (hb : b.length ≤ 1000),
   Tells Challenge.rw_re0065_01.row.prog w (hd1.heap_39 w.params) hd1.view_39 (looseW hd1.view_39 []) mean mg mb 2 49 [.str a ta, .str b tb, .int mc tm] (fun _ => True) (fun v _ _ => ∃ t, v = .int (levL costN (tl a) (tl b) mc) t) } := by
  refine ⟨?qq0, fun hP0 => ?b⟩
  case b =>
    intro w mean mg mb a b ta tb mc tm ha hb
    ((k_fill; intro dp un gd outers base s Q E B X T hdp hun hpre hret; ((refine wpAny_call ?_; k_dflt (refine' enter ?k1 ?k2 ?k3 ?k6 ?k7 ?k8 ?k9 ?kB ?_ ?c2 ?c3 ?c4 ?c5; (case k1 => k_asm); (case k2 => k_asm); (case k3 => k_asm); (case k6 => k_is); (case k7 => k_is); (case k8 => ktr_room); (case k9 => exact BindsTo.of_eq rfl); (case c5 => decide); (case kB => exact locs rfl); (case c2 => exact rfl); (case c3 => exact rfl); (case c4 => exact rfl); k_whole))); intro g L' h₁ hg F' N' B' X' T'; (try dsimp only); (try k_lift B')))
    (try dsimp +zetaDelta only)
    revert T'
    revert X'
    revert B'
    revert N'
    revert F'
    revert hg
    revert hret
    revert hun
    revert hdp
    revert hb
    revert ha
    exact @hP0 w mean mg mb a b ta tb mc tm dp un gd outers base s Q E g L' h₁
namespace C
@[irreducible] noncomputable def cutT : World × (ExcName → Option Value) × (Str → Option Value) × (Str → Option Value) × Str × Str × Tok × Tok × Int × Tok × Nat × Nat × (Option (List Code)) × (List Env) × Heap × Shared × (Value → Shared → Prop) × (Value → Shared → Prop) × Heap × Addr × Heap := gen ⟨(Classical.choice world_ne, fun _ => none, fun _ => none, fun _ => none, Str.ofString "", Str.ofString "", 0, 0, 0, 0, 0, 0, none, [], default, {}, fun _ _ => True, fun _ _ => True, default, 0, default)⟩ fun t => cutQ1.1 t.1 t.2.1 t.2.2.1 t.2.2.2.1 t.2.2.2.2.1 t.2.2.2.2.2.1 t.2.2.2.2.2.2.1 t.2.2.2.2.2.2.2.1 t.2.2.2.2.2.2.2.2.1 t.2.2.2.2.2.2.2.2.2.1 t.2.2.2.2.2.2.2.2.2.2.1 t.2.2.2.2.2.2.2.2.2.2.2.1 t.2.2.2.2.2.2.2.2.2.2.2.2.1 t.2.2.2.2.2.2.2.2.2.2.2.2.2.1 t.2.2.2.2.2.2.2.2.2.2.2.2.2.2.1 t.2.2.2.2.2.2.2.2.2.2.2.2.2.2.2.1 t.2.2.2.2.2.2.2.2.2.2.2.2.2.2.2.2.1 t.2.2.2.2.2.2.2.2.2.2.2.2.2.2.2.2.2.1 t.2.2.2.2.2.2.2.2.2.2.2.2.2.2.2.2.2.2.1 t.2.2.2.2.2.2.2.2.2.2.2.2.2.2.2.2.2.2.2.1 t.2.2.2.2.2.2.2.2.2.2.2.2.2.2.2.2.2.2.2.2
@[irreducible] noncomputable def w : World := cutT.1
@[irreducible] noncomputable def mean : ExcName → Option Value := cutT.2.1
@[irreducible] noncomputable def mg : Str → Option Value := cutT.2.2.1
@[irreducible] noncomputable def mb : Str → Option Value := cutT.2.2.2.1
@[irreducible] noncomputable def a : Str := cutT.2.2.2.2.1
@[irreducible] noncomputable def b : Str := cutT.2.2.2.2.2.1
@[irreducible] noncomputable def ta : Tok := cutT.2.2.2.2.2.2.1
@[irreducible] noncomputable def tb : Tok := cutT.2.2.2.2.2.2.2.1
@[irreducible] noncomputable def mc : Int := cutT.2.2.2.2.2.2.2.2.1
@[irreducible] noncomputable def tm : Tok := cutT.2.2.2.2.2.2.2.2.2.1
@[irreducible] noncomputable def dp : Nat := cutT.2.2.2.2.2.2.2.2.2.2.1
@[irreducible] noncomputable def un : Nat := cutT.2.2.2.2.2.2.2.2.2.2.2.1
@[irreducible] noncomputable def gd : Option (List Code) := cutT.2.2.2.2.2.2.2.2.2.2.2.2.1
@[irreducible] noncomputable def outers : List Env := cutT.2.2.2.2.2.2.2.2.2.2.2.2.2.1
@[irreducible] noncomputable def base : Heap := cutT.2.2.2.2.2.2.2.2.2.2.2.2.2.2.1
@[irreducible] noncomputable def s : Shared := cutT.2.2.2.2.2.2.2.2.2.2.2.2.2.2.2.1
@[irreducible] noncomputable def Q : Value → Shared → Prop := cutT.2.2.2.2.2.2.2.2.2.2.2.2.2.2.2.2.1
@[irreducible] noncomputable def E : Value → Shared → Prop := cutT.2.2.2.2.2.2.2.2.2.2.2.2.2.2.2.2.2.1
@[irreducible] noncomputable def g : Heap := cutT.2.2.2.2.2.2.2.2.2.2.2.2.2.2.2.2.2.2.1
@[irreducible] noncomputable def L' : Addr := cutT.2.2.2.2.2.2.2.2.2.2.2.2.2.2.2.2.2.2.2.1
@[irreducible] noncomputable def h₁ : Heap := cutT.2.2.2.2.2.2.2.2.2.2.2.2.2.2.2.2.2.2.2.2
noncomputable def cutQ2 : { qq : (Tok → (Str → Option Value) → Tok → Tok → Nat → Heap → Nat → Str → Str → Prop) // (∀ (tc : Tok) (u : Str → Option Value) (t81 : Tok) (t82 : Tok) (tk8 : Nat) (h8 : Heap) (tk : Nat) (a1 : Str) (b1 : Str), qq tc u t81 t82 tk8 h8 tk a1 b1) → cutQ1.1 w mean mg mb a b ta tb mc tm dp un gd outers base s Q E g L' h₁ } := by
  refine ⟨?qq0, fun hP0 => ?b⟩
  case b =>
    delta cutQ1
    dsimp only
    intro ha hb hdp hun hret hg F' N' B' X' T'
    (try k_fold)
    (((try k_fold); ((repeat' (first | (k_unfold; (try dsimp only)) | ((fail_if_success (with_reducible show wpAny _ _ (exec (Stmt.While _ _ _ _) _) _ _ _)); (fail_if_success (with_reducible show wpAny _ _ (exec (Stmt.For _ _ _ _ _) _) _ _ _)); (fail_if_success (with_reducible show wpAny _ _ (pyIter _) _ _ _)); ((first | (((with_reducible show wpAny _ _ (truthy (Value.int _ _)) _ _ _); first | (with_reducible refine truthy_ne (by assumption) ?_) | (with_reducible refine truthy_zero (by assumption) ?_))) | (((with_reducible show wpAny _ _ (subscriptTail _ (PySem.Expr.Slice _ _ _ _) (Value.str _ _) (Value.ref _)) _ _ _); (refine slice_all (s := ⟨_, _, _, _, _⟩) (by k_asm) (by k_asm) ?_); intro _ _ _ _ _)) | walk1 | (dsimp only; walk1)); (try dsimp only))))))))
    · (((try k_unfold); (try dsimp only); refine hret _ _ _ (ret_keep hg (by k_asm)) ?_))
      refine int_is ?_
      rename (a == b) = true => hab
      rw [beq_tl, beq_iff_eq] at hab
      simp [levL, hab]
    · rename (a == b) = false => hab
      rw [beq_tl, beq_eq_false_iff_ne] at hab
      (((with_reducible rename Fr _ _ _ _ => F0); (with_reducible rename News _ _ _ _ => N0)))
      refine' while_cut (σ := Int × Tok) (fun _ => []) (fun c => [(Str.ofString "pre", .int c.1 c.2), (Str.ofString "a", .str a ta), (Str.ofString "b", .str b tb), (Str.ofString "max_cost", .int mc tm)]) (fun c => 0 ≤ c.1 ∧ c.1 ≤ lcpI a b) (fun c => c.1 = lcpI a b) (fun c => (lcpI a b - c.1).toNat) (0, _) F0 N0 ?kk ?kp ?kt ?kd ?kE
      case kk => kst_all
      case kp => exact ⟨Int.le_refl _, lcpI_nn _ _⟩
      case kE => passes_own
      case kt =>
        rintro ⟨c, tc⟩ u h tk ⟨hc0, hc1⟩ F' N'
        clear F0 N0
        dsimp only at hc0 hc1 N'; dsimp only [kstB] at F'
        (try k_fold)
        (((try k_fold); ((repeat' (first | (k_unfold; (try dsimp only)) | ((fail_if_success (with_reducible show wpAny _ _ (exec (Stmt.While _ _ _ _) _) _ _ _)); (fail_if_success (with_reducible show wpAny _ _ (exec (Stmt.For _ _ _ _ _) _) _ _ _)); (fail_if_success (with_reducible show wpAny _ _ (pyIter _) _ _ _)); ((first | (((with_reducible show wpAny _ _ (truthy (Value.int _ _)) _ _ _); first | (with_reducible refine truthy_ne (by assumption) ?_) | (with_reducible refine truthy_zero (by assumption) ?_))) | (((with_reducible show wpAny _ _ (subscriptTail _ (PySem.Expr.Slice _ _ _ _) (Value.str _ _) (Value.ref _)) _ _ _); (refine slice_all (s := ⟨_, _, _, _, _⟩) (by k_asm) (by k_asm) ?_); intro _ _ _ _ _)) | walk1 | (dsimp only; walk1)); (try dsimp only))))))))
        all_goals (((try dsimp only [WTurn, FTurn]); refine Out.mk' (_, _) (by k_asm) (by k_asm) (by kst_in) (by kst_all) ?_))
        · have := pre_go hc0 hc1 (by assumption) (by assumption) (by assumption)
          exact ⟨⟨by dsimp only; omega, by dsimp only; omega⟩, by dsimp only; omega⟩
        · exact pre_stop3 hc0 hc1 (by assumption) (by assumption) (by assumption)
        · exact pre_stop2 hc0 hc1 (by assumption)
        · exact pre_stop1 hc0 hc1 (by assumption)
      case kd =>
        rintro ⟨c, tc⟩ u h tk hc F' N'
        clear F0 N0
        dsimp only at hc N'; dsimp only [kstB] at F'
        subst hc
        (try k_fold)
        (((try k_fold); ((repeat' (first | (k_unfold; (try dsimp only)) | ((fail_if_success (with_reducible show wpAny _ _ (exec (Stmt.While _ _ _ _) _) _ _ _)); (fail_if_success (with_reducible show wpAny _ _ (exec (Stmt.For _ _ _ _ _) _) _ _ _)); (fail_if_success (with_reducible show wpAny _ _ (pyIter _) _ _ _)); ((first | (((with_reducible show wpAny _ _ (truthy (Value.int _ _)) _ _ _); first | (with_reducible refine truthy_ne (by assumption) ?_) | (with_reducible refine truthy_zero (by assumption) ?_))) | (((with_reducible show wpAny _ _ (subscriptTail _ (PySem.Expr.Slice _ _ _ _) (Value.str _ _) (Value.ref _)) _ _ _); (refine slice_all (s := ⟨_, _, _, _, _⟩) (by k_asm) (by k_asm) ?_); intro _ _ _ _ _)) | walk1 | (dsimp only; walk1)); (try dsimp only))))))))
        have ha1 := tl_slice_from (lcpI_nn a b) (lcpI_le1 a b)
        have hb1 := tl_slice_from (lcpI_nn a b) (lcpI_le2 a b)
        generalize Txt.slice a (some (lcpI a b)) none = a1 at *
        generalize Txt.slice b (some (lcpI a b)) none = b1 at *
        (((with_reducible rename Fr _ _ _ _ => F0); (with_reducible rename News _ _ _ _ => N0)))
        rename_i t81 _ _ _ _ t82 _ _ tk8 h8 ha11 hb11
        (try dsimp +zetaDelta only)
        revert hb11
        revert ha11
        revert hb1
        revert ha1
        revert hab
        revert N0
        revert F0
        revert T'
        revert X'
        revert B'
        revert hg
        revert hret
        revert hun
        revert hdp
        revert hb
        revert ha
        exact @hP0 tc u t81 t82 tk8 h8 tk a1 b1
namespace C
@[irreducible] noncomputable def cutT : Tok × (Str → Option Value) × Tok × Tok × Nat × Heap × Nat × Str × Str := gen ⟨(0, fun _ => none, 0, 0, 0, default, 0, Str.ofString "", Str.ofString "")⟩ fun t => cutQ2.1 t.1 t.2.1 t.2.2.1 t.2.2.2.1 t.2.2.2.2.1 t.2.2.2.2.2.1 t.2.2.2.2.2.2.1 t.2.2.2.2.2.2.2.1 t.2.2.2.2.2.2.2.2
@[irreducible] noncomputable def tc : Tok := cutT.1
@[irreducible] noncomputable def u : Str → Option Value := cutT.2.1
@[irreducible] noncomputable def t81 : Tok := cutT.2.2.1
@[irreducible] noncomputable def t82 : Tok := cutT.2.2.2.1
@[irreducible] noncomputable def tk8 : Nat := cutT.2.2.2.2.1
@[irreducible] noncomputable def h8 : Heap := cutT.2.2.2.2.2.1
@[irreducible] noncomputable def tk : Nat := cutT.2.2.2.2.2.2.1
@[irreducible] noncomputable def a1 : Str := cutT.2.2.2.2.2.2.2.1
@[irreducible] noncomputable def b1 : Str := cutT.2.2.2.2.2.2.2.2
noncomputable def cutQ3 : { qq : (Str → Tok → Str → Tok → (Str → Option Value) → Heap → Nat → Prop) // (∀ (a2 : Str) (t2 : Tok) (b2 : Str) (t3 : Tok) (u3 : Str → Option Value) (h3 : Heap) (tk3 : Nat), qq a2 t2 b2 t3 u3 h3 tk3) → cutQ2.1 tc u t81 t82 tk8 h8 tk a1 b1 } := by
  refine ⟨?qq0, fun hP0 => ?b⟩
  case b =>
    delta cutQ2
    dsimp only
    intro ha hb hdp hun hret hg B' X' T' F0 N0 hab ha1 hb1 ha11 hb11
    refine' while_cut (σ := Int × Tok) (fun _ => []) (fun c => [(Str.ofString "post", .int c.1 c.2), (Str.ofString "a", .str a1 _), (Str.ofString "b", .str b1 _), (Str.ofString "max_cost", .int mc tm)]) (fun c => c.1 ≤ 0 ∧ -c.1 ≤ lcsI a1 b1) (fun c => -c.1 = lcsI a1 b1) (fun c => (lcsI a1 b1 + c.1).toNat) (0, _) F0 N0 ?kk ?kp ?kt ?kd ?kE
    case kk => kst_all
    case kp => exact ⟨Int.le_refl _, lcsI_nn _ _⟩
    case kE => passes_own
    case kt =>
      rintro ⟨c, tc⟩ u h tk ⟨hc0, hc1⟩ F' N'
      clear F0 N0
      dsimp only at hc0 hc1 N'; dsimp only [kstB] at F'
      have hl1 := lcsI_le1 a1 b1
      have hl2 := lcsI_le2 a1 b1
      (try k_fold)
      by_cases hz : c = 0
      · (((try k_fold); ((repeat' (first | (k_unfold; (try dsimp only)) | ((fail_if_success (with_reducible show wpAny _ _ (exec (Stmt.While _ _ _ _) _) _ _ _)); (fail_if_success (with_reducible show wpAny _ _ (exec (Stmt.For _ _ _ _ _) _) _ _ _)); (fail_if_success (with_reducible show wpAny _ _ (pyIter _) _ _ _)); ((first | (((with_reducible show wpAny _ _ (truthy (Value.int _ _)) _ _ _); first | (with_reducible refine truthy_ne (by assumption) ?_) | (with_reducible refine truthy_zero (by assumption) ?_))) | (((with_reducible show wpAny _ _ (subscriptTail _ (PySem.Expr.Slice _ _ _ _) (Value.str _ _) (Value.ref _)) _ _ _); (refine slice_all (s := ⟨_, _, _, _, _⟩) (by k_asm) (by k_asm) ?_); intro _ _ _ _ _)) | walk1 | (dsimp only; walk1)); (try dsimp only))))))))
        all_goals (((try dsimp only [WTurn, FTurn]); refine Out.mk' (_, _) (by k_asm) (by k_asm) (by kst_in) (by kst_all) ?_))
        · rename (_ == _) = true => hi
          have := post_go hc0 hc1 (by omega) (by omega) hi
          exact ⟨⟨by dsimp only; omega, by dsimp only; omega⟩, by dsimp only; omega⟩
        · rename (_ == _) = false => hi
          exact post_stop3 hc0 hc1 (by omega) (by omega) hi
        · exact post_stop hc0 hc1 (.inr (by omega))
        · exact post_stop hc0 hc1 (.inl (by omega))
      · have hz' : c ≠ 0 := hz
        have hs1 := slice_neg_len (a := a1) (c := c) (by omega) (by omega)
        have hs2 := slice_neg_len (a := b1) (c := c) (by omega) (by omega)
        (((try k_fold); ((repeat' (first | (k_unfold; (try dsimp only)) | ((fail_if_success (with_reducible show wpAny _ _ (exec (Stmt.While _ _ _ _) _) _ _ _)); (fail_if_success (with_reducible show wpAny _ _ (exec (Stmt.For _ _ _ _ _) _) _ _ _)); (fail_if_success (with_reducible show wpAny _ _ (pyIter _) _ _ _)); ((first | (((with_reducible show wpAny _ _ (truthy (Value.int _ _)) _ _ _); first | (with_reducible refine truthy_ne (by assumption) ?_) | (with_reducible refine truthy_zero (by assumption) ?_))) | (((with_reducible show wpAny _ _ (subscriptTail _ (PySem.Expr.Slice _ _ _ _) (Value.str _ _) (Value.ref _)) _ _ _); (refine slice_all (s := ⟨_, _, _, _, _⟩) (by k_asm) (by k_asm) ?_); intro _ _ _ _ _)) | walk1 | (dsimp only; walk1)); (try dsimp only))))))))
        all_goals (((try dsimp only [WTurn, FTurn]); refine Out.mk' (_, _) (by k_asm) (by k_asm) (by kst_in) (by kst_all) ?_))
        · rename (_ == _) = true => hi
          have := post_go hc0 hc1 (by omega) (by omega) hi
          exact ⟨⟨by dsimp only; omega, by dsimp only; omega⟩, by dsimp only; omega⟩
        · rename (_ == _) = false => hi
          exact post_stop3 hc0 hc1 (by omega) (by omega) hi
        · exact post_stop hc0 hc1 (.inr (by omega))
        · exact post_stop hc0 hc1 (.inl (by omega))
    case kd =>
      rintro ⟨c, tc⟩ u h tk hc F' N'
      clear F0 N0
      dsimp only at hc N'; dsimp only [kstB] at F'
      have hl1 := lcsI_le1 a1 b1
      have hl2 := lcsI_le2 a1 b1
      have hl0 := lcsI_nn a1 b1
      (try k_fold)
      (try k_unfold)
      (try dsimp only)
      have e1 : ∀ x : Str, x.length ≤ 1000 → lcsI a1 b1 ≤ x.length → True := fun _ _ _ => trivial
      refine' seq_cut (h₀ := g) (L := L') (σ := Tok) (fun _ => []) (fun t => [(Str.ofString "post", .int c tc), (Str.ofString "a", .str (cutEnd a1 (lcsI a1 b1).toNat) t), (Str.ofString "b", .str b1 _), (Str.ofString "max_cost", .int mc tm)]) (fun _ => True) ?s1 ?s2
      case s1 =>
        by_cases hz : c = 0
        · (((try k_fold); ((repeat' (first | (k_unfold; (try dsimp only)) | ((fail_if_success (with_reducible show wpAny _ _ (exec (Stmt.While _ _ _ _) _) _ _ _)); (fail_if_success (with_reducible show wpAny _ _ (exec (Stmt.For _ _ _ _ _) _) _ _ _)); (fail_if_success (with_reducible show wpAny _ _ (pyIter _) _ _ _)); ((first | (((with_reducible show wpAny _ _ (truthy (Value.int _ _)) _ _ _); first | (with_reducible refine truthy_ne (by assumption) ?_) | (with_reducible refine truthy_zero (by assumption) ?_))) | (((with_reducible show wpAny _ _ (subscriptTail _ (PySem.Expr.Slice _ _ _ _) (Value.str _ _) (Value.ref _)) _ _ _); (refine slice_all (s := ⟨_, _, _, _, _⟩) (by k_asm) (by k_asm) ?_); intro _ _ _ _ _)) | walk1 | (dsimp only; walk1)); (try dsimp only))))))))
          refine' Out.mk' _ ?oF ?oN ?oL ?oP ?oX
          case oF => k_asm
          case oN => k_asm
          case oL => kst_in
          case oX => trivial
          case oP =>
            have e0 : (lcsI a1 b1).toNat = 0 := by omega
            rw [e0, cutEnd_zero]
            kst_all
        · have hz' : c ≠ 0 := hz
          (((try k_fold); ((repeat' (first | (k_unfold; (try dsimp only)) | ((fail_if_success (with_reducible show wpAny _ _ (exec (Stmt.While _ _ _ _) _) _ _ _)); (fail_if_success (with_reducible show wpAny _ _ (exec (Stmt.For _ _ _ _ _) _) _ _ _)); (fail_if_success (with_reducible show wpAny _ _ (pyIter _) _ _ _)); ((first | (((with_reducible show wpAny _ _ (truthy (Value.int _ _)) _ _ _); first | (with_reducible refine truthy_ne (by assumption) ?_) | (with_reducible refine truthy_zero (by assumption) ?_))) | (((with_reducible show wpAny _ _ (subscriptTail _ (PySem.Expr.Slice _ _ _ _) (Value.str _ _) (Value.ref _)) _ _ _); (refine slice_all (s := ⟨_, _, _, _, _⟩) (by k_asm) (by k_asm) ?_); intro _ _ _ _ _)) | walk1 | (dsimp only; walk1)); (try dsimp only))))))))
          refine' Out.mk' _ ?oF ?oN ?oL ?oP ?oX
          case oF => k_asm
          case oN => k_asm
          case oL => kst_in
          case oX => trivial
          case oP =>
            have e0 := cutEnd_neg (a := a1) (c := c) (by omega) (by omega)
            rw [← hc, ← e0]
            kst_all
      case s2 =>
        intro t2 u2 h2 tk2 _ F2 N2
        clear F' N'
        (try dsimp only at N2); dsimp only [kstB] at F2
        (try k_fold)
        generalize hA2 : cutEnd a1 (lcsI a1 b1).toNat = a2 at *
        refine' seq_cut (h₀ := g) (L := L') (σ := Tok) (fun _ => []) (fun t => [(Str.ofString "a", .str a2 t2), (Str.ofString "b", .str (cutEnd b1 (lcsI a1 b1).toNat) t), (Str.ofString "max_cost", .int mc tm)]) (fun _ => True) ?s1 ?s2
        case s1 =>
          by_cases hz : c = 0
          · (((try k_fold); ((repeat' (first | (k_unfold; (try dsimp only)) | ((fail_if_success (with_reducible show wpAny _ _ (exec (Stmt.While _ _ _ _) _) _ _ _)); (fail_if_success (with_reducible show wpAny _ _ (exec (Stmt.For _ _ _ _ _) _) _ _ _)); (fail_if_success (with_reducible show wpAny _ _ (pyIter _) _ _ _)); ((first | (((with_reducible show wpAny _ _ (truthy (Value.int _ _)) _ _ _); first | (with_reducible refine truthy_ne (by assumption) ?_) | (with_reducible refine truthy_zero (by assumption) ?_))) | (((with_reducible show wpAny _ _ (subscriptTail _ (PySem.Expr.Slice _ _ _ _) (Value.str _ _) (Value.ref _)) _ _ _); (refine slice_all (s := ⟨_, _, _, _, _⟩) (by k_asm) (by k_asm) ?_); intro _ _ _ _ _)) | walk1 | (dsimp only; walk1)); (try dsimp only))))))))
            refine' Out.mk' _ ?oF ?oN ?oL ?oP ?oX
            case oF => k_asm
            case oN => k_asm
            case oL => kst_in
            case oX => trivial
            case oP =>
              have e0 : (lcsI a1 b1).toNat = 0 := by omega
              rw [e0, cutEnd_zero]
              kst_all
          · have hz' : c ≠ 0 := hz
            (((try k_fold); ((repeat' (first | (k_unfold; (try dsimp only)) | ((fail_if_success (with_reducible show wpAny _ _ (exec (Stmt.While _ _ _ _) _) _ _ _)); (fail_if_success (with_reducible show wpAny _ _ (exec (Stmt.For _ _ _ _ _) _) _ _ _)); (fail_if_success (with_reducible show wpAny _ _ (pyIter _) _ _ _)); ((first | (((with_reducible show wpAny _ _ (truthy (Value.int _ _)) _ _ _); first | (with_reducible refine truthy_ne (by assumption) ?_) | (with_reducible refine truthy_zero (by assumption) ?_))) | (((with_reducible show wpAny _ _ (subscriptTail _ (PySem.Expr.Slice _ _ _ _) (Value.str _ _) (Value.ref _)) _ _ _); (refine slice_all (s := ⟨_, _, _, _, _⟩) (by k_asm) (by k_asm) ?_); intro _ _ _ _ _)) | walk1 | (dsimp only; walk1)); (try dsimp only))))))))
            refine' Out.mk' _ ?oF ?oN ?oL ?oP ?oX
            case oF => k_asm
            case oN => k_asm
            case oL => kst_in
            case oX => trivial
            case oP =>
              have e0 := cutEnd_neg (a := b1) (c := c) (by omega) (by omega)
              rw [← hc, ← e0]
              kst_all
        case s2 =>
          intro t3 u3 h3 tk3 _ F3 N3
          clear F2 N2
          (try dsimp only at N3); dsimp only [kstB] at F3
          have ha2 : a2.length ≤ 1000 := by rw [← hA2, cutEnd_len]; omega
          have hb2 : (cutEnd b1 (lcsI a1 b1).toNat).length ≤ 1000 := by rw [cutEnd_len]; omega
          have hfin : levL costN (tl a) (tl b) mc = core costN (tl a2) (tl (cutEnd b1 (lcsI a1 b1).toNat)) mc := by
            rw [← hA2, tl_cutEnd, tl_cutEnd]
            unfold levL
            rw [if_neg hab]
            have e1 : tl a1 = List.drop (lcpL (tl a) (tl b)) (tl a) := by rw [ha1]; rfl
            have e2 : tl b1 = List.drop (lcpL (tl a) (tl b)) (tl b) := by rw [hb1]; rfl
            dsimp only
            rw [← e1, ← e2]
            have e3 : lcsL (tl a1) (tl b1) = (lcsI a1 b1).toNat := by unfold lcsI; omega
            rw [e3, tl_length, tl_length]
          rw [hfin] at hret
          clear hfin
          generalize hB2 : cutEnd b1 (lcsI a1 b1).toNat = b2 at *
          clear hA2 hB2 ha1 hb1 hl0 hl1 hl2 hc e1
          have la2 := tl_length a2
          have lb2 := tl_length b2
          (try dsimp +zetaDelta only)
          revert lb2
          revert la2
          revert hb2
          revert ha2
          revert N3
          revert F3
          revert T'
          revert X'
          revert B'
          revert hg
          revert hret
          revert hun
          revert hdp
          revert hb
          revert ha
          exact @hP0 a2 t2 b2 t3 u3 h3 tk3
namespace C
@[irreducible] noncomputable def cutT : Str × Tok × Str × Tok × (Str → Option Value) × Heap × Nat := gen ⟨(Str.ofString "", 0, Str.ofString "", 0, fun _ => none, default, 0)⟩ fun t => cutQ3.1 t.1 t.2.1 t.2.2.1 t.2.2.2.1 t.2.2.2.2.1 t.2.2.2.2.2.1 t.2.2.2.2.2.2
@[irreducible] noncomputable def a2 : Str := cutT.1
@[irreducible] noncomputable def t2 : Tok := cutT.2.1
@[irreducible] noncomputable def b2 : Str := cutT.2.2.1
@[irreducible] noncomputable def t3 : Tok := cutT.2.2.2.1
@[irreducible] noncomputable def u3 : Str → Option Value := cutT.2.2.2.2.1
@[irreducible] noncomputable def h3 : Heap := cutT.2.2.2.2.2.1
@[irreducible] noncomputable def tk3 : Nat := cutT.2.2.2.2.2.2
noncomputable def cutQ4 : { qq : (Str → Tok → Str → Tok → (Str → Option Value) → Heap → Nat → Prop) // (∀ (a3 : Str) (t4 : Tok) (b3 : Str) (t5 : Tok) (u6 : Str → Option Value) (h6 : Heap) (tk6 : Nat), qq a3 t4 b3 t5 u6 h6 tk6) → cutQ3.1 a2 t2 b2 t3 u3 h3 tk3 } := by
  refine ⟨?qq0, fun hP0 => ?b⟩
  case b =>
    delta cutQ3
    dsimp only
    intro ha hb hdp hun hret hg B' X' T' F3 N3 ha2 hb2 la2 lb2
    (try k_fold)
    refine' seq_cut (h₀ := g) (L := L') (σ := Unit) (fun _ => []) (fun _ => [(Str.ofString "a", .str a2 t2), (Str.ofString "b", .str b2 t3), (Str.ofString "max_cost", .int mc tm)]) (fun _ => a2.length ≠ 0 ∧ b2.length ≠ 0) ?s1 ?s2
    case s1 =>
      (((try k_fold); ((repeat' (first | (k_unfold; (try dsimp only)) | ((fail_if_success (with_reducible show wpAny _ _ (exec (Stmt.While _ _ _ _) _) _ _ _)); (fail_if_success (with_reducible show wpAny _ _ (exec (Stmt.For _ _ _ _ _) _) _ _ _)); (fail_if_success (with_reducible show wpAny _ _ (pyIter _) _ _ _)); ((first | (((with_reducible show wpAny _ _ (truthy (Value.int _ _)) _ _ _); first | (with_reducible refine truthy_ne (by assumption) ?_) | (with_reducible refine truthy_zero (by assumption) ?_))) | (((with_reducible show wpAny _ _ (subscriptTail _ (PySem.Expr.Slice _ _ _ _) (Value.str _ _) (Value.ref _)) _ _ _); (refine slice_all (s := ⟨_, _, _, _, _⟩) (by k_asm) (by k_asm) ?_); intro _ _ _ _ _)) | walk1 | (dsimp only; walk1)); (try dsimp only))))))))
      · (((try dsimp only [WTurn, FTurn]); refine Out.mk' () (by k_asm) (by k_asm) (by kst_in) (by kst_all) ?_))
        exact ⟨by omega, by omega⟩
      · (((try k_unfold); (try dsimp only); refine hret _ _ _ (ret_keep hg (by k_asm)) ?_))
        exact int_is (core_empty (by omega)).symm
      · (((try k_unfold); (try dsimp only); refine hret _ _ _ (ret_keep hg (by k_asm)) ?_))
        exact int_is (core_empty (by omega)).symm
    case s2 =>
      intro _ u4 h4 tk4 hx4 F4 N4
      clear F3 N3
      obtain ⟨hx41, hx42⟩ := hx4
      (try dsimp only at N4); dsimp only [kstB] at F4
      (try k_fold)
      refine' seq_cut (h₀ := g) (L := L') (σ := Unit) (fun _ => []) (fun _ => [(Str.ofString "a", .str a2 t2), (Str.ofString "b", .str b2 t3), (Str.ofString "max_cost", .int mc tm)]) (fun _ => a2.length ≤ 40 ∧ b2.length ≤ 40) ?s1 ?s2
      case s1 =>
        (((try k_fold); ((repeat' (first | (k_unfold; (try dsimp only)) | ((fail_if_success (with_reducible show wpAny _ _ (exec (Stmt.While _ _ _ _) _) _ _ _)); (fail_if_success (with_reducible show wpAny _ _ (exec (Stmt.For _ _ _ _ _) _) _ _ _)); (fail_if_success (with_reducible show wpAny _ _ (pyIter _) _ _ _)); ((first | (((with_reducible show wpAny _ _ (truthy (Value.int _ _)) _ _ _); first | (with_reducible refine truthy_ne (by assumption) ?_) | (with_reducible refine truthy_zero (by assumption) ?_))) | (((with_reducible show wpAny _ _ (subscriptTail _ (PySem.Expr.Slice _ _ _ _) (Value.str _ _) (Value.ref _)) _ _ _); (refine slice_all (s := ⟨_, _, _, _, _⟩) (by k_asm) (by k_asm) ?_); intro _ _ _ _ _)) | walk1 | (dsimp only; walk1)); (try dsimp only))))))))
        · (((try k_unfold); (try dsimp only); refine hret _ _ _ (ret_keep hg (by k_asm)) ?_))
          exact int_is (core_long hx41 hx42 (by omega)).symm
        · (((try k_unfold); (try dsimp only); refine hret _ _ _ (ret_keep hg (by k_asm)) ?_))
          exact int_is (core_long hx41 hx42 (by omega)).symm
        · (((try dsimp only [WTurn, FTurn]); refine Out.mk' () (by k_asm) (by k_asm) (by kst_in) (by kst_all) ?_))
          exact ⟨by omega, by omega⟩
      case s2 =>
        intro _ u5 h5 tk5 hx5 F5 N5
        clear F4 N4
        obtain ⟨hx51, hx52⟩ := hx5
        (try dsimp only at N5); dsimp only [kstB] at F5
        (try k_fold)
        refine' seq_cut (h₀ := g) (L := L') (σ := (Str × Tok) × (Str × Tok)) (fun _ => []) (fun c => [(Str.ofString "a", .str c.1.1 c.1.2), (Str.ofString "b", .str c.2.1 c.2.2), (Str.ofString "max_cost", .int mc tm)])
          (fun c => core costN (tl a2) (tl b2) mc = (if ((c.2.1.length : Int) - c.1.1.length) * 2 > mc then mc + 1 else levRows costN (tl c.1.1) (tl c.2.1) mc) ∧ c.1.1.length ≤ 40 ∧ c.2.1.length ≤ 40) ?s1 ?s2
        case s1 =>
          (((try k_fold); ((repeat' (first | (k_unfold; (try dsimp only)) | ((fail_if_success (with_reducible show wpAny _ _ (exec (Stmt.While _ _ _ _) _) _ _ _)); (fail_if_success (with_reducible show wpAny _ _ (exec (Stmt.For _ _ _ _ _) _) _ _ _)); (fail_if_success (with_reducible show wpAny _ _ (pyIter _) _ _ _)); ((first | (((with_reducible show wpAny _ _ (truthy (Value.int _ _)) _ _ _); first | (with_reducible refine truthy_ne (by assumption) ?_) | (with_reducible refine truthy_zero (by assumption) ?_))) | (((with_reducible show wpAny _ _ (subscriptTail _ (PySem.Expr.Slice _ _ _ _) (Value.str _ _) (Value.ref _)) _ _ _); (refine slice_all (s := ⟨_, _, _, _, _⟩) (by k_asm) (by k_asm) ?_); intro _ _ _ _ _)) | walk1 | (dsimp only; walk1)); (try dsimp only))))))))
          · (((try dsimp only [WTurn, FTurn]); refine Out.mk' ((_, _), (_, _)) (by k_asm) (by k_asm) (by kst_in) (by kst_all) ?_))
            exact ⟨core_swap hx41 hx42 hx51 hx52 (by omega), by dsimp only; omega, by dsimp only; omega⟩
          · (((try dsimp only [WTurn, FTurn]); refine Out.mk' ((_, _), (_, _)) (by k_asm) (by k_asm) (by kst_in) (by kst_all) ?_))
            exact ⟨core_stay hx41 hx42 hx51 hx52 (by omega), by dsimp only; omega, by dsimp only; omega⟩
        case s2 =>
          rintro ⟨⟨a3, t4⟩, ⟨b3, t5⟩⟩ u6 h6 tk6 hx6 F6 N6
          clear F5 N5
          dsimp only at hx6
          obtain ⟨hx61, hx62, hx63⟩ := hx6
          (try dsimp only at N6); dsimp only [kstB] at F6
          rw [hx61] at hret
          clear hx61
          (try dsimp +zetaDelta only)
          revert N6
          revert F6
          revert hx63
          revert hx62
          revert T'
          revert X'
          revert B'
          revert hg
          revert hret
          revert hun
          revert hdp
          revert hb
          revert ha
          exact @hP0 a3 t4 b3 t5 u6 h6 tk6
namespace C
@[irreducible] noncomputable def cutT : Str × Tok × Str × Tok × (Str → Option Value) × Heap × Nat := gen ⟨(Str.ofString "", 0, Str.ofString "", 0, fun _ => none, default, 0)⟩ fun t => cutQ4.1 t.1 t.2.1 t.2.2.1 t.2.2.2.1 t.2.2.2.2.1 t.2.2.2.2.2.1 t.2.2.2.2.2.2
@[irreducible] noncomputable def a3 : Str := cutT.1
@[irreducible] noncomputable def t4 : Tok := cutT.2.1
@[irreducible] noncomputable def b3 : Str := cutT.2.2.1
@[irreducible] noncomputable def t5 : Tok := cutT.2.2.2.1
@[irreducible] noncomputable def u6 : Str → Option Value := cutT.2.2.2.2.1
@[irreducible] noncomputable def h6 : Heap := cutT.2.2.2.2.2.1
@[irreducible] noncomputable def tk6 : Nat := cutT.2.2.2.2.2.2
noncomputable def cutQ5 : { qq : (Addr → (List Value) → Nat → Nat → Heap → Nat → Heap → Nat → Tok → Tok → Tok → Int → Prop) // (∀ (l : Addr) (vs : List Value) (e7 : Nat) (tkA : Nat) (hA : Heap) (tk : Nat) (hB : Heap) (tkB : Nat) (tA : Tok) (uA : Tok) (vA : Tok) (V : Int), qq l vs e7 tkA hA tk hB tkB tA uA vA V) → cutQ4.1 a3 t4 b3 t5 u6 h6 tk6 } := by
  refine ⟨?qq0, fun hP0 => ?b⟩
  case b =>
    delta cutQ4
    dsimp only
    intro ha hb hdp hun hret hg B' X' T' hx62 hx63 F6 N6
    (try k_fold)
    (((try k_fold); ((repeat' (first | (k_unfold; (try dsimp only)) | ((fail_if_success (with_reducible show wpAny _ _ (exec (Stmt.While _ _ _ _) _) _ _ _)); (fail_if_success (with_reducible show wpAny _ _ (exec (Stmt.For _ _ _ _ _) _) _ _ _)); (fail_if_success (with_reducible show wpAny _ _ (pyIter _) _ _ _)); ((first | (((with_reducible show wpAny _ _ (truthy (Value.int _ _)) _ _ _); first | (with_reducible refine truthy_ne (by assumption) ?_) | (with_reducible refine truthy_zero (by assumption) ?_))) | (((with_reducible show wpAny _ _ (subscriptTail _ (PySem.Expr.Slice _ _ _ _) (Value.str _ _) (Value.ref _)) _ _ _); (refine slice_all (s := ⟨_, _, _, _, _⟩) (by k_asm) (by k_asm) ?_); intro _ _ _ _ _)) | walk1 | (dsimp only; walk1)); (try dsimp only))))))))
    · (((try k_unfold); (try dsimp only); refine hret _ _ _ (ret_keep hg (by k_asm)) ?_))
      exact int_is (if_pos (by omega)).symm
    · rename ¬ _ < _ => hle
      rw [if_neg (by omega)] at hret
      have la3 := tl_length a3
      have lb3 := tl_length b3
      (((with_reducible rename Fr _ _ _ _ => F0); (with_reducible rename News _ _ _ _ => N0)))
      rename IsRange _ _ _ _ _ _ _ _ => R0
      refine list_range_led (n := a3.length) rfl F0 N0 R0 (small_two (by omega)) size_two (by omega) ?_
      intro l h7 tk7 vs e7 F7 N7 hI7 hlt
      clear F0 N0 R0 hlt
      rw [row0_range] at hI7
      dsimp only
      (((try k_fold); ((repeat' (first | (k_unfold; (try dsimp only)) | ((fail_if_success (with_reducible show wpAny _ _ (exec (Stmt.While _ _ _ _) _) _ _ _)); (fail_if_success (with_reducible show wpAny _ _ (exec (Stmt.For _ _ _ _ _) _) _ _ _)); (fail_if_success (with_reducible show wpAny _ _ (pyIter _) _ _ _)); ((first | (((with_reducible show wpAny _ _ (truthy (Value.int _ _)) _ _ _); first | (with_reducible refine truthy_ne (by assumption) ?_) | (with_reducible refine truthy_zero (by assumption) ?_))) | (((with_reducible show wpAny _ _ (subscriptTail _ (PySem.Expr.Slice _ _ _ _) (Value.str _ _) (Value.ref _)) _ _ _); (refine slice_all (s := ⟨_, _, _, _, _⟩) (by k_asm) (by k_asm) ?_); intro _ _ _ _ _)) | walk1 | (dsimp only; walk1)); (try dsimp only))))))))
      (((with_reducible rename Fr _ _ _ _ => F0); (with_reducible rename News _ _ _ _ => N0)))
      refine For_invV g rfl rfl ?_
      (((try k_fold); ((repeat' (first | (k_unfold; (try dsimp only)) | ((fail_if_success (with_reducible show wpAny _ _ (exec (Stmt.While _ _ _ _) _) _ _ _)); (fail_if_success (with_reducible show wpAny _ _ (exec (Stmt.For _ _ _ _ _) _) _ _ _)); (fail_if_success (with_reducible show wpAny _ _ (pyIter _) _ _ _)); ((first | (((with_reducible show wpAny _ _ (truthy (Value.int _ _)) _ _ _); first | (with_reducible refine truthy_ne (by assumption) ?_) | (with_reducible refine truthy_zero (by assumption) ?_))) | (((with_reducible show wpAny _ _ (subscriptTail _ (PySem.Expr.Slice _ _ _ _) (Value.str _ _) (Value.ref _)) _ _ _); (refine slice_all (s := ⟨_, _, _, _, _⟩) (by k_asm) (by k_asm) ?_); intro _ _ _ _ _)) | walk1 | (dsimp only; walk1)); (try dsimp only))))))))
      (try clear F0); (try clear N0); (try clear F7); (try clear N7)
      (((with_reducible rename Fr _ _ _ _ => F0); (with_reducible rename News _ _ _ _ => N0)))
      rename IsRange _ _ _ _ _ _ _ _ => R0
      generalize hV : levRows costN (tl a3) (tl b3) mc = V at *
      rename_i tkA hA _ _ hB tkB tA uA vA _
      (try dsimp +zetaDelta only)
      revert hV
      revert lb3
      revert la3
      revert hI7
      revert R0
      revert N0
      revert F0
      revert hx63
      revert hx62
      revert T'
      revert X'
      revert B'
      revert hg
      revert hret
      revert hun
      revert hdp
      revert hb
      revert ha
      exact @hP0 l vs e7 tkA hA tk hB tkB tA uA vA V
namespace C
@[irreducible] noncomputable def cutT : Addr × (List Value) × Nat × Nat × Heap × Nat × Heap × Nat × Tok × Tok × Tok × Int := gen ⟨(0, [], 0, 0, default, 0, default, 0, 0, 0, 0, 0)⟩ fun t => cutQ5.1 t.1 t.2.1 t.2.2.1 t.2.2.2.1 t.2.2.2.2.1 t.2.2.2.2.2.1 t.2.2.2.2.2.2.1 t.2.2.2.2.2.2.2.1 t.2.2.2.2.2.2.2.2.1 t.2.2.2.2.2.2.2.2.2.1 t.2.2.2.2.2.2.2.2.2.2.1 t.2.2.2.2.2.2.2.2.2.2.2
@[irreducible] noncomputable def l : Addr := cutT.1
@[irreducible] noncomputable def vs : List Value := cutT.2.1
@[irreducible] noncomputable def e7 : Nat := cutT.2.2.1
@[irreducible] noncomputable def tkA : Nat := cutT.2.2.2.1
@[irreducible] noncomputable def hA : Heap := cutT.2.2.2.2.1
@[irreducible] noncomputable def tk : Nat := cutT.2.2.2.2.2.1
@[irreducible] noncomputable def hB : Heap := cutT.2.2.2.2.2.2.1
@[irreducible] noncomputable def tkB : Nat := cutT.2.2.2.2.2.2.2.1
@[irreducible] noncomputable def tA : Tok := cutT.2.2.2.2.2.2.2.2.1
@[irreducible] noncomputable def uA : Tok := cutT.2.2.2.2.2.2.2.2.2.1
@[irreducible] noncomputable def vA : Tok := cutT.2.2.2.2.2.2.2.2.2.2.1
@[irreducible] noncomputable def V : Int := cutT.2.2.2.2.2.2.2.2.2.2.2
noncomputable def cutQ6 : { qq : (Nat → Tok → (List Value) → Nat → Int → Tok → (List Int) → (Str → Option Value) → Nat → Addr → Obj → Nat → Nat → Heap → Nat → Heap → Nat → Tok → Tok → Tok → Prop) // (∀ (i : Nat) (ti : Tok) (vs : List Value) (e : Nat) (r : Int) (tr : Tok) (row : List Int) (u8 : Str → Option Value) (tk8 : Nat) (I1 : Addr) (oI1 : Obj) (tkC : Nat) (tkD : Nat) (hD : Heap) (tk : Nat) (hE : Heap) (tkE : Nat) (tE : Tok) (uE : Tok) (vE : Tok), qq i ti vs e r tr row u8 tk8 I1 oI1 tkC tkD hD tk hE tkE tE uE vE) → cutQ5.1 l vs e7 tkA hA tk hB tkB tA uA vA V } := by
  refine ⟨?qq0, fun hP0 => ?b⟩
  case b =>
    delta cutQ5
    dsimp only
    intro ha hb hdp hun hret hg B' X' T' hx62 hx63 F0 N0 R0 hI7 la3 lb3 hV
    refine' range_cut (σ := List Value × Nat × Int × Tok × List Int) (n := b3.length) (fun c => [(l, W.listOf c.1.toArray c.2.1)])
      (fun c => [(Str.ofString "a", .str a3 t4), (Str.ofString "b", .str b3 t5), (Str.ofString "max_cost", .int mc tm), (Str.ofString "row", .ref l), (Str.ofString "result", .int c.2.2.1 c.2.2.2.1)])
      (fun i c => IntsAre c.1 c.2.2.2.2 ∧ c.2.2.2.2.length = a3.length ∧ oGo costN (tl a3) (tl b3) mc (b3.length - i) i c.2.2.2.2 c.2.2.1 = V)
      (fun c => c.2.2.1 = V) (vs, e7, 0, _, row0 a3.length) rfl R0 (small_one (by omega) (by omega) (by omega) (by omega)) size_one F0 N0 ?kl ?kk ?kp ?kt ?kx ?kd
    case kl => kst_in
    case kk => kst_all
    case kp => exact ⟨hI7, by simp [row0], by rw [← hV]; unfold levRows; rw [la3, lb3]; rfl⟩
    case kx =>
      rintro ⟨vs, e, r, tr, row⟩ ⟨_, _, h3⟩
      rw [Nat.sub_self] at h3
      exact h3
    case kd =>
      rintro ⟨vs, e, r, tr, row⟩ u8 h8 tk8 hx F8 N8
      clear F0 N0 R0
      dsimp only at hx; (try dsimp only at N8); dsimp only [kstB] at F8
      subst hx
      (try k_fold)
      (((try k_fold); ((repeat' (first | (k_unfold; (try dsimp only)) | ((fail_if_success (with_reducible show wpAny _ _ (exec (Stmt.While _ _ _ _) _) _ _ _)); (fail_if_success (with_reducible show wpAny _ _ (exec (Stmt.For _ _ _ _ _) _) _ _ _)); (fail_if_success (with_reducible show wpAny _ _ (pyIter _) _ _ _)); ((first | (((with_reducible show wpAny _ _ (truthy (Value.int _ _)) _ _ _); first | (with_reducible refine truthy_ne (by assumption) ?_) | (with_reducible refine truthy_zero (by assumption) ?_))) | (((with_reducible show wpAny _ _ (subscriptTail _ (PySem.Expr.Slice _ _ _ _) (Value.str _ _) (Value.ref _)) _ _ _); (refine slice_all (s := ⟨_, _, _, _, _⟩) (by k_asm) (by k_asm) ?_); intro _ _ _ _ _)) | walk1 | (dsimp only; walk1)); (try dsimp only))))))))
      (((try k_unfold); (try dsimp only); refine hret _ _ _ (ret_keep hg (by k_asm)) ?_))
      exact int_is rfl
    case kt =>
      rintro i ti ⟨vs, e, r, tr, row⟩ u8 h8 tk8 I1 oI1 hi ⟨hI8, hl8, hg8⟩ hne F8 N8
      clear F0 N0 R0 hI7
      dsimp only at hI8 hl8 hg8 hne; (try dsimp only at N8); dsimp only [kstB] at F8
      (try k_fold)
      (((try k_fold); ((repeat' (first | (k_unfold; (try dsimp only)) | ((fail_if_success (with_reducible show wpAny _ _ (exec (Stmt.While _ _ _ _) _) _ _ _)); (fail_if_success (with_reducible show wpAny _ _ (exec (Stmt.For _ _ _ _ _) _) _ _ _)); (fail_if_success (with_reducible show wpAny _ _ (pyIter _) _ _ _)); ((first | (((with_reducible show wpAny _ _ (truthy (Value.int _ _)) _ _ _); first | (with_reducible refine truthy_ne (by assumption) ?_) | (with_reducible refine truthy_zero (by assumption) ?_))) | (((with_reducible show wpAny _ _ (subscriptTail _ (PySem.Expr.Slice _ _ _ _) (Value.str _ _) (Value.ref _)) _ _ _); (refine slice_all (s := ⟨_, _, _, _, _⟩) (by k_asm) (by k_asm) ?_); intro _ _ _ _ _)) | walk1 | (dsimp only; walk1)); (try dsimp only))))))))
      refine For_invV g rfl rfl ?_
      (((try k_fold); ((repeat' (first | (k_unfold; (try dsimp only)) | ((fail_if_success (with_reducible show wpAny _ _ (exec (Stmt.While _ _ _ _) _) _ _ _)); (fail_if_success (with_reducible show wpAny _ _ (exec (Stmt.For _ _ _ _ _) _) _ _ _)); (fail_if_success (with_reducible show wpAny _ _ (pyIter _) _ _ _)); ((first | (((with_reducible show wpAny _ _ (truthy (Value.int _ _)) _ _ _); first | (with_reducible refine truthy_ne (by assumption) ?_) | (with_reducible refine truthy_zero (by assumption) ?_))) | (((with_reducible show wpAny _ _ (subscriptTail _ (PySem.Expr.Slice _ _ _ _) (Value.str _ _) (Value.ref _)) _ _ _); (refine slice_all (s := ⟨_, _, _, _, _⟩) (by k_asm) (by k_asm) ?_); intro _ _ _ _ _)) | walk1 | (dsimp only; walk1)); (try dsimp only))))))))
      (try clear F8); (try clear N8)
      (((with_reducible rename Fr _ _ _ _ => F0); (with_reducible rename News _ _ _ _ => N0)))
      rename IsRange _ _ _ _ _ _ _ _ => R0
      have hb3 : (Txt.item b3 (0 + (i : Int))).length ≤ 1000 := by omega
      have hneI : l ≠ I1 := hne _ (.head _)
      rename_i tkC _ _ tkD hD _ _ hE tkE tE uE vE _
      (try dsimp +zetaDelta only)
      revert hi
      revert hg8
      revert hl8
      revert hI8
      revert hne
      revert hneI
      revert hb3
      revert R0
      revert N0
      revert F0
      revert hV
      revert lb3
      revert la3
      revert hx63
      revert hx62
      revert T'
      revert X'
      revert B'
      revert hg
      revert hret
      revert hun
      revert hdp
      revert hb
      revert ha
      exact @hP0 i ti vs e r tr row u8 tk8 I1 oI1 tkC tkD hD tk hE tkE tE uE vE
namespace C
@[irreducible] noncomputable def cutT : Nat × Tok × (List Value) × Nat × Int × Tok × (List Int) × (Str → Option Value) × Nat × Addr × Obj × Nat × Nat × Heap × Nat × Heap × Nat × Tok × Tok × Tok := gen ⟨(0, 0, [], 0, 0, 0, [], fun _ => none, 0, 0, default, 0, 0, default, 0, default, 0, 0, 0, 0)⟩ fun t => cutQ6.1 t.1 t.2.1 t.2.2.1 t.2.2.2.1 t.2.2.2.2.1 t.2.2.2.2.2.1 t.2.2.2.2.2.2.1 t.2.2.2.2.2.2.2.1 t.2.2.2.2.2.2.2.2.1 t.2.2.2.2.2.2.2.2.2.1 t.2.2.2.2.2.2.2.2.2.2.1 t.2.2.2.2.2.2.2.2.2.2.2.1 t.2.2.2.2.2.2.2.2.2.2.2.2.1 t.2.2.2.2.2.2.2.2.2.2.2.2.2.1 t.2.2.2.2.2.2.2.2.2.2.2.2.2.2.1 t.2.2.2.2.2.2.2.2.2.2.2.2.2.2.2.1 t.2.2.2.2.2.2.2.2.2.2.2.2.2.2.2.2.1 t.2.2.2.2.2.2.2.2.2.2.2.2.2.2.2.2.2.1 t.2.2.2.2.2.2.2.2.2.2.2.2.2.2.2.2.2.2.1 t.2.2.2.2.2.2.2.2.2.2.2.2.2.2.2.2.2.2.2
@[irreducible] noncomputable def i : Nat := cutT.1
@[irreducible] noncomputable def ti : Tok := cutT.2.1
@[irreducible] noncomputable def vs : List Value := cutT.2.2.1
@[irreducible] noncomputable def e : Nat := cutT.2.2.2.1
@[irreducible] noncomputable def r : Int := cutT.2.2.2.2.1
@[irreducible] noncomputable def tr : Tok := cutT.2.2.2.2.2.1
@[irreducible] noncomputable def row : List Int := cutT.2.2.2.2.2.2.1
@[irreducible] noncomputable def u8 : Str → Option Value := cutT.2.2.2.2.2.2.2.1
@[irreducible] noncomputable def tk8 : Nat := cutT.2.2.2.2.2.2.2.2.1
@[irreducible] noncomputable def I1 : Addr := cutT.2.2.2.2.2.2.2.2.2.1
@[irreducible] noncomputable def oI1 : Obj := cutT.2.2.2.2.2.2.2.2.2.2.1
@[irreducible] noncomputable def tkC : Nat := cutT.2.2.2.2.2.2.2.2.2.2.2.1
@[irreducible] noncomputable def tkD : Nat := cutT.2.2.2.2.2.2.2.2.2.2.2.2.1
@[irreducible] noncomputable def hD : Heap := cutT.2.2.2.2.2.2.2.2.2.2.2.2.2.1
@[irreducible] noncomputable def tk : Nat := cutT.2.2.2.2.2.2.2.2.2.2.2.2.2.2.1
@[irreducible] noncomputable def hE : Heap := cutT.2.2.2.2.2.2.2.2.2.2.2.2.2.2.2.1
@[irreducible] noncomputable def tkE : Nat := cutT.2.2.2.2.2.2.2.2.2.2.2.2.2.2.2.2.1
@[irreducible] noncomputable def tE : Tok := cutT.2.2.2.2.2.2.2.2.2.2.2.2.2.2.2.2.2.1
@[irreducible] noncomputable def uE : Tok := cutT.2.2.2.2.2.2.2.2.2.2.2.2.2.2.2.2.2.2.1
@[irreducible] noncomputable def vE : Tok := cutT.2.2.2.2.2.2.2.2.2.2.2.2.2.2.2.2.2.2.2
noncomputable def cutQ7 : { qq : (Nat → Tok → (List Value) → Nat → Int → Tok → Int → Tok → Int → Tok → (List Int) → (Str → Option Value) → Heap → Nat → Addr → Obj → Prop) // (∀ (j : Nat) (tj : Tok) (vs' : List Value) (e' : Nat) (d' : Int) (td' : Tok) (r' : Int) (tr' : Tok) (mn' : Int) (tmn' : Tok) (row' : List Int) (u9 : Str → Option Value) (h9 : Heap) (tk9 : Nat) (I2 : Addr) (oI2 : Obj), qq j tj vs' e' d' td' r' tr' mn' tmn' row' u9 h9 tk9 I2 oI2) → cutQ6.1 i ti vs e r tr row u8 tk8 I1 oI1 tkC tkD hD tk hE tkE tE uE vE } := by
  refine ⟨?qq0, fun hP0 => ?b⟩
  case b =>
    delta cutQ6
    dsimp only
    intro ha hb hdp hun hret hg B' X' T' hx62 hx63 la3 lb3 hV F0 N0 R0 hb3 hneI hne hI8 hl8 hg8 hi
    refine' range_cut (σ := List Value × Nat × (Int × Tok) × (Int × Tok) × (Int × Tok) × List Int) (n := a3.length) (fun c => [(l, W.listOf c.1.toArray c.2.1), (I1, oI1)])
      (fun c => [(Str.ofString "a", .str a3 t4), (Str.ofString "b", .str b3 t5), (Str.ofString "bchar", .str (Txt.item b3 (0 + (i : Int))) _), (Str.ofString "max_cost", .int mc tm), (Str.ofString "row", .ref l),
        (Str.ofString "distance", .int c.2.2.1.1 c.2.2.1.2), (Str.ofString "result", .int c.2.2.2.1.1 c.2.2.2.1.2), (Str.ofString "minimum", .int c.2.2.2.2.1.1 c.2.2.2.2.1.2)])
      (fun j c => IntsAre c.1 c.2.2.2.2.2 ∧ (c.2.2.2.2.2, c.2.2.1.1, c.2.2.2.1.1, c.2.2.2.2.1.1) = iRun costN ((tl b3).getD i 0) (tl a3) row (2 * (i : Int)) j)
      (fun c => IntsAre c.1 c.2.2.2.2.2 ∧ (c.2.2.2.2.2, c.2.2.1.1, c.2.2.2.1.1, c.2.2.2.2.1.1) = iRun costN ((tl b3).getD i 0) (tl a3) row (2 * (i : Int)) a3.length) (vs, e, (_, _), (_, _), (_, _), row) rfl R0 (small_one (by omega) (by omega) (by omega) (by omega)) size_one F0 N0 ?kl ?kk ?kp ?kt ?kx ?kd
    case kl => kst_in
    case kk => kst_all
    case kp =>
      refine ⟨hI8, ?_⟩
      rw [iRun_zero]
      dsimp only
      have : (0 + (i : Int)) * 2 = 2 * i := by omega
      rw [this]
    case kx => exact fun c h => h
    case kd =>
      rintro ⟨vs', e', ⟨d', td'⟩, ⟨r', tr'⟩, ⟨mn', tmn'⟩, row'⟩ u9 h9 tk9 ⟨hI9, hR9⟩ F9 N9
      clear F0 N0 R0
      dsimp only at hI9 hR9; (try dsimp only at N9); dsimp only [kstB] at F9
      (try k_fold)
      have hst := oGo_step (V := V) (row' := row') (d' := d') (r' := r') (mn' := mn') hi hg8 (by rw [la3]; exact hR9)
      (((try k_fold); ((repeat' (first | (k_unfold; (try dsimp only)) | ((fail_if_success (with_reducible show wpAny _ _ (exec (Stmt.While _ _ _ _) _) _ _ _)); (fail_if_success (with_reducible show wpAny _ _ (exec (Stmt.For _ _ _ _ _) _) _ _ _)); (fail_if_success (with_reducible show wpAny _ _ (pyIter _) _ _ _)); ((first | (((with_reducible show wpAny _ _ (truthy (Value.int _ _)) _ _ _); first | (with_reducible refine truthy_ne (by assumption) ?_) | (with_reducible refine truthy_zero (by assumption) ?_))) | (((with_reducible show wpAny _ _ (subscriptTail _ (PySem.Expr.Slice _ _ _ _) (Value.str _ _) (Value.ref _)) _ _ _); (refine slice_all (s := ⟨_, _, _, _, _⟩) (by k_asm) (by k_asm) ?_); intro _ _ _ _ _)) | walk1 | (dsimp only; walk1)); (try dsimp only))))))))
      · dsimp only [FTurn]
        (((try k_unfold); (try dsimp only); refine hret _ _ _ (ret_keep hg (by k_asm)) ?_))
        exact int_is (hst.1 (by omega))
      · dsimp only [FTurn]
        refine' Out.mk' (_, _, _, _, row') ?oF ?oN ?oL ?oP ?oX
        case oF => k_asm
        case oN => k_asm
        case oL => kst_in
        case oP => kst_all
        case oX =>
          refine ⟨⟨hI9, ?_, hst.2 (by omega)⟩, ?_⟩
          · have := iRun_len costN ((tl b3).getD i 0) (tl a3) row (2 * (i : Int)) a3.length
            rw [← hR9] at this; dsimp only at this ⊢; omega
          · intro p hp
            rw [List.mem_singleton.mp hp]; exact hneI
    case kt =>
      rintro j tj ⟨vs', e', ⟨d', td'⟩, ⟨r', tr'⟩, ⟨mn', tmn'⟩, row'⟩ u9 h9 tk9 I2 oI2 hj ⟨hI9, hR9⟩ hne2 F9 N9
      clear F0 N0 R0
      dsimp only at hI9 hR9 hne2; (try dsimp only at N9); dsimp only [kstB] at F9
      have hl9 : row'.length = a3.length := by
        have := iRun_len costN ((tl b3).getD i 0) (tl a3) row (2 * (i : Int)) j
        rw [← hR9] at this; dsimp only at this; omega
      have hlv := hI9.length
      (try dsimp +zetaDelta only)
      revert hj
      revert hlv
      revert hl9
      revert N9
      revert F9
      revert hne2
      revert hR9
      revert hI9
      revert hi
      revert hg8
      revert hl8
      revert hI8
      revert hne
      revert hneI
      revert hb3
      revert hV
      revert lb3
      revert la3
      revert hx63
      revert hx62
      revert T'
      revert X'
      revert B'
      revert hg
      revert hret
      revert hun
      revert hdp
      revert hb
      revert ha
      exact @hP0 j tj vs' e' d' td' r' tr' mn' tmn' row' u9 h9 tk9 I2 oI2
namespace C
@[irreducible] noncomputable def cutT : Nat × Tok × (List Value) × Nat × Int × Tok × Int × Tok × Int × Tok × (List Int) × (Str → Option Value) × Heap × Nat × Addr × Obj := gen ⟨(0, 0, [], 0, 0, 0, 0, 0, 0, 0, [], fun _ => none, default, 0, 0, default)⟩ fun t => cutQ7.1 t.1 t.2.1 t.2.2.1 t.2.2.2.1 t.2.2.2.2.1 t.2.2.2.2.2.1 t.2.2.2.2.2.2.1 t.2.2.2.2.2.2.2.1 t.2.2.2.2.2.2.2.2.1 t.2.2.2.2.2.2.2.2.2.1 t.2.2.2.2.2.2.2.2.2.2.1 t.2.2.2.2.2.2.2.2.2.2.2.1 t.2.2.2.2.2.2.2.2.2.2.2.2.1 t.2.2.2.2.2.2.2.2.2.2.2.2.2.1 t.2.2.2.2.2.2.2.2.2.2.2.2.2.2.1 t.2.2.2.2.2.2.2.2.2.2.2.2.2.2.2
@[irreducible] noncomputable def j : Nat := cutT.1
@[irreducible] noncomputable def tj : Tok := cutT.2.1
@[irreducible] noncomputable def vs' : List Value := cutT.2.2.1
@[irreducible] noncomputable def e' : Nat := cutT.2.2.2.1
@[irreducible] noncomputable def d' : Int := cutT.2.2.2.2.1
@[irreducible] noncomputable def td' : Tok := cutT.2.2.2.2.2.1
@[irreducible] noncomputable def r' : Int := cutT.2.2.2.2.2.2.1
@[irreducible] noncomputable def tr' : Tok := cutT.2.2.2.2.2.2.2.1
@[irreducible] noncomputable def mn' : Int := cutT.2.2.2.2.2.2.2.2.1
@[irreducible] noncomputable def tmn' : Tok := cutT.2.2.2.2.2.2.2.2.2.1
@[irreducible] noncomputable def row' : List Int := cutT.2.2.2.2.2.2.2.2.2.2.1
@[irreducible] noncomputable def u9 : Str → Option Value := cutT.2.2.2.2.2.2.2.2.2.2.2.1
@[irreducible] noncomputable def h9 : Heap := cutT.2.2.2.2.2.2.2.2.2.2.2.2.1
@[irreducible] noncomputable def tk9 : Nat := cutT.2.2.2.2.2.2.2.2.2.2.2.2.2.1
@[irreducible] noncomputable def I2 : Addr := cutT.2.2.2.2.2.2.2.2.2.2.2.2.2.2.1
@[irreducible] noncomputable def oI2 : Obj := cutT.2.2.2.2.2.2.2.2.2.2.2.2.2.2.2
theorem cutP7 : cutQ7.1 j tj vs' e' d' td' r' tr' mn' tmn' row' u9 h9 tk9 I2 oI2 := by
  delta cutQ7
  dsimp only
  intro ha hb hdp hun hret hg B' X' T' hx62 hx63 la3 lb3 hV hb3 hneI hne hI8 hl8 hg8 hi hI9 hR9 hne2 F9 N9 hl9 hlv hj
  (try k_fold)
  have hn1 : l ≠ I2 := hne2 _ (.head _)
  have hn2 : I1 ≠ I2 := hne2 _ (.tail _ (.head _))
  have hnes : ∀ (o : Obj), ∀ p ∈ [(l, o), (I1, oI1)], p.1 ≠ I2 := by
    intro o p hp
    rcases List.mem_cons.mp hp with rfl | hp
    · exact hn1
    · rw [List.mem_singleton.mp hp]; exact hn2
  have hst := iStep_two (a := a3) (b := b3) hi hj hR9 _ rfl
  (((try k_fold); ((repeat' (first | (k_unfold; (try dsimp only)) | ((fail_if_success (with_reducible show wpAny _ _ (exec (Stmt.While _ _ _ _) _) _ _ _)); (fail_if_success (with_reducible show wpAny _ _ (exec (Stmt.For _ _ _ _ _) _) _ _ _)); (fail_if_success (with_reducible show wpAny _ _ (pyIter _) _ _ _)); ((first | (((with_reducible show wpAny _ _ (truthy (Value.int _ _)) _ _ _); first | (with_reducible refine truthy_ne (by assumption) ?_) | (with_reducible refine truthy_zero (by assumption) ?_))) | (((with_reducible show wpAny _ _ (subscriptTail _ (PySem.Expr.Slice _ _ _ _) (Value.str _ _) (Value.ref _)) _ _ _); (refine slice_all (s := ⟨_, _, _, _, _⟩) (by k_asm) (by k_asm) ?_); intro _ _ _ _ _)) | walk1 | (dsimp only; walk1)); (try dsimp only))))))))
  · dsimp only [FTurn]
    refine Out.mk' (_, _, (_, _), (_, _), (_, _), row'.set (0 + (j : Int)).toNat _) (by k_asm) (by k_asm) (by kst_in) (by kst_all) (by
      dsimp only
      exact ⟨⟨intsAre_set hI9 _ _ _, hst.1 (by assumption)⟩, hnes _⟩)
  · dsimp only [FTurn]
    refine Out.mk' (_, _, (_, _), (_, _), (_, _), row'.set (0 + (j : Int)).toNat _) (by k_asm) (by k_asm) (by kst_in) (by kst_all) (by
      dsimp only
      exact ⟨⟨intsAre_set hI9 _ _ _, hst.2 (by assumption)⟩, hnes _⟩)
theorem cutR7 : ∀ (j : Nat) (tj : Tok) (vs' : List Value) (e' : Nat) (d' : Int) (td' : Tok) (r' : Int) (tr' : Tok) (mn' : Int) (tmn' : Tok) (row' : List Int) (u9 : Str → Option Value) (h9 : Heap) (tk9 : Nat) (I2 : Addr) (oI2 : Obj), cutQ7.1 j tj vs' e' d' td' r' tr' mn' tmn' row' u9 h9 tk9 I2 oI2 := by
  intro j tj vs' e' d' td' r' tr' mn' tmn' row' u9 h9 tk9 I2 oI2
  with_unfolding_all exact of_gen (P := fun t : Nat × Tok × (List Value) × Nat × Int × Tok × Int × Tok × Int × Tok × (List Int) × (Str → Option Value) × Heap × Nat × Addr × Obj => cutQ7.1 t.1 t.2.1 t.2.2.1 t.2.2.2.1 t.2.2.2.2.1 t.2.2.2.2.2.1 t.2.2.2.2.2.2.1 t.2.2.2.2.2.2.2.1 t.2.2.2.2.2.2.2.2.1 t.2.2.2.2.2.2.2.2.2.1 t.2.2.2.2.2.2.2.2.2.2.1 t.2.2.2.2.2.2.2.2.2.2.2.1 t.2.2.2.2.2.2.2.2.2.2.2.2.1 t.2.2.2.2.2.2.2.2.2.2.2.2.2.1 t.2.2.2.2.2.2.2.2.2.2.2.2.2.2.1 t.2.2.2.2.2.2.2.2.2.2.2.2.2.2.2) cutP7 (j, tj, vs', e', d', td', r', tr', mn', tmn', row', u9, h9, tk9, I2, oI2)
end C
theorem cutP6 : cutQ6.1 i ti vs e r tr row u8 tk8 I1 oI1 tkC tkD hD tk hE tkE tE uE vE := cutQ7.2 C.cutR7
theorem cutR6 : ∀ (i : Nat) (ti : Tok) (vs : List Value) (e : Nat) (r : Int) (tr : Tok) (row : List Int) (u8 : Str → Option Value) (tk8 : Nat) (I1 : Addr) (oI1 : Obj) (tkC : Nat) (tkD : Nat) (hD : Heap) (tk : Nat) (hE : Heap) (tkE : Nat) (tE : Tok) (uE : Tok) (vE : Tok), cutQ6.1 i ti vs e r tr row u8 tk8 I1 oI1 tkC tkD hD tk hE tkE tE uE vE := by
  intro i ti vs e r tr row u8 tk8 I1 oI1 tkC tkD hD tk hE tkE tE uE vE
  with_unfolding_all exact of_gen (P := fun t : Nat × Tok × (List Value) × Nat × Int × Tok × (List Int) × (Str → Option Value) × Nat × Addr × Obj × Nat × Nat × Heap × Nat × Heap × Nat × Tok × Tok × Tok => cutQ6.1 t.1 t.2.1 t.2.2.1 t.2.2.2.1 t.2.2.2.2.1 t.2.2.2.2.2.1 t.2.2.2.2.2.2.1 t.2.2.2.2.2.2.2.1 t.2.2.2.2.2.2.2.2.1 t.2.2.2.2.2.2.2.2.2.1 t.2.2.2.2.2.2.2.2.2.2.1 t.2.2.2.2.2.2.2.2.2.2.2.1 t.2.2.2.2.2.2.2.2.2.2.2.2.1 t.2.2.2.2.2.2.2.2.2.2.2.2.2.1 t.2.2.2.2.2.2.2.2.2.2.2.2.2.2.1 t.2.2.2.2.2.2.2.2.2.2.2.2.2.2.2.1 t.2.2.2.2.2.2.2.2.2.2.2.2.2.2.2.2.1 t.2.2.2.2.2.2.2.2.2.2.2.2.2.2.2.2.2.1 t.2.2.2.2.2.2.2.2.2.2.2.2.2.2.2.2.2.2.1 t.2.2.2.2.2.2.2.2.2.2.2.2.2.2.2.2.2.2.2) cutP6 (i, ti, vs, e, r, tr, row, u8, tk8, I1, oI1, tkC, tkD, hD, tk, hE, tkE, tE, uE, vE)
end C
theorem cutP5 : cutQ5.1 l vs e7 tkA hA tk hB tkB tA uA vA V := cutQ6.2 C.cutR6
theorem cutR5 : ∀ (l : Addr) (vs : List Value) (e7 : Nat) (tkA : Nat) (hA : Heap) (tk : Nat) (hB : Heap) (tkB : Nat) (tA : Tok) (uA : Tok) (vA : Tok) (V : Int), cutQ5.1 l vs e7 tkA hA tk hB tkB tA uA vA V := by
  intro l vs e7 tkA hA tk hB tkB tA uA vA V
  with_unfolding_all exact of_gen (P := fun t : Addr × (List Value) × Nat × Nat × Heap × Nat × Heap × Nat × Tok × Tok × Tok × Int => cutQ5.1 t.1 t.2.1 t.2.2.1 t.2.2.2.1 t.2.2.2.2.1 t.2.2.2.2.2.1 t.2.2.2.2.2.2.1 t.2.2.2.2.2.2.2.1 t.2.2.2.2.2.2.2.2.1 t.2.2.2.2.2.2.2.2.2.1 t.2.2.2.2.2.2.2.2.2.2.1 t.2.2.2.2.2.2.2.2.2.2.2) cutP5 (l, vs, e7, tkA, hA, tk, hB, tkB, tA, uA, vA, V)
end C
theorem cutP4 : cutQ4.1 a3 t4 b3 t5 u6 h6 tk6 := cutQ5.2 C.cutR5
theorem cutR4 : ∀ (a3 : Str) (t4 : Tok) (b3 : Str) (t5 : Tok) (u6 : Str → Option Value) (h6 : Heap) (tk6 : Nat), cutQ4.1 a3 t4 b3 t5 u6 h6 tk6 := by
  intro a3 t4 b3 t5 u6 h6 tk6
  with_unfolding_all exact of_gen (P := fun t : Str × Tok × Str × Tok × (Str → Option Value) × Heap × Nat => cutQ4.1 t.1 t.2.1 t.2.2.1 t.2.2.2.1 t.2.2.2.2.1 t.2.2.2.2.2.1 t.2.2.2.2.2.2) cutP4 (a3, t4, b3, t5, u6, h6, tk6)
end C
theorem cutP3 : cutQ3.1 a2 t2 b2 t3 u3 h3 tk3 := cutQ4.2 C.cutR4
theorem cutR3 : ∀ (a2 : Str) (t2 : Tok) (b2 : Str) (t3 : Tok) (u3 : Str → Option Value) (h3 : Heap) (tk3 : Nat), cutQ3.1 a2 t2 b2 t3 u3 h3 tk3 := by
  intro a2 t2 b2 t3 u3 h3 tk3
  with_unfolding_all exact of_gen (P := fun t : Str × Tok × Str × Tok × (Str → Option Value) × Heap × Nat => cutQ3.1 t.1 t.2.1 t.2.2.1 t.2.2.2.1 t.2.2.2.2.1 t.2.2.2.2.2.1 t.2.2.2.2.2.2) cutP3 (a2, t2, b2, t3, u3, h3, tk3)
end C
theorem cutP2 : cutQ2.1 tc u t81 t82 tk8 h8 tk a1 b1 := cutQ3.2 C.cutR3
theorem cutR2 : ∀ (tc : Tok) (u : Str → Option Value) (t81 : Tok) (t82 : Tok) (tk8 : Nat) (h8 : Heap) (tk : Nat) (a1 : Str) (b1 : Str), cutQ2.1 tc u t81 t82 tk8 h8 tk a1 b1 := by
  intro tc u t81 t82 tk8 h8 tk a1 b1
  with_unfolding_all exact of_gen (P := fun t : Tok × (Str → Option Value) × Tok × Tok × Nat × Heap × Nat × Str × Str => cutQ2.1 t.1 t.2.1 t.2.2.1 t.2.2.2.1 t.2.2.2.2.1 t.2.2.2.2.2.1 t.2.2.2.2.2.2.1 t.2.2.2.2.2.2.2.1 t.2.2.2.2.2.2.2.2) cutP2 (tc, u, t81, t82, tk8, h8, tk, a1, b1)
end C
theorem cutP1 : cutQ1.1 w mean mg mb a b ta tb mc tm dp un gd outers base s Q E g L' h₁ := cutQ2.2 C.cutR2
theorem cutR1 : ∀ (w : World) (mean : ExcName → Option Value) (mg : Str → Option Value) (mb : Str → Option Value) (a : Str) (b : Str) (ta : Tok) (tb : Tok) (mc : Int) (tm : Tok) (dp : Nat) (un : Nat) (gd : Option (List Code)) (outers : List Env) (base : Heap) (s : Shared) (Q : Value → Shared → Prop) (E : Value → Shared → Prop) (g : Heap) (L' : Addr) (h₁ : Heap), cutQ1.1 w mean mg mb a b ta tb mc tm dp un gd outers base s Q E g L' h₁ := by
  intro w mean mg mb a b ta tb mc tm dp un gd outers base s Q E g L' h₁
  with_unfolding_all exact of_gen (P := fun t : World × (ExcName → Option Value) × (Str → Option Value) × (Str → Option Value) × Str × Str × Tok × Tok × Int × Tok × Nat × Nat × (Option (List Code)) × (List Env) × Heap × Shared × (Value → Shared → Prop) × (Value → Shared → Prop) × Heap × Addr × Heap => cutQ1.1 t.1 t.2.1 t.2.2.1 t.2.2.2.1 t.2.2.2.2.1 t.2.2.2.2.2.1 t.2.2.2.2.2.2.1 t.2.2.2.2.2.2.2.1 t.2.2.2.2.2.2.2.2.1 t.2.2.2.2.2.2.2.2.2.1 t.2.2.2.2.2.2.2.2.2.2.1 t.2.2.2.2.2.2.2.2.2.2.2.1 t.2.2.2.2.2.2.2.2.2.2.2.2.1 t.2.2.2.2.2.2.2.2.2.2.2.2.2.1 t.2.2.2.2.2.2.2.2.2.2.2.2.2.2.1 t.2.2.2.2.2.2.2.2.2.2.2.2.2.2.2.1 t.2.2.2.2.2.2.2.2.2.2.2.2.2.2.2.2.1 t.2.2.2.2.2.2.2.2.2.2.2.2.2.2.2.2.2.1 t.2.2.2.2.2.2.2.2.2.2.2.2.2.2.2.2.2.2.1 t.2.2.2.2.2.2.2.2.2.2.2.2.2.2.2.2.2.2.2.1 t.2.2.2.2.2.2.2.2.2.2.2.2.2.2.2.2.2.2.2.2) cutP1 (w, mean, mg, mb, a, b, ta, tb, mc, tm, dp, un, gd, outers, base, s, Q, E, g, L', h₁)
end C
end lev_tells
theorem lev_tells (w : World) (mean : ExcName → Option Value) (mg mb : Str → Option Value) (a b : Str) (ta tb : Tok) (mc : Int) (tm : Tok) (ha : a.length ≤ 1000) (hb : b.length ≤ 1000) :
   Tells Challenge.rw_re0065_01.row.prog w (hd1.heap_39 w.params) hd1.view_39 (looseW hd1.view_39 []) mean mg mb 2 49 [.str a ta, .str b tb, .int mc tm] (fun _ => True) (fun v _ _ => ∃ t, v = .int (levL costN (tl a) (tl b) mc) t) :=
  lev_tells.cutQ1.2 lev_tells.C.cutR1 w mean mg mb a b ta tb mc tm ha hb
end Mine
end
section
local macro_rules | `(tactic| omega) => `(tactic| lia)
open PySem PySem.W PyProof.Rows PySem.Builtin PySem.Builtin.Str
namespace Mine
noncomputable def occRun (p : Nat → Bool) (w hi limit : Nat) : List Nat → List Nat → Nat → List Nat
  | [], found, _ => found
  | i :: l, found, free => if found.length < limit ∧ free ≤ i ∧ i + w ≤ hi ∧ p i = true then occRun p w hi limit l (found ++ [i]) (i + w) else occRun p w hi limit l found free
theorem occ_run_aux (s sub : Str) (hi limit : Nat) : ∀ (l : List Nat) (st : Array Nat × Nat),
    (forIn l st (StrLaws.occBody s sub hi limit)).run.fst.toList = occRun (subAt s sub) sub.length hi limit l st.fst.toList st.snd
  | [], st => rfl
  | a :: l, st => by
    rw [List.forIn_cons]
    unfold occRun StrLaws.occBody
    by_cases h : ((st.fst.size < limit ∧ st.snd ≤ a) ∧ a + sub.length ≤ hi) ∧ subAt s sub a = true
    · rw [if_pos h, if_pos ⟨by simpa using h.1.1.1, h.1.1.2, h.1.2, h.2⟩]
      have := occ_run_aux s sub hi limit l (st.fst.push a, a + sub.length)
      simp only [Array.toList_push] at this
      exact this
    · rw [if_neg h, if_neg (fun q => h ⟨⟨⟨by simpa using q.1, q.2.1⟩, q.2.2.1⟩, q.2.2.2⟩)]
      exact occ_run_aux s sub hi limit l st
theorem occ_run (s sub : Str) (lo hi limit : Nat) : occurrences s sub lo hi limit = occRun (subAt s sub) sub.length hi limit (List.range' lo (hi + 1 - lo)) [] lo := by
  rw [StrLaws.occ_eq, occ_run_aux]
noncomputable def subAtL (x y : List Nat) (i : Nat) : Bool := (x.drop i).take y.length == y
noncomputable def occL (x y : List Nat) (lo hi limit : Nat) : List Nat := occRun (subAtL x y) y.length hi limit (List.range' lo (hi + 1 - lo)) [] lo
theorem subAt_L (s sub : Str) : subAt s sub = subAtL (tl s) (tl sub) := by
  funext i
  rw [StrLaws.subAt_eq]
  unfold subAtL
  rw [tl_length]
theorem occ_L (s sub : Str) (lo hi limit : Nat) : occurrences s sub lo hi limit = occL (tl s) (tl sub) lo hi limit := by
  rw [occ_run, subAt_L]; unfold occL; rw [tl_length]
theorem occRun_in (p : Nat → Bool) (w hi limit lo : Nat) : ∀ (l found : List Nat) (free : Nat), (∀ i ∈ found, lo ≤ i ∧ i + w ≤ hi) → (∀ i ∈ l, lo ≤ i) → ∀ i ∈ occRun p w hi limit l found free, lo ≤ i ∧ i + w ≤ hi
  | [], found, free, h, _ => h
  | a :: l, found, free, h, hl => by
    unfold occRun
    split
    · rename_i hc
      refine occRun_in p w hi limit lo l _ _ ?_ (fun i hi => hl i (.tail _ hi))
      intro i hi'
      rcases List.mem_append.mp hi' with q | q
      · exact h i q
      · rw [List.mem_singleton.mp q]; exact ⟨hl a (.head _), hc.2.2.1⟩
    · exact occRun_in p w hi limit lo l _ _ h (fun i hi => hl i (.tail _ hi))
theorem occRun_grows (p : Nat → Bool) (w hi limit : Nat) : ∀ (l found : List Nat) (free : Nat), found.length ≤ (occRun p w hi limit l found free).length
  | [], found, free => Nat.le_refl _
  | a :: l, found, free => by
    unfold occRun
    split
    · exact Nat.le_trans (by simp) (occRun_grows p w hi limit l _ _)
    · exact occRun_grows p w hi limit l _ _
theorem occRun_some (p : Nat → Bool) (w hi l1 l2 : Nat) (h1 : 1 ≤ l1) (h2 : 1 ≤ l2) : ∀ (l : List Nat) (free : Nat), occRun p w hi l1 l [] free ≠ [] → occRun p w hi l2 l [] free ≠ []
  | [], free, h => h
  | a :: l, free, h => by
    unfold occRun at h ⊢
    by_cases hc : free ≤ a ∧ a + w ≤ hi ∧ p a = true
    · rw [if_pos ⟨by simp; omega, hc⟩]
      intro e
      have := occRun_grows p w hi l2 l ([] ++ [a]) (a + w)
      rw [e] at this; simp at this
    · rw [if_neg (fun q => hc q.2)] at h ⊢
      exact occRun_some p w hi l1 l2 h1 h2 l free h
noncomputable def dots : Str := Str.ofString "..."
theorem dots_len : dots.length = 3 := by decide +kernel
theorem dots_kind : Builtin.Str.strKind dots = 1 := by decide +kernel
theorem kind_pos (x : Str) : 1 ≤ Builtin.Str.strKind x := by unfold Builtin.Str.strKind; split; omega; split <;> omega
theorem split_parts {x : Str} (h : (occurrences x dots 0 x.length 1).isEmpty = false) : Txt.split x dots = StrLaws.partsFrom x 3 0 (occurrences x dots 0 x.length (x.length + 1)) ∧ occurrences x dots 0 x.length (x.length + 1) ≠ [] := by
  have hne1 : occurrences x dots 0 x.length 1 ≠ [] := by intro e; rw [e] at h; simp at h
  have hne : occurrences x dots 0 x.length (x.length + 1) ≠ [] := by
    rw [occ_run] at hne1 ⊢
    exact occRun_some _ _ _ 1 _ (by omega) (by omega) _ _ hne1
  have hlen : ¬ x.length < dots.length := by
    intro hl
    rw [occ_run] at hne1
    cases hq : occRun (subAt x dots) dots.length x.length 1 (List.range' 0 (x.length + 1 - 0)) [] 0 with
    | nil => exact hne1 hq
    | cons a r =>
      have := occRun_in (subAt x dots) dots.length x.length 1 0 (List.range' 0 (x.length + 1 - 0)) [] 0 (by simp) (by simp) a (by rw [hq]; exact .head _)
      omega
  have hk : ¬ Builtin.Str.strKind x < Builtin.Str.strKind dots := by rw [dots_kind]; have := kind_pos x; omega
  refine ⟨?_, hne⟩
  unfold Txt.split
  rw [if_neg (by simp [hlen, hk]), if_neg (by simpa using hne), StrLaws.partsBetween_eq, dots_len]
theorem partsFrom_len (x : Str) (w : Nat) : ∀ (cuts : List Nat) (a : Nat), (StrLaws.partsFrom x w a cuts).length = cuts.length + 1
  | [], a => rfl
  | c :: r, a => by unfold StrLaws.partsFrom; simp [partsFrom_len x w r]
theorem partsFrom_le (x : Str) (w : Nat) : ∀ (cuts : List Nat) (a : Nat), ∀ p ∈ StrLaws.partsFrom x w a cuts, p.length ≤ x.length
  | [], a, p, hp => by
    unfold StrLaws.partsFrom at hp
    rw [List.mem_singleton.mp hp, ← tl_length, ← tl_length x]
    show (strSub x a x.length).cps.toList.length ≤ _
    rw [StrLaws.strSub_toList]; simp; omega
  | c :: r, a, p, hp => by
    unfold StrLaws.partsFrom at hp
    rcases List.mem_cons.mp hp with rfl | hp
    · rw [← tl_length, ← tl_length x]
      show (strSub x a c).cps.toList.length ≤ _
      rw [StrLaws.strSub_toList]; simp; omega
    · exact partsFrom_le x w r _ p hp
theorem split_two {x : Str} (h : (occurrences x dots 0 x.length 1).isEmpty = false) : 2 ≤ (Txt.split x dots).length := by
  obtain ⟨e, hne⟩ := split_parts h
  rw [e, partsFrom_len]
  cases q : occurrences x dots 0 x.length (x.length + 1) with
  | nil => exact absurd q hne
  | cons a r => simp
theorem split_le {x : Str} (h : (occurrences x dots 0 x.length 1).isEmpty = false) : ∀ p ∈ Txt.split x dots, p.length ≤ x.length := by
  obtain ⟨e, hne⟩ := split_parts h
  rw [e]; exact partsFrom_le x 3 _ _
noncomputable def find4 (x y : Str) (i j : Int) : Int := match occurrences x y (fromIndex x.length i) (min (fromIndex x.length j) x.length) 1 with | k :: _ => (k : Int) | [] => -1
theorem gives_find4 (x y : Str) (i j : Int) (t u v z : Tok) : Gives («str.find» ⟨[.str x t, .str y u, .int i v, .int j z], []⟩) (.int (find4 x y i j)) := by
  unfold find4
  show Gives (match occurrences x y (fromIndex x.length i) (min (fromIndex x.length j) x.length) 1 with | k :: _ => retInt k | [] => (do rule "str.find.not-found"; retInt (-1))) _
  cases occurrences x y (fromIndex x.length i) (min (fromIndex x.length j) x.length) 1 with
  | nil => exact .rule (.of_eq rfl)
  | cons k _ => exact .of_eq rfl
theorem call_find4 {prog : Program} {w : World} {A : Around} {E : Value → Shared → Prop} {s : Shared} {x y : Str} {t u v z : Tok} {i j : Int} {Q : Value → Shared → Prop}
    (hq : Q (.int (find4 x y i j) s.toks) { s with toks := s.toks + 1 }) : wpAny (model prog w) A (call (.builtin "str.find") [.str x t, .str y u, .int i v, .int j z]) Q E s :=
  call_gives F.slot_str_find (typeIs_str _ _ _) F.entry_str_find (F.args_str_find_4 _ _ _ _) (gives_find4 x y i j t u v z) hq
noncomputable def ellScan (got : Str) : List Str → Int → Int → Bool
  | [], _, _ => true
  | w :: ws, sp, ep => if find4 got w sp ep < 0 then false else ellScan got ws (find4 got w sp ep + w.length) ep
noncomputable def ellC (got : Str) (ws : List Str) (sp ep : Int) : Bool := if sp > ep then false else ellScan got ws sp ep
noncomputable def ellBz (got pl : Str) (all init : List Str) (sp : Int) : Bool :=
  if pl.length = 0 then ellC got all sp got.length
  else if Txt.endswith got pl = true then ellC got init sp ((got.length : Int) - pl.length) else false
noncomputable def ellB (got : Str) (ws : List Str) (sp : Int) : Bool := ellBz got (ws.getLastD Str.empty) ws ws.dropLast sp
noncomputable def ellA (got p0 : Str) (all rest : List Str) : Bool :=
  if p0.length = 0 then ellB got all 0
  else if Txt.startswith got p0 = true then ellB got rest p0.length else false
noncomputable def ellF (want got : Str) : Bool :=
  if (occurrences want dots 0 want.length 1).isEmpty = true then want == got
  else ellA got ((Txt.split want dots).headD Str.empty) (Txt.split want dots) (Txt.split want dots).tail
end Mine
namespace Mine
theorem split_short {x : Str} (h : (Builtin.Str.occurrences x dots 0 x.length 1).isEmpty = false) : (Txt.split x dots).length ≤ x.length + 2 := by
  obtain ⟨e, hne⟩ := split_parts h
  rw [e, partsFrom_len]
  have := StrLaws.occ_length_le_len x dots 0 x.length (x.length + 1)
  omega
end Mine
namespace Mine
theorem strValues_snoc (l : List (Str × Tok)) (p : Str × Tok) : strValues (l ++ [p]) = strValues l ++ [.str p.1 p.2] := by simp [strValues]
theorem strValues_cons (p : Str × Tok) (l : List (Str × Tok)) : strValues (p :: l) = .str p.1 p.2 :: strValues l := rfl
theorem strValues_len (l : List (Str × Tok)) : (strValues l).length = l.length := by simp [strValues]
theorem snoc_of_ne {α : Type} {l : List α} (h : l ≠ []) : ∃ l' x, l = l' ++ [x] := ⟨l.dropLast, l.getLast h, (List.dropLast_concat_getLast h).symm⟩
theorem ellF_start {a b p0 : Str} {ws : List Str} (h1 : (Builtin.Str.occurrences a dots 0 a.length 1).isEmpty = false) (h2 : p0 :: ws = Txt.split a dots) :
    (p0.length = 0 → ellF a b = ellB b (p0 :: ws) 0) ∧ (p0.length ≠ 0 → Txt.startswith b p0 = true → ellF a b = ellB b ws p0.length) ∧ (p0.length ≠ 0 → Txt.startswith b p0 = false → ellF a b = false) := by
  have e : ellF a b = ellA b p0 (p0 :: ws) ws := by
    unfold ellF
    rw [← h2, if_neg (by rw [h1]; decide)]
    rfl
  rw [e]
  unfold ellA
  refine ⟨fun h => by rw [if_pos h], fun h h' => by rw [if_neg h, if_pos h'], fun h h' => by rw [if_neg h, if_neg (by rw [h']; decide)]⟩
theorem ellB_end {b pl : Str} {ws : List Str} {sp : Int} :
    (pl.length = 0 → ellB b (ws ++ [pl]) sp = ellC b (ws ++ [pl]) sp b.length) ∧ (pl.length ≠ 0 → Txt.endswith b pl = true → ellB b (ws ++ [pl]) sp = ellC b ws sp ((b.length : Int) - pl.length)) ∧ (pl.length ≠ 0 → Txt.endswith b pl = false → ellB b (ws ++ [pl]) sp = false) := by
  have e : ellB b (ws ++ [pl]) sp = ellBz b pl (ws ++ [pl]) ws sp := by
    unfold ellB
    rw [List.getLastD_concat, List.dropLast_concat]
  rw [e]
  unfold ellBz
  refine ⟨fun h => by rw [if_pos h], fun h h' => by rw [if_neg h, if_pos h'], fun h h' => by rw [if_neg h, if_neg (by rw [h']; decide)]⟩
theorem fits_zero : Builtin.List.listFitsIndex 0 = true := by decide +kernel
theorem fits_neg : Builtin.List.listFitsIndex (-1) = true := by decide +kernel
theorem seqIdx_zero {n : Nat} (h : 0 < n) : seqIndex? 0 n = some 0 := by
  have := StrLaws.seqIndex_nonneg (i := 0) (n := n) (by omega) (by omega); simpa using this
theorem seqIdx_last {n : Nat} : seqIndex? (-1) (n + 1) = some n := by
  have := StrLaws.seqIndex_neg (i := -1) (n := n + 1) (by omega) (by omega); rw [this]; congr 1; omega
theorem eraseIdx_snoc {α : Type} (l : List α) (x : α) : (l ++ [x]).eraseIdx l.length = l := by
  rw [List.eraseIdx_append_of_length_le (Nat.le_refl _)]; simp
end Mine
end
section
local macro_rules | `(tactic| omega) => `(tactic| lia)
set_option maxHeartbeats 8000000
set_option rowWalk.seconds 0
namespace Mine
local macro_rules | `(tactic| walk_at "call builtin:str.find") => `(tactic| (refine call_find4 ?_))
namespace ell_tells
noncomputable def cutQ1 : { qq : (World → (ExcName → Option Value) → (Str → Option Value) → (Str → Option Value) → Str → Str → Tok → Tok → Nat → Nat → (Option (List Code)) → (List Env) → Heap → Shared → (Value → Shared → Prop) → (Value → Shared → Prop) → Heap → Addr → Heap → Prop) // (∀ (w : World) (mean : ExcName → Option Value) (mg : Str → Option Value) (mb : Str → Option Value) (a : Str) (b : Str) (ta : Tok) (tb : Tok) (dp : Nat) (un : Nat) (gd : Option (List Code)) (outers : List Env) (base : Heap) (s : Shared) (Q : Value → Shared → Prop) (E : Value → Shared → Prop) (g : Heap) (L' : Addr) (h₁ : Heap), qq w mean mg mb a b ta tb dp un gd outers base s Q E g L' h₁) → ∀ (w : World) (mean : ExcName → Option Value) (mg mb : Str → Option Value) (a b : Str) (ta tb : Tok) (ha : a.length ≤ 1000) (hb : b.length ≤ 1000),
   Tells Challenge.rw_re0065_01.row.prog w (hd1.heap_39 w.params) hd1.view_39 (looseW hd1.view_39 []) mean mg mb 1 35 [.str a ta, .str b tb] (fun _ => True) (fun v _ _ => v = .bool (ellF a b)) } := by
  refine ⟨?qq0, fun hP0 => ?b⟩
  case b =>
    intro w mean mg mb a b ta tb ha hb
    ((k_fill; intro dp un gd outers base s Q E B X T hdp hun hpre hret; ((refine wpAny_call ?_; k_dflt (refine' enter ?k1 ?k2 ?k3 ?k6 ?k7 ?k8 ?k9 ?kB ?_ ?c2 ?c3 ?c4 ?c5; (case k1 => k_asm); (case k2 => k_asm); (case k3 => k_asm); (case k6 => k_is); (case k7 => k_is); (case k8 => ktr_room); (case k9 => exact BindsTo.of_eq rfl); (case c5 => decide); (case kB => exact locs rfl); (case c2 => exact rfl); (case c3 => exact rfl); (case c4 => exact rfl); k_whole))); intro g L' h₁ hg F' N' B' X' T'; (try dsimp only); (try k_lift B')))
    (try dsimp +zetaDelta only)
    revert T'
    revert X'
    revert B'
    revert N'
    revert F'
    revert hg
    revert hret
    revert hun
    revert hdp
    revert hb
    revert ha
    exact @hP0 w mean mg mb a b ta tb dp un gd outers base s Q E g L' h₁
namespace C
@[irreducible] noncomputable def cutT : World × (ExcName → Option Value) × (Str → Option Value) × (Str → Option Value) × Str × Str × Tok × Tok × Nat × Nat × (Option (List Code)) × (List Env) × Heap × Shared × (Value → Shared → Prop) × (Value → Shared → Prop) × Heap × Addr × Heap := gen ⟨(Classical.choice world_ne, fun _ => none, fun _ => none, fun _ => none, Str.ofString "", Str.ofString "", 0, 0, 0, 0, none, [], default, {}, fun _ _ => True, fun _ _ => True, default, 0, default)⟩ fun t => cutQ1.1 t.1 t.2.1 t.2.2.1 t.2.2.2.1 t.2.2.2.2.1 t.2.2.2.2.2.1 t.2.2.2.2.2.2.1 t.2.2.2.2.2.2.2.1 t.2.2.2.2.2.2.2.2.1 t.2.2.2.2.2.2.2.2.2.1 t.2.2.2.2.2.2.2.2.2.2.1 t.2.2.2.2.2.2.2.2.2.2.2.1 t.2.2.2.2.2.2.2.2.2.2.2.2.1 t.2.2.2.2.2.2.2.2.2.2.2.2.2.1 t.2.2.2.2.2.2.2.2.2.2.2.2.2.2.1 t.2.2.2.2.2.2.2.2.2.2.2.2.2.2.2.1 t.2.2.2.2.2.2.2.2.2.2.2.2.2.2.2.2.1 t.2.2.2.2.2.2.2.2.2.2.2.2.2.2.2.2.2.1 t.2.2.2.2.2.2.2.2.2.2.2.2.2.2.2.2.2.2
@[irreducible] noncomputable def w : World := cutT.1
@[irreducible] noncomputable def mean : ExcName → Option Value := cutT.2.1
@[irreducible] noncomputable def mg : Str → Option Value := cutT.2.2.1
@[irreducible] noncomputable def mb : Str → Option Value := cutT.2.2.2.1
@[irreducible] noncomputable def a : Str := cutT.2.2.2.2.1
@[irreducible] noncomputable def b : Str := cutT.2.2.2.2.2.1
@[irreducible] noncomputable def ta : Tok := cutT.2.2.2.2.2.2.1
@[irreducible] noncomputable def tb : Tok := cutT.2.2.2.2.2.2.2.1
@[irreducible] noncomputable def dp : Nat := cutT.2.2.2.2.2.2.2.2.1
@[irreducible] noncomputable def un : Nat := cutT.2.2.2.2.2.2.2.2.2.1
@[irreducible] noncomputable def gd : Option (List Code) := cutT.2.2.2.2.2.2.2.2.2.2.1
@[irreducible] noncomputable def outers : List Env := cutT.2.2.2.2.2.2.2.2.2.2.2.1
@[irreducible] noncomputable def base : Heap := cutT.2.2.2.2.2.2.2.2.2.2.2.2.1
@[irreducible] noncomputable def s : Shared := cutT.2.2.2.2.2.2.2.2.2.2.2.2.2.1
@[irreducible] noncomputable def Q : Value → Shared → Prop := cutT.2.2.2.2.2.2.2.2.2.2.2.2.2.2.1
@[irreducible] noncomputable def E : Value → Shared → Prop := cutT.2.2.2.2.2.2.2.2.2.2.2.2.2.2.2.1
@[irreducible] noncomputable def g : Heap := cutT.2.2.2.2.2.2.2.2.2.2.2.2.2.2.2.2.1
@[irreducible] noncomputable def L' : Addr := cutT.2.2.2.2.2.2.2.2.2.2.2.2.2.2.2.2.2.1
@[irreducible] noncomputable def h₁ : Heap := cutT.2.2.2.2.2.2.2.2.2.2.2.2.2.2.2.2.2.2
noncomputable def cutQ2 : { qq : (Addr → Str → Tok → (List (Str × Tok)) → Nat → Tok → Tok → Tok → (Str → Option Value) → Heap → Nat → Prop) // (∀ (lw : Addr) (p0 : Str) (t0 : Tok) (l : List (Str × Tok)) (e1 : Nat) (ts : Tok) (te : Tok) (tw : Tok) (u5 : Str → Option Value) (h5 : Heap) (tk5 : Nat), qq lw p0 t0 l e1 ts te tw u5 h5 tk5) → cutQ1.1 w mean mg mb a b ta tb dp un gd outers base s Q E g L' h₁ } := by
  refine ⟨?qq0, fun hP0 => ?b⟩
  case b =>
    delta cutQ1
    dsimp only
    intro ha hb hdp hun hret hg F' N' B' X' T'
    refine' seq_cut (h₀ := g) (L := L') (σ := Unit) (fun _ => []) (fun _ => [(Str.ofString "want", .str a ta), (Str.ofString "got", .str b tb)]) (fun _ => (Builtin.Str.occurrences a dots 0 a.length 1).isEmpty = false) ?s1 ?s2
    case s1 =>
      (((try k_fold); ((repeat' (first | (k_unfold; (try dsimp only)) | ((fail_if_success (with_reducible show wpAny _ _ (exec (Stmt.While _ _ _ _) _) _ _ _)); (fail_if_success (with_reducible show wpAny _ _ (exec (Stmt.For _ _ _ _ _) _) _ _ _)); (fail_if_success (with_reducible show wpAny _ _ (pyIter _) _ _ _)); ((first | walk1 | (dsimp only; walk1)); (try dsimp only))))))))
      · (((try k_unfold); (try dsimp only); refine hret _ _ _ (ret_keep hg (by k_asm)) ?_))
        rename _ = true => hq
        unfold ellF
        exact congrArg Value.bool (if_pos hq).symm
      · (((try dsimp only [WTurn, FTurn]); refine Out.mk' () (by k_asm) (by k_asm) (by kst_in) (by kst_all) ?_))
        assumption
    case s2 =>
      intro _ u1 h1 tk1 hx1 F1 N1
      clear F' N'
      (try dsimp only at N1); dsimp only [kstB] at F1
      (try k_fold)
      refine' seq_cut (h₀ := g) (L := L') (σ := Addr × List (Str × Tok) × Nat) (fun c => [(c.1, W.listOf (strValues c.2.1).toArray c.2.2)]) (fun c => [(Str.ofString "got", .str b tb), (Str.ofString "ws", .ref c.1)]) (fun c => c.2.1.map (·.1) = Txt.split a dots) ?s1 ?s2
      case s1 =>
        (((try k_fold); ((repeat' (first | (k_unfold; (try dsimp only)) | ((fail_if_success (with_reducible show wpAny _ _ (exec (Stmt.While _ _ _ _) _) _ _ _)); (fail_if_success (with_reducible show wpAny _ _ (exec (Stmt.For _ _ _ _ _) _) _ _ _)); (fail_if_success (with_reducible show wpAny _ _ (pyIter _) _ _ _)); ((first | walk1 | (dsimp only; walk1)); (try dsimp only))))))))
        refine Out.mk' (_, _, _) (by k_asm) (by k_asm) (by kst_in) (by kst_all) (by assumption)
      case s2 =>
        rintro ⟨lw, l, e1⟩ u2 h2 tk2 hx2 F2 N2
        clear F1 N1
        dsimp only at hx2 N2; dsimp only [kstB] at F2
        have hl2 : 2 ≤ l.length := by have := split_two hx1; rw [← hx2] at this; simpa using this
        have hle : ∀ p ∈ l, p.1.length ≤ 1000 := fun p hp => by
          have := split_le hx1 p.1 (by rw [← hx2]; exact List.mem_map_of_mem hp)
          omega
        have hlen : l.length ≤ 1002 := by have := split_short hx1; rw [← hx2] at this; simp at this; omega
        (try k_fold)
        obtain ⟨⟨p0, t0⟩, l, rfl⟩ : ∃ p l', l = p :: l' := by
          cases l with
          | nil => simp at hl2
          | cons p l' => exact ⟨p, l', rfl⟩
        have hp0 := hle _ (.head _)
        dsimp only at hp0
        refine' seq_cut (h₀ := g) (L := L') (σ := Unit) (fun _ => [(lw, W.listOf (strValues ((p0, t0) :: l)).toArray e1)]) (fun c => [(Str.ofString "got", .str b tb), (Str.ofString "ws", .ref lw)]) (fun c => True) ?s1 ?s2
        case s1 =>
          (((try k_fold); ((repeat' (first | (k_unfold; (try dsimp only)) | ((fail_if_success (with_reducible show wpAny _ _ (exec (Stmt.While _ _ _ _) _) _ _ _)); (fail_if_success (with_reducible show wpAny _ _ (exec (Stmt.For _ _ _ _ _) _) _ _ _)); (fail_if_success (with_reducible show wpAny _ _ (pyIter _) _ _ _)); ((first | walk1 | (dsimp only; walk1)); (try dsimp only))))))))
          (((try dsimp only [WTurn, FTurn]); refine Out.mk' () (by k_asm) (by k_asm) (by kst_in) (by kst_all) ?_))
          trivial
        case s2 =>
          rintro _ u3 h3 tk3 _ F3 N3
          clear F2 N2
          (try dsimp only at N3); dsimp only [kstB] at F3
          (try k_fold)
          refine' seq_cut (h₀ := g) (L := L') (σ := Tok × Tok) (fun _ => [(lw, W.listOf (strValues ((p0, t0) :: l)).toArray e1)]) (fun c => [(Str.ofString "got", .str b tb), (Str.ofString "ws", .ref lw), (Str.ofString "startpos", .int 0 c.1), (Str.ofString "endpos", .int b.length c.2)]) (fun c => True) ?s1 ?s2
          case s1 =>
            (((try k_fold); ((repeat' (first | (k_unfold; (try dsimp only)) | ((fail_if_success (with_reducible show wpAny _ _ (exec (Stmt.While _ _ _ _) _) _ _ _)); (fail_if_success (with_reducible show wpAny _ _ (exec (Stmt.For _ _ _ _ _) _) _ _ _)); (fail_if_success (with_reducible show wpAny _ _ (pyIter _) _ _ _)); ((first | walk1 | (dsimp only; walk1)); (try dsimp only))))))))
            (((try dsimp only [WTurn, FTurn]); refine Out.mk' (_, _) (by k_asm) (by k_asm) (by kst_in) (by kst_all) ?_))
            trivial
          case s2 =>
            rintro ⟨ts, te⟩ u4 h4 tk4 _ F4 N4
            clear F3 N3
            (try dsimp only at N4); dsimp only [kstB] at F4
            (try k_fold)
            refine' seq_cut (h₀ := g) (L := L') (σ := Tok) (fun _ => [(lw, W.listOf (strValues ((p0, t0) :: l)).toArray e1)]) (fun c => [(Str.ofString "got", .str b tb), (Str.ofString "ws", .ref lw), (Str.ofString "startpos", .int 0 ts), (Str.ofString "endpos", .int b.length te), (Str.ofString "w", .str p0 c)]) (fun c => True) ?s1 ?s2
            case s1 =>
              (((try k_fold); ((repeat' (first | (k_unfold; (try dsimp only)) | ((fail_if_success (with_reducible show wpAny _ _ (exec (Stmt.While _ _ _ _) _) _ _ _)); (fail_if_success (with_reducible show wpAny _ _ (exec (Stmt.For _ _ _ _ _) _) _ _ _)); (fail_if_success (with_reducible show wpAny _ _ (pyIter _) _ _ _)); ((first | walk1 | (dsimp only; walk1)); (try dsimp only))))))))
              rename (_ : Option Str) = some _ => hy
              have hy' : p0 = _ := Option.some.inj hy
              subst hy'
              refine Out.mk' _ (by k_asm) (by k_asm) (by kst_in) (by kst_all) trivial
            case s2 =>
              rintro tw u5 h5 tk5 _ F5 N5
              clear F4 N4
              (try dsimp only at N5); dsimp only [kstB] at F5
              (try dsimp +zetaDelta only)
              revert N5
              revert F5
              revert hp0
              revert hlen
              revert hle
              revert hl2
              revert hx2
              revert hx1
              revert T'
              revert X'
              revert B'
              revert hg
              revert hret
              revert hun
              revert hdp
              revert hb
              revert ha
              exact @hP0 lw p0 t0 l e1 ts te tw u5 h5 tk5
namespace C
@[irreducible] noncomputable def cutT : Addr × Str × Tok × (List (Str × Tok)) × Nat × Tok × Tok × Tok × (Str → Option Value) × Heap × Nat := gen ⟨(0, Str.ofString "", 0, [], 0, 0, 0, 0, fun _ => none, default, 0)⟩ fun t => cutQ2.1 t.1 t.2.1 t.2.2.1 t.2.2.2.1 t.2.2.2.2.1 t.2.2.2.2.2.1 t.2.2.2.2.2.2.1 t.2.2.2.2.2.2.2.1 t.2.2.2.2.2.2.2.2.1 t.2.2.2.2.2.2.2.2.2.1 t.2.2.2.2.2.2.2.2.2.2
@[irreducible] noncomputable def lw : Addr := cutT.1
@[irreducible] noncomputable def p0 : Str := cutT.2.1
@[irreducible] noncomputable def t0 : Tok := cutT.2.2.1
@[irreducible] noncomputable def l : List (Str × Tok) := cutT.2.2.2.1
@[irreducible] noncomputable def e1 : Nat := cutT.2.2.2.2.1
@[irreducible] noncomputable def ts : Tok := cutT.2.2.2.2.2.1
@[irreducible] noncomputable def te : Tok := cutT.2.2.2.2.2.2.1
@[irreducible] noncomputable def tw : Tok := cutT.2.2.2.2.2.2.2.1
@[irreducible] noncomputable def u5 : Str → Option Value := cutT.2.2.2.2.2.2.2.2.1
@[irreducible] noncomputable def h5 : Heap := cutT.2.2.2.2.2.2.2.2.2.1
@[irreducible] noncomputable def tk5 : Nat := cutT.2.2.2.2.2.2.2.2.2.2
noncomputable def cutQ3 : { qq : (Nat → Int → Tok → (List (Str × Tok)) → Str → Tok → Tok → (Str → Option Value) → Heap → Nat → Prop) // (∀ (e6 : Nat) (sp : Int) (tsp : Tok) (l2 : List (Str × Tok)) (pl : Str) (tpl : Tok) (tw7 : Tok) (u7 : Str → Option Value) (h7 : Heap) (tk7 : Nat), qq e6 sp tsp l2 pl tpl tw7 u7 h7 tk7) → cutQ2.1 lw p0 t0 l e1 ts te tw u5 h5 tk5 } := by
  refine ⟨?qq0, fun hP0 => ?b⟩
  case b =>
    delta cutQ2
    dsimp only
    intro ha hb hdp hun hret hg B' X' T' hx1 hx2 hl2 hle hlen hp0 F5 N5
    (try k_fold)
    have hst := ellF_start (b := b) (p0 := p0) (ws := l.map (fun p => p.1)) hx1 (by simpa using hx2)
    refine' seq_cut (h₀ := g) (L := L') (σ := List (Str × Tok) × Nat × Int × Tok) (fun c => [(lw, W.listOf (strValues c.1).toArray c.2.1)]) (fun c => [(Str.ofString "got", .str b tb), (Str.ofString "ws", .ref lw), (Str.ofString "startpos", .int c.2.2.1 c.2.2.2), (Str.ofString "endpos", .int b.length te)])
      (fun c => ellF a b = ellB b (c.1.map (·.1)) c.2.2.1 ∧ c.1 ≠ [] ∧ (∀ p ∈ c.1, p.1.length ≤ 1000) ∧ c.1.length ≤ 1002) ?s1 ?s2
    case s1 =>
      (((try k_fold); ((repeat' (first | (k_unfold; (try dsimp only)) | ((fail_if_success (with_reducible show wpAny _ _ (exec (Stmt.While _ _ _ _) _) _ _ _)); (fail_if_success (with_reducible show wpAny _ _ (exec (Stmt.For _ _ _ _ _) _) _ _ _)); (fail_if_success (with_reducible show wpAny _ _ (pyIter _) _ _ _)); ((first | walk1 | (dsimp only; walk1)); (try dsimp only))))))))
      · (((with_reducible rename Fr _ _ _ _ => F0); (with_reducible rename News _ _ _ _ => N0)))
        refine del_led (rest := []) F0 N0 (by k_mem) (by intro p hp; cases hp) fits_zero (seqIdx_zero (by simp [strValues])) (by rw [strValues_len, sizeLine_eq]; simp; omega) ?_
        intro h6 e6 F6 N6
        clear F0 N0
        rw [strValues_cons, List.eraseIdx_cons_zero] at N6
        dsimp only
        (((try k_fold); ((repeat' (first | (k_unfold; (try dsimp only)) | ((fail_if_success (with_reducible show wpAny _ _ (exec (Stmt.While _ _ _ _) _) _ _ _)); (fail_if_success (with_reducible show wpAny _ _ (exec (Stmt.For _ _ _ _ _) _) _ _ _)); (fail_if_success (with_reducible show wpAny _ _ (pyIter _) _ _ _)); ((first | walk1 | (dsimp only; walk1)); (try dsimp only))))))))
        refine Out.mk' (_, _, _, _) (by k_asm) (by k_asm) (by kst_in) (by kst_all) ?_
        refine ⟨hst.2.1 (by omega) (by assumption), ?_, fun p hp => hle p (.tail _ hp), ?_⟩
        · intro e; dsimp only at e; rw [e] at hl2; simp at hl2
        · dsimp only; simp at hlen; omega
      · (((try k_unfold); (try dsimp only); refine hret _ _ _ (ret_keep hg (by k_asm)) ?_))
        exact congrArg Value.bool (hst.2.2 (by omega) (by assumption)).symm
      · refine Out.mk' (_, _, _, _) (by k_asm) (by k_asm) (by kst_in) (by kst_all) ?_
        exact ⟨hst.1 (by omega), by simp, hle, hlen⟩
    case s2 =>
      rintro ⟨l1, e6, sp, tsp⟩ u6 h6 tk6 ⟨hx61, hx62, hx63, hx64⟩ F6 N6
      clear F5 N5 hst hle hlen hl2 hx2 hp0
      dsimp only at hx61 hx62 hx63 hx64
      (try dsimp only at N6); dsimp only [kstB] at F6
      obtain ⟨l2, ⟨pl, tpl⟩, rfl⟩ := snoc_of_ne hx62
      rw [hx61] at hret
      clear hx61
      have hpl := hx63 (pl, tpl) (by simp)
      dsimp only at hpl
      have hlen : l2.length ≤ 1001 := by simp at hx64; omega
      rw [strValues_snoc] at N6
      (try k_fold)
      refine' seq_cut (h₀ := g) (L := L') (σ := Tok) (fun c => [(lw, W.listOf (strValues l2 ++ [Value.str pl tpl]).toArray e6)]) (fun c => [(Str.ofString "got", .str b tb), (Str.ofString "ws", .ref lw), (Str.ofString "startpos", .int sp tsp), (Str.ofString "endpos", .int b.length te), (Str.ofString "w", .str pl c)])
        (fun c => True) ?s1 ?s2
      case s1 =>
        (((try k_fold); ((repeat' (first | (k_unfold; (try dsimp only)) | ((fail_if_success (with_reducible show wpAny _ _ (exec (Stmt.While _ _ _ _) _) _ _ _)); (fail_if_success (with_reducible show wpAny _ _ (exec (Stmt.For _ _ _ _ _) _) _ _ _)); (fail_if_success (with_reducible show wpAny _ _ (pyIter _) _ _ _)); ((first | walk1 | (dsimp only; walk1)); (try dsimp only))))))))
        refine item_last_led (by k_asm) (by k_mem) (by rw [strValues_len]; omega) ?_
        dsimp only
        (((try k_fold); ((repeat' (first | (k_unfold; (try dsimp only)) | ((fail_if_success (with_reducible show wpAny _ _ (exec (Stmt.While _ _ _ _) _) _ _ _)); (fail_if_success (with_reducible show wpAny _ _ (exec (Stmt.For _ _ _ _ _) _) _ _ _)); (fail_if_success (with_reducible show wpAny _ _ (pyIter _) _ _ _)); ((first | walk1 | (dsimp only; walk1)); (try dsimp only))))))))
        refine Out.mk' _ (by k_asm) (by k_asm) (by kst_in) (by kst_all) trivial
      case s2 =>
        rintro tw7 u7 h7 tk7 _ F7 N7
        clear F6 N6
        (try dsimp only at N7); dsimp only [kstB] at F7
        have hst := ellB_end (b := b) (pl := pl) (ws := l2.map (·.1)) (sp := sp)
        rw [show (l2 ++ [(pl, tpl)]).map (·.1) = l2.map (·.1) ++ [pl] by simp] at hret
        (try dsimp +zetaDelta only)
        revert N7
        revert F7
        revert hst
        revert hlen
        revert hpl
        revert hx64
        revert hx63
        revert hx62
        revert T'
        revert X'
        revert B'
        revert hg
        revert hret
        revert hun
        revert hdp
        revert hb
        revert ha
        exact @hP0 e6 sp tsp l2 pl tpl tw7 u7 h7 tk7
namespace C
@[irreducible] noncomputable def cutT : Nat × Int × Tok × (List (Str × Tok)) × Str × Tok × Tok × (Str → Option Value) × Heap × Nat := gen ⟨(0, 0, 0, [], Str.ofString "", 0, 0, fun _ => none, default, 0)⟩ fun t => cutQ3.1 t.1 t.2.1 t.2.2.1 t.2.2.2.1 t.2.2.2.2.1 t.2.2.2.2.2.1 t.2.2.2.2.2.2.1 t.2.2.2.2.2.2.2.1 t.2.2.2.2.2.2.2.2.1 t.2.2.2.2.2.2.2.2.2
@[irreducible] noncomputable def e6 : Nat := cutT.1
@[irreducible] noncomputable def sp : Int := cutT.2.1
@[irreducible] noncomputable def tsp : Tok := cutT.2.2.1
@[irreducible] noncomputable def l2 : List (Str × Tok) := cutT.2.2.2.1
@[irreducible] noncomputable def pl : Str := cutT.2.2.2.2.1
@[irreducible] noncomputable def tpl : Tok := cutT.2.2.2.2.2.1
@[irreducible] noncomputable def tw7 : Tok := cutT.2.2.2.2.2.2.1
@[irreducible] noncomputable def u7 : Str → Option Value := cutT.2.2.2.2.2.2.2.1
@[irreducible] noncomputable def h7 : Heap := cutT.2.2.2.2.2.2.2.2.1
@[irreducible] noncomputable def tk7 : Nat := cutT.2.2.2.2.2.2.2.2.2
theorem cutP3 : cutQ3.1 e6 sp tsp l2 pl tpl tw7 u7 h7 tk7 := by
  delta cutQ3
  dsimp only
  intro ha hb hdp hun hret hg B' X' T' hx62 hx63 hx64 hpl hlen hst F7 N7
  (try k_fold)
  refine' seq_cut (h₀ := g) (L := L') (σ := List (Str × Tok) × Nat × Int × Tok) (fun c => [(lw, W.listOf (strValues c.1).toArray c.2.1)]) (fun c => [(Str.ofString "got", .str b tb), (Str.ofString "ws", .ref lw), (Str.ofString "startpos", .int sp tsp), (Str.ofString "endpos", .int c.2.2.1 c.2.2.2)])
    (fun c => ellB b (l2.map (·.1) ++ [pl]) sp = ellC b (c.1.map (·.1)) sp c.2.2.1 ∧ (∀ p ∈ c.1, p.1.length ≤ 1000) ∧ c.1.length ≤ 1002) ?s1 ?s2
  case s1 =>
    (((try k_fold); ((repeat' (first | (k_unfold; (try dsimp only)) | ((fail_if_success (with_reducible show wpAny _ _ (exec (Stmt.While _ _ _ _) _) _ _ _)); (fail_if_success (with_reducible show wpAny _ _ (exec (Stmt.For _ _ _ _ _) _) _ _ _)); (fail_if_success (with_reducible show wpAny _ _ (pyIter _) _ _ _)); ((first | walk1 | (dsimp only; walk1)); (try dsimp only))))))))
    · (((with_reducible rename Fr _ _ _ _ => F0); (with_reducible rename News _ _ _ _ => N0)))
      refine del_led (k := l2.length) (rest := []) F0 N0 (by k_mem) (by intro p hp; cases hp) fits_neg (by rw [List.length_append, strValues_len]; exact seqIdx_last) (by rw [List.length_append, strValues_len, sizeLine_eq]; simp; omega) ?_
      intro h8 e8 F8 N8
      clear F0 N0
      rw [show l2.length = (strValues l2).length from (strValues_len l2).symm, eraseIdx_snoc] at N8
      dsimp only
      (((try k_fold); ((repeat' (first | (k_unfold; (try dsimp only)) | ((fail_if_success (with_reducible show wpAny _ _ (exec (Stmt.While _ _ _ _) _) _ _ _)); (fail_if_success (with_reducible show wpAny _ _ (exec (Stmt.For _ _ _ _ _) _) _ _ _)); (fail_if_success (with_reducible show wpAny _ _ (pyIter _) _ _ _)); ((first | walk1 | (dsimp only; walk1)); (try dsimp only))))))))
      refine Out.mk' (_, _, _, _) (by k_asm) (by k_asm) (by kst_in) (by kst_all) ?_
      exact ⟨hst.2.1 (by omega) (by assumption), fun p hp => hx63 p (List.mem_append_left _ hp), by dsimp only; omega⟩
    · (((try k_unfold); (try dsimp only); refine hret _ _ _ (ret_keep hg (by k_asm)) ?_))
      exact congrArg Value.bool (hst.2.2 (by omega) (by assumption)).symm
    · rw [← strValues_snoc l2 (pl, tpl)] at *
      refine Out.mk' (_, _, _, _) (by k_asm) (by k_asm) (by kst_in) (by kst_all) ?_
      refine ⟨?_, hx63, hx64⟩
      dsimp only
      rw [hst.1 (by omega)]; simp
  case s2 =>
    rintro ⟨l3, e9, ep, tep⟩ u9 h9 tk9 ⟨hx91, hx92, hx93⟩ F9 N9
    clear F7 N7 hst hx62 hx63 hx64
    dsimp only at hx91 hx92 hx93
    (try dsimp only at N9); dsimp only [kstB] at F9
    rw [hx91] at hret
    clear hx91
    (try k_fold)
    (((try k_fold); ((repeat' (first | (k_unfold; (try dsimp only)) | ((fail_if_success (with_reducible show wpAny _ _ (exec (Stmt.While _ _ _ _) _) _ _ _)); (fail_if_success (with_reducible show wpAny _ _ (exec (Stmt.For _ _ _ _ _) _) _ _ _)); (fail_if_success (with_reducible show wpAny _ _ (pyIter _) _ _ _)); ((first | walk1 | (dsimp only; walk1)); (try dsimp only))))))))
    · (((try k_unfold); (try dsimp only); refine hret _ _ _ (ret_keep hg (by k_asm)) ?_))
      exact congrArg Value.bool (if_pos (by omega)).symm
    · have hV : ellC b (l3.map (fun p => p.1)) sp ep = ellScan b (l3.map (fun p => p.1)) sp ep := if_neg (by omega)
      rw [hV] at hret
      clear hV
      generalize hV : ellScan b (l3.map (fun p => p.1)) sp ep = V at *
      refine For_invV g rfl rfl ?_
      (((try k_fold); ((repeat' (first | (k_unfold; (try dsimp only)) | ((fail_if_success (with_reducible show wpAny _ _ (exec (Stmt.While _ _ _ _) _) _ _ _)); (fail_if_success (with_reducible show wpAny _ _ (exec (Stmt.For _ _ _ _ _) _) _ _ _)); (fail_if_success (with_reducible show wpAny _ _ (pyIter _) _ _ _)); ((first | walk1 | (dsimp only; walk1)); (try dsimp only))))))))
      (((with_reducible rename Fr _ _ _ _ => F0); (with_reducible rename News _ _ _ _ => N0)))
      refine' list_cut (σ := Int × Tok) (vs := strValues l3) (fun c => [(lw, W.listOf (strValues l3).toArray e9)])
        (fun c => [(Str.ofString "got", .str b tb), (Str.ofString "startpos", .int c.1 c.2), (Str.ofString "endpos", .int ep tep)])
        (fun i c => ellScan b ((l3.map (fun p => p.1)).drop i) c.1 ep = V) (fun c => V = true) (sp, _) rfl (isList_of N0 (by k_mem)) (.inr ⟨_, fun _ => .head _⟩) F0 N0 ?kl ?kk ?kp ?kt ?kx ?kd
      case kl => kst_in
      case kk => kst_all
      case kp => exact hV
      case kx =>
        rintro ⟨c, tc⟩ hc
        rw [strValues_len, List.drop_eq_nil_of_le (by simp)] at hc
        exact hc.symm
      case kd =>
        rintro ⟨c, tc⟩ u10 h10 tk10 hx F10 N10
        clear F0 N0
        (try dsimp only at N10); dsimp only [kstB] at F10
        (try k_fold)
        (((try k_fold); ((repeat' (first | (k_unfold; (try dsimp only)) | ((fail_if_success (with_reducible show wpAny _ _ (exec (Stmt.While _ _ _ _) _) _ _ _)); (fail_if_success (with_reducible show wpAny _ _ (exec (Stmt.For _ _ _ _ _) _) _ _ _)); (fail_if_success (with_reducible show wpAny _ _ (pyIter _) _ _ _)); ((first | walk1 | (dsimp only; walk1)); (try dsimp only))))))))
        (((try k_unfold); (try dsimp only); refine hret _ _ _ (ret_keep hg (by k_asm)) ?_))
        exact congrArg Value.bool hx.symm
      case kt =>
        rintro i v ⟨c, tc⟩ u10 h10 tk10 I1 oI1 hv hc hne F10 N10
        clear F0 N0
        dsimp only at hc hne; (try dsimp only at N10); dsimp only [kstB] at F10
        have hi : i < l3.length := by
          have := (List.getElem?_eq_some_iff.mp hv).1
          rw [strValues_len] at this; exact this
        obtain ⟨⟨wv, tv⟩, hw⟩ : ∃ p, l3[i]? = some p := ⟨l3[i], by simp [hi]⟩
        have hv' : v = Value.str wv tv := by
          have : (strValues l3)[i]? = some (Value.str wv tv) := by simp [strValues, hw]
          rw [this] at hv; exact (Option.some.inj hv).symm
        subst hv'
        have hwl : wv.length ≤ 1000 := hx92 (wv, tv) (List.mem_of_getElem? hw)
        have hdr : (l3.map (fun p => p.1)).drop i = wv :: (l3.map (fun p => p.1)).drop (i + 1) := by
          rw [List.drop_eq_getElem_cons (by simpa using hi)]
          congr 1
          have : l3[i] = (wv, tv) := by simpa [hi] using hw
          simp [this]
        rw [hdr] at hc
        unfold ellScan at hc
        (try k_fold)
        (((try k_fold); ((repeat' (first | (k_unfold; (try dsimp only)) | ((fail_if_success (with_reducible show wpAny _ _ (exec (Stmt.While _ _ _ _) _) _ _ _)); (fail_if_success (with_reducible show wpAny _ _ (exec (Stmt.For _ _ _ _ _) _) _ _ _)); (fail_if_success (with_reducible show wpAny _ _ (pyIter _) _ _ _)); ((first | walk1 | (dsimp only; walk1)); (try dsimp only))))))))
        · dsimp only [FTurn]
          (((try k_unfold); (try dsimp only); refine hret _ _ _ (ret_keep hg (by k_asm)) ?_))
          rw [if_pos (by assumption)] at hc
          exact congrArg Value.bool hc
        · dsimp only [FTurn]
          refine Out.mk' (_, _) (by k_asm) (by k_asm) (by kst_in) (by kst_all) ?_
          rw [if_neg (by assumption)] at hc
          exact ⟨hc, hne⟩
theorem cutR3 : ∀ (e6 : Nat) (sp : Int) (tsp : Tok) (l2 : List (Str × Tok)) (pl : Str) (tpl : Tok) (tw7 : Tok) (u7 : Str → Option Value) (h7 : Heap) (tk7 : Nat), cutQ3.1 e6 sp tsp l2 pl tpl tw7 u7 h7 tk7 := by
  intro e6 sp tsp l2 pl tpl tw7 u7 h7 tk7
  with_unfolding_all exact of_gen (P := fun t : Nat × Int × Tok × (List (Str × Tok)) × Str × Tok × Tok × (Str → Option Value) × Heap × Nat => cutQ3.1 t.1 t.2.1 t.2.2.1 t.2.2.2.1 t.2.2.2.2.1 t.2.2.2.2.2.1 t.2.2.2.2.2.2.1 t.2.2.2.2.2.2.2.1 t.2.2.2.2.2.2.2.2.1 t.2.2.2.2.2.2.2.2.2) cutP3 (e6, sp, tsp, l2, pl, tpl, tw7, u7, h7, tk7)
end C
theorem cutP2 : cutQ2.1 lw p0 t0 l e1 ts te tw u5 h5 tk5 := cutQ3.2 C.cutR3
theorem cutR2 : ∀ (lw : Addr) (p0 : Str) (t0 : Tok) (l : List (Str × Tok)) (e1 : Nat) (ts : Tok) (te : Tok) (tw : Tok) (u5 : Str → Option Value) (h5 : Heap) (tk5 : Nat), cutQ2.1 lw p0 t0 l e1 ts te tw u5 h5 tk5 := by
  intro lw p0 t0 l e1 ts te tw u5 h5 tk5
  with_unfolding_all exact of_gen (P := fun t : Addr × Str × Tok × (List (Str × Tok)) × Nat × Tok × Tok × Tok × (Str → Option Value) × Heap × Nat => cutQ2.1 t.1 t.2.1 t.2.2.1 t.2.2.2.1 t.2.2.2.2.1 t.2.2.2.2.2.1 t.2.2.2.2.2.2.1 t.2.2.2.2.2.2.2.1 t.2.2.2.2.2.2.2.2.1 t.2.2.2.2.2.2.2.2.2.1 t.2.2.2.2.2.2.2.2.2.2) cutP2 (lw, p0, t0, l, e1, ts, te, tw, u5, h5, tk5)
end C
theorem cutP1 : cutQ1.1 w mean mg mb a b ta tb dp un gd outers base s Q E g L' h₁ := cutQ2.2 C.cutR2
theorem cutR1 : ∀ (w : World) (mean : ExcName → Option Value) (mg : Str → Option Value) (mb : Str → Option Value) (a : Str) (b : Str) (ta : Tok) (tb : Tok) (dp : Nat) (un : Nat) (gd : Option (List Code)) (outers : List Env) (base : Heap) (s : Shared) (Q : Value → Shared → Prop) (E : Value → Shared → Prop) (g : Heap) (L' : Addr) (h₁ : Heap), cutQ1.1 w mean mg mb a b ta tb dp un gd outers base s Q E g L' h₁ := by
  intro w mean mg mb a b ta tb dp un gd outers base s Q E g L' h₁
  with_unfolding_all exact of_gen (P := fun t : World × (ExcName → Option Value) × (Str → Option Value) × (Str → Option Value) × Str × Str × Tok × Tok × Nat × Nat × (Option (List Code)) × (List Env) × Heap × Shared × (Value → Shared → Prop) × (Value → Shared → Prop) × Heap × Addr × Heap => cutQ1.1 t.1 t.2.1 t.2.2.1 t.2.2.2.1 t.2.2.2.2.1 t.2.2.2.2.2.1 t.2.2.2.2.2.2.1 t.2.2.2.2.2.2.2.1 t.2.2.2.2.2.2.2.2.1 t.2.2.2.2.2.2.2.2.2.1 t.2.2.2.2.2.2.2.2.2.2.1 t.2.2.2.2.2.2.2.2.2.2.2.1 t.2.2.2.2.2.2.2.2.2.2.2.2.1 t.2.2.2.2.2.2.2.2.2.2.2.2.2.1 t.2.2.2.2.2.2.2.2.2.2.2.2.2.2.1 t.2.2.2.2.2.2.2.2.2.2.2.2.2.2.2.1 t.2.2.2.2.2.2.2.2.2.2.2.2.2.2.2.2.1 t.2.2.2.2.2.2.2.2.2.2.2.2.2.2.2.2.2.1 t.2.2.2.2.2.2.2.2.2.2.2.2.2.2.2.2.2.2) cutP1 (w, mean, mg, mb, a, b, ta, tb, dp, un, gd, outers, base, s, Q, E, g, L', h₁)
end C
end ell_tells
theorem ell_tells (w : World) (mean : ExcName → Option Value) (mg mb : Str → Option Value) (a b : Str) (ta tb : Tok) (ha : a.length ≤ 1000) (hb : b.length ≤ 1000) :
   Tells Challenge.rw_re0065_01.row.prog w (hd1.heap_39 w.params) hd1.view_39 (looseW hd1.view_39 []) mean mg mb 1 35 [.str a ta, .str b tb] (fun _ => True) (fun v _ _ => v = .bool (ellF a b)) :=
  ell_tells.cutQ1.2 ell_tells.C.cutR1 w mean mg mb a b ta tb ha hb
end Mine
end
section
namespace Mine
section
variable {M : Model} {A : Around} {R : GenEnd} {Y : Protocol} {n : Nat} {s₀ : Shared} {c : Code} {fs : List Frame} {s : Shared} {env : Env}
  {K : Flow → Sem Fin} {H : Value → Sem Fin} {gd : Bool → Bool} {lv : List Value → List Value}
theorem seg_If {test : Expr} {body orelse : List Stmt} {pos : Pos}
    (h : wpAny M (A.over c fs) (isTrue test env (eval test env)) (fun b s' => if b = true then Seg M A R Y n s₀ c ((execs body env).wrap K H gd lv) fs s' else Seg M A R Y n s₀ c ((execs orelse env).wrap K H gd lv) fs s')
      (fun x s' => Seg M A R Y n s₀ c (H x) fs s') s) :
    Seg M A R Y n s₀ c ((exec (.If test body orelse pos) env).wrap K H gd lv) fs s := by
  show Seg M A R Y n s₀ c (.at pos fun _ => ((isTrue test env (eval test env)) >>= fun b => if b = true then execs body env else execs orelse env).wrap K H gd lv) fs s
  refine seg_at ?_
  rw [Sem.bind_eq_wrap', Sem.wrap_wrap]
  refine seg_wrap (wpAny_mono h (fun b s' hb => ?_) fun _ _ x => x)
  cases b with
  | true => exact hb
  | false => exact hb
theorem seg_stmt {st : Stmt}
    (h : wpAny M (A.over c fs) (exec st env) (fun f s' => Seg M A R Y n s₀ c (K f) fs s') (fun x s' => Seg M A R Y n s₀ c (H x) fs s') s) :
    Seg M A R Y n s₀ c ((exec st env).wrap K H gd lv) fs s := seg_wrap h
noncomputable def ownBack (env : Env) (r : Result) : Sem Flow := (match r with | .ok f => (.pure f : Sem Flow) | .error e => .raise e).onRaise fun (x : Value) => do
        if (← field x 1) == Value.none then unsupported "frame.own-activation:exception-without-traceback"
        setFlight x env.frame
theorem seg_runOwn {c' : Code}
    (h : ∀ p, Seg M A R Y n s₀ c' (M.den c') (.ret (fun r => (ownBack env r).wrap K H gd lv) none (gd false) (lv []) c p [] :: fs) s) :
    Seg M A R Y n s₀ c ((runOwn c' env).wrap K H gd lv) fs s := seg_call h
theorem seg_For {target iter : Expr} {body orelse : List Stmt} {pos : Pos}
    (h : wpAny M (A.over c fs) (eval iter env) (fun x s₁ => wpAny M (A.over c fs) (pyIter x) (fun it s₂ =>
      ∀ p lv', Seg M A R Y n s₀ (.forLoop target it body orelse env) (M.den (.forLoop target it body orelse env)) (.ret (fun r => (ownBack env r).wrap K H gd lv) none (gd false) lv' c p [] :: fs) s₂)
        (fun x s' => Seg M A R Y n s₀ c (H x) fs s') s₁) (fun x s' => Seg M A R Y n s₀ c (H x) fs s') s)
    (hs : ∀ x, foldedSetIterable iter env x = pure x := by intro _; rfl) :
    Seg M A R Y n s₀ c ((exec (.For target iter body orelse pos) env).wrap K H gd lv) fs s := by
  rw [exec_For]
  refine seg_bind_wrap (wpAny_standAt ?_)
  refine seg_bind_wrap (wpAny_mono h (fun x s₁ h₁ => ?_) fun _ _ x => x)
  refine seg_bind_wrap (wpAny_of_eq (hs x) ?_)
  refine seg_bind_wrap (wpAny_standAt ?_)
  refine seg_bind_wrap (wpAny_holding (wpAny_mono h₁ (fun it s₂ h₂ => ?_) fun _ _ x => x))
  exact seg_runOwn (fun p => h₂ p _)
end
section
variable {prog : Program} {w : World} {A : Around} {R : GenEnd} {Y : Protocol} {n : Nat} {s₀ : Shared} {fs : List Frame} {s : Shared} {env : Env}
noncomputable def noted (env : Env) (e : Value) : Sem Fin := (do noteFrame e env; theTreesLotGoes e : Sem Unit).wrap (fun _ => .raise e) .raise id id
noncomputable def loopOn (again : Code) (f : Flow) : Sem Fin := match f with
  | .next | .cont => .pure (.again again)
  | .brk => .pure (.done .next)
  | .ret v => .pure (.done (.ret v))
theorem seg_forLoop {target : Expr} {it : Value} {body orelse : List Stmt}
    (h : wpAny (model prog w) (A.over (.forLoop target it body orelse env) fs) (pyNext it) (fun r s₁ => match r with
        | none => Seg (model prog w) A R Y n s₀ (.forLoop target it body orelse env) (.pure (.again (.block orelse env))) fs s₁
        | some v => wpAny (model prog w) (A.over (.forLoop target it body orelse env) fs) (assign target env v) (fun _ s₂ =>
            Seg (model prog w) A R Y n s₀ (.forLoop target it body orelse env) ((execs body env).wrap (loopOn (.forLoop target it body orelse env)) (noted env) id id) fs s₂)
            (fun x s' => Seg (model prog w) A R Y n s₀ (.forLoop target it body orelse env) (noted env x) fs s') s₁)
      (fun x s' => Seg (model prog w) A R Y n s₀ (.forLoop target it body orelse env) (noted env x) fs s') s)
    (ht : ∀ v, letOwnedTupleGo target it v = pure () := by intro _; rfl) :
    Seg (model prog w) A R Y n s₀ (.forLoop target it body orelse env) ((model prog w).den (.forLoop target it body orelse env)) fs s := by
  show Seg _ A R Y n s₀ _ ((forTurn target it body orelse env).onRaise (fun x => do noteFrame x env; theTreesLotGoes x)) fs s
  rw [Sem.onRaise_eq_wrap]
  have hH : ∀ e, ((do noteFrame e env; theTreesLotGoes e : Sem Unit).bind fun _ => (.raise e : Sem Fin)) = noted env e := fun e => by unfold noted; rw [Sem.bind_eq_wrap]
  rw [Sem.wrap_congr _ _ _ (K' := fun f => (.pure f : Sem Fin)) (H' := noted env) (fun _ => rfl) hH]
  unfold forTurn
  refine seg_bind_wrap (wpAny_standAt ?_)
  refine seg_bind_wrap (wpAny_onRaise (wpAny_mono h (fun r s₁ h₁ => ?_) fun _ _ x => wpAny_standAt x))
  cases r with
  | none => exact h₁
  | some v =>
    refine seg_bind_wrap (wpAny_of_eq (ht v) ?_)
    refine seg_bind_wrap (wpAny_mono h₁ (fun _ s₂ h₂ => ?_) fun _ _ x => x)
    rw [Sem.bind_eq_wrap', Sem.wrap_wrap]
    refine Eq.mp (congrArg (fun t => Seg (model prog w) A R Y n s₀ (Code.forLoop target it body orelse env) t fs s₂) (Sem.wrap_congr (execs body env) (fun g => id (id g)) (fun l => id (id l)) (K := loopOn (.forLoop target it body orelse env)) (H := noted env) (fun f => by cases f <;> rfl) (fun e => rfl))) h₂
end
end Mine
end
section
namespace Mine
section
variable {prog : Program} {w : World} {s : Shared} {K : Frag} {base : Heap} {mg mb : Str → Option Value} {p : Program} {loose : List Str} {mean : ExcName → Option Value}
noncomputable def genObj (i : Nat) (name qual : Str) (t : Nat) : Obj := { cls := .type "generator", data := .fields #[.int i 0, .str name t, .str qual (t + 1)] }
theorem enterG {A : Around} {R : Result → Shared → Prop} {name qual : Str} {params : Arguments} {body : List Stmt} {scope : Scope} {dV kV doc pm cdv ct oc : Value} {an od : Option Addr} {osl : Array (Option Value)} {f : Addr} {args : Args} {binds : List (Str × Value)}
    (X : K.In s.heap) (T : Top p loose mean mg mb s.heap)
    (ho : K.lookup f = some ⟨oc, od, .func (fnOf name qual params body scope dV kV doc pm an cdv ct), osl⟩) (hcd : codeIn K cdv qual = true) (hroom : A.depth < recursionLimit)
    (hbind : BindsTo s (fnOf name qual params body scope dV kV doc pm an cdv ct) args binds) (hloc : ∀ y ∈ binds, scope.names.lookup y.1 = some .local)
    (h : ∀ L' h₁ tk, L' = s.heap.objs.size → h₁.Ns L' (fun y => binds.reverse.lookup y) → Keeps s.heap h₁ →
      R (.ok (.ret (.ref h₁.objs.size))) { s with heap := h₁.push (genObj s.gens.size name qual tk), toks := tk + 1 + 1, gens := s.gens.push (.fresh (.func body (envOf qual scope L' f cdv))) })
    (hco : scope.isCoroutine = false) (hgen : scope.isGenerator = true) (hk : scope.kind = .function)
    (hcell : ∀ x ∈ scope.names, x.2 ≠ .cell) : codeAny (model prog w) A (.call (.ref f) args) R s := by
  refine codeAny_call_generator (fd := fnOf name qual params body scope dV kV doc pm an cdv ct) (body := body) hroom (X _ _ ho) rfl hco hgen rfl (codeRec_of X hcd) (hbind _ _ _ _ ?_)
  refine wpAny_newFunctionEnv hcell hloc (fun h₀ hns₀ hsb₀ => ⟨T.nolimit.fresh _ hsb₀, ?_⟩) hk
  refine h s.heap.objs.size h₀ _ rfl hns₀ (fun b o e => ?_)
  exact hsb₀.extBut b o (Nat.ne_of_lt (Heap.lt_size e)) (Heap.get?_push_of_some _ e)
end
noncomputable def GSince (g : Heap) (cs : List Addr) (s₀ s : Shared) : Prop :=
  ∃ h tk, s = { s₀ with heap := h, toks := tk } ∧ Keeps g h ∧ ∀ b ∈ cs, ∀ o, s₀.heap.get? b = some o → h.get? b = some o
noncomputable def GOwn (g : Heap) (cs : List Addr) (ownL : List (Addr × Obj)) (h : Heap) : Prop := ∀ p ∈ ownL, h.get? p.1 = some p.2 ∧ g.get? p.1 = none ∧ p.1 ∉ cs
noncomputable def GReady (g : Heap) (cs : List Addr) (ownL : List (Addr × Obj)) (h : Heap) : Prop := (∀ p ∈ ownL, h.get? p.1 = some p.2) ∧ Keeps g h ∧ ∀ b ∈ cs, ∃ o, h.get? b = some o
noncomputable def GEnd (g : Heap) (cs : List Addr) (out : Nat → Option Int) (N : Nat) : GenEnd := fun n s₀ r s => r = .ok (.ret .none) ∧ out (N - n) = none ∧ GSince g cs s₀ s
noncomputable def GProt (g : Heap) (cs : List Addr) (out : Nat → Option Int) (N : Nat) : Protocol := fun m s₀ v s kap =>
  (∃ x t, out (N - 1 - m) = some x ∧ v = .int x t) ∧ GSince g cs s₀ s ∧ (0 < m → ∃ ownL, GOwn g cs ownL s.heap ∧ ∀ s'' : Shared, GReady g cs ownL s''.heap → kap (.send .none) s'')
noncomputable def giOut : List Int → Option Int → Nat → Option Int
  | [], _, _ => none
  | r :: rs, last, i =>
    if r = 127 then none
    else if r = 0 then last
    else match i with
      | 0 => some r
      | i + 1 => giOut rs (some r) i
end Mine
namespace Mine
section
variable {prog : Program} {w : World} {A : Around} {E : Value → Shared → Prop} {s : Shared} {g : Heap} {L : Addr} {m : Str → Option Value}
theorem cons_of {h : Heap} : ∀ (cs : List Addr), (∀ b ∈ cs, ∃ o, h.get? b = some o) → (∀ b ∈ cs, b ≠ L ∧ g.get? b = none) → ∃ consL : List (Addr × Obj), News g L h consL ∧ consL.map (·.1) = cs
  | [], _, _ => ⟨[], News.nil, rfl⟩
  | b :: cs, h1, h2 => by
    obtain ⟨consL, N, e⟩ := cons_of cs (fun b hb => h1 b (.tail _ hb)) (fun b hb => h2 b (.tail _ hb))
    obtain ⟨o, ho⟩ := h1 b (.head _)
    refine ⟨(b, o) :: consL, fun p hp => ?_, by simp [e]⟩
    rcases List.mem_cons.mp hp with rfl | hp
    · exact ⟨ho, (h2 b (.head _)).1, (h2 b (.head _)).2⟩
    · exact N p hp
theorem since_of {h h' : Heap} {cs : List Addr} {consL news : List (Addr × Obj)} (N : News g L h consL) (e : consL.map (·.1) = cs) (N' : News g L h' news) (hs : ∀ p ∈ consL, p ∈ news) :
    ∀ b ∈ cs, ∀ o, h.get? b = some o → h'.get? b = some o := by
  intro b hb o ho
  rw [← e] at hb
  obtain ⟨q, hq, rfl⟩ := List.mem_map.mp hb
  have h1 := (N q hq).1
  rw [ho] at h1
  rw [Option.some.inj h1]
  exact (N' q (hs q hq)).1
noncomputable def IterO (o : Obj) (l : Addr) (i : Nat) : Prop := o.cls = .type "list_iterator" ∧ o.data = .fields #[.ref l, .int i 0]
theorem iter_is {h : Heap} {I l : Addr} {i : Nat} (hi : h.IsListIter I l i) : ∃ o, h.get? I = some o ∧ IterO o l i := by
  obtain ⟨o, h1, h2, h3⟩ := hi
  exact ⟨o, h1, h2, h3⟩
theorem nextItem_led {I l : Addr} {oI : Obj} {rest : List (Addr × Obj)} {vs : List Value} {i : Nat} {x : Value} {Q : Option Value → Shared → Prop}
    (F : Fr g L s.heap m) (N : News g L s.heap ((I, oI) :: rest)) (hne : ∀ p ∈ rest, p.1 ≠ I) (hI : IterO oI l i) (hl : g.IsList l vs.toArray) (hx : vs[i]? = some x)
    (h : ∀ h' oI', IterO oI' l (i + 1) → Fr g L h' m → News g L h' ((I, oI') :: rest) → Q (some x) { s with heap := h' }) : wpAny (model prog w) A (pyNext (.ref I)) Q E s := by
  have hl' : s.heap.IsList l vs.toArray := hl.at fun o e => F.keep l o e
  have z := N _ (.head _)
  refine wpAny_pyNext_list_item (it := I) (l := l) (i := i) ⟨oI, z.1, hI.1, hI.2⟩ hl' (x := x) (by simpa using hx) fun h' hit' hs' => ?_
  obtain ⟨o', ho', hI'⟩ := iter_is hit'
  refine h h' o' hI' (F.change hs' z.2.1 z.2.2) fun p hp => ?_
  rcases List.mem_cons.mp hp with rfl | hp
  · exact ⟨ho', z.2⟩
  · exact ⟨(hs'.2 _ (hne p hp)).trans (N p (.tail _ hp)).1, (N p (.tail _ hp)).2⟩
theorem nextEnd_led {I l : Addr} {oI : Obj} {rest : List (Addr × Obj)} {vs : List Value} {Q : Option Value → Shared → Prop} (hh : A.handled = none)
    (F : Fr g L s.heap m) (N : News g L s.heap ((I, oI) :: rest)) (hne : ∀ p ∈ rest, p.1 ≠ I) (hI : IterO oI l vs.length) (hl : g.IsList l vs.toArray)
    (h : ∀ h' m', Fr g L h' m' → News g L h' rest → Q none { s with heap := h' }) : wpAny (model prog w) A (pyNext (.ref I)) Q E s := by
  have hl' : s.heap.IsList l vs.toArray := hl.at fun o e => F.keep l o e
  have z := N _ (.head _)
  refine wpAny_pyNext_list_end (it := I) (l := l) hh ⟨oI, z.1, hI.1, hI.2⟩ hl' (by simp) fun h' he' => ?_
  have hkeep : ∀ b o, g.get? b = some o → h'.get? b = some o := fun b o e => he' b o (fun q => by rw [q] at e; have := z.2.2; rw [show (I, oI).1 = I from rfl] at this; rw [this] at e; cases e) (F.keep b o e)
  refine h h' m ⟨F.ns.at' fun o e => he' _ o (fun q => z.2.1 q.symm) e, hkeep, F.above⟩ fun p hp => ⟨he' _ _ (hne p hp) (N p (.tail _ hp)).1, (N p (.tail _ hp)).2⟩
end
end Mine
end
section
namespace Mine
noncomputable def Hid (P : Prop) : Prop := P
section
variable {prog : Program} {w : World} {A : Around} {g : Heap} {L It : Addr} {oIt : Obj} {mm : Str → Option Value} {cs : List Addr} {out : Nat → Option Int} {N : Nat}
theorem since_all {s₀ : Shared} {h : Heap} {tk : Nat} {consL news : List (Addr × Obj)} (NC : Hid (News g L s₀.heap consL)) (hcsL : consL.map (·.1) = cs) (F : Fr g L h mm) (N' : News g L h news) (hs : ∀ p ∈ consL, p ∈ news) : GSince g cs s₀ { s₀ with heap := h, toks := tk } :=
  ⟨h, tk, rfl, F.keep, since_of NC hcsL N' hs⟩
theorem prot_of {m : Nat} {s₀ : Shared} {v : Value} {h : Heap} {tk : Nat} {kap : Resume → Shared → Prop} {consL : List (Addr × Obj)} {x : Int} {t : Tok}
    (hx : out (N - 1 - m) = some x) (hv : v = .int x t) (hcs : ∀ b ∈ cs, b ≠ L ∧ g.get? b = none) (NC : Hid (News g L s₀.heap consL)) (hcsL : consL.map (·.1) = cs)
    (F : Fr g L h mm) (N' : News g L h ((It, oIt) :: consL)) (hne : ∀ p ∈ consL, p.1 ≠ It)
    (hkap : 0 < m → ∀ (s'' : Shared) consL'', Fr g L s''.heap mm → Hid (News g L s''.heap consL'') → consL''.map (·.1) = cs → News g L s''.heap ((It, oIt) :: consL'') → (∀ p ∈ consL'', p.1 ≠ It) → kap (.send .none) s'') :
    GProt g cs out N m s₀ v { s₀ with heap := h, toks := tk } kap := by
  refine ⟨⟨x, t, hx, hv⟩, since_all NC hcsL F N' fun p hp => .tail _ hp, fun hm => ?_⟩
  obtain ⟨oL, es, ep, hL, r⟩ := id F.ns
  have hgL : g.get? L = none := by
    cases e : g.get? L with
    | none => rfl
    | some o => exact absurd (Nat.lt_of_lt_of_le (Heap.lt_size e) F.above) (Nat.lt_irrefl _)
  have zI := N' _ (.head _)
  have hIcs : It ∉ cs := by
    intro hi
    rw [← hcsL] at hi
    obtain ⟨q, hq, e⟩ := List.mem_map.mp hi
    exact hne q hq e
  refine ⟨[(L, oL), (It, oIt)], ?_, ?_⟩
  · intro p hp
    rcases List.mem_cons.mp hp with rfl | hp
    · exact ⟨hL, hgL, fun q => (hcs _ q).1 rfl⟩
    · rw [List.mem_singleton.mp hp]
      exact ⟨zI.1, zI.2.2, hIcs⟩
  · rintro s'' ⟨h1, h2, h3⟩
    have F'' : Fr g L s''.heap mm := ⟨⟨oL, es, ep, h1 _ (.head _), r⟩, h2, F.above⟩
    obtain ⟨consL'', N'', e''⟩ := cons_of (g := g) (L := L) cs h3 hcs
    have hne'' : ∀ p ∈ consL'', p.1 ≠ It := fun p hp e => hIcs (by rw [← e'', ← e]; exact List.mem_map_of_mem hp)
    refine hkap hm s'' consL'' F'' N'' e'' ?_ hne''
    intro p hp
    rcases List.mem_cons.mp hp with rfl | hp
    · exact ⟨h1 _ (.tail _ (.head _)), zI.2⟩
    · exact N'' p hp
theorem seg_forever {test e : Expr} {yp pos : Pos} {env : Env} {fs : List Frame} {x : Int} {t : Tok}
    (hfs : splitAtGen fs = none) (hfg : fs.any Frame.guarded = false) (hco : env.scope.isCoroutine = false) (hi : interactive env = false)
    (hcs : ∀ b ∈ cs, b ≠ L ∧ g.get? b = none)
    (htest : ∀ (s : Shared) (E : Value → Shared → Prop) (Q' : Bool → Shared → Prop), Q' true s → wpAny (model prog w) (A.over (.whileLoop test [.Expr (.Yield (some e) yp) pos] [] env) fs) (isTrue test env (eval test env)) Q' E s)
    (hval : ∀ (s : Shared) (E : Value → Shared → Prop) (Q' : Value → Shared → Prop), Fr g L s.heap mm → Q' (.int x t) s → wpAny (model prog w) (A.over (.whileLoop test [.Expr (.Yield (some e) yp) pos] [] env) fs) (eval e env) Q' E s) :
    ∀ n, 0 < n → n ≤ N → (∀ j, N - n ≤ j → j < N → out j = some x) → ∀ (s₀ : Shared) consL h tk, Hid (News g L s₀.heap consL) → consL.map (·.1) = cs → Fr g L h mm → News g L h ((It, oIt) :: consL) → (∀ p ∈ consL, p.1 ≠ It) →
      Seg (model prog w) A (GEnd g cs out N) (GProt g cs out N) n s₀ (.whileLoop test [.Expr (.Yield (some e) yp) pos] [] env) ((model prog w).den (.whileLoop test [.Expr (.Yield (some e) yp) pos] [] env)) fs { s₀ with heap := h, toks := tk } := by
  intro n
  induction n with
  | zero => intro h; omega
  | succ n ih =>
    intro _ hn hout s₀ consL h tk NC hcsL F N' hne
    refine seg_whileLoop (htest _ _ _ ?_)
    rw [if_pos rfl]
    refine seg_execs_cons (seg_Expr_Yield hfs rfl hfg (hval _ _ _ F ?_) hco hi)
    intro kap hkap
    refine prot_of (x := x) (t := t) (hout _ (by omega) (by omega)) rfl hcs NC hcsL F N' hne ?_
    intro hm s'' consL'' F'' NC'' e'' N'' hne''
    refine hkap .none s'' ?_
    show Seg _ _ _ _ _ _ _ (Sem.wrap _ _ _ _ (execs [] env)) _ _
    refine seg_execs_nil ?_
    refine seg_again rfl ?_
    exact ih hm (by omega) (fun j h1 h2 => hout j (by omega) h2) s'' consL'' s''.heap s''.toks NC'' e'' F'' N'' hne''
end
end Mine
end
section
local macro_rules | `(tactic| omega) => `(tactic| lia)
set_option maxHeartbeats 8000000
set_option rowWalk.seconds 0
namespace Mine
noncomputable def GBeh (prog : Program) (w : World) (g : Heap) (out : Nat → Option Int) (Lg : Addr) (oL : Obj) (code : Code) : Prop :=
  ∀ (dp un : Nat) (gd : Option (List Code)) (outers : List Env) (cs : List Addr), dp + 3 < recursionLimit → un + 60 < cLine → (∀ b ∈ cs, b ≠ Lg ∧ g.get? b = none) → ∀ s₁ : Shared, GReady g cs [(Lg, oL)] s₁.heap →
    (GenState.fresh code).Goes (model prog w) (Aro dp un gd outers) (GEnd g cs out 6) (GProt g cs out 6) 6 (.send .none) s₁
namespace gi_call
noncomputable def cutQ1 : { qq : (World → (ExcName → Option Value) → (Str → Option Value) → (Str → Option Value) → Heap → Addr → Int → Int → Int → Tok → Tok → Tok → Shared → Nat → Heap → Obj → (Array DictEntry) → Nat → Nat → Nat → (Option (List Code)) → (List Env) → (List Addr) → Shared → Prop) // (∀ (w : World) (mean : ExcName → Option Value) (mg : Str → Option Value) (mb : Str → Option Value) (g : Heap) (lr : Addr) (r0 : Int) (r1 : Int) (r2 : Int) (t0 : Tok) (t1 : Tok) (t2 : Tok) (s : Shared) (L' : Nat) (h₁ : Heap) (oL : Obj) (es : Array DictEntry) (ep : Nat) (dp' : Nat) (un' : Nat) (gd' : Option (List Code)) (outers' : List Env) (cs : List Addr) (s₁ : Shared), qq w mean mg mb g lr r0 r1 r2 t0 t1 t2 s L' h₁ oL es ep dp' un' gd' outers' cs s₁) → ∀ (w : World) (mean : ExcName → Option Value) (mg mb : Str → Option Value) (g : Heap) (lr : Addr) (r0 r1 r2 : Int) (t0 t1 t2 : Tok) (dp un : Nat) (gd : Option (List Code)) (outers : List Env) (X : (hd1.heap_39 w.params).In g) (T : Top hd1.view_39 (looseW hd1.view_39 []) mean mg mb g) (hl : g.IsList lr [Value.int r0 t0, .int r1 t1, .int r2 t2].toArray) (hr0 : r0 ≠ 0) (s : Shared) (hk0 : Keeps g s.heap) (hsz : g.objs.size ≤ s.heap.objs.size) (hdp : dp + 3 < recursionLimit) (R : Result → Shared → Prop) (hR : ∀ a Lg h₁ tk code oL nm qn, Keeps s.heap h₁ → h₁.get? Lg = some oL → Lg = s.heap.objs.size → a = h₁.objs.size → GBeh Challenge.rw_re0065_01.row.prog w g (giOut [r0, r1, r2] none) Lg oL code →       R (.ok (.ret (.ref a))) { s with heap := h₁.push (genObj s.gens.size nm qn tk), toks := tk + 1 + 1, gens := s.gens.push (.fresh code) }),
   codeAny (model Challenge.rw_re0065_01.row.prog w) (Aro dp un gd outers) (.call (.ref 28) ⟨[.ref lr], []⟩) R s } := by
  refine ⟨?qq0, fun hP0 => ?b⟩
  case b =>
    intro w mean mg mb g lr r0 r1 r2 t0 t1 t2 dp un gd outers X T hl hr0 s hk0 hsz hdp R hR
    revert X; k_fill; intro X
    have X1 : (hd1.heap_39 w.params).In s.heap := X.keeps hk0
    have T1 : Top hd1.view_39 (looseW hd1.view_39 []) mean mg mb s.heap := T.keeps hk0
    k_dflt (refine' enterG ?k2 ?k3 ?k6 ?k7 ?k8 ?k9 ?kB ?_ ?c2 ?c3 ?c4 ?c5; (case k2 => k_asm); (case k3 => k_asm); (case k6 => k_is); (case k7 => k_is); (case k8 => (show dp < recursionLimit; omega)); (case k9 => exact BindsTo.of_eq rfl); (case c5 => decide); (case kB => exact locs rfl); (case c2 => exact rfl); (case c3 => exact rfl); (case c4 => exact rfl); k_whole)
    intro L' h₁ tk hL hns hk
    obtain ⟨oL, es, ep, hoL, hdL, hkL, hfL⟩ := id hns
    refine hR _ L' h₁ tk _ oL _ _ hk hoL hL rfl ?_
    intro dp' un' gd' outers' cs hdp' hun' hcs s₁ hready
    obtain ⟨hr1, hr2, hr3⟩ := hready
    refine ⟨rfl, ?_⟩
    (try dsimp +zetaDelta only)
    revert hun'
    revert hdp'
    revert hcs
    revert hr3
    revert hr2
    revert hr1
    revert hoL
    revert hfL
    revert hkL
    revert hdL
    revert hL
    revert hsz
    revert hk0
    revert hr0
    revert hl
    revert T
    revert X
    exact @hP0 w mean mg mb g lr r0 r1 r2 t0 t1 t2 s L' h₁ oL es ep dp' un' gd' outers' cs s₁
namespace C
@[irreducible] noncomputable def cutT : World × (ExcName → Option Value) × (Str → Option Value) × (Str → Option Value) × Heap × Addr × Int × Int × Int × Tok × Tok × Tok × Shared × Nat × Heap × Obj × (Array DictEntry) × Nat × Nat × Nat × (Option (List Code)) × (List Env) × (List Addr) × Shared := gen ⟨(Classical.choice world_ne, fun _ => none, fun _ => none, fun _ => none, default, 0, 0, 0, 0, 0, 0, 0, {}, 0, default, default, #[], 0, 0, 0, none, [], [], {})⟩ fun t => cutQ1.1 t.1 t.2.1 t.2.2.1 t.2.2.2.1 t.2.2.2.2.1 t.2.2.2.2.2.1 t.2.2.2.2.2.2.1 t.2.2.2.2.2.2.2.1 t.2.2.2.2.2.2.2.2.1 t.2.2.2.2.2.2.2.2.2.1 t.2.2.2.2.2.2.2.2.2.2.1 t.2.2.2.2.2.2.2.2.2.2.2.1 t.2.2.2.2.2.2.2.2.2.2.2.2.1 t.2.2.2.2.2.2.2.2.2.2.2.2.2.1 t.2.2.2.2.2.2.2.2.2.2.2.2.2.2.1 t.2.2.2.2.2.2.2.2.2.2.2.2.2.2.2.1 t.2.2.2.2.2.2.2.2.2.2.2.2.2.2.2.2.1 t.2.2.2.2.2.2.2.2.2.2.2.2.2.2.2.2.2.1 t.2.2.2.2.2.2.2.2.2.2.2.2.2.2.2.2.2.2.1 t.2.2.2.2.2.2.2.2.2.2.2.2.2.2.2.2.2.2.2.1 t.2.2.2.2.2.2.2.2.2.2.2.2.2.2.2.2.2.2.2.2.1 t.2.2.2.2.2.2.2.2.2.2.2.2.2.2.2.2.2.2.2.2.2.1 t.2.2.2.2.2.2.2.2.2.2.2.2.2.2.2.2.2.2.2.2.2.2.1 t.2.2.2.2.2.2.2.2.2.2.2.2.2.2.2.2.2.2.2.2.2.2.2
@[irreducible] noncomputable def w : World := cutT.1
@[irreducible] noncomputable def mean : ExcName → Option Value := cutT.2.1
@[irreducible] noncomputable def mg : Str → Option Value := cutT.2.2.1
@[irreducible] noncomputable def mb : Str → Option Value := cutT.2.2.2.1
@[irreducible] noncomputable def g : Heap := cutT.2.2.2.2.1
@[irreducible] noncomputable def lr : Addr := cutT.2.2.2.2.2.1
@[irreducible] noncomputable def r0 : Int := cutT.2.2.2.2.2.2.1
@[irreducible] noncomputable def r1 : Int := cutT.2.2.2.2.2.2.2.1
@[irreducible] noncomputable def r2 : Int := cutT.2.2.2.2.2.2.2.2.1
@[irreducible] noncomputable def t0 : Tok := cutT.2.2.2.2.2.2.2.2.2.1
@[irreducible] noncomputable def t1 : Tok := cutT.2.2.2.2.2.2.2.2.2.2.1
@[irreducible] noncomputable def t2 : Tok := cutT.2.2.2.2.2.2.2.2.2.2.2.1
@[irreducible] noncomputable def s : Shared := cutT.2.2.2.2.2.2.2.2.2.2.2.2.1
@[irreducible] noncomputable def L' : Nat := cutT.2.2.2.2.2.2.2.2.2.2.2.2.2.1
@[irreducible] noncomputable def h₁ : Heap := cutT.2.2.2.2.2.2.2.2.2.2.2.2.2.2.1
@[irreducible] noncomputable def oL : Obj := cutT.2.2.2.2.2.2.2.2.2.2.2.2.2.2.2.1
@[irreducible] noncomputable def es : Array DictEntry := cutT.2.2.2.2.2.2.2.2.2.2.2.2.2.2.2.2.1
@[irreducible] noncomputable def ep : Nat := cutT.2.2.2.2.2.2.2.2.2.2.2.2.2.2.2.2.2.1
@[irreducible] noncomputable def dp' : Nat := cutT.2.2.2.2.2.2.2.2.2.2.2.2.2.2.2.2.2.2.1
@[irreducible] noncomputable def un' : Nat := cutT.2.2.2.2.2.2.2.2.2.2.2.2.2.2.2.2.2.2.2.1
@[irreducible] noncomputable def gd' : Option (List Code) := cutT.2.2.2.2.2.2.2.2.2.2.2.2.2.2.2.2.2.2.2.2.1
@[irreducible] noncomputable def outers' : List Env := cutT.2.2.2.2.2.2.2.2.2.2.2.2.2.2.2.2.2.2.2.2.2.1
@[irreducible] noncomputable def cs : List Addr := cutT.2.2.2.2.2.2.2.2.2.2.2.2.2.2.2.2.2.2.2.2.2.2.1
@[irreducible] noncomputable def s₁ : Shared := cutT.2.2.2.2.2.2.2.2.2.2.2.2.2.2.2.2.2.2.2.2.2.2.2
theorem cutP1 : cutQ1.1 w mean mg mb g lr r0 r1 r2 t0 t1 t2 s L' h₁ oL es ep dp' un' gd' outers' cs s₁ := by
  delta cutQ1
  dsimp only
  intro X T hl hr0 hk0 hsz hL hdL hkL hfL hoL hr1 hr2 hr3 hcs hdp' hun'
  obtain ⟨consL, NC, hcsL⟩ := cons_of (g := g) (L := L') cs hr3 hcs
  have hLs : s₁.heap.get? L' = some oL := hr1 _ (.head _)
  have F' : Fr g L' s₁.heap _ := ⟨⟨oL, es, ep, hLs, hdL, hkL, hfL⟩, hr2, by omega⟩
  have N' := NC
  replace NC : Hid (News g L' s₁.heap consL) := NC
  clear hfL hkL hdL
  (try dsimp only at F')
  refine seg_func ?_
  refine seg_execs_cons (seg_stmt ?_)
  (((try k_fold); ((repeat' (first | (k_unfold; (try dsimp only)) | ((fail_if_success (with_reducible show wpAny _ _ (exec (Stmt.While _ _ _ _) _) _ _ _)); (fail_if_success (with_reducible show wpAny _ _ (exec (Stmt.For _ _ _ _ _) _) _ _ _)); (fail_if_success (with_reducible show wpAny _ _ (pyIter _) _ _ _)); ((first | walk1 | (dsimp only; walk1)); (try dsimp only))))))))
  refine seg_execs_cons (seg_For ?_)
  (((try k_fold); ((repeat' (first | (k_unfold; (try dsimp only)) | ((fail_if_success (with_reducible show wpAny _ _ (exec (Stmt.While _ _ _ _) _) _ _ _)); (fail_if_success (with_reducible show wpAny _ _ (exec (Stmt.For _ _ _ _ _) _) _ _ _)); (fail_if_success (with_reducible show wpAny _ _ (pyIter _) _ _ _)); ((first | walk1 | (dsimp only; walk1)); (try dsimp only))))))))
  (((with_reducible rename Fr _ _ _ _ => F0); (with_reducible rename News _ _ _ _ => N0)))
  have hls := hl.at fun o e => F0.keep lr o e
  refine wpAny_pyIter_list hls ?_
  intro pp lv'
  have hneI : ∀ p ∈ consL, p.1 ≠ _ := fun p hp e => absurd (Heap.lt_size (N0 p hp).1) (e ▸ Nat.lt_irrefl _)
  have N1 := News.push F0 N0 { cls := .type "list_iterator", data := .fields #[.ref lr, .int 0 0] }
  have F1 := F0.push { cls := .type "list_iterator", data := .fields #[.ref lr, .int 0 0] }
  clear F0 N0 hls
  have hIt : IterO { cls := .type "list_iterator", data := .fields #[.ref lr, .int 0 0] } lr 0 := ⟨rfl, rfl⟩
  refine seg_forLoop ?_
  refine nextItem_led F1 N1 hneI hIt hl rfl ?_
  intro h2 oIt2 hIt2 F2 N2
  clear F1 N1 hIt
  dsimp only
  (((try k_fold); ((repeat' (first | (k_unfold; (try dsimp only)) | ((fail_if_success (with_reducible show wpAny _ _ (exec (Stmt.While _ _ _ _) _) _ _ _)); (fail_if_success (with_reducible show wpAny _ _ (exec (Stmt.For _ _ _ _ _) _) _ _ _)); (fail_if_success (with_reducible show wpAny _ _ (pyIter _) _ _ _)); ((first | walk1 | (dsimp only; walk1)); (try dsimp only))))))))
  refine seg_execs_cons (seg_If ?_)
  (((try k_fold); ((repeat' (first | (k_unfold; (try dsimp only)) | ((fail_if_success (with_reducible show wpAny _ _ (exec (Stmt.While _ _ _ _) _) _ _ _)); (fail_if_success (with_reducible show wpAny _ _ (exec (Stmt.For _ _ _ _ _) _) _ _ _)); (fail_if_success (with_reducible show wpAny _ _ (pyIter _) _ _ _)); ((first | walk1 | (dsimp only; walk1)); (try dsimp only))))))))
  · refine seg_execs_cons (seg_stmt ?_)
    (((try k_fold); ((repeat' (first | (k_unfold; (try dsimp only)) | ((fail_if_success (with_reducible show wpAny _ _ (exec (Stmt.While _ _ _ _) _) _ _ _)); (fail_if_success (with_reducible show wpAny _ _ (exec (Stmt.For _ _ _ _ _) _) _ _ _)); (fail_if_success (with_reducible show wpAny _ _ (pyIter _) _ _ _)); ((first | walk1 | (dsimp only; walk1)); (try dsimp only))))))))
    (((with_reducible rename Fr _ _ _ _ => F0); (with_reducible rename News _ _ _ _ => N0)))
    refine seg_leaf (.ok (.ret .none)) ?_
    refine seg_end (.ok (.ret .none)) ⟨rfl, ?_, since_all NC hcsL F0 N0 (fun p hp => by first | exact hp | exact .tail _ hp)⟩
    simp [giOut, *]
  · refine seg_execs_nil ?_
    dsimp only
    refine seg_execs_cons (seg_If ?_)
    (((try k_fold); ((repeat' (first | (k_unfold; (try dsimp only)) | ((fail_if_success (with_reducible show wpAny _ _ (exec (Stmt.While _ _ _ _) _) _ _ _)); (fail_if_success (with_reducible show wpAny _ _ (exec (Stmt.For _ _ _ _ _) _) _ _ _)); (fail_if_success (with_reducible show wpAny _ _ (pyIter _) _ _ _)); ((first | walk1 | (dsimp only; walk1)); (try dsimp only))))))))
    · exact absurd (by assumption) hr0
    · refine seg_execs_nil ?_
      dsimp only
      refine seg_execs_cons (seg_Expr_Yield rfl rfl rfl ?_)
      (((try k_fold); ((repeat' (first | (k_unfold; (try dsimp only)) | ((fail_if_success (with_reducible show wpAny _ _ (exec (Stmt.While _ _ _ _) _) _ _ _)); (fail_if_success (with_reducible show wpAny _ _ (exec (Stmt.For _ _ _ _ _) _) _ _ _)); (fail_if_success (with_reducible show wpAny _ _ (pyIter _) _ _ _)); ((first | walk1 | (dsimp only; walk1)); (try dsimp only))))))))
      rename_i kap hkap
      (((with_reducible rename Fr _ _ _ _ => F0); (with_reducible rename News _ _ _ _ => N0)))
      refine prot_of (x := r0) (by simp [giOut, *]) rfl hcs NC hcsL F0 N0 hneI ?_
      intro hm s2 consL2 F3 NC2 hcsL2 N3 hneI2
      refine hkap .none s2 ?_
      clear F0 N0 hkap kap
      dsimp only
      refine seg_execs_cons (seg_stmt ?_)
      (((try k_fold); ((repeat' (first | (k_unfold; (try dsimp only)) | ((fail_if_success (with_reducible show wpAny _ _ (exec (Stmt.While _ _ _ _) _) _ _ _)); (fail_if_success (with_reducible show wpAny _ _ (exec (Stmt.For _ _ _ _ _) _) _ _ _)); (fail_if_success (with_reducible show wpAny _ _ (pyIter _) _ _ _)); ((first | walk1 | (dsimp only; walk1)); (try dsimp only))))))))
      refine seg_execs_nil ?_
      refine seg_again rfl ?_
      (((with_reducible rename Fr _ _ _ _ => F0); (with_reducible rename News _ _ _ _ => N0)))
      refine seg_forLoop ?_
      refine nextItem_led F0 N0 hneI2 hIt2 hl rfl ?_
      intro hh1 oIt2x hIt2x FF1 NN1
      clear F0 N0
      dsimp only
      (((try k_fold); ((repeat' (first | (k_unfold; (try dsimp only)) | ((fail_if_success (with_reducible show wpAny _ _ (exec (Stmt.While _ _ _ _) _) _ _ _)); (fail_if_success (with_reducible show wpAny _ _ (exec (Stmt.For _ _ _ _ _) _) _ _ _)); (fail_if_success (with_reducible show wpAny _ _ (pyIter _) _ _ _)); ((first | walk1 | (dsimp only; walk1)); (try dsimp only))))))))
      refine seg_execs_cons (seg_If ?_)
      (((try k_fold); ((repeat' (first | (k_unfold; (try dsimp only)) | ((fail_if_success (with_reducible show wpAny _ _ (exec (Stmt.While _ _ _ _) _) _ _ _)); (fail_if_success (with_reducible show wpAny _ _ (exec (Stmt.For _ _ _ _ _) _) _ _ _)); (fail_if_success (with_reducible show wpAny _ _ (pyIter _) _ _ _)); ((first | walk1 | (dsimp only; walk1)); (try dsimp only))))))))
      · refine seg_execs_cons (seg_stmt ?_)
        (((try k_fold); ((repeat' (first | (k_unfold; (try dsimp only)) | ((fail_if_success (with_reducible show wpAny _ _ (exec (Stmt.While _ _ _ _) _) _ _ _)); (fail_if_success (with_reducible show wpAny _ _ (exec (Stmt.For _ _ _ _ _) _) _ _ _)); (fail_if_success (with_reducible show wpAny _ _ (pyIter _) _ _ _)); ((first | walk1 | (dsimp only; walk1)); (try dsimp only))))))))
        (((with_reducible rename Fr _ _ _ _ => F0); (with_reducible rename News _ _ _ _ => N0)))
        refine seg_leaf (.ok (.ret .none)) ?_
        refine seg_end (.ok (.ret .none)) ⟨rfl, ?_, since_all NC2 hcsL2 F0 N0 (fun p hp => by first | exact hp | exact .tail _ hp)⟩
        simp [giOut, *]
      · refine seg_execs_nil ?_
        dsimp only
        refine seg_execs_cons (seg_If ?_)
        (((try k_fold); ((repeat' (first | (k_unfold; (try dsimp only)) | ((fail_if_success (with_reducible show wpAny _ _ (exec (Stmt.While _ _ _ _) _) _ _ _)); (fail_if_success (with_reducible show wpAny _ _ (exec (Stmt.For _ _ _ _ _) _) _ _ _)); (fail_if_success (with_reducible show wpAny _ _ (pyIter _) _ _ _)); ((first | walk1 | (dsimp only; walk1)); (try dsimp only))))))))
        · refine seg_execs_cons (seg_If ?_)
          (((try k_fold); ((repeat' (first | (k_unfold; (try dsimp only)) | ((fail_if_success (with_reducible show wpAny _ _ (exec (Stmt.While _ _ _ _) _) _ _ _)); (fail_if_success (with_reducible show wpAny _ _ (exec (Stmt.For _ _ _ _ _) _) _ _ _)); (fail_if_success (with_reducible show wpAny _ _ (pyIter _) _ _ _)); ((first | walk1 | (dsimp only; walk1)); (try dsimp only))))))))
          refine seg_execs_nil ?_
          dsimp only
          refine seg_execs_cons (seg_While ?_)
          intro pq
          (((with_reducible rename Fr _ _ _ _ => F0); (with_reducible rename News _ _ _ _ => N0)))
          refine seg_forever (x := r0) (t := t0) rfl rfl rfl rfl hcs ?_ ?_ _ (by omega) (by omega) ?_ _ _ _ _ NC2 hcsL2 F0 N0 hneI2
          · intro sz Ez Qz hq
            clear F0 N0
            (((try k_fold); ((repeat' (first | (k_unfold; (try dsimp only)) | ((fail_if_success (with_reducible show wpAny _ _ (exec (Stmt.While _ _ _ _) _) _ _ _)); (fail_if_success (with_reducible show wpAny _ _ (exec (Stmt.For _ _ _ _ _) _) _ _ _)); (fail_if_success (with_reducible show wpAny _ _ (pyIter _) _ _ _)); ((first | walk1 | (dsimp only; walk1)); (try dsimp only))))))))
            exact hq
          · intro sz Ez Qz Fz hq
            clear F0 N0
            (((try k_fold); ((repeat' (first | (k_unfold; (try dsimp only)) | ((fail_if_success (with_reducible show wpAny _ _ (exec (Stmt.While _ _ _ _) _) _ _ _)); (fail_if_success (with_reducible show wpAny _ _ (exec (Stmt.For _ _ _ _ _) _) _ _ _)); (fail_if_success (with_reducible show wpAny _ _ (pyIter _) _ _ _)); ((first | walk1 | (dsimp only; walk1)); (try dsimp only))))))))
            exact hq
          · intro j h1 h2
            have hj : j = 1 ∨ j = 1+1 ∨ j = 1+2 ∨ j = 1+3 ∨ j = 1 + 4 := by omega
            rcases hj with rfl | rfl | rfl | rfl | rfl <;> simp [giOut, *]
        · refine seg_execs_nil ?_
          dsimp only
          refine seg_execs_cons (seg_Expr_Yield rfl rfl rfl ?_)
          (((try k_fold); ((repeat' (first | (k_unfold; (try dsimp only)) | ((fail_if_success (with_reducible show wpAny _ _ (exec (Stmt.While _ _ _ _) _) _ _ _)); (fail_if_success (with_reducible show wpAny _ _ (exec (Stmt.For _ _ _ _ _) _) _ _ _)); (fail_if_success (with_reducible show wpAny _ _ (pyIter _) _ _ _)); ((first | walk1 | (dsimp only; walk1)); (try dsimp only))))))))
          rename_i kap hkap
          (((with_reducible rename Fr _ _ _ _ => F0); (with_reducible rename News _ _ _ _ => N0)))
          refine prot_of (x := r1) (by simp [giOut, *]) rfl hcs NC2 hcsL2 F0 N0 hneI2 ?_
          intro hm1 s2x consL2x F2x NC2x hcsL2x N2x hneI2x
          refine hkap .none s2x ?_
          clear F0 N0 hkap kap
          dsimp only
          refine seg_execs_cons (seg_stmt ?_)
          (((try k_fold); ((repeat' (first | (k_unfold; (try dsimp only)) | ((fail_if_success (with_reducible show wpAny _ _ (exec (Stmt.While _ _ _ _) _) _ _ _)); (fail_if_success (with_reducible show wpAny _ _ (exec (Stmt.For _ _ _ _ _) _) _ _ _)); (fail_if_success (with_reducible show wpAny _ _ (pyIter _) _ _ _)); ((first | walk1 | (dsimp only; walk1)); (try dsimp only))))))))
          refine seg_execs_nil ?_
          refine seg_again rfl ?_
          (((with_reducible rename Fr _ _ _ _ => F0); (with_reducible rename News _ _ _ _ => N0)))
          refine seg_forLoop ?_
          refine nextItem_led F0 N0 hneI2x hIt2x hl rfl ?_
          intro hh2 oIt3x hIt3x FF2 NN2
          clear F0 N0
          dsimp only
          (((try k_fold); ((repeat' (first | (k_unfold; (try dsimp only)) | ((fail_if_success (with_reducible show wpAny _ _ (exec (Stmt.While _ _ _ _) _) _ _ _)); (fail_if_success (with_reducible show wpAny _ _ (exec (Stmt.For _ _ _ _ _) _) _ _ _)); (fail_if_success (with_reducible show wpAny _ _ (pyIter _) _ _ _)); ((first | walk1 | (dsimp only; walk1)); (try dsimp only))))))))
          refine seg_execs_cons (seg_If ?_)
          (((try k_fold); ((repeat' (first | (k_unfold; (try dsimp only)) | ((fail_if_success (with_reducible show wpAny _ _ (exec (Stmt.While _ _ _ _) _) _ _ _)); (fail_if_success (with_reducible show wpAny _ _ (exec (Stmt.For _ _ _ _ _) _) _ _ _)); (fail_if_success (with_reducible show wpAny _ _ (pyIter _) _ _ _)); ((first | walk1 | (dsimp only; walk1)); (try dsimp only))))))))
          · refine seg_execs_cons (seg_stmt ?_)
            (((try k_fold); ((repeat' (first | (k_unfold; (try dsimp only)) | ((fail_if_success (with_reducible show wpAny _ _ (exec (Stmt.While _ _ _ _) _) _ _ _)); (fail_if_success (with_reducible show wpAny _ _ (exec (Stmt.For _ _ _ _ _) _) _ _ _)); (fail_if_success (with_reducible show wpAny _ _ (pyIter _) _ _ _)); ((first | walk1 | (dsimp only; walk1)); (try dsimp only))))))))
            (((with_reducible rename Fr _ _ _ _ => F0); (with_reducible rename News _ _ _ _ => N0)))
            refine seg_leaf (.ok (.ret .none)) ?_
            refine seg_end (.ok (.ret .none)) ⟨rfl, ?_, since_all NC2x hcsL2x F0 N0 (fun p hp => by first | exact hp | exact .tail _ hp)⟩
            simp [giOut, *]
          · refine seg_execs_nil ?_
            dsimp only
            refine seg_execs_cons (seg_If ?_)
            (((try k_fold); ((repeat' (first | (k_unfold; (try dsimp only)) | ((fail_if_success (with_reducible show wpAny _ _ (exec (Stmt.While _ _ _ _) _) _ _ _)); (fail_if_success (with_reducible show wpAny _ _ (exec (Stmt.For _ _ _ _ _) _) _ _ _)); (fail_if_success (with_reducible show wpAny _ _ (pyIter _) _ _ _)); ((first | walk1 | (dsimp only; walk1)); (try dsimp only))))))))
            · refine seg_execs_cons (seg_If ?_)
              (((try k_fold); ((repeat' (first | (k_unfold; (try dsimp only)) | ((fail_if_success (with_reducible show wpAny _ _ (exec (Stmt.While _ _ _ _) _) _ _ _)); (fail_if_success (with_reducible show wpAny _ _ (exec (Stmt.For _ _ _ _ _) _) _ _ _)); (fail_if_success (with_reducible show wpAny _ _ (pyIter _) _ _ _)); ((first | walk1 | (dsimp only; walk1)); (try dsimp only))))))))
              refine seg_execs_nil ?_
              dsimp only
              refine seg_execs_cons (seg_While ?_)
              intro pq
              (((with_reducible rename Fr _ _ _ _ => F0); (with_reducible rename News _ _ _ _ => N0)))
              refine seg_forever (x := r1) (t := t1) rfl rfl rfl rfl hcs ?_ ?_ _ (by omega) (by omega) ?_ _ _ _ _ NC2x hcsL2x F0 N0 hneI2x
              · intro sz Ez Qz hq
                clear F0 N0
                (((try k_fold); ((repeat' (first | (k_unfold; (try dsimp only)) | ((fail_if_success (with_reducible show wpAny _ _ (exec (Stmt.While _ _ _ _) _) _ _ _)); (fail_if_success (with_reducible show wpAny _ _ (exec (Stmt.For _ _ _ _ _) _) _ _ _)); (fail_if_success (with_reducible show wpAny _ _ (pyIter _) _ _ _)); ((first | walk1 | (dsimp only; walk1)); (try dsimp only))))))))
                exact hq
              · intro sz Ez Qz Fz hq
                clear F0 N0
                (((try k_fold); ((repeat' (first | (k_unfold; (try dsimp only)) | ((fail_if_success (with_reducible show wpAny _ _ (exec (Stmt.While _ _ _ _) _) _ _ _)); (fail_if_success (with_reducible show wpAny _ _ (exec (Stmt.For _ _ _ _ _) _) _ _ _)); (fail_if_success (with_reducible show wpAny _ _ (pyIter _) _ _ _)); ((first | walk1 | (dsimp only; walk1)); (try dsimp only))))))))
                exact hq
              · intro j h1 h2
                have hj : j = 2 ∨ j = 2+1 ∨ j = 2+2 ∨ j = 2+3 ∨ j = 2 + 4 := by omega
                rcases hj with rfl | rfl | rfl | rfl | rfl <;> simp [giOut, *]
            · refine seg_execs_nil ?_
              dsimp only
              refine seg_execs_cons (seg_Expr_Yield rfl rfl rfl ?_)
              (((try k_fold); ((repeat' (first | (k_unfold; (try dsimp only)) | ((fail_if_success (with_reducible show wpAny _ _ (exec (Stmt.While _ _ _ _) _) _ _ _)); (fail_if_success (with_reducible show wpAny _ _ (exec (Stmt.For _ _ _ _ _) _) _ _ _)); (fail_if_success (with_reducible show wpAny _ _ (pyIter _) _ _ _)); ((first | walk1 | (dsimp only; walk1)); (try dsimp only))))))))
              rename_i kap hkap
              (((with_reducible rename Fr _ _ _ _ => F0); (with_reducible rename News _ _ _ _ => N0)))
              refine prot_of (x := r2) (by simp [giOut, *]) rfl hcs NC2x hcsL2x F0 N0 hneI2x ?_
              intro hm2 s3x consL3x F3x NC3x hcsL3x N3x hneI3x
              refine hkap .none s3x ?_
              clear F0 N0 hkap kap
              dsimp only
              refine seg_execs_cons (seg_stmt ?_)
              (((try k_fold); ((repeat' (first | (k_unfold; (try dsimp only)) | ((fail_if_success (with_reducible show wpAny _ _ (exec (Stmt.While _ _ _ _) _) _ _ _)); (fail_if_success (with_reducible show wpAny _ _ (exec (Stmt.For _ _ _ _ _) _) _ _ _)); (fail_if_success (with_reducible show wpAny _ _ (pyIter _) _ _ _)); ((first | walk1 | (dsimp only; walk1)); (try dsimp only))))))))
              refine seg_execs_nil ?_
              refine seg_again rfl ?_
              (((with_reducible rename Fr _ _ _ _ => F0); (with_reducible rename News _ _ _ _ => N0)))
              refine seg_forLoop ?_
              refine nextEnd_led rfl F0 N0 hneI3x hIt3x hl ?_
              intro hhe me Fe Ne
              dsimp only
              refine seg_again rfl ?_
              refine seg_leaf (.ok .next) ?_
              refine seg_end (.ok (.ret .none)) ⟨rfl, ?_, since_all NC3x hcsL3x Fe Ne (fun p hp => by first | exact hp | exact .tail _ hp)⟩
              simp [giOut, *]
theorem cutR1 : ∀ (w : World) (mean : ExcName → Option Value) (mg : Str → Option Value) (mb : Str → Option Value) (g : Heap) (lr : Addr) (r0 : Int) (r1 : Int) (r2 : Int) (t0 : Tok) (t1 : Tok) (t2 : Tok) (s : Shared) (L' : Nat) (h₁ : Heap) (oL : Obj) (es : Array DictEntry) (ep : Nat) (dp' : Nat) (un' : Nat) (gd' : Option (List Code)) (outers' : List Env) (cs : List Addr) (s₁ : Shared), cutQ1.1 w mean mg mb g lr r0 r1 r2 t0 t1 t2 s L' h₁ oL es ep dp' un' gd' outers' cs s₁ := by
  intro w mean mg mb g lr r0 r1 r2 t0 t1 t2 s L' h₁ oL es ep dp' un' gd' outers' cs s₁
  with_unfolding_all exact of_gen (P := fun t : World × (ExcName → Option Value) × (Str → Option Value) × (Str → Option Value) × Heap × Addr × Int × Int × Int × Tok × Tok × Tok × Shared × Nat × Heap × Obj × (Array DictEntry) × Nat × Nat × Nat × (Option (List Code)) × (List Env) × (List Addr) × Shared => cutQ1.1 t.1 t.2.1 t.2.2.1 t.2.2.2.1 t.2.2.2.2.1 t.2.2.2.2.2.1 t.2.2.2.2.2.2.1 t.2.2.2.2.2.2.2.1 t.2.2.2.2.2.2.2.2.1 t.2.2.2.2.2.2.2.2.2.1 t.2.2.2.2.2.2.2.2.2.2.1 t.2.2.2.2.2.2.2.2.2.2.2.1 t.2.2.2.2.2.2.2.2.2.2.2.2.1 t.2.2.2.2.2.2.2.2.2.2.2.2.2.1 t.2.2.2.2.2.2.2.2.2.2.2.2.2.2.1 t.2.2.2.2.2.2.2.2.2.2.2.2.2.2.2.1 t.2.2.2.2.2.2.2.2.2.2.2.2.2.2.2.2.1 t.2.2.2.2.2.2.2.2.2.2.2.2.2.2.2.2.2.1 t.2.2.2.2.2.2.2.2.2.2.2.2.2.2.2.2.2.2.1 t.2.2.2.2.2.2.2.2.2.2.2.2.2.2.2.2.2.2.2.1 t.2.2.2.2.2.2.2.2.2.2.2.2.2.2.2.2.2.2.2.2.1 t.2.2.2.2.2.2.2.2.2.2.2.2.2.2.2.2.2.2.2.2.2.1 t.2.2.2.2.2.2.2.2.2.2.2.2.2.2.2.2.2.2.2.2.2.2.1 t.2.2.2.2.2.2.2.2.2.2.2.2.2.2.2.2.2.2.2.2.2.2.2) cutP1 (w, mean, mg, mb, g, lr, r0, r1, r2, t0, t1, t2, s, L', h₁, oL, es, ep, dp', un', gd', outers', cs, s₁)
end C
end gi_call
theorem gi_call (w : World) (mean : ExcName → Option Value) (mg mb : Str → Option Value) (g : Heap) (lr : Addr) (r0 r1 r2 : Int) (t0 t1 t2 : Tok) (dp un : Nat) (gd : Option (List Code)) (outers : List Env)
    (X : (hd1.heap_39 w.params).In g) (T : Top hd1.view_39 (looseW hd1.view_39 []) mean mg mb g) (hl : g.IsList lr [Value.int r0 t0, .int r1 t1, .int r2 t2].toArray) (hr0 : r0 ≠ 0)
    (s : Shared) (hk0 : Keeps g s.heap) (hsz : g.objs.size ≤ s.heap.objs.size) (hdp : dp + 3 < recursionLimit)
    (R : Result → Shared → Prop)
    (hR : ∀ a Lg h₁ tk code oL nm qn, Keeps s.heap h₁ → h₁.get? Lg = some oL → Lg = s.heap.objs.size → a = h₁.objs.size → GBeh Challenge.rw_re0065_01.row.prog w g (giOut [r0, r1, r2] none) Lg oL code →
      R (.ok (.ret (.ref a))) { s with heap := h₁.push (genObj s.gens.size nm qn tk), toks := tk + 1 + 1, gens := s.gens.push (.fresh code) }) :
    codeAny (model Challenge.rw_re0065_01.row.prog w) (Aro dp un gd outers) (.call (.ref 28) ⟨[.ref lr], []⟩) R s :=
  gi_call.cutQ1.2 gi_call.C.cutR1 w mean mg mb g lr r0 r1 r2 t0 t1 t2 dp un gd outers X T hl hr0 s hk0 hsz hdp R hR
end Mine
end
section
local macro_rules | `(tactic| omega) => `(tactic| lia)
namespace Mine
theorem st_eq (s : Shared) (i : Nat) (x y : GenState) (h : Heap) (tk : Nat) : Shared.setGen { s.setGen i x with heap := h, toks := tk } i y = Shared.setGen { s with heap := h, toks := tk } i y := by
  unfold Shared.setGen
  simp
theorem setGen_get {s : Shared} {i : Nat} {gs x : GenState} (h : s.gens[i]? = some gs) : (s.setGen i x).gens[i]? = some x := by
  unfold Shared.setGen
  have : i < s.gens.size := by
    have := Array.getElem?_eq_some_iff.mp h
    exact this.1
  simp [this]
theorem setGen_bare {s : Shared} {i : Nat} {x : GenState} (h : AllBare s.gens) (hx : x.bare = true) : AllBare (s.setGen i x).gens := by
  intro y hy
  unfold Shared.setGen at hy
  rcases Array.mem_or_eq_of_mem_setIfInBounds hy with q | q
  · exact h y q
  · rw [q]; exact hx
section
variable {prog : Program} {w : World} {A : Around} {E : Value → Shared → Prop} {s : Shared} {g : Heap} {cs : List Addr} {out : Nat → Option Int} {N : Nat}
end
namespace next_gen
noncomputable def cutQ1 : { qq : (Program → World → Around → (Value → Shared → Prop) → Shared → Heap → (List Addr) → (Nat → Option Int) → Nat → Addr → Nat → Nat → (Option Value → Shared → Prop) → Prop) // (∀ (prog : Program) (w : World) (A : Around) (E : Value → Shared → Prop) (s : Shared) (g : Heap) (cs : List Addr) (out : Nat → Option Int) (N : Nat) (a : Addr) (gi : Nat) (n : Nat) (Q : Option Value → Shared → Prop), qq prog w A E s g cs out N a gi n Q) → ∀ {prog : Program} {w : World} {A : Around} {E : Value → Shared → Prop} {s : Shared} {g : Heap} {cs : List Addr} {out : Nat → Option Int} {N : Nat} {a : Addr} {gi n : Nat} {gs : GenState} {Q : Option Value → Shared → Prop} (hh : A.handled = none) (hl : s.heap.NoLimit) (hroom : A.depth < recursionLimit) (hg : s.heap.IsGen a gi) (hgs : s.gens[gi]? = some gs) (hn : 1 < n) (hgo : gs.Goes (model prog w) A.in1 (GEnd g cs out N) (GProt g cs out N) n (.send .none) (s.setGen gi .running)) (hY : ∀ x t h tk gs' ownL, out (N - n) = some x → gs'.bare = true → Keeps g h → (∀ b ∈ cs, ∀ o, s.heap.get? b = some o → h.get? b = some o) → GOwn g cs ownL h →       (∀ s'' : Shared, GReady g cs ownL s''.heap → gs'.Goes (model prog w) A.in1 (GEnd g cs out N) (GProt g cs out N) (n - 1) (.send .none) s'') →       Q (some (.int x t)) (Shared.setGen { s with heap := h, toks := tk } gi gs')) (hP : out (N - n) = none → ∀ h tk, Keeps g h → (∀ b ∈ cs, ∀ o, s.heap.get? b = some o → h.get? b = some o) → Q none (Shared.setGen { s with heap := h, toks := tk } gi .finished)),
   wpAny (model prog w) A (pyNext (.ref a)) Q E s } := by
  refine ⟨?qq0, fun hP0 => ?b⟩
  case b =>
    intro prog w A E s g cs out N a gi n gs Q hh hl hroom hg hgs hn hgo hY hP
    revert gs
    (try dsimp +zetaDelta only)
    revert hP
    revert hY
    revert hn
    revert hg
    revert hroom
    revert hl
    revert hh
    exact @hP0 prog w A E s g cs out N a gi n Q
namespace C
@[irreducible] noncomputable def cutT : Program × World × Around × (Value → Shared → Prop) × Shared × Heap × (List Addr) × (Nat → Option Int) × Nat × Addr × Nat × Nat × (Option Value → Shared → Prop) := gen ⟨(default, Classical.choice world_ne, {}, fun _ _ => True, {}, default, [], fun _ => none, 0, 0, 0, 0, fun _ _ => True)⟩ fun t => cutQ1.1 t.1 t.2.1 t.2.2.1 t.2.2.2.1 t.2.2.2.2.1 t.2.2.2.2.2.1 t.2.2.2.2.2.2.1 t.2.2.2.2.2.2.2.1 t.2.2.2.2.2.2.2.2.1 t.2.2.2.2.2.2.2.2.2.1 t.2.2.2.2.2.2.2.2.2.2.1 t.2.2.2.2.2.2.2.2.2.2.2.1 t.2.2.2.2.2.2.2.2.2.2.2.2
@[irreducible] noncomputable def prog : Program := cutT.1
@[irreducible] noncomputable def w : World := cutT.2.1
@[irreducible] noncomputable def A : Around := cutT.2.2.1
@[irreducible] noncomputable def E : Value → Shared → Prop := cutT.2.2.2.1
@[irreducible] noncomputable def s : Shared := cutT.2.2.2.2.1
@[irreducible] noncomputable def g : Heap := cutT.2.2.2.2.2.1
@[irreducible] noncomputable def cs : List Addr := cutT.2.2.2.2.2.2.1
@[irreducible] noncomputable def out : Nat → Option Int := cutT.2.2.2.2.2.2.2.1
@[irreducible] noncomputable def N : Nat := cutT.2.2.2.2.2.2.2.2.1
@[irreducible] noncomputable def a : Addr := cutT.2.2.2.2.2.2.2.2.2.1
@[irreducible] noncomputable def gi : Nat := cutT.2.2.2.2.2.2.2.2.2.2.1
@[irreducible] noncomputable def n : Nat := cutT.2.2.2.2.2.2.2.2.2.2.2.1
@[irreducible] noncomputable def Q : Option Value → Shared → Prop := cutT.2.2.2.2.2.2.2.2.2.2.2.2
theorem cutP1 : cutQ1.1 prog w A E s g cs out N a gi n Q := by
  delta cutQ1
  dsimp only
  intro hh hl hroom hg hn hY hP
  intro gs hgs hgo
  unfold pyNext
  refine wpAny_bind (wpAny_attempt (wpAny_callSpecial?_slot (name := Str.ofString "__next__") hg.typeIs slot_gen_next
    (wpAny_call_entry slot_gen_next hg.typeIs entry_gen_next ?_ (args_gen_next _))))
  show wpAny _ A.in1 (Builtin.Generator.genWake (.ref a) (.send .none)) _ _ s
  unfold Builtin.Generator.genWake
  refine wpAny_bind (wpAny_holding (wpAny_genNumber hg (wpAny_bind (wpAny_genState hgs ?_))))
  cases gs with
  | running => exact hgo.elim
  | finished => exact hgo.elim
  | _ =>
    refine wpAny_bind (wpAny_roomToWake hl hroom ?_)
    show wpAny _ A.in1 (.resume gi (.send .none) [] _) _ _ s
    refine wpAny_resumeQ hgs hgo (fun x s₁ hx => ?_) (fun v s₁ gs' hb hv => ?_)
    · obtain ⟨rfl, ho, h1, tk1, rfl, hk1, hc1⟩ := hx
      show wpAny _ A.in1 (newExc (.type "StopIteration") [] >>= _) _ _ _
      refine wpAny_bind ?_
      simp only [newExc, newTuple]
      refine wpAny_bind (wpAny_newObj_type ?_ (by size_fits))
      refine wpAny_bind (m := firstArgMember _ _) (wpAny_of_eq (a := Value.none) (by first | rfl | (simp only [firstArgMember]; rfl)) ?_)
      refine wpAny_newObj_type ?_ (by size_fits)
      simp only [raiseNew]
      refine wpAny_bind (wpAny_bind (wpAny_handled ?_))
      first | rw [show A.in1.handled = none from hh] | rw [hh]
      refine wpAny_throw ?_
      refine wpAny_bind (wpAny_isInstance (T := "StopIteration") (b := true) ⟨_, Heap.get?_push_size _ rfl, rfl⟩ isSubtype_stop ?_)
      refine wpAny_pure ?_
      refine Eq.mpr (congrArg (Q none) (st_eq s gi .running .finished _ tk1)) (hP ho _ tk1 ?_ ?_)
      · exact fun b o e => Heap.get?_push_of_some _ (Heap.get?_push_of_some _ (hk1 b o e))
      · exact fun b hb o e => Heap.get?_push_of_some _ (Heap.get?_push_of_some _ (hc1 b hb o e))
    · obtain ⟨⟨x, t, hx, rfl⟩, ⟨h1, tk1, rfl, hk1, hc1⟩, hm⟩ := hv
      obtain ⟨ownL, ho1, ho2⟩ := hm (by omega)
      refine wpAny_pure ⟨_, rfl, wpAny_pure ?_⟩
      refine Eq.mpr (congrArg (Q (some (.int x t))) (st_eq s gi .running gs' h1 tk1)) (hY x t h1 tk1 gs' ownL (by rw [← hx]; congr 1; omega) hb hk1 hc1 ho1 (fun s'' hr => ?_))
      have := ho2 s'' hr
      obtain ⟨m, hm⟩ : ∃ m, n = m + 1 := ⟨n - 1, by omega⟩
      rw [hm] at this ⊢
      exact this
theorem cutR1 : ∀ (prog : Program) (w : World) (A : Around) (E : Value → Shared → Prop) (s : Shared) (g : Heap) (cs : List Addr) (out : Nat → Option Int) (N : Nat) (a : Addr) (gi : Nat) (n : Nat) (Q : Option Value → Shared → Prop), cutQ1.1 prog w A E s g cs out N a gi n Q := by
  intro prog w A E s g cs out N a gi n Q
  with_unfolding_all exact of_gen (P := fun t : Program × World × Around × (Value → Shared → Prop) × Shared × Heap × (List Addr) × (Nat → Option Int) × Nat × Addr × Nat × Nat × (Option Value → Shared → Prop) => cutQ1.1 t.1 t.2.1 t.2.2.1 t.2.2.2.1 t.2.2.2.2.1 t.2.2.2.2.2.1 t.2.2.2.2.2.2.1 t.2.2.2.2.2.2.2.1 t.2.2.2.2.2.2.2.2.1 t.2.2.2.2.2.2.2.2.2.1 t.2.2.2.2.2.2.2.2.2.2.1 t.2.2.2.2.2.2.2.2.2.2.2.1 t.2.2.2.2.2.2.2.2.2.2.2.2) cutP1 (prog, w, A, E, s, g, cs, out, N, a, gi, n, Q)
end C
end next_gen
theorem next_gen {prog : Program} {w : World} {A : Around} {E : Value → Shared → Prop} {s : Shared} {g : Heap} {cs : List Addr} {out : Nat → Option Int} {N : Nat} {a : Addr} {gi n : Nat} {gs : GenState} {Q : Option Value → Shared → Prop} (hh : A.handled = none)
    (hl : s.heap.NoLimit) (hroom : A.depth < recursionLimit) (hg : s.heap.IsGen a gi) (hgs : s.gens[gi]? = some gs) (hn : 1 < n)
    (hgo : gs.Goes (model prog w) A.in1 (GEnd g cs out N) (GProt g cs out N) n (.send .none) (s.setGen gi .running))
    (hY : ∀ x t h tk gs' ownL, out (N - n) = some x → gs'.bare = true → Keeps g h → (∀ b ∈ cs, ∀ o, s.heap.get? b = some o → h.get? b = some o) → GOwn g cs ownL h →
      (∀ s'' : Shared, GReady g cs ownL s''.heap → gs'.Goes (model prog w) A.in1 (GEnd g cs out N) (GProt g cs out N) (n - 1) (.send .none) s'') →
      Q (some (.int x t)) (Shared.setGen { s with heap := h, toks := tk } gi gs'))
    (hP : out (N - n) = none → ∀ h tk, Keeps g h → (∀ b ∈ cs, ∀ o, s.heap.get? b = some o → h.get? b = some o) → Q none (Shared.setGen { s with heap := h, toks := tk } gi .finished)) :
    wpAny (model prog w) A (pyNext (.ref a)) Q E s :=
  next_gen.cutQ1.2 next_gen.C.cutR1 hh hl hroom hg hgs hn hgo hY hP
section
variable {prog : Program} {w : World} {A : Around} {E : Value → Shared → Prop} {s : Shared} {g : Heap} {cs : List Addr} {out : Nat → Option Int} {N : Nat}
end
end Mine
namespace Mine
noncomputable def mGo (out : Nat → Option Int) : Nat → Nat → Int → List Int → List Int
  | 0, _, _, acc => acc
  | f + 1, j, p, acc => match out j with
    | none => acc
    | some x => if p + x > 4 then acc else mGo out f (j + 1) (p + x) (acc ++ [p + x])
structure CState (prog : Program) (w : World) (A : Around) (g : Heap) (L lm a gi : Nat) (oA : Obj) (out : Nat → Option Int) (V : List Int) (s : Shared) (k : Nat) (s' : Shared) : Prop where
  ex : ∃ (j : Nat) (p : Int) (tp : Tok) (acc : List Int) (vs : List Value) (e : Nat) (gs : GenState) (ownL : List (Addr × Obj)) (h : Heap) (tk : Nat) (gens : Array GenState) (u : Str → Option Value),
    k = 6 - j ∧ s' = { s with heap := h, toks := tk, gens := gens } ∧ AllBare gens ∧ gens[gi]? = some gs ∧
    (∀ s'' : Shared, GReady g [L, lm, a] ownL s''.heap → gs.Goes (model prog w) A.in1 (GEnd g [L, lm, a] out 6) (GProt g [L, lm, a] out 6) (6 - j) (.send .none) s'') ∧ GOwn g [L, lm, a] ownL h ∧
    Fr g L h (kstB u [(Str.ofString "marks", .ref lm), (Str.ofString "place", .int p tp)]) ∧ News g L h ((lm, W.listOf vs.toArray e) :: (a, oA) :: ownL) ∧ IntsAre vs acc ∧ acc.length ≤ j ∧ (j : Int) ≤ p ∧ p ≤ 4 ∧
    (p = 0 → j = 0) ∧ mGo out (6 - j) j p acc = V
noncomputable def CDone (g : Heap) (L lm : Nat) (V : List Int) (s : Shared) (r : Result) (s' : Shared) : Prop :=
  r = .ok .next ∧ ∃ (vs : List Value) (e : Nat) (h : Heap) (tk : Nat) (gens : Array GenState) (u : Str → Option Value), s' = { s with heap := h, toks := tk, gens := gens } ∧ AllBare gens ∧
    Fr g L h (kstB u [(Str.ofString "marks", .ref lm)]) ∧ News g L h [(lm, W.listOf vs.toArray e)] ∧ IntsAre vs V
theorem ready_of {g h : Heap} {L lm a : Addr} {m : Str → Option Value} {oM oA : Obj} {ownL : List (Addr × Obj)} (F : Fr g L h m) (N : News g L h ((lm, oM) :: (a, oA) :: ownL)) (hO : GOwn g [L, lm, a] ownL h) : GReady g [L, lm, a] ownL h := by
  refine ⟨fun p hp => (hO p hp).1, F.keep, fun b hb => ?_⟩
  obtain ⟨oL, _, _, hL, _⟩ := F.ns
  simp only [List.mem_cons, List.not_mem_nil, or_false] at hb
  rcases hb with rfl | rfl | rfl
  · exact ⟨_, hL⟩
  · exact ⟨_, (N _ (.head _)).1⟩
  · exact ⟨_, (N _ (.tail _ (.head _))).1⟩
theorem kept_of {g h h' : Heap} {L lm a : Addr} {m : Str → Option Value} {oM oA : Obj} {ownL ownL' : List (Addr × Obj)} (F : Fr g L h m) (N : News g L h ((lm, oM) :: (a, oA) :: ownL)) (hk : Keeps g h')
    (hc : ∀ b ∈ [L, lm, a], ∀ o, h.get? b = some o → h'.get? b = some o) (hO : GOwn g [L, lm, a] ownL' h') : Fr g L h' m ∧ News g L h' ((lm, oM) :: (a, oA) :: ownL') := by
  refine ⟨⟨F.ns.at fun o e => hc L (.head _) o e, hk, F.above⟩, fun p hp => ?_⟩
  rcases List.mem_cons.mp hp with rfl | hp
  · exact ⟨hc _ (.tail _ (.head _)) _ (N _ (.head _)).1, (N _ (.head _)).2⟩
  · rcases List.mem_cons.mp hp with rfl | hp
    · exact ⟨hc _ (.tail _ (.tail _ (.head _))) _ (N _ (.tail _ (.head _))).1, (N _ (.tail _ (.head _))).2⟩
    · have := hO p hp
      exact ⟨this.1, fun e => this.2.2 (e ▸ .head _), this.2.1⟩
end Mine
namespace Mine
theorem name_led {g h : Heap} {L l : Addr} {o : Obj} {r : List (Addr × Obj)} (N : News g L h ((l, o) :: r)) : ∃ lm : Addr, lm = l := ⟨l, rfl⟩
theorem mGo_none {out : Nat → Option Int} {j : Nat} {p : Int} {acc : List Int} (hj : j < 6) (h : out j = none) : mGo out (6 - j) j p acc = acc := by
  have e : 6 - j = (5 - j) + 1 := by omega
  rw [e]; unfold mGo; rw [h]
theorem mGo_stop {out : Nat → Option Int} {j : Nat} {p x : Int} {acc : List Int} (hj : j < 6) (h : out j = some x) (hx : p + x > 4) : mGo out (6 - j) j p acc = acc := by
  have e : 6 - j = (5 - j) + 1 := by omega
  rw [e]; unfold mGo; rw [h]; simp only [if_pos hx]
theorem mGo_go {out : Nat → Option Int} {j : Nat} {p x : Int} {acc : List Int} (hj : j < 6) (h : out j = some x) (hx : ¬ p + x > 4) : mGo out (6 - j) j p acc = mGo out (6 - (j + 1)) (j + 1) (p + x) (acc ++ [p + x]) := by
  have e : 6 - j = (6 - (j + 1)) + 1 := by omega
  rw [e, mGo]; rw [h]; simp only [if_neg hx]
theorem giOut_pos : ∀ (rs : List Int) (last : Option Int), (∀ r ∈ rs, 0 ≤ r) → (∀ y, last = some y → 1 ≤ y) → ∀ j x, giOut rs last j = some x → 1 ≤ x
  | [], _, _, _, j, x, h => by simp [giOut] at h
  | r :: rs, last, hr, hl, j, x, h => by
    unfold giOut at h
    split at h
    · cases h
    · split at h
      · exact hl x h
      · have h0 := hr r (.head _)
        cases j with
        | zero => simp at h; omega
        | succ j => exact giOut_pos rs (some r) (fun q hq => hr q (.tail _ hq)) (fun y hy => by cases hy; omega) j x h
end Mine
namespace Mine
theorem ne_of_size {h : Heap} {a b : Addr} {o : Obj} (hb : h.get? b = some o) (ha : a = h.objs.size) : a ≠ b := fun e => absurd (Heap.lt_size hb) (by rw [← e, ha]; exact Nat.lt_irrefl _)
theorem none_of_size {g h : Heap} {a : Addr} (k : Keeps g h) (ha : a = h.objs.size) : g.get? a = none := by
  cases q : g.get? a with
  | none => rfl
  | some o => exact absurd rfl (ne_of_size (k _ _ q) ha)
theorem fr_none {g h : Heap} {L : Addr} {m : Str → Option Value} (F : Fr g L h m) : g.get? L = none := by
  cases q : g.get? L with
  | none => rfl
  | some o => exact absurd (Nat.lt_of_lt_of_le (Heap.lt_size q) F.above) (Nat.lt_irrefl _)
theorem ne_frame {g h : Heap} {L a : Addr} {m : Str → Option Value} (F : Fr g L h m) (ha : a = h.objs.size) : a ≠ L := by
  obtain ⟨o, _, _, ho, _⟩ := F.ns
  exact ne_of_size ho ha
end Mine
namespace Mine
noncomputable def CNext (prog : Program) (w : World) (A : Around) (g : Heap) (L lm a gi : Nat) (oA : Obj) (out : Nat → Option Int) (V : List Int) (s : Shared) (n : Nat) (s' : Shared) : Prop := ∃ m, m < n ∧ CState prog w A g L lm a gi oA out V s m s'
theorem cloop {prog : Program} {w : World} {A : Around} {R : Result → Shared → Prop} {target : Expr} {it : Value} {body : List Stmt} {env : Env} {s' : Shared} (g : Heap) (L lm a gi : Nat) (oA : Obj) (out : Nat → Option Int) (V : List Int) (s₀ : Shared)
    (turn : ∀ n s, CState prog w A g L lm a gi oA out V s₀ n s → wpAny (model prog w) A (pyNext it) (fun r s₁ => match r with
      | none => wpAny (model prog w) A (execs [] env) (fun f s₃ => R (.ok f) s₃) (notedBy (model prog w) A env fun e s' => R (.error e) s') s₁
      | some v => wpAny (model prog w) A (assign target env v) (fun _ s₂ => wpAny (model prog w) A (execs body env) (fun f s₃ => match f with
          | .next | .cont => CNext prog w A g L lm a gi oA out V s₀ n s₃
          | .brk => R (.ok .next) s₃
          | .ret v => R (.ok (.ret v)) s₃) (notedBy (model prog w) A env fun e s' => R (.error e) s') s₂) (notedBy (model prog w) A env fun e s' => R (.error e) s') s₁) (notedBy (model prog w) A env fun e s' => R (.error e) s') s)
    (n : Nat) (h : CState prog w A g L lm a gi oA out V s₀ n s') (ht : ∀ v, letOwnedTupleGo target it v = pure () := by intro _; rfl) : codeAny (model prog w) A (.forLoop target it body [] env) R s' :=
  codeAny_forLoop (CState prog w A g L lm a gi oA out V s₀) turn n h ht
end Mine
end
section
local macro_rules | `(tactic| omega) => `(tactic| lia)
set_option maxHeartbeats 8000000
set_option rowWalk.seconds 0
namespace Mine
namespace marks_call
noncomputable def cutQ1 : { qq : (World → (ExcName → Option Value) → (Str → Option Value) → (Str → Option Value) → Addr → Int → Int → Int → Tok → Tok → Tok → Nat → Nat → (Option (List Code)) → (List Env) → Heap → Shared → (Value → Shared → Prop) → (Value → Shared → Prop) → Heap → Addr → Heap → Prop) // (∀ (w : World) (mean : ExcName → Option Value) (mg : Str → Option Value) (mb : Str → Option Value) (lr : Addr) (r0 : Int) (r1 : Int) (r2 : Int) (t0 : Tok) (t1 : Tok) (t2 : Tok) (dp : Nat) (un : Nat) (gd : Option (List Code)) (outers : List Env) (base : Heap) (s : Shared) (Q : Value → Shared → Prop) (E : Value → Shared → Prop) (g : Heap) (L' : Addr) (h₁ : Heap), qq w mean mg mb lr r0 r1 r2 t0 t1 t2 dp un gd outers base s Q E g L' h₁) → ∀ (w : World) (mean : ExcName → Option Value) (mg mb : Str → Option Value) (lr : Addr) (r0 r1 r2 : Int) (t0 t1 t2 : Tok) (dp un : Nat) (gd : Option (List Code)) (outers : List Env) (base : Heap) (s : Shared) (Q E : Value → Shared → Prop) (B : Below (Aro dp un gd outers) base outers s.heap) (X : (hd1.heap_39 w.params).In s.heap) (T : Top hd1.view_39 (looseW hd1.view_39 []) mean mg mb s.heap) (hdp : dp + 5 < recursionLimit) (hun : un + 100 < cLine) (hl : s.heap.IsList lr [Value.int r0 t0, .int r1 t1, .int r2 t2].toArray) (hb : AllBare s.gens) (hr0 : r0 ≠ 0) (hz0 : 0 ≤ r0) (hz1 : 0 ≤ r1) (hz2 : 0 ≤ r2) (hret : ∀ l vs e h' tk' gens', Keeps s.heap h' → AllBare gens' → h'.get? l = some (W.listOf vs.toArray e) → s.heap.get? l = none → IntsAre vs (mGo (giOut [r0, r1, r2] none) 6 0 0 []) → Q (.ref l) { s with heap := h', toks := tk', gens := gens' }),
   wpAny (model Challenge.rw_re0065_01.row.prog w) (Aro dp un gd outers) (call (.ref 63) [.ref lr]) Q E s } := by
  refine ⟨?qq0, fun hP0 => ?b⟩
  case b =>
    intro w mean mg mb lr r0 r1 r2 t0 t1 t2 dp un gd outers base s Q E B X T hdp hun hl hb hr0 hz0 hz1 hz2 hret
    revert X; k_fill; intro X
    ((refine wpAny_call ?_; k_dflt (refine' enter ?k1 ?k2 ?k3 ?k6 ?k7 ?k8 ?k9 ?kB ?_ ?c2 ?c3 ?c4 ?c5; (case k1 => k_asm); (case k2 => k_asm); (case k3 => k_asm); (case k6 => k_is); (case k7 => k_is); (case k8 => ktr_room); (case k9 => exact BindsTo.of_eq rfl); (case c5 => decide); (case kB => exact locs rfl); (case c2 => exact rfl); (case c3 => exact rfl); (case c4 => exact rfl); k_whole)))
    intro g L' h₁ hg F' N' B' X' T'
    have hl' : g.IsList lr [Value.int r0 t0, .int r1 t1, .int r2 t2].toArray := by rw [hg]; exact hl
    (try dsimp only); (try k_lift B')
    (try dsimp +zetaDelta only)
    revert hl'
    revert T'
    revert X'
    revert B'
    revert N'
    revert F'
    revert hg
    revert hret
    revert hz2
    revert hz1
    revert hz0
    revert hr0
    revert hb
    revert hun
    revert hdp
    exact @hP0 w mean mg mb lr r0 r1 r2 t0 t1 t2 dp un gd outers base s Q E g L' h₁
namespace C
@[irreducible] noncomputable def cutT : World × (ExcName → Option Value) × (Str → Option Value) × (Str → Option Value) × Addr × Int × Int × Int × Tok × Tok × Tok × Nat × Nat × (Option (List Code)) × (List Env) × Heap × Shared × (Value → Shared → Prop) × (Value → Shared → Prop) × Heap × Addr × Heap := gen ⟨(Classical.choice world_ne, fun _ => none, fun _ => none, fun _ => none, 0, 0, 0, 0, 0, 0, 0, 0, 0, none, [], default, {}, fun _ _ => True, fun _ _ => True, default, 0, default)⟩ fun t => cutQ1.1 t.1 t.2.1 t.2.2.1 t.2.2.2.1 t.2.2.2.2.1 t.2.2.2.2.2.1 t.2.2.2.2.2.2.1 t.2.2.2.2.2.2.2.1 t.2.2.2.2.2.2.2.2.1 t.2.2.2.2.2.2.2.2.2.1 t.2.2.2.2.2.2.2.2.2.2.1 t.2.2.2.2.2.2.2.2.2.2.2.1 t.2.2.2.2.2.2.2.2.2.2.2.2.1 t.2.2.2.2.2.2.2.2.2.2.2.2.2.1 t.2.2.2.2.2.2.2.2.2.2.2.2.2.2.1 t.2.2.2.2.2.2.2.2.2.2.2.2.2.2.2.1 t.2.2.2.2.2.2.2.2.2.2.2.2.2.2.2.2.1 t.2.2.2.2.2.2.2.2.2.2.2.2.2.2.2.2.2.1 t.2.2.2.2.2.2.2.2.2.2.2.2.2.2.2.2.2.2.1 t.2.2.2.2.2.2.2.2.2.2.2.2.2.2.2.2.2.2.2.1 t.2.2.2.2.2.2.2.2.2.2.2.2.2.2.2.2.2.2.2.2.1 t.2.2.2.2.2.2.2.2.2.2.2.2.2.2.2.2.2.2.2.2.2
@[irreducible] noncomputable def w : World := cutT.1
@[irreducible] noncomputable def mean : ExcName → Option Value := cutT.2.1
@[irreducible] noncomputable def mg : Str → Option Value := cutT.2.2.1
@[irreducible] noncomputable def mb : Str → Option Value := cutT.2.2.2.1
@[irreducible] noncomputable def lr : Addr := cutT.2.2.2.2.1
@[irreducible] noncomputable def r0 : Int := cutT.2.2.2.2.2.1
@[irreducible] noncomputable def r1 : Int := cutT.2.2.2.2.2.2.1
@[irreducible] noncomputable def r2 : Int := cutT.2.2.2.2.2.2.2.1
@[irreducible] noncomputable def t0 : Tok := cutT.2.2.2.2.2.2.2.2.1
@[irreducible] noncomputable def t1 : Tok := cutT.2.2.2.2.2.2.2.2.2.1
@[irreducible] noncomputable def t2 : Tok := cutT.2.2.2.2.2.2.2.2.2.2.1
@[irreducible] noncomputable def dp : Nat := cutT.2.2.2.2.2.2.2.2.2.2.2.1
@[irreducible] noncomputable def un : Nat := cutT.2.2.2.2.2.2.2.2.2.2.2.2.1
@[irreducible] noncomputable def gd : Option (List Code) := cutT.2.2.2.2.2.2.2.2.2.2.2.2.2.1
@[irreducible] noncomputable def outers : List Env := cutT.2.2.2.2.2.2.2.2.2.2.2.2.2.2.1
@[irreducible] noncomputable def base : Heap := cutT.2.2.2.2.2.2.2.2.2.2.2.2.2.2.2.1
@[irreducible] noncomputable def s : Shared := cutT.2.2.2.2.2.2.2.2.2.2.2.2.2.2.2.2.1
@[irreducible] noncomputable def Q : Value → Shared → Prop := cutT.2.2.2.2.2.2.2.2.2.2.2.2.2.2.2.2.2.1
@[irreducible] noncomputable def E : Value → Shared → Prop := cutT.2.2.2.2.2.2.2.2.2.2.2.2.2.2.2.2.2.2.1
@[irreducible] noncomputable def g : Heap := cutT.2.2.2.2.2.2.2.2.2.2.2.2.2.2.2.2.2.2.2.1
@[irreducible] noncomputable def L' : Addr := cutT.2.2.2.2.2.2.2.2.2.2.2.2.2.2.2.2.2.2.2.2.1
@[irreducible] noncomputable def h₁ : Heap := cutT.2.2.2.2.2.2.2.2.2.2.2.2.2.2.2.2.2.2.2.2.2
noncomputable def cutQ2 : { qq : (Nat → Heap → Nat → Addr → Addr → Heap → Nat → Code → Obj → Str → Str → Addr → Prop) // (∀ (tk8 : Nat) (h8 : Heap) (tk : Nat) (a : Addr) (Lg : Addr) (hh : Heap) (tkg : Nat) (code : Code) (oL : Obj) (nm : Str) (qn : Str) (lm : Addr), qq tk8 h8 tk a Lg hh tkg code oL nm qn lm) → cutQ1.1 w mean mg mb lr r0 r1 r2 t0 t1 t2 dp un gd outers base s Q E g L' h₁ } := by
  refine ⟨?qq0, fun hP0 => ?b⟩
  case b =>
    delta cutQ1
    dsimp only
    intro hdp hun hb hr0 hz0 hz1 hz2 hret hg F' N' B' X' T' hl'
    (try k_fold)
    (((try k_fold); ((repeat' (first | (k_unfold; (try dsimp only)) | ((fail_if_success (with_reducible show wpAny _ _ (exec (Stmt.While _ _ _ _) _) _ _ _)); (fail_if_success (with_reducible show wpAny _ _ (exec (Stmt.For _ _ _ _ _) _) _ _ _)); (fail_if_success (with_reducible show wpAny _ _ (pyIter _) _ _ _)); ((first | walk1 | (dsimp only; walk1)); (try dsimp only))))))))
    refine wpAny_For ?_
    (((try k_fold); ((repeat' (first | (k_unfold; (try dsimp only)) | ((fail_if_success (with_reducible show wpAny _ _ (exec (Stmt.While _ _ _ _) _) _ _ _)); (fail_if_success (with_reducible show wpAny _ _ (exec (Stmt.For _ _ _ _ _) _) _ _ _)); (fail_if_success (with_reducible show wpAny _ _ (pyIter _) _ _ _)); ((first | walk1 | (dsimp only; walk1)); (try dsimp only))))))))
    (((with_reducible rename Fr _ _ _ _ => F0); (with_reducible rename News _ _ _ _ => N0)))
    refine wpAny_call (gi_call w mean mg mb g lr r0 r1 r2 t0 t1 t2 _ _ _ _ X' T' hl' hr0 _ ?hk1 ?hk2 ?hd _ ?_)
    case hk1 => exact F0.keep
    case hk2 => exact Nat.le_trans F0.above (Nat.le_of_lt F0.ns.lt)
    case hd => show dp + 1 + 3 < recursionLimit; omega
    intro a Lg hh tkg code oL nm qn hkg hoL hLg ha hbeh
    dsimp only
    have FG : Fr g L' (hh.push (genObj s.gens.size nm qn tkg)) _ := (F0.keeps hkg).push _
    have NG := News.push (F0.keeps hkg) (N0.grown hkg) (genObj s.gens.size nm qn tkg)
    obtain ⟨lm, hlm⟩ := name_led N0
    subst hlm
    have hane : a ≠ L' := ne_frame (F0.keeps hkg) ha
    have halm : a ≠ lm := ne_of_size (hkg _ _ (N0 _ (.head _)).1) ha
    have hLgn : Lg ≠ L' := ne_frame F0 hLg
    have hLgm : Lg ≠ lm := ne_of_size (N0 _ (.head _)).1 hLg
    have hLga : a ≠ Lg := ne_of_size hoL ha
    have hgLg : g.get? Lg = none := none_of_size F0.keep hLg
    have hgL : g.get? L' = none := fr_none F0
    have hga : g.get? a = none := none_of_size (Keeps.trans (h' := _) F0.keep hkg) ha
    have hglm : g.get? lm = none := (N0 _ (.head _)).2.2
    have hIG : (hh.push (genObj s.gens.size nm qn tkg)).IsGen a s.gens.size := ⟨genObj s.gens.size nm qn tkg, .str nm tkg, .str qn (tkg + 1), by rw [ha]; exact Heap.get?_push_size _ rfl, rfl, rfl, rfl⟩
    refine wpAny_pyIter_gen hIG ?_
    rename_i tk8 h8 l18
    (try dsimp +zetaDelta only)
    revert hIG
    revert hglm
    revert hga
    revert hgL
    revert hgLg
    revert hLga
    revert hLgm
    revert hLgn
    revert halm
    revert hane
    revert NG
    revert FG
    revert hbeh
    revert ha
    revert hLg
    revert hoL
    revert hkg
    revert hl'
    revert T'
    revert X'
    revert B'
    revert hg
    revert hret
    revert hz2
    revert hz1
    revert hz0
    revert hr0
    revert hb
    revert hun
    revert hdp
    exact @hP0 tk8 h8 tk a Lg hh tkg code oL nm qn lm
namespace C
@[irreducible] noncomputable def cutT : Nat × Heap × Nat × Addr × Addr × Heap × Nat × Code × Obj × Str × Str × Addr := gen ⟨(0, default, 0, 0, 0, default, 0, .func [] (default : Env), default, Str.ofString "", Str.ofString "", 0)⟩ fun t => cutQ2.1 t.1 t.2.1 t.2.2.1 t.2.2.2.1 t.2.2.2.2.1 t.2.2.2.2.2.1 t.2.2.2.2.2.2.1 t.2.2.2.2.2.2.2.1 t.2.2.2.2.2.2.2.2.1 t.2.2.2.2.2.2.2.2.2.1 t.2.2.2.2.2.2.2.2.2.2.1 t.2.2.2.2.2.2.2.2.2.2.2
@[irreducible] noncomputable def tk8 : Nat := cutT.1
@[irreducible] noncomputable def h8 : Heap := cutT.2.1
@[irreducible] noncomputable def tk : Nat := cutT.2.2.1
@[irreducible] noncomputable def a : Addr := cutT.2.2.2.1
@[irreducible] noncomputable def Lg : Addr := cutT.2.2.2.2.1
@[irreducible] noncomputable def hh : Heap := cutT.2.2.2.2.2.1
@[irreducible] noncomputable def tkg : Nat := cutT.2.2.2.2.2.2.1
@[irreducible] noncomputable def code : Code := cutT.2.2.2.2.2.2.2.1
@[irreducible] noncomputable def oL : Obj := cutT.2.2.2.2.2.2.2.2.1
@[irreducible] noncomputable def nm : Str := cutT.2.2.2.2.2.2.2.2.2.1
@[irreducible] noncomputable def qn : Str := cutT.2.2.2.2.2.2.2.2.2.2.1
@[irreducible] noncomputable def lm : Addr := cutT.2.2.2.2.2.2.2.2.2.2.2
theorem cutP2 : cutQ2.1 tk8 h8 tk a Lg hh tkg code oL nm qn lm := by
  delta cutQ2
  dsimp only
  intro hdp hun hb hr0 hz0 hz1 hz2 hret hg B' X' T' hl' hkg hoL hLg ha hbeh FG NG hane halm hLgn hLgm hLga hgLg hgL hga hglm hIG
  generalize hV : mGo (giOut [r0, r1, r2] none) 6 0 0 [] = V at *
  refine codeAny_mono (R := CDone g L' lm V s) ?loop ?fin
  case fin =>
    rintro r s' ⟨rfl, vs, e, h, tk, gens, u, rfl, hB, FZ, NZ, hI⟩
    clear FG NG
    dsimp only [kstB] at FZ
    dsimp only
    (((try k_fold); ((repeat' (first | (k_unfold; (try dsimp only)) | ((fail_if_success (with_reducible show wpAny _ _ (exec (Stmt.While _ _ _ _) _) _ _ _)); (fail_if_success (with_reducible show wpAny _ _ (exec (Stmt.For _ _ _ _ _) _) _ _ _)); (fail_if_success (with_reducible show wpAny _ _ (pyIter _) _ _ _)); ((first | walk1 | (dsimp only; walk1)); (try dsimp only))))))))
    (((with_reducible rename Fr _ _ _ _ => F0); (with_reducible rename News _ _ _ _ => N0)))
    exact hret lm vs e _ _ gens (ret_keep hg F0) hB (N0 _ (.head _)).1 (by rw [← hg]; exact hglm) hI
  case loop =>
    refine cloop g L' lm a s.gens.size (genObj s.gens.size nm qn tkg) (giOut [r0, r1, r2] none) V s ?turn 6 ?init
    case init =>
      refine ⟨0, 0, _, [], [], 0, .fresh code, [(Lg, oL)], _, _, _, _, rfl, rfl, ?_, ?_, ?_, ?_, fr_known (ps := [(Str.ofString "marks", .ref lm), (Str.ofString "place", .int 0 _)]) FG (by kst_all), ?_, .nil, by simp, by omega, by omega, fun _ => rfl, hV⟩
      · intro y hy
        rcases Array.mem_push.mp hy with q | q
        · exact hb y q
        · rw [q]; rfl
      · simp
      · intro s'' hr
        exact hbeh (dp + 1) (un + 3 + 1) gd _ [L', lm, a] (by omega) (by omega) (by
          intro b hbm
          simp only [List.mem_cons, List.not_mem_nil, or_false] at hbm
          rcases hbm with rfl | rfl | rfl
          · exact ⟨hLgn.symm, hgL⟩
          · exact ⟨hLgm.symm, hglm⟩
          · exact ⟨hLga, hga⟩) s'' hr
      · intro q hq
        rw [List.mem_singleton.mp hq]
        refine ⟨Heap.get?_push_of_some _ hoL, hgLg, ?_⟩
        simp only [List.mem_cons, List.not_mem_nil, or_false, not_or]
        exact ⟨hLgn, hLgm, hLga.symm⟩
      · intro q hq
        rcases List.mem_cons.mp hq with rfl | hq
        · exact NG _ (.tail _ (.head _))
        · rcases List.mem_cons.mp hq with rfl | hq
          · have := NG _ (.head _); rw [← ha] at this; exact this
          · rw [List.mem_singleton.mp hq]
            exact ⟨Heap.get?_push_of_some _ hoL, hLgn, hgLg⟩
    case turn =>
      rintro k s' ⟨j, p, tp, acc, vs, e, gs, ownL, h, tk, gens, u, hk, rfl, hB, hgs, hgo, hO, FT, NT, hI, hac, hjp, hp4, hp0, hV'⟩
      clear FG NG
      have hj : j ≤ 4 := by omega
      refine next_gen rfl (T'.nolimit.keeps FT.keep) ?hroom ?hIG hgs (by omega) (hgo _ (ready_of FT NT hO)) ?hY ?hP
      case hroom => show dp + 1 < recursionLimit; omega
      case hIG => exact ⟨genObj s.gens.size nm qn tkg, .str nm tkg, .str qn (tkg + 1), (NT _ (.tail _ (.head _))).1, rfl, rfl, rfl⟩
      case hP =>
        intro ho h2 tk2 hk2 hc2
        obtain ⟨F2, N2⟩ := kept_of (ownL' := []) FT NT hk2 hc2 (fun p hp => nomatch hp)
        have ej : 6 - (6 - j) = j := by omega
        rw [ej] at ho
        rw [mGo_none (by omega) ho] at hV'
        refine wpAny_execs_nil ⟨rfl, vs, e, h2, tk2, _, _, rfl, setGen_bare (s := { s with heap := h2, toks := tk2, gens := gens }) hB rfl, F2, fun p hp => N2 p ?_, hV' ▸ hI⟩
        rw [List.mem_singleton.mp hp]; exact .head _
      case hY =>
        intro x tx h2 tk2 gs' ownL' ho hbare hk2 hc2 hO2 hgo2
        obtain ⟨F2, N2⟩ := kept_of FT NT hk2 hc2 hO2
        have ej : 6 - (6 - j) = j := by omega
        rw [ej] at ho
        have hx1 := giOut_pos [r0, r1, r2] none (by intro q hq; simp at hq; rcases hq with rfl | rfl | rfl <;> assumption) (by intro y hy; cases hy) j x ho
        have hB2 : AllBare (gens.setIfInBounds s.gens.size gs') := setGen_bare (s := { s with heap := h2, toks := tk2, gens := gens }) hB hbare
        have hgs2 : (gens.setIfInBounds s.gens.size gs')[s.gens.size]? = some gs' := setGen_get (s := { s with heap := h2, toks := tk2, gens := gens }) hgs
        clear FT NT hc2 hgs hgo hO hB
        show wpAny _ _ (assign _ _ _) _ _ { s with heap := h2, toks := tk2, gens := gens.setIfInBounds s.gens.size gs' }
        generalize gens.setIfInBounds s.gens.size gs' = gens2 at *
        dsimp only [kstB] at F2
        (try k_fold)
        (((try k_fold); ((repeat' (first | (k_unfold; (try dsimp only)) | ((fail_if_success (with_reducible show wpAny _ _ (exec (Stmt.While _ _ _ _) _) _ _ _)); (fail_if_success (with_reducible show wpAny _ _ (exec (Stmt.For _ _ _ _ _) _) _ _ _)); (fail_if_success (with_reducible show wpAny _ _ (pyIter _) _ _ _)); ((first | walk1 | (dsimp only; walk1)); (try dsimp only))))))))
        · (((with_reducible rename Fr _ _ _ _ => F0); (with_reducible rename News _ _ _ _ => N0)))
          rw [mGo_stop (by omega) ho (by omega)] at hV'
          refine ⟨rfl, vs, e, _, _, gens2, _, rfl, hB2, fr_known (ps := [(Str.ofString "marks", .ref lm)]) F0 (by kst_all), fun q hq => N0 q ?_, hV' ▸ hI⟩
          rw [List.mem_singleton.mp hq]; exact .head _
        · (((with_reducible rename Fr _ _ _ _ => F0); (with_reducible rename News _ _ _ _ => N0)))
          have hlm2 : ∀ q ∈ ownL', q.1 ≠ lm := fun q hq e => (hO2 q hq).2.2 (by rw [e]; exact .tail _ (.head _))
          refine append_led (rest := (a, genObj s.gens.size nm qn tkg) :: ownL') F0 N0 (by k_mem) ?hr (by have := hI.length; rw [sizeLine_eq]; omega) ?_
          case hr =>
            intro q hq
            rcases List.mem_cons.mp hq with rfl | hq
            · exact ⟨.tail _ (.head _), halm⟩
            · exact ⟨.tail _ (.tail _ hq), hlm2 q hq⟩
          intro h3 e3 F3 N3
          clear F0 N0
          dsimp only
          (((try k_fold); ((repeat' (first | (k_unfold; (try dsimp only)) | ((fail_if_success (with_reducible show wpAny _ _ (exec (Stmt.While _ _ _ _) _) _ _ _)); (fail_if_success (with_reducible show wpAny _ _ (exec (Stmt.For _ _ _ _ _) _) _ _ _)); (fail_if_success (with_reducible show wpAny _ _ (pyIter _) _ _ _)); ((first | walk1 | (dsimp only; walk1)); (try dsimp only))))))))
          (((with_reducible rename Fr _ _ _ _ => F0); (with_reducible rename News _ _ _ _ => N0)))
          rw [mGo_go (by omega) ho (by omega)] at hV'
          refine ⟨6 - (j + 1), by omega, ⟨j + 1, p + x, _, acc ++ [p + x], vs ++ [.int (p + x) _], e3, gs', ownL', _, _, gens2, _, rfl, rfl, hB2, hgs2, ?_, ?_,
            fr_known (ps := [(Str.ofString "marks", .ref lm), (Str.ofString "place", .int (p + x) _)]) F0 (by kst_all), N0, intsAre_snoc hI _ _, ?_, by omega, by omega, by omega, hV'⟩⟩
          · have ek : 6 - j - 1 = 6 - (j + 1) := by omega
            rw [ek] at hgo2
            exact hgo2
          · intro q hq
            exact ⟨(N0 q (.tail _ (.tail _ hq))).1, (hO2 q hq).2⟩
          · simp; omega
theorem cutR2 : ∀ (tk8 : Nat) (h8 : Heap) (tk : Nat) (a : Addr) (Lg : Addr) (hh : Heap) (tkg : Nat) (code : Code) (oL : Obj) (nm : Str) (qn : Str) (lm : Addr), cutQ2.1 tk8 h8 tk a Lg hh tkg code oL nm qn lm := by
  intro tk8 h8 tk a Lg hh tkg code oL nm qn lm
  with_unfolding_all exact of_gen (P := fun t : Nat × Heap × Nat × Addr × Addr × Heap × Nat × Code × Obj × Str × Str × Addr => cutQ2.1 t.1 t.2.1 t.2.2.1 t.2.2.2.1 t.2.2.2.2.1 t.2.2.2.2.2.1 t.2.2.2.2.2.2.1 t.2.2.2.2.2.2.2.1 t.2.2.2.2.2.2.2.2.1 t.2.2.2.2.2.2.2.2.2.1 t.2.2.2.2.2.2.2.2.2.2.1 t.2.2.2.2.2.2.2.2.2.2.2) cutP2 (tk8, h8, tk, a, Lg, hh, tkg, code, oL, nm, qn, lm)
end C
theorem cutP1 : cutQ1.1 w mean mg mb lr r0 r1 r2 t0 t1 t2 dp un gd outers base s Q E g L' h₁ := cutQ2.2 C.cutR2
theorem cutR1 : ∀ (w : World) (mean : ExcName → Option Value) (mg : Str → Option Value) (mb : Str → Option Value) (lr : Addr) (r0 : Int) (r1 : Int) (r2 : Int) (t0 : Tok) (t1 : Tok) (t2 : Tok) (dp : Nat) (un : Nat) (gd : Option (List Code)) (outers : List Env) (base : Heap) (s : Shared) (Q : Value → Shared → Prop) (E : Value → Shared → Prop) (g : Heap) (L' : Addr) (h₁ : Heap), cutQ1.1 w mean mg mb lr r0 r1 r2 t0 t1 t2 dp un gd outers base s Q E g L' h₁ := by
  intro w mean mg mb lr r0 r1 r2 t0 t1 t2 dp un gd outers base s Q E g L' h₁
  with_unfolding_all exact of_gen (P := fun t : World × (ExcName → Option Value) × (Str → Option Value) × (Str → Option Value) × Addr × Int × Int × Int × Tok × Tok × Tok × Nat × Nat × (Option (List Code)) × (List Env) × Heap × Shared × (Value → Shared → Prop) × (Value → Shared → Prop) × Heap × Addr × Heap => cutQ1.1 t.1 t.2.1 t.2.2.1 t.2.2.2.1 t.2.2.2.2.1 t.2.2.2.2.2.1 t.2.2.2.2.2.2.1 t.2.2.2.2.2.2.2.1 t.2.2.2.2.2.2.2.2.1 t.2.2.2.2.2.2.2.2.2.1 t.2.2.2.2.2.2.2.2.2.2.1 t.2.2.2.2.2.2.2.2.2.2.2.1 t.2.2.2.2.2.2.2.2.2.2.2.2.1 t.2.2.2.2.2.2.2.2.2.2.2.2.2.1 t.2.2.2.2.2.2.2.2.2.2.2.2.2.2.1 t.2.2.2.2.2.2.2.2.2.2.2.2.2.2.2.1 t.2.2.2.2.2.2.2.2.2.2.2.2.2.2.2.2.1 t.2.2.2.2.2.2.2.2.2.2.2.2.2.2.2.2.2.1 t.2.2.2.2.2.2.2.2.2.2.2.2.2.2.2.2.2.2.1 t.2.2.2.2.2.2.2.2.2.2.2.2.2.2.2.2.2.2.2.1 t.2.2.2.2.2.2.2.2.2.2.2.2.2.2.2.2.2.2.2.2.1 t.2.2.2.2.2.2.2.2.2.2.2.2.2.2.2.2.2.2.2.2.2) cutP1 (w, mean, mg, mb, lr, r0, r1, r2, t0, t1, t2, dp, un, gd, outers, base, s, Q, E, g, L', h₁)
end C
end marks_call
theorem marks_call (w : World) (mean : ExcName → Option Value) (mg mb : Str → Option Value) (lr : Addr) (r0 r1 r2 : Int) (t0 t1 t2 : Tok) (dp un : Nat) (gd : Option (List Code)) (outers : List Env) (base : Heap) (s : Shared) (Q E : Value → Shared → Prop)
    (B : Below (Aro dp un gd outers) base outers s.heap) (X : (hd1.heap_39 w.params).In s.heap) (T : Top hd1.view_39 (looseW hd1.view_39 []) mean mg mb s.heap)
    (hdp : dp + 5 < recursionLimit) (hun : un + 100 < cLine) (hl : s.heap.IsList lr [Value.int r0 t0, .int r1 t1, .int r2 t2].toArray) (hb : AllBare s.gens) (hr0 : r0 ≠ 0) (hz0 : 0 ≤ r0) (hz1 : 0 ≤ r1) (hz2 : 0 ≤ r2)
    (hret : ∀ l vs e h' tk' gens', Keeps s.heap h' → AllBare gens' → h'.get? l = some (W.listOf vs.toArray e) → s.heap.get? l = none → IntsAre vs (mGo (giOut [r0, r1, r2] none) 6 0 0 []) → Q (.ref l) { s with heap := h', toks := tk', gens := gens' }) :
    wpAny (model Challenge.rw_re0065_01.row.prog w) (Aro dp un gd outers) (call (.ref 63) [.ref lr]) Q E s :=
  marks_call.cutQ1.2 marks_call.C.cutR1 w mean mg mb lr r0 r1 r2 t0 t1 t2 dp un gd outers base s Q E B X T hdp hun hl hb hr0 hz0 hz1 hz2 hret
end Mine
end
section
namespace Mine
section
variable {M : Model} {A : Around} {E : Value → Shared → Prop} {s : Shared}
theorem noteFirst {base : Heap} {env : Env} {outer : List Env} {L e : Addr} {oe : Obj} {vs : Array Value} {a0 : Value} {Q : Unit → Shared → Prop}
    (hfr : A.frames = some (env :: outer)) (hl : s.heap.FunFrames base (env :: outer)) (hf : env.frame = some L)
    (he : s.heap.get? e = some oe) (hkb : base.StaysIn s.heap) (hen : base.get? e = none) (hd : oe.data = .fields vs) (h1 : vs[1]? = some .none) (h0 : vs[0]? = some a0)
    (hQ : ∀ h', Heap.HeldW base (env :: outer) e oe.cls a0 L h' → s.heap.UpToSlots h' → Q () { s with heap := h' }) : wpAny M A (noteFrame (.ref e) env) Q E s := by
  unfold noteFrame
  simp only [hf]
  refine wpAny_bind (wpAny_field he hd h1 ?_)
  rw [if_neg (by decide)]
  refine wpAny_entryW hfr hl hf he hkb hen hd (Array.getElem?_eq_some_iff.mp h1).1 h0 fun h' hN => ?_
  obtain ⟨k1, k2, k3, k4⟩ := hN
  exact hQ h' ⟨k1, hen, k2, k3⟩ k4
theorem backW {base : Heap} {l : List Env} {e L : Addr} {cls a0 : Value} {env : Env} {Q : Unit → Shared → Prop} (hf : env.frame = some L) (hh : Heap.HeldW base l e cls a0 L s.heap)
    (hQ : ∀ h', Heap.HeldW base l e cls a0 L h' → s.heap.UpToSlots h' → Q () { s with heap := h' }) :
    wpAny M A (do
        if (← field (.ref e) 1) == Value.none then unsupported "frame.own-activation:exception-without-traceback"
        setFlight (.ref e) env.frame) Q E s := by
  obtain ⟨hkb, hen, hl, ht⟩ := hh
  obtain ⟨oe, vs, T, oT, ts, he, hcls, hd, h1, hnT, hTe, hT, hdT, h3⟩ := ht
  have hsz3 : 3 < ts.size := (Array.getElem?_eq_some_iff.mp h3).1
  have other : ∀ b, b ≠ T → (s.heap.update T (Obj.mapFields (·.setIfInBounds 3 ((some L : Option Addr).elim Value.none fun f => rawInt f)))).get? b = s.heap.get? b :=
    fun b hb => Heap.get?_update_other _ _ (Ne.symm hb)
  have noRecord : ∀ b o, s.heap.get? b = some o → (∀ vs, o.data ≠ .fields vs) → b ≠ T := fun b o hb hnf q => by
    rw [q, hT] at hb; injection hb with hb; subst hb; exact hnf ts hdT
  refine wpAny_bind (wpAny_field he hd h1 ?_)
  rw [if_neg (show ¬ ((Value.ref T == Value.none) = true) from by simp)]
  rw [hf]
  unfold setFlight
  refine wpAny_bind (wpAny_field he hd h1 ?_)
  rw [if_pos (show (Value.ref T != Value.none) = true from by simp)]
  refine wpAny_setField hT hdT hsz3 (hQ _ ⟨fun b o hbo => (other b fun q => by rw [q, hnT] at hbo; cases hbo).trans (hkb b o hbo), hen,
    hl.of_keeps fun b o hb hnf => ⟨o, (other b (noRecord b o hb hnf)).trans hb, rfl⟩, ?_⟩ fun b o hb hnf => ⟨o.slots, (other b (noRecord b o hb hnf)).trans hb⟩)
  exact ⟨oe, vs, T, _, _, (other e (Ne.symm hTe)).trans he, hcls, hd, h1, hnT, hTe, Heap.get?_update_self _ hT (Obj.isFreed_of_fields (Obj.data_mapFields hdT _)), Obj.data_mapFields hdT _, by simp [hsz3]⟩
theorem leaveHeld {base : Heap} {env : Env} {outer : List Env} {L e : Addr} {cls a0 : Value} {Q : Unit → Shared → Prop} (hf : env.frame = some L)
    (hh : Heap.HeldW base (env :: outer) e cls a0 L s.heap) (hQ : ∀ h', Heap.FlyingW base outer e cls a0 h' → s.heap.UpToSlots h' → Q () { s with heap := h' }) : wpAny M A (leaving env (.ref e)) Q E s := by
  unfold leaving
  refine wpAny_bind (wpAny_noteFrame_againW hf hh.2.2.2 ?_)
  refine wpAny_landsW hh fun h' hfl hsm => ?_
  obtain ⟨k1, k2, ⟨_, _, k3⟩, k4⟩ := hfl
  exact hQ h' ⟨k1, k2, k3, k4⟩ hsm
end
section
variable {M : Model} {A : Around} {R : GenEnd} {Y : Protocol} {n : Nat} {s₀ s : Shared} {c c₁ : Code} {env : Env} {K : Flow → Sem Fin} {gd : Bool → Bool} {lv : List Value → List Value} {h1 : Option Value} {g1 : Bool} {l1 : List Value} {p1 : Pos} {kp : List Value}
theorem seg_gen_raise {base : Heap} {outer : List Env} {L e : Addr} {oe : Obj} {vs : Array Value} {a0 : Value}
    (hfr : (A.over c [.ret (fun r => (ownBack env r).wrap K (fun x => (leaving env x).wrap (fun _ => .raise x) .raise id id) gd lv) h1 g1 l1 c₁ p1 kp]).frames = some (env :: outer)) (hl : s.heap.FunFrames base (env :: outer)) (hf : env.frame = some L)
    (he : s.heap.get? e = some oe) (hkb : base.StaysIn s.heap) (hen : base.get? e = none) (hd : oe.data = .fields vs) (hv1 : vs[1]? = some .none) (hv0 : vs[0]? = some a0)
    (hQ : ∀ h', Heap.FlyingW base outer e oe.cls a0 h' → s.heap.UpToSlots h' → R n s₀ (.error (.ref e)) { s with heap := h' }) :
    Seg M A R Y n s₀ c (noted env (.ref e)) [.ret (fun r => (ownBack env r).wrap K (fun x => (leaving env x).wrap (fun _ => .raise x) .raise id id) gd lv) h1 g1 l1 c₁ p1 kp] s := by
  unfold noted
  refine seg_wrap (wpAny_bind (noteFirst hfr hl hf he hkb hen hd hv1 hv0 fun h₁ hheld hsm₁ => wpAny_theTreesLotGoes ?_))
  refine seg_leaf (.error (.ref e)) ?_
  refine seg_wrap ?_
  unfold ownBack
  refine wpAny_onRaise (wpAny_throw ?_)
  refine backW hf hheld fun h₂ hheld₂ hsm₂ => ?_
  refine seg_wrap (leaveHeld hf hheld₂ fun h₃ hfl hsm₃ => ?_)
  exact seg_end (.error (.ref e)) (hQ h₃ hfl ((hsm₁.trans hsm₂).trans hsm₃))
end
end Mine
namespace Mine
theorem funFrames_move {h h' base : Heap} : ∀ {l : List Env}, h.FunFrames base l → (∀ env ∈ l, ∀ a, env.frame = some a → ∀ o, h.get? a = some o → h'.get? a = some o) → h'.FunFrames base l
  | [], _, _ => trivial
  | env :: _, ⟨hk, ⟨L, o, hf, hn, ho, hd⟩, hr⟩, hm => ⟨hk, ⟨L, o, hf, hn, hm env (.head _) L hf o ho, hd⟩, funFrames_move hr fun e he => hm e (.tail _ he)⟩
noncomputable def GEnd0 (Lg : Addr) (outers : List Env) : GenEnd := fun _ s₀ r s =>
  ∃ e a0 h tk, r = .error (.ref e) ∧ s = { s₀ with heap := h, toks := tk } ∧ Heap.FlyingW (hideAll s₀.heap (Lg :: outers.filterMap (·.frame))) outers e (.type "ValueError") a0 h ∧
    ∀ b o, b ≠ Lg → s₀.heap.get? b = some o → (∀ vs, o.data ≠ .fields vs) → ∃ sl, h.get? b = some { o with slots := sl }
noncomputable def GBeh0 (prog : Program) (w : World) (g : Heap) (Lg : Addr) (oL : Obj) (code : Code) : Prop :=
  ∀ (dp un : Nat) (gd : Option (List Code)) (outers : List Env) (cs : List Addr) (b0 : Heap), dp + 3 < recursionLimit → un + 60 < cLine → (∀ b ∈ cs, b ≠ Lg ∧ g.get? b = none) → ∀ s₁ : Shared, GReady g cs [(Lg, oL)] s₁.heap →
    s₁.heap.FunFrames b0 outers → (∀ env ∈ outers, env.frame ≠ some Lg) → (∀ b o, s₁.heap.get? b = some o → b = Lg ∨ b ∈ cs ∨ ∃ o', g.get? b = some o') →
    (GenState.fresh code).Goes (model prog w) (Aro dp un gd outers) (GEnd0 Lg outers) (fun _ _ _ _ _ => False) 1 (.send .none) s₁
theorem gen_raise_end {M : Model} {A : Around} {Y : Protocol} {n : Nat} {s₀ s : Shared} {c c₁ : Code} {env : Env} {K : Flow → Sem Fin} {gd : Bool → Bool} {lv : List Value → List Value} {h1 : Option Value} {g1 : Bool} {l1 : List Value} {p1 : Pos} {kp : List Value}
    {outer : List Env} {L e : Addr} {g hA b0 : Heap} {m : Str → Option Value} {cs : List Addr}
    (hfr : (A.over c [.ret (fun r => (ownBack env r).wrap K (fun x => (leaving env x).wrap (fun _ => .raise x) .raise id id) gd lv) h1 g1 l1 c₁ p1 kp]).frames = some (env :: outer))
    (hf : env.frame = some L) (hke : env.scope.kind = .function) (F : Fr g L hA m) (hx : Heap.NewExc hA s.heap e "ValueError") (hFF : s₀.heap.FunFrames b0 outer)
    (hg0 : Keeps g s₀.heap) (hcov : ∀ b o, s₀.heap.get? b = some o → b = L ∨ b ∈ cs ∨ ∃ o', g.get? b = some o') (hcs : ∀ b ∈ cs, ∀ o, s₀.heap.get? b = some o → hA.get? b = some o) (hLn : ∀ env ∈ outer, env.frame ≠ some L)
    {tk : Nat} (hs : s = { s₀ with heap := s.heap, toks := tk }) :
    Seg M A (GEnd0 L outer) Y n s₀ c (noted env (.ref e)) [.ret (fun r => (ownBack env r).wrap K (fun x => (leaving env x).wrap (fun _ => .raise x) .raise id id) gd lv) h1 g1 l1 c₁ p1 kp] s := by
  have hkeep : ∀ b o, b ≠ L → s₀.heap.get? b = some o → hA.get? b = some o := by
    intro b o hb hbo
    rcases hcov b o hbo with q | q | ⟨o', q⟩
    · exact absurd q hb
    · exact hcs b q o hbo
    · have := hg0 _ _ q
      rw [hbo] at this
      rw [Option.some.inj this]
      exact F.keep _ _ q
  obtain ⟨oe, a0, he, hcls, hd⟩ := hx.there
  have hkb : (hideAll s₀.heap (L :: outer.filterMap (·.frame))).StaysIn hA := fun b o q => by
    have hb := of_hideAll _ q
    refine hkeep b o (fun z => ?_) hb
    rw [z, hideAll_none _ (.head _)] at q
    cases q
  have hen : (hideAll s₀.heap (L :: outer.filterMap (·.frame))).get? e = none := fresh_of_stays hkb hx.new
  have hFF1 : s.heap.FunFrames (hideAll s₀.heap (L :: outer.filterMap (·.frame))) (env :: outer) := by
    refine .cons (by rw [hke]; decide) hf (F.ns.at fun o e => hx.keeps _ o e) (hideAll_none _ (.head _)) ?_
    have := funFrames_hide (as := L :: outer.filterMap (·.frame)) hFF fun env he a ha => .tail _ (List.mem_filterMap.mpr ⟨env, he, ha⟩)
    exact funFrames_move this fun env he a ha o ho => hx.keeps _ _ (hkeep a o (fun z => hLn env he (z ▸ ha)) ho)
  refine seg_gen_raise (base := hideAll s₀.heap (L :: outer.filterMap (·.frame))) hfr hFF1 hf he (fun b o q => hx.keeps _ _ (hkb b o q)) hen hd rfl rfl fun h' hfl hsm => ?_
  rw [hcls] at hfl
  refine ⟨e, a0, h', tk, rfl, by rw [hs], hfl, fun b o hb hbo hn => hsm b o (hx.keeps _ _ (hkeep b o hb hbo)) hn⟩
end Mine
end
section
namespace Mine
theorem isSub_VE_stop : isSubtype (.type "ValueError") (.type "StopIteration") = pure false := by rw [isSubtype_type]; kernel_rfl
section
variable {prog : Program} {w : World} {A : Around} {E : Value → Shared → Prop} {s : Shared}
theorem next_gen0 {a gi Lg : Nat} {gs : GenState} {oA : Obj} {outers : List Env} {nm qn : Value} {Q : Option Value → Shared → Prop}
    (hfr : A.frames = some outers) (hl : s.heap.NoLimit) (hroom : A.depth < recursionLimit) (hoA : s.heap.get? a = some oA) (hcA : oA.cls = .type "generator") (hdA : oA.data = .fields #[.int gi 0, nm, qn]) (hsA : oA.slots = #[]) (hgs : s.gens[gi]? = some gs)
    (haf : a ∉ Lg :: outers.filterMap (·.frame))
    (hgo : gs.Goes (model prog w) A.in1 (GEnd0 Lg outers) (fun _ _ _ _ _ => False) 1 (.send .none) (s.setGen gi .running))
    (hE : ∀ e a0 h tk, Heap.FlyingW (hideAll s.heap (Lg :: outers.filterMap (·.frame))) outers e (.type "ValueError") a0 h → (∀ b o, b ≠ Lg → s.heap.get? b = some o → (∀ vs, o.data ≠ .fields vs) → ∃ sl, h.get? b = some { o with slots := sl }) →
      E (.ref e) (Shared.setGen { s with heap := h, toks := tk } gi .finished)) :
    wpAny (model prog w) A (pyNext (.ref a)) Q E s := by
  have hg : s.heap.IsGen a gi := ⟨oA, nm, qn, hoA, hcA, hdA, hsA⟩
  unfold pyNext
  refine wpAny_bind (wpAny_attempt (wpAny_callSpecial?_slot (name := Str.ofString "__next__") hg.typeIs slot_gen_next
    (wpAny_call_entry slot_gen_next hg.typeIs entry_gen_next ?_ (args_gen_next _))))
  show wpAny _ A.in1 (Builtin.Generator.genWake (.ref a) (.send .none)) _ _ s
  unfold Builtin.Generator.genWake
  refine wpAny_bind (wpAny_holding (wpAny_genNumber hg (wpAny_bind (wpAny_genState hgs ?_))))
  cases gs with
  | running => exact hgo.elim
  | finished => exact hgo.elim
  | _ =>
    refine wpAny_bind (wpAny_roomToWake hl hroom ?_)
    show wpAny _ A.in1 (.resume gi (.send .none) [] _) _ _ s
    refine wpAny_resumeQ hgs hgo (fun x s₁ hx => ?_) (fun v s₁ gs' hb hv => hv.elim)
    obtain ⟨e, a0, h, tk, rfl, rfl, hfl, hup⟩ := hx
    show wpAny _ A.in1 (Builtin.Generator.genLeft (.ref a) (.ref e)) _ _ _
    have hoA' : h.get? a = some oA := hfl.1 a oA (hideAll_get _ hoA haf)
    obtain ⟨ob, hob, hobc⟩ := hfl.there
    unfold Builtin.Generator.genLeft Builtin.Generator.madeByALambda
    refine wpAny_bind (wpAny_bind (wpAny_load hoA' ?_))
    refine wpAny_pure ?_
    rw [hdA]
    refine wpAny_bind (wpAny_isInstance (T := "ValueError") (b := false) ⟨ob, hob, hobc⟩ isSub_VE_stop ?_)
    rw [Bool.and_false, if_neg (by decide)]
    unfold Builtin.Generator.genEscaped
    refine wpAny_bind (wpAny_isInstance (T := "ValueError") (b := false) ⟨ob, hob, hobc⟩ isSub_VE_stop ?_)
    rw [if_pos (by decide)]
    refine wpAny_throw ?_
    refine wpAny_bind (wpAny_isInstance (T := "ValueError") (b := false) ⟨ob, hob, hobc⟩ isSub_VE_stop ?_)
    rw [if_neg (by decide)]
    refine wpAny_throw ?_
    exact Eq.mpr (congrArg (E (.ref e)) (st_eq s gi .running .finished h tk)) (hE e a0 h tk hfl hup)
end
end Mine
namespace Mine
section
variable {prog : Program} {w : World} {A : Around} {E : Value → Shared → Prop} {s' : Shared} {h₀ B : Heap} {outer : List Env} {L a e : Addr} {m : Str → Option Value} {name : Str} {scope : Scope} {cd : Value}
  {b₀ : Stmt} {suite : List Stmt} {pos np : Pos} {rest : List ExceptHandler} {Q : Flow → Shared → Prop}
  {p : Program} {loose : List Str} {mean : ExcName → Option Value} {mg mb : Str → Option Value} {x : Str} {X T' : String} {a0 : Value}
theorem caught_mine (hheld : Heap.HeldW B (envOf name scope L a cd :: outer) e (.type X) a0 L s'.heap) (F : ∀ h', B.StaysIn h' → s'.heap.UpToSlots h' → Fr h₀ L h' m)
    (T : TopRead p loose mg mb h₀) (hv : bootBuiltins x = some (.type T'))
    (hexc : isSubtype (.type T') (.type "BaseException") = pure true) (hnt : isSubtype (.type ((Manifest.find? T').elim "type" fun y => y.metatype)) (.type "tuple") = pure false) (hsub : isSubtype (.type X) (.type T') = pure true)
    (k : ∀ h', B.StaysIn h' → s'.heap.UpToSlots h' → Fr h₀ L h' m →
      wpAny (model prog w) (A.mark (some (.ref e))) (execs (b₀ :: suite) (envOf name scope L a cd)) Q E { s' with heap := h' })
    (h1 : x ∉ startupNames := by decide +kernel) (h2 : x ∉ loose := by decide +kernel) (h3 : x ∉ (recsOf p).map (·.name) := by decide +kernel) (h4 : x ∉ (litsOf p).map (·.1) := by decide +kernel) (h4c : x ∉ (clssOf p loose).map (·.name) := by decide +kernel) (hn : x ≠ "__name__" := by decide +kernel)
    (hk : scope.kind = .function := by rfl) (hx : (envOf name scope L a cd).kindOf x = some .globalImplicit := by rfl) (hd : (x == ("__debug__" : Str)) = false := by decide)
    (hE : PassesOwnAt (model prog w) (A.mark (some (.ref e))) A (envOf name scope L a cd) E := by passes_own) :
    wpAny (model prog w) A (noteFrame (.ref e) (envOf name scope L a cd))
      (fun _ s₂ => wpAny (model prog w) A (setFlight (.ref e) none) (fun _ s₃ =>
        wpAny (model prog w) A (handleBy (.ref e) (envOf name scope L a cd) (.ExceptHandler (some (.Name x np)) none (b₀ :: suite) pos :: rest)) Q E s₃) E s₂) E s' := by
  refine wpAny_noteFrame_againW rfl hheld.2.2.2 ?_
  refine wpAny_landsW hheld fun h₅ hfl hsm₅ => ?_
  have F₅ := F h₅ hfl.1 hsm₅
  obtain ⟨ob, hob, hobc⟩ := hfl.there
  refine wpAny_handleBy_builtin (X := X) (T := T') (b := true) hexc hnt hsub (ld_builtin_at F₅ T.g (T.free x h1 h2 h3 h4 h4c) T.b ((T.builtins x hn).trans hv) ⟨rfl, ⟨ob, hob, hobc⟩, ?_⟩ hk hx hd)
  refine lands_againW hfl fun h₆ hfl₆ hsm₆ => ?_
  exact wpAny_passesOwnAt hE (k h₆ hfl₆.1 (hsm₅.trans hsm₆) (F h₆ hfl₆.1 (hsm₅.trans hsm₆)))
end
end Mine
namespace Mine
noncomputable def coverL (g h : Heap) (Lg : Addr) : List Addr := (List.range h.objs.size).filter fun b => decide (b ≠ Lg) && ((g.get? b).isNone && (h.get? b).isSome)
theorem cover_in {g h : Heap} {Lg : Addr} : ∀ b ∈ coverL g h Lg, (b ≠ Lg ∧ g.get? b = none) ∧ ∃ o, h.get? b = some o := by
  intro b hb
  have := (List.mem_filter.mp hb).2
  simp only [Bool.and_eq_true, decide_eq_true_eq, Option.isNone_iff_eq_none, Option.isSome_iff_exists] at this
  exact ⟨⟨this.1, this.2.1⟩, this.2.2⟩
theorem cover_all {g h : Heap} {Lg : Addr} : ∀ b o, h.get? b = some o → b = Lg ∨ b ∈ coverL g h Lg ∨ ∃ o', g.get? b = some o' := by
  intro b o hb
  by_cases h1 : b = Lg
  · exact .inl h1
  · cases h2 : g.get? b with
    | some o' => exact .inr (.inr ⟨o', rfl⟩)
    | none =>
      refine .inr (.inl (List.mem_filter.mpr ⟨List.mem_range.mpr (Heap.lt_size hb), ?_⟩))
      simp [h1, h2, hb]
theorem frames_there {h base : Heap} : ∀ {l : List Env}, h.FunFrames base l → ∀ a ∈ l.filterMap (·.frame), ∃ o, h.get? a = some o := fun hl a ha => by
  obtain ⟨_, o, ho, _⟩ := hl.mem ha
  exact ⟨o, ho⟩
end Mine
namespace Mine
theorem stays_after {g H : Heap} {L' Lg : Addr} {fr : List Addr} (hk : Keeps g H) (hgLg : g.get? Lg = none) (hgL : g.get? L' = none) : ∀ h', Heap.StaysIn (hideAll H (Lg :: L' :: fr)) h' → (hideAll g fr).StaysIn h' := by
  intro h' hs b o q
  have qg := of_hideAll _ q
  refine hs b o (hideAll_get _ (hk b o qg) fun z => ?_)
  rcases List.mem_cons.mp z with z | z
  · rw [z, hgLg] at qg; cases qg
  · rcases List.mem_cons.mp z with z | z
    · rw [z, hgL] at qg; cases qg
    · rw [hideAll_none _ z] at q; cases q
theorem fr_after {g H h3 : Heap} {L' Lg : Addr} {fr : List Addr} {m : Str → Option Value} (FG : Fr g L' H m) (hgLg : g.get? Lg = none) (hgL : g.get? L' = none) (hne : Lg ≠ L')
    (hup : ∀ b o, b ≠ Lg → H.get? b = some o → (∀ vs, o.data ≠ .fields vs) → ∃ sl, h3.get? b = some { o with slots := sl }) :
    ∀ h', Heap.StaysIn (hideAll H (Lg :: L' :: fr)) h' → h3.UpToSlots h' → Fr (hideAll g fr) L' h' m := by
  intro h' hs hu
  refine ⟨?_, stays_after FG.keep hgLg hgL h' hs, by rw [hideAll_size]; exact FG.above⟩
  obtain ⟨o, es, ep, ho, hd, r⟩ := FG.ns
  obtain ⟨sl, hs3⟩ := hup L' o hne.symm ho fun vs q => by rw [hd] at q; cases q
  exact hu.ns ⟨_, es, ep, hs3, hd, r⟩
end Mine
end
section
set_option maxHeartbeats 8000000
set_option rowWalk.seconds 0
namespace Mine
theorem gi_call0 (w : World) (mean : ExcName → Option Value) (mg mb : Str → Option Value) (g : Heap) (lr : Addr) (r0 r1 r2 : Int) (t0 t1 t2 : Tok) (dp un : Nat) (gd : Option (List Code)) (outers : List Env)
    (X : (hd1.heap_39 w.params).In g) (T : Top hd1.view_39 (looseW hd1.view_39 []) mean mg mb g) (hl : g.IsList lr [Value.int r0 t0, .int r1 t1, .int r2 t2].toArray) (hr0 : r0 = 0)
    (s : Shared) (hk0 : Keeps g s.heap) (hsz : g.objs.size ≤ s.heap.objs.size) (hdp : dp + 3 < recursionLimit)
    (R : Result → Shared → Prop)
    (hR : ∀ a Lg h₁ tk code oL nm qn, Keeps s.heap h₁ → h₁.get? Lg = some oL → Lg = s.heap.objs.size → a = h₁.objs.size → GBeh0 Challenge.rw_re0065_01.row.prog w g Lg oL code →
      R (.ok (.ret (.ref a))) { s with heap := h₁.push (genObj s.gens.size nm qn tk), toks := tk + 1 + 1, gens := s.gens.push (.fresh code) }) :
    codeAny (model Challenge.rw_re0065_01.row.prog w) (Aro dp un gd outers) (.call (.ref 28) ⟨[.ref lr], []⟩) R s := by
  revert X; k_fill; intro X
  have X1 : (hd1.heap_39 w.params).In s.heap := X.keeps hk0
  have T1 : Top hd1.view_39 (looseW hd1.view_39 []) mean mg mb s.heap := T.keeps hk0
  k_dflt (refine' enterG ?k2 ?k3 ?k6 ?k7 ?k8 ?k9 ?kB ?_ ?c2 ?c3 ?c4 ?c5; (case k2 => k_asm); (case k3 => k_asm); (case k6 => k_is); (case k7 => k_is); (case k8 => (show dp < recursionLimit; omega)); (case k9 => exact BindsTo.of_eq rfl); (case c5 => decide); (case kB => exact locs rfl); (case c2 => exact rfl); (case c3 => exact rfl); (case c4 => exact rfl); k_whole)
  intro L' h₁ tk hL hns hk
  obtain ⟨oL, es, ep, hoL, hdL, hkL, hfL⟩ := id hns
  refine hR _ L' h₁ tk _ oL _ _ hk hoL hL rfl ?_
  intro dp' un' gd' outers' cs b0 hdp' hun' hcs s₁ hready hFF hLn hcov
  obtain ⟨hr1, hr2, hr3⟩ := hready
  refine ⟨rfl, ?_⟩
  obtain ⟨consL, NC, hcsL⟩ := cons_of (g := g) (L := L') cs hr3 hcs
  have hLs : s₁.heap.get? L' = some oL := hr1 _ (.head _)
  have F' : Fr g L' s₁.heap _ := ⟨⟨oL, es, ep, hLs, hdL, hkL, hfL⟩, hr2, by omega⟩
  have N' := NC
  replace NC : Hid (News g L' s₁.heap consL) := NC
  clear X1 T1 hR hns hfL hkL hdL
  dsimp only at F'
  refine seg_func ?_
  refine seg_execs_cons (seg_stmt ?_)
  (((try k_fold); ((repeat' (first | (k_unfold; (try dsimp only)) | ((fail_if_success (with_reducible show wpAny _ _ (exec (Stmt.While _ _ _ _) _) _ _ _)); (fail_if_success (with_reducible show wpAny _ _ (exec (Stmt.For _ _ _ _ _) _) _ _ _)); (fail_if_success (with_reducible show wpAny _ _ (pyIter _) _ _ _)); ((first | walk1 | (dsimp only; walk1)); (try dsimp only))))))))
  refine seg_execs_cons (seg_For ?_)
  (((try k_fold); ((repeat' (first | (k_unfold; (try dsimp only)) | ((fail_if_success (with_reducible show wpAny _ _ (exec (Stmt.While _ _ _ _) _) _ _ _)); (fail_if_success (with_reducible show wpAny _ _ (exec (Stmt.For _ _ _ _ _) _) _ _ _)); (fail_if_success (with_reducible show wpAny _ _ (pyIter _) _ _ _)); ((first | walk1 | (dsimp only; walk1)); (try dsimp only))))))))
  (((with_reducible rename Fr _ _ _ _ => F0); (with_reducible rename News _ _ _ _ => N0)))
  have hls := hl.at fun o e => F0.keep lr o e
  refine wpAny_pyIter_list hls ?_
  intro pp lv'
  have hneI : ∀ p ∈ consL, p.1 ≠ _ := fun p hp e => absurd (Heap.lt_size (N0 p hp).1) (e ▸ Nat.lt_irrefl _)
  have N1 := News.push F0 N0 { cls := .type "list_iterator", data := .fields #[.ref lr, .int 0 0] }
  have F1 := F0.push { cls := .type "list_iterator", data := .fields #[.ref lr, .int 0 0] }
  clear F0 N0 hls
  have hIt : IterO { cls := .type "list_iterator", data := .fields #[.ref lr, .int 0 0] } lr 0 := ⟨rfl, rfl⟩
  refine seg_forLoop ?_
  refine nextItem_led F1 N1 hneI hIt hl rfl ?_
  intro h2 oIt2 hIt2 F2 N2
  clear F1 N1 hIt
  dsimp only
  (((try k_fold); ((repeat' (first | (k_unfold; (try dsimp only)) | ((fail_if_success (with_reducible show wpAny _ _ (exec (Stmt.While _ _ _ _) _) _ _ _)); (fail_if_success (with_reducible show wpAny _ _ (exec (Stmt.For _ _ _ _ _) _) _ _ _)); (fail_if_success (with_reducible show wpAny _ _ (pyIter _) _ _ _)); ((first | walk1 | (dsimp only; walk1)); (try dsimp only))))))))
  refine seg_execs_cons (seg_If ?_)
  (((try k_fold); ((repeat' (first | (k_unfold; (try dsimp only)) | ((fail_if_success (with_reducible show wpAny _ _ (exec (Stmt.While _ _ _ _) _) _ _ _)); (fail_if_success (with_reducible show wpAny _ _ (exec (Stmt.For _ _ _ _ _) _) _ _ _)); (fail_if_success (with_reducible show wpAny _ _ (pyIter _) _ _ _)); ((first | walk1 | (dsimp only; walk1)); (try dsimp only))))))))
  · refine seg_execs_cons (seg_stmt ?_)
    (((try k_fold); ((repeat' (first | (k_unfold; (try dsimp only)) | ((fail_if_success (with_reducible show wpAny _ _ (exec (Stmt.While _ _ _ _) _) _ _ _)); (fail_if_success (with_reducible show wpAny _ _ (exec (Stmt.For _ _ _ _ _) _) _ _ _)); (fail_if_success (with_reducible show wpAny _ _ (pyIter _) _ _ _)); ((first | walk1 | (dsimp only; walk1)); (try dsimp only))))))))
    (((with_reducible rename Fr _ _ _ _ => F0); (with_reducible rename News _ _ _ _ => N0)))
    omega
  · refine seg_execs_nil ?_
    dsimp only
    refine seg_execs_cons (seg_If ?_)
    (((try k_fold); ((repeat' (first | (k_unfold; (try dsimp only)) | ((fail_if_success (with_reducible show wpAny _ _ (exec (Stmt.While _ _ _ _) _) _ _ _)); (fail_if_success (with_reducible show wpAny _ _ (exec (Stmt.For _ _ _ _ _) _) _ _ _)); (fail_if_success (with_reducible show wpAny _ _ (pyIter _) _ _ _)); ((first | walk1 | (dsimp only; walk1)); (try dsimp only))))))))
    · refine seg_execs_cons (seg_If ?_)
      (((try k_fold); ((repeat' (first | (k_unfold; (try dsimp only)) | ((fail_if_success (with_reducible show wpAny _ _ (exec (Stmt.While _ _ _ _) _) _ _ _)); (fail_if_success (with_reducible show wpAny _ _ (exec (Stmt.For _ _ _ _ _) _) _ _ _)); (fail_if_success (with_reducible show wpAny _ _ (pyIter _) _ _ _)); ((first | walk1 | (dsimp only; walk1)); (try dsimp only))))))))
      refine seg_execs_cons (seg_stmt ?_)
      (((try k_fold); ((repeat' (first | (k_unfold; (try dsimp only)) | ((fail_if_success (with_reducible show wpAny _ _ (exec (Stmt.While _ _ _ _) _) _ _ _)); (fail_if_success (with_reducible show wpAny _ _ (exec (Stmt.For _ _ _ _ _) _) _ _ _)); (fail_if_success (with_reducible show wpAny _ _ (pyIter _) _ _ _)); ((first | walk1 | (dsimp only; walk1)); (try dsimp only))))))))
      rename Heap.NewExc _ _ _ _ => hx
      (((with_reducible rename Fr _ _ _ _ => F0); (with_reducible rename News _ _ _ _ => N0)))
      refine gen_raise_end (cs := cs) rfl rfl rfl F0 hx hFF hr2 hcov ?_ hLn rfl
      exact since_of NC hcsL N0 (fun p hp => by first | exact hp | exact .tail _ hp | k_mem)
    · omega
end Mine
end
section
local macro_rules | `(tactic| omega) => `(tactic| lia)
set_option maxHeartbeats 8000000
set_option rowWalk.seconds 0
namespace Mine
namespace marks_call0
noncomputable def cutQ1 : { qq : (World → (ExcName → Option Value) → (Str → Option Value) → (Str → Option Value) → Addr → Int → Int → Int → Tok → Tok → Tok → Nat → Nat → (Option (List Code)) → (List Env) → Heap → Shared → (Value → Shared → Prop) → (Value → Shared → Prop) → Heap → Addr → Heap → Prop) // (∀ (w : World) (mean : ExcName → Option Value) (mg : Str → Option Value) (mb : Str → Option Value) (lr : Addr) (r0 : Int) (r1 : Int) (r2 : Int) (t0 : Tok) (t1 : Tok) (t2 : Tok) (dp : Nat) (un : Nat) (gd : Option (List Code)) (outers : List Env) (base : Heap) (s : Shared) (Q : Value → Shared → Prop) (E : Value → Shared → Prop) (g : Heap) (L' : Addr) (h₁ : Heap), qq w mean mg mb lr r0 r1 r2 t0 t1 t2 dp un gd outers base s Q E g L' h₁) → ∀ (w : World) (mean : ExcName → Option Value) (mg mb : Str → Option Value) (lr : Addr) (r0 r1 r2 : Int) (t0 t1 t2 : Tok) (dp un : Nat) (gd : Option (List Code)) (outers : List Env) (base : Heap) (s : Shared) (Q E : Value → Shared → Prop) (B : Below (Aro dp un gd outers) base outers s.heap) (X0 : (hd1.heap_39 w.params).In base) (T0 : Top hd1.view_39 (looseW hd1.view_39 []) mean mg mb base) (hdp : dp + 5 < recursionLimit) (hun : un + 100 < cLine) (hl : s.heap.IsList lr [Value.int r0 t0, .int r1 t1, .int r2 t2].toArray) (hb : AllBare s.gens) (hr0 : r0 = 0) (hret : ∀ h' tk' gens', (∀ b o, b ∉ outers.filterMap (·.frame) → s.heap.get? b = some o → h'.get? b = some o) → s.heap.UpToSlots h' → AllBare gens' → Q .none { s with heap := h', toks := tk', gens := gens' }),
   wpAny (model Challenge.rw_re0065_01.row.prog w) (Aro dp un gd outers) (call (.ref 63) [.ref lr]) Q E s } := by
  refine ⟨?qq0, fun hP0 => ?b⟩
  case b =>
    intro w mean mg mb lr r0 r1 r2 t0 t1 t2 dp un gd outers base s Q E B X0 T0 hdp hun hl hb hr0 hret
    revert X0; k_fill; intro X0
    have X : (hd1.heap_39 w.params).In s.heap := X0.keeps B.stays
    have T : Top hd1.view_39 (looseW hd1.view_39 []) mean mg mb s.heap := T0.keeps B.stays
    ((refine wpAny_call ?_; k_dflt (refine' enter ?k1 ?k2 ?k3 ?k6 ?k7 ?k8 ?k9 ?kB ?_ ?c2 ?c3 ?c4 ?c5; (case k1 => k_asm); (case k2 => k_asm); (case k3 => k_asm); (case k6 => k_is); (case k7 => k_is); (case k8 => ktr_room); (case k9 => exact BindsTo.of_eq rfl); (case c5 => decide); (case kB => exact locs rfl); (case c2 => exact rfl); (case c3 => exact rfl); (case c4 => exact rfl); k_whole)))
    intro g L' h₁ hg F' N' B' X' T'
    have hl' : g.IsList lr [Value.int r0 t0, .int r1 t1, .int r2 t2].toArray := by rw [hg]; exact hl
    (try dsimp only); (try k_lift B')
    (try dsimp +zetaDelta only)
    revert hl'
    revert T'
    revert X'
    revert B'
    revert N'
    revert F'
    revert hg
    revert hret
    revert hr0
    revert hb
    revert hun
    revert hdp
    revert T0
    revert X0
    revert B
    exact @hP0 w mean mg mb lr r0 r1 r2 t0 t1 t2 dp un gd outers base s Q E g L' h₁
namespace C
@[irreducible] noncomputable def cutT : World × (ExcName → Option Value) × (Str → Option Value) × (Str → Option Value) × Addr × Int × Int × Int × Tok × Tok × Tok × Nat × Nat × (Option (List Code)) × (List Env) × Heap × Shared × (Value → Shared → Prop) × (Value → Shared → Prop) × Heap × Addr × Heap := gen ⟨(Classical.choice world_ne, fun _ => none, fun _ => none, fun _ => none, 0, 0, 0, 0, 0, 0, 0, 0, 0, none, [], default, {}, fun _ _ => True, fun _ _ => True, default, 0, default)⟩ fun t => cutQ1.1 t.1 t.2.1 t.2.2.1 t.2.2.2.1 t.2.2.2.2.1 t.2.2.2.2.2.1 t.2.2.2.2.2.2.1 t.2.2.2.2.2.2.2.1 t.2.2.2.2.2.2.2.2.1 t.2.2.2.2.2.2.2.2.2.1 t.2.2.2.2.2.2.2.2.2.2.1 t.2.2.2.2.2.2.2.2.2.2.2.1 t.2.2.2.2.2.2.2.2.2.2.2.2.1 t.2.2.2.2.2.2.2.2.2.2.2.2.2.1 t.2.2.2.2.2.2.2.2.2.2.2.2.2.2.1 t.2.2.2.2.2.2.2.2.2.2.2.2.2.2.2.1 t.2.2.2.2.2.2.2.2.2.2.2.2.2.2.2.2.1 t.2.2.2.2.2.2.2.2.2.2.2.2.2.2.2.2.2.1 t.2.2.2.2.2.2.2.2.2.2.2.2.2.2.2.2.2.2.1 t.2.2.2.2.2.2.2.2.2.2.2.2.2.2.2.2.2.2.2.1 t.2.2.2.2.2.2.2.2.2.2.2.2.2.2.2.2.2.2.2.2.1 t.2.2.2.2.2.2.2.2.2.2.2.2.2.2.2.2.2.2.2.2.2
@[irreducible] noncomputable def w : World := cutT.1
@[irreducible] noncomputable def mean : ExcName → Option Value := cutT.2.1
@[irreducible] noncomputable def mg : Str → Option Value := cutT.2.2.1
@[irreducible] noncomputable def mb : Str → Option Value := cutT.2.2.2.1
@[irreducible] noncomputable def lr : Addr := cutT.2.2.2.2.1
@[irreducible] noncomputable def r0 : Int := cutT.2.2.2.2.2.1
@[irreducible] noncomputable def r1 : Int := cutT.2.2.2.2.2.2.1
@[irreducible] noncomputable def r2 : Int := cutT.2.2.2.2.2.2.2.1
@[irreducible] noncomputable def t0 : Tok := cutT.2.2.2.2.2.2.2.2.1
@[irreducible] noncomputable def t1 : Tok := cutT.2.2.2.2.2.2.2.2.2.1
@[irreducible] noncomputable def t2 : Tok := cutT.2.2.2.2.2.2.2.2.2.2.1
@[irreducible] noncomputable def dp : Nat := cutT.2.2.2.2.2.2.2.2.2.2.2.1
@[irreducible] noncomputable def un : Nat := cutT.2.2.2.2.2.2.2.2.2.2.2.2.1
@[irreducible] noncomputable def gd : Option (List Code) := cutT.2.2.2.2.2.2.2.2.2.2.2.2.2.1
@[irreducible] noncomputable def outers : List Env := cutT.2.2.2.2.2.2.2.2.2.2.2.2.2.2.1
@[irreducible] noncomputable def base : Heap := cutT.2.2.2.2.2.2.2.2.2.2.2.2.2.2.2.1
@[irreducible] noncomputable def s : Shared := cutT.2.2.2.2.2.2.2.2.2.2.2.2.2.2.2.2.1
@[irreducible] noncomputable def Q : Value → Shared → Prop := cutT.2.2.2.2.2.2.2.2.2.2.2.2.2.2.2.2.2.1
@[irreducible] noncomputable def E : Value → Shared → Prop := cutT.2.2.2.2.2.2.2.2.2.2.2.2.2.2.2.2.2.2.1
@[irreducible] noncomputable def g : Heap := cutT.2.2.2.2.2.2.2.2.2.2.2.2.2.2.2.2.2.2.2.1
@[irreducible] noncomputable def L' : Addr := cutT.2.2.2.2.2.2.2.2.2.2.2.2.2.2.2.2.2.2.2.2.1
@[irreducible] noncomputable def h₁ : Heap := cutT.2.2.2.2.2.2.2.2.2.2.2.2.2.2.2.2.2.2.2.2.2
theorem cutP1 : cutQ1.1 w mean mg mb lr r0 r1 r2 t0 t1 t2 dp un gd outers base s Q E g L' h₁ := by
  delta cutQ1
  dsimp only
  intro B X0 T0 hdp hun hb hr0 hret hg F' N' B' X' T' hl'
  (try k_fold)
  (((try k_fold); ((repeat' (first | (k_unfold; (try dsimp only)) | ((fail_if_success (with_reducible show wpAny _ _ (exec (Stmt.While _ _ _ _) _) _ _ _)); (fail_if_success (with_reducible show wpAny _ _ (exec (Stmt.For _ _ _ _ _) _) _ _ _)); (fail_if_success (with_reducible show wpAny _ _ (pyIter _) _ _ _)); ((first | walk1 | (dsimp only; walk1)); (try dsimp only))))))))
  refine wpAny_For ?_
  (((try k_fold); ((repeat' (first | (k_unfold; (try dsimp only)) | ((fail_if_success (with_reducible show wpAny _ _ (exec (Stmt.While _ _ _ _) _) _ _ _)); (fail_if_success (with_reducible show wpAny _ _ (exec (Stmt.For _ _ _ _ _) _) _ _ _)); (fail_if_success (with_reducible show wpAny _ _ (pyIter _) _ _ _)); ((first | walk1 | (dsimp only; walk1)); (try dsimp only))))))))
  (((with_reducible rename Fr _ _ _ _ => F0); (with_reducible rename News _ _ _ _ => N0)))
  refine wpAny_call (gi_call0 w mean mg mb g lr r0 r1 r2 t0 t1 t2 _ _ _ _ X' T' hl' hr0 _ ?hk1 ?hk2 ?hd _ ?_)
  case hk1 => exact F0.keep
  case hk2 => exact Nat.le_trans F0.above (Nat.le_of_lt F0.ns.lt)
  case hd => show dp + 1 + 3 < recursionLimit; omega
  intro a Lg hh tkg code oL nm qn hkg hoL hLg ha hbeh
  dsimp only
  have FG : Fr g L' (hh.push (genObj s.gens.size nm qn tkg)) _ := (F0.keeps hkg).push _
  have NG := News.push (F0.keeps hkg) (N0.grown hkg) (genObj s.gens.size nm qn tkg)
  obtain ⟨lm, hlm⟩ := name_led N0
  subst hlm
  have hane : a ≠ L' := ne_frame (F0.keeps hkg) ha
  have halm : a ≠ lm := ne_of_size (hkg _ _ (N0 _ (.head _)).1) ha
  have hLgn : Lg ≠ L' := ne_frame F0 hLg
  have hLgm : Lg ≠ lm := ne_of_size (N0 _ (.head _)).1 hLg
  have hLga : a ≠ Lg := ne_of_size hoL ha
  have hgLg : g.get? Lg = none := none_of_size F0.keep hLg
  have hgL : g.get? L' = none := fr_none F0
  have hga : g.get? a = none := none_of_size (Keeps.trans (h' := _) F0.keep hkg) ha
  have hglm : g.get? lm = none := (N0 _ (.head _)).2.2
  have hIG : (hh.push (genObj s.gens.size nm qn tkg)).IsGen a s.gens.size := ⟨genObj s.gens.size nm qn tkg, .str nm tkg, .str qn (tkg + 1), by rw [ha]; exact Heap.get?_push_size _ rfl, rfl, rfl, rfl⟩
  refine wpAny_pyIter_gen hIG ?_
  refine codeAny_forLoop (fun _ s' => s' = _) ?turn 0 rfl
  case turn =>
    rintro k s' rfl
    refine next_gen0 (oA := genObj s.gens.size nm qn tkg) (Lg := Lg) (gi := s.gens.size) (nm := .str nm tkg) (qn := .str qn (tkg + 1)) rfl (T'.nolimit.keeps FG.keep) ?hroom ?hoA rfl rfl rfl (gs := .fresh code) ?hgs ?haf ?hgo ?hE
    case hroom => show dp + 1 < recursionLimit; omega
    case hoA => rw [ha]; exact Heap.get?_push_size _ rfl
    case hgs => simp
    case hgo =>
      refine hbeh (dp + 1) (un + 3 + 1) gd _ (coverL g (hh.push (genObj s.gens.size nm qn tkg)) Lg) base (by omega) (by omega) (fun b hb => (cover_in b hb).1) _ ⟨?h2, FG.keep, fun b hb => (cover_in b hb).2⟩ (below_here (A := Aro dp un gd _) B' FG rfl rfl rfl).frames ?h4 cover_all
      · intro q hq
        rw [List.mem_singleton.mp hq]
        exact Heap.get?_push_of_some _ hoL
      · intro en he z
        rcases List.mem_cons.mp he with rfl | he
        · exact hLgn (Option.some.inj z).symm
        · obtain ⟨o, ho⟩ := frames_there B'.frames _ (List.mem_filterMap.mpr ⟨en, he, z⟩)
          rw [hgLg] at ho; cases ho
    case haf =>
      intro z
      rcases List.mem_cons.mp z with z | z
      · exact hLga z
      · rcases List.mem_cons.mp z with z | z
        · exact hane z
        · obtain ⟨o, ho⟩ := frames_there B'.frames _ z
          rw [hga] at ho; cases ho
    case hE =>
      intro e a0 h3 tk3 hfl hup
      have st0 : base.StaysIn (hideAll g (outers.filterMap (·.frame))) := fun b o q => hideAll_get _ (B'.stays b o q) fun hm => by
        rw [(B'.frames.mem hm).1] at q; cases q
      have T6 := T0.keeps st0
      have hF3 := fr_after (fr := outers.filterMap (·.frame)) FG hgLg hgL hLgn hup
      have hst := stays_after (fr := outers.filterMap (·.frame)) FG.keep hgLg hgL
      refine wpAny_looks_onW rfl rfl hfl fun h4 hheld4 hsm4 => ?_
      refine backW rfl hheld4 fun h5 hheld5 hsm5 => ?_
      refine caught_mine (T' := "ValueError") hheld5 (fun h' hs hu => hF3 h' hs ((hsm4.trans hsm5).trans hu)) (topRead_of T6) PyProof.Rows.Boot.«ValueError» PySem.F.isExc_ValueError PySem.F.notTuple_ValueError (by rw [isSubtype_type]; kernel_rfl) ?_
      intro h6 hs6 hu6 F6
      have hup6 : g.UpToSlots h6 := fun b o hb hn => by
        obtain ⟨sl, q⟩ := hup b o (fun z => by rw [z, hgLg] at hb; cases hb) (FG.keep b o hb) hn
        exact ((hsm4.trans hsm5).trans hu6) b _ q hn |>.imp fun _ x => x
      have hkp : ∀ b o, b ∉ outers.filterMap (·.frame) → g.get? b = some o → h6.get? b = some o := fun b o hb q => hst h6 hs6 b o (hideAll_get _ q hb)
      have hB6 : AllBare ((s.gens.push (.fresh code)).setIfInBounds s.gens.size .finished) := by
        refine setGen_bare (s := { s with gens := s.gens.push (.fresh code) }) ?_ rfl
        intro y hy
        rcases Array.mem_push.mp hy with q | q
        · exact hb y q
        · rw [q]; rfl
      rw [hg] at hkp hup6
      clear F0 N0 FG NG
      (((try k_fold); ((repeat' (first | (k_unfold; (try dsimp only)) | ((fail_if_success (with_reducible show wpAny _ _ (exec (Stmt.While _ _ _ _) _) _ _ _)); (fail_if_success (with_reducible show wpAny _ _ (exec (Stmt.For _ _ _ _ _) _) _ _ _)); (fail_if_success (with_reducible show wpAny _ _ (pyIter _) _ _ _)); ((first | walk1 | (dsimp only; walk1)); (try dsimp only))))))))
      exact hret h6 _ _ hkp hup6 hB6
theorem cutR1 : ∀ (w : World) (mean : ExcName → Option Value) (mg : Str → Option Value) (mb : Str → Option Value) (lr : Addr) (r0 : Int) (r1 : Int) (r2 : Int) (t0 : Tok) (t1 : Tok) (t2 : Tok) (dp : Nat) (un : Nat) (gd : Option (List Code)) (outers : List Env) (base : Heap) (s : Shared) (Q : Value → Shared → Prop) (E : Value → Shared → Prop) (g : Heap) (L' : Addr) (h₁ : Heap), cutQ1.1 w mean mg mb lr r0 r1 r2 t0 t1 t2 dp un gd outers base s Q E g L' h₁ := by
  intro w mean mg mb lr r0 r1 r2 t0 t1 t2 dp un gd outers base s Q E g L' h₁
  with_unfolding_all exact of_gen (P := fun t : World × (ExcName → Option Value) × (Str → Option Value) × (Str → Option Value) × Addr × Int × Int × Int × Tok × Tok × Tok × Nat × Nat × (Option (List Code)) × (List Env) × Heap × Shared × (Value → Shared → Prop) × (Value → Shared → Prop) × Heap × Addr × Heap => cutQ1.1 t.1 t.2.1 t.2.2.1 t.2.2.2.1 t.2.2.2.2.1 t.2.2.2.2.2.1 t.2.2.2.2.2.2.1 t.2.2.2.2.2.2.2.1 t.2.2.2.2.2.2.2.2.1 t.2.2.2.2.2.2.2.2.2.1 t.2.2.2.2.2.2.2.2.2.2.1 t.2.2.2.2.2.2.2.2.2.2.2.1 t.2.2.2.2.2.2.2.2.2.2.2.2.1 t.2.2.2.2.2.2.2.2.2.2.2.2.2.1 t.2.2.2.2.2.2.2.2.2.2.2.2.2.2.1 t.2.2.2.2.2.2.2.2.2.2.2.2.2.2.2.1 t.2.2.2.2.2.2.2.2.2.2.2.2.2.2.2.2.1 t.2.2.2.2.2.2.2.2.2.2.2.2.2.2.2.2.2.1 t.2.2.2.2.2.2.2.2.2.2.2.2.2.2.2.2.2.2.1 t.2.2.2.2.2.2.2.2.2.2.2.2.2.2.2.2.2.2.2.1 t.2.2.2.2.2.2.2.2.2.2.2.2.2.2.2.2.2.2.2.2.1 t.2.2.2.2.2.2.2.2.2.2.2.2.2.2.2.2.2.2.2.2.2) cutP1 (w, mean, mg, mb, lr, r0, r1, r2, t0, t1, t2, dp, un, gd, outers, base, s, Q, E, g, L', h₁)
end C
end marks_call0
theorem marks_call0 (w : World) (mean : ExcName → Option Value) (mg mb : Str → Option Value) (lr : Addr) (r0 r1 r2 : Int) (t0 t1 t2 : Tok) (dp un : Nat) (gd : Option (List Code)) (outers : List Env) (base : Heap) (s : Shared) (Q E : Value → Shared → Prop)
    (B : Below (Aro dp un gd outers) base outers s.heap) (X0 : (hd1.heap_39 w.params).In base) (T0 : Top hd1.view_39 (looseW hd1.view_39 []) mean mg mb base)
    (hdp : dp + 5 < recursionLimit) (hun : un + 100 < cLine) (hl : s.heap.IsList lr [Value.int r0 t0, .int r1 t1, .int r2 t2].toArray) (hb : AllBare s.gens) (hr0 : r0 = 0)
    (hret : ∀ h' tk' gens', (∀ b o, b ∉ outers.filterMap (·.frame) → s.heap.get? b = some o → h'.get? b = some o) → s.heap.UpToSlots h' → AllBare gens' → Q .none { s with heap := h', toks := tk', gens := gens' }) :
    wpAny (model Challenge.rw_re0065_01.row.prog w) (Aro dp un gd outers) (call (.ref 63) [.ref lr]) Q E s :=
  marks_call0.cutQ1.2 marks_call0.C.cutR1 w mean mg mb lr r0 r1 r2 t0 t1 t2 dp un gd outers base s Q E B X0 T0 hdp hun hl hb hr0 hret
end Mine
end
section
namespace Mine
section
variable {prog : Program} {w : World} {s : Shared} {K : Frag} {base : Heap} {mg mb : Str → Option Value} {p : Program} {loose : List Str} {mean : ExcName → Option Value}
theorem enterC {A : Around} {outers : List Env} {R : Result → Shared → Prop} {name qual : Str} {params : Arguments} {body : List Stmt} {scope : Scope} {dV kV doc pm cdv ct oc : Value} {an od : Option Addr} {osl : Array (Option Value)} {f : Addr} {args : Args} {binds : List (Str × Value)}
    (B : Below A base outers s.heap) (X : K.In s.heap) (T : Top p loose mean mg mb s.heap)
    (ho : K.lookup f = some ⟨oc, od, .func (fnOf name qual params body scope dV kV doc pm an cdv ct), osl⟩) (hcd : codeIn K cdv qual = true) (hroom : A.depth < recursionLimit)
    (hbind : BindsTo s (fnOf name qual params body scope dV kV doc pm an cdv ct) args binds) (hkind : (binds.all fun y => scope.names.lookup y.1 == some .local || scope.names.lookup y.1 == some .cell) = true)
    (hnd : ((cellsFrom 0 scope.names []).map (·.1)).Nodup)
    (h : ∀ g L' h₁ tk cells, g = s.heap → Fr g L' h₁ (bindL (envOfC qual scope L' f cdv).kindOf binds fun _ => none) → News g L' h₁ cells →
      CellsAre (bindC (envOfC qual scope L' f cdv).kindOf binds fun _ => none) (cellsFrom (L' + 1) scope.names []) cells → Below A base outers g → K.In g → Top p loose mean mg mb g →
      wpAny (model prog w) (A.deeper (envOfC qual scope L' f cdv)) (execs body (envOfC qual scope L' f cdv))
        (fun fl s' => R (.ok (.ret (match fl with | .ret v => v | _ => .none))) s')
        (fun e s' => wpAny (model prog w) (A.deeper (envOfC qual scope L' f cdv)) (leaving (envOfC qual scope L' f cdv) e) (fun _ s'' => R (.error e) s'') (fun e' s'' => R (.error e') s'') s')
        { s with heap := h₁, toks := tk })
    (hco : scope.isCoroutine = false) (hgen : scope.isGenerator = false) (hk : scope.kind = .function) : codeAny (model prog w) A (.call (.ref f) args) R s := by
  refine codeAny_call_function hroom (X _ _ ho) rfl hco hgen rfl (codeRec_of X hcd) (hbind _ _ _ _ ?_)
  refine wpAny_newFunctionEnv_cells hk (kindsX hkind _) fun env' he s' x => ?_
  subst he
  refine ⟨T.nolimit.keeps x.toInCall.keep, codeAny_func ?_⟩
  obtain ⟨h₁, tk, rfl, _⟩ := x.done
  have hk₁ := x.toInCall.keep
  obtain ⟨cells, NC, Y⟩ := Cl.news (h₀ := s.heap) (Nat.le_refl _) fun n c hm => ⟨x.cell n c (lookup_of_mem_nodup (cellsFrom_names scope.names 0 (s.heap.objs.size + 1) [] [] rfl ▸ hnd) hm), x.above n c hm⟩
  exact h s.heap s.heap.objs.size h₁ tk cells rfl ⟨x.toInCall.ns, hk₁, Nat.le_refl _⟩ NC Y B X T
end
theorem cells_uncons {cm : Str → Option Value} {n : Str} {c : Addr} {cs : List (Str × Addr)} {cells : List (Addr × Obj)} (x : CellsAre cm ((n, c) :: cs) cells) : ∃ o rest, cells = (c, o) :: rest ∧ o.data = .cell (cm n) ∧ CellsAre cm cs rest := by
  cases x with
  | cons h r => exact ⟨_, _, rfl, h, r⟩
theorem cells_nil {cm : Str → Option Value} {cells : List (Addr × Obj)} (x : CellsAre cm [] cells) : cells = [] := by cases x; rfl
end Mine
end
section
namespace Mine
section
variable {prog : Program} {w : World} {A : Around} {E : Value → Shared → Prop} {s : Shared} {h₀ : Heap} {L : Addr} {m : Str → Option Value} {env : Env}
end
end Mine
end
section
local macro_rules | `(tactic| omega) => `(tactic| lia)
namespace Mine
noncomputable def NsO (o : Obj) (m : Str → Option Value) : Prop := ∀ (h : Heap) (a : Addr), h.get? a = some o → h.Ns a m
theorem nsO_of {h : Heap} {a : Addr} {m : Str → Option Value} (hn : h.Ns a m) : ∃ o, h.get? a = some o ∧ NsO o m := by
  obtain ⟨o, es, ep, ho, r⟩ := hn
  exact ⟨o, ho, fun h' a' e => ⟨o, es, ep, e, r⟩⟩
noncomputable def CKeep (h₀ : Heap) (L : Addr) (m : Str → Option Value) (s : Shared) (led : List (Addr × Obj)) (P : Prop) (s₄ : Shared) : Prop :=
  ∃ h tk news, s₄ = { s with heap := h, toks := tk } ∧ Fr h₀ L h m ∧ News h₀ L h news ∧ (∀ p ∈ led, p ∈ news) ∧ P
theorem CKeep.mk' {h₀ : Heap} {L : Addr} {m : Str → Option Value} {s : Shared} {led news : List (Addr × Obj)} {P : Prop} {h : Heap} {tk : Nat}
    (F : Fr h₀ L h m) (N : News h₀ L h news) (hl : ∀ p ∈ led, p ∈ news) (hp : P) : CKeep h₀ L m s led P { s with heap := h, toks := tk } := ⟨h, tk, news, rfl, F, N, hl, hp⟩
section
variable {prog : Program} {w : World} {A : Around} {E : Value → Shared → Prop} {s : Shared} {h₀ : Heap} {L : Addr} {m : Str → Option Value} {env cenv : Env} {news : List (Addr × Obj)}
abbrev ifsOf (ifs : List Expr) (cenv : Env) : Sem Bool := forIn ifs true fun c r => if r = true then do let ok ← isTrue c cenv (eval c cenv); pure (ForInStep.yield ok) else pure (ForInStep.yield r)
noncomputable def CTurn (prog : Program) (w : World) (A : Around) (cenv : Env) (h₀ : Heap) (L : Addr) (m : Str → Option Value) (s : Shared) (x : Str) (elt : Expr) (ifs : List Expr) (D I : Addr) (news : List (Addr × Obj)) (n : Nat) (Pv : Nat → Value → Prop) (Ys : Nat → List Value → Prop) : Prop :=
  ∀ i v ys e oC oI mC h tk E', i < n → Pv i v → Ys i ys → NsO oC mC → mC x = some v → Fr h₀ L h m → News h₀ L h ((cenv.locals, oC) :: (D, W.listOf ys.toArray e) :: (I, oI) :: news) →
    wpAny (model prog w) A (ifsOf ifs cenv) (fun ok s₃ => if ok = true then
        wpAny (model prog w) A (eval elt cenv) (fun y s₄ => CKeep h₀ L m s ((cenv.locals, oC) :: (D, W.listOf ys.toArray e) :: (I, oI) :: news) (Ys (i + 1) (ys ++ [y])) s₄) E' s₃
      else CKeep h₀ L m s ((cenv.locals, oC) :: (D, W.listOf ys.toArray e) :: (I, oI) :: news) (Ys (i + 1) ys) s₃) E' { s with heap := h, toks := tk }
end
namespace compLoop_cut
noncomputable def cutQ1 : { qq : (Program → World → Around → Shared → Heap → Addr → (Str → Option Value) → Env → (List (Addr × Obj)) → Expr → Expr → Str → Pos → (List Expr) → Scope → Pos → (Result → Shared → Prop) → Addr → Addr → (List Addr) → Nat → (Nat → Value → Prop) → (Nat → Heap → Prop) → Obj → Obj → Nat → (Str → Option Value) → (Nat → List Value → Prop) → Prop) // (∀ (prog : Program) (w : World) (A : Around) (s : Shared) (h₀ : Heap) (L : Addr) (m : Str → Option Value) (cenv : Env) (news : List (Addr × Obj)) (elt : Expr) (iter : Expr) (x : Str) (px : Pos) (ifs : List Expr) (scope : Scope) (pos : Pos) (R : Result → Shared → Prop) (I : Addr) (D : Addr) (fp : List Addr) (n : Nat) (Pv : Nat → Value → Prop) (St : Nat → Heap → Prop) (oC0 : Obj) (oI0 : Obj) (e0 : Nat) (m0 : Str → Option Value) (Ys : Nat → List Value → Prop), qq prog w A s h₀ L m cenv news elt iter x px ifs scope pos R I D fp n Pv St oC0 oI0 e0 m0 Ys) → ∀ {prog : Program} {w : World} {A : Around} {s : Shared} {h₀ : Heap} {L : Addr} {m : Str → Option Value} {cenv : Env} {news : List (Addr × Obj)} {elt iter : Expr} {x : Str} {px : Pos} {ifs : List Expr} {scope : Scope} {pos : Pos} {R : Result → Shared → Prop} {I D : Addr} {fp : List Addr} {n : Nat} {Pv : Nat → Value → Prop} {St : Nat → Heap → Prop} {oC0 oI0 : Obj} {e0 : Nat} {m0 : Str → Option Value} (Ys : Nat → List Value → Prop) (Wk : Walks prog w A I fp [I] n Pv St) (hIf : I ∈ fp) (hSt : ∀ i h, St i h → ∃ o, h.get? I = some o) (hfp : ∀ b ∈ fp, b ≠ I → (∃ o, h₀.get? b = some o) ∨ (∃ o, (b, o) ∈ news)) (hnw : ∀ p ∈ news, p.1 ≠ I ∧ p.1 ≠ D ∧ p.1 ≠ cenv.locals) (hID : I ≠ D) (hIC : I ≠ cenv.locals) (hDC : D ≠ cenv.locals) (hn : n ≤ sizeLine) (hYl : ∀ i ys, Ys i ys → ys.length ≤ i) (hx : cenv.kindOf x = some .local) (hp : (cenv.scope.kind == .class || (cenv.scope.kind == .module && cenv.locals != cenv.globals)) = false) (F : Fr h₀ L s.heap m) (N : News h₀ L s.heap ((cenv.locals, oC0) :: (D, W.listOf #[] e0) :: (I, oI0) :: news)) (hC0 : NsO oC0 m0) (hst : St 0 s.heap) (hY0 : Ys 0 []) (turn : CTurn prog w A cenv h₀ L m s x elt ifs D I news n Pv Ys) (hR : ∀ ys e oC' mC' h' tk, Ys n ys → Fr h₀ L h' m → NsO oC' mC' → News h₀ L h' ((cenv.locals, oC') :: (D, W.listOf ys.toArray e) :: news) → R (.ok .next) { s with heap := h', toks := tk }),
   codeAny (model prog w) A (.compLoop (.ListComp elt [⟨.Name x px, iter, ifs, 0⟩] scope pos) 0 (.ref I) (.ref D) cenv) R s } := by
  refine ⟨?qq0, fun hP0 => ?b⟩
  case b =>
    intro prog w A s h₀ L m cenv news elt iter x px ifs scope pos R I D fp n Pv St oC0 oI0 e0 m0 Ys Wk hIf hSt hfp hnw hID hIC hDC hn hYl hx hp F N hC0 hst hY0 turn hR
    (try dsimp +zetaDelta only)
    revert hR
    revert turn
    revert hY0
    revert hst
    revert hC0
    revert N
    revert F
    revert hp
    revert hx
    revert hYl
    revert hn
    revert hDC
    revert hIC
    revert hID
    revert hnw
    revert hfp
    revert hSt
    revert hIf
    revert Wk
    exact @hP0 prog w A s h₀ L m cenv news elt iter x px ifs scope pos R I D fp n Pv St oC0 oI0 e0 m0 Ys
namespace C
@[irreducible] noncomputable def cutT : Program × World × Around × Shared × Heap × Addr × (Str → Option Value) × Env × (List (Addr × Obj)) × Expr × Expr × Str × Pos × (List Expr) × Scope × Pos × (Result → Shared → Prop) × Addr × Addr × (List Addr) × Nat × (Nat → Value → Prop) × (Nat → Heap → Prop) × Obj × Obj × Nat × (Str → Option Value) × (Nat → List Value → Prop) := gen ⟨(default, Classical.choice world_ne, {}, {}, default, 0, fun _ => none, default, [], default, default, Str.ofString "", default, [], default, default, fun _ _ => True, 0, 0, [], 0, fun _ _ => True, fun _ _ => True, default, default, 0, fun _ => none, fun _ _ => True)⟩ fun t => cutQ1.1 t.1 t.2.1 t.2.2.1 t.2.2.2.1 t.2.2.2.2.1 t.2.2.2.2.2.1 t.2.2.2.2.2.2.1 t.2.2.2.2.2.2.2.1 t.2.2.2.2.2.2.2.2.1 t.2.2.2.2.2.2.2.2.2.1 t.2.2.2.2.2.2.2.2.2.2.1 t.2.2.2.2.2.2.2.2.2.2.2.1 t.2.2.2.2.2.2.2.2.2.2.2.2.1 t.2.2.2.2.2.2.2.2.2.2.2.2.2.1 t.2.2.2.2.2.2.2.2.2.2.2.2.2.2.1 t.2.2.2.2.2.2.2.2.2.2.2.2.2.2.2.1 t.2.2.2.2.2.2.2.2.2.2.2.2.2.2.2.2.1 t.2.2.2.2.2.2.2.2.2.2.2.2.2.2.2.2.2.1 t.2.2.2.2.2.2.2.2.2.2.2.2.2.2.2.2.2.2.1 t.2.2.2.2.2.2.2.2.2.2.2.2.2.2.2.2.2.2.2.1 t.2.2.2.2.2.2.2.2.2.2.2.2.2.2.2.2.2.2.2.2.1 t.2.2.2.2.2.2.2.2.2.2.2.2.2.2.2.2.2.2.2.2.2.1 t.2.2.2.2.2.2.2.2.2.2.2.2.2.2.2.2.2.2.2.2.2.2.1 t.2.2.2.2.2.2.2.2.2.2.2.2.2.2.2.2.2.2.2.2.2.2.2.1 t.2.2.2.2.2.2.2.2.2.2.2.2.2.2.2.2.2.2.2.2.2.2.2.2.1 t.2.2.2.2.2.2.2.2.2.2.2.2.2.2.2.2.2.2.2.2.2.2.2.2.2.1 t.2.2.2.2.2.2.2.2.2.2.2.2.2.2.2.2.2.2.2.2.2.2.2.2.2.2.1 t.2.2.2.2.2.2.2.2.2.2.2.2.2.2.2.2.2.2.2.2.2.2.2.2.2.2.2
@[irreducible] noncomputable def prog : Program := cutT.1
@[irreducible] noncomputable def w : World := cutT.2.1
@[irreducible] noncomputable def A : Around := cutT.2.2.1
@[irreducible] noncomputable def s : Shared := cutT.2.2.2.1
@[irreducible] noncomputable def h₀ : Heap := cutT.2.2.2.2.1
@[irreducible] noncomputable def L : Addr := cutT.2.2.2.2.2.1
@[irreducible] noncomputable def m : Str → Option Value := cutT.2.2.2.2.2.2.1
@[irreducible] noncomputable def cenv : Env := cutT.2.2.2.2.2.2.2.1
@[irreducible] noncomputable def news : List (Addr × Obj) := cutT.2.2.2.2.2.2.2.2.1
@[irreducible] noncomputable def elt : Expr := cutT.2.2.2.2.2.2.2.2.2.1
@[irreducible] noncomputable def iter : Expr := cutT.2.2.2.2.2.2.2.2.2.2.1
@[irreducible] noncomputable def x : Str := cutT.2.2.2.2.2.2.2.2.2.2.2.1
@[irreducible] noncomputable def px : Pos := cutT.2.2.2.2.2.2.2.2.2.2.2.2.1
@[irreducible] noncomputable def ifs : List Expr := cutT.2.2.2.2.2.2.2.2.2.2.2.2.2.1
@[irreducible] noncomputable def scope : Scope := cutT.2.2.2.2.2.2.2.2.2.2.2.2.2.2.1
@[irreducible] noncomputable def pos : Pos := cutT.2.2.2.2.2.2.2.2.2.2.2.2.2.2.2.1
@[irreducible] noncomputable def R : Result → Shared → Prop := cutT.2.2.2.2.2.2.2.2.2.2.2.2.2.2.2.2.1
@[irreducible] noncomputable def I : Addr := cutT.2.2.2.2.2.2.2.2.2.2.2.2.2.2.2.2.2.1
@[irreducible] noncomputable def D : Addr := cutT.2.2.2.2.2.2.2.2.2.2.2.2.2.2.2.2.2.2.1
@[irreducible] noncomputable def fp : List Addr := cutT.2.2.2.2.2.2.2.2.2.2.2.2.2.2.2.2.2.2.2.1
@[irreducible] noncomputable def n : Nat := cutT.2.2.2.2.2.2.2.2.2.2.2.2.2.2.2.2.2.2.2.2.1
@[irreducible] noncomputable def Pv : Nat → Value → Prop := cutT.2.2.2.2.2.2.2.2.2.2.2.2.2.2.2.2.2.2.2.2.2.1
@[irreducible] noncomputable def St : Nat → Heap → Prop := cutT.2.2.2.2.2.2.2.2.2.2.2.2.2.2.2.2.2.2.2.2.2.2.1
@[irreducible] noncomputable def oC0 : Obj := cutT.2.2.2.2.2.2.2.2.2.2.2.2.2.2.2.2.2.2.2.2.2.2.2.1
@[irreducible] noncomputable def oI0 : Obj := cutT.2.2.2.2.2.2.2.2.2.2.2.2.2.2.2.2.2.2.2.2.2.2.2.2.1
@[irreducible] noncomputable def e0 : Nat := cutT.2.2.2.2.2.2.2.2.2.2.2.2.2.2.2.2.2.2.2.2.2.2.2.2.2.1
@[irreducible] noncomputable def m0 : Str → Option Value := cutT.2.2.2.2.2.2.2.2.2.2.2.2.2.2.2.2.2.2.2.2.2.2.2.2.2.2.1
@[irreducible] noncomputable def Ys : Nat → List Value → Prop := cutT.2.2.2.2.2.2.2.2.2.2.2.2.2.2.2.2.2.2.2.2.2.2.2.2.2.2.2
theorem cutP1 : cutQ1.1 prog w A s h₀ L m cenv news elt iter x px ifs scope pos R I D fp n Pv St oC0 oI0 e0 m0 Ys := by
  delta cutQ1
  dsimp only
  intro Wk hIf hSt hfp hnw hID hIC hDC hn hYl hx hp F N hC0 hst hY0 turn hR
  have hCw : cenv.locals ∉ [I] := fun h => hIC (List.mem_singleton.mp h).symm
  have hDw : D ∉ [I] := fun h => hID (List.mem_singleton.mp h).symm
  have stm : ∀ i h h' (oC oI oC' : Obj) dD dD', St i h → Fr h₀ L h m → News h₀ L h ((cenv.locals, oC) :: (D, dD) :: (I, oI) :: news) → Fr h₀ L h' m → News h₀ L h' ((cenv.locals, oC') :: (D, dD') :: (I, oI) :: news) → cenv.locals ∉ fp → D ∉ fp → St i h' := by
    intro i h h' oC oI oC' dD dD' hs F1 N1 F2 N2 hc hd
    refine Wk.frame i h h' hs fun b hb o ho => ?_
    by_cases hbI : b = I
    · subst hbI
      have := (N1 _ (.tail _ (.tail _ (.head _)))).1
      rw [ho] at this
      rw [Option.some.inj this]
      exact (N2 _ (.tail _ (.tail _ (.head _)))).1
    · rcases hfp b hb hbI with ⟨o', ho'⟩ | ⟨o', ho'⟩
      · have := F1.keep _ _ ho'
        rw [ho] at this
        rw [Option.some.inj this]
        exact F2.keep _ _ ho'
      · have := (N1 _ (.tail _ (.tail _ (.tail _ ho')))).1
        rw [ho] at this
        rw [Option.some.inj this]
        exact (N2 _ (.tail _ (.tail _ (.tail _ ho')))).1
  have hCf : cenv.locals ∉ fp := by
    intro hm
    rcases hfp _ hm (Ne.symm hIC) with ⟨o, ho⟩ | ⟨o, ho⟩
    · have := (N _ (.head _)).2.2; rw [ho] at this; cases this
    · exact (hnw _ ho).2.2 rfl
  have hDf : D ∉ fp := by
    intro hm
    rcases hfp _ hm (Ne.symm hID) with ⟨o, ho⟩ | ⟨o, ho⟩
    · have := (N _ (.tail _ (.head _))).2.2; rw [ho] at this; cases this
    · exact (hnw _ ho).2.1 rfl
  refine codeAny_compLoop_tests (fun k s' => ∃ i h tk oC oI mC ys e, s' = { s with heap := h, toks := tk } ∧ k = n + 1 - i ∧ i ≤ n ∧ St i h ∧ Ys i ys ∧ NsO oC mC ∧ Fr h₀ L h m ∧ News h₀ L h ((cenv.locals, oC) :: (D, W.listOf ys.toArray e) :: (I, oI) :: news)) ?_ (n + 1)
    ⟨0, s.heap, s.toks, oC0, oI0, m0, [], e0, rfl, rfl, Nat.zero_le _, hst, hY0, hC0, F, N⟩
  rintro k s' ⟨i, H, tk, oC, oI, mC, ys, e, rfl, rfl, hi, hsti, hY, hC, F1, N1⟩
  have hLI : L ∉ [I] := fun h => (N1 _ (.tail _ (.tail _ (.head _)))).2.1 (List.mem_singleton.mp h).symm
  have upN : ∀ (h₁ : Heap) (oI' : Obj), (∀ b o, b ∉ [I] → H.get? b = some o → h₁.get? b = some o) → h₁.get? I = some oI' → Fr h₀ L h₁ m ∧ News h₀ L h₁ ((cenv.locals, oC) :: (D, W.listOf ys.toArray e) :: (I, oI') :: news) := by
    intro h₁ oI' hk₁ hoI
    refine ⟨⟨F1.ns.at' fun o e => hk₁ _ o hLI e, fun b o q => hk₁ b o (fun hm => ?_) (F1.keep b o q), F1.above⟩, fun p hp => ?_⟩
    · have := (N1 _ (.tail _ (.tail _ (.head _)))).2.2
      rw [← List.mem_singleton.mp hm, q] at this; cases this
    · rcases List.mem_cons.mp hp with rfl | hp
      · exact ⟨hk₁ _ _ hCw (N1 _ (.head _)).1, (N1 _ (.head _)).2⟩
      · rcases List.mem_cons.mp hp with rfl | hp
        · exact ⟨hk₁ _ _ hDw (N1 _ (.tail _ (.head _))).1, (N1 _ (.tail _ (.head _))).2⟩
        · rcases List.mem_cons.mp hp with rfl | hp
          · exact ⟨hoI, (N1 _ (.tail _ (.tail _ (.head _)))).2⟩
          · exact ⟨hk₁ _ _ (fun h => (hnw _ hp).1 (List.mem_singleton.mp h)) (N1 _ (.tail _ (.tail _ (.tail _ hp)))).1, (N1 _ (.tail _ (.tail _ (.tail _ hp)))).2⟩
  by_cases hlt : i < n
  · refine Wk.item i _ _ _ hlt hsti fun v h₁ tk₁ hPv hst₁ hk₁ => ?_
    obtain ⟨oI', hoI'⟩ := hSt _ _ hst₁
    obtain ⟨F2, N2⟩ := upN h₁ oI' hk₁ hoI'
    refine wpAny_assign_Name (wpAny_storeName_local hx (hC h₁ cenv.locals (N2 _ (.head _)).1) (fun h₂ hn₂ hs₂ => ?_) hp)
    obtain ⟨oC', hoC', hC'⟩ := nsO_of hn₂
    have F3 : Fr h₀ L h₂ m := F2.change hs₂ (N2 _ (.head _)).2.1 (N2 _ (.head _)).2.2
    have N3 : News h₀ L h₂ ((cenv.locals, oC') :: (D, W.listOf ys.toArray e) :: (I, oI') :: news) := by
      intro p hp
      rcases List.mem_cons.mp hp with rfl | hp
      · exact ⟨hoC', (N2 _ (.head _)).2⟩
      · refine ⟨(hs₂.2 _ ?_).trans (N2 _ (.tail _ hp)).1, (N2 _ (.tail _ hp)).2⟩
        rcases List.mem_cons.mp hp with rfl | hp
        · exact hDC
        · rcases List.mem_cons.mp hp with rfl | hp
          · exact hIC
          · exact (hnw _ hp).2.2
    have hst₂ : St (i + 1) h₂ := stm _ _ _ _ _ _ _ _ hst₁ F2 N2 F3 N3 hCf hDf
    refine wpAny_mono (turn i v ys e oC' oI' _ h₂ _ _ hlt hPv hY hC' (by simp) F3 N3) (fun ok s₃ q => ?_) fun _ _ x => x
    have fin : ∀ (s₃ : Shared) (P : Prop), CKeep h₀ L m s ((cenv.locals, oC') :: (D, W.listOf ys.toArray e) :: (I, oI') :: news) P s₃ → ∃ h tk, s₃ = { s with heap := h, toks := tk } ∧ Fr h₀ L h m ∧ News h₀ L h ((cenv.locals, oC') :: (D, W.listOf ys.toArray e) :: (I, oI') :: news) ∧ St (i + 1) h ∧ P := by
      rintro s₃ P ⟨h, tk, nw, rfl, F4, N4, hs, hP⟩
      have N5 : News h₀ L h ((cenv.locals, oC') :: (D, W.listOf ys.toArray e) :: (I, oI') :: news) := fun p hp => N4 p (hs p hp)
      exact ⟨h, tk, rfl, F4, N5, stm _ _ _ _ _ _ _ _ hst₂ F3 N3 F4 N5 hCf hDf, hP⟩
    cases ok with
    | false =>
      simp only [Bool.false_eq_true, if_false] at q ⊢
      obtain ⟨h, tk', rfl, F4, N4, st4, hY'⟩ := fin _ _ q
      exact ⟨n + 1 - (i + 1), by omega, i + 1, h, tk', oC', oI', _, ys, e, rfl, rfl, hlt, st4, hY', hC', F4, N4⟩
    | true =>
      simp only [if_true] at q ⊢
      refine wpAny_mono q (fun y s₄ q' => ?_) fun _ _ x => x
      obtain ⟨h, tk', rfl, F4, N4, st4, hY'⟩ := fin _ _ q'
      refine wpAny_list_append_plain (hsz := by have := hYl _ _ hY; simp; omega) ⟨e, (N4 _ (.tail _ (.head _))).1⟩ fun h₅ hl₅ hs₅ => ?_
      obtain ⟨e5, he5⟩ := hl₅
      have zD := N4 _ (.tail _ (.head _))
      have F5 : Fr h₀ L h₅ m := F4.change hs₅ zD.2.1 zD.2.2
      have N5 : News h₀ L h₅ ((cenv.locals, oC') :: (D, W.listOf (ys ++ [y]).toArray e5) :: (I, oI') :: news) := by
        intro p hp
        rcases List.mem_cons.mp hp with rfl | hp
        · exact ⟨(hs₅.2 _ (Ne.symm hDC)).trans (N4 _ (.head _)).1, (N4 _ (.head _)).2⟩
        · rcases List.mem_cons.mp hp with rfl | hp
          · refine ⟨?_, zD.2⟩
            rw [he5]; simp [W.listOf]
          · rcases List.mem_cons.mp hp with rfl | hp
            · exact ⟨(hs₅.2 _ hID).trans (N4 _ (.tail _ (.tail _ (.head _)))).1, (N4 _ (.tail _ (.tail _ (.head _)))).2⟩
            · exact ⟨(hs₅.2 _ (hnw _ hp).2.1).trans (N4 _ (.tail _ (.tail _ (.tail _ hp)))).1, (N4 _ (.tail _ (.tail _ (.tail _ hp)))).2⟩
      exact ⟨n + 1 - (i + 1), by omega, i + 1, h₅, tk', oC', oI', _, ys ++ [y], e5, rfl, rfl, hlt, stm _ _ _ _ _ _ _ _ st4 F4 N4 F5 N5 hCf hDf, hY', hC', F5, N5⟩
  · have hin : i = n := by omega
    subst hin
    refine Wk.done _ _ _ hsti fun h₁ tk₁ hk₁ => ?_
    have N9 : News h₀ L h₁ ((cenv.locals, oC) :: (D, W.listOf ys.toArray e) :: news) := by
      intro p hp
      rcases List.mem_cons.mp hp with rfl | hp
      · exact ⟨hk₁ _ _ hCw (N1 _ (.head _)).1, (N1 _ (.head _)).2⟩
      · rcases List.mem_cons.mp hp with rfl | hp
        · exact ⟨hk₁ _ _ hDw (N1 _ (.tail _ (.head _))).1, (N1 _ (.tail _ (.head _))).2⟩
        · exact ⟨hk₁ _ _ (fun h => (hnw _ hp).1 (List.mem_singleton.mp h)) (N1 _ (.tail _ (.tail _ (.tail _ hp)))).1, (N1 _ (.tail _ (.tail _ (.tail _ hp)))).2⟩
    refine hR ys e oC mC h₁ tk₁ hY ⟨F1.ns.at' fun o e => hk₁ _ o hLI e, fun b o q => hk₁ b o (fun hm => ?_) (F1.keep b o q), F1.above⟩ hC N9
    have := (N1 _ (.tail _ (.tail _ (.head _)))).2.2
    rw [← List.mem_singleton.mp hm, q] at this; cases this
theorem cutR1 : ∀ (prog : Program) (w : World) (A : Around) (s : Shared) (h₀ : Heap) (L : Addr) (m : Str → Option Value) (cenv : Env) (news : List (Addr × Obj)) (elt : Expr) (iter : Expr) (x : Str) (px : Pos) (ifs : List Expr) (scope : Scope) (pos : Pos) (R : Result → Shared → Prop) (I : Addr) (D : Addr) (fp : List Addr) (n : Nat) (Pv : Nat → Value → Prop) (St : Nat → Heap → Prop) (oC0 : Obj) (oI0 : Obj) (e0 : Nat) (m0 : Str → Option Value) (Ys : Nat → List Value → Prop), cutQ1.1 prog w A s h₀ L m cenv news elt iter x px ifs scope pos R I D fp n Pv St oC0 oI0 e0 m0 Ys := by
  intro prog w A s h₀ L m cenv news elt iter x px ifs scope pos R I D fp n Pv St oC0 oI0 e0 m0 Ys
  with_unfolding_all exact of_gen (P := fun t : Program × World × Around × Shared × Heap × Addr × (Str → Option Value) × Env × (List (Addr × Obj)) × Expr × Expr × Str × Pos × (List Expr) × Scope × Pos × (Result → Shared → Prop) × Addr × Addr × (List Addr) × Nat × (Nat → Value → Prop) × (Nat → Heap → Prop) × Obj × Obj × Nat × (Str → Option Value) × (Nat → List Value → Prop) => cutQ1.1 t.1 t.2.1 t.2.2.1 t.2.2.2.1 t.2.2.2.2.1 t.2.2.2.2.2.1 t.2.2.2.2.2.2.1 t.2.2.2.2.2.2.2.1 t.2.2.2.2.2.2.2.2.1 t.2.2.2.2.2.2.2.2.2.1 t.2.2.2.2.2.2.2.2.2.2.1 t.2.2.2.2.2.2.2.2.2.2.2.1 t.2.2.2.2.2.2.2.2.2.2.2.2.1 t.2.2.2.2.2.2.2.2.2.2.2.2.2.1 t.2.2.2.2.2.2.2.2.2.2.2.2.2.2.1 t.2.2.2.2.2.2.2.2.2.2.2.2.2.2.2.1 t.2.2.2.2.2.2.2.2.2.2.2.2.2.2.2.2.1 t.2.2.2.2.2.2.2.2.2.2.2.2.2.2.2.2.2.1 t.2.2.2.2.2.2.2.2.2.2.2.2.2.2.2.2.2.2.1 t.2.2.2.2.2.2.2.2.2.2.2.2.2.2.2.2.2.2.2.1 t.2.2.2.2.2.2.2.2.2.2.2.2.2.2.2.2.2.2.2.2.1 t.2.2.2.2.2.2.2.2.2.2.2.2.2.2.2.2.2.2.2.2.2.1 t.2.2.2.2.2.2.2.2.2.2.2.2.2.2.2.2.2.2.2.2.2.2.1 t.2.2.2.2.2.2.2.2.2.2.2.2.2.2.2.2.2.2.2.2.2.2.2.1 t.2.2.2.2.2.2.2.2.2.2.2.2.2.2.2.2.2.2.2.2.2.2.2.2.1 t.2.2.2.2.2.2.2.2.2.2.2.2.2.2.2.2.2.2.2.2.2.2.2.2.2.1 t.2.2.2.2.2.2.2.2.2.2.2.2.2.2.2.2.2.2.2.2.2.2.2.2.2.2.1 t.2.2.2.2.2.2.2.2.2.2.2.2.2.2.2.2.2.2.2.2.2.2.2.2.2.2.2) cutP1 (prog, w, A, s, h₀, L, m, cenv, news, elt, iter, x, px, ifs, scope, pos, R, I, D, fp, n, Pv, St, oC0, oI0, e0, m0, Ys)
end C
end compLoop_cut
theorem compLoop_cut {prog : Program} {w : World} {A : Around} {s : Shared} {h₀ : Heap} {L : Addr} {m : Str → Option Value} {cenv : Env} {news : List (Addr × Obj)} {elt iter : Expr} {x : Str} {px : Pos} {ifs : List Expr} {scope : Scope} {pos : Pos} {R : Result → Shared → Prop} {I D : Addr} {fp : List Addr} {n : Nat} {Pv : Nat → Value → Prop} {St : Nat → Heap → Prop} {oC0 oI0 : Obj} {e0 : Nat} {m0 : Str → Option Value}
    (Ys : Nat → List Value → Prop)
    (Wk : Walks prog w A I fp [I] n Pv St) (hIf : I ∈ fp) (hSt : ∀ i h, St i h → ∃ o, h.get? I = some o) (hfp : ∀ b ∈ fp, b ≠ I → (∃ o, h₀.get? b = some o) ∨ (∃ o, (b, o) ∈ news))
    (hnw : ∀ p ∈ news, p.1 ≠ I ∧ p.1 ≠ D ∧ p.1 ≠ cenv.locals) (hID : I ≠ D) (hIC : I ≠ cenv.locals) (hDC : D ≠ cenv.locals) (hn : n ≤ sizeLine) (hYl : ∀ i ys, Ys i ys → ys.length ≤ i)
    (hx : cenv.kindOf x = some .local) (hp : (cenv.scope.kind == .class || (cenv.scope.kind == .module && cenv.locals != cenv.globals)) = false)
    (F : Fr h₀ L s.heap m) (N : News h₀ L s.heap ((cenv.locals, oC0) :: (D, W.listOf #[] e0) :: (I, oI0) :: news)) (hC0 : NsO oC0 m0) (hst : St 0 s.heap) (hY0 : Ys 0 [])
    (turn : CTurn prog w A cenv h₀ L m s x elt ifs D I news n Pv Ys)
    (hR : ∀ ys e oC' mC' h' tk, Ys n ys → Fr h₀ L h' m → NsO oC' mC' → News h₀ L h' ((cenv.locals, oC') :: (D, W.listOf ys.toArray e) :: news) → R (.ok .next) { s with heap := h', toks := tk }) :
    codeAny (model prog w) A (.compLoop (.ListComp elt [⟨.Name x px, iter, ifs, 0⟩] scope pos) 0 (.ref I) (.ref D) cenv) R s :=
  compLoop_cut.cutQ1.2 compLoop_cut.C.cutR1 Ys Wk hIf hSt hfp hnw hID hIC hDC hn hYl hx hp F N hC0 hst hY0 turn hR
section
variable {prog : Program} {w : World} {A : Around} {E : Value → Shared → Prop} {s : Shared} {h₀ : Heap} {L : Addr} {m : Str → Option Value} {env cenv : Env} {news : List (Addr × Obj)}
end
end Mine
end
section
namespace Mine
theorem fr_none' {g h : Heap} {L : Addr} {m : Str → Option Value} (F : Fr g L h m) : g.get? L = none := by
  cases q : g.get? L with
  | none => rfl
  | some o => exact absurd (Nat.lt_of_lt_of_le (Heap.lt_size q) F.above) (Nat.lt_irrefl _)
section
variable {prog : Program} {w : World} {A : Around} {E : Value → Shared → Prop} {s : Shared} {h₀ : Heap} {L : Addr} {m : Str → Option Value} {env : Env} {news : List (Addr × Obj)}
theorem comp_block {elt iter : Expr} {x : Str} {px : Pos} {ifs : List Expr} {scope : Scope} {cl : List (Str × Addr)} {pos : Pos} {I : Addr} {oI : Obj} {fp : List Addr} {n : Nat} {Pv : Nat → Value → Prop} {St : Nat → Heap → Prop}
    {RR : Value → Addr → Result → Shared → Prop} (Ys : Nat → List Value → Prop)
    (Wk : Walks prog w A I fp [I] n Pv St) (hIf : I ∈ fp) (hSt : ∀ i h, St i h → ∃ o, h.get? I = some o) (hfp : ∀ b ∈ fp, b ≠ I → (∃ o, h₀.get? b = some o) ∨ (∃ o, (b, o) ∈ news))
    (hnw : ∀ p ∈ news, p.1 ≠ I) (hn : n ≤ sizeLine) (hYl : ∀ i ys, Ys i ys → ys.length ≤ i)
    (hcell : ∀ y ∈ scope.names, y.2 ≠ .cell) (hkind : scope.kind = .function) (hx : scope.names.lookup x = some .local)
    (F : Fr h₀ L s.heap m) (N : News h₀ L s.heap ((I, oI) :: news)) (hst : St 0 s.heap) (hY0 : Ys 0 [])
    (turn : ∀ C D, D < C → (∀ p ∈ news, p.1 < D) → CTurn prog w A (compEnvC scope cl C env) h₀ L m s x elt ifs D I news n Pv Ys)
    (hRR : ∀ C D ys e oC' mC' h' tk, Ys n ys → D < C → (∀ p ∈ news, p.1 < D) → Fr h₀ L h' m → NsO oC' mC' → News h₀ L h' ((C, oC') :: (D, W.listOf ys.toArray e) :: news) → RR (.ref D) C (.ok .next) { s with heap := h', toks := tk }) :
    wpAny (model prog w) A (newList []) (fun acc s₃ => wpAny (model prog w) A (newFunctionEnv scope env.globals cl [] env.qual none .none (some env)) (fun cenv s₄ =>
      codeAny (model prog w) A (.compStart (.ListComp elt [⟨.Name x px, iter, ifs, 0⟩] scope pos) 0 (.ref I) acc { cenv with scope := relabel scope env }) (RR acc cenv.locals) s₄) E s₃) E s := by
  refine wpAny_newObj_type (wpAny_newFunctionEnv hcell (by intro y hy; simp at hy) (fun h₁ hns₁ hsb₁ => ?_) hkind)
  dsimp only at hns₁ hsb₁ ⊢
  have Fa := F.push { cls := .type "list", dict := none, data := .seq ([] : List Value).toArray }
  have Na := News.push F N { cls := .type "list", dict := none, data := .seq ([] : List Value).toArray }
  have hDn : ∀ p ∈ (I, oI) :: news, p.1 ≠ s.heap.objs.size := fun p hp => Nat.ne_of_lt (Heap.lt_size (N p hp).1)
  have hsz : s.heap.objs.size < (s.heap.push { cls := .type "list", dict := none, data := .seq ([] : List Value).toArray }).objs.size := by rw [Heap.size_push]; exact Nat.lt_succ_self _
  generalize hH2 : s.heap.push { cls := .type "list", dict := none, data := .seq ([] : List Value).toArray } = H2 at hns₁ hsb₁ Fa Na hsz ⊢
  have hDC : s.heap.objs.size ≠ H2.objs.size := Nat.ne_of_lt hsz
  have hCn : ∀ p ∈ (s.heap.objs.size, W.listOf #[] 0) :: (I, oI) :: news, p.1 ≠ H2.objs.size := fun p hp => Nat.ne_of_lt (Heap.lt_size (Na p hp).1)
  have old : ∀ b o, H2.get? b = some o → h₁.get? b = some o := fun b o e => hsb₁.extBut b o (Nat.ne_of_lt (Heap.lt_size e)) (Heap.get?_push_of_some _ e)
  have F1 : Fr h₀ L h₁ m := Fa.keeps old
  obtain ⟨oC, hoC, hCO⟩ := nsO_of hns₁
  have hCL : H2.objs.size ≠ L := by
    obtain ⟨o, _, _, ho, _⟩ := Fa.ns
    exact (Nat.ne_of_lt (Heap.lt_size ho)).symm
  have hC0 : h₀.get? H2.objs.size = none := by
    cases q : h₀.get? H2.objs.size with
    | none => rfl
    | some o => exact absurd (Heap.lt_size (Fa.keep _ _ q)) (Nat.lt_irrefl _)
  have N1 : News h₀ L h₁ ((H2.objs.size, oC) :: (s.heap.objs.size, W.listOf #[] 0) :: (I, oI) :: news) := by
    intro p hp
    rcases List.mem_cons.mp hp with rfl | hp
    · exact ⟨hoC, hCL, hC0⟩
    · exact ⟨old _ _ (Na p hp).1, (Na p hp).2⟩
  have hst₁ : St 0 h₁ := Wk.frame _ _ _ hst fun b hb o e => old b o (hH2 ▸ Heap.get?_push_of_some _ e)
  have hnw2 : ∀ p ∈ news, p.1 ≠ s.heap.objs.size ∧ p.1 ≠ H2.objs.size := fun p hp => ⟨hDn p (.tail _ hp), hCn p (.tail _ (.tail _ hp))⟩
  have loop : ∀ s₃ : Shared, s₃ = { s with heap := h₁, toks := s.toks + ([] : List (Str × Value)).length } →
      codeAny (model prog w) A (.compLoop (.ListComp elt [⟨.Name x px, iter, ifs, 0⟩] scope pos) 0 (.ref I) (.ref s.heap.objs.size) (compEnvC scope cl H2.objs.size env))
        (RR (.ref s.heap.objs.size) H2.objs.size) s₃ := by
    rintro s₃ rfl
    refine compLoop_cut (cenv := compEnvC scope cl H2.objs.size env) Ys Wk hIf hSt hfp (fun p hp => ⟨hnw p hp, hnw2 p hp⟩) (hDn _ (.head _)) (hCn _ (.tail _ (.head _))) hDC hn hYl (lookup_relabel_local hx) (by simp [compEnvC, relabel, hkind]) F1 N1 hCO hst₁ hY0 ?_ ?_
    · exact turn H2.objs.size s.heap.objs.size hsz (fun p hp => Heap.lt_size (N p (.tail _ hp)).1)
    · intro ys e oC' mC' h' tk hy F' hC' N'
      exact hRR _ _ ys e oC' mC' h' tk hy hsz (fun p hp => Heap.lt_size (N p (.tail _ hp)).1) F' hC' N'
  exact codeAny_compStart_list (loop _ rfl) (Wk.self 0 _ _ _ hst₁ (loop _ rfl))
noncomputable def CompK (prog : Program) (w : World) (A : Around) (env : Env) (x : Str) (px : Pos) (elt iter : Expr) (ifs : List Expr) (scope : Scope) (cl : List (Str × Addr)) (pos : Pos) (use : Option (Value → Sem Unit))
    (Q : Value → Shared → Prop) (E : Value → Shared → Prop) (xv : Value) (s₁ : Shared) : Prop :=
  wpAny (model prog w) A (pyIter xv) (fun it s₂ => wpAny (model prog w) A (newList []) (fun acc s₃ => wpAny (model prog w) A (newFunctionEnv scope env.globals cl [] env.qual none .none (some env)) (fun cenv s₄ =>
      codeAny (model prog w) A (.compStart (.ListComp elt [⟨.Name x px, iter, ifs, 0⟩] scope pos) 0 it acc { cenv with scope := relabel scope env }) (compPost (model prog w) A E use Q acc cenv.locals) s₄) E s₃) E s₂) E s₁
theorem comp_eval {elt iter : Expr} {x : Str} {px : Pos} {ifs : List Expr} {scope : Scope} {cl : List (Str × Addr)} {pos : Pos} {Q : Value → Shared → Prop}
    (h : wpAny (model prog w) A (eval iter env) (CompK prog w A env x px elt iter ifs scope cl pos none Q E) E s)
    (hclos : closureFor scope env = pure cl) (hkind : scope.kind = .function)
    (hnames : ∀ y ∈ scope.names, y.2 = .local → scope.names.lookup y.1 = some .local) (hs : ∀ x, foldedSetIterable iter env x = pure x) :
    wpAny (model prog w) A (eval (.ListComp elt [⟨.Name x px, iter, ifs, 0⟩] scope pos) env) Q E s := by
  rw [eval_ListComp]
  exact wpAny_comprehension_free (use := none) rfl hs hclos hkind hnames h
theorem comp_assign {elt iter : Expr} {x y : Str} {px py : Pos} {ifs : List Expr} {scope : Scope} {cl : List (Str × Addr)} {pos spos : Pos} {Q : Flow → Shared → Prop}
    (h : wpAny (model prog w) A (eval iter env) (CompK prog w A env x px elt iter ifs scope cl pos (some (assign (.Name y py) env)) (fun _ s' => Q .next s') E) E s)
    (hsw : swapsWith (.ListComp elt [⟨.Name x px, iter, ifs, 0⟩] scope pos) (some (.Name y py)) spos.line env = pure true)
    (hclos : closureFor scope env = pure cl) (hkind : scope.kind = .function)
    (hnames : ∀ y ∈ scope.names, y.2 = .local → scope.names.lookup y.1 = some .local) (hs : ∀ x, foldedSetIterable iter env x = pure x) :
    wpAny (model prog w) A (exec (.Assign [.Name y py] (.ListComp elt [⟨.Name x px, iter, ifs, 0⟩] scope pos) spos) env) Q E s := by
  rw [exec_Assign_Name_used _ _ _ _ hsw]
  refine wpAny_bind (wpAny_standAt (wpAny_bind ?_))
  show wpAny _ A (do let _ ← comprehension (.ListComp elt [⟨.Name x px, iter, ifs, 0⟩] scope pos) scope env _ (newList []) false (eval iter env) (some (assign (.Name y py) env))) _ _ s
  exact wpAny_bind (wpAny_mono (wpAny_comprehension_free (use := some (assign (.Name y py) env)) (Q := fun _ s' => Q .next s') rfl hs hclos hkind hnames h) (fun _ s' hq => wpAny_pure (wpAny_pure hq)) fun _ _ e => e)
theorem post_none {Q : Value → Shared → Prop} {C D : Addr} {ys : List Value} {e : Nat} {oC' : Obj} {mC' : Str → Option Value} {h' : Heap} {tk : Nat} (hDC : D < C) (hnw : ∀ p ∈ news, p.1 < D)
    (F : Fr h₀ L h' m) (hC : NsO oC' mC') (N : News h₀ L h' ((C, oC') :: (D, W.listOf ys.toArray e) :: news))
    (k : ∀ h'', Fr h₀ L h'' m → News h₀ L h'' ((D, W.listOf ys.toArray e) :: news) → Q (.ref D) { s with heap := h'', toks := tk }) :
    compPost (model prog w) A E none Q (.ref D) C (.ok .next) { s with heap := h', toks := tk } := by
  refine ⟨mC', hC _ _ (N _ (.head _)).1, fun h'' hs => ?_⟩
  refine k h'' (F.change hs (N _ (.head _)).2.1 (N _ (.head _)).2.2) fun p hp => ?_
  refine ⟨(hs.2 _ ?_).trans (N _ (.tail _ hp)).1, (N _ (.tail _ hp)).2⟩
  rcases List.mem_cons.mp hp with rfl | hp
  · exact Nat.ne_of_lt hDC
  · exact Nat.ne_of_lt (Nat.lt_trans (hnw _ hp) hDC)
theorem post_assign {Q : Value → Shared → Prop} {y : Str} {py : Pos} {C D : Addr} {ys : List Value} {e : Nat} {oC' : Obj} {mC' : Str → Option Value} {h' : Heap} {tk : Nat} (hDC : D < C) (hnw : ∀ p ∈ news, p.1 < D)
    (hL : env.locals = L) (hy : env.kindOf y = some .local) (hp : (env.scope.kind == .class || (env.scope.kind == .module && env.locals != env.globals)) = false)
    (F : Fr h₀ L h' m) (hC : NsO oC' mC') (N : News h₀ L h' ((C, oC') :: (D, W.listOf ys.toArray e) :: news))
    (k : ∀ h'' tk, Fr h₀ L h'' (fun z => if z = y then some (.ref D) else m z) → News h₀ L h'' ((D, W.listOf ys.toArray e) :: news) → Q .none { s with heap := h'', toks := tk }) :
    compPost (model prog w) A E (some (assign (.Name y py) env)) Q (.ref D) C (.ok .next) { s with heap := h', toks := tk } := by
  subst hL
  show wpAny _ A (assign (.Name y py) env (.ref D)) _ _ _
  refine wpAny_assign_Name (wpAny_storeName_local hy F.ns (fun h₂ hn₂ hs₂ => ?_) hp)
  have F2 : Fr h₀ env.locals h₂ (fun z => if z = y then some (.ref D) else m z) := by
    refine ⟨hn₂, fun b o q => (hs₂.2 b fun z => ?_).trans (F.keep b o q), F.above⟩
    have := fr_none' F
    rw [z, this] at q; cases q
  have N2 : ∀ p ∈ (C, oC') :: (D, W.listOf ys.toArray e) :: news, h₂.get? p.1 = some p.2 ∧ p.1 ≠ env.locals ∧ h₀.get? p.1 = none := fun p hp => ⟨(hs₂.2 _ (N p hp).2.1).trans (N p hp).1, (N p hp).2⟩
  refine ⟨mC', hC _ _ (N2 _ (.head _)).1, fun h'' hs => ?_⟩
  refine k h'' _ (F2.change hs (N _ (.head _)).2.1 (N _ (.head _)).2.2) fun p hp => ?_
  refine ⟨(hs.2 _ ?_).trans (N2 _ (.tail _ hp)).1, (N _ (.tail _ hp)).2⟩
  rcases List.mem_cons.mp hp with rfl | hp
  · exact Nat.ne_of_lt hDC
  · exact Nat.ne_of_lt (Nat.lt_trans (hnw _ hp) hDC)
end
end Mine
end
section
namespace Mine
theorem paired_get {α : Type} {is : α → Value → Prop} : ∀ {as : List α} {vs : List Value}, Paired is as vs → ∀ (i : Nat) v, vs[i]? = some v → ∃ a, as[i]? = some a ∧ is a v
  | _, _, .nil, i, v, h => by simp at h
  | _, _, .cons h1 h2, 0, v, h => by simp at h; subst h; exact ⟨_, rfl, h1⟩
  | _, _, .cons h1 h2, i + 1, v, h => by simpa using paired_get h2 i v (by simpa using h)
section
variable {prog : Program} {w : World} {A : Around} {E : Value → Shared → Prop} {s : Shared} {h₀ : Heap} {L : Addr} {m : Str → Option Value} {env : Env} {news : List (Addr × Obj)}
structure CBlock {α : Type} (prog : Program) (w : World) (A : Around) (env : Env) (h₀ : Heap) (L : Addr) (m : Str → Option Value) (s : Shared) (x : Str) (elt : Expr) (ifs : List Expr) (scope : Scope) (cl : List (Str × Addr)) (news : List (Addr × Obj))
    (as : List α) (is : α → Value → Prop) (pz : α → Bool) (Z : α → Value → Prop) : Prop where
  test : ∀ C D I a v oC oD oI mC h tk E', D < C → (∀ p ∈ news, p.1 < D) → a ∈ as → is a v → NsO oC mC → mC x = some v → Fr h₀ L h m → News h₀ L h ((C, oC) :: (D, oD) :: (I, oI) :: news) →
    wpAny (model prog w) A (ifsOf ifs (compEnvC scope cl C env)) (fun ok s₃ => CKeep h₀ L m s ((C, oC) :: (D, oD) :: (I, oI) :: news) (ok = pz a) s₃) E' { s with heap := h, toks := tk }
  elt : ∀ C D I a v oC oD oI mC h tk E', D < C → (∀ p ∈ news, p.1 < D) → a ∈ as → is a v → pz a = true → NsO oC mC → mC x = some v → Fr h₀ L h m → News h₀ L h ((C, oC) :: (D, oD) :: (I, oI) :: news) →
    wpAny (model prog w) A (eval elt (compEnvC scope cl C env)) (fun y s₃ => CKeep h₀ L m s ((C, oC) :: (D, oD) :: (I, oI) :: news) (Z a y) s₃) E' { s with heap := h, toks := tk }
theorem turn_of_block {α : Type} {x : Str} {elt : Expr} {ifs : List Expr} {scope : Scope} {cl : List (Str × Addr)} {as : List α} {is : α → Value → Prop} {pz : α → Bool} {Z : α → Value → Prop} {Pv : Nat → Value → Prop} {I : Addr}
    (hPv : ∀ i v, Pv i v → ∃ a, as[i]? = some a ∧ is a v) (b : CBlock prog w A env h₀ L m s x elt ifs scope cl news as is pz Z) :
    ∀ C D, D < C → (∀ p ∈ news, p.1 < D) → CTurn prog w A (compEnvC scope cl C env) h₀ L m s x elt ifs D I news as.length Pv (fun i ys => Paired Z ((as.take i).filter pz) ys) := by
  intro C D hDC hnw i v ys e oC oI mC h tk E' hi hv hY hC hm F N
  obtain ⟨a, ha, hav⟩ := hPv i v hv
  have hmem : a ∈ as := List.mem_of_getElem? ha
  refine wpAny_mono (b.test C D I a v oC _ oI mC h tk E' hDC hnw hmem hav hC hm F N) (fun ok s₃ q => ?_) fun _ _ e => e
  obtain ⟨h3, tk3, nw3, rfl, F3, N3, hs3, rfl⟩ := q
  cases hp : pz a with
  | false =>
    simp only [Bool.false_eq_true, if_false]
    refine ⟨h3, tk3, nw3, rfl, F3, N3, hs3, ?_⟩
    rw [take_succ_filter pz as i a ha, hp]
    simpa using hY
  | true =>
    simp only [if_true]
    refine wpAny_mono (b.elt C D I a v oC _ oI mC h3 tk3 E' hDC hnw hmem hav hp hC hm F3 fun p hp => N3 p (hs3 p hp)) (fun y s₄ q => ?_) fun _ _ e => e
    obtain ⟨h4, tk4, nw4, rfl, F4, N4, hs4, hz⟩ := q
    refine ⟨h4, tk4, nw4, rfl, F4, N4, hs4, ?_⟩
    rw [take_succ_filter pz as i a ha, hp]
    exact Paired.snoc hY hz
theorem Ys_len {α : Type} {as : List α} {pz : α → Bool} {Z : α → Value → Prop} : ∀ i ys, Paired Z ((as.take i).filter pz) ys → ys.length ≤ i := by
  intro i ys h
  rw [← h.length]
  refine Nat.le_trans (List.length_filter_le _ _) ?_
  rw [List.length_take]; omega
noncomputable def rangeL (a₀ : Int) (n : Nat) : List Int := (List.range n).map fun (i : Nat) => a₀ + (i : Int)
noncomputable def isInt (a : Int) (v : Value) : Prop := ∃ t, v = .int a t
theorem compK_range {elt iter : Expr} {x : Str} {px : Pos} {ifs : List Expr} {scope : Scope} {cl : List (Str × Addr)} {pos : Pos} {use : Option (Value → Sem Unit)} {Q : Value → Shared → Prop}
    {r : Addr} {a₀ b₀ : Int} {t₀ u₀ v₀ : Tok} (n : Nat) (pz : Int → Bool) (Z : Int → Value → Prop)
    (hr : IsRange s.heap r a₀ b₀ 1 t₀ u₀ v₀) (hsmall : Builtin.Range.small a₀ b₀ 1 = true) (hn : Builtin.Range.rangeSize a₀ b₀ 1 = (n : Int)) (hsz : n ≤ sizeLine) (hh : A.handled = none)
    (F : Fr h₀ L s.heap m) (N : News h₀ L s.heap news) (hcell : ∀ y ∈ scope.names, y.2 ≠ .cell) (hkind : scope.kind = .function) (hx : scope.names.lookup x = some .local)
    (blk : CBlock prog w A env h₀ L m s x elt ifs scope cl news (rangeL a₀ n) isInt pz Z)
    (done : ∀ C D ys e oC' mC' h' tk, Paired Z ((rangeL a₀ n).filter pz) ys → D < C → (∀ p ∈ news, p.1 < D) → Fr h₀ L h' m → NsO oC' mC' → News h₀ L h' ((C, oC') :: (D, W.listOf ys.toArray e) :: news) → compPost (model prog w) A E use Q (.ref D) C (.ok .next) { s with heap := h', toks := tk }) :
    CompK prog w A env x px elt iter ifs scope cl pos use Q E (.ref r) s := by
  unfold CompK
  refine wpAny_pyIter_range hr hsmall ?_
  have hlen : (rangeL a₀ n).length = n := by simp [rangeL]
  have Wk : Walks prog w A s.heap.objs.size [s.heap.objs.size] [s.heap.objs.size] n (fun i v => i < n ∧ ∃ t, v = .int (a₀ + i * 1) t)
      (fun i h => IsRangeIter h s.heap.objs.size (a₀ + (i : Nat) * 1) ((n : Int) - (i : Nat)) 1) := (Walks.range hh _ a₀ 1 n).bound
  have NI := News.push F N { cls := .type "range_iterator", data := .fields #[rawInt a₀, rawInt (Builtin.Range.rangeSize a₀ b₀ 1), rawInt 1] }
  refine comp_block (Wk := Wk) (fun i ys => Paired Z (((rangeL a₀ n).take i).filter pz) ys) (.head _) (fun i h st => ⟨_, st⟩) ?_ ?_ hsz Ys_len hcell hkind hx (F.push _) NI (by show IsRangeIter _ _ _ _ _; rw [hn]; simpa using Heap.get?_push_size _ rfl) (by simpa using Paired.nil) ?_ ?_
  · intro b hb hne; exact absurd (List.mem_singleton.mp hb) hne
  · intro p hp e
    exact absurd (Heap.lt_size (N p hp).1) (by rw [e]; exact Nat.lt_irrefl _)
  · have := turn_of_block (I := s.heap.objs.size) (Pv := fun i v => i < n ∧ ∃ t, v = .int (a₀ + i * 1) t) (fun i v hv => ⟨a₀ + (i : Int), by simp [rangeL, hv.1], by obtain ⟨_, t, e⟩ := hv; exact ⟨t, by rw [e, Int.mul_one]⟩⟩) (s := { s with heap := s.heap.push { cls := .type "range_iterator", data := .fields #[rawInt a₀, rawInt (Builtin.Range.rangeSize a₀ b₀ 1), rawInt 1] } }) ⟨blk.test, blk.elt⟩
    rw [hlen] at this
    exact this
  · intro C D ys e oC' mC' h' tk hy hDC hnw F' hC' N'
    rw [List.take_of_length_le (by rw [hlen]; exact Nat.le_refl _)] at hy
    exact done C D ys e oC' mC' h' tk hy hDC hnw F' hC' N'
theorem compK_list {α : Type} {elt iter : Expr} {x : Str} {px : Pos} {ifs : List Expr} {scope : Scope} {cl : List (Str × Addr)} {pos : Pos} {use : Option (Value → Sem Unit)} {Q : Value → Shared → Prop}
    {l : Addr} {vs : List Value} (as : List α) (is : α → Value → Prop) (pz : α → Bool) (Z : α → Value → Prop)
    (hls : s.heap.IsList l vs.toArray) (hp : Paired is as vs) (hl0 : (∃ o, h₀.get? l = some o) ∨ (∃ o, (l, o) ∈ news)) (hsz : vs.length ≤ sizeLine) (hh : A.handled = none)
    (F : Fr h₀ L s.heap m) (N : News h₀ L s.heap news) (hcell : ∀ y ∈ scope.names, y.2 ≠ .cell) (hkind : scope.kind = .function) (hx : scope.names.lookup x = some .local)
    (blk : CBlock prog w A env h₀ L m s x elt ifs scope cl news as is pz Z)
    (done : ∀ C D ys e oC' mC' h' tk, Paired Z (as.filter pz) ys → D < C → (∀ p ∈ news, p.1 < D) → Fr h₀ L h' m → NsO oC' mC' → News h₀ L h' ((C, oC') :: (D, W.listOf ys.toArray e) :: news) → compPost (model prog w) A E use Q (.ref D) C (.ok .next) { s with heap := h', toks := tk }) :
    CompK prog w A env x px elt iter ifs scope cl pos use Q E (.ref l) s := by
  unfold CompK
  obtain ⟨ol, hol, _⟩ := id hls
  have hlt : l < s.heap.objs.size := Heap.lt_size hol
  have hne : l ≠ s.heap.objs.size := Nat.ne_of_lt hlt
  have hlen : as.length = vs.length := hp.length
  refine wpAny_pyIter_list hls ?_
  have Wk := Walks.list (prog := prog) (w := w) hh s.heap.objs.size l hne vs.toArray
  have hls2 : vs.toArray.size = as.length := by simp [hlen]
  rw [hls2] at Wk
  have NI := News.push F N { cls := .type "list_iterator", data := .fields #[.ref l, .int 0 0] }
  refine comp_block (Wk := Wk) (fun i ys => Paired Z ((as.take i).filter pz) ys) (.head _) (fun i h st => let ⟨o, ho, _⟩ := st.1; ⟨o, ho⟩) ?_ ?_ (hlen ▸ hsz) Ys_len hcell hkind hx (F.push _) NI ⟨⟨_, Heap.get?_push_size _ rfl, rfl, rfl⟩, hls.at fun o e => Heap.get?_push_of_some _ e⟩ (by simpa using Paired.nil) ?_ ?_
  · intro b hb hne'
    rcases List.mem_cons.mp hb with e | hb
    · exact absurd e hne'
    · rw [List.mem_singleton.mp hb]; exact hl0
  · intro p hp e
    exact absurd (Heap.lt_size (N p hp).1) (by rw [e]; exact Nat.lt_irrefl _)
  · refine turn_of_block (I := s.heap.objs.size) (fun i v hv => ?_) ⟨blk.test, blk.elt⟩
    have hv' : vs[i]? = some v := by simpa using hv
    exact paired_get hp i v hv'
  · intro C D ys e oC' mC' h' tk hy hDC hnw F' hC' N'
    rw [List.take_length] at hy
    exact done C D ys e oC' mC' h' tk hy hDC hnw F' hC' N'
theorem name_comp {scope : Scope} {cl : List (Str × Addr)} {C : Addr} {oC : Obj} {mC : Str → Option Value} {x : Str} {pos : Pos} {v : Value} {Q : Value → Shared → Prop} {M : Model} {nw : List (Addr × Obj)} (N : News h₀ L s.heap nw) (hC : (C, oC) ∈ nw) (hO : NsO oC mC) (hv : mC x = some v) (h : Q v s)
    (hk : (compEnvC scope cl C env).scope.kind = .function) (hl : (compEnvC scope cl C env).kindOf x = some .local) (hd : (x == ("__debug__" : Str)) = false) :
    wpAny M A (eval (.Name x pos) (compEnvC scope cl C env)) Q E s := ldVarK (hO _ _ (N _ hC).1) hv h hk hl hd
end
theorem paired_ints {f : Int → Int} : ∀ {as : List Int} {ys : List Value}, Paired (fun a y => isInt (f a) y) as ys → IntsAre ys (as.map f)
  | [], _, .nil => .nil
  | a :: as, _, .cons ⟨t, e⟩ r => by subst e; exact .cons _ _ (paired_ints r)
theorem ints_paired : ∀ {ns : List Int} {vs : List Value}, IntsAre vs ns → Paired isInt ns vs
  | _, _, .nil => .nil
  | _, _, .cons n t h => .cons ⟨t, rfl⟩ (ints_paired h)
end Mine
end
section
namespace Mine
section
variable {prog : Program} {w : World} {A : Around} {E : Value → Shared → Prop} {s : Shared} {h₀ : Heap} {L : Addr} {m : Str → Option Value} {env : Env} {news : List (Addr × Obj)}
theorem sum_led {l : Addr} {vs : List Value} {ns : List Int} {Q : Value → Shared → Prop} (hh : A.handled = none) (F : Fr h₀ L s.heap m) (N : News h₀ L s.heap news)
    (hl : s.heap.IsList l vs.toArray) (hi : IntsAre vs ns) (h : ∀ h' t tk, Fr h₀ L h' m → News h₀ L h' news → Q (.int ns.sum t) { s with heap := h', toks := tk }) :
    wpAny (model prog w) A (call (.builtin "sum") [.ref l]) Q E s := by
  obtain ⟨xs, e⟩ := hi.allInts.items
  have hns : ns = xs.toList.map (·.1) := by
    rw [← hi.numsOf, ← nums_intItems, ← e]
  rw [e] at hl
  refine sum_intListG hh hl fun h' tk t' hk => ?_
  have := h h' t' tk (F.keeps hk) (N.grown hk)
  rw [preSum_eq, List.take_of_length_le (by simp), ← hns]
  exact this
theorem min_led {l : Addr} {vs : List Value} {ns : List Int} {v : Int} {Q : Value → Shared → Prop} (hh : A.handled = none) (F : Fr h₀ L s.heap m) (N : News h₀ L s.heap news)
    (hl : s.heap.IsList l vs.toArray) (hi : IntsAre vs ns) (hne : 0 < ns.length) (hv : ∀ M, M ∈ ns → (∀ a, a ∈ ns → M ≤ a) → M = v)
    (h : ∀ h' t tk, Fr h₀ L h' m → News h₀ L h' news → Q (.int v t) { s with heap := h', toks := tk }) :
    wpAny (model prog w) A (call (.builtin "min") [.ref l]) Q E s := by
  refine min_list_N hh F N hl hi hne fun h' M t tk F' N' h1 h2 => ?_
  rw [hv M h1 h2]
  exact h h' t tk F' N'
end
end Mine
end
section
namespace Mine
section
variable {prog : Program} {w : World} {A : Around} {E : Value → Shared → Prop} {s : Shared} {h₀ : Heap} {L : Addr} {m : Str → Option Value} {env : Env} {news : List (Addr × Obj)}
end
end Mine
end
section
namespace Mine
section
variable {prog : Program} {w : World} {A : Around} {E : Value → Shared → Prop} {s : Shared} {h₀ : Heap} {L : Addr} {m : Str → Option Value} {env : Env} {news : List (Addr × Obj)}
theorem inplace_seq {M : Model} {a b : Value} {T id : String} {Q : Value → Shared → Prop} (ha : s.TypeIs a T) (hb : s.TypeIs b T)
    (hi : typeLookup (.type T) (dunderI "add") = pure (some (.builtin id))) (hs : isSeqSlot (some (.builtin id)) = true) (hfill : fillsNumberSlot (.type T) "add" = pure false)
    (hc : wpAny M A (call (.builtin id) [a, b]) Q E s) : wpAny M A (inplaceOp .Add a b) Q E s := by
  unfold inplaceOp
  refine wpAny_holding ?_
  have hfi : fillsInplaceSlot (.type T) "add" (Operator.Add == .Add) = pure false := by
    unfold fillsInplaceSlot
    show (typeLookup (.type T) (dunderI "add") >>= fun fi => pure (fi.isSome && !isSeqSlot fi)) = pure false
    rw [hi]
    show (pure ((some (Value.builtin id)).isSome && !isSeqSlot (some (Value.builtin id))) : Sem Bool) = pure false
    rw [hs]; rfl
  have hsi : seqSlot? (.type T) (dunderI "add") = pure (some (.builtin id)) := PyProof.Rows.seqSlot_of hi hs
  refine wpAny_bind (wpAny_typeOf ha (wpAny_bind (wpAny_of_eq hfi ?_)))
  show wpAny M A (if false = true then _ else _) Q E s
  rw [if_neg Bool.false_ne_true]
  refine wpAny_bind (binaryOp1_none (nm := "add") ha hb hfill ?_)
  refine wpAny_bind (wpAny_of_eq hsi ?_)
  exact wpAny_bind (wpAny_rule hc)
theorem new_of {g hs h' : Heap} (hg : g = hs) (N : News g L h' news) {D : Addr} {o : Obj} (hm : (D, o) ∈ news) : h'.get? D = some o ∧ hs.get? D = none := by
  subst hg
  exact ⟨(N _ hm).1, (N _ hm).2.2⟩
theorem updF_mem {c : Addr} {o : Obj} {g : Obj → List (Addr × Obj)} (U : UpdF c o news g) : (c, o) ∈ news := by
  obtain ⟨own, rest, hnews, hg, h1, h2⟩ := U.split
  rw [hnews]; exact List.mem_append_right _ (.head _)
theorem news_upd {c : Addr} {o o' : Obj} {g : Obj → List (Addr × Obj)} {h h' : Heap} (N : News h₀ L h news) (U : UpdF c o news g) (hs : Heap.SameBut c h h') (ho : h'.get? c = some o') : News h₀ L h' (g o') := by
  obtain ⟨own, rest, hnews, hg, h1, h2⟩ := U.split
  subst hnews
  rw [hg]
  exact N.setAt h1 h2 hs ho
theorem iadd_upd {l b : Addr} {vs ws : List Value} {n n2 : Nat} {g : Obj → List (Addr × Obj)} {Q : Value → Shared → Prop}
    (F : Fr h₀ L s.heap m) (N : News h₀ L s.heap news) (U : UpdF l (W.listOf vs.toArray n) news g) (hb : (b, W.listOf ws.toArray n2) ∈ news) (hfit : vs.length + ws.length ≤ 1000)
    (h : ∀ h' e, Fr h₀ L h' m → News h₀ L h' (g (W.listOf (vs ++ ws).toArray e)) → Q (.ref l) { s with heap := h' }) :
    wpAny (model prog w) A (inplaceOp .Add (.ref l) (.ref b)) Q E s := by
  have hm := updF_mem U
  have z := N _ hm
  have zb := N _ hb
  refine inplace_seq (T := "list") ⟨_, z.1, rfl⟩ ⟨_, zb.1, rfl⟩ PySem.F.slot_list_iadd.lookup (by decide +kernel) noFill_list_add ?_
  refine call_meets PySem.F.slot_list_iadd ⟨_, z.1, rfl⟩ PySem.F.entry_list_iadd (PySem.F.args_list_iadd_2 _ _) (AutoSeq1.list___iadd___list_list_0 l vs.toArray n b ws.toArray n2 ?_ ?_ ?_) ⟨z.1, zb.1, ?_⟩
  · simp [Builtin.List.listTooLong, sizeLine_eq]; omega
  · simp; rw [sizeLine_eq]; omega
  · simp; rw [sizeLine_eq]; omega
  have hs : Heap.SameBut l s.heap (s.heap.update l (Obj.mapSeq fun x => x ++ ws.toArray)) := Heap.SameBut.update ..
  have q := PySem.IsL.update z.1 (fun x => x ++ ws.toArray)
  have e1 : vs.toArray ++ ws.toArray = (vs ++ ws).toArray := by simp
  rw [e1] at q
  show Q (.ref l) _
  exact h _ (if ((vs ++ ws).toArray.size == vs.toArray.size) = true then n else n + 1) (F.change hs z.2.1 z.2.2) (news_upd N U hs q)
theorem append_upd {l : Addr} {vs : List Value} {n : Nat} {v : Value} {g : Obj → List (Addr × Obj)} {Q : Value → Shared → Prop}
    (F : Fr h₀ L s.heap m) (N : News h₀ L s.heap news) (U : UpdF l (W.listOf vs.toArray n) news g) (hfit : vs.length ≤ sizeLine)
    (h : ∀ h' e, Fr h₀ L h' m → News h₀ L h' (g (W.listOf (vs ++ [v]).toArray e)) → Q .none { s with heap := h' }) :
    wpAny (model prog w) A (call (.builtin "list.append") [.ref l, v]) Q E s := by
  have z := N _ (updF_mem U)
  refine append_at (hsz := by simpa using hfit) z.1 fun h' hs ho' => h h' (n + 1) (F.change hs z.2.1 z.2.2) (news_upd N U hs (by simpa using ho'))
end
end Mine
end
section
local macro_rules | `(tactic| omega) => `(tactic| lia)
set_option maxHeartbeats 8000000
set_option rowWalk.seconds 0
namespace Mine
theorem cells3 {cm : Str → Option Value} {n1 n2 n3 : Str} {c1 c2 c3 : Addr} {cells : List (Addr × Obj)} (x : CellsAre cm [(n1, c1), (n2, c2), (n3, c3)] cells) :
    ∃ o1 o2 o3, cells = [(c1, o1), (c2, o2), (c3, o3)] ∧ o1.data = .cell (cm n1) ∧ o2.data = .cell (cm n2) ∧ o3.data = .cell (cm n3) := by
  obtain ⟨o1, c1, rfl, h1, x⟩ := cells_uncons x
  obtain ⟨o2, c2, rfl, h2, x⟩ := cells_uncons x
  obtain ⟨o3, c3, rfl, h3, x⟩ := cells_uncons x
  rw [cells_nil x]
  exact ⟨_, _, _, rfl, h1, h2, h3⟩
noncomputable def stopF (r0 r1 r2 : Int) : Int := if r0 = 0 ∨ r0 = 127 then 0 else if r1 = 0 ∨ r1 = 127 then 1 else if r2 = 0 ∨ r2 = 127 then 2 else 3
noncomputable def in0 (r0 r1 r2 : Int) (a : Int) : Bool := [0, 127].any fun x => x == [r0, r1, r2].getD a.toNat 0
theorem in0_0 {r0 r1 r2 : Int} : in0 r0 r1 r2 0 = true ↔ (r0 = 0 ∨ r0 = 127) := by
  show ((0 == r0) || ((127 == r0) || false)) = true ↔ _
  rw [Bool.or_eq_true, Bool.or_eq_true, beq_iff_eq, beq_iff_eq]; simp only [Bool.false_eq_true, or_false]; omega
theorem in0_1 {r0 r1 r2 : Int} : in0 r0 r1 r2 1 = true ↔ (r1 = 0 ∨ r1 = 127) := by
  show ((0 == r1) || ((127 == r1) || false)) = true ↔ _
  rw [Bool.or_eq_true, Bool.or_eq_true, beq_iff_eq, beq_iff_eq]; simp only [Bool.false_eq_true, or_false]; omega
theorem in0_2 {r0 r1 r2 : Int} : in0 r0 r1 r2 2 = true ↔ (r2 = 0 ∨ r2 = 127) := by
  show ((0 == r2) || ((127 == r2) || false)) = true ↔ _
  rw [Bool.or_eq_true, Bool.or_eq_true, beq_iff_eq, beq_iff_eq]; simp only [Bool.false_eq_true, or_false]; omega
theorem stop_ks (r0 r1 r2 : Int) : ∃ ks, List.map (fun a => a) (List.filter (in0 r0 r1 r2) (rangeL 0 3)) = ks ∧ ks.length ≤ 3 ∧
    ∀ M, M ∈ ks ++ [3] → (∀ a, a ∈ ks ++ [3] → M ≤ a) → M = stopF r0 r1 r2 := by
  refine ⟨_, rfl, ?_, ?_⟩
  · rw [List.map_id']
    exact Nat.le_trans (List.length_filter_le _ _) (by simp [rangeL])
  · intro M hM hle
    have e : rangeL 0 3 = [0, 1, 2] := rfl
    rw [e, List.map_id'] at hM hle
    simp only [List.mem_append, List.mem_filter, List.mem_cons, List.not_mem_nil, or_false] at hM hle
    have h3 := hle 3 (.inr rfl)
    have h0 : in0 r0 r1 r2 0 = true → M ≤ 0 := fun q => hle 0 (.inl ⟨.inl rfl, q⟩)
    have h1 : in0 r0 r1 r2 1 = true → M ≤ 1 := fun q => hle 1 (.inl ⟨.inr (.inl rfl), q⟩)
    have h2 : in0 r0 r1 r2 2 = true → M ≤ 2 := fun q => hle 2 (.inl ⟨.inr (.inr rfl), q⟩)
    rw [in0_0] at h0
    rw [in0_1] at h1
    rw [in0_2] at h2
    have hM' : (M = 0 ∧ (r0 = 0 ∨ r0 = 127)) ∨ (M = 1 ∧ (r1 = 0 ∨ r1 = 127)) ∨ (M = 2 ∧ (r2 = 0 ∨ r2 = 127)) ∨ M = 3 := by
      rcases hM with ⟨rfl | rfl | rfl, q⟩ | q
      · exact .inl ⟨rfl, in0_0.mp q⟩
      · exact .inr (.inl ⟨rfl, in0_1.mp q⟩)
      · exact .inr (.inr (.inl ⟨rfl, in0_2.mp q⟩))
      · exact .inr (.inr (.inr q))
    unfold stopF
    split
    · have := h0 (by assumption); omega
    · split
      · have := h1 (by assumption); omega
      · split
        · have := h2 (by assumption); omega
        · omega
noncomputable def sumsF (r0 r1 r2 stop : Int) : List Int := List.map (fun (a : Int) => (List.take (a + 1).toNat [r0, r1, r2]).sum) (List.filter (fun _ => true) (rangeL 0 stop.toNat))
noncomputable def dueF (r0 r1 r2 : Int) : List Int :=
  if (stopF r0 r1 r2 = 1 ∨ stopF r0 r1 r2 = 2) ∧ [r0, r1, r2].getD (stopF r0 r1 r2).toNat 0 = 0 then
    (sumsF r0 r1 r2 (stopF r0 r1 r2)).filter (fun a => decide (a < 5)) ++
      (rangeL ((sumsF r0 r1 r2 (stopF r0 r1 r2)).getLastD 0 + 1) (4 - (sumsF r0 r1 r2 (stopF r0 r1 r2)).getLastD 0).toNat).filter
        (fun a => decide (Int.fmod (a - (sumsF r0 r1 r2 (stopF r0 r1 r2)).getLastD 0) ([r0, r1, r2].getD (stopF r0 r1 r2 - 1).toNat 0) = 0))
  else (sumsF r0 r1 r2 (stopF r0 r1 r2)).filter (fun a => decide (a < 5))
theorem any12 {stop : Int} : ([1, 2].any fun x => x == stop) = true ↔ stop = 1 ∨ stop = 2 := by
  show ((1 == stop) || ((2 == stop) || false)) = true ↔ _
  rw [Bool.or_eq_true, Bool.or_eq_true, beq_iff_eq, beq_iff_eq]; simp only [Bool.false_eq_true, or_false]; omega
theorem sumsF_1 {r0 r1 r2 : Int} : sumsF r0 r1 r2 1 = [r0] := by
  show [(r0 + 0 : Int)] = [r0]
  rw [Int.add_zero]
theorem sumsF_2 {r0 r1 r2 : Int} : sumsF r0 r1 r2 2 = [r0, r0 + r1] := by
  show [(r0 + 0 : Int), r0 + (r1 + 0)] = [r0, r0 + r1]
  rw [Int.add_zero, Int.add_zero]
theorem last_facts {r0 r1 r2 stop : Int} {sums : List Int} {ys : List Value} (hz0 : 0 ≤ r0 ∧ r0 ≤ 127) (hz1 : 0 ≤ r1 ∧ r1 ≤ 127) (h12 : stop = 1 ∨ stop = 2) (hS : sumsF r0 r1 r2 stop = sums) (hI : IntsAre ys sums) :
    ∃ v vs0 t, ys = vs0 ++ [Value.int v t] ∧ sums.getLastD 0 = v ∧ 0 ≤ v ∧ v ≤ 254 := by
  rcases h12 with rfl | rfl
  · rw [sumsF_1] at hS
    subst hS
    cases hI with
    | cons n t h => cases h; exact ⟨r0, [], t, rfl, rfl, by omega, by omega⟩
  · rw [sumsF_2] at hS
    subst hS
    cases hI with
    | cons n t h => cases h with
      | cons n t2 h => cases h; exact ⟨r0 + r1, [.int r0 t], t2, rfl, rfl, by omega, by omega⟩
theorem div_facts {r0 r1 r2 stop : Int} (h0 : r0 ≠ 0) (hst : stopF r0 r1 r2 = stop) (h12 : stop = 1 ∨ stop = 2) : [r0, r1, r2].getD (stop - 1).toNat 0 ≠ 0 := by
  rcases h12 with rfl | rfl
  · exact h0
  · show r1 ≠ 0
    intro h
    unfold stopF at hst
    split at hst
    · omega
    · rw [if_pos (.inl h)] at hst; omega
theorem due_pos {r0 r1 r2 stop : Int} {sums : List Int} {lst : Int} (hst : stopF r0 r1 r2 = stop) (hS : sumsF r0 r1 r2 stop = sums) (h12 : stop = 1 ∨ stop = 2) (h3 : [r0, r1, r2].getD stop.toNat 0 = 0) (hl : sums.getLastD 0 = lst) :
    dueF r0 r1 r2 = sums.filter (fun a => decide (a < 5)) ++ (rangeL (lst + 1) (4 - lst).toNat).filter (fun a => decide (Int.fmod (a - lst) ([r0, r1, r2].getD (stop - 1).toNat 0) = 0)) := by
  subst hst
  subst hl
  subst hS
  exact if_pos ⟨h12, h3⟩
theorem due_neg {r0 r1 r2 stop : Int} {sums : List Int} (hst : stopF r0 r1 r2 = stop) (hS : sumsF r0 r1 r2 stop = sums) (h12 : ¬ ((stop = 1 ∨ stop = 2) ∧ [r0, r1, r2].getD stop.toNat 0 = 0)) :
    dueF r0 r1 r2 = sums.filter (fun a => decide (a < 5)) := by
  subst hst
  subst hS
  exact if_neg h12
namespace due_tells
noncomputable def cutQ1 : { qq : (World → (ExcName → Option Value) → (Str → Option Value) → (Str → Option Value) → Addr → Int → Int → Int → Tok → Tok → Tok → Nat → Nat → (Option (List Code)) → (List Env) → Heap → Shared → (Value → Shared → Prop) → (Value → Shared → Prop) → Heap → Addr → Heap → Nat → Obj → Obj → Obj → (Str → Option Value) → Prop) // (∀ (w : World) (mean : ExcName → Option Value) (mg : Str → Option Value) (mb : Str → Option Value) (lr : Addr) (r0 : Int) (r1 : Int) (r2 : Int) (t0 : Tok) (t1 : Tok) (t2 : Tok) (dp : Nat) (un : Nat) (gd : Option (List Code)) (outers : List Env) (base : Heap) (s : Shared) (Q : Value → Shared → Prop) (E : Value → Shared → Prop) (g : Heap) (L' : Addr) (h₁ : Heap) (tk : Nat) (o1 : Obj) (o2 : Obj) (o3 : Obj) (m0 : Str → Option Value), qq w mean mg mb lr r0 r1 r2 t0 t1 t2 dp un gd outers base s Q E g L' h₁ tk o1 o2 o3 m0) → ∀ (w : World) (mean : ExcName → Option Value) (mg mb : Str → Option Value) (lr : Addr) (r0 r1 r2 : Int) (t0 t1 t2 : Tok) (h0 : r0 ≠ 0) (hz0 : 0 ≤ r0 ∧ r0 ≤ 127) (hz1 : 0 ≤ r1 ∧ r1 ≤ 127) (hz2 : 0 ≤ r2 ∧ r2 ≤ 127),
   Tells Challenge.rw_re0065_01.row.prog w (hd1.heap_39 w.params) hd1.view_39 (looseW hd1.view_39 []) mean mg mb 2 68 [.ref lr] (fun h => h.IsList lr [Value.int r0 t0, .int r1 t1, .int r2 t2].toArray) (fun v h h' => ∃ l vs e, v = .ref l ∧ h'.get? l = some (W.listOf vs.toArray e) ∧ h.get? l = none ∧ IntsAre vs (dueF r0 r1 r2)) } := by
  refine ⟨?qq0, fun hP0 => ?b⟩
  case b =>
    intro w mean mg mb lr r0 r1 r2 t0 t1 t2 h0 hz0 hz1 hz2
    k_fill; intro dp un gd outers base s Q E B X T hdp hun hpre hret
    ((refine wpAny_call ?_; k_dflt (refine' enterC ?k1 ?k2 ?k3 ?k6 ?k7 ?k8 ?k9 ?kB ?kN ?_ ?c2 ?c3 ?c4; (case k1 => k_asm); (case k2 => k_asm); (case k3 => k_asm); (case k6 => k_is); (case k7 => k_is); (case k8 => ktr_room); (case k9 => exact BindsTo.of_eq rfl); (case kB => exact rfl); (case kN => decide +kernel); (case c2 => exact rfl); (case c3 => exact rfl); (case c4 => exact rfl); k_whole)))
    intro g L' h₁ tk cells hg F' N' Y' B' X' T'
    have hl' : g.IsList lr [Value.int r0 t0, .int r1 t1, .int r2 t2].toArray := by rw [hg]; exact hpre
    obtain ⟨o1, o2, o3, rfl, hc1, hc2, hc3⟩ := cells3 Y'
    clear Y'
    replace hc1 : o1.data = .cell none := hc1
    replace hc2 : o2.data = .cell none := hc2
    replace hc3 : o3.data = .cell (some (.ref lr)) := hc3
    generalize bindL _ _ _ = m0 at F'
    have hrow : IntsAre [Value.int r0 t0, .int r1 t1, .int r2 t2] [r0, r1, r2] := .cons _ _ (.cons _ _ (.cons _ _ .nil))
    (try dsimp only); (try k_lift B')
    (try dsimp +zetaDelta only)
    revert hrow
    revert hc3
    revert hc2
    revert hc1
    revert hl'
    revert T'
    revert X'
    revert B'
    revert N'
    revert F'
    revert hg
    revert hret
    revert hun
    revert hdp
    revert hz2
    revert hz1
    revert hz0
    revert h0
    exact @hP0 w mean mg mb lr r0 r1 r2 t0 t1 t2 dp un gd outers base s Q E g L' h₁ tk o1 o2 o3 m0
namespace C
@[irreducible] noncomputable def cutT : World × (ExcName → Option Value) × (Str → Option Value) × (Str → Option Value) × Addr × Int × Int × Int × Tok × Tok × Tok × Nat × Nat × (Option (List Code)) × (List Env) × Heap × Shared × (Value → Shared → Prop) × (Value → Shared → Prop) × Heap × Addr × Heap × Nat × Obj × Obj × Obj × (Str → Option Value) := gen ⟨(Classical.choice world_ne, fun _ => none, fun _ => none, fun _ => none, 0, 0, 0, 0, 0, 0, 0, 0, 0, none, [], default, {}, fun _ _ => True, fun _ _ => True, default, 0, default, 0, default, default, default, fun _ => none)⟩ fun t => cutQ1.1 t.1 t.2.1 t.2.2.1 t.2.2.2.1 t.2.2.2.2.1 t.2.2.2.2.2.1 t.2.2.2.2.2.2.1 t.2.2.2.2.2.2.2.1 t.2.2.2.2.2.2.2.2.1 t.2.2.2.2.2.2.2.2.2.1 t.2.2.2.2.2.2.2.2.2.2.1 t.2.2.2.2.2.2.2.2.2.2.2.1 t.2.2.2.2.2.2.2.2.2.2.2.2.1 t.2.2.2.2.2.2.2.2.2.2.2.2.2.1 t.2.2.2.2.2.2.2.2.2.2.2.2.2.2.1 t.2.2.2.2.2.2.2.2.2.2.2.2.2.2.2.1 t.2.2.2.2.2.2.2.2.2.2.2.2.2.2.2.2.1 t.2.2.2.2.2.2.2.2.2.2.2.2.2.2.2.2.2.1 t.2.2.2.2.2.2.2.2.2.2.2.2.2.2.2.2.2.2.1 t.2.2.2.2.2.2.2.2.2.2.2.2.2.2.2.2.2.2.2.1 t.2.2.2.2.2.2.2.2.2.2.2.2.2.2.2.2.2.2.2.2.1 t.2.2.2.2.2.2.2.2.2.2.2.2.2.2.2.2.2.2.2.2.2.1 t.2.2.2.2.2.2.2.2.2.2.2.2.2.2.2.2.2.2.2.2.2.2.1 t.2.2.2.2.2.2.2.2.2.2.2.2.2.2.2.2.2.2.2.2.2.2.2.1 t.2.2.2.2.2.2.2.2.2.2.2.2.2.2.2.2.2.2.2.2.2.2.2.2.1 t.2.2.2.2.2.2.2.2.2.2.2.2.2.2.2.2.2.2.2.2.2.2.2.2.2.1 t.2.2.2.2.2.2.2.2.2.2.2.2.2.2.2.2.2.2.2.2.2.2.2.2.2.2
@[irreducible] noncomputable def w : World := cutT.1
@[irreducible] noncomputable def mean : ExcName → Option Value := cutT.2.1
@[irreducible] noncomputable def mg : Str → Option Value := cutT.2.2.1
@[irreducible] noncomputable def mb : Str → Option Value := cutT.2.2.2.1
@[irreducible] noncomputable def lr : Addr := cutT.2.2.2.2.1
@[irreducible] noncomputable def r0 : Int := cutT.2.2.2.2.2.1
@[irreducible] noncomputable def r1 : Int := cutT.2.2.2.2.2.2.1
@[irreducible] noncomputable def r2 : Int := cutT.2.2.2.2.2.2.2.1
@[irreducible] noncomputable def t0 : Tok := cutT.2.2.2.2.2.2.2.2.1
@[irreducible] noncomputable def t1 : Tok := cutT.2.2.2.2.2.2.2.2.2.1
@[irreducible] noncomputable def t2 : Tok := cutT.2.2.2.2.2.2.2.2.2.2.1
@[irreducible] noncomputable def dp : Nat := cutT.2.2.2.2.2.2.2.2.2.2.2.1
@[irreducible] noncomputable def un : Nat := cutT.2.2.2.2.2.2.2.2.2.2.2.2.1
@[irreducible] noncomputable def gd : Option (List Code) := cutT.2.2.2.2.2.2.2.2.2.2.2.2.2.1
@[irreducible] noncomputable def outers : List Env := cutT.2.2.2.2.2.2.2.2.2.2.2.2.2.2.1
@[irreducible] noncomputable def base : Heap := cutT.2.2.2.2.2.2.2.2.2.2.2.2.2.2.2.1
@[irreducible] noncomputable def s : Shared := cutT.2.2.2.2.2.2.2.2.2.2.2.2.2.2.2.2.1
@[irreducible] noncomputable def Q : Value → Shared → Prop := cutT.2.2.2.2.2.2.2.2.2.2.2.2.2.2.2.2.2.1
@[irreducible] noncomputable def E : Value → Shared → Prop := cutT.2.2.2.2.2.2.2.2.2.2.2.2.2.2.2.2.2.2.1
@[irreducible] noncomputable def g : Heap := cutT.2.2.2.2.2.2.2.2.2.2.2.2.2.2.2.2.2.2.2.1
@[irreducible] noncomputable def L' : Addr := cutT.2.2.2.2.2.2.2.2.2.2.2.2.2.2.2.2.2.2.2.2.1
@[irreducible] noncomputable def h₁ : Heap := cutT.2.2.2.2.2.2.2.2.2.2.2.2.2.2.2.2.2.2.2.2.2.1
@[irreducible] noncomputable def tk : Nat := cutT.2.2.2.2.2.2.2.2.2.2.2.2.2.2.2.2.2.2.2.2.2.2.1
@[irreducible] noncomputable def o1 : Obj := cutT.2.2.2.2.2.2.2.2.2.2.2.2.2.2.2.2.2.2.2.2.2.2.2.1
@[irreducible] noncomputable def o2 : Obj := cutT.2.2.2.2.2.2.2.2.2.2.2.2.2.2.2.2.2.2.2.2.2.2.2.2.1
@[irreducible] noncomputable def o3 : Obj := cutT.2.2.2.2.2.2.2.2.2.2.2.2.2.2.2.2.2.2.2.2.2.2.2.2.2.1
@[irreducible] noncomputable def m0 : Str → Option Value := cutT.2.2.2.2.2.2.2.2.2.2.2.2.2.2.2.2.2.2.2.2.2.2.2.2.2.2
noncomputable def cutQ2 : { qq : (Addr → (List Value) → Nat → Nat → Addr → Addr → (List Value) → Tok → Nat → Heap → Obj → Int → Prop) // (∀ (D : Addr) (ys : List Value) (e : Nat) (tk3 : Nat) (lX : Addr) (DX : Addr) (wsX : List Value) (tX : Tok) (kX : Nat) (hX : Heap) (oX : Obj) (stop : Int), qq D ys e tk3 lX DX wsX tX kX hX oX stop) → cutQ1.1 w mean mg mb lr r0 r1 r2 t0 t1 t2 dp un gd outers base s Q E g L' h₁ tk o1 o2 o3 m0 } := by
  refine ⟨?qq0, fun hP0 => ?b⟩
  case b =>
    delta cutQ1
    dsimp only
    intro h0 hz0 hz1 hz2 hdp hun hret hg F' N' B' X' T' hl' hc1 hc2 hc3 hrow
    (try k_fold)
    (((try k_fold); ((repeat' (first | (k_unfold; (try dsimp only)) | ((fail_if_success (with_reducible show wpAny _ _ (exec (Stmt.While _ _ _ _) _) _ _ _)); (fail_if_success (with_reducible show wpAny _ _ (exec (Stmt.For _ _ _ _ _) _) _ _ _)); (fail_if_success (with_reducible show wpAny _ _ (pyIter _) _ _ _)); (fail_if_success (with_reducible show wpAny _ _ (eval (Expr.ListComp _ _ _ _) _) _ _ _)); (fail_if_success (with_reducible show wpAny _ _ (exec (Stmt.Assign _ (Expr.ListComp _ _ _ _) _) _) _ _ _)); ((first | walk1 | (dsimp only; walk1)); (try dsimp only))))))))
    · exact absurd (by assumption) h0
    refine' comp_eval ?h ?hclos ?hkind ?hnames ?hs
    (((case hclos => with_unfolding_all rfl); (case hkind => exact rfl); (case hnames => decide); (case hs => intro _; with_unfolding_all rfl)))
    case h =>
      (((try k_fold); ((repeat' (first | (k_unfold; (try dsimp only)) | ((fail_if_success (with_reducible show wpAny _ _ (exec (Stmt.While _ _ _ _) _) _ _ _)); (fail_if_success (with_reducible show wpAny _ _ (exec (Stmt.For _ _ _ _ _) _) _ _ _)); (fail_if_success (with_reducible show wpAny _ _ (pyIter _) _ _ _)); (fail_if_success (with_reducible show wpAny _ _ (eval (Expr.ListComp _ _ _ _) _) _ _ _)); (fail_if_success (with_reducible show wpAny _ _ (exec (Stmt.Assign _ (Expr.ListComp _ _ _ _) _) _) _ _ _)); ((first | walk1 | (dsimp only; walk1)); (try dsimp only))))))))
      (((with_reducible rename Fr _ _ _ _ => F0); (with_reducible rename News _ _ _ _ => N0)))
      refine compK_range 3 (in0 r0 r1 r2) (fun a y => isInt a y) (by assumption) rfl rfl (by decide) rfl F0 N0 (by decide) rfl rfl ⟨?t, ?e⟩ ?k
      case t =>
        rintro C D I a v oC oD oI mC h tk E' hDC hnw ha ⟨t, rfl⟩ hC hm F9 N9
        clear F0 N0
        have ha' : a = 0 ∨ a = 1 ∨ a = 2 := by simpa [rangeL, List.range, List.range.loop] using ha
        unfold ifsOf
        (((try k_fold); ((repeat' (first | (k_unfold; (try dsimp only)) | ((fail_if_success (with_reducible show wpAny _ _ (exec (Stmt.While _ _ _ _) _) _ _ _)); (fail_if_success (with_reducible show wpAny _ _ (exec (Stmt.For _ _ _ _ _) _) _ _ _)); (fail_if_success (with_reducible show wpAny _ _ (pyIter _) _ _ _)); (fail_if_success (with_reducible show wpAny _ _ (eval (Expr.ListComp _ _ _ _) _) _ _ _)); (fail_if_success (with_reducible show wpAny _ _ (exec (Stmt.Assign _ (Expr.ListComp _ _ _ _) _) _) _ _ _)); ((first | (((with_reducible show wpAny _ _ (eval (Expr.Name _ _) _) _ _ _); (with_reducible refine inComp ?_); (name_kind "local"); (with_reducible rename News _ _ _ _ => kN); (with_unfolding_all refine name_comp kN (by k_mem) (by assumption) (by assumption) ?_ rfl rfl (by decide)))) | walk1 | (dsimp only; walk1)); (try dsimp only))))))))
        exact CKeep.mk' (by k_asm) (by k_asm) (by kst_in) rfl
      case e =>
        rintro C D I a v oC oD oI mC h tk E' hDC hnw ha ⟨t, rfl⟩ hp hC hm F9 N9
        clear F0 N0
        (((try k_fold); ((repeat' (first | (k_unfold; (try dsimp only)) | ((fail_if_success (with_reducible show wpAny _ _ (exec (Stmt.While _ _ _ _) _) _ _ _)); (fail_if_success (with_reducible show wpAny _ _ (exec (Stmt.For _ _ _ _ _) _) _ _ _)); (fail_if_success (with_reducible show wpAny _ _ (pyIter _) _ _ _)); (fail_if_success (with_reducible show wpAny _ _ (eval (Expr.ListComp _ _ _ _) _) _ _ _)); (fail_if_success (with_reducible show wpAny _ _ (exec (Stmt.Assign _ (Expr.ListComp _ _ _ _) _) _) _ _ _)); ((first | (((with_reducible show wpAny _ _ (eval (Expr.Name _ _) _) _ _ _); (with_reducible refine inComp ?_); (name_kind "local"); (with_reducible rename News _ _ _ _ => kN); (with_unfolding_all refine name_comp kN (by k_mem) (by assumption) (by assumption) ?_ rfl rfl (by decide)))) | walk1 | (dsimp only; walk1)); (try dsimp only))))))))
        exact CKeep.mk' (by k_asm) (by k_asm) (by kst_in) ⟨_, rfl⟩
      case k =>
        intro C D ys e oC mC h3 tk3 hy hDC hnw F9 hC N9
        clear F0 N0
        refine post_none hDC hnw F9 hC N9 ?_
        clear hC; k_lt hnw
        intro h4 F8 N8
        clear F9 N9
        dsimp only
        have hI := paired_ints hy
        clear hy
        obtain ⟨ks, hks, hksl, hM⟩ := stop_ks r0 r1 r2
        rw [hks] at hI
        clear hks
        (((try k_fold); ((repeat' (first | (k_unfold; (try dsimp only)) | ((fail_if_success (with_reducible show wpAny _ _ (exec (Stmt.While _ _ _ _) _) _ _ _)); (fail_if_success (with_reducible show wpAny _ _ (exec (Stmt.For _ _ _ _ _) _) _ _ _)); (fail_if_success (with_reducible show wpAny _ _ (pyIter _) _ _ _)); (fail_if_success (with_reducible show wpAny _ _ (eval (Expr.ListComp _ _ _ _) _) _ _ _)); (fail_if_success (with_reducible show wpAny _ _ (exec (Stmt.Assign _ (Expr.ListComp _ _ _ _) _) _) _ _ _)); ((first | ((k_here; (with_reducible show wpAny _ _ (binaryOp Operator.Add (Value.ref _) (Value.ref _)) _ _ _); k_dflt (refine' kmk_add_ints ?zaddF ?zaddN ?zadda ?zaddb ?zaddi ?zaddj ?_ ?zaddz; (case zaddF => k_asm); (case zaddN => k_asm); (case zadda => kmk_list); (case zaddb => kmk_list); (case zaddi => l_ints); (case zaddj => l_ints); (case zaddz => (simp only [sizeLine_eq, List.length_cons, List.length_nil, List.length_append]; omega))); intro DX wsX hXa FXa NXa hl2 hIX; (try k_lt hl2); (try k_sweep))) | ((k_here; (with_reducible show wpAny _ _ (call (Value.builtin "min") [Value.ref _]) _ _ _); (with_unfolding_all refine' min_led ?zmink6 ?zmink1 ?zmink2 ?zmink3 ?zmink4 ?zmink5 (by assumption) ?_; (case zmink1 => k_asm); (case zmink2 => k_asm); (case zmink3 => kso_list); (case zmink4 => l_ints); (case zmink5 => (simp only [List.length_append, List.length_cons, List.length_nil]; omega)); (case zmink6 => with_unfolding_all rfl); k_whole); intro hXb tX kX FXb NXb; (try k_sweep))) | walk1 | (dsimp only; walk1)); (try dsimp only))))))))
        have hstop : stopF r0 r1 r2 = 0 ∨ stopF r0 r1 r2 = 1 ∨ stopF r0 r1 r2 = 2 ∨ stopF r0 r1 r2 = 3 := by
          unfold stopF; (repeat' split) <;> simp
        generalize hst : stopF r0 r1 r2 = stop at *
        (((with_reducible rename Fr _ _ _ _ => F0); (with_reducible rename News _ _ _ _ => N0)))
        rename_i lX _ hl1 hX oX hd7
        (try dsimp +zetaDelta only)
        revert N0
        revert F0
        revert hst
        revert hstop
        revert hd7
        revert hl2
        revert hl1
        revert hnw
        revert hrow
        revert hc3
        revert hc2
        revert hc1
        revert hl'
        revert T'
        revert X'
        revert B'
        revert hg
        revert hret
        revert hun
        revert hdp
        revert hz2
        revert hz1
        revert hz0
        revert h0
        exact @hP0 D ys e tk3 lX DX wsX tX kX hX oX stop
namespace C
@[irreducible] noncomputable def cutT : Addr × (List Value) × Nat × Nat × Addr × Addr × (List Value) × Tok × Nat × Heap × Obj × Int := gen ⟨(0, [], 0, 0, 0, 0, [], 0, 0, default, default, 0)⟩ fun t => cutQ2.1 t.1 t.2.1 t.2.2.1 t.2.2.2.1 t.2.2.2.2.1 t.2.2.2.2.2.1 t.2.2.2.2.2.2.1 t.2.2.2.2.2.2.2.1 t.2.2.2.2.2.2.2.2.1 t.2.2.2.2.2.2.2.2.2.1 t.2.2.2.2.2.2.2.2.2.2.1 t.2.2.2.2.2.2.2.2.2.2.2
@[irreducible] noncomputable def D : Addr := cutT.1
@[irreducible] noncomputable def ys : List Value := cutT.2.1
@[irreducible] noncomputable def e : Nat := cutT.2.2.1
@[irreducible] noncomputable def tk3 : Nat := cutT.2.2.2.1
@[irreducible] noncomputable def lX : Addr := cutT.2.2.2.2.1
@[irreducible] noncomputable def DX : Addr := cutT.2.2.2.2.2.1
@[irreducible] noncomputable def wsX : List Value := cutT.2.2.2.2.2.2.1
@[irreducible] noncomputable def tX : Tok := cutT.2.2.2.2.2.2.2.1
@[irreducible] noncomputable def kX : Nat := cutT.2.2.2.2.2.2.2.2.1
@[irreducible] noncomputable def hX : Heap := cutT.2.2.2.2.2.2.2.2.2.1
@[irreducible] noncomputable def oX : Obj := cutT.2.2.2.2.2.2.2.2.2.2.1
@[irreducible] noncomputable def stop : Int := cutT.2.2.2.2.2.2.2.2.2.2.2
theorem cutP2 : cutQ2.1 D ys e tk3 lX DX wsX tX kX hX oX stop := by
  delta cutQ2
  dsimp only
  intro h0 hz0 hz1 hz2 hdp hun hret hg B' X' T' hl' hc1 hc2 hc3 hrow hnw hl1 hl2 hd7 hstop hst F0 N0
  refine wpAny_Assign_Name ?_ (by with_unfolding_all rfl)
  refine' comp_eval ?h ?hclos ?hkind ?hnames ?hs
  (((case hclos => with_unfolding_all rfl); (case hkind => exact rfl); (case hnames => decide); (case hs => intro _; with_unfolding_all rfl)))
  case h =>
    (((try k_fold); ((repeat' (first | (k_unfold; (try dsimp only)) | ((fail_if_success (with_reducible show wpAny _ _ (exec (Stmt.While _ _ _ _) _) _ _ _)); (fail_if_success (with_reducible show wpAny _ _ (exec (Stmt.For _ _ _ _ _) _) _ _ _)); (fail_if_success (with_reducible show wpAny _ _ (pyIter _) _ _ _)); (fail_if_success (with_reducible show wpAny _ _ (eval (Expr.ListComp _ _ _ _) _) _ _ _)); (fail_if_success (with_reducible show wpAny _ _ (exec (Stmt.Assign _ (Expr.ListComp _ _ _ _) _) _) _ _ _)); ((first | walk1 | (dsimp only; walk1)); (try dsimp only))))))))
    (((with_reducible rename Fr _ _ _ _ => F0); (with_reducible rename News _ _ _ _ => N0)))
    refine compK_range stop.toNat (fun _ => true) (fun a y => isInt ([r0, r1, r2].take (a + 1).toNat).sum y) (by assumption) ?sm ?sz (by rw [sizeLine_eq]; omega) rfl F0 N0 (by decide) rfl rfl ⟨?t2, ?e2⟩ ?k2
    case sm => exact small_one (by omega) (by omega) (by omega) (by omega)
    case sz => rcases hstop with h | h | h | h <;> (rw [h]; rfl)
    case t2 =>
      rintro C D I a v oC oD oI mC h tk E' hDC hnw ha ⟨t, rfl⟩ hC hm F9 N9
      clear F0 N0
      unfold ifsOf
      (((try k_fold); ((repeat' (first | (k_unfold; (try dsimp only)) | ((fail_if_success (with_reducible show wpAny _ _ (exec (Stmt.While _ _ _ _) _) _ _ _)); (fail_if_success (with_reducible show wpAny _ _ (exec (Stmt.For _ _ _ _ _) _) _ _ _)); (fail_if_success (with_reducible show wpAny _ _ (pyIter _) _ _ _)); (fail_if_success (with_reducible show wpAny _ _ (eval (Expr.ListComp _ _ _ _) _) _ _ _)); (fail_if_success (with_reducible show wpAny _ _ (exec (Stmt.Assign _ (Expr.ListComp _ _ _ _) _) _) _ _ _)); ((first | (((with_reducible show wpAny _ _ (eval (Expr.Name _ _) _) _ _ _); (with_reducible refine inComp ?_); (name_kind "local"); (with_reducible rename News _ _ _ _ => kN); (with_unfolding_all refine name_comp kN (by k_mem) (by assumption) (by assumption) ?_ rfl rfl (by decide)))) | walk1 | (dsimp only; walk1)); (try dsimp only))))))))
      exact CKeep.mk' (by k_asm) (by k_asm) (by kst_in) rfl
    case e2 =>
      rintro C D I a v oC oD oI mC h tk E' hDC hnw ha ⟨t, rfl⟩ hp hC hm F9 N9
      clear F0 N0
      have ha' : 0 ≤ a ∧ a < stop := by
        simp only [rangeL, List.mem_map, List.mem_range] at ha
        omega
      (((try k_fold); ((repeat' (first | (k_unfold; (try dsimp only)) | ((fail_if_success (with_reducible show wpAny _ _ (exec (Stmt.While _ _ _ _) _) _ _ _)); (fail_if_success (with_reducible show wpAny _ _ (exec (Stmt.For _ _ _ _ _) _) _ _ _)); (fail_if_success (with_reducible show wpAny _ _ (pyIter _) _ _ _)); (fail_if_success (with_reducible show wpAny _ _ (eval (Expr.ListComp _ _ _ _) _) _ _ _)); (fail_if_success (with_reducible show wpAny _ _ (exec (Stmt.Assign _ (Expr.ListComp _ _ _ _) _) _) _ _ _)); ((first | (((with_reducible show wpAny _ _ (eval (Expr.Name _ _) _) _ _ _); (with_reducible refine inComp ?_); (name_kind "local"); (with_reducible rename News _ _ _ _ => kN); (with_unfolding_all refine name_comp kN (by k_mem) (by assumption) (by assumption) ?_ rfl rfl (by decide)))) | ((k_here; (with_reducible show wpAny _ _ (call (Value.builtin "sum") [Value.ref _]) _ _ _); (with_unfolding_all refine' sum_led ?zsumk6 ?zsumk1 ?zsumk2 ?zsumk3 ?zsumk4 ?_; (case zsumk1 => k_asm); (case zsumk2 => k_asm); (case zsumk3 => kso_list); (case zsumk4 => l_ints); (case zsumk6 => with_unfolding_all rfl); k_whole); intro h' t' k' F' N'; (try k_sweep))) | ((k_here; (with_reducible show wpAny _ _ (subscriptTail _ (PySem.Expr.Slice none (some _) none _) (Value.ref _) (Value.ref _)) _ _ _); k_dflt (refine' kmk_slice_ints (s := ⟨_, _, _, _, _⟩) ?zuptoF ?zuptoN ?zuptol ?zuptop ?zuptoq ?zuptoi ?zuptom ?zuptoc ?_ ?zuptos ?zuptot ?zuptoz; (case zuptoF => k_asm); (case zuptoN => k_asm); (case zuptol => kmk_list); (case zuptop => kmk_part); (case zuptoq => kmk_part); (case zuptoi => l_ints); (case zuptom => exact kmk_upto (by l_ints) (by omega)); (case zuptoc => exact rfl); (case zuptos => with_unfolding_all rfl); (case zuptot => kmk_pure); (case zuptoz => kmk_size)); intro D' ws' h' F' N' l1 hI' hC' hL'; clear hC' hL'; (try k_lt l1); (try k_sweep))) | walk1 | (dsimp only; walk1)); (try dsimp only))))))))
      exact CKeep.mk' (by k_asm) (by k_asm) (by kst_in) ⟨_, rfl⟩
    case k2 =>
      intro C1 D1 ys1 e1 oC mC h5 tk5 hy hDC1 hnw1 F9 hC N9
      clear F0 N0
      refine post_none hDC1 hnw1 F9 hC N9 ?_
      clear hC; k_lt hnw1
      intro h6 F8 N8
      clear F9 N9
      dsimp only
      have hI1 := paired_ints hy
      clear hy
      have hlS : (List.map (fun (a : Int) => (List.take (a + 1).toNat [r0, r1, r2]).sum) (List.filter (fun _ => true) (rangeL 0 stop.toNat))).length ≤ 3 := by
        rw [List.length_map]
        refine Nat.le_trans (List.length_filter_le _ _) ?_
        simp only [rangeL, List.length_map, List.length_range]; omega
      change IntsAre ys1 (sumsF r0 r1 r2 stop) at hI1
      change (sumsF r0 r1 r2 stop).length ≤ 3 at hlS
      generalize hS : sumsF r0 r1 r2 stop = sums at *
      (((try k_fold); ((repeat' (first | (k_unfold; (try dsimp only)) | ((fail_if_success (with_reducible show wpAny _ _ (exec (Stmt.While _ _ _ _) _) _ _ _)); (fail_if_success (with_reducible show wpAny _ _ (exec (Stmt.For _ _ _ _ _) _) _ _ _)); (fail_if_success (with_reducible show wpAny _ _ (pyIter _) _ _ _)); (fail_if_success (with_reducible show wpAny _ _ (eval (Expr.ListComp _ _ _ _) _) _ _ _)); (fail_if_success (with_reducible show wpAny _ _ (exec (Stmt.Assign _ (Expr.ListComp _ _ _ _) _) _) _ _ _)); ((first | walk1 | (dsimp only; walk1)); (try dsimp only))))))))
      refine' comp_assign ?h ?hsw ?hclos ?hkind ?hnames ?hs
      case hsw => with_unfolding_all rfl
      (((case hclos => with_unfolding_all rfl); (case hkind => exact rfl); (case hnames => decide); (case hs => intro _; with_unfolding_all rfl)))
      case h =>
        (((try k_fold); ((repeat' (first | (k_unfold; (try dsimp only)) | ((fail_if_success (with_reducible show wpAny _ _ (exec (Stmt.While _ _ _ _) _) _ _ _)); (fail_if_success (with_reducible show wpAny _ _ (exec (Stmt.For _ _ _ _ _) _) _ _ _)); (fail_if_success (with_reducible show wpAny _ _ (pyIter _) _ _ _)); (fail_if_success (with_reducible show wpAny _ _ (eval (Expr.ListComp _ _ _ _) _) _ _ _)); (fail_if_success (with_reducible show wpAny _ _ (exec (Stmt.Assign _ (Expr.ListComp _ _ _ _) _) _) _ _ _)); ((first | walk1 | (dsimp only; walk1)); (try dsimp only))))))))
        (((with_reducible rename Fr _ _ _ _ => F0); (with_reducible rename News _ _ _ _ => N0)))
        refine compK_list sums isInt (fun a => decide (a < 5)) (fun a y => isInt a y) (isList_of N0 (by k_mem)) (ints_paired hI1) (.inr ⟨_, by k_mem⟩) (by have := hI1.length; rw [sizeLine_eq]; omega) rfl F0 N0 (by decide) rfl rfl ⟨?t3, ?e3⟩ ?k3
        case t3 =>
          rintro C D I a v oC oD oI mC h tk E' hDC hnw ha ⟨t, rfl⟩ hC hm F9 N9
          clear F0 N0
          unfold ifsOf
          (((try k_fold); ((repeat' (first | (k_unfold; (try dsimp only)) | ((fail_if_success (with_reducible show wpAny _ _ (exec (Stmt.While _ _ _ _) _) _ _ _)); (fail_if_success (with_reducible show wpAny _ _ (exec (Stmt.For _ _ _ _ _) _) _ _ _)); (fail_if_success (with_reducible show wpAny _ _ (pyIter _) _ _ _)); (fail_if_success (with_reducible show wpAny _ _ (eval (Expr.ListComp _ _ _ _) _) _ _ _)); (fail_if_success (with_reducible show wpAny _ _ (exec (Stmt.Assign _ (Expr.ListComp _ _ _ _) _) _) _ _ _)); ((first | (((with_reducible show wpAny _ _ (eval (Expr.Name _ _) _) _ _ _); (with_reducible refine inComp ?_); (name_kind "local"); (with_reducible rename News _ _ _ _ => kN); (with_unfolding_all refine name_comp kN (by k_mem) (by assumption) (by assumption) ?_ rfl rfl (by decide)))) | walk1 | (dsimp only; walk1)); (try dsimp only))))))))
          exact CKeep.mk' (by k_asm) (by k_asm) (by kst_in) rfl
        case e3 =>
          rintro C D I a v oC oD oI mC h tk E' hDC hnw ha ⟨t, rfl⟩ hp hC hm F9 N9
          clear F0 N0
          (((try k_fold); ((repeat' (first | (k_unfold; (try dsimp only)) | ((fail_if_success (with_reducible show wpAny _ _ (exec (Stmt.While _ _ _ _) _) _ _ _)); (fail_if_success (with_reducible show wpAny _ _ (exec (Stmt.For _ _ _ _ _) _) _ _ _)); (fail_if_success (with_reducible show wpAny _ _ (pyIter _) _ _ _)); (fail_if_success (with_reducible show wpAny _ _ (eval (Expr.ListComp _ _ _ _) _) _ _ _)); (fail_if_success (with_reducible show wpAny _ _ (exec (Stmt.Assign _ (Expr.ListComp _ _ _ _) _) _) _ _ _)); ((first | (((with_reducible show wpAny _ _ (eval (Expr.Name _ _) _) _ _ _); (with_reducible refine inComp ?_); (name_kind "local"); (with_reducible rename News _ _ _ _ => kN); (with_unfolding_all refine name_comp kN (by k_mem) (by assumption) (by assumption) ?_ rfl rfl (by decide)))) | walk1 | (dsimp only; walk1)); (try dsimp only))))))))
          exact CKeep.mk' (by k_asm) (by k_asm) (by kst_in) ⟨_, rfl⟩
        case k3 =>
          intro C2 D2 ys2 e2 oC mC h7 tk7 hy hDC2 hnw2 F9 hC N9
          clear F0 N0
          refine post_assign hDC2 hnw2 rfl rfl rfl F9 hC N9 ?_
          clear hC; k_lt hnw2
          intro h8 tk8 F8 N8
          clear F9 N9
          dsimp only
          have hI2 := paired_ints hy
          clear hy
          rw [List.map_id'] at hI2
          (((try k_fold); ((repeat' (first | (k_unfold; (try dsimp only)) | ((fail_if_success (with_reducible show wpAny _ _ (exec (Stmt.While _ _ _ _) _) _ _ _)); (fail_if_success (with_reducible show wpAny _ _ (exec (Stmt.For _ _ _ _ _) _) _ _ _)); (fail_if_success (with_reducible show wpAny _ _ (pyIter _) _ _ _)); (fail_if_success (with_reducible show wpAny _ _ (eval (Expr.ListComp _ _ _ _) _) _ _ _)); (fail_if_success (with_reducible show wpAny _ _ (exec (Stmt.Assign _ (Expr.ListComp _ _ _ _) _) _) _ _ _)); ((first | ((k_here; (with_reducible show wpAny _ _ (subscriptTail (Expr.Name _ _) (Expr.Name _ _) (Value.ref _) (Value.int _ _)) _ _ _); (have h12 := any12.mp (by with_reducible assumption)); k_dflt (refine' item_list_ints (by is_list) (by l_ints) (by omega) (by simp only [List.length_cons, List.length_nil]; omega) (by omega) ?_ (by with_unfolding_all rfl)); clear h12; intro _)) | walk1 | (dsimp only; walk1)); (try dsimp only))))))))
          · have hs12 : stop = 1 ∨ stop = 2 := any12.mp (by assumption)
            refine' comp_eval ?h ?hclos ?hkind ?hnames ?hs
            (((case hclos => with_unfolding_all rfl); (case hkind => exact rfl); (case hnames => decide); (case hs => intro _; with_unfolding_all rfl)))
            case h =>
              have hlast : ∃ v vs0 t, ys1 = vs0 ++ [Value.int v t] ∧ sums.getLastD 0 = v ∧ 0 ≤ v ∧ v ≤ 254 := last_facts hz0 hz1 hs12 hS hI1
              obtain ⟨lst, vs0, tl0, hys, hsl, hl0, hl1⟩ := hlast
              subst hys
              have hlv : vs0.length < 3 := by have := hI1.length; simp only [List.length_append, List.length_cons, List.length_nil] at this; omega
              (((try k_fold); ((repeat' (first | (k_unfold; (try dsimp only)) | ((fail_if_success (with_reducible show wpAny _ _ (exec (Stmt.While _ _ _ _) _) _ _ _)); (fail_if_success (with_reducible show wpAny _ _ (exec (Stmt.For _ _ _ _ _) _) _ _ _)); (fail_if_success (with_reducible show wpAny _ _ (pyIter _) _ _ _)); (fail_if_success (with_reducible show wpAny _ _ (eval (Expr.ListComp _ _ _ _) _) _ _ _)); (fail_if_success (with_reducible show wpAny _ _ (exec (Stmt.Assign _ (Expr.ListComp _ _ _ _) _) _) _ _ _)); ((first | ((k_here; (with_reducible show wpAny _ _ (subscriptTail (Expr.Name _ _) _ (Value.ref _) (Value.int (-1) _)) _ _ _); k_dflt (refine' item_last_led (by k_asm) (by k_mem) (by omega) ?_ (by with_unfolding_all rfl)))) | walk1 | (dsimp only; walk1)); (try dsimp only))))))))
              (((with_reducible rename Fr _ _ _ _ => F0); (with_reducible rename News _ _ _ _ => N0)))
              have hne : [r0, r1, r2].getD (stop - 1).toNat 0 ≠ 0 := div_facts h0 hst hs12
              refine compK_range (4 - lst).toNat (fun a => decide (Int.fmod (a - lst) ([r0, r1, r2].getD (stop - 1).toNat 0) = 0)) (fun a y => isInt a y) (by assumption) ?sm3 ?sz3 (by rw [sizeLine_eq]; omega) rfl F0 N0 (by decide) rfl rfl ⟨?t4, ?e4⟩ ?k4
              case sm3 => exact small_one (by omega) (by omega) (by omega) (by omega)
              case sz3 =>
                unfold Builtin.Range.rangeSize
                rw [if_pos (by decide)]
                split <;> omega
              case t4 =>
                rintro C D I a v oC oD oI mC h tk E' hDC hnw ha ⟨t, rfl⟩ hC hm F9 N9
                clear F0 N0
                unfold ifsOf
                (((try k_fold); ((repeat' (first | (k_unfold; (try dsimp only)) | ((fail_if_success (with_reducible show wpAny _ _ (exec (Stmt.While _ _ _ _) _) _ _ _)); (fail_if_success (with_reducible show wpAny _ _ (exec (Stmt.For _ _ _ _ _) _) _ _ _)); (fail_if_success (with_reducible show wpAny _ _ (pyIter _) _ _ _)); (fail_if_success (with_reducible show wpAny _ _ (eval (Expr.ListComp _ _ _ _) _) _ _ _)); (fail_if_success (with_reducible show wpAny _ _ (exec (Stmt.Assign _ (Expr.ListComp _ _ _ _) _) _) _ _ _)); ((first | (((with_reducible show wpAny _ _ (eval (Expr.Name _ _) _) _ _ _); (with_reducible refine inComp ?_); (name_kind "local"); (with_reducible rename News _ _ _ _ => kN); (with_unfolding_all refine name_comp kN (by k_mem) (by assumption) (by assumption) ?_ rfl rfl (by decide)))) | ((k_here; (with_reducible show wpAny _ _ (subscriptTail (Expr.Name _ _) _ (Value.ref _) (Value.int (-1) _)) _ _ _); k_dflt (refine' item_last_led (by k_asm) (by k_mem) (by omega) ?_ (by with_unfolding_all rfl)))) | walk1 | (dsimp only; walk1)); (try dsimp only))))))))
                exact CKeep.mk' (by k_asm) (by k_asm) (by kst_in) rfl
              case e4 =>
                rintro C D I a v oC oD oI mC h tk E' hDC hnw ha ⟨t, rfl⟩ hp hC hm F9 N9
                clear F0 N0
                (((try k_fold); ((repeat' (first | (k_unfold; (try dsimp only)) | ((fail_if_success (with_reducible show wpAny _ _ (exec (Stmt.While _ _ _ _) _) _ _ _)); (fail_if_success (with_reducible show wpAny _ _ (exec (Stmt.For _ _ _ _ _) _) _ _ _)); (fail_if_success (with_reducible show wpAny _ _ (pyIter _) _ _ _)); (fail_if_success (with_reducible show wpAny _ _ (eval (Expr.ListComp _ _ _ _) _) _ _ _)); (fail_if_success (with_reducible show wpAny _ _ (exec (Stmt.Assign _ (Expr.ListComp _ _ _ _) _) _) _ _ _)); ((first | (((with_reducible show wpAny _ _ (eval (Expr.Name _ _) _) _ _ _); (with_reducible refine inComp ?_); (name_kind "local"); (with_reducible rename News _ _ _ _ => kN); (with_unfolding_all refine name_comp kN (by k_mem) (by assumption) (by assumption) ?_ rfl rfl (by decide)))) | walk1 | (dsimp only; walk1)); (try dsimp only))))))))
                exact CKeep.mk' (by k_asm) (by k_asm) (by kst_in) ⟨_, rfl⟩
              case k4 =>
                intro C3 D3 ys3 e3 oC mC h9 tk9 hy hDC3 hnw3 F9 hC N9
                clear F0 N0
                refine post_none hDC3 hnw3 F9 hC N9 ?_
                clear hC; k_lt hnw3
                intro h6 F8 N8
                clear F9 N9
                dsimp only
                have hI3 := paired_ints hy
                clear hy
                rw [List.map_id'] at hI3
                have hl2 : ys2.length + ys3.length ≤ 1000 := by
                  have a2 := hI2.length
                  have a3 := hI3.length
                  have b2 := List.length_filter_le (fun a => decide (a < 5)) sums
                  have b3 := List.length_filter_le (fun a => decide (Int.fmod (a - lst) ([r0, r1, r2].getD (stop - 1).toNat 0) = 0)) (rangeL (lst + 1) (4 - lst).toNat)
                  have c3 : (rangeL (lst + 1) (4 - lst).toNat).length = (4 - lst).toNat := by simp [rangeL]
                  rw [c3] at b3
                  omega
                (((try k_fold); ((repeat' (first | (k_unfold; (try dsimp only)) | ((fail_if_success (with_reducible show wpAny _ _ (exec (Stmt.While _ _ _ _) _) _ _ _)); (fail_if_success (with_reducible show wpAny _ _ (exec (Stmt.For _ _ _ _ _) _) _ _ _)); (fail_if_success (with_reducible show wpAny _ _ (pyIter _) _ _ _)); (fail_if_success (with_reducible show wpAny _ _ (eval (Expr.ListComp _ _ _ _) _) _ _ _)); (fail_if_success (with_reducible show wpAny _ _ (exec (Stmt.Assign _ (Expr.ListComp _ _ _ _) _) _) _ _ _)); ((first | ((k_here; (with_reducible show wpAny _ _ (inplaceOp Operator.Add (Value.ref _) (Value.ref _)) _ _ _); k_dflt (refine' iadd_upd ?ziaddzF ?ziaddzN ?ziaddzU ?ziaddzb ?ziaddzf ?_; (case ziaddzF => k_asm); (case ziaddzN => k_asm); (case ziaddzU => k_updF); (case ziaddzb => k_mem); (case ziaddzf => omega); k_whole); intro h' e' F' N'; (try dsimp only at N'))) | walk1 | (dsimp only; walk1)); (try dsimp only))))))))
                (((with_reducible rename Fr _ _ _ _ => F0); (with_reducible rename News _ _ _ _ => N0)))
                have hnw9 := new_of hg N0 (D := D2) (by k_mem)
                refine hret _ _ _ (ret_keep hg F0) ⟨D2, _, _, rfl, hnw9.1, hnw9.2, ?_⟩
                rw [due_pos hst hS hs12 (by assumption) hsl]
                exact hI2.append hI3
          · (((with_reducible rename Fr _ _ _ _ => F0); (with_reducible rename News _ _ _ _ => N0)))
            rename [r0, r1, r2].getD stop.toNat 0 ≠ 0 => hno
            have hnw9 := new_of hg N0 (D := D2) (by k_mem)
            refine hret _ _ _ (ret_keep hg F0) ⟨D2, _, _, rfl, hnw9.1, hnw9.2, ?_⟩
            rw [due_neg hst hS (fun q => hno q.2)]
            exact hI2
          · (((with_reducible rename Fr _ _ _ _ => F0); (with_reducible rename News _ _ _ _ => N0)))
            rename ([1, 2].any _) = false => hno
            have hnw9 := new_of hg N0 (D := D2) (by k_mem)
            refine hret _ _ _ (ret_keep hg F0) ⟨D2, _, _, rfl, hnw9.1, hnw9.2, ?_⟩
            rw [due_neg hst hS (fun q => by rw [any12.mpr q.1] at hno; cases hno)]
            exact hI2
theorem cutR2 : ∀ (D : Addr) (ys : List Value) (e : Nat) (tk3 : Nat) (lX : Addr) (DX : Addr) (wsX : List Value) (tX : Tok) (kX : Nat) (hX : Heap) (oX : Obj) (stop : Int), cutQ2.1 D ys e tk3 lX DX wsX tX kX hX oX stop := by
  intro D ys e tk3 lX DX wsX tX kX hX oX stop
  with_unfolding_all exact of_gen (P := fun t : Addr × (List Value) × Nat × Nat × Addr × Addr × (List Value) × Tok × Nat × Heap × Obj × Int => cutQ2.1 t.1 t.2.1 t.2.2.1 t.2.2.2.1 t.2.2.2.2.1 t.2.2.2.2.2.1 t.2.2.2.2.2.2.1 t.2.2.2.2.2.2.2.1 t.2.2.2.2.2.2.2.2.1 t.2.2.2.2.2.2.2.2.2.1 t.2.2.2.2.2.2.2.2.2.2.1 t.2.2.2.2.2.2.2.2.2.2.2) cutP2 (D, ys, e, tk3, lX, DX, wsX, tX, kX, hX, oX, stop)
end C
theorem cutP1 : cutQ1.1 w mean mg mb lr r0 r1 r2 t0 t1 t2 dp un gd outers base s Q E g L' h₁ tk o1 o2 o3 m0 := cutQ2.2 C.cutR2
theorem cutR1 : ∀ (w : World) (mean : ExcName → Option Value) (mg : Str → Option Value) (mb : Str → Option Value) (lr : Addr) (r0 : Int) (r1 : Int) (r2 : Int) (t0 : Tok) (t1 : Tok) (t2 : Tok) (dp : Nat) (un : Nat) (gd : Option (List Code)) (outers : List Env) (base : Heap) (s : Shared) (Q : Value → Shared → Prop) (E : Value → Shared → Prop) (g : Heap) (L' : Addr) (h₁ : Heap) (tk : Nat) (o1 : Obj) (o2 : Obj) (o3 : Obj) (m0 : Str → Option Value), cutQ1.1 w mean mg mb lr r0 r1 r2 t0 t1 t2 dp un gd outers base s Q E g L' h₁ tk o1 o2 o3 m0 := by
  intro w mean mg mb lr r0 r1 r2 t0 t1 t2 dp un gd outers base s Q E g L' h₁ tk o1 o2 o3 m0
  with_unfolding_all exact of_gen (P := fun t : World × (ExcName → Option Value) × (Str → Option Value) × (Str → Option Value) × Addr × Int × Int × Int × Tok × Tok × Tok × Nat × Nat × (Option (List Code)) × (List Env) × Heap × Shared × (Value → Shared → Prop) × (Value → Shared → Prop) × Heap × Addr × Heap × Nat × Obj × Obj × Obj × (Str → Option Value) => cutQ1.1 t.1 t.2.1 t.2.2.1 t.2.2.2.1 t.2.2.2.2.1 t.2.2.2.2.2.1 t.2.2.2.2.2.2.1 t.2.2.2.2.2.2.2.1 t.2.2.2.2.2.2.2.2.1 t.2.2.2.2.2.2.2.2.2.1 t.2.2.2.2.2.2.2.2.2.2.1 t.2.2.2.2.2.2.2.2.2.2.2.1 t.2.2.2.2.2.2.2.2.2.2.2.2.1 t.2.2.2.2.2.2.2.2.2.2.2.2.2.1 t.2.2.2.2.2.2.2.2.2.2.2.2.2.2.1 t.2.2.2.2.2.2.2.2.2.2.2.2.2.2.2.1 t.2.2.2.2.2.2.2.2.2.2.2.2.2.2.2.2.1 t.2.2.2.2.2.2.2.2.2.2.2.2.2.2.2.2.2.1 t.2.2.2.2.2.2.2.2.2.2.2.2.2.2.2.2.2.2.1 t.2.2.2.2.2.2.2.2.2.2.2.2.2.2.2.2.2.2.2.1 t.2.2.2.2.2.2.2.2.2.2.2.2.2.2.2.2.2.2.2.2.1 t.2.2.2.2.2.2.2.2.2.2.2.2.2.2.2.2.2.2.2.2.2.1 t.2.2.2.2.2.2.2.2.2.2.2.2.2.2.2.2.2.2.2.2.2.2.1 t.2.2.2.2.2.2.2.2.2.2.2.2.2.2.2.2.2.2.2.2.2.2.2.1 t.2.2.2.2.2.2.2.2.2.2.2.2.2.2.2.2.2.2.2.2.2.2.2.2.1 t.2.2.2.2.2.2.2.2.2.2.2.2.2.2.2.2.2.2.2.2.2.2.2.2.2.1 t.2.2.2.2.2.2.2.2.2.2.2.2.2.2.2.2.2.2.2.2.2.2.2.2.2.2) cutP1 (w, mean, mg, mb, lr, r0, r1, r2, t0, t1, t2, dp, un, gd, outers, base, s, Q, E, g, L', h₁, tk, o1, o2, o3, m0)
end C
end due_tells
theorem due_tells (w : World) (mean : ExcName → Option Value) (mg mb : Str → Option Value) (lr : Addr) (r0 r1 r2 : Int) (t0 t1 t2 : Tok) (h0 : r0 ≠ 0) (hz0 : 0 ≤ r0 ∧ r0 ≤ 127) (hz1 : 0 ≤ r1 ∧ r1 ≤ 127) (hz2 : 0 ≤ r2 ∧ r2 ≤ 127) :
   Tells Challenge.rw_re0065_01.row.prog w (hd1.heap_39 w.params) hd1.view_39 (looseW hd1.view_39 []) mean mg mb 2 68 [.ref lr] (fun h => h.IsList lr [Value.int r0 t0, .int r1 t1, .int r2 t2].toArray) (fun v h h' => ∃ l vs e, v = .ref l ∧ h'.get? l = some (W.listOf vs.toArray e) ∧ h.get? l = none ∧ IntsAre vs (dueF r0 r1 r2)) :=
  due_tells.cutQ1.2 due_tells.C.cutR1 w mean mg mb lr r0 r1 r2 t0 t1 t2 h0 hz0 hz1 hz2
end Mine
end
section
set_option maxHeartbeats 8000000
set_option rowWalk.seconds 0
namespace Mine
theorem due0_tells (w : World) (mean : ExcName → Option Value) (mg mb : Str → Option Value) (lr : Addr) (r0 r1 r2 : Int) (t0 t1 t2 : Tok) (h0 : r0 = 0) :
   Tells Challenge.rw_re0065_01.row.prog w (hd1.heap_39 w.params) hd1.view_39 (looseW hd1.view_39 []) mean mg mb 2 68 [.ref lr] (fun h => h.IsList lr [Value.int r0 t0, .int r1 t1, .int r2 t2].toArray) (fun v h h' => v = .none) := by
  k_fill; intro dp un gd outers base s Q E B X T hdp hun hpre hret
  ((refine wpAny_call ?_; k_dflt (refine' enterC ?k1 ?k2 ?k3 ?k6 ?k7 ?k8 ?k9 ?kB ?kN ?_ ?c2 ?c3 ?c4; (case k1 => k_asm); (case k2 => k_asm); (case k3 => k_asm); (case k6 => k_is); (case k7 => k_is); (case k8 => ktr_room); (case k9 => exact BindsTo.of_eq rfl); (case kB => exact rfl); (case kN => decide +kernel); (case c2 => exact rfl); (case c3 => exact rfl); (case c4 => exact rfl); k_whole)))
  intro g L' h₁ tk cells hg F' N' Y' B' X' T'
  have hl' : g.IsList lr [Value.int r0 t0, .int r1 t1, .int r2 t2].toArray := by rw [hg]; exact hpre
  obtain ⟨o1, o2, o3, rfl, hc1, hc2, hc3⟩ := cells3 Y'
  clear Y'
  replace hc1 : o1.data = .cell none := hc1
  replace hc2 : o2.data = .cell none := hc2
  replace hc3 : o3.data = .cell (some (.ref lr)) := hc3
  generalize bindL _ _ _ = m0 at F'
  (try dsimp only); (try k_lift B'); (try k_fold)
  (((try k_fold); ((repeat' (first | (k_unfold; (try dsimp only)) | ((fail_if_success (with_reducible show wpAny _ _ (exec (Stmt.While _ _ _ _) _) _ _ _)); (fail_if_success (with_reducible show wpAny _ _ (exec (Stmt.For _ _ _ _ _) _) _ _ _)); (fail_if_success (with_reducible show wpAny _ _ (pyIter _) _ _ _)); (fail_if_success (with_reducible show wpAny _ _ (eval (Expr.ListComp _ _ _ _) _) _ _ _)); (fail_if_success (with_reducible show wpAny _ _ (exec (Stmt.Assign _ (Expr.ListComp _ _ _ _) _) _) _ _ _)); ((first | walk1 | (dsimp only; walk1)); (try dsimp only))))))))
  · (((with_reducible rename Fr _ _ _ _ => F0); (with_reducible rename News _ _ _ _ => N0)))
    exact hret _ _ _ (ret_keep hg F0) rfl
  · exact absurd h0 (by assumption)
noncomputable def collF (a b : Str) : Int := b2i (decide (b.cps.toList < a.cps.toList)) - b2i (decide (a.cps.toList < b.cps.toList))
theorem coll_tells (w : World) (mean : ExcName → Option Value) (mg mb : Str → Option Value) (a b : Str) (ta tb : Tok) (ha : a.length ≤ 1000) (hb : b.length ≤ 1000) :
   Tells Challenge.rw_re0065_01.row.prog w (hd1.heap_39 w.params) hd1.view_39 (looseW hd1.view_39 []) mean mg mb 2 21 [.str a ta, .str b tb] (fun _ => True) (fun v _ _ => ∃ t, v = .int (collF a b) t) := by
  ((k_fill; intro dp un gd outers base s Q E B X T hdp hun hpre hret; ((refine wpAny_call ?_; k_dflt (refine' enter ?k1 ?k2 ?k3 ?k6 ?k7 ?k8 ?k9 ?kB ?_ ?c2 ?c3 ?c4 ?c5; (case k1 => k_asm); (case k2 => k_asm); (case k3 => k_asm); (case k6 => k_is); (case k7 => k_is); (case k8 => ktr_room); (case k9 => exact BindsTo.of_eq rfl); (case c5 => decide); (case kB => exact locs rfl); (case c2 => exact rfl); (case c3 => exact rfl); (case c4 => exact rfl); k_whole))); intro g L' h₁ hg F' N' B' X' T'; (try dsimp only); (try k_lift B'); (try k_fold); (((try k_fold); ((repeat' (first | (k_unfold; (try dsimp only)) | ((fail_if_success (with_reducible show wpAny _ _ (exec (Stmt.While _ _ _ _) _) _ _ _)); (fail_if_success (with_reducible show wpAny _ _ (exec (Stmt.For _ _ _ _ _) _) _ _ _)); (fail_if_success (with_reducible show wpAny _ _ (pyIter _) _ _ _)); ((first | walk1 | (dsimp only; walk1)); (try dsimp only))))))))))
  (((try k_unfold); (try dsimp only); refine hret _ _ _ (ret_keep hg (by k_asm)) ?_))
  exact ⟨_, rfl⟩
end Mine
end
section
namespace Mine
section
variable {prog : Program} {w : World} {s : Shared} {K : Frag} {base : Heap} {mg mb : Str → Option Value} {p : Program} {loose : List Str} {mean : ExcName → Option Value}
theorem enterH {A : Around} {outers : List Env} {R : Result → Shared → Prop} {name qual : Str} {params : Arguments} {body : List Stmt} {scope : Scope} {dV kV doc pm cdv ct oc : Value} {an od : Option Addr} {osl : Array (Option Value)} {f : Addr} {args : Args} {binds : List (Str × Value)}
    (B : Below A base outers s.heap) (X : K.In base) (T : Top p loose mean mg mb base) {lc : Addr} {o : Obj} (hlc : s.heap.get? lc = some o) (hlb : base.get? lc = none) (hlf : ∀ env ∈ outers, env.frame ≠ some lc)
    (ho : K.lookup f = some ⟨oc, od, .func (fnOf name qual params body scope dV kV doc pm an cdv ct), osl⟩) (hcd : codeIn K cdv qual = true) (hroom : A.depth < recursionLimit)
    (hbind : BindsTo s (fnOf name qual params body scope dV kV doc pm an cdv ct) args binds) (hloc : ∀ y ∈ binds, scope.names.lookup y.1 = some .local)
    (h : ∀ g L' h₁, g = hideAll s.heap [lc] → Fr g L' h₁ (fun y => binds.reverse.lookup y) → News g L' h₁ [(lc, o)] → Below A base outers g → K.In g → Top p loose mean mg mb g →
      wpAny (model prog w) (A.deeper (envOf qual scope L' f cdv)) (execs body (envOf qual scope L' f cdv))
        (fun fl s' => R (.ok (.ret (match fl with | .ret v => v | _ => .none))) s')
        (fun e s' => wpAny (model prog w) (A.deeper (envOf qual scope L' f cdv)) (leaving (envOf qual scope L' f cdv) e) (fun _ s'' => R (.error e) s'') (fun e' s'' => R (.error e') s'') s')
        { s with heap := h₁, toks := s.toks + binds.length })
    (hco : scope.isCoroutine = false) (hgen : scope.isGenerator = false) (hk : scope.kind = .function)
    (hcell : ∀ x ∈ scope.names, x.2 ≠ .cell) : codeAny (model prog w) A (.call (.ref f) args) R s := by
  have st : base.StaysIn (hideAll s.heap [lc]) := fun b o' e => hideAll_get _ (B.stays b o' e) fun q => by rw [List.mem_singleton.mp q, hlb] at e; cases e
  have B2 : Below A base outers (hideAll s.heap [lc]) := ⟨B.stack, st, funFrames_hideAll B.frames fun env he a ha => by rw [List.mem_singleton.mp ha]; exact hlf env he⟩
  have X1 : K.In s.heap := X.keeps B.stays
  have T1 : Top p loose mean mg mb s.heap := T.keeps B.stays
  refine codeAny_call_def (fd := fnOf name qual params body scope dV kV doc pm an cdv ct) (body := body) (binds := binds) hroom (X1 _ _ ho) rfl T1.nolimit (codeRec_of X1 hcd) rfl hbind hcell hloc (fun h₁ hns hk₁ => ?_) hco hgen hk
  refine h (hideAll s.heap [lc]) s.heap.objs.size h₁ rfl ⟨hns, fun b o' e => hk₁ b o' (of_hideAll _ e), Nat.le_of_eq (hideAll_size _ _)⟩ ?_ B2 (X.keeps st) (T.keeps st)
  intro q hq
  rw [List.mem_singleton.mp hq]
  exact ⟨hk₁ _ _ hlc, Nat.ne_of_lt (Heap.lt_size hlc), hideAll_none _ (.head _)⟩
theorem hide_back {g s' h' : Heap} {lc L : Addr} {m : Str → Option Value} (hg : g = hideAll s' [lc]) (F : Fr g L h' m) : ∀ b o, b ≠ lc → s'.get? b = some o → h'.get? b = some o := by
  intro b o hb e
  subst hg
  exact F.keep b o (hideAll_get _ e fun q => hb (List.mem_singleton.mp q))
end
end Mine
end
section
namespace Mine
noncomputable def OutG {σ : Type} (h₀ : Heap) (L : Addr) (s : Shared) (Led : σ → List (Addr × Obj)) (ps : σ → List (Str × Value)) (X : σ → Prop) (s₂ : Shared) : Prop :=
  ∃ c h tk gens m news, s₂ = { s with heap := h, toks := tk, gens := gens } ∧ AllBare gens ∧ Fr h₀ L h m ∧ News h₀ L h news ∧ (∀ p ∈ Led c, p ∈ news) ∧ (∀ p ∈ ps c, m p.1 = some p.2) ∧ X c
theorem OutG.mk' {σ : Type} {h₀ : Heap} {L : Addr} {s : Shared} {Led : σ → List (Addr × Obj)} {ps : σ → List (Str × Value)} {X : σ → Prop} {news : List (Addr × Obj)} {h : Heap} {tk : Nat} {gens : Array GenState} {m : Str → Option Value} (c : σ)
    (hB : AllBare gens) (F : Fr h₀ L h m) (N : News h₀ L h news) (hl : ∀ p ∈ Led c, p ∈ news) (hp : ∀ p ∈ ps c, m p.1 = some p.2) (hx : X c) : OutG h₀ L s Led ps X { s with heap := h, toks := tk, gens := gens } :=
  ⟨c, h, tk, gens, m, news, rfl, hB, F, N, hl, hp, hx⟩
theorem OutG.use {σ : Type} {h₀ : Heap} {L : Addr} {s s₂ : Shared} {Led : σ → List (Addr × Obj)} {ps : σ → List (Str × Value)} {X : σ → Prop} {P : Shared → Prop} (o : OutG h₀ L s Led ps X s₂)
    (h : ∀ c u h tk gens, X c → AllBare gens → Fr h₀ L h (kstB u (ps c)) → News h₀ L h (Led c) → P { s with heap := h, toks := tk, gens := gens }) : P s₂ := by
  obtain ⟨c, h', tk, gens, m, news, rfl, hB, F, N, hl, hp, hx⟩ := o
  exact h c m h' tk gens hx hB (fr_known F hp) fun p hp => N p (hl p hp)
section
variable {prog : Program} {w : World} {A : Around} {E : Value → Shared → Prop} {Q : Flow → Shared → Prop} {s : Shared} {env : Env} {h₀ : Heap} {L : Addr}
theorem seq_cutG {σ : Type} {st : Stmt} {rest : List Stmt} (Led : σ → List (Addr × Obj)) (ps : σ → List (Str × Value)) (X : σ → Prop)
    (h : wpAny (model prog w) A (exec st env) (fun f s' => match f with | .next => OutG h₀ L s Led ps X s' | f => Q f s') E s)
    (k : ∀ c u h tk gens, X c → AllBare gens → Fr h₀ L h (kstB u (ps c)) → News h₀ L h (Led c) → wpAny (model prog w) A (execs rest env) Q E { s with heap := h, toks := tk, gens := gens }) :
    wpAny (model prog w) A (execs (st :: rest) env) Q E s := by
  refine wpAny_execs_cons (wpAny_mono h (fun f s' q => ?_) fun _ _ x => x)
  cases f with
  | next => exact OutG.use (P := fun s' => wpAny (model prog w) A (execs rest env) Q E s') q k
  | brk => exact q
  | cont => exact q
  | ret v => exact q
noncomputable def GTurn {σ : Type} (h₀ : Heap) (L : Addr) (s : Shared) (Led : σ → List (Addr × Obj)) (ps : σ → List (Str × Value)) (I : Addr) (oI : Obj) (P X : σ → Prop) (R : Result → Shared → Prop) (f : Flow) (s₂ : Shared) : Prop :=
  match f with
  | .ret v => R (.ok (.ret v)) s₂
  | .brk => OutG h₀ L s Led ps X s₂
  | _ => OutG h₀ L s (fun c => (I, oI) :: Led c) ps (fun c' => P c' ∧ ∀ p ∈ Led c', p.1 ≠ I) s₂
end
namespace loopG
noncomputable def cutQ1 : { qq : (Type → Prop) // (∀ (σ : Type), qq σ) → ∀ {prog : Program} {w : World} {A : Around} {s : Shared} {h₀ : Heap} {L : Addr} {env : Env} {σ : Type} {x : Str} {px : Pos} {body : List Stmt} {I : Addr} {oI0 : Obj} {fp : List Addr} {n : Nat} {Pv : Nat → Value → Prop} {St : Nat → Heap → Prop} {R : Result → Shared → Prop} {m₀ : Str → Option Value} (Led : σ → List (Addr × Obj)) (ps : σ → List (Str × Value)) (P : Nat → σ → Prop) (X : σ → Prop) (c₀ : σ) (W : Walks prog w A I fp [I] n Pv St) (hIf : I ∈ fp) (hSt : ∀ i h, St i h → ∃ o, h.get? I = some o) (hfp : ∀ b ∈ fp, b ≠ I → (∃ o, h₀.get? b = some o) ∨ (∃ o, ∀ c, (b, o) ∈ Led c)) (hnw : ∀ p ∈ Led c₀, p.1 ≠ I) (hst : St 0 s.heap) (F : Fr h₀ L s.heap m₀) (N : News h₀ L s.heap ((I, oI0) :: Led c₀)) (hk : ∀ p ∈ ps c₀, m₀ p.1 = some p.2) (hP : P 0 c₀) (hB : AllBare s.gens) (turn : ∀ i v c u h tk gens oI, i < n → Pv i v → P i c → (∀ p ∈ Led c, p.1 ≠ I) → AllBare gens → Fr h₀ L h (kstB u (ps c)) → News h₀ L h ((I, oI) :: Led c) →       wpAny (model prog w) A (assign (.Name x px) env v) (fun _ s₂ => wpAny (model prog w) A (execs body env) (GTurn h₀ L s Led ps I oI (P (i + 1)) X R) (notedBy (model prog w) A env fun e s' => R (.error e) s') s₂)         (notedBy (model prog w) A env fun e s' => R (.error e) s') { s with heap := h, toks := tk, gens := gens }) (hX : ∀ c, P n c → X c) (done : ∀ c u h tk gens, X c → AllBare gens → Fr h₀ L h (kstB u (ps c)) → News h₀ L h (Led c) → R (.ok .next) { s with heap := h, toks := tk, gens := gens }),
   codeAny (model prog w) A (.forLoop (.Name x px) (.ref I) body [] env) R s } := by
  refine ⟨?qq0, fun hP0 => ?b⟩
  case b =>
    intro prog w A s h₀ L env σ x px body I oI0 fp n Pv St R m₀ Led ps P X c₀ W hIf hSt hfp hnw hst F N hk hP hB turn hX done
    (try dsimp +zetaDelta only)
    revert done
    revert hX
    revert turn
    revert hB
    revert hP
    revert hk
    revert N
    revert F
    revert hst
    revert hnw
    revert hfp
    revert hSt
    revert hIf
    revert W
    revert c₀
    revert X
    revert P
    revert ps
    revert Led
    revert m₀
    revert R
    revert St
    revert Pv
    revert n
    revert fp
    revert oI0
    revert I
    revert body
    revert px
    revert x
    revert env
    revert L
    revert h₀
    revert s
    revert A
    revert w
    revert prog
    exact @hP0 σ
namespace C
@[irreducible] noncomputable def cutT : Type := gen ⟨(Unit)⟩ fun t => cutQ1.1 t
@[irreducible] noncomputable def σ : Type := cutT
noncomputable def cutQ2 : { qq : (Program → World → Around → Shared → Heap → Addr → Env → Str → Pos → (List Stmt) → Addr → Obj → (List Addr) → Nat → (Nat → Value → Prop) → (Nat → Heap → Prop) → (Result → Shared → Prop) → (Str → Option Value) → (σ → List (Addr × Obj)) → (σ → List (Str × Value)) → (Nat → σ → Prop) → (σ → Prop) → Prop) // (∀ (prog : Program) (w : World) (A : Around) (s : Shared) (h₀ : Heap) (L : Addr) (env : Env) (x : Str) (px : Pos) (body : List Stmt) (I : Addr) (oI0 : Obj) (fp : List Addr) (n : Nat) (Pv : Nat → Value → Prop) (St : Nat → Heap → Prop) (R : Result → Shared → Prop) (m₀ : Str → Option Value) (Led : σ → List (Addr × Obj)) (ps : σ → List (Str × Value)) (P : Nat → σ → Prop) (X : σ → Prop), qq prog w A s h₀ L env x px body I oI0 fp n Pv St R m₀ Led ps P X) → cutQ1.1 σ } := by
  refine ⟨?qq0, fun hP0 => ?b⟩
  case b =>
    delta cutQ1
    dsimp only
    intro prog w A s h₀ L env x px body I oI0 fp n Pv St R m₀ Led ps P X c₀ W hIf hSt hfp hnw hst F N hk hP hB turn hX done
    (try dsimp +zetaDelta only)
    revert done
    revert hX
    revert turn
    revert hB
    revert hP
    revert hk
    revert N
    revert F
    revert hst
    revert hnw
    revert hfp
    revert hSt
    revert hIf
    revert W
    revert c₀
    exact @hP0 prog w A s h₀ L env x px body I oI0 fp n Pv St R m₀ Led ps P X
namespace C
@[irreducible] noncomputable def cutT : Program × World × Around × Shared × Heap × Addr × Env × Str × Pos × (List Stmt) × Addr × Obj × (List Addr) × Nat × (Nat → Value → Prop) × (Nat → Heap → Prop) × (Result → Shared → Prop) × (Str → Option Value) × (σ → List (Addr × Obj)) × (σ → List (Str × Value)) × (Nat → σ → Prop) × (σ → Prop) := gen ⟨(default, Classical.choice world_ne, {}, {}, default, 0, default, Str.ofString "", default, [], 0, default, [], 0, fun _ _ => True, fun _ _ => True, fun _ _ => True, fun _ => none, fun _ => [], fun _ => [], fun _ _ => True, fun _ => True)⟩ fun t => cutQ2.1 t.1 t.2.1 t.2.2.1 t.2.2.2.1 t.2.2.2.2.1 t.2.2.2.2.2.1 t.2.2.2.2.2.2.1 t.2.2.2.2.2.2.2.1 t.2.2.2.2.2.2.2.2.1 t.2.2.2.2.2.2.2.2.2.1 t.2.2.2.2.2.2.2.2.2.2.1 t.2.2.2.2.2.2.2.2.2.2.2.1 t.2.2.2.2.2.2.2.2.2.2.2.2.1 t.2.2.2.2.2.2.2.2.2.2.2.2.2.1 t.2.2.2.2.2.2.2.2.2.2.2.2.2.2.1 t.2.2.2.2.2.2.2.2.2.2.2.2.2.2.2.1 t.2.2.2.2.2.2.2.2.2.2.2.2.2.2.2.2.1 t.2.2.2.2.2.2.2.2.2.2.2.2.2.2.2.2.2.1 t.2.2.2.2.2.2.2.2.2.2.2.2.2.2.2.2.2.2.1 t.2.2.2.2.2.2.2.2.2.2.2.2.2.2.2.2.2.2.2.1 t.2.2.2.2.2.2.2.2.2.2.2.2.2.2.2.2.2.2.2.2.1 t.2.2.2.2.2.2.2.2.2.2.2.2.2.2.2.2.2.2.2.2.2
@[irreducible] noncomputable def prog : Program := cutT.1
@[irreducible] noncomputable def w : World := cutT.2.1
@[irreducible] noncomputable def A : Around := cutT.2.2.1
@[irreducible] noncomputable def s : Shared := cutT.2.2.2.1
@[irreducible] noncomputable def h₀ : Heap := cutT.2.2.2.2.1
@[irreducible] noncomputable def L : Addr := cutT.2.2.2.2.2.1
@[irreducible] noncomputable def env : Env := cutT.2.2.2.2.2.2.1
@[irreducible] noncomputable def x : Str := cutT.2.2.2.2.2.2.2.1
@[irreducible] noncomputable def px : Pos := cutT.2.2.2.2.2.2.2.2.1
@[irreducible] noncomputable def body : List Stmt := cutT.2.2.2.2.2.2.2.2.2.1
@[irreducible] noncomputable def I : Addr := cutT.2.2.2.2.2.2.2.2.2.2.1
@[irreducible] noncomputable def oI0 : Obj := cutT.2.2.2.2.2.2.2.2.2.2.2.1
@[irreducible] noncomputable def fp : List Addr := cutT.2.2.2.2.2.2.2.2.2.2.2.2.1
@[irreducible] noncomputable def n : Nat := cutT.2.2.2.2.2.2.2.2.2.2.2.2.2.1
@[irreducible] noncomputable def Pv : Nat → Value → Prop := cutT.2.2.2.2.2.2.2.2.2.2.2.2.2.2.1
@[irreducible] noncomputable def St : Nat → Heap → Prop := cutT.2.2.2.2.2.2.2.2.2.2.2.2.2.2.2.1
@[irreducible] noncomputable def R : Result → Shared → Prop := cutT.2.2.2.2.2.2.2.2.2.2.2.2.2.2.2.2.1
@[irreducible] noncomputable def m₀ : Str → Option Value := cutT.2.2.2.2.2.2.2.2.2.2.2.2.2.2.2.2.2.1
@[irreducible] noncomputable def Led : σ → List (Addr × Obj) := cutT.2.2.2.2.2.2.2.2.2.2.2.2.2.2.2.2.2.2.1
@[irreducible] noncomputable def ps : σ → List (Str × Value) := cutT.2.2.2.2.2.2.2.2.2.2.2.2.2.2.2.2.2.2.2.1
@[irreducible] noncomputable def P : Nat → σ → Prop := cutT.2.2.2.2.2.2.2.2.2.2.2.2.2.2.2.2.2.2.2.2.1
@[irreducible] noncomputable def X : σ → Prop := cutT.2.2.2.2.2.2.2.2.2.2.2.2.2.2.2.2.2.2.2.2.2
theorem cutP2 : cutQ2.1 prog w A s h₀ L env x px body I oI0 fp n Pv St R m₀ Led ps P X := by
  delta cutQ2
  dsimp only
  intro c₀ W hIf hSt hfp hnw hst F N hk hP hB turn hX done
  have stm : ∀ i h h' (oI oI' : Obj) c c', St i h → Fr h₀ L h m₀ → News h₀ L h ((I, oI) :: Led c) → h'.get? I = some oI → (∀ b o, h₀.get? b = some o → h'.get? b = some o) → News h₀ L h' (Led c') → St i h' := by
    intro i h h' oI oI' c c' hs F1 N1 hI' hk' N2
    refine W.frame i h h' hs fun b hb o ho => ?_
    by_cases hbI : b = I
    · subst hbI
      have := (N1 _ (.head _)).1
      rw [ho] at this
      rw [Option.some.inj this]; exact hI'
    · rcases hfp b hb hbI with ⟨o', ho'⟩ | ⟨o', ho'⟩
      · have := F1.keep _ _ ho'
        rw [ho] at this
        rw [Option.some.inj this]
        exact hk' _ _ ho'
      · have := (N1 _ (.tail _ (ho' c))).1
        rw [ho] at this
        rw [Option.some.inj this]
        exact (N2 _ (ho' c')).1
  have stm2 : ∀ i h h' (oI : Obj) c c' m m', St i h → Fr h₀ L h m → News h₀ L h ((I, oI) :: Led c) → Fr h₀ L h' m' → News h₀ L h' ((I, oI) :: Led c') → St i h' := by
    intro i h h' oI c c' m m' hs F1 N1 F2 N2
    refine W.frame i h h' hs fun b hb o ho => ?_
    by_cases hbI : b = I
    · subst hbI
      have := (N1 _ (.head _)).1
      rw [ho] at this
      rw [Option.some.inj this]; exact (N2 _ (.head _)).1
    · rcases hfp b hb hbI with ⟨o', ho'⟩ | ⟨o', ho'⟩
      · have := F1.keep _ _ ho'
        rw [ho] at this
        rw [Option.some.inj this]
        exact F2.keep _ _ ho'
      · have := (N1 _ (.tail _ (ho' c))).1
        rw [ho] at this
        rw [Option.some.inj this]
        exact (N2 _ (.tail _ (ho' c'))).1
  refine codeAny_forLoop (fun k s' => ∃ i h tk gens c u oI, s' = { s with heap := h, toks := tk, gens := gens } ∧ k = n + 1 - i ∧ i ≤ n ∧ St i h ∧ P i c ∧ (∀ p ∈ Led c, p.1 ≠ I) ∧ AllBare gens ∧ Fr h₀ L h (kstB u (ps c)) ∧ News h₀ L h ((I, oI) :: Led c)) ?_ (n + 1)
    ⟨0, s.heap, s.toks, s.gens, c₀, m₀, oI0, rfl, rfl, Nat.zero_le _, hst, hP, hnw, hB, fr_known F hk, N⟩
  rintro k s' ⟨i, H, tk, gens, c, u, oI, rfl, rfl, hi, hsti, hPc, hne, hBg, F1, N1⟩
  have hLI : L ∉ [I] := fun h => (N1 _ (.head _)).2.1 (List.mem_singleton.mp h).symm
  have upF : ∀ (h₁ : Heap), (∀ b o, b ∉ [I] → H.get? b = some o → h₁.get? b = some o) → Fr h₀ L h₁ (kstB u (ps c)) ∧ News h₀ L h₁ (Led c) := by
    intro h₁ hk₁
    refine ⟨⟨F1.ns.at' fun o e => hk₁ _ o hLI e, fun b o q => hk₁ b o (fun hm => ?_) (F1.keep b o q), F1.above⟩, fun p hp => ?_⟩
    · have := (N1 _ (.head _)).2.2
      rw [← List.mem_singleton.mp hm, q] at this; cases this
    · exact ⟨hk₁ _ _ (fun h => hne _ hp (List.mem_singleton.mp h)) (N1 _ (.tail _ hp)).1, (N1 _ (.tail _ hp)).2⟩
  by_cases hlt : i < n
  · refine W.item i _ _ _ hlt hsti fun v h₁ tk₁ hPv hst₁ hk₁ => ?_
    obtain ⟨oI', hoI'⟩ := hSt _ _ hst₁
    obtain ⟨F2, N2⟩ := upF h₁ hk₁
    have N3 : News h₀ L h₁ ((I, oI') :: Led c) := by
      intro p hp
      rcases List.mem_cons.mp hp with rfl | hp
      · exact ⟨hoI', (N1 _ (.head _)).2⟩
      · exact N2 _ hp
    refine wpAny_mono (turn i v c u h₁ tk₁ gens oI' hlt hPv hPc hne hBg F2 N3) (fun _ s₂ q => wpAny_mono q (fun f s₃ q => ?_) fun _ _ e => e) fun _ _ e => e
    have fin : OutG h₀ L s (fun c => (I, oI') :: Led c) ps (fun c' => P (i + 1) c' ∧ ∀ p ∈ Led c', p.1 ≠ I) s₃ → ∃ m, m < n + 1 - i ∧ ∃ i h tk gens c u oI, s₃ = { s with heap := h, toks := tk, gens := gens } ∧ m = n + 1 - i ∧ i ≤ n ∧ St i h ∧ P i c ∧ (∀ p ∈ Led c, p.1 ≠ I) ∧ AllBare gens ∧ Fr h₀ L h (kstB u (ps c)) ∧ News h₀ L h ((I, oI) :: Led c) := by
      rintro ⟨c', h', tk', gens', m', news', rfl, hB', F', N', hl', hp', hx', hne'⟩
      have N4 : News h₀ L h' ((I, oI') :: Led c') := fun p hp => N' p (hl' p hp)
      exact ⟨n + 1 - (i + 1), by omega, i + 1, h', tk', gens', c', m', oI', rfl, rfl, hlt, stm2 _ _ _ _ _ _ _ _ hst₁ F2 N3 F' N4, hx', hne', hB', fr_known F' hp', N4⟩
    cases f with
    | ret v => exact q
    | brk => exact OutG.use (P := fun s' => R (.ok .next) s') q done
    | next => exact fin q
    | cont => exact fin q
  · have hin : i = n := by omega
    subst hin
    refine W.done _ _ _ hsti fun h₁ tk₁ hk₁ => ?_
    obtain ⟨F2, N2⟩ := upF h₁ hk₁
    exact wpAny_execs_nil (done c u h₁ tk₁ gens (hX c hPc) hBg F2 N2)
theorem cutR2 : ∀ (prog : Program) (w : World) (A : Around) (s : Shared) (h₀ : Heap) (L : Addr) (env : Env) (x : Str) (px : Pos) (body : List Stmt) (I : Addr) (oI0 : Obj) (fp : List Addr) (n : Nat) (Pv : Nat → Value → Prop) (St : Nat → Heap → Prop) (R : Result → Shared → Prop) (m₀ : Str → Option Value) (Led : σ → List (Addr × Obj)) (ps : σ → List (Str × Value)) (P : Nat → σ → Prop) (X : σ → Prop), cutQ2.1 prog w A s h₀ L env x px body I oI0 fp n Pv St R m₀ Led ps P X := by
  intro prog w A s h₀ L env x px body I oI0 fp n Pv St R m₀ Led ps P X
  with_unfolding_all exact of_gen (P := fun t : Program × World × Around × Shared × Heap × Addr × Env × Str × Pos × (List Stmt) × Addr × Obj × (List Addr) × Nat × (Nat → Value → Prop) × (Nat → Heap → Prop) × (Result → Shared → Prop) × (Str → Option Value) × (σ → List (Addr × Obj)) × (σ → List (Str × Value)) × (Nat → σ → Prop) × (σ → Prop) => cutQ2.1 t.1 t.2.1 t.2.2.1 t.2.2.2.1 t.2.2.2.2.1 t.2.2.2.2.2.1 t.2.2.2.2.2.2.1 t.2.2.2.2.2.2.2.1 t.2.2.2.2.2.2.2.2.1 t.2.2.2.2.2.2.2.2.2.1 t.2.2.2.2.2.2.2.2.2.2.1 t.2.2.2.2.2.2.2.2.2.2.2.1 t.2.2.2.2.2.2.2.2.2.2.2.2.1 t.2.2.2.2.2.2.2.2.2.2.2.2.2.1 t.2.2.2.2.2.2.2.2.2.2.2.2.2.2.1 t.2.2.2.2.2.2.2.2.2.2.2.2.2.2.2.1 t.2.2.2.2.2.2.2.2.2.2.2.2.2.2.2.2.1 t.2.2.2.2.2.2.2.2.2.2.2.2.2.2.2.2.2.1 t.2.2.2.2.2.2.2.2.2.2.2.2.2.2.2.2.2.2.1 t.2.2.2.2.2.2.2.2.2.2.2.2.2.2.2.2.2.2.2.1 t.2.2.2.2.2.2.2.2.2.2.2.2.2.2.2.2.2.2.2.2.1 t.2.2.2.2.2.2.2.2.2.2.2.2.2.2.2.2.2.2.2.2.2) cutP2 (prog, w, A, s, h₀, L, env, x, px, body, I, oI0, fp, n, Pv, St, R, m₀, Led, ps, P, X)
end C
theorem cutP1 : cutQ1.1 σ := cutQ2.2 C.cutR2
theorem cutR1 : ∀ (σ : Type), cutQ1.1 σ := by
  intro σ
  with_unfolding_all exact of_gen (P := fun t : Type => cutQ1.1 t) cutP1 (σ)
end C
end loopG
theorem loopG {prog : Program} {w : World} {A : Around} {s : Shared} {h₀ : Heap} {L : Addr} {env : Env} {σ : Type} {x : Str} {px : Pos} {body : List Stmt} {I : Addr} {oI0 : Obj} {fp : List Addr} {n : Nat} {Pv : Nat → Value → Prop} {St : Nat → Heap → Prop} {R : Result → Shared → Prop} {m₀ : Str → Option Value}
    (Led : σ → List (Addr × Obj)) (ps : σ → List (Str × Value)) (P : Nat → σ → Prop) (X : σ → Prop) (c₀ : σ)
    (W : Walks prog w A I fp [I] n Pv St) (hIf : I ∈ fp) (hSt : ∀ i h, St i h → ∃ o, h.get? I = some o)
    (hfp : ∀ b ∈ fp, b ≠ I → (∃ o, h₀.get? b = some o) ∨ (∃ o, ∀ c, (b, o) ∈ Led c))
    (hnw : ∀ p ∈ Led c₀, p.1 ≠ I) (hst : St 0 s.heap) (F : Fr h₀ L s.heap m₀) (N : News h₀ L s.heap ((I, oI0) :: Led c₀)) (hk : ∀ p ∈ ps c₀, m₀ p.1 = some p.2) (hP : P 0 c₀) (hB : AllBare s.gens)
    (turn : ∀ i v c u h tk gens oI, i < n → Pv i v → P i c → (∀ p ∈ Led c, p.1 ≠ I) → AllBare gens → Fr h₀ L h (kstB u (ps c)) → News h₀ L h ((I, oI) :: Led c) →
      wpAny (model prog w) A (assign (.Name x px) env v) (fun _ s₂ => wpAny (model prog w) A (execs body env) (GTurn h₀ L s Led ps I oI (P (i + 1)) X R) (notedBy (model prog w) A env fun e s' => R (.error e) s') s₂)
        (notedBy (model prog w) A env fun e s' => R (.error e) s') { s with heap := h, toks := tk, gens := gens })
    (hX : ∀ c, P n c → X c)
    (done : ∀ c u h tk gens, X c → AllBare gens → Fr h₀ L h (kstB u (ps c)) → News h₀ L h (Led c) → R (.ok .next) { s with heap := h, toks := tk, gens := gens }) :
    codeAny (model prog w) A (.forLoop (.Name x px) (.ref I) body [] env) R s :=
  loopG.cutQ1.2 loopG.C.cutR1 Led ps P X c₀ W hIf hSt hfp hnw hst F N hk hP hB turn hX done
section
variable {prog : Program} {w : World} {A : Around} {E : Value → Shared → Prop} {Q : Flow → Shared → Prop} {s : Shared} {env : Env} {h₀ : Heap} {L : Addr}
theorem range_G {σ : Type} {x : Str} {px : Pos} {body : List Stmt} {r : Addr} {a₀ b₀ : Int} {t₀ u₀ v₀ : Tok} {n : Nat} {m₀ : Str → Option Value} {news : List (Addr × Obj)} {R : Result → Shared → Prop}
    (Led : σ → List (Addr × Obj)) (ps : σ → List (Str × Value)) (P : Nat → σ → Prop) (X : σ → Prop) (c₀ : σ)
    (hh : A.handled = none) (hr : IsRange s.heap r a₀ b₀ 1 t₀ u₀ v₀) (hsmall : Builtin.Range.small a₀ b₀ 1 = true) (hn : Builtin.Range.rangeSize a₀ b₀ 1 = (n : Int))
    (F : Fr h₀ L s.heap m₀) (N : News h₀ L s.heap news) (hl : ∀ p ∈ Led c₀, p ∈ news) (hk : ∀ p ∈ ps c₀, m₀ p.1 = some p.2) (hP : P 0 c₀) (hB : AllBare s.gens)
    (turn : ∀ (i : Nat) t c u h tk gens I oI, (∀ p ∈ Led c₀, p.1 < I) → i < n → P i c → (∀ p ∈ Led c, p.1 ≠ I) → AllBare gens → Fr h₀ L h (kstB u (ps c)) → News h₀ L h ((I, oI) :: Led c) →
      wpAny (model prog w) A (assign (.Name x px) env (.int (a₀ + (i : Int)) t)) (fun _ s₂ => wpAny (model prog w) A (execs body env) (GTurn h₀ L s Led ps I oI (P (i + 1)) X R) (notedBy (model prog w) A env fun e s' => R (.error e) s') s₂)
        (notedBy (model prog w) A env fun e s' => R (.error e) s') { s with heap := h, toks := tk, gens := gens })
    (hX : ∀ c, P n c → X c)
    (done : ∀ c u h tk gens, X c → AllBare gens → Fr h₀ L h (kstB u (ps c)) → News h₀ L h (Led c) → R (.ok .next) { s with heap := h, toks := tk, gens := gens }) :
    wpAny (model prog w) A (pyIter (.ref r)) (fun it s₂ => codeAny (model prog w) A (.forLoop (.Name x px) it body [] env) R s₂) E s := by
  refine wpAny_pyIter_range hr hsmall ?_
  have W : Walks prog w A s.heap.objs.size [s.heap.objs.size] [s.heap.objs.size] n (fun i v => i < n ∧ ∃ t, v = .int (a₀ + i * 1) t)
      (fun i h => IsRangeIter h s.heap.objs.size (a₀ + (i : Nat) * 1) ((n : Int) - (i : Nat)) 1) := (Walks.range hh _ a₀ 1 n).bound
  have N0 : News h₀ L s.heap (Led c₀) := fun p hp => N p (hl p hp)
  have NI := News.push F N0 { cls := .type "range_iterator", data := .fields #[rawInt a₀, rawInt (Builtin.Range.rangeSize a₀ b₀ 1), rawInt 1] }
  refine loopG (s := { s with heap := _ }) Led ps P X c₀ W (.head _) (fun i h st => ⟨_, st⟩) ?_ ?_ (by show IsRangeIter _ _ _ _ _; rw [hn]; simpa using Heap.get?_push_size _ rfl) (F.push _) NI hk hP hB ?_ hX ?_
  · intro b hb hne; exact absurd (List.mem_singleton.mp hb) hne
  · intro p hp hI
    exact absurd (Heap.lt_size (N0 p hp).1) (hI ▸ Nat.lt_irrefl _)
  · rintro i v c u h tk gens oI hin ⟨_, t, rfl⟩ hPc hne hBg F' N'
    rw [Int.mul_one]
    exact turn i t c u h tk gens _ oI (fun p hp => Heap.lt_size (N0 p hp).1) hin hPc hne hBg F' N'
  · exact done
theorem list_G {σ : Type} {x : Str} {px : Pos} {body : List Stmt} {l : Addr} {vs : List Value} {m₀ : Str → Option Value} {news : List (Addr × Obj)} {R : Result → Shared → Prop}
    (Led : σ → List (Addr × Obj)) (ps : σ → List (Str × Value)) (P : Nat → σ → Prop) (X : σ → Prop) (c₀ : σ)
    (hh : A.handled = none) (hls : s.heap.IsList l vs.toArray) (hl0 : (∃ o, h₀.get? l = some o) ∨ (∃ o, ∀ c, (l, o) ∈ Led c))
    (F : Fr h₀ L s.heap m₀) (N : News h₀ L s.heap news) (hl : ∀ p ∈ Led c₀, p ∈ news) (hk : ∀ p ∈ ps c₀, m₀ p.1 = some p.2) (hP : P 0 c₀) (hB : AllBare s.gens)
    (turn : ∀ (i : Nat) v c u h tk gens I oI, (∀ p ∈ Led c₀, p.1 < I) → vs[i]? = some v → P i c → (∀ p ∈ Led c, p.1 ≠ I) → AllBare gens → Fr h₀ L h (kstB u (ps c)) → News h₀ L h ((I, oI) :: Led c) →
      wpAny (model prog w) A (assign (.Name x px) env v) (fun _ s₂ => wpAny (model prog w) A (execs body env) (GTurn h₀ L s Led ps I oI (P (i + 1)) X R) (notedBy (model prog w) A env fun e s' => R (.error e) s') s₂)
        (notedBy (model prog w) A env fun e s' => R (.error e) s') { s with heap := h, toks := tk, gens := gens })
    (hX : ∀ c, P vs.length c → X c)
    (done : ∀ c u h tk gens, X c → AllBare gens → Fr h₀ L h (kstB u (ps c)) → News h₀ L h (Led c) → R (.ok .next) { s with heap := h, toks := tk, gens := gens }) :
    wpAny (model prog w) A (pyIter (.ref l)) (fun it s₂ => codeAny (model prog w) A (.forLoop (.Name x px) it body [] env) R s₂) E s := by
  obtain ⟨ol, hol, _⟩ := id hls
  have hlt : l < s.heap.objs.size := Heap.lt_size hol
  have hne : l ≠ s.heap.objs.size := Nat.ne_of_lt hlt
  refine wpAny_pyIter_list hls ?_
  have W := Walks.list (prog := prog) (w := w) hh s.heap.objs.size l hne vs.toArray
  have hlen : vs.toArray.size = vs.length := by simp
  rw [hlen] at W
  have N0 : News h₀ L s.heap (Led c₀) := fun p hp => N p (hl p hp)
  have NI := News.push F N0 { cls := .type "list_iterator", data := .fields #[.ref l, .int 0 0] }
  refine loopG (s := { s with heap := _ }) Led ps P X c₀ W (.head _) (fun i h st => let ⟨o, ho, _⟩ := st.1; ⟨o, ho⟩) ?_ ?_ ⟨⟨_, Heap.get?_push_size _ rfl, rfl, rfl⟩, hls.at fun o e => Heap.get?_push_of_some _ e⟩ (F.push _) NI hk hP hB ?_ hX ?_
  · intro b hb hne'
    rcases List.mem_cons.mp hb with e | hb
    · exact absurd e hne'
    · rw [List.mem_singleton.mp hb]; exact hl0
  · intro p hp hI
    exact absurd (Heap.lt_size (N0 p hp).1) (hI ▸ Nat.lt_irrefl _)
  · rintro i v c u h tk gens oI hin hPv hPc hne hBg F' N'
    exact turn i v c u h tk gens _ oI (fun p hp => Heap.lt_size (N0 p hp).1) (by simpa using hPv) hPc hne hBg F' N'
  · exact done
end
end Mine
end
section
namespace Mine
noncomputable def Menu (r : Int) : Prop := r = 1 ∨ r = 2 ∨ r = 3 ∨ r = 0 ∨ r = 127
theorem Menu.ge {r : Int} (h : Menu r) : 0 ≤ r := by unfold Menu at h; omega
theorem Menu.in {r : Int} (h : Menu r) : 0 ≤ r ∧ r ≤ 127 := by unfold Menu at h; omega
abbrev EF : Value → Shared → Prop := fun _ _ => False
section
variable {prog : Program} {w : World} {A : Around} {E : Value → Shared → Prop} {Q : Flow → Shared → Prop} {s : Shared} {env : Env} {h₀ : Heap} {L : Addr}
noncomputable def NTurn {σ : Type} (h₀ : Heap) (L : Addr) (s : Shared) (Led : σ → List (Addr × Obj)) (ps : σ → List (Str × Value)) (I : Addr) (oI : Obj) (P X : σ → Prop) (f : Flow) (s₂ : Shared) : Prop :=
  match f with
  | .ret _ => False
  | .brk => OutG h₀ L s Led ps X s₂
  | _ => OutG h₀ L s (fun c => (I, oI) :: Led c) ps (fun c' => P c' ∧ ∀ p ∈ Led c', p.1 ≠ I) s₂
noncomputable def NSeq {σ : Type} (h₀ : Heap) (L : Addr) (s : Shared) (Led : σ → List (Addr × Obj)) (ps : σ → List (Str × Value)) (X : σ → Prop) (f : Flow) (s₂ : Shared) : Prop :=
  match f with
  | .next => OutG h₀ L s Led ps X s₂
  | _ => False
theorem seqN {σ : Type} {st : Stmt} {rest : List Stmt} (Led : σ → List (Addr × Obj)) (ps : σ → List (Str × Value)) (X : σ → Prop)
    (h : wpAny (model prog w) A (exec st env) (NSeq h₀ L s Led ps X) EF s)
    (k : ∀ c u h tk gens, X c → AllBare gens → Fr h₀ L h (kstB u (ps c)) → News h₀ L h (Led c) → wpAny (model prog w) A (execs rest env) Q E { s with heap := h, toks := tk, gens := gens }) :
    wpAny (model prog w) A (execs (st :: rest) env) Q E s := by
  refine seq_cutG Led ps X (wpAny_mono h (fun f s' q => ?_) fun _ _ x => x.elim) k
  cases f <;> first | exact q | exact q.elim
theorem rangeN {σ : Type} {x : Str} {px : Pos} {body : List Stmt} {r : Addr} {a₀ b₀ : Int} {t₀ u₀ v₀ : Tok} {n : Nat} {m₀ : Str → Option Value} {news : List (Addr × Obj)} {R : Result → Shared → Prop}
    (Led : σ → List (Addr × Obj)) (ps : σ → List (Str × Value)) (P : Nat → σ → Prop) (X : σ → Prop) (c₀ : σ)
    (hh : A.handled = none) (hr : IsRange s.heap r a₀ b₀ 1 t₀ u₀ v₀) (hsmall : Builtin.Range.small a₀ b₀ 1 = true) (hn : Builtin.Range.rangeSize a₀ b₀ 1 = (n : Int))
    (F : Fr h₀ L s.heap m₀) (N : News h₀ L s.heap news) (hl : ∀ p ∈ Led c₀, p ∈ news) (hk : ∀ p ∈ ps c₀, m₀ p.1 = some p.2) (hP : P 0 c₀) (hB : AllBare s.gens)
    (turn : ∀ (i : Nat) t c u h tk gens I oI, (∀ p ∈ Led c₀, p.1 < I) → i < n → P i c → (∀ p ∈ Led c, p.1 ≠ I) → AllBare gens → Fr h₀ L h (kstB u (ps c)) → News h₀ L h ((I, oI) :: Led c) →
      wpAny (model prog w) A (assign (.Name x px) env (.int (a₀ + (i : Int)) t)) (fun _ s₂ => wpAny (model prog w) A (execs body env) (NTurn h₀ L s Led ps I oI (P (i + 1)) X) EF s₂) EF { s with heap := h, toks := tk, gens := gens })
    (hX : ∀ c, P n c → X c)
    (done : ∀ c u h tk gens, X c → AllBare gens → Fr h₀ L h (kstB u (ps c)) → News h₀ L h (Led c) → R (.ok .next) { s with heap := h, toks := tk, gens := gens }) :
    wpAny (model prog w) A (pyIter (.ref r)) (fun it s₂ => codeAny (model prog w) A (.forLoop (.Name x px) it body [] env) R s₂) E s := by
  refine range_G Led ps P X c₀ hh hr hsmall hn F N hl hk hP hB (fun i t c u h tk gens I oI h1 h2 h3 h4 h5 h6 h7 => ?_) hX done
  refine wpAny_mono (turn i t c u h tk gens I oI h1 h2 h3 h4 h5 h6 h7) (fun _ s₂ q => wpAny_mono q (fun f s₃ q => ?_) fun _ _ x => x.elim) fun _ _ x => x.elim
  cases f <;> first | exact q | exact q.elim
theorem listN {σ : Type} {x : Str} {px : Pos} {body : List Stmt} {l : Addr} {vs : List Value} {m₀ : Str → Option Value} {news : List (Addr × Obj)} {R : Result → Shared → Prop}
    (Led : σ → List (Addr × Obj)) (ps : σ → List (Str × Value)) (P : Nat → σ → Prop) (X : σ → Prop) (c₀ : σ)
    (hh : A.handled = none) (hls : s.heap.IsList l vs.toArray) (hl0 : (∃ o, h₀.get? l = some o) ∨ (∃ o, ∀ c, (l, o) ∈ Led c))
    (F : Fr h₀ L s.heap m₀) (N : News h₀ L s.heap news) (hl : ∀ p ∈ Led c₀, p ∈ news) (hk : ∀ p ∈ ps c₀, m₀ p.1 = some p.2) (hP : P 0 c₀) (hB : AllBare s.gens)
    (turn : ∀ (i : Nat) v c u h tk gens I oI, (∀ p ∈ Led c₀, p.1 < I) → vs[i]? = some v → P i c → (∀ p ∈ Led c, p.1 ≠ I) → AllBare gens → Fr h₀ L h (kstB u (ps c)) → News h₀ L h ((I, oI) :: Led c) →
      wpAny (model prog w) A (assign (.Name x px) env v) (fun _ s₂ => wpAny (model prog w) A (execs body env) (NTurn h₀ L s Led ps I oI (P (i + 1)) X) EF s₂) EF { s with heap := h, toks := tk, gens := gens })
    (hX : ∀ c, P vs.length c → X c)
    (done : ∀ c u h tk gens, X c → AllBare gens → Fr h₀ L h (kstB u (ps c)) → News h₀ L h (Led c) → R (.ok .next) { s with heap := h, toks := tk, gens := gens }) :
    wpAny (model prog w) A (pyIter (.ref l)) (fun it s₂ => codeAny (model prog w) A (.forLoop (.Name x px) it body [] env) R s₂) E s := by
  refine list_G Led ps P X c₀ hh hls hl0 F N hl hk hP hB (fun i v c u h tk gens I oI h1 h2 h3 h4 h5 h6 h7 => ?_) hX done
  refine wpAny_mono (turn i v c u h tk gens I oI h1 h2 h3 h4 h5 h6 h7) (fun _ s₂ q => wpAny_mono q (fun f s₃ q => ?_) fun _ _ x => x.elim) fun _ _ x => x.elim
  cases f <;> first | exact q | exact q.elim
end
end Mine
end
section
local macro_rules | `(tactic| omega) => `(tactic| lia)
set_option maxHeartbeats 8000000
set_option rowWalk.seconds 0
namespace Mine
namespace cells_call
noncomputable def cutQ1 : { qq : (World → (ExcName → Option Value) → (Str → Option Value) → (Str → Option Value) → Addr → Addr → (List Value) → (List Value) → (List Int) → (List Int) → Nat → Nat → Nat → (Option (List Code)) → (List Env) → Heap → Shared → (Value → Shared → Prop) → (Value → Shared → Prop) → Heap → Addr → Heap → Prop) // (∀ (w : World) (mean : ExcName → Option Value) (mg : Str → Option Value) (mb : Str → Option Value) (ls : Addr) (lc : Addr) (sv : List Value) (vs : List Value) (scr : List Int) (cs : List Int) (e : Nat) (dp : Nat) (un : Nat) (gd : Option (List Code)) (outers : List Env) (base : Heap) (s : Shared) (Q : Value → Shared → Prop) (E : Value → Shared → Prop) (g : Heap) (L' : Addr) (h₁ : Heap), qq w mean mg mb ls lc sv vs scr cs e dp un gd outers base s Q E g L' h₁) → ∀ (w : World) (mean : ExcName → Option Value) (mg mb : Str → Option Value) (ls lc : Addr) (sv vs : List Value) (scr cs : List Int) (e : Nat) (dp un : Nat) (gd : Option (List Code)) (outers : List Env) (base : Heap) (s : Shared) (Q E : Value → Shared → Prop) (B : Below (Aro dp un gd outers) base outers s.heap) (X0 : (hd1.heap_39 w.params).In base) (T0 : Top hd1.view_39 (looseW hd1.view_39 []) mean mg mb base) (hdp : dp + 2 < recursionLimit) (hun : un + 100 < cLine) (hs : base.IsList ls sv.toArray) (hsi : IntsAre sv scr) (hsl : scr.length ≤ 63) (hlc : s.heap.get? lc = some (W.listOf vs.toArray e)) (hlb : base.get? lc = none) (hlf : ∀ env ∈ outers, env.frame ≠ some lc) (hI : IntsAre vs cs) (hl : cs.length = 9) (hret : ∀ h' tk' vs' cs' e', (∀ b o, b ≠ lc → s.heap.get? b = some o → h'.get? b = some o) → h'.get? lc = some (W.listOf vs'.toArray e') → IntsAre vs' cs' → cs'.length = 9 → Q (.ref lc) { s with heap := h', toks := tk' }),
   wpAny (model Challenge.rw_re0065_01.row.prog w) (Aro dp un gd outers) (call (.ref 56) [.ref ls, .ref lc]) Q E s } := by
  refine ⟨?qq0, fun hP0 => ?b⟩
  case b =>
    intro w mean mg mb ls lc sv vs scr cs e dp un gd outers base s Q E B X0 T0 hdp hun hs hsi hsl hlc hlb hlf hI hl hret
    revert X0; k_fill; intro X0
    ((refine wpAny_call ?_; k_dflt (refine' enterH ?k1 ?k2 ?k3 ?ka ?kb ?kc ?k6 ?k7 ?k8 ?k9 ?kB ?_ ?c2 ?c3 ?c4 ?c5; (case k1 => k_asm); (case k2 => k_asm); (case k3 => k_asm); (case ka => assumption); (case kb => assumption); (case kc => assumption); (case k6 => k_is); (case k7 => k_is); (case k8 => ktr_room); (case k9 => exact BindsTo.of_eq rfl); (case c5 => decide); (case kB => exact locs rfl); (case c2 => exact rfl); (case c3 => exact rfl); (case c4 => exact rfl); k_whole)))
    intro g L' h₁ hg F' N' B' X' T'
    have hs' : g.IsList ls sv.toArray := hs.at fun o e => B'.stays ls o e
    (try dsimp only); (try k_lift B')
    (try dsimp +zetaDelta only)
    revert hs'
    revert T'
    revert X'
    revert B'
    revert N'
    revert F'
    revert hg
    revert hret
    revert hl
    revert hI
    revert hlf
    revert hlb
    revert hlc
    revert hsl
    revert hsi
    revert hs
    revert hun
    revert hdp
    revert T0
    revert X0
    revert B
    exact @hP0 w mean mg mb ls lc sv vs scr cs e dp un gd outers base s Q E g L' h₁
namespace C
@[irreducible] noncomputable def cutT : World × (ExcName → Option Value) × (Str → Option Value) × (Str → Option Value) × Addr × Addr × (List Value) × (List Value) × (List Int) × (List Int) × Nat × Nat × Nat × (Option (List Code)) × (List Env) × Heap × Shared × (Value → Shared → Prop) × (Value → Shared → Prop) × Heap × Addr × Heap := gen ⟨(Classical.choice world_ne, fun _ => none, fun _ => none, fun _ => none, 0, 0, [], [], [], [], 0, 0, 0, none, [], default, {}, fun _ _ => True, fun _ _ => True, default, 0, default)⟩ fun t => cutQ1.1 t.1 t.2.1 t.2.2.1 t.2.2.2.1 t.2.2.2.2.1 t.2.2.2.2.2.1 t.2.2.2.2.2.2.1 t.2.2.2.2.2.2.2.1 t.2.2.2.2.2.2.2.2.1 t.2.2.2.2.2.2.2.2.2.1 t.2.2.2.2.2.2.2.2.2.2.1 t.2.2.2.2.2.2.2.2.2.2.2.1 t.2.2.2.2.2.2.2.2.2.2.2.2.1 t.2.2.2.2.2.2.2.2.2.2.2.2.2.1 t.2.2.2.2.2.2.2.2.2.2.2.2.2.2.1 t.2.2.2.2.2.2.2.2.2.2.2.2.2.2.2.1 t.2.2.2.2.2.2.2.2.2.2.2.2.2.2.2.2.1 t.2.2.2.2.2.2.2.2.2.2.2.2.2.2.2.2.2.1 t.2.2.2.2.2.2.2.2.2.2.2.2.2.2.2.2.2.2.1 t.2.2.2.2.2.2.2.2.2.2.2.2.2.2.2.2.2.2.2.1 t.2.2.2.2.2.2.2.2.2.2.2.2.2.2.2.2.2.2.2.2.1 t.2.2.2.2.2.2.2.2.2.2.2.2.2.2.2.2.2.2.2.2.2
@[irreducible] noncomputable def w : World := cutT.1
@[irreducible] noncomputable def mean : ExcName → Option Value := cutT.2.1
@[irreducible] noncomputable def mg : Str → Option Value := cutT.2.2.1
@[irreducible] noncomputable def mb : Str → Option Value := cutT.2.2.2.1
@[irreducible] noncomputable def ls : Addr := cutT.2.2.2.2.1
@[irreducible] noncomputable def lc : Addr := cutT.2.2.2.2.2.1
@[irreducible] noncomputable def sv : List Value := cutT.2.2.2.2.2.2.1
@[irreducible] noncomputable def vs : List Value := cutT.2.2.2.2.2.2.2.1
@[irreducible] noncomputable def scr : List Int := cutT.2.2.2.2.2.2.2.2.1
@[irreducible] noncomputable def cs : List Int := cutT.2.2.2.2.2.2.2.2.2.1
@[irreducible] noncomputable def e : Nat := cutT.2.2.2.2.2.2.2.2.2.2.1
@[irreducible] noncomputable def dp : Nat := cutT.2.2.2.2.2.2.2.2.2.2.2.1
@[irreducible] noncomputable def un : Nat := cutT.2.2.2.2.2.2.2.2.2.2.2.2.1
@[irreducible] noncomputable def gd : Option (List Code) := cutT.2.2.2.2.2.2.2.2.2.2.2.2.2.1
@[irreducible] noncomputable def outers : List Env := cutT.2.2.2.2.2.2.2.2.2.2.2.2.2.2.1
@[irreducible] noncomputable def base : Heap := cutT.2.2.2.2.2.2.2.2.2.2.2.2.2.2.2.1
@[irreducible] noncomputable def s : Shared := cutT.2.2.2.2.2.2.2.2.2.2.2.2.2.2.2.2.1
@[irreducible] noncomputable def Q : Value → Shared → Prop := cutT.2.2.2.2.2.2.2.2.2.2.2.2.2.2.2.2.2.1
@[irreducible] noncomputable def E : Value → Shared → Prop := cutT.2.2.2.2.2.2.2.2.2.2.2.2.2.2.2.2.2.2.1
@[irreducible] noncomputable def g : Heap := cutT.2.2.2.2.2.2.2.2.2.2.2.2.2.2.2.2.2.2.2.1
@[irreducible] noncomputable def L' : Addr := cutT.2.2.2.2.2.2.2.2.2.2.2.2.2.2.2.2.2.2.2.2.1
@[irreducible] noncomputable def h₁ : Heap := cutT.2.2.2.2.2.2.2.2.2.2.2.2.2.2.2.2.2.2.2.2.2
theorem cutP1 : cutQ1.1 w mean mg mb ls lc sv vs scr cs e dp un gd outers base s Q E g L' h₁ := by
  delta cutQ1
  dsimp only
  intro B X0 T0 hdp hun hs hsi hsl hlc hlb hlf hI hl hret hg F' N' B' X' T' hs'
  (try k_fold)
  (((try k_fold); ((repeat' (first | (k_unfold; (try dsimp only)) | ((fail_if_success (with_reducible show wpAny _ _ (exec (Stmt.While _ _ _ _) _) _ _ _)); (fail_if_success (with_reducible show wpAny _ _ (exec (Stmt.For _ _ _ _ _) _) _ _ _)); (fail_if_success (with_reducible show wpAny _ _ (pyIter _) _ _ _)); (fail_if_success (with_reducible show wpAny _ _ (eval (Expr.ListComp _ _ _ _) _) _ _ _)); (fail_if_success (with_reducible show wpAny _ _ (exec (Stmt.Assign _ (Expr.ListComp _ _ _ _) _) _) _ _ _)); ((first | walk1 | (dsimp only; walk1)); (try dsimp only))))))))
  refine For_invV g rfl rfl ?_
  (((try k_fold); ((repeat' (first | (k_unfold; (try dsimp only)) | ((fail_if_success (with_reducible show wpAny _ _ (exec (Stmt.While _ _ _ _) _) _ _ _)); (fail_if_success (with_reducible show wpAny _ _ (exec (Stmt.For _ _ _ _ _) _) _ _ _)); (fail_if_success (with_reducible show wpAny _ _ (pyIter _) _ _ _)); (fail_if_success (with_reducible show wpAny _ _ (eval (Expr.ListComp _ _ _ _) _) _ _ _)); (fail_if_success (with_reducible show wpAny _ _ (exec (Stmt.Assign _ (Expr.ListComp _ _ _ _) _) _) _ _ _)); ((first | walk1 | (dsimp only; walk1)); (try dsimp only))))))))
  (((with_reducible rename Fr _ _ _ _ => F0); (with_reducible rename News _ _ _ _ => N0)))
  rename IsRange _ _ _ _ _ _ _ _ => R0
  obtain ⟨n, hn, hn1, hn2⟩ : ∃ n : Nat, (if (60 : Int) < (scr.length : Int) then (60 : Int) else (scr.length : Int)) = (n : Int) ∧ n ≤ scr.length ∧ n ≤ 60 := by
    split
    · exact ⟨60, rfl, by omega, by omega⟩
    · exact ⟨scr.length, rfl, by omega, by omega⟩
  rw [hn] at R0
  refine' range_cut (σ := List Value × Nat × List Int) (n := n) (fun c => [(lc, W.listOf c.1.toArray c.2.1)])
    (fun c => [(Str.ofString "script", .ref ls), (Str.ofString "cells", .ref lc)])
    (fun i c => IntsAre c.1 c.2.2 ∧ c.2.2.length = 9) (fun c => IntsAre c.1 c.2.2 ∧ c.2.2.length = 9) (vs, e, cs) rfl R0 (small_one (by omega) (by omega) (by omega) (by omega)) size_one F0 N0 ?kl ?kk ?kp ?kt ?kx ?kd
  case kl => kst_in
  case kk => kst_all
  case kp => exact ⟨hI, hl⟩
  case kx => exact fun c h => h
  case kd =>
    rintro ⟨vs', e', cs'⟩ u h tk ⟨hI', hl9⟩ F1 N1
    clear F0 N0 R0
    dsimp only at hI' hl9; (try dsimp only at N1); dsimp only [kstB] at F1
    (try k_fold)
    (((try k_fold); ((repeat' (first | (k_unfold; (try dsimp only)) | ((fail_if_success (with_reducible show wpAny _ _ (exec (Stmt.While _ _ _ _) _) _ _ _)); (fail_if_success (with_reducible show wpAny _ _ (exec (Stmt.For _ _ _ _ _) _) _ _ _)); (fail_if_success (with_reducible show wpAny _ _ (pyIter _) _ _ _)); (fail_if_success (with_reducible show wpAny _ _ (eval (Expr.ListComp _ _ _ _) _) _ _ _)); (fail_if_success (with_reducible show wpAny _ _ (exec (Stmt.Assign _ (Expr.ListComp _ _ _ _) _) _) _ _ _)); ((first | walk1 | (dsimp only; walk1)); (try dsimp only))))))))
    (((with_reducible rename Fr _ _ _ _ => F0); (with_reducible rename News _ _ _ _ => N0)))
    exact hret _ _ vs' cs' e' (hide_back hg F0) (N0 _ (.head _)).1 hI' hl9
  case kt =>
    rintro i ti ⟨vs', e', cs'⟩ u h tk I oI hi ⟨hI', hl9⟩ hne F1 N1
    clear F0 N0 R0
    dsimp only at hI' hl9 hne; (try dsimp only at N1); dsimp only [kstB] at F1
    have hvl : vs'.length = 9 := by rw [hI'.length]; exact hl9
    have hlI : @Ne Nat lc I := hne _ (.head _)
    (try k_fold)
    (((try k_fold); ((repeat' (first | (k_unfold; (try dsimp only)) | ((fail_if_success (with_reducible show wpAny _ _ (exec (Stmt.While _ _ _ _) _) _ _ _)); (fail_if_success (with_reducible show wpAny _ _ (exec (Stmt.For _ _ _ _ _) _) _ _ _)); (fail_if_success (with_reducible show wpAny _ _ (pyIter _) _ _ _)); (fail_if_success (with_reducible show wpAny _ _ (eval (Expr.ListComp _ _ _ _) _) _ _ _)); (fail_if_success (with_reducible show wpAny _ _ (exec (Stmt.Assign _ (Expr.ListComp _ _ _ _) _) _) _ _ _)); ((first | walk1 | (dsimp only; walk1)); (try dsimp only))))))))
    dsimp only [FTurn]
    refine Out.mk' (_, _, cs'.set ((0 + (i : Int)).fmod (cs'.length : Int)).toNat _) (by k_asm) (by k_asm) (by kst_in) (by kst_all) ⟨⟨intsAre_set hI' _ _ _, ?_⟩, ?_⟩
    · rw [List.length_set]; exact hl9
    · intro p hp
      rw [List.mem_singleton.mp hp]; exact hlI
theorem cutR1 : ∀ (w : World) (mean : ExcName → Option Value) (mg : Str → Option Value) (mb : Str → Option Value) (ls : Addr) (lc : Addr) (sv : List Value) (vs : List Value) (scr : List Int) (cs : List Int) (e : Nat) (dp : Nat) (un : Nat) (gd : Option (List Code)) (outers : List Env) (base : Heap) (s : Shared) (Q : Value → Shared → Prop) (E : Value → Shared → Prop) (g : Heap) (L' : Addr) (h₁ : Heap), cutQ1.1 w mean mg mb ls lc sv vs scr cs e dp un gd outers base s Q E g L' h₁ := by
  intro w mean mg mb ls lc sv vs scr cs e dp un gd outers base s Q E g L' h₁
  with_unfolding_all exact of_gen (P := fun t : World × (ExcName → Option Value) × (Str → Option Value) × (Str → Option Value) × Addr × Addr × (List Value) × (List Value) × (List Int) × (List Int) × Nat × Nat × Nat × (Option (List Code)) × (List Env) × Heap × Shared × (Value → Shared → Prop) × (Value → Shared → Prop) × Heap × Addr × Heap => cutQ1.1 t.1 t.2.1 t.2.2.1 t.2.2.2.1 t.2.2.2.2.1 t.2.2.2.2.2.1 t.2.2.2.2.2.2.1 t.2.2.2.2.2.2.2.1 t.2.2.2.2.2.2.2.2.1 t.2.2.2.2.2.2.2.2.2.1 t.2.2.2.2.2.2.2.2.2.2.1 t.2.2.2.2.2.2.2.2.2.2.2.1 t.2.2.2.2.2.2.2.2.2.2.2.2.1 t.2.2.2.2.2.2.2.2.2.2.2.2.2.1 t.2.2.2.2.2.2.2.2.2.2.2.2.2.2.1 t.2.2.2.2.2.2.2.2.2.2.2.2.2.2.2.1 t.2.2.2.2.2.2.2.2.2.2.2.2.2.2.2.2.1 t.2.2.2.2.2.2.2.2.2.2.2.2.2.2.2.2.2.1 t.2.2.2.2.2.2.2.2.2.2.2.2.2.2.2.2.2.2.1 t.2.2.2.2.2.2.2.2.2.2.2.2.2.2.2.2.2.2.2.1 t.2.2.2.2.2.2.2.2.2.2.2.2.2.2.2.2.2.2.2.2.1 t.2.2.2.2.2.2.2.2.2.2.2.2.2.2.2.2.2.2.2.2.2) cutP1 (w, mean, mg, mb, ls, lc, sv, vs, scr, cs, e, dp, un, gd, outers, base, s, Q, E, g, L', h₁)
end C
end cells_call
theorem cells_call (w : World) (mean : ExcName → Option Value) (mg mb : Str → Option Value) (ls lc : Addr) (sv vs : List Value) (scr cs : List Int) (e : Nat) (dp un : Nat) (gd : Option (List Code)) (outers : List Env) (base : Heap) (s : Shared) (Q E : Value → Shared → Prop)
    (B : Below (Aro dp un gd outers) base outers s.heap) (X0 : (hd1.heap_39 w.params).In base) (T0 : Top hd1.view_39 (looseW hd1.view_39 []) mean mg mb base)
    (hdp : dp + 2 < recursionLimit) (hun : un + 100 < cLine) (hs : base.IsList ls sv.toArray) (hsi : IntsAre sv scr) (hsl : scr.length ≤ 63)
    (hlc : s.heap.get? lc = some (W.listOf vs.toArray e)) (hlb : base.get? lc = none) (hlf : ∀ env ∈ outers, env.frame ≠ some lc) (hI : IntsAre vs cs) (hl : cs.length = 9)
    (hret : ∀ h' tk' vs' cs' e', (∀ b o, b ≠ lc → s.heap.get? b = some o → h'.get? b = some o) → h'.get? lc = some (W.listOf vs'.toArray e') → IntsAre vs' cs' → cs'.length = 9 → Q (.ref lc) { s with heap := h', toks := tk' }) :
    wpAny (model Challenge.rw_re0065_01.row.prog w) (Aro dp un gd outers) (call (.ref 56) [.ref ls, .ref lc]) Q E s :=
  cells_call.cutQ1.2 cells_call.C.cutR1 w mean mg mb ls lc sv vs scr cs e dp un gd outers base s Q E B X0 T0 hdp hun hs hsi hsl hlc hlb hlf hI hl hret
end Mine
end
section
namespace Mine
theorem frames_off {h base : Heap} {lc : Addr} : ∀ {l : List Env}, h.FunFrames base l → h.get? lc = none → ∀ env ∈ l, env.frame ≠ some lc
  | [], _, _, env, he => by cases he
  | e :: l, ⟨_, ⟨L, o, hf, _, ho, _⟩, hr⟩, hn, env, he => by
    rcases List.mem_cons.mp he with rfl | he
    · intro q
      rw [hf] at q
      rw [Option.some.inj q, hn] at ho
      cases ho
    · exact frames_off hr hn env he
theorem fr_swap {h₀ h h' : Heap} {L lc : Addr} {m : Str → Option Value} (F : Fr h₀ L h m) (hL : L ≠ lc) (h0 : h₀.get? lc = none) (hk : ∀ b o, b ≠ lc → h.get? b = some o → h'.get? b = some o) : Fr h₀ L h' m :=
  ⟨F.ns.at' fun o e => hk _ o hL e, fun b o q => hk b o (fun e => by rw [e, h0] at q; cases q) (F.keep b o q), F.above⟩
theorem news_swap {h₀ h h' : Heap} {L c : Addr} {o o' : Obj} {news : List (Addr × Obj)} {g : Obj → List (Addr × Obj)} (N : News h₀ L h news) (U : UpdF c o news g) (hk : ∀ b o, b ≠ c → h.get? b = some o → h'.get? b = some o) (ho : h'.get? c = some o') : News h₀ L h' (g o') := by
  obtain ⟨own, rest, hnews, hg, h1, h2⟩ := U.split
  subst hnews
  rw [hg]
  intro p hp
  rcases List.mem_append.mp hp with hp | hp
  · have z := N p (List.mem_append_left _ hp)
    exact ⟨hk _ _ (h1 p hp) z.1, z.2⟩
  · rcases List.mem_cons.mp hp with rfl | hp
    · exact ⟨ho, (N (c, o) (List.mem_append_right _ (.head _))).2⟩
    · have z := N p (List.mem_append_right _ (.tail _ hp))
      exact ⟨hk _ _ (h2 p hp) z.1, z.2⟩
theorem cells_use {w : World} {mean : ExcName → Option Value} {mg mb : Str → Option Value} {ls lc : Addr} {sv vs : List Value} {scr cs : List Int} {e : Nat} {s : Shared} {Q E : Value → Shared → Prop}
    {A A₀ : Around} {outer : List Env} {env : Env} {base h₀ : Heap} {L : Addr} {m : Str → Option Value} {news : List (Addr × Obj)} {g : Obj → List (Addr × Obj)}
    (B : Below A₀ base outer h₀) (F : Fr h₀ L s.heap m) (N : News h₀ L s.heap news) (X : (hd1.heap_39 w.params).In base) (T : Top hd1.view_39 (looseW hd1.view_39 []) mean mg mb base)
    (hA : A = Aro A.depth A.units A.guards (env :: outer)) (hf : env.frame = some L) (hke : env.scope.kind = .function) (hd : A.depth + 2 < recursionLimit) (hu : A.units + 100 < cLine)
    (hs : base.IsList ls sv.toArray) (hsi : IntsAre sv scr) (hsl : scr.length ≤ 63) (U : UpdF lc (W.listOf vs.toArray e) news g) (hI : IntsAre vs cs) (hl : cs.length = 9)
    (h : ∀ h' tk' vs' cs' e', Fr h₀ L h' m → News h₀ L h' (g (W.listOf vs'.toArray e')) → IntsAre vs' cs' → cs'.length = 9 → Q (.ref lc) { s with heap := h', toks := tk' }) :
    wpAny (model Challenge.rw_re0065_01.row.prog w) A (call (.ref 56) [.ref ls, .ref lc]) Q E s := by
  have hfr : A.frames = some (env :: outer) := by rw [hA]
  have B1 : Below A base (env :: outer) s.heap := below_here B F hfr hf hke
  have z := N _ (updF_mem U)
  have hlb : base.get? lc = none := by
    cases q : base.get? lc with
    | none => rfl
    | some o => have := B.stays _ _ q; rw [z.2.2] at this; cases this
  have hlf : ∀ en ∈ env :: outer, en.frame ≠ some lc := by
    intro en hen
    rcases List.mem_cons.mp hen with rfl | hen
    · rw [hf]; exact fun q => z.2.1 (Option.some.inj q).symm
    · exact frames_off B.frames z.2.2 en hen
  rw [hA] at B1 ⊢
  refine cells_call w mean mg mb ls lc sv vs scr cs e A.depth A.units A.guards (env :: outer) base s Q E B1 X T hd hu hs hsi hsl z.1 hlb hlf hI hl ?_
  intro h' tk' vs' cs' e' hk ho hI' hl'
  exact h h' tk' vs' cs' e' (fr_swap F (Ne.symm z.2.1) z.2.2 hk) (news_swap N U hk ho) hI' hl'
theorem marks_use {w : World} {mean : ExcName → Option Value} {mg mb : Str → Option Value} {lr : Addr} {r0 r1 r2 : Int} {t0 t1 t2 : Tok} {s : Shared} {Q E : Value → Shared → Prop}
    {A A₀ : Around} {env : Env} {base h₀ : Heap} {L : Addr} {m : Str → Option Value} {news : List (Addr × Obj)}
    (B : Below A₀ base [] h₀) (F : Fr h₀ L s.heap m) (N : News h₀ L s.heap news) (X : (hd1.heap_39 w.params).In base) (T : Top hd1.view_39 (looseW hd1.view_39 []) mean mg mb base)
    (hA : A = Aro A.depth A.units A.guards [env]) (hf : env.frame = some L) (hke : env.scope.kind = .function) (hd : A.depth + 5 < recursionLimit) (hu : A.units + 100 < cLine)
    (hl : s.heap.IsList lr [Value.int r0 t0, .int r1 t1, .int r2 t2].toArray) (hb : AllBare s.gens) (hz0 : 0 ≤ r0) (hz1 : 0 ≤ r1) (hz2 : 0 ≤ r2)
    (h : ∀ l vs e h' tk' gens', r0 ≠ 0 → AllBare gens' → Fr h₀ L h' m → News h₀ L h' ((l, W.listOf vs.toArray e) :: news) → (∀ p ∈ news, p.1 ≠ l) → IntsAre vs (mGo (giOut [r0, r1, r2] none) 6 0 0 []) → Q (.ref l) { s with heap := h', toks := tk', gens := gens' })
    (h0 : ∀ h' tk' gens', r0 = 0 → AllBare gens' → Fr h₀ L h' m → News h₀ L h' news → Q .none { s with heap := h', toks := tk', gens := gens' }) :
    wpAny (model Challenge.rw_re0065_01.row.prog w) A (call (.ref 63) [.ref lr]) Q E s := by
  have hfr : A.frames = some [env] := by rw [hA]
  have B1 : Below A base [env] s.heap := below_here B F hfr hf hke
  by_cases hr0 : r0 = 0
  · rw [hA] at B1 ⊢
    refine marks_call0 w mean mg mb lr r0 r1 r2 t0 t1 t2 A.depth A.units A.guards [env] base s Q E B1 X T hd hu hl hb hr0 ?_
    intro h' tk' gens' hk hup hB
    have hk2 : ∀ b o, b ≠ L → s.heap.get? b = some o → h'.get? b = some o := by
      intro b o hbL e
      refine hk b o (fun hm => ?_) e
      obtain ⟨en, hen, hfe⟩ := List.mem_filterMap.mp hm
      rw [List.mem_singleton.mp hen, hf] at hfe
      exact hbL (Option.some.inj hfe).symm
    have hL0 := fr_none' F
    refine h0 h' tk' gens' hr0 hB ⟨hup.ns F.ns, fun b o q => hk2 b o (fun e => by rw [e, hL0] at q; cases q) (F.keep b o q), F.above⟩ fun p hp => ?_
    exact ⟨hk2 _ _ (N p hp).2.1 (N p hp).1, (N p hp).2⟩
  · rw [hA] at B1 ⊢
    refine marks_call w mean mg mb lr r0 r1 r2 t0 t1 t2 A.depth A.units A.guards [env] base s Q E B1 (X.keeps B1.stays) (T.keeps B1.stays) hd hu hl hb hr0 hz0 hz1 hz2 ?_
    intro l vs e h' tk' gens' hk hB ho hn hI
    refine h l vs e h' tk' gens' hr0 hB (F.keeps hk) (news_join F (N.grown hk) ho hn) ?_ hI
    intro p hp q
    have := (N p hp).1
    rw [q, hn] at this; cases this
end Mine
end
section
local macro_rules | `(tactic| omega) => `(tactic| lia)
namespace Mine
theorem ints9 (a1 a2 a3 a4 a5 a6 a7 a8 a9 : Int) (t1 t2 t3 t4 t5 t6 t7 t8 t9 : Tok) : IntsAre [Value.int a1 t1, .int a2 t2, .int a3 t3, .int a4 t4, .int a5 t5, .int a6 t6, .int a7 t7, .int a8 t8, .int a9 t9] [a1, a2, a3, a4, a5, a6, a7, a8, a9] :=
  .cons _ _ (.cons _ _ (.cons _ _ (.cons _ _ (.cons _ _ (.cons _ _ (.cons _ _ (.cons _ _ (.cons _ _ .nil))))))))
theorem name_cell {o : Obj} {v : Option Value} (h : o.data = .cell v) : ∃ o' : Obj, o' = o := ⟨o, rfl⟩
theorem name_ints {vs : List Value} {ns : List Int} (_h : IntsAre vs ns) : ∃ ws : List Value, ws = vs := ⟨vs, rfl⟩
theorem ints3 {vs : List Value} {a b c : Int} (h : IntsAre vs [a, b, c]) : ∃ t0 t1 t2, vs = [Value.int a t0, .int b t1, .int c t2] := by
  cases h with
  | cons n t h => cases h with
    | cons n t2 h => cases h with
      | cons n t3 h => cases h; exact ⟨_, _, _, rfl⟩
theorem news_ne {h₀ h : Heap} {L l : Addr} {news : List (Addr × Obj)} (N : News h₀ L h news) (hn : h.get? l = none) : ∀ p ∈ news, p.1 ≠ l := fun p hp q => by
  have := (N p hp).1
  rw [q, hn] at this; cases this
noncomputable def rowD (c j : Int) : Int := [1, 2, 3, 0, 127].getD (Int.fmod (Int.fdiv c (5 ^ j.toNat)) 5).toNat 0
noncomputable def marksL (r0 r1 r2 : Int) : List Int := if r0 = 0 then [] else mGo (giOut [r0, r1, r2] none) 6 0 0 []
noncomputable def marksC (c : Int) : List Int := marksL (rowD c 0) (rowD c 1) (rowD c 2)
theorem rowD_dec : ∀ q : Fin 5, Menu ([1, 2, 3, 0, 127].getD q.1 0) := by unfold Menu; decide +kernel
theorem rowD_range (c j : Int) : Menu (rowD c j) := by
  unfold rowD
  have h0 := Int.fmod_nonneg_of_pos (Int.fdiv c (5 ^ j.toNat)) (show (0 : Int) < 5 by decide)
  have h1 := Int.fmod_lt_of_pos (Int.fdiv c (5 ^ j.toNat)) (show (0 : Int) < 5 by decide)
  obtain ⟨n, hn⟩ := Int.eq_ofNat_of_zero_le h0
  rw [hn] at h1 ⊢
  exact rowD_dec ⟨n, Int.ofNat_lt.mp h1⟩
theorem marks_tab : ∀ a ∈ [(1 : Int), 2, 3, 127], ∀ b ∈ [(1 : Int), 2, 3, 0, 127], ∀ c ∈ [(1 : Int), 2, 3, 0, 127], dueF a b c = mGo (giOut [a, b, c] none) 6 0 0 [] := by decide +kernel
theorem menu_mem {r : Int} (h : Menu r) : r ∈ [(1 : Int), 2, 3, 0, 127] := by
  simp only [List.mem_cons, List.not_mem_nil, or_false]; exact h
theorem marks_due {r0 r1 r2 : Int} (h0 : Menu r0) (h1 : Menu r1) (h2 : Menu r2) (hz : r0 ≠ 0) :
    dueF r0 r1 r2 = mGo (giOut [r0, r1, r2] none) 6 0 0 [] := by
  refine marks_tab r0 ?_ r1 (menu_mem h1) r2 (menu_mem h2)
  simp only [List.mem_cons, List.not_mem_nil, or_false]
  rcases h0 with h | h | h | h | h
  · exact .inl h
  · exact .inr (.inl h)
  · exact .inr (.inr (.inl h))
  · exact absurd h hz
  · exact .inr (.inr (.inr h))
theorem item_val {prog : Program} {w : World} {A : Around} {E : Value → Shared → Prop} {s : Shared} {h₀ : Heap} {L : Addr} {news : List (Addr × Obj)} {value slice : Expr} {l : Addr} {vs : List Value} {n : Nat} {k : Int} {u : Tok} {v : Value} {Q : Value → Shared → Prop}
    (N : News h₀ L s.heap news) (hm : (l, W.listOf vs.toArray n) ∈ news) (h0 : 0 ≤ k) (hk : k < 2 ^ 62) (hx : vs[k.toNat]? = some v) (h : Q v s)
    (hs : subscripted slice false (.ref l) (.int k u) = operate [.ref l, .int k u] (getItem (.ref l) (.int k u)) := by with_unfolding_all rfl) :
    wpAny (model prog w) A (subscriptTail value slice (.ref l) (.int k u)) Q E s := by
  have hl := isList_of N hm
  exact tail_any hl.typeIs slot_list_getitem.lookup (wpAny_getItem_list hl h0 (by omega) (by simpa using hx) h) hs
end Mine
end
section
local macro_rules | `(tactic| omega) => `(tactic| lia)
namespace Mine
noncomputable def mN (a b : Nat) : Nat := match Nat.ble a b with | true => a | false => b
theorem mN_eq (a b : Nat) : mN a b = min a b := by
  unfold mN
  cases h : Nat.ble a b with
  | true => rw [Nat.ble_eq] at h; dsimp only; omega
  | false =>
    have : ¬ a ≤ b := fun q => by rw [Nat.ble_eq_true_of_le q] at h; cases h
    dsimp only; omega
noncomputable def goF (kc : Nat → Nat → Nat) (bc : Nat) : List Nat → List Nat → Nat → Nat → Nat → List Nat × Nat × Nat
  | a :: la, p :: row, d, r, mn =>
    let r' := mN (mN r p + 2) (d + kc bc a)
    let q := goF kc bc la row p r' (mN mn r')
    (r' :: q.1, q.2)
  | _, _, _, r, mn => ([], r, mn)
abbrev castL (l : List Nat) : List Int := l.map (fun (n : Nat) => (n : Int))
theorem goF_len (kc : Nat → Nat → Nat) (bc : Nat) : ∀ la row d r mn, la.length = row.length → (goF kc bc la row d r mn).1.length = row.length
  | [], [], _, _, _, _ => rfl
  | a :: la, p :: row, d, r, mn, h => by
    unfold goF
    show _ + 1 = _ + 1
    rw [goF_len kc bc la row _ _ _ (by simpa using h)]
theorem run_go (cost : Nat → Nat → Int) (kc : Nat → Nat → Nat) (bc : Nat) : ∀ (la rest pre lpre : List Nat) (d r mn : Nat), la.length = rest.length → lpre.length = pre.length → (∀ a ∈ la, cost bc a = (kc bc a : Int)) →
    (List.range' pre.length la.length).foldl (iStep cost bc (lpre ++ la)) (castL (pre ++ rest), (d : Int), (r : Int), (mn : Int)) =
      (castL (pre ++ (goF kc bc la rest d r mn).1), ((rest.getLastD d : Nat) : Int), (((goF kc bc la rest d r mn).2.1 : Nat) : Int), (((goF kc bc la rest d r mn).2.2 : Nat) : Int))
  | [], [], pre, lpre, d, r, mn, _, _, _ => rfl
  | a :: la, p :: rest, pre, lpre, d, r, mn, hl, hp, hc => by
    have e1 : (lpre ++ a :: la).getD pre.length 0 = a := by rw [← hp]; simp
    have e2 : (castL (pre ++ p :: rest)).getD pre.length 0 = (p : Int) := by simp [castL]
    have e3 : ∀ x : Int, (castL (pre ++ p :: rest)).set pre.length x = castL pre ++ x :: castL rest := by intro x; simp [castL]
    rw [List.length_cons, List.range'_succ, List.foldl_cons]
    have hs : iStep cost bc (lpre ++ a :: la) (castL (pre ++ p :: rest), (d : Int), (r : Int), (mn : Int)) pre.length =
        (castL ((pre ++ [min (min r p + 2) (d + kc bc a)]) ++ rest), (p : Int), ((min (min r p + 2) (d + kc bc a) : Nat) : Int), ((min mn (min (min r p + 2) (d + kc bc a)) : Nat) : Int)) := by
      unfold iStep
      dsimp only
      rw [e1, e2, hc a (.head _)]
      have e4 : min (min (r : Int) (p : Int) + 2) ((d : Int) + (kc bc a : Int)) = ((min (min r p + 2) (d + kc bc a) : Nat) : Int) := by omega
      rw [e4, e3]
      have e5 : (if ((min (min r p + 2) (d + kc bc a) : Nat) : Int) < (mn : Int) then ((min (min r p + 2) (d + kc bc a) : Nat) : Int) else (mn : Int)) = ((min mn (min (min r p + 2) (d + kc bc a)) : Nat) : Int) := by
        split <;> omega
      rw [e5]
      simp [castL]
    rw [hs]
    have ih := run_go cost kc bc la rest (pre ++ [min (min r p + 2) (d + kc bc a)]) (lpre ++ [a]) p (min (min r p + 2) (d + kc bc a)) (min mn (min (min r p + 2) (d + kc bc a))) (by simpa using hl) (by simp [hp]) (fun x hx => hc x (.tail _ hx))
    rw [List.length_append, List.length_singleton, List.append_assoc lpre, List.singleton_append] at ih
    rw [ih]
    have hg : goF kc bc (a :: la) (p :: rest) d r mn = (mN (mN r p + 2) (d + kc bc a) :: (goF kc bc la rest p (mN (mN r p + 2) (d + kc bc a)) (mN mn (mN (mN r p + 2) (d + kc bc a)))).1, (goF kc bc la rest p (mN (mN r p + 2) (d + kc bc a)) (mN mn (mN (mN r p + 2) (d + kc bc a)))).2) := rfl
    simp only [mN_eq] at hg
    rw [hg]
    simp only [List.append_assoc, List.singleton_append, List.getLastD_cons]
noncomputable def BIG : Nat := 9223372036854775807
theorem iRun_go {cost : Nat → Nat → Int} {kc : Nat → Nat → Nat} {bc : Nat} {la row : List Nat} {b : Nat} (hl : la.length = row.length) (hc : ∀ a ∈ la, cost bc a = (kc bc a : Int)) :
    iRun cost bc la (castL row) (b : Int) la.length = (castL (goF kc bc la row b b BIG).1, ((row.getLastD b : Nat) : Int), (((goF kc bc la row b b BIG).2.1 : Nat) : Int), (((goF kc bc la row b b BIG).2.2 : Nat) : Int)) := by
  have := run_go cost kc bc la row [] [] b b BIG hl rfl hc
  rw [List.length_nil, ← List.range_eq_range'] at this
  exact this
noncomputable def outF (kc : Nat → Nat → Nat) (la : List Nat) : List Nat → Nat → List Nat → Nat → Nat → Nat × Nat
  | [], _, _, res, M => (res, M)
  | bc :: lb, i, row, _, M => outF kc la lb (i + 1) (goF kc bc la row (2 * i) (2 * i) BIG).1 (goF kc bc la row (2 * i) (2 * i) BIG).2.1 (max M (goF kc bc la row (2 * i) (2 * i) BIG).2.2)
theorem outF_ge (kc : Nat → Nat → Nat) (la : List Nat) : ∀ lb i row res M, M ≤ (outF kc la lb i row res M).2
  | [], _, _, _, _ => Nat.le_refl _
  | bc :: lb, i, row, res, M => by
    unfold outF
    exact Nat.le_trans (Nat.le_max_left _ _) (outF_ge kc la lb _ _ _ _)
theorem oGo_out (cost : Nat → Nat → Int) (kc : Nat → Nat → Nat) (la lb0 : List Nat) (mc : Int) : ∀ (lb pre row : List Nat) (res M : Nat), lb0 = pre ++ lb → la.length = row.length → (∀ b ∈ lb, ∀ a ∈ la, cost b a = (kc b a : Int)) →
    (((outF kc la lb pre.length row res M).2 : Int) ≤ mc → oGo cost la lb0 mc lb.length pre.length (castL row) res = (outF kc la lb pre.length row res M).1) ∧
    (oGo cost la lb0 mc lb.length pre.length (castL row) res = (outF kc la lb pre.length row res M).1 ∨ oGo cost la lb0 mc lb.length pre.length (castL row) res = mc + 1)
  | [], pre, row, res, M, _, _, _ => ⟨fun _ => rfl, .inl rfl⟩
  | bc :: lb, pre, row, res, M, h0, hl, hc => by
    have e1 : lb0.getD pre.length 0 = bc := by rw [h0]; simp
    have e2 : (2 : Int) * (pre.length : Int) = ((2 * pre.length : Nat) : Int) := by omega
    have ih := oGo_out cost kc la lb0 mc lb (pre ++ [bc]) (goF kc bc la row (2 * pre.length) (2 * pre.length) BIG).1 (goF kc bc la row (2 * pre.length) (2 * pre.length) BIG).2.1 (max M (goF kc bc la row (2 * pre.length) (2 * pre.length) BIG).2.2)
      (by rw [h0]; simp) (by rw [goF_len _ _ _ _ _ _ _ hl]; exact hl) (fun b hb => hc b (.tail _ hb))
    rw [List.length_append, List.length_singleton] at ih
    have hrun : oGo cost la lb0 mc (lb.length + 1) pre.length (castL row) res = (if (((goF kc bc la row (2 * pre.length) (2 * pre.length) BIG).2.2 : Nat) : Int) > mc then mc + 1 else oGo cost la lb0 mc lb.length (pre.length + 1) (castL (goF kc bc la row (2 * pre.length) (2 * pre.length) BIG).1) (((goF kc bc la row (2 * pre.length) (2 * pre.length) BIG).2.1 : Nat) : Int)) := by
      conv => lhs; unfold oGo
      dsimp only
      rw [e1, e2, iRun_go hl (hc bc (.head _))]
    have hout : outF kc la (bc :: lb) pre.length row res M = outF kc la lb (pre.length + 1) (goF kc bc la row (2 * pre.length) (2 * pre.length) BIG).1 (goF kc bc la row (2 * pre.length) (2 * pre.length) BIG).2.1 (max M (goF kc bc la row (2 * pre.length) (2 * pre.length) BIG).2.2) := rfl
    rw [List.length_cons, hrun, hout]
    have hge := outF_ge kc la lb (pre.length + 1) (goF kc bc la row (2 * pre.length) (2 * pre.length) BIG).1 (goF kc bc la row (2 * pre.length) (2 * pre.length) BIG).2.1 (max M (goF kc bc la row (2 * pre.length) (2 * pre.length) BIG).2.2)
    constructor
    · intro h
      rw [if_neg (by have := Nat.le_max_right M (goF kc bc la row (2 * pre.length) (2 * pre.length) BIG).2.2; omega)]
      exact ih.1 h
    · split
      · exact .inr rfl
      · exact ih.2
noncomputable def row0N (n : Nat) : List Nat := (List.range n).map fun i => 2 + 2 * i
theorem row0_cast (n : Nat) : row0 n = castL (row0N n) := by
  unfold row0 row0N castL
  rw [List.map_map]
  apply List.map_congr_left
  intro i _
  show 2 + 2 * (i : Int) = ((2 + 2 * i : Nat) : Int)
  omega
noncomputable def rowsF (kc : Nat → Nat → Nat) (la lb : List Nat) : Nat × Nat := outF kc la lb 0 (row0N la.length) 0 0
theorem rows_F {cost : Nat → Nat → Int} {kc : Nat → Nat → Nat} {la lb : List Nat} {mc : Int} (hc : ∀ b ∈ lb, ∀ a ∈ la, cost b a = (kc b a : Int)) :
    (((rowsF kc la lb).2 : Int) ≤ mc → levRows cost la lb mc = (rowsF kc la lb).1) ∧ (levRows cost la lb mc = (rowsF kc la lb).1 ∨ levRows cost la lb mc = mc + 1) := by
  have := oGo_out cost kc la lb mc lb [] (row0N la.length) 0 0 rfl (by simp [row0N]) hc
  unfold levRows
  rw [row0_cast]
  exact this
noncomputable def coreF (kc : Nat → Nat → Nat) (a b : List Nat) (due : Nat) : Bool :=
  if a.length = 0 ∨ b.length = 0 then 2 * (a.length + b.length) == due else
  (Nat.ble a.length 40 && Nat.ble b.length 40) &&
  (if b.length < a.length then Nat.ble ((a.length - b.length) * 2) due && ((rowsF kc b a).1 == due && Nat.ble (rowsF kc b a).2 due)
   else Nat.ble ((b.length - a.length) * 2) due && ((rowsF kc a b).1 == due && Nat.ble (rowsF kc a b).2 due))
theorem core_F {cost : Nat → Nat → Int} {kc : Nat → Nat → Nat} {a b : List Nat} {due : Nat} (hc1 : ∀ y ∈ b, ∀ x ∈ a, cost y x = (kc y x : Int)) (hc2 : ∀ y ∈ a, ∀ x ∈ b, cost y x = (kc y x : Int))
    (h : coreF kc a b due = true) (x : Int) (hx : x = -1 ∨ 0 ≤ x) : core cost a b (due + x) = due := by
  unfold coreF at h
  unfold core
  split at h
  · rename_i h0
    rw [if_pos h0]
    have := beq_iff_eq.mp h
    omega
  · rename_i h0
    rw [if_neg h0]
    rw [Bool.and_eq_true, Bool.and_eq_true, Nat.ble_eq, Nat.ble_eq] at h
    obtain ⟨⟨h1, h2⟩, h3⟩ := h
    rw [if_neg (by omega)]
    split at h3
    · rename_i hlt
      rw [if_pos hlt]
      rw [Bool.and_eq_true, Bool.and_eq_true, Nat.ble_eq, Nat.ble_eq, beq_iff_eq] at h3
      obtain ⟨h3, h4, h5⟩ := h3
      have hr := rows_F (mc := due + x) hc2
      split
      · omega
      · rcases hx with rfl | hx
        · rcases hr.2 with e | e <;> omega
        · have := hr.1 (by omega); omega
    · rename_i hlt
      rw [if_neg hlt]
      rw [Bool.and_eq_true, Bool.and_eq_true, Nat.ble_eq, Nat.ble_eq, beq_iff_eq] at h3
      obtain ⟨h3, h4, h5⟩ := h3
      have hr := rows_F (mc := due + x) hc1
      split
      · omega
      · rcases hx with rfl | hx
        · rcases hr.2 with e | e <;> omega
        · have := hr.1 (by omega); omega
end Mine
end
section
namespace Mine
noncomputable def eqL : List Nat → List Nat → Bool
  | [], [] => true
  | a :: A, b :: B => Nat.beq a b && eqL A B
  | _, _ => false
theorem eqL_iff : ∀ {A B : List Nat}, eqL A B = true ↔ A = B
  | [], [] => by simp [eqL]
  | a :: A, b :: B => by
    unfold eqL
    rw [Bool.and_eq_true, Nat.beq_eq, eqL_iff (A := A) (B := B), List.cons.injEq]
  | [], b :: B => by simp [eqL]
  | a :: A, [] => by simp [eqL]
noncomputable def fastLev (kc : Nat → Nat → Nat) (a b : List Nat) (due : Nat) : Bool :=
  if eqL a b = true then due == 0 else
  coreF kc ((a.drop (lcpL a b)).take ((a.drop (lcpL a b)).length - lcsL (a.drop (lcpL a b)) (b.drop (lcpL a b)))) ((b.drop (lcpL a b)).take ((b.drop (lcpL a b)).length - lcsL (a.drop (lcpL a b)) (b.drop (lcpL a b)))) due
theorem lev_fast {cost : Nat → Nat → Int} {kc : Nat → Nat → Nat} {a b : List Nat} {due : Nat} (hc1 : ∀ y ∈ b, ∀ x ∈ a, cost y x = (kc y x : Int)) (hc2 : ∀ y ∈ a, ∀ x ∈ b, cost y x = (kc y x : Int))
    (h : fastLev kc a b due = true) (x : Int) (hx : x = -1 ∨ 0 ≤ x) : levL cost a b (due + x) = due := by
  unfold fastLev at h
  unfold levL
  split at h
  · rename_i h0
    rw [if_pos (eqL_iff.mp h0)]
    have := beq_iff_eq.mp h
    omega
  · rename_i h0
    rw [if_neg (fun q => h0 (eqL_iff.mpr q))]
    exact core_F (fun y hy x hx => hc1 y (List.mem_of_mem_drop (List.mem_of_mem_take hy)) x (List.mem_of_mem_drop (List.mem_of_mem_take hx))) (fun y hy x hx => hc2 y (List.mem_of_mem_drop (List.mem_of_mem_take hy)) x (List.mem_of_mem_drop (List.mem_of_mem_take hx))) h x hx
end Mine
end
section
namespace Mine
section
variable {φ : Nat → Nat} (h0 : φ 0 = 0) (cost : Nat → Nat → Int)
theorem getD_mapφ {φ : Nat → Nat} (h0 : φ 0 = 0) (l : List Nat) (i : Nat) : (l.map φ).getD i 0 = φ (l.getD i 0) := by
  rw [List.getD_eq_getElem?_getD, List.getD_eq_getElem?_getD, List.getElem?_map]
  cases l[i]? with
  | none => exact h0.symm
  | some a => rfl
include h0 in
include h0 in
include h0 in
include h0 in
include h0 in
end
theorem map_inj {φ : Nat → Nat} : ∀ {A B : List Nat}, (∀ x ∈ A, ∀ y ∈ B, φ x = φ y → x = y) → A.map φ = B.map φ → A = B
  | [], [], _, _ => rfl
  | [], b :: B, _, h => by simp at h
  | a :: A, [], _, h => by simp at h
  | a :: A, b :: B, hi, h => by
    rw [List.map_cons, List.map_cons] at h
    injection h with h1 h2
    rw [hi a (.head _) b (.head _) h1, map_inj (fun x hx y hy => hi x (.tail _ hx) y (.tail _ hy)) h2]
end Mine
end
section
namespace Mine
theorem execs_app {env : Env} : ∀ (a b : List Stmt), execs (a ++ b) env = (execs a env >>= fun f => match f with | .next => execs b env | f => pure f)
  | [], b => rfl
  | st :: a, b => by
    rw [List.cons_append, execs_cons, execs_cons, bind_assoc]
    refine congrArg _ (funext fun f => ?_)
    cases f with
    | next => exact execs_app a b
    | brk => rfl
    | cont => rfl
    | ret v => rfl
section
variable {prog : Program} {w : World} {A : Around} {E : Value → Shared → Prop} {Q : Flow → Shared → Prop} {s : Shared} {env : Env} {h₀ : Heap} {L : Addr}
theorem seqNk {σ : Type} (a : List Stmt) {b : List Stmt} (Led : σ → List (Addr × Obj)) (ps : σ → List (Str × Value)) (X : σ → Prop)
    (h : wpAny (model prog w) A (execs a env) (NSeq h₀ L s Led ps X) EF s)
    (k : ∀ c u h tk gens, X c → AllBare gens → Fr h₀ L h (kstB u (ps c)) → News h₀ L h (Led c) → wpAny (model prog w) A (execs b env) Q E { s with heap := h, toks := tk, gens := gens }) :
    wpAny (model prog w) A (execs (a ++ b) env) Q E s := by
  rw [execs_app]
  refine wpAny_bind (wpAny_mono h (fun f s' q => ?_) fun _ _ x => x.elim)
  cases f with
  | next => exact OutG.use (P := fun s' => wpAny (model prog w) A (execs b env) Q E s') q k
  | brk => exact q.elim
  | cont => exact q.elim
  | ret v => exact q.elim
end
end Mine
end
section
namespace Mine
section
variable {prog : Program} {w : World} {A : Around} {E : Value → Shared → Prop} {R : Result → Shared → Prop} {s : Shared} {h₀ : Heap} {L : Addr} {m : Str → Option Value} {env cenv : Env} {news : List (Addr × Obj)}
abbrev two (elt : Expr) (x y : Str) (px py : Pos) (iter1 iter2 : Expr) (scope : Scope) (pos : Pos) : Expr := .ListComp elt [⟨.Name x px, iter1, [], 0⟩, ⟨.Name y py, iter2, [], 0⟩] scope pos
theorem compTurn_out (elt : Expr) (x y : Str) (px py : Pos) (iter1 iter2 : Expr) (scope : Scope) (pos : Pos) (it acc : Value) (env : Env) :
    compTurn (two elt x y px py iter1 iter2 scope pos) 0 it acc env = (standAt iter1.pos >>= fun _ => pyNext it >>= fun r => match r with
      | none => pure (.done .next)
      | some v => letOwnedTupleGo (.Name x px) it v >>= fun _ => assign (.Name x px) env v >>= fun _ =>
        eval iter2 env >>= fun xv => standAt iter2.pos >>= fun _ => foldedSetIterable iter2 env xv >>= fun xv => holding [xv] (pyIter xv) >>= fun it2 =>
          runOwn (.compStart (two elt x y px py iter1 iter2 scope pos) 1 it2 acc env) env >>= fun _ =>
          again (.compLoop (two elt x y px py iter1 iter2 scope pos) 0 it acc env)) := by rfl
theorem compTurn_in (elt : Expr) (x y : Str) (px py : Pos) (iter1 iter2 : Expr) (scope : Scope) (pos : Pos) (it acc : Value) (env : Env) :
    compTurn (two elt x y px py iter1 iter2 scope pos) 1 it acc env = (standAt iter2.pos >>= fun _ => pyNext it >>= fun r => match r with
      | none => pure (.done .next)
      | some v => letOwnedTupleGo (.Name y py) it v >>= fun _ => assign (.Name y py) env v >>= fun _ =>
        (eval elt env >>= fun x => call (.builtin "list.append") [acc, x] >>= fun _ => pure ()) >>= fun _ =>
          again (.compLoop (two elt x y px py iter1 iter2 scope pos) 1 it acc env)) := by rfl
theorem start_in {elt : Expr} {x y : Str} {px py : Pos} {iter1 iter2 : Expr} {scope : Scope} {pos : Pos} {it acc : Value} {env : Env}
    (h0 : codeAny (model prog w) A (.compLoop (two elt x y px py iter1 iter2 scope pos) 1 it acc env) R s)
    (h : wpAny (model prog w) A (pyIter it) (fun it' s' => codeAny (model prog w) A (.compLoop (two elt x y px py iter1 iter2 scope pos) 1 it' acc env) R s')
      (notedBy (model prog w) A env fun x s' => R (.error x) s') s) :
    codeAny (model prog w) A (.compStart (two elt x y px py iter1 iter2 scope pos) 1 it acc env) R s := by
  refine codeAny_of_tree ?_
  show wpAny _ _ ((compStart (two elt x y px py iter1 iter2 scope pos) 1 it acc env).onRaise (fun x => do noteFrame x env; standAt theWindowsPlace)) _ _ s
  refine wpAny_notedAt ?_
  unfold compStart
  show wpAny _ _ (ask >>= _) _ _ s
  refine wpAny_bind (wpAny_askSetting (wpAny_ite ?_))
  split
  · first
      | exact wpAny_bind (wpAny_pure (wpAny_pure (And.intro rfl h0)))
      | exact wpAny_pure (And.intro rfl h0)
  · first
      | exact wpAny_bind (wpAny_rule (wpAny_bind (wpAny_standAt (wpAny_bind (wpAny_mono h (fun it' s' h' => wpAny_pure (And.intro rfl h')) fun _ _ x => x)))))
      | (refine wpAny_bind (wpAny_rule ?_); show wpAny _ _ (standAt iter2.pos >>= _) _ _ s; exact wpAny_bind (wpAny_standAt (wpAny_bind (wpAny_mono h (fun it' s' h' => wpAny_pure (And.intro rfl h')) fun _ _ x => x))))
theorem loop_out {elt : Expr} {x y : Str} {px py : Pos} {iter1 iter2 : Expr} {scope : Scope} {pos : Pos} {it acc : Value} {env : Env} (I : Nat → Shared → Prop)
    (turn : ∀ n s, I n s → wpAny (model prog w) A (pyNext it) (fun r s₁ => match r with
      | none => R (.ok .next) s₁
      | some v => wpAny (model prog w) A (assign (.Name x px) env v) (fun _ s₂ =>
          wpAny (model prog w) A (eval iter2 env) (fun xv s₃ => wpAny (model prog w) A (pyIter xv) (fun it2 s₄ =>
            codeAny (model prog w) A (.compStart (two elt x y px py iter1 iter2 scope pos) 1 it2 acc env) (fun r s₅ => (∃ f, r = .ok f) ∧ ∃ m, m < n ∧ I m s₅) s₄)
            (notedBy (model prog w) A env fun e s' => R (.error e) s') s₃) (notedBy (model prog w) A env fun e s' => R (.error e) s') s₂)
          (notedBy (model prog w) A env fun e s' => R (.error e) s') s₁) (notedBy (model prog w) A env fun e s' => R (.error e) s') s)
    (hs : ∀ x, foldedSetIterable iter2 env x = pure x)
    (n : Nat) (h : I n s) :
    codeAny (model prog w) A (.compLoop (two elt x y px py iter1 iter2 scope pos) 0 it acc env) R s := by
  refine codeAny_loop rfl I (fun n s hI => ?_) n h
  show wpAny _ A ((compTurn (two elt x y px py iter1 iter2 scope pos) 0 it acc env).onRaise (fun x => do noteFrame x env; theTreesLotGoes x)) _ _ s
  refine wpAny_noted ?_
  rw [compTurn_out]
  refine wpAny_bind (wpAny_standAt (wpAny_bind (wpAny_mono (turn n s hI) (fun r s₁ h₁ => ?_) fun _ _ h' => h')))
  cases r with
  | none => exact wpAny_pure h₁
  | some v =>
    refine wpAny_bind (wpAny_of_eq (show letOwnedTupleGo (.Name x px) it v = pure () from rfl) ?_)
    refine wpAny_bind (wpAny_mono h₁ (fun _ s₂ h₂ => ?_) fun _ _ h' => h')
    refine wpAny_bind (wpAny_mono h₂ (fun xv s₃ h₃ => wpAny_bind (wpAny_standAt (wpAny_bind (wpAny_of_eq (hs xv) (wpAny_bind (wpAny_holding (wpAny_mono h₃ (fun it2 s₄ h₄ => ?_) fun _ _ h' => h'))))))) fun _ _ h' => h')
    refine wpAny_bind (wpAny_runOwn (h := none) (codeAny_mono h₄ fun r s₅ h₅ => ?_))
    obtain ⟨⟨f, rfl⟩, h₅⟩ := h₅
    exact wpAny_pure ⟨rfl, h₅⟩
theorem loop_in {elt : Expr} {x y : Str} {px py : Pos} {iter1 iter2 : Expr} {scope : Scope} {pos : Pos} {it acc : Value} {env : Env} (I : Nat → Shared → Prop)
    (turn : ∀ n s, I n s → wpAny (model prog w) A (pyNext it) (fun r s₁ => match r with
      | none => R (.ok .next) s₁
      | some v => wpAny (model prog w) A (assign (.Name y py) env v) (fun _ s₂ =>
          wpAny (model prog w) A (eval elt env) (fun x s₃ =>
              wpAny (model prog w) A (call (.builtin "list.append") [acc, x]) (fun _ s₄ => ∃ m, m < n ∧ I m s₄) (notedBy (model prog w) A env fun e s' => R (.error e) s') s₃) (notedBy (model prog w) A env fun e s' => R (.error e) s') s₂)
            (notedBy (model prog w) A env fun e s' => R (.error e) s') s₁) (notedBy (model prog w) A env fun e s' => R (.error e) s') s)
    (n : Nat) (h : I n s) :
    codeAny (model prog w) A (.compLoop (two elt x y px py iter1 iter2 scope pos) 1 it acc env) R s := by
  refine codeAny_loop rfl I (fun n s hI => ?_) n h
  show wpAny _ A ((compTurn (two elt x y px py iter1 iter2 scope pos) 1 it acc env).onRaise (fun x => do noteFrame x env; theTreesLotGoes x)) _ _ s
  refine wpAny_noted ?_
  rw [compTurn_in]
  refine wpAny_bind (wpAny_standAt (wpAny_bind (wpAny_mono (turn n s hI) (fun r s₁ h₁ => ?_) fun _ _ h' => h')))
  cases r with
  | none => exact wpAny_pure h₁
  | some v =>
    refine wpAny_bind (wpAny_of_eq (show letOwnedTupleGo (.Name y py) it v = pure () from rfl) ?_)
    refine wpAny_bind (wpAny_mono h₁ (fun _ s₂ h₂ => ?_) fun _ _ h' => h')
    exact wpAny_bind (wpAny_bind (wpAny_mono h₂ (fun x s₃ h₃ => wpAny_bind (wpAny_mono h₃ (fun _ s₄ h₄ => wpAny_pure (wpAny_pure ⟨rfl, h₄⟩)) fun _ _ h' => h')) fun _ _ h' => h'))
end
end Mine
end
section
namespace Mine
section
variable {prog : Program} {w : World} {A : Around} {E : Value → Shared → Prop} {s : Shared} {h₀ : Heap} {L : Addr} {m : Str → Option Value} {env cenv : Env} {news : List (Addr × Obj)}
theorem up_iter {I : Addr} {oI : Obj} {H h₁ : Heap} {led : List (Addr × Obj)} (F1 : Fr h₀ L H m) (N1 : News h₀ L H ((I, oI) :: led)) (hne : ∀ p ∈ led, p.1 ≠ I)
    (hk₁ : ∀ b o, b ∉ [I] → H.get? b = some o → h₁.get? b = some o) : Fr h₀ L h₁ m ∧ News h₀ L h₁ led := by
  have hLI : L ∉ [I] := fun h => (N1 _ (.head _)).2.1 (List.mem_singleton.mp h).symm
  refine ⟨⟨F1.ns.at' fun o e => hk₁ _ o hLI e, fun b o q => hk₁ b o (fun hm => ?_) (F1.keep b o q), F1.above⟩, fun p hp => ?_⟩
  · have := (N1 _ (.head _)).2.2
    rw [← List.mem_singleton.mp hm, q] at this; cases this
  · exact ⟨hk₁ _ _ (fun h => hne _ hp (List.mem_singleton.mp h)) (N1 _ (.tail _ hp)).1, (N1 _ (.tail _ hp)).2⟩
end
namespace inner_cut
noncomputable def cutQ1 : { qq : (Program → World → Around → Shared → Heap → Addr → (Str → Option Value) → Env → (List (Addr × Obj)) → Expr → Expr → Expr → Str → Str → Pos → Pos → Scope → Pos → (Result → Shared → Prop) → Addr → Addr → Nat → (Nat → Value → Prop) → (Nat → Heap → Prop) → Obj → Obj → (List Value) → Nat → (Str → Option Value) → ((Str → Option Value) → Prop) → (Nat → List Value → Prop) → Prop) // (∀ (prog : Program) (w : World) (A : Around) (s : Shared) (h₀ : Heap) (L : Addr) (m : Str → Option Value) (cenv : Env) (news : List (Addr × Obj)) (elt : Expr) (iter1 : Expr) (iter2 : Expr) (x : Str) (y : Str) (px : Pos) (py : Pos) (scope : Scope) (pos : Pos) (R : Result → Shared → Prop) (J : Addr) (D : Addr) (n : Nat) (Pv : Nat → Value → Prop) (St : Nat → Heap → Prop) (oC0 : Obj) (oJ0 : Obj) (ys0 : List Value) (e0 : Nat) (m0 : Str → Option Value) (Ks : (Str → Option Value) → Prop) (Ys : Nat → List Value → Prop), qq prog w A s h₀ L m cenv news elt iter1 iter2 x y px py scope pos R J D n Pv St oC0 oJ0 ys0 e0 m0 Ks Ys) → ∀ {prog : Program} {w : World} {A : Around} {s : Shared} {h₀ : Heap} {L : Addr} {m : Str → Option Value} {cenv : Env} {news : List (Addr × Obj)} {elt iter1 iter2 : Expr} {x y : Str} {px py : Pos} {scope : Scope} {pos : Pos} {R : Result → Shared → Prop} {J D : Addr} {n : Nat} {Pv : Nat → Value → Prop} {St : Nat → Heap → Prop} {oC0 oJ0 : Obj} {ys0 : List Value} {e0 : Nat} {m0 : Str → Option Value} (Ks : (Str → Option Value) → Prop) (Ys : Nat → List Value → Prop) (Wk : Walks prog w A J [J] [J] n Pv St) (hSt : ∀ i h, St i h → ∃ o, h.get? J = some o) (hnw : ∀ p ∈ news, p.1 ≠ J ∧ p.1 ≠ D ∧ p.1 ≠ cenv.locals) (hJD : J ≠ D) (hJC : J ≠ cenv.locals) (hDC : D ≠ cenv.locals) (hYl : ∀ i ys, i ≤ n → Ys i ys → ys.length ≤ 1000) (hy : cenv.kindOf y = some .local) (hp : (cenv.scope.kind == .class || (cenv.scope.kind == .module && cenv.locals != cenv.globals)) = false) (F : Fr h₀ L s.heap m) (N : News h₀ L s.heap ((cenv.locals, oC0) :: (D, W.listOf ys0.toArray e0) :: (J, oJ0) :: news)) (hC0 : NsO oC0 m0) (hK0 : Ks m0) (hK : ∀ m v, Ks m → Ks (fun z => if z = y then some v else m z)) (hst : St 0 s.heap) (hY0 : Ys 0 ys0) (turn : ∀ i v ys e oC oJ mC h tk E', i < n → Pv i v → Ys i ys → NsO oC mC → Ks mC → mC y = some v → Fr h₀ L h m → News h₀ L h ((cenv.locals, oC) :: (D, W.listOf ys.toArray e) :: (J, oJ) :: news) →       wpAny (model prog w) A (eval elt cenv) (fun z s₄ => CKeep h₀ L m s ((cenv.locals, oC) :: (D, W.listOf ys.toArray e) :: (J, oJ) :: news) (Ys (i + 1) (ys ++ [z])) s₄) E' { s with heap := h, toks := tk }) (hR : ∀ ys e oC' mC' h' tk, Ys n ys → Fr h₀ L h' m → NsO oC' mC' → Ks mC' → News h₀ L h' ((cenv.locals, oC') :: (D, W.listOf ys.toArray e) :: news) → R (.ok .next) { s with heap := h', toks := tk }),
   codeAny (model prog w) A (.compLoop (two elt x y px py iter1 iter2 scope pos) 1 (.ref J) (.ref D) cenv) R s } := by
  refine ⟨?qq0, fun hP0 => ?b⟩
  case b =>
    intro prog w A s h₀ L m cenv news elt iter1 iter2 x y px py scope pos R J D n Pv St oC0 oJ0 ys0 e0 m0 Ks Ys Wk hSt hnw hJD hJC hDC hYl hy hp F N hC0 hK0 hK hst hY0 turn hR
    (try dsimp +zetaDelta only)
    revert hR
    revert turn
    revert hY0
    revert hst
    revert hK
    revert hK0
    revert hC0
    revert N
    revert F
    revert hp
    revert hy
    revert hYl
    revert hDC
    revert hJC
    revert hJD
    revert hnw
    revert hSt
    revert Wk
    exact @hP0 prog w A s h₀ L m cenv news elt iter1 iter2 x y px py scope pos R J D n Pv St oC0 oJ0 ys0 e0 m0 Ks Ys
namespace C
@[irreducible] noncomputable def cutT : Program × World × Around × Shared × Heap × Addr × (Str → Option Value) × Env × (List (Addr × Obj)) × Expr × Expr × Expr × Str × Str × Pos × Pos × Scope × Pos × (Result → Shared → Prop) × Addr × Addr × Nat × (Nat → Value → Prop) × (Nat → Heap → Prop) × Obj × Obj × (List Value) × Nat × (Str → Option Value) × ((Str → Option Value) → Prop) × (Nat → List Value → Prop) := gen ⟨(default, Classical.choice world_ne, {}, {}, default, 0, fun _ => none, default, [], default, default, default, Str.ofString "", Str.ofString "", default, default, default, default, fun _ _ => True, 0, 0, 0, fun _ _ => True, fun _ _ => True, default, default, [], 0, fun _ => none, fun _ => True, fun _ _ => True)⟩ fun t => cutQ1.1 t.1 t.2.1 t.2.2.1 t.2.2.2.1 t.2.2.2.2.1 t.2.2.2.2.2.1 t.2.2.2.2.2.2.1 t.2.2.2.2.2.2.2.1 t.2.2.2.2.2.2.2.2.1 t.2.2.2.2.2.2.2.2.2.1 t.2.2.2.2.2.2.2.2.2.2.1 t.2.2.2.2.2.2.2.2.2.2.2.1 t.2.2.2.2.2.2.2.2.2.2.2.2.1 t.2.2.2.2.2.2.2.2.2.2.2.2.2.1 t.2.2.2.2.2.2.2.2.2.2.2.2.2.2.1 t.2.2.2.2.2.2.2.2.2.2.2.2.2.2.2.1 t.2.2.2.2.2.2.2.2.2.2.2.2.2.2.2.2.1 t.2.2.2.2.2.2.2.2.2.2.2.2.2.2.2.2.2.1 t.2.2.2.2.2.2.2.2.2.2.2.2.2.2.2.2.2.2.1 t.2.2.2.2.2.2.2.2.2.2.2.2.2.2.2.2.2.2.2.1 t.2.2.2.2.2.2.2.2.2.2.2.2.2.2.2.2.2.2.2.2.1 t.2.2.2.2.2.2.2.2.2.2.2.2.2.2.2.2.2.2.2.2.2.1 t.2.2.2.2.2.2.2.2.2.2.2.2.2.2.2.2.2.2.2.2.2.2.1 t.2.2.2.2.2.2.2.2.2.2.2.2.2.2.2.2.2.2.2.2.2.2.2.1 t.2.2.2.2.2.2.2.2.2.2.2.2.2.2.2.2.2.2.2.2.2.2.2.2.1 t.2.2.2.2.2.2.2.2.2.2.2.2.2.2.2.2.2.2.2.2.2.2.2.2.2.1 t.2.2.2.2.2.2.2.2.2.2.2.2.2.2.2.2.2.2.2.2.2.2.2.2.2.2.1 t.2.2.2.2.2.2.2.2.2.2.2.2.2.2.2.2.2.2.2.2.2.2.2.2.2.2.2.1 t.2.2.2.2.2.2.2.2.2.2.2.2.2.2.2.2.2.2.2.2.2.2.2.2.2.2.2.2.1 t.2.2.2.2.2.2.2.2.2.2.2.2.2.2.2.2.2.2.2.2.2.2.2.2.2.2.2.2.2.1 t.2.2.2.2.2.2.2.2.2.2.2.2.2.2.2.2.2.2.2.2.2.2.2.2.2.2.2.2.2.2
@[irreducible] noncomputable def prog : Program := cutT.1
@[irreducible] noncomputable def w : World := cutT.2.1
@[irreducible] noncomputable def A : Around := cutT.2.2.1
@[irreducible] noncomputable def s : Shared := cutT.2.2.2.1
@[irreducible] noncomputable def h₀ : Heap := cutT.2.2.2.2.1
@[irreducible] noncomputable def L : Addr := cutT.2.2.2.2.2.1
@[irreducible] noncomputable def m : Str → Option Value := cutT.2.2.2.2.2.2.1
@[irreducible] noncomputable def cenv : Env := cutT.2.2.2.2.2.2.2.1
@[irreducible] noncomputable def news : List (Addr × Obj) := cutT.2.2.2.2.2.2.2.2.1
@[irreducible] noncomputable def elt : Expr := cutT.2.2.2.2.2.2.2.2.2.1
@[irreducible] noncomputable def iter1 : Expr := cutT.2.2.2.2.2.2.2.2.2.2.1
@[irreducible] noncomputable def iter2 : Expr := cutT.2.2.2.2.2.2.2.2.2.2.2.1
@[irreducible] noncomputable def x : Str := cutT.2.2.2.2.2.2.2.2.2.2.2.2.1
@[irreducible] noncomputable def y : Str := cutT.2.2.2.2.2.2.2.2.2.2.2.2.2.1
@[irreducible] noncomputable def px : Pos := cutT.2.2.2.2.2.2.2.2.2.2.2.2.2.2.1
@[irreducible] noncomputable def py : Pos := cutT.2.2.2.2.2.2.2.2.2.2.2.2.2.2.2.1
@[irreducible] noncomputable def scope : Scope := cutT.2.2.2.2.2.2.2.2.2.2.2.2.2.2.2.2.1
@[irreducible] noncomputable def pos : Pos := cutT.2.2.2.2.2.2.2.2.2.2.2.2.2.2.2.2.2.1
@[irreducible] noncomputable def R : Result → Shared → Prop := cutT.2.2.2.2.2.2.2.2.2.2.2.2.2.2.2.2.2.2.1
@[irreducible] noncomputable def J : Addr := cutT.2.2.2.2.2.2.2.2.2.2.2.2.2.2.2.2.2.2.2.1
@[irreducible] noncomputable def D : Addr := cutT.2.2.2.2.2.2.2.2.2.2.2.2.2.2.2.2.2.2.2.2.1
@[irreducible] noncomputable def n : Nat := cutT.2.2.2.2.2.2.2.2.2.2.2.2.2.2.2.2.2.2.2.2.2.1
@[irreducible] noncomputable def Pv : Nat → Value → Prop := cutT.2.2.2.2.2.2.2.2.2.2.2.2.2.2.2.2.2.2.2.2.2.2.1
@[irreducible] noncomputable def St : Nat → Heap → Prop := cutT.2.2.2.2.2.2.2.2.2.2.2.2.2.2.2.2.2.2.2.2.2.2.2.1
@[irreducible] noncomputable def oC0 : Obj := cutT.2.2.2.2.2.2.2.2.2.2.2.2.2.2.2.2.2.2.2.2.2.2.2.2.1
@[irreducible] noncomputable def oJ0 : Obj := cutT.2.2.2.2.2.2.2.2.2.2.2.2.2.2.2.2.2.2.2.2.2.2.2.2.2.1
@[irreducible] noncomputable def ys0 : List Value := cutT.2.2.2.2.2.2.2.2.2.2.2.2.2.2.2.2.2.2.2.2.2.2.2.2.2.2.1
@[irreducible] noncomputable def e0 : Nat := cutT.2.2.2.2.2.2.2.2.2.2.2.2.2.2.2.2.2.2.2.2.2.2.2.2.2.2.2.1
@[irreducible] noncomputable def m0 : Str → Option Value := cutT.2.2.2.2.2.2.2.2.2.2.2.2.2.2.2.2.2.2.2.2.2.2.2.2.2.2.2.2.1
@[irreducible] noncomputable def Ks : (Str → Option Value) → Prop := cutT.2.2.2.2.2.2.2.2.2.2.2.2.2.2.2.2.2.2.2.2.2.2.2.2.2.2.2.2.2.1
@[irreducible] noncomputable def Ys : Nat → List Value → Prop := cutT.2.2.2.2.2.2.2.2.2.2.2.2.2.2.2.2.2.2.2.2.2.2.2.2.2.2.2.2.2.2
theorem cutP1 : cutQ1.1 prog w A s h₀ L m cenv news elt iter1 iter2 x y px py scope pos R J D n Pv St oC0 oJ0 ys0 e0 m0 Ks Ys := by
  delta cutQ1
  dsimp only
  intro Wk hSt hnw hJD hJC hDC hYl hy hp F N hC0 hK0 hK hst hY0 turn hR
  have stm : ∀ i h h' oJ, St i h → h.get? J = some oJ → h'.get? J = some oJ → St i h' := by
    intro i h h' oJ hs h1 h2
    refine Wk.frame i h h' hs fun b hb o ho => ?_
    rw [List.mem_singleton.mp hb] at ho ⊢
    rw [h1] at ho
    rw [← Option.some.inj ho]; exact h2
  refine loop_in (fun k s' => ∃ i h tk oC oJ mC ys e, s' = { s with heap := h, toks := tk } ∧ k = n + 1 - i ∧ i ≤ n ∧ St i h ∧ Ys i ys ∧ NsO oC mC ∧ Ks mC ∧ Fr h₀ L h m ∧ News h₀ L h ((cenv.locals, oC) :: (D, W.listOf ys.toArray e) :: (J, oJ) :: news)) ?_ (n + 1)
    ⟨0, s.heap, s.toks, oC0, oJ0, m0, ys0, e0, rfl, rfl, Nat.zero_le _, hst, hY0, hC0, hK0, F, N⟩
  rintro k s' ⟨i, H, tk, oC, oJ, mC, ys, e, rfl, rfl, hi, hsti, hY, hC, hKC, F1, N1⟩
  have N1' : News h₀ L H ((J, oJ) :: (cenv.locals, oC) :: (D, W.listOf ys.toArray e) :: news) := fun p hp => N1 p (by
    simp only [List.mem_cons] at hp ⊢
    rcases hp with h | h | h | h
    · exact .inr (.inr (.inl h))
    · exact .inl h
    · exact .inr (.inl h)
    · exact .inr (.inr (.inr h)))
  have hne : ∀ p ∈ (cenv.locals, oC) :: (D, W.listOf ys.toArray e) :: news, p.1 ≠ J := by
    intro p hp
    rcases List.mem_cons.mp hp with rfl | hp
    · exact Ne.symm hJC
    · rcases List.mem_cons.mp hp with rfl | hp
      · exact Ne.symm hJD
      · exact (hnw _ hp).1
  have zJ := N1' _ (.head _)
  by_cases hlt : i < n
  · refine Wk.item i _ _ _ hlt hsti fun v h₁ tk₁ hPv hst₁ hk₁ => ?_
    obtain ⟨oJ', hoJ'⟩ := hSt _ _ hst₁
    obtain ⟨F2, N2⟩ := up_iter F1 N1' hne hk₁
    refine wpAny_assign_Name (wpAny_storeName_local hy (hC h₁ cenv.locals (N2 _ (.head _)).1) (fun h₂ hn₂ hs₂ => ?_) hp)
    obtain ⟨oC', hoC', hC'⟩ := nsO_of hn₂
    have F3 : Fr h₀ L h₂ m := F2.change hs₂ (N2 _ (.head _)).2.1 (N2 _ (.head _)).2.2
    have hJ2 : h₂.get? J = some oJ' := (hs₂.2 _ hJC).trans hoJ'
    have N3 : News h₀ L h₂ ((cenv.locals, oC') :: (D, W.listOf ys.toArray e) :: (J, oJ') :: news) := by
      intro p hp
      rcases List.mem_cons.mp hp with rfl | hp
      · exact ⟨hoC', (N2 _ (.head _)).2⟩
      · rcases List.mem_cons.mp hp with rfl | hp
        · exact ⟨(hs₂.2 _ hDC).trans (N2 _ (.tail _ (.head _))).1, (N2 _ (.tail _ (.head _))).2⟩
        · rcases List.mem_cons.mp hp with rfl | hp
          · exact ⟨hJ2, zJ.2⟩
          · exact ⟨(hs₂.2 _ (hnw _ hp).2.2).trans (N2 _ (.tail _ (.tail _ hp))).1, (N2 _ (.tail _ (.tail _ hp))).2⟩
    have hst₂ : St (i + 1) h₂ := stm _ _ _ _ hst₁ hoJ' hJ2
    refine wpAny_mono (turn i v ys e oC' oJ' _ h₂ _ _ hlt hPv hY hC' (hK _ _ hKC) (by simp) F3 N3) (fun z s₃ q => ?_) fun _ _ x => x
    obtain ⟨h, tk', nw, rfl, F4, N4', hsub, hY'⟩ := q
    have N4 : News h₀ L h ((cenv.locals, oC') :: (D, W.listOf ys.toArray e) :: (J, oJ') :: news) := fun p hp => N4' p (hsub p hp)
    refine wpAny_list_append_plain (hsz := by have := hYl _ _ hi hY; rw [sizeLine_eq]; simp; omega) ⟨e, (N4 _ (.tail _ (.head _))).1⟩ fun h₅ hl₅ hs₅ => ?_
    obtain ⟨e5, he5⟩ := hl₅
    have zD := N4 _ (.tail _ (.head _))
    have F5 : Fr h₀ L h₅ m := F4.change hs₅ zD.2.1 zD.2.2
    have hJ5 : h₅.get? J = some oJ' := (hs₅.2 _ hJD).trans (N4 _ (.tail _ (.tail _ (.head _)))).1
    have N5 : News h₀ L h₅ ((cenv.locals, oC') :: (D, W.listOf (ys ++ [z]).toArray e5) :: (J, oJ') :: news) := by
      intro p hp
      rcases List.mem_cons.mp hp with rfl | hp
      · exact ⟨(hs₅.2 _ (Ne.symm hDC)).trans (N4 _ (.head _)).1, (N4 _ (.head _)).2⟩
      · rcases List.mem_cons.mp hp with rfl | hp
        · refine ⟨?_, zD.2⟩
          rw [he5]; simp [W.listOf]
        · rcases List.mem_cons.mp hp with rfl | hp
          · exact ⟨hJ5, zJ.2⟩
          · exact ⟨(hs₅.2 _ (hnw _ hp).2.1).trans (N4 _ (.tail _ (.tail _ (.tail _ hp)))).1, (N4 _ (.tail _ (.tail _ (.tail _ hp)))).2⟩
    exact ⟨n + 1 - (i + 1), by omega, i + 1, h₅, tk', oC', oJ', _, ys ++ [z], e5, rfl, rfl, hlt, stm _ _ _ _ hst₂ hJ2 hJ5, hY', hC', hK _ _ hKC, F5, N5⟩
  · have hin : i = n := by omega
    subst hin
    refine Wk.done _ _ _ hsti fun h₁ tk₁ hk₁ => ?_
    obtain ⟨F2, N2⟩ := up_iter F1 N1' hne hk₁
    exact hR ys e oC mC h₁ tk₁ hY F2 hC hKC N2
theorem cutR1 : ∀ (prog : Program) (w : World) (A : Around) (s : Shared) (h₀ : Heap) (L : Addr) (m : Str → Option Value) (cenv : Env) (news : List (Addr × Obj)) (elt : Expr) (iter1 : Expr) (iter2 : Expr) (x : Str) (y : Str) (px : Pos) (py : Pos) (scope : Scope) (pos : Pos) (R : Result → Shared → Prop) (J : Addr) (D : Addr) (n : Nat) (Pv : Nat → Value → Prop) (St : Nat → Heap → Prop) (oC0 : Obj) (oJ0 : Obj) (ys0 : List Value) (e0 : Nat) (m0 : Str → Option Value) (Ks : (Str → Option Value) → Prop) (Ys : Nat → List Value → Prop), cutQ1.1 prog w A s h₀ L m cenv news elt iter1 iter2 x y px py scope pos R J D n Pv St oC0 oJ0 ys0 e0 m0 Ks Ys := by
  intro prog w A s h₀ L m cenv news elt iter1 iter2 x y px py scope pos R J D n Pv St oC0 oJ0 ys0 e0 m0 Ks Ys
  with_unfolding_all exact of_gen (P := fun t : Program × World × Around × Shared × Heap × Addr × (Str → Option Value) × Env × (List (Addr × Obj)) × Expr × Expr × Expr × Str × Str × Pos × Pos × Scope × Pos × (Result → Shared → Prop) × Addr × Addr × Nat × (Nat → Value → Prop) × (Nat → Heap → Prop) × Obj × Obj × (List Value) × Nat × (Str → Option Value) × ((Str → Option Value) → Prop) × (Nat → List Value → Prop) => cutQ1.1 t.1 t.2.1 t.2.2.1 t.2.2.2.1 t.2.2.2.2.1 t.2.2.2.2.2.1 t.2.2.2.2.2.2.1 t.2.2.2.2.2.2.2.1 t.2.2.2.2.2.2.2.2.1 t.2.2.2.2.2.2.2.2.2.1 t.2.2.2.2.2.2.2.2.2.2.1 t.2.2.2.2.2.2.2.2.2.2.2.1 t.2.2.2.2.2.2.2.2.2.2.2.2.1 t.2.2.2.2.2.2.2.2.2.2.2.2.2.1 t.2.2.2.2.2.2.2.2.2.2.2.2.2.2.1 t.2.2.2.2.2.2.2.2.2.2.2.2.2.2.2.1 t.2.2.2.2.2.2.2.2.2.2.2.2.2.2.2.2.1 t.2.2.2.2.2.2.2.2.2.2.2.2.2.2.2.2.2.1 t.2.2.2.2.2.2.2.2.2.2.2.2.2.2.2.2.2.2.1 t.2.2.2.2.2.2.2.2.2.2.2.2.2.2.2.2.2.2.2.1 t.2.2.2.2.2.2.2.2.2.2.2.2.2.2.2.2.2.2.2.2.1 t.2.2.2.2.2.2.2.2.2.2.2.2.2.2.2.2.2.2.2.2.2.1 t.2.2.2.2.2.2.2.2.2.2.2.2.2.2.2.2.2.2.2.2.2.2.1 t.2.2.2.2.2.2.2.2.2.2.2.2.2.2.2.2.2.2.2.2.2.2.2.1 t.2.2.2.2.2.2.2.2.2.2.2.2.2.2.2.2.2.2.2.2.2.2.2.2.1 t.2.2.2.2.2.2.2.2.2.2.2.2.2.2.2.2.2.2.2.2.2.2.2.2.2.1 t.2.2.2.2.2.2.2.2.2.2.2.2.2.2.2.2.2.2.2.2.2.2.2.2.2.2.1 t.2.2.2.2.2.2.2.2.2.2.2.2.2.2.2.2.2.2.2.2.2.2.2.2.2.2.2.1 t.2.2.2.2.2.2.2.2.2.2.2.2.2.2.2.2.2.2.2.2.2.2.2.2.2.2.2.2.1 t.2.2.2.2.2.2.2.2.2.2.2.2.2.2.2.2.2.2.2.2.2.2.2.2.2.2.2.2.2.1 t.2.2.2.2.2.2.2.2.2.2.2.2.2.2.2.2.2.2.2.2.2.2.2.2.2.2.2.2.2.2) cutP1 (prog, w, A, s, h₀, L, m, cenv, news, elt, iter1, iter2, x, y, px, py, scope, pos, R, J, D, n, Pv, St, oC0, oJ0, ys0, e0, m0, Ks, Ys)
end C
end inner_cut
theorem inner_cut {prog : Program} {w : World} {A : Around} {s : Shared} {h₀ : Heap} {L : Addr} {m : Str → Option Value} {cenv : Env} {news : List (Addr × Obj)} {elt iter1 iter2 : Expr} {x y : Str} {px py : Pos} {scope : Scope} {pos : Pos} {R : Result → Shared → Prop} {J D : Addr} {n : Nat} {Pv : Nat → Value → Prop} {St : Nat → Heap → Prop} {oC0 oJ0 : Obj} {ys0 : List Value} {e0 : Nat} {m0 : Str → Option Value}
    (Ks : (Str → Option Value) → Prop) (Ys : Nat → List Value → Prop)
    (Wk : Walks prog w A J [J] [J] n Pv St) (hSt : ∀ i h, St i h → ∃ o, h.get? J = some o)
    (hnw : ∀ p ∈ news, p.1 ≠ J ∧ p.1 ≠ D ∧ p.1 ≠ cenv.locals) (hJD : J ≠ D) (hJC : J ≠ cenv.locals) (hDC : D ≠ cenv.locals) (hYl : ∀ i ys, i ≤ n → Ys i ys → ys.length ≤ 1000)
    (hy : cenv.kindOf y = some .local) (hp : (cenv.scope.kind == .class || (cenv.scope.kind == .module && cenv.locals != cenv.globals)) = false)
    (F : Fr h₀ L s.heap m) (N : News h₀ L s.heap ((cenv.locals, oC0) :: (D, W.listOf ys0.toArray e0) :: (J, oJ0) :: news)) (hC0 : NsO oC0 m0) (hK0 : Ks m0) (hK : ∀ m v, Ks m → Ks (fun z => if z = y then some v else m z))
    (hst : St 0 s.heap) (hY0 : Ys 0 ys0)
    (turn : ∀ i v ys e oC oJ mC h tk E', i < n → Pv i v → Ys i ys → NsO oC mC → Ks mC → mC y = some v → Fr h₀ L h m → News h₀ L h ((cenv.locals, oC) :: (D, W.listOf ys.toArray e) :: (J, oJ) :: news) →
      wpAny (model prog w) A (eval elt cenv) (fun z s₄ => CKeep h₀ L m s ((cenv.locals, oC) :: (D, W.listOf ys.toArray e) :: (J, oJ) :: news) (Ys (i + 1) (ys ++ [z])) s₄) E' { s with heap := h, toks := tk })
    (hR : ∀ ys e oC' mC' h' tk, Ys n ys → Fr h₀ L h' m → NsO oC' mC' → Ks mC' → News h₀ L h' ((cenv.locals, oC') :: (D, W.listOf ys.toArray e) :: news) → R (.ok .next) { s with heap := h', toks := tk }) :
    codeAny (model prog w) A (.compLoop (two elt x y px py iter1 iter2 scope pos) 1 (.ref J) (.ref D) cenv) R s :=
  inner_cut.cutQ1.2 inner_cut.C.cutR1 Ks Ys Wk hSt hnw hJD hJC hDC hYl hy hp F N hC0 hK0 hK hst hY0 turn hR
section
variable {prog : Program} {w : World} {A : Around} {E : Value → Shared → Prop} {s : Shared} {h₀ : Heap} {L : Addr} {m : Str → Option Value} {env cenv : Env} {news : List (Addr × Obj)}
end
end Mine
end
section
local macro_rules | `(tactic| omega) => `(tactic| lia)
set_option maxHeartbeats 8000000
namespace Mine
noncomputable def flatP (nj : Nat → Nat) (n : Nat) : List (Nat × Nat) := (List.range n).flatMap fun i => (List.range (nj i)).map fun j => (i, j)
theorem flatP_succ (nj : Nat → Nat) (n : Nat) : flatP nj (n + 1) = flatP nj n ++ (List.range (nj n)).map fun j => (n, j) := by
  unfold flatP
  rw [List.range_succ, List.flatMap_append]
  simp
section
variable {prog : Program} {w : World} {A : Around} {E : Value → Shared → Prop} {s : Shared} {h₀ : Heap} {L : Addr} {m : Str → Option Value} {env cenv : Env} {news : List (Addr × Obj)}
structure C2Block (prog : Program) (w : World) (A : Around) (env : Env) (h₀ : Heap) (L : Addr) (m : Str → Option Value) (s : Shared) (x y : Str) (elt iter2 : Expr) (scope : Scope) (cl : List (Str × Addr)) (news : List (Addr × Obj))
    (n : Nat) (nj : Nat → Nat) (Z : Nat × Nat → Value → Prop) : Prop where
  inner : ∀ C D I (i : Nat) t oC oD oI mC h tk E', D < C → (∀ p ∈ news, p.1 < D) → i < n → NsO oC mC → mC x = some (.int (i : Int) t) → Fr h₀ L h m → News h₀ L h ((C, oC) :: (D, oD) :: (I, oI) :: news) →
    wpAny (model prog w) A (eval iter2 (compEnvC scope cl C env)) (fun xv s₃ => ∃ r b t₀ u₀ v₀ h tk, xv = .ref r ∧ s₃ = { s with heap := h, toks := tk } ∧ Fr h₀ L h m ∧ News h₀ L h ((C, oC) :: (D, oD) :: (I, oI) :: news) ∧
      IsRange h r 0 b 1 t₀ u₀ v₀ ∧ Builtin.Range.small 0 b 1 = true ∧ Builtin.Range.rangeSize 0 b 1 = (nj i : Int)) E' { s with heap := h, toks := tk }
  elt : ∀ C D I J (i j : Nat) t u oC oD oI oJ mC h tk E', D < C → (∀ p ∈ news, p.1 < D) → i < n → j < nj i → NsO oC mC → mC x = some (.int (i : Int) t) → mC y = some (.int (j : Int) u) → Fr h₀ L h m → News h₀ L h ((C, oC) :: (D, oD) :: (J, oJ) :: (I, oI) :: news) →
    wpAny (model prog w) A (eval elt (compEnvC scope cl C env)) (fun z s₃ => CKeep h₀ L m s ((C, oC) :: (D, oD) :: (J, oJ) :: (I, oI) :: news) (Z (i, j) z) s₃) E' { s with heap := h, toks := tk }
theorem flatP_len (nj : Nat → Nat) (hnj : ∀ i, nj i ≤ 20) : ∀ n, (flatP nj n).length ≤ 20 * n
  | 0 => by simp [flatP]
  | n + 1 => by
    have := flatP_len nj hnj n
    have h2 := hnj n
    rw [flatP_succ, List.length_append, List.length_map, List.length_range]; omega
end
namespace comp2_range
noncomputable def cutQ1 : { qq : (Program → World → Around → (Value → Shared → Prop) → Shared → Heap → Addr → (Str → Option Value) → Env → (List (Addr × Obj)) → Expr → Expr → Expr → Str → Str → Pos → Pos → Scope → (List (Str × Addr)) → Pos → (Option (Value → Sem Unit)) → (Value → Shared → Prop) → Addr → Int → Tok → Tok → Tok → Nat → (Nat → Nat) → (Nat × Nat → Value → Prop) → Prop) // (∀ (prog : Program) (w : World) (A : Around) (E : Value → Shared → Prop) (s : Shared) (h₀ : Heap) (L : Addr) (m : Str → Option Value) (env : Env) (news : List (Addr × Obj)) (elt : Expr) (iter1 : Expr) (iter2 : Expr) (x : Str) (y : Str) (px : Pos) (py : Pos) (scope : Scope) (cl : List (Str × Addr)) (pos : Pos) (use : Option (Value → Sem Unit)) (Q : Value → Shared → Prop) (r : Addr) (b₀ : Int) (t₀ : Tok) (u₀ : Tok) (v₀ : Tok) (n : Nat) (nj : Nat → Nat) (Z : Nat × Nat → Value → Prop), qq prog w A E s h₀ L m env news elt iter1 iter2 x y px py scope cl pos use Q r b₀ t₀ u₀ v₀ n nj Z) → ∀ {prog : Program} {w : World} {A : Around} {E : Value → Shared → Prop} {s : Shared} {h₀ : Heap} {L : Addr} {m : Str → Option Value} {env : Env} {news : List (Addr × Obj)} {elt iter1 iter2 : Expr} {x y : Str} {px py : Pos} {scope : Scope} {cl : List (Str × Addr)} {pos : Pos} {use : Option (Value → Sem Unit)} {Q : Value → Shared → Prop} {r : Addr} {b₀ : Int} {t₀ u₀ v₀ : Tok} (n : Nat) (nj : Nat → Nat) (Z : Nat × Nat → Value → Prop) (hn20 : n ≤ 20) (hnj : ∀ i, nj i ≤ 20) (hr : IsRange s.heap r 0 b₀ 1 t₀ u₀ v₀) (hsmall : Builtin.Range.small 0 b₀ 1 = true) (hn : Builtin.Range.rangeSize 0 b₀ 1 = (n : Int)) (hh : A.handled = none) (F : Fr h₀ L s.heap m) (N : News h₀ L s.heap news) (hcell : ∀ y ∈ scope.names, y.2 ≠ .cell) (hkind : scope.kind = .function) (hx : scope.names.lookup x = some .local) (hy : scope.names.lookup y = some .local) (hxy : x ≠ y) (hs2 : ∀ C x, foldedSetIterable iter2 (compEnvC scope cl C env) x = pure x) (blk : C2Block prog w A env h₀ L m s x y elt iter2 scope cl news n nj Z) (done : ∀ C D ys e oC' mC' h' tk, Paired Z (flatP nj n) ys → D < C → (∀ p ∈ news, p.1 < D) → Fr h₀ L h' m → NsO oC' mC' → News h₀ L h' ((C, oC') :: (D, W.listOf ys.toArray e) :: news) → compPost (model prog w) A E use Q (.ref D) C (.ok .next) { s with heap := h', toks := tk }),
   wpAny (model prog w) A (pyIter (.ref r)) (fun it s₂ => wpAny (model prog w) A (newList []) (fun acc s₃ => wpAny (model prog w) A (newFunctionEnv scope env.globals cl [] env.qual none .none (some env)) (fun cenv s₄ =>
      codeAny (model prog w) A (.compStart (two elt x y px py iter1 iter2 scope pos) 0 it acc { cenv with scope := relabel scope env }) (compPost (model prog w) A E use Q acc cenv.locals) s₄) E s₃) E s₂) E s } := by
  refine ⟨?qq0, fun hP0 => ?b⟩
  case b =>
    intro prog w A E s h₀ L m env news elt iter1 iter2 x y px py scope cl pos use Q r b₀ t₀ u₀ v₀ n nj Z hn20 hnj hr hsmall hn hh F N hcell hkind hx hy hxy hs2 blk done
    (try dsimp +zetaDelta only)
    revert done
    revert blk
    revert hs2
    revert hxy
    revert hy
    revert hx
    revert hkind
    revert hcell
    revert N
    revert F
    revert hh
    revert hn
    revert hsmall
    revert hr
    revert hnj
    revert hn20
    exact @hP0 prog w A E s h₀ L m env news elt iter1 iter2 x y px py scope cl pos use Q r b₀ t₀ u₀ v₀ n nj Z
namespace C
@[irreducible] noncomputable def cutT : Program × World × Around × (Value → Shared → Prop) × Shared × Heap × Addr × (Str → Option Value) × Env × (List (Addr × Obj)) × Expr × Expr × Expr × Str × Str × Pos × Pos × Scope × (List (Str × Addr)) × Pos × (Option (Value → Sem Unit)) × (Value → Shared → Prop) × Addr × Int × Tok × Tok × Tok × Nat × (Nat → Nat) × (Nat × Nat → Value → Prop) := gen ⟨(default, Classical.choice world_ne, {}, fun _ _ => True, {}, default, 0, fun _ => none, default, [], default, default, default, Str.ofString "", Str.ofString "", default, default, default, [], default, none, fun _ _ => True, 0, 0, 0, 0, 0, 0, fun _ => 0, fun _ _ => True)⟩ fun t => cutQ1.1 t.1 t.2.1 t.2.2.1 t.2.2.2.1 t.2.2.2.2.1 t.2.2.2.2.2.1 t.2.2.2.2.2.2.1 t.2.2.2.2.2.2.2.1 t.2.2.2.2.2.2.2.2.1 t.2.2.2.2.2.2.2.2.2.1 t.2.2.2.2.2.2.2.2.2.2.1 t.2.2.2.2.2.2.2.2.2.2.2.1 t.2.2.2.2.2.2.2.2.2.2.2.2.1 t.2.2.2.2.2.2.2.2.2.2.2.2.2.1 t.2.2.2.2.2.2.2.2.2.2.2.2.2.2.1 t.2.2.2.2.2.2.2.2.2.2.2.2.2.2.2.1 t.2.2.2.2.2.2.2.2.2.2.2.2.2.2.2.2.1 t.2.2.2.2.2.2.2.2.2.2.2.2.2.2.2.2.2.1 t.2.2.2.2.2.2.2.2.2.2.2.2.2.2.2.2.2.2.1 t.2.2.2.2.2.2.2.2.2.2.2.2.2.2.2.2.2.2.2.1 t.2.2.2.2.2.2.2.2.2.2.2.2.2.2.2.2.2.2.2.2.1 t.2.2.2.2.2.2.2.2.2.2.2.2.2.2.2.2.2.2.2.2.2.1 t.2.2.2.2.2.2.2.2.2.2.2.2.2.2.2.2.2.2.2.2.2.2.1 t.2.2.2.2.2.2.2.2.2.2.2.2.2.2.2.2.2.2.2.2.2.2.2.1 t.2.2.2.2.2.2.2.2.2.2.2.2.2.2.2.2.2.2.2.2.2.2.2.2.1 t.2.2.2.2.2.2.2.2.2.2.2.2.2.2.2.2.2.2.2.2.2.2.2.2.2.1 t.2.2.2.2.2.2.2.2.2.2.2.2.2.2.2.2.2.2.2.2.2.2.2.2.2.2.1 t.2.2.2.2.2.2.2.2.2.2.2.2.2.2.2.2.2.2.2.2.2.2.2.2.2.2.2.1 t.2.2.2.2.2.2.2.2.2.2.2.2.2.2.2.2.2.2.2.2.2.2.2.2.2.2.2.2.1 t.2.2.2.2.2.2.2.2.2.2.2.2.2.2.2.2.2.2.2.2.2.2.2.2.2.2.2.2.2
@[irreducible] noncomputable def prog : Program := cutT.1
@[irreducible] noncomputable def w : World := cutT.2.1
@[irreducible] noncomputable def A : Around := cutT.2.2.1
@[irreducible] noncomputable def E : Value → Shared → Prop := cutT.2.2.2.1
@[irreducible] noncomputable def s : Shared := cutT.2.2.2.2.1
@[irreducible] noncomputable def h₀ : Heap := cutT.2.2.2.2.2.1
@[irreducible] noncomputable def L : Addr := cutT.2.2.2.2.2.2.1
@[irreducible] noncomputable def m : Str → Option Value := cutT.2.2.2.2.2.2.2.1
@[irreducible] noncomputable def env : Env := cutT.2.2.2.2.2.2.2.2.1
@[irreducible] noncomputable def news : List (Addr × Obj) := cutT.2.2.2.2.2.2.2.2.2.1
@[irreducible] noncomputable def elt : Expr := cutT.2.2.2.2.2.2.2.2.2.2.1
@[irreducible] noncomputable def iter1 : Expr := cutT.2.2.2.2.2.2.2.2.2.2.2.1
@[irreducible] noncomputable def iter2 : Expr := cutT.2.2.2.2.2.2.2.2.2.2.2.2.1
@[irreducible] noncomputable def x : Str := cutT.2.2.2.2.2.2.2.2.2.2.2.2.2.1
@[irreducible] noncomputable def y : Str := cutT.2.2.2.2.2.2.2.2.2.2.2.2.2.2.1
@[irreducible] noncomputable def px : Pos := cutT.2.2.2.2.2.2.2.2.2.2.2.2.2.2.2.1
@[irreducible] noncomputable def py : Pos := cutT.2.2.2.2.2.2.2.2.2.2.2.2.2.2.2.2.1
@[irreducible] noncomputable def scope : Scope := cutT.2.2.2.2.2.2.2.2.2.2.2.2.2.2.2.2.2.1
@[irreducible] noncomputable def cl : List (Str × Addr) := cutT.2.2.2.2.2.2.2.2.2.2.2.2.2.2.2.2.2.2.1
@[irreducible] noncomputable def pos : Pos := cutT.2.2.2.2.2.2.2.2.2.2.2.2.2.2.2.2.2.2.2.1
@[irreducible] noncomputable def use : Option (Value → Sem Unit) := cutT.2.2.2.2.2.2.2.2.2.2.2.2.2.2.2.2.2.2.2.2.1
@[irreducible] noncomputable def Q : Value → Shared → Prop := cutT.2.2.2.2.2.2.2.2.2.2.2.2.2.2.2.2.2.2.2.2.2.1
@[irreducible] noncomputable def r : Addr := cutT.2.2.2.2.2.2.2.2.2.2.2.2.2.2.2.2.2.2.2.2.2.2.1
@[irreducible] noncomputable def b₀ : Int := cutT.2.2.2.2.2.2.2.2.2.2.2.2.2.2.2.2.2.2.2.2.2.2.2.1
@[irreducible] noncomputable def t₀ : Tok := cutT.2.2.2.2.2.2.2.2.2.2.2.2.2.2.2.2.2.2.2.2.2.2.2.2.1
@[irreducible] noncomputable def u₀ : Tok := cutT.2.2.2.2.2.2.2.2.2.2.2.2.2.2.2.2.2.2.2.2.2.2.2.2.2.1
@[irreducible] noncomputable def v₀ : Tok := cutT.2.2.2.2.2.2.2.2.2.2.2.2.2.2.2.2.2.2.2.2.2.2.2.2.2.2.1
@[irreducible] noncomputable def n : Nat := cutT.2.2.2.2.2.2.2.2.2.2.2.2.2.2.2.2.2.2.2.2.2.2.2.2.2.2.2.1
@[irreducible] noncomputable def nj : Nat → Nat := cutT.2.2.2.2.2.2.2.2.2.2.2.2.2.2.2.2.2.2.2.2.2.2.2.2.2.2.2.2.1
@[irreducible] noncomputable def Z : Nat × Nat → Value → Prop := cutT.2.2.2.2.2.2.2.2.2.2.2.2.2.2.2.2.2.2.2.2.2.2.2.2.2.2.2.2.2
theorem cutP1 : cutQ1.1 prog w A E s h₀ L m env news elt iter1 iter2 x y px py scope cl pos use Q r b₀ t₀ u₀ v₀ n nj Z := by
  delta cutQ1
  dsimp only
  intro hn20 hnj hr hsmall hn hh F N hcell hkind hx hy hxy hs2 blk done
  refine wpAny_pyIter_range hr hsmall ?_
  have Wk : Walks prog w A s.heap.objs.size [s.heap.objs.size] [s.heap.objs.size] n (fun i v => i < n ∧ ∃ t, v = .int (0 + i * 1) t)
      (fun i h => IsRangeIter h s.heap.objs.size (0 + (i : Nat) * 1) ((n : Int) - (i : Nat)) 1) := (Walks.range hh _ 0 1 n).bound
  have hst0 : IsRangeIter (s.heap.push { cls := .type "range_iterator", data := .fields #[rawInt 0, rawInt (Builtin.Range.rangeSize 0 b₀ 1), rawInt 1] }) s.heap.objs.size (0 + (0 : Nat) * 1) ((n : Int) - (0 : Nat)) 1 := by
    show IsRangeIter _ _ _ _ _
    rw [hn]; simpa using Heap.get?_push_size _ rfl
  have NI := News.push F N { cls := .type "range_iterator", data := .fields #[rawInt 0, rawInt (Builtin.Range.rangeSize 0 b₀ 1), rawInt 1] }
  have FI := F.push { cls := .type "range_iterator", data := .fields #[rawInt 0, rawInt (Builtin.Range.rangeSize 0 b₀ 1), rawInt 1] }
  have hnI : ∀ p ∈ news, p.1 ≠ s.heap.objs.size := fun p hp => Nat.ne_of_lt (Heap.lt_size (N p hp).1)
  generalize s.heap.objs.size = I at Wk hst0 NI hnI ⊢
  generalize s.heap.push { cls := .type "range_iterator", data := .fields #[rawInt 0, rawInt (Builtin.Range.rangeSize 0 b₀ 1), rawInt 1] } = HI at hst0 NI FI ⊢
  generalize ({ cls := .type "range_iterator", data := .fields #[rawInt 0, rawInt (Builtin.Range.rangeSize 0 b₀ 1), rawInt 1] } : Obj) = oI0 at NI
  refine wpAny_newObj_type (wpAny_newFunctionEnv hcell (by intro y hy; simp at hy) (fun h₁ hns₁ hsb₁ => ?_) hkind)
  dsimp only at hns₁ hsb₁ ⊢
  have Fa := FI.push { cls := .type "list", dict := none, data := .seq ([] : List Value).toArray }
  have Na := News.push FI NI { cls := .type "list", dict := none, data := .seq ([] : List Value).toArray }
  have hDn : ∀ p ∈ (I, oI0) :: news, p.1 < HI.objs.size := fun p hp => Heap.lt_size (NI p hp).1
  have hsz : HI.objs.size < (HI.push { cls := .type "list", dict := none, data := .seq ([] : List Value).toArray }).objs.size := by rw [Heap.size_push]; exact Nat.lt_succ_self _
  have hst1 : IsRangeIter (HI.push { cls := .type "list", dict := none, data := .seq ([] : List Value).toArray }) I (0 + (0 : Nat) * 1) ((n : Int) - (0 : Nat)) 1 := Wk.frame 0 _ _ hst0 fun b hb o e => Heap.get?_push_of_some _ e
  generalize HI.push { cls := .type "list", dict := none, data := .seq ([] : List Value).toArray } = H2 at hns₁ hsb₁ Fa Na hsz hst1 ⊢
  generalize HI.objs.size = D at Na hDn hsz ⊢
  have hDC : D ≠ H2.objs.size := Nat.ne_of_lt hsz
  have old : ∀ b o, H2.get? b = some o → h₁.get? b = some o := fun b o e => hsb₁.extBut b o (Nat.ne_of_lt (Heap.lt_size e)) (Heap.get?_push_of_some _ e)
  have F1 : Fr h₀ L h₁ m := Fa.keeps old
  obtain ⟨oC, hoC, hCO⟩ := nsO_of hns₁
  have hCL : H2.objs.size ≠ L := by
    obtain ⟨o, _, _, ho, _⟩ := Fa.ns
    exact (Nat.ne_of_lt (Heap.lt_size ho)).symm
  have hC0 : h₀.get? H2.objs.size = none := by
    cases q : h₀.get? H2.objs.size with
    | none => rfl
    | some o => exact absurd (Heap.lt_size (Fa.keep _ _ q)) (Nat.lt_irrefl _)
  have N1 : News h₀ L h₁ ((H2.objs.size, oC) :: (D, W.listOf #[] 0) :: (I, oI0) :: news) := by
    intro p hp
    rcases List.mem_cons.mp hp with rfl | hp
    · exact ⟨hoC, hCL, hC0⟩
    · exact ⟨old _ _ (Na p hp).1, (Na p hp).2⟩
  have hst₁ : IsRangeIter h₁ I (0 + (0 : Nat) * 1) ((n : Int) - (0 : Nat)) 1 := Wk.frame 0 _ _ hst1 fun b hb o e => old b o e
  have hIC : I < H2.objs.size := Nat.lt_trans (hDn _ (.head _)) hsz
  have hCn : ∀ p ∈ news, p.1 < H2.objs.size := fun p hp => Nat.lt_trans (hDn _ (.tail _ hp)) hsz
  have hnD : ∀ p ∈ news, p.1 < D := fun p hp => hDn _ (.tail _ hp)
  have hID : I < D := hDn _ (.head _)
  generalize H2.objs.size = C at *
  clear hns₁ hsb₁ Fa Na old hst1 hst0 FI NI hoC
  have hcp : ((compEnvC scope cl C env).scope.kind == .class || ((compEnvC scope cl C env).scope.kind == .module && (compEnvC scope cl C env).locals != (compEnvC scope cl C env).globals)) = false := by simp [compEnvC, relabel, hkind]
  have stm : ∀ i h h' oI, IsRangeIter h I (0 + (i : Nat) * 1) ((n : Int) - (i : Nat)) 1 → h.get? I = some oI → h'.get? I = some oI → IsRangeIter h' I (0 + (i : Nat) * 1) ((n : Int) - (i : Nat)) 1 := by
    intro i h h' oI hs h1 h2
    refine Wk.frame i h h' hs fun b hb o ho => ?_
    rw [List.mem_singleton.mp hb] at ho ⊢
    rw [h1] at ho
    rw [← Option.some.inj ho]; exact h2
  have loop : ∀ s₃ : Shared, s₃ = { s with heap := h₁, toks := s.toks + ([] : List (Str × Value)).length } →
      codeAny (model prog w) A (.compLoop (two elt x y px py iter1 iter2 scope pos) 0 (.ref I) (.ref D) (compEnvC scope cl C env))
        (compPost (model prog w) A E use Q (.ref D) C) s₃ := by
    rintro s₃ rfl
    refine loop_out (fun k s' => ∃ i h tk oC oI mC ys e, s' = { s with heap := h, toks := tk } ∧ k = n + 1 - i ∧ i ≤ n ∧ IsRangeIter h I (0 + (i : Nat) * 1) ((n : Int) - (i : Nat)) 1 ∧ Paired Z (flatP nj i) ys ∧ NsO oC mC ∧ Fr h₀ L h m ∧ News h₀ L h ((C, oC) :: (D, W.listOf ys.toArray e) :: (I, oI) :: news)) ?_ (hs2 C) (n + 1)
      ⟨0, h₁, _, oC, oI0, _, [], 0, rfl, rfl, Nat.zero_le _, hst₁, Paired.nil, hCO, F1, N1⟩
    rintro k s' ⟨i, H, tk, oC, oI, mC, ys, e, rfl, rfl, hi, hsti, hY, hC, F1, N1⟩
    have N1' : News h₀ L H ((I, oI) :: (C, oC) :: (D, W.listOf ys.toArray e) :: news) := fun p hp => N1 p (by
      simp only [List.mem_cons] at hp ⊢
      rcases hp with h | h | h | h
      · exact .inr (.inr (.inl h))
      · exact .inl h
      · exact .inr (.inl h)
      · exact .inr (.inr (.inr h)))
    have hne : ∀ p ∈ (C, oC) :: (D, W.listOf ys.toArray e) :: news, p.1 ≠ I := by
      intro p hp
      rcases List.mem_cons.mp hp with rfl | hp
      · exact (Nat.ne_of_lt hIC).symm
      · rcases List.mem_cons.mp hp with rfl | hp
        · exact (Nat.ne_of_lt hID).symm
        · exact hnI _ hp
    have zI := N1' _ (.head _)
    by_cases hlt : i < n
    · refine Wk.item i _ _ _ hlt hsti fun v h₂ tk₂ hPv hst₂ hk₂ => ?_
      obtain ⟨_, tv, rfl⟩ := hPv
      obtain ⟨oI', hoI'⟩ : ∃ o, h₂.get? I = some o := ⟨_, hst₂⟩
      obtain ⟨F2, N2⟩ := up_iter F1 N1' hne hk₂
      refine wpAny_assign_Name (wpAny_storeName_local (lookup_relabel_local hx) (hC h₂ C (N2 _ (.head _)).1) (fun h₃ hn₃ hs₃ => ?_) hcp)
      obtain ⟨oC', hoC', hC'⟩ := nsO_of hn₃
      have F3 : Fr h₀ L h₃ m := F2.change hs₃ (N2 _ (.head _)).2.1 (N2 _ (.head _)).2.2
      have hI3 : h₃.get? I = some oI' := (hs₃.2 _ (Nat.ne_of_lt hIC)).trans hoI'
      have N3 : News h₀ L h₃ ((C, oC') :: (D, W.listOf ys.toArray e) :: (I, oI') :: news) := by
        intro p hp
        rcases List.mem_cons.mp hp with rfl | hp
        · exact ⟨hoC', (N2 _ (.head _)).2⟩
        · rcases List.mem_cons.mp hp with rfl | hp
          · exact ⟨(hs₃.2 _ (Nat.ne_of_lt hsz)).trans (N2 _ (.tail _ (.head _))).1, (N2 _ (.tail _ (.head _))).2⟩
          · rcases List.mem_cons.mp hp with rfl | hp
            · exact ⟨hI3, zI.2⟩
            · exact ⟨(hs₃.2 _ (Nat.ne_of_lt (hCn _ hp))).trans (N2 _ (.tail _ (.tail _ hp))).1, (N2 _ (.tail _ (.tail _ hp))).2⟩
      have hst₃ := stm (i + 1) _ _ _ hst₂ hoI' hI3
      refine wpAny_mono (blk.inner C D I i tv oC' _ oI' _ h₃ _ _ hsz hnD hlt hC' (by simp) F3 N3) (fun xv s₄ q => ?_) fun _ _ x => x
      obtain ⟨r2, b2, t2, u2, v2, h₄, tk₄, rfl, rfl, F4, N4, hr2, hsm2, hn2⟩ := q
      refine wpAny_pyIter_range hr2 hsm2 ?_
      have Wj : Walks prog w A h₄.objs.size [h₄.objs.size] [h₄.objs.size] (nj i) (fun j v => j < nj i ∧ ∃ t, v = .int (0 + j * 1) t)
        (fun j h => IsRangeIter h h₄.objs.size (0 + (j : Nat) * 1) ((nj i : Int) - (j : Nat)) 1) := (Walks.range hh _ 0 1 (nj i)).bound
      have hj0 : IsRangeIter (h₄.push { cls := .type "range_iterator", data := .fields #[rawInt 0, rawInt (Builtin.Range.rangeSize 0 b2 1), rawInt 1] }) h₄.objs.size (0 + (0 : Nat) * 1) ((nj i : Int) - (0 : Nat)) 1 := by
        show IsRangeIter _ _ _ _ _
        rw [hn2]; simpa using Heap.get?_push_size _ rfl
      have NJ := News.push F4 N4 { cls := .type "range_iterator", data := .fields #[rawInt 0, rawInt (Builtin.Range.rangeSize 0 b2 1), rawInt 1] }
      have FJ := F4.push { cls := .type "range_iterator", data := .fields #[rawInt 0, rawInt (Builtin.Range.rangeSize 0 b2 1), rawInt 1] }
      have hlJ : ∀ p ∈ (C, oC') :: (D, W.listOf ys.toArray e) :: (I, oI') :: news, p.1 < h₄.objs.size := fun p hp => Heap.lt_size (N4 p hp).1
      have hI4 : (h₄.push { cls := .type "range_iterator", data := .fields #[rawInt 0, rawInt (Builtin.Range.rangeSize 0 b2 1), rawInt 1] }).get? I = some oI' := Heap.get?_push_of_some _ (N4 _ (.tail _ (.tail _ (.head _)))).1
      generalize ({ cls := .type "range_iterator", data := .fields #[rawInt 0, rawInt (Builtin.Range.rangeSize 0 b2 1), rawInt 1] } : Obj) = oJ at *
      generalize h₄.push oJ = h₅ at *
      generalize h₄.objs.size = J at *
      have NJ' : News h₀ L h₅ ((C, oC') :: (D, W.listOf ys.toArray e) :: (J, oJ) :: (I, oI') :: news) := fun p hp => NJ p (by
        simp only [List.mem_cons] at hp ⊢
        rcases hp with h | h | h | h | h
        · exact .inr (.inl h)
        · exact .inr (.inr (.inl h))
        · exact .inl h
        · exact .inr (.inr (.inr (.inl h)))
        · exact .inr (.inr (.inr (.inr h))))
      have fin : ∀ s₅ : Shared, s₅ = { s with heap := h₅, toks := tk₄ } → codeAny (model prog w) A (.compLoop (two elt x y px py iter1 iter2 scope pos) 1 (.ref J) (.ref D) (compEnvC scope cl C env))
          (fun r s₅ => (∃ f, r = .ok f) ∧ ∃ k, k < n + 1 - i ∧ ∃ i h tk oC oI mC ys e, s₅ = { s with heap := h, toks := tk } ∧ k = n + 1 - i ∧ i ≤ n ∧ IsRangeIter h I (0 + (i : Nat) * 1) ((n : Int) - (i : Nat)) 1 ∧ Paired Z (flatP nj i) ys ∧ NsO oC mC ∧ Fr h₀ L h m ∧ News h₀ L h ((C, oC) :: (D, W.listOf ys.toArray e) :: (I, oI) :: news)) s₅ := by
        rintro s₅ rfl
        refine inner_cut (cenv := compEnvC scope cl C env) (s := { s with heap := h₅, toks := tk₄ }) (h₀ := h₀) (L := L) (m := m) (news := (I, oI') :: news) (fun mC => mC x = some (.int (i : Int) tv)) (fun j ys => Paired Z (flatP nj i ++ (List.range j).map fun j => (i, j)) ys) Wj (fun j h st => ⟨_, st⟩) ?_ ?_ ?_ ?_ ?_ (lookup_relabel_local hy) hcp FJ NJ' hC' (by simp) ?_ hj0 (by simpa using hY) ?_ ?_
        · intro p hp
          rcases List.mem_cons.mp hp with rfl | hp
          · exact ⟨Nat.ne_of_lt (hlJ _ (.tail _ (.tail _ (.head _)))), Nat.ne_of_lt hID, Nat.ne_of_lt hIC⟩
          · exact ⟨Nat.ne_of_lt (hlJ _ (.tail _ (.tail _ (.tail _ hp)))), Nat.ne_of_lt (hnD _ hp), Nat.ne_of_lt (hCn _ hp)⟩
        · exact Nat.ne_of_gt (hlJ _ (.tail _ (.head _)))
        · exact Nat.ne_of_gt (hlJ _ (.head _))
        · exact Nat.ne_of_lt hsz
        · intro j ys' hj h
          have := h.length
          have h2 := flatP_len nj hnj i
          have h3 := hnj i
          rw [List.length_append, List.length_map, List.length_range] at this
          omega
        · intro mm v hm
          show (if x = y then some v else mm x) = _
          rw [if_neg hxy]; exact hm
        · rintro j v ys' e' oC2 oJ2 mC2 h tk E' hj ⟨_, tj, rfl⟩ hY2 hC2 hK2 hmy F5 N5
          rw [Int.zero_add, Int.mul_one] at hmy
          refine wpAny_mono (blk.elt C D I J i j tv tj oC2 _ oI' oJ2 mC2 h tk E' hsz hnD hlt hj hC2 hK2 hmy F5 N5) (fun z s₆ q => ?_) fun _ _ x => x
          obtain ⟨h6, tk6, nw6, rfl, F6, N6, hs6, hz⟩ := q
          refine ⟨h6, tk6, nw6, rfl, F6, N6, hs6, ?_⟩
          rw [List.range_succ, List.map_append, ← List.append_assoc]
          exact Paired.snoc hY2 hz
        · intro ys' e' oC2 mC2 h' tk' hY2 F6 hC2 _ N6
          refine ⟨⟨_, rfl⟩, n + 1 - (i + 1), by omega, i + 1, h', tk', oC2, oI', mC2, ys', e', rfl, rfl, hlt, ?_, ?_, hC2, F6, N6⟩
          · exact stm (i + 1) _ _ _ hst₃ hI3 (N6 _ (.tail _ (.tail _ (.head _)))).1
          · rw [flatP_succ]; exact hY2
      exact start_in (fin _ rfl) (Wj.self 0 _ _ _ hj0 (fin _ rfl))
    · have hin : i = n := by omega
      subst hin
      refine Wk.done _ _ _ hsti fun h₂ tk₂ hk₂ => ?_
      obtain ⟨F2, N2⟩ := up_iter F1 N1' hne hk₂
      exact done C D ys e oC mC h₂ tk₂ hY hsz hnD F2 hC N2
  exact codeAny_compStart_list (loop _ rfl) (Wk.self 0 _ _ _ hst₁ (loop _ rfl))
theorem cutR1 : ∀ (prog : Program) (w : World) (A : Around) (E : Value → Shared → Prop) (s : Shared) (h₀ : Heap) (L : Addr) (m : Str → Option Value) (env : Env) (news : List (Addr × Obj)) (elt : Expr) (iter1 : Expr) (iter2 : Expr) (x : Str) (y : Str) (px : Pos) (py : Pos) (scope : Scope) (cl : List (Str × Addr)) (pos : Pos) (use : Option (Value → Sem Unit)) (Q : Value → Shared → Prop) (r : Addr) (b₀ : Int) (t₀ : Tok) (u₀ : Tok) (v₀ : Tok) (n : Nat) (nj : Nat → Nat) (Z : Nat × Nat → Value → Prop), cutQ1.1 prog w A E s h₀ L m env news elt iter1 iter2 x y px py scope cl pos use Q r b₀ t₀ u₀ v₀ n nj Z := by
  intro prog w A E s h₀ L m env news elt iter1 iter2 x y px py scope cl pos use Q r b₀ t₀ u₀ v₀ n nj Z
  with_unfolding_all exact of_gen (P := fun t : Program × World × Around × (Value → Shared → Prop) × Shared × Heap × Addr × (Str → Option Value) × Env × (List (Addr × Obj)) × Expr × Expr × Expr × Str × Str × Pos × Pos × Scope × (List (Str × Addr)) × Pos × (Option (Value → Sem Unit)) × (Value → Shared → Prop) × Addr × Int × Tok × Tok × Tok × Nat × (Nat → Nat) × (Nat × Nat → Value → Prop) => cutQ1.1 t.1 t.2.1 t.2.2.1 t.2.2.2.1 t.2.2.2.2.1 t.2.2.2.2.2.1 t.2.2.2.2.2.2.1 t.2.2.2.2.2.2.2.1 t.2.2.2.2.2.2.2.2.1 t.2.2.2.2.2.2.2.2.2.1 t.2.2.2.2.2.2.2.2.2.2.1 t.2.2.2.2.2.2.2.2.2.2.2.1 t.2.2.2.2.2.2.2.2.2.2.2.2.1 t.2.2.2.2.2.2.2.2.2.2.2.2.2.1 t.2.2.2.2.2.2.2.2.2.2.2.2.2.2.1 t.2.2.2.2.2.2.2.2.2.2.2.2.2.2.2.1 t.2.2.2.2.2.2.2.2.2.2.2.2.2.2.2.2.1 t.2.2.2.2.2.2.2.2.2.2.2.2.2.2.2.2.2.1 t.2.2.2.2.2.2.2.2.2.2.2.2.2.2.2.2.2.2.1 t.2.2.2.2.2.2.2.2.2.2.2.2.2.2.2.2.2.2.2.1 t.2.2.2.2.2.2.2.2.2.2.2.2.2.2.2.2.2.2.2.2.1 t.2.2.2.2.2.2.2.2.2.2.2.2.2.2.2.2.2.2.2.2.2.1 t.2.2.2.2.2.2.2.2.2.2.2.2.2.2.2.2.2.2.2.2.2.2.1 t.2.2.2.2.2.2.2.2.2.2.2.2.2.2.2.2.2.2.2.2.2.2.2.1 t.2.2.2.2.2.2.2.2.2.2.2.2.2.2.2.2.2.2.2.2.2.2.2.2.1 t.2.2.2.2.2.2.2.2.2.2.2.2.2.2.2.2.2.2.2.2.2.2.2.2.2.1 t.2.2.2.2.2.2.2.2.2.2.2.2.2.2.2.2.2.2.2.2.2.2.2.2.2.2.1 t.2.2.2.2.2.2.2.2.2.2.2.2.2.2.2.2.2.2.2.2.2.2.2.2.2.2.2.1 t.2.2.2.2.2.2.2.2.2.2.2.2.2.2.2.2.2.2.2.2.2.2.2.2.2.2.2.2.1 t.2.2.2.2.2.2.2.2.2.2.2.2.2.2.2.2.2.2.2.2.2.2.2.2.2.2.2.2.2) cutP1 (prog, w, A, E, s, h₀, L, m, env, news, elt, iter1, iter2, x, y, px, py, scope, cl, pos, use, Q, r, b₀, t₀, u₀, v₀, n, nj, Z)
end C
end comp2_range
theorem comp2_range {prog : Program} {w : World} {A : Around} {E : Value → Shared → Prop} {s : Shared} {h₀ : Heap} {L : Addr} {m : Str → Option Value} {env : Env} {news : List (Addr × Obj)} {elt iter1 iter2 : Expr} {x y : Str} {px py : Pos} {scope : Scope} {cl : List (Str × Addr)} {pos : Pos} {use : Option (Value → Sem Unit)} {Q : Value → Shared → Prop}
    {r : Addr} {b₀ : Int} {t₀ u₀ v₀ : Tok} (n : Nat) (nj : Nat → Nat) (Z : Nat × Nat → Value → Prop) (hn20 : n ≤ 20) (hnj : ∀ i, nj i ≤ 20)
    (hr : IsRange s.heap r 0 b₀ 1 t₀ u₀ v₀) (hsmall : Builtin.Range.small 0 b₀ 1 = true) (hn : Builtin.Range.rangeSize 0 b₀ 1 = (n : Int)) (hh : A.handled = none)
    (F : Fr h₀ L s.heap m) (N : News h₀ L s.heap news) (hcell : ∀ y ∈ scope.names, y.2 ≠ .cell) (hkind : scope.kind = .function) (hx : scope.names.lookup x = some .local) (hy : scope.names.lookup y = some .local) (hxy : x ≠ y)
    (hs2 : ∀ C x, foldedSetIterable iter2 (compEnvC scope cl C env) x = pure x)
    (blk : C2Block prog w A env h₀ L m s x y elt iter2 scope cl news n nj Z)
    (done : ∀ C D ys e oC' mC' h' tk, Paired Z (flatP nj n) ys → D < C → (∀ p ∈ news, p.1 < D) → Fr h₀ L h' m → NsO oC' mC' → News h₀ L h' ((C, oC') :: (D, W.listOf ys.toArray e) :: news) → compPost (model prog w) A E use Q (.ref D) C (.ok .next) { s with heap := h', toks := tk }) :
    wpAny (model prog w) A (pyIter (.ref r)) (fun it s₂ => wpAny (model prog w) A (newList []) (fun acc s₃ => wpAny (model prog w) A (newFunctionEnv scope env.globals cl [] env.qual none .none (some env)) (fun cenv s₄ =>
      codeAny (model prog w) A (.compStart (two elt x y px py iter1 iter2 scope pos) 0 it acc { cenv with scope := relabel scope env }) (compPost (model prog w) A E use Q acc cenv.locals) s₄) E s₃) E s₂) E s :=
  comp2_range.cutQ1.2 comp2_range.C.cutR1 n nj Z hn20 hnj hr hsmall hn hh F N hcell hkind hx hy hxy hs2 blk done
section
variable {prog : Program} {w : World} {A : Around} {E : Value → Shared → Prop} {s : Shared} {h₀ : Heap} {L : Addr} {m : Str → Option Value} {env cenv : Env} {news : List (Addr × Obj)}
theorem comp2_eval {elt iter1 iter2 : Expr} {x y : Str} {px py : Pos} {scope : Scope} {cl : List (Str × Addr)} {pos : Pos} {Q : Value → Shared → Prop}
    (h : wpAny (model prog w) A (eval iter1 env) (fun xv s₁ => wpAny (model prog w) A (pyIter xv) (fun it s₂ => wpAny (model prog w) A (newList []) (fun acc s₃ => wpAny (model prog w) A (newFunctionEnv scope env.globals cl [] env.qual none .none (some env)) (fun cenv s₄ =>
      codeAny (model prog w) A (.compStart (two elt x y px py iter1 iter2 scope pos) 0 it acc { cenv with scope := relabel scope env }) (compPost (model prog w) A E none Q acc cenv.locals) s₄) E s₃) E s₂) E s₁) E s)
    (hclos : closureFor scope env = pure cl) (hkind : scope.kind = .function)
    (hnames : ∀ y ∈ scope.names, y.2 = .local → scope.names.lookup y.1 = some .local) (hs : ∀ x, foldedSetIterable iter1 env x = pure x) :
    wpAny (model prog w) A (eval (two elt x y px py iter1 iter2 scope pos) env) Q E s := by
  rw [two, eval_ListComp]
  exact wpAny_comprehension_free (use := none) rfl hs hclos hkind hnames h
end
end Mine
end
local macro_rules | `(tactic| walk_at "eval Name") => `(tactic| ((with_reducible refine inComp ?_); (name_kind "local"); (with_reducible rename News _ _ _ _ => kN); (with_unfolding_all refine name_comp kN (by k_mem) (by assumption) (by assumption) ?_ rfl rfl (by decide))))
local macro_rules | `(tactic| walk_at "binaryOp Add ref ref") => `(tactic| (k_here; (with_reducible show wpAny _ _ (binaryOp _ (Value.ref _) (Value.ref _)) _ _ _); k_dflt (refine' kmk_add_ints ?F ?N ?a ?b ?i ?j ?_ ?z; (case F => k_asm); (case N => k_asm); (case a => kmk_list); (case b => kmk_list); (case i => l_ints); (case j => l_ints); (case z => (simp only [sizeLine_eq, List.length_cons, List.length_nil, List.length_append]; omega))); intro D' ws' h' F' N' l1 hI'; (try k_lt l1); (try k_sweep)))
local macro_rules | `(tactic| walk_at "call builtin:sum") => `(tactic| (k_here; (with_reducible show wpAny _ _ (call (Value.builtin _) [Value.ref _]) _ _ _); (with_unfolding_all refine' sum_led ?k6 ?k1 ?k2 ?k3 ?k4 ?_; (case k1 => k_asm); (case k2 => k_asm); (case k3 => kso_list); (case k4 => l_ints); (case k6 => with_unfolding_all rfl); k_whole); intro h' t' k' F' N'; (try k_sweep)))
section
local macro_rules | `(tactic| omega) => `(tactic| lia)
set_option maxHeartbeats 8000000
set_option rowWalk.seconds 0
namespace Mine
noncomputable def wrS (ns : List Int) (sign : Str) : Nat → Str
  | 0 => Str.ofString "1"
  | i + 1 => (if (ns.any fun x => x == (1 + (i : Int))) = true then wrS ns sign i ++ sign else wrS ns sign i) ++ Txt.item (Str.ofString "12345") (1 + (i : Int))
theorem wrS_t {ns : List Int} {sign : Str} {i : Nat} (h : (ns.any fun x => x == (1 + (i : Int))) = true) : wrS ns sign (i + 1) = wrS ns sign i ++ sign ++ Txt.item (Str.ofString "12345") (1 + (i : Int)) := by
  rw [wrS, if_pos h]
theorem wrS_f {ns : List Int} {sign : Str} {i : Nat} (h : (ns.any fun x => x == (1 + (i : Int))) = false) : wrS ns sign (i + 1) = wrS ns sign i ++ Txt.item (Str.ofString "12345") (1 + (i : Int)) := by
  rw [wrS, if_neg (by rw [h]; decide)]
theorem wrS_len (ns : List Int) (sign : Str) (hs : sign.length ≤ 3) : ∀ i, i ≤ 4 → (wrS ns sign i).length ≤ 1 + 4 * i
  | 0, _ => by rw [wrS]; decide +kernel
  | i + 1, hi => by
    have ih := wrS_len ns sign hs i (by omega)
    have h1 : (Txt.item (Str.ofString "12345") (1 + (i : Int))).length ≤ 1 := by
      have : i = 0 ∨ i = 1 ∨ i = 2 ∨ i = 3 := by omega
      rcases this with rfl | rfl | rfl | rfl <;> decide +kernel
    unfold wrS
    split <;> (simp only [Str.length_append]; omega)
namespace written_tells
noncomputable def cutQ1 : { qq : (World → (ExcName → Option Value) → (Str → Option Value) → (Str → Option Value) → Addr → (List Value) → (List Int) → Str → Tok → Nat → Nat → (Option (List Code)) → (List Env) → Heap → Shared → (Value → Shared → Prop) → (Value → Shared → Prop) → Heap → Addr → Heap → Prop) // (∀ (w : World) (mean : ExcName → Option Value) (mg : Str → Option Value) (mb : Str → Option Value) (lm : Addr) (vs : List Value) (ns : List Int) (sign : Str) (ts : Tok) (dp : Nat) (un : Nat) (gd : Option (List Code)) (outers : List Env) (base : Heap) (s : Shared) (Q : Value → Shared → Prop) (E : Value → Shared → Prop) (g : Heap) (L' : Addr) (h₁ : Heap), qq w mean mg mb lm vs ns sign ts dp un gd outers base s Q E g L' h₁) → ∀ (w : World) (mean : ExcName → Option Value) (mg mb : Str → Option Value) (lm : Addr) (vs : List Value) (ns : List Int) (sign : Str) (ts : Tok) (hI : IntsAre vs ns) (hl : ns.length ≤ 100) (hs : sign.length ≤ 3),
   Tells Challenge.rw_re0065_01.row.prog w (hd1.heap_39 w.params) hd1.view_39 (looseW hd1.view_39 []) mean mg mb 2 75 [.ref lm, .str sign ts] (fun h => h.IsList lm vs.toArray) (fun v h h' => ∃ t, v = .str (wrS ns sign 4) t) } := by
  refine ⟨?qq0, fun hP0 => ?b⟩
  case b =>
    intro w mean mg mb lm vs ns sign ts hI hl hs
    ((k_fill; intro dp un gd outers base s Q E B X T hdp hun hpre hret; ((refine wpAny_call ?_; k_dflt (refine' enter ?k1 ?k2 ?k3 ?k6 ?k7 ?k8 ?k9 ?kB ?_ ?c2 ?c3 ?c4 ?c5; (case k1 => k_asm); (case k2 => k_asm); (case k3 => k_asm); (case k6 => k_is); (case k7 => k_is); (case k8 => ktr_room); (case k9 => exact BindsTo.of_eq rfl); (case c5 => decide); (case kB => exact locs rfl); (case c2 => exact rfl); (case c3 => exact rfl); (case c4 => exact rfl); k_whole))); intro g L' h₁ hg F' N' B' X' T'; (try dsimp only); (try k_lift B')))
    have hl' : g.IsList lm vs.toArray := by rw [hg]; exact hpre
    (try dsimp +zetaDelta only)
    revert hl'
    revert T'
    revert X'
    revert B'
    revert N'
    revert F'
    revert hg
    revert hret
    revert hun
    revert hdp
    revert hs
    revert hl
    revert hI
    exact @hP0 w mean mg mb lm vs ns sign ts dp un gd outers base s Q E g L' h₁
namespace C
@[irreducible] noncomputable def cutT : World × (ExcName → Option Value) × (Str → Option Value) × (Str → Option Value) × Addr × (List Value) × (List Int) × Str × Tok × Nat × Nat × (Option (List Code)) × (List Env) × Heap × Shared × (Value → Shared → Prop) × (Value → Shared → Prop) × Heap × Addr × Heap := gen ⟨(Classical.choice world_ne, fun _ => none, fun _ => none, fun _ => none, 0, [], [], Str.ofString "", 0, 0, 0, none, [], default, {}, fun _ _ => True, fun _ _ => True, default, 0, default)⟩ fun t => cutQ1.1 t.1 t.2.1 t.2.2.1 t.2.2.2.1 t.2.2.2.2.1 t.2.2.2.2.2.1 t.2.2.2.2.2.2.1 t.2.2.2.2.2.2.2.1 t.2.2.2.2.2.2.2.2.1 t.2.2.2.2.2.2.2.2.2.1 t.2.2.2.2.2.2.2.2.2.2.1 t.2.2.2.2.2.2.2.2.2.2.2.1 t.2.2.2.2.2.2.2.2.2.2.2.2.1 t.2.2.2.2.2.2.2.2.2.2.2.2.2.1 t.2.2.2.2.2.2.2.2.2.2.2.2.2.2.1 t.2.2.2.2.2.2.2.2.2.2.2.2.2.2.2.1 t.2.2.2.2.2.2.2.2.2.2.2.2.2.2.2.2.1 t.2.2.2.2.2.2.2.2.2.2.2.2.2.2.2.2.2.1 t.2.2.2.2.2.2.2.2.2.2.2.2.2.2.2.2.2.2.1 t.2.2.2.2.2.2.2.2.2.2.2.2.2.2.2.2.2.2.2
@[irreducible] noncomputable def w : World := cutT.1
@[irreducible] noncomputable def mean : ExcName → Option Value := cutT.2.1
@[irreducible] noncomputable def mg : Str → Option Value := cutT.2.2.1
@[irreducible] noncomputable def mb : Str → Option Value := cutT.2.2.2.1
@[irreducible] noncomputable def lm : Addr := cutT.2.2.2.2.1
@[irreducible] noncomputable def vs : List Value := cutT.2.2.2.2.2.1
@[irreducible] noncomputable def ns : List Int := cutT.2.2.2.2.2.2.1
@[irreducible] noncomputable def sign : Str := cutT.2.2.2.2.2.2.2.1
@[irreducible] noncomputable def ts : Tok := cutT.2.2.2.2.2.2.2.2.1
@[irreducible] noncomputable def dp : Nat := cutT.2.2.2.2.2.2.2.2.2.1
@[irreducible] noncomputable def un : Nat := cutT.2.2.2.2.2.2.2.2.2.2.1
@[irreducible] noncomputable def gd : Option (List Code) := cutT.2.2.2.2.2.2.2.2.2.2.2.1
@[irreducible] noncomputable def outers : List Env := cutT.2.2.2.2.2.2.2.2.2.2.2.2.1
@[irreducible] noncomputable def base : Heap := cutT.2.2.2.2.2.2.2.2.2.2.2.2.2.1
@[irreducible] noncomputable def s : Shared := cutT.2.2.2.2.2.2.2.2.2.2.2.2.2.2.1
@[irreducible] noncomputable def Q : Value → Shared → Prop := cutT.2.2.2.2.2.2.2.2.2.2.2.2.2.2.2.1
@[irreducible] noncomputable def E : Value → Shared → Prop := cutT.2.2.2.2.2.2.2.2.2.2.2.2.2.2.2.2.1
@[irreducible] noncomputable def g : Heap := cutT.2.2.2.2.2.2.2.2.2.2.2.2.2.2.2.2.2.1
@[irreducible] noncomputable def L' : Addr := cutT.2.2.2.2.2.2.2.2.2.2.2.2.2.2.2.2.2.2.1
@[irreducible] noncomputable def h₁ : Heap := cutT.2.2.2.2.2.2.2.2.2.2.2.2.2.2.2.2.2.2.2
theorem cutP1 : cutQ1.1 w mean mg mb lm vs ns sign ts dp un gd outers base s Q E g L' h₁ := by
  delta cutQ1
  dsimp only
  intro hI hl hs hdp hun hret hg F' N' B' X' T' hl'
  (((try k_fold); ((repeat' (first | (k_unfold; (try dsimp only)) | ((fail_if_success (with_reducible show wpAny _ _ (exec (Stmt.While _ _ _ _) _) _ _ _)); (fail_if_success (with_reducible show wpAny _ _ (exec (Stmt.For _ _ _ _ _) _) _ _ _)); (fail_if_success (with_reducible show wpAny _ _ (pyIter _) _ _ _)); (fail_if_success (with_reducible show wpAny _ _ (eval (Expr.ListComp _ _ _ _) _) _ _ _)); (fail_if_success (with_reducible show wpAny _ _ (exec (Stmt.Assign _ (Expr.ListComp _ _ _ _) _) _) _ _ _)); ((first | walk1 | (dsimp only; walk1)); (try dsimp only))))))))
  refine For_invV g rfl rfl ?_
  (((try k_fold); ((repeat' (first | (k_unfold; (try dsimp only)) | ((fail_if_success (with_reducible show wpAny _ _ (exec (Stmt.While _ _ _ _) _) _ _ _)); (fail_if_success (with_reducible show wpAny _ _ (exec (Stmt.For _ _ _ _ _) _) _ _ _)); (fail_if_success (with_reducible show wpAny _ _ (pyIter _) _ _ _)); (fail_if_success (with_reducible show wpAny _ _ (eval (Expr.ListComp _ _ _ _) _) _ _ _)); (fail_if_success (with_reducible show wpAny _ _ (exec (Stmt.Assign _ (Expr.ListComp _ _ _ _) _) _) _ _ _)); ((first | walk1 | (dsimp only; walk1)); (try dsimp only))))))))
  (((with_reducible rename Fr _ _ _ _ => F0); (with_reducible rename News _ _ _ _ => N0)))
  rename IsRange _ _ _ _ _ _ _ _ => R0
  refine' range_cut (σ := Str × Tok) (n := 4) (fun _ => []) (fun c => [(Str.ofString "marks", .ref lm), (Str.ofString "sign", .str sign ts), (Str.ofString "text", .str c.1 c.2)]) (fun i c => c.1 = wrS ns sign i) (fun c => c.1 = wrS ns sign 4) (_, _) rfl R0 rfl rfl F0 N0 ?kl ?kk ?kp ?kt ?kx ?kd
  case kl => kst_in
  case kk => kst_all
  case kp => rfl
  case kx => intro c h; exact h
  case kd =>
    rintro ⟨x, t⟩ u h tk hc F' N'
    clear F0 N0 R0
    dsimp only at hc N'; dsimp only [kstB] at F'
    subst hc
    (try k_fold)
    (((try k_fold); ((repeat' (first | (k_unfold; (try dsimp only)) | ((fail_if_success (with_reducible show wpAny _ _ (exec (Stmt.While _ _ _ _) _) _ _ _)); (fail_if_success (with_reducible show wpAny _ _ (exec (Stmt.For _ _ _ _ _) _) _ _ _)); (fail_if_success (with_reducible show wpAny _ _ (pyIter _) _ _ _)); (fail_if_success (with_reducible show wpAny _ _ (eval (Expr.ListComp _ _ _ _) _) _ _ _)); (fail_if_success (with_reducible show wpAny _ _ (exec (Stmt.Assign _ (Expr.ListComp _ _ _ _) _) _) _ _ _)); ((first | walk1 | (dsimp only; walk1)); (try dsimp only))))))))
    (((try k_unfold); (try dsimp only); refine hret _ _ _ (ret_keep hg (by k_asm)) ?_))
    exact ⟨_, rfl⟩
  case kt =>
    rintro i ti ⟨x, t⟩ u h tk I oI hi hc hne F' N'
    clear F0 N0 R0
    dsimp only at hc hne N'; dsimp only [kstB] at F'
    have hx : x.length ≤ 17 := by rw [hc]; exact Nat.le_trans (wrS_len ns sign hs i (by omega)) (by omega)
    (try k_fold)
    (((try k_fold); ((repeat' (first | (k_unfold; (try dsimp only)) | ((fail_if_success (with_reducible show wpAny _ _ (exec (Stmt.While _ _ _ _) _) _ _ _)); (fail_if_success (with_reducible show wpAny _ _ (exec (Stmt.For _ _ _ _ _) _) _ _ _)); (fail_if_success (with_reducible show wpAny _ _ (pyIter _) _ _ _)); (fail_if_success (with_reducible show wpAny _ _ (eval (Expr.ListComp _ _ _ _) _) _ _ _)); (fail_if_success (with_reducible show wpAny _ _ (exec (Stmt.Assign _ (Expr.ListComp _ _ _ _) _) _) _ _ _)); ((first | walk1 | (dsimp only; walk1)); (try dsimp only))))))))
    all_goals (((try dsimp only [WTurn, FTurn]); refine Out.mk' (_, _) (by k_asm) (by k_asm) (by kst_in) (by kst_all) ?_))
    · refine ⟨?_, fun p hp => by cases hp⟩
      rename (ns.any _) = true => ha
      subst hc
      exact (wrS_t ha).symm
    · refine ⟨?_, fun p hp => by cases hp⟩
      rename (ns.any _) = false => ha
      subst hc
      exact (wrS_f ha).symm
theorem cutR1 : ∀ (w : World) (mean : ExcName → Option Value) (mg : Str → Option Value) (mb : Str → Option Value) (lm : Addr) (vs : List Value) (ns : List Int) (sign : Str) (ts : Tok) (dp : Nat) (un : Nat) (gd : Option (List Code)) (outers : List Env) (base : Heap) (s : Shared) (Q : Value → Shared → Prop) (E : Value → Shared → Prop) (g : Heap) (L' : Addr) (h₁ : Heap), cutQ1.1 w mean mg mb lm vs ns sign ts dp un gd outers base s Q E g L' h₁ := by
  intro w mean mg mb lm vs ns sign ts dp un gd outers base s Q E g L' h₁
  with_unfolding_all exact of_gen (P := fun t : World × (ExcName → Option Value) × (Str → Option Value) × (Str → Option Value) × Addr × (List Value) × (List Int) × Str × Tok × Nat × Nat × (Option (List Code)) × (List Env) × Heap × Shared × (Value → Shared → Prop) × (Value → Shared → Prop) × Heap × Addr × Heap => cutQ1.1 t.1 t.2.1 t.2.2.1 t.2.2.2.1 t.2.2.2.2.1 t.2.2.2.2.2.1 t.2.2.2.2.2.2.1 t.2.2.2.2.2.2.2.1 t.2.2.2.2.2.2.2.2.1 t.2.2.2.2.2.2.2.2.2.1 t.2.2.2.2.2.2.2.2.2.2.1 t.2.2.2.2.2.2.2.2.2.2.2.1 t.2.2.2.2.2.2.2.2.2.2.2.2.1 t.2.2.2.2.2.2.2.2.2.2.2.2.2.1 t.2.2.2.2.2.2.2.2.2.2.2.2.2.2.1 t.2.2.2.2.2.2.2.2.2.2.2.2.2.2.2.1 t.2.2.2.2.2.2.2.2.2.2.2.2.2.2.2.2.1 t.2.2.2.2.2.2.2.2.2.2.2.2.2.2.2.2.2.1 t.2.2.2.2.2.2.2.2.2.2.2.2.2.2.2.2.2.2.1 t.2.2.2.2.2.2.2.2.2.2.2.2.2.2.2.2.2.2.2) cutP1 (w, mean, mg, mb, lm, vs, ns, sign, ts, dp, un, gd, outers, base, s, Q, E, g, L', h₁)
end C
end written_tells
theorem written_tells (w : World) (mean : ExcName → Option Value) (mg mb : Str → Option Value) (lm : Addr) (vs : List Value) (ns : List Int) (sign : Str) (ts : Tok) (hI : IntsAre vs ns) (hl : ns.length ≤ 100) (hs : sign.length ≤ 3) :
   Tells Challenge.rw_re0065_01.row.prog w (hd1.heap_39 w.params) hd1.view_39 (looseW hd1.view_39 []) mean mg mb 2 75 [.ref lm, .str sign ts] (fun h => h.IsList lm vs.toArray) (fun v h h' => ∃ t, v = .str (wrS ns sign 4) t) :=
  written_tells.cutQ1.2 written_tells.C.cutR1 w mean mg mb lm vs ns sign ts hI hl hs
end Mine
end
local macro_rules | `(tactic| walk_at "call builtin:list.append") => `(tactic| (k_here; k_dflt (refine' append_upd ?zF ?zN ?zU ?zf ?_; (case zF => k_asm); (case zN => k_asm); (case zU => k_updF); (case zf => (rw [sizeLine_eq]; omega)); k_whole); intro h' e' F' N'; (try dsimp only at N')))
local macro_rules | `(tactic| walk_at "compareOp NotIn int ref") => `(tactic| (k_here; k_dflt (refine' notin_list_ints (News.isList ?zN ?zm) ?zi ?_; (case zN => k_asm); (case zm => k_mem); (case zi => assumption))))
local macro_rules | `(tactic| walk_at "compareOp In int ref") => `(tactic| (k_here; k_dflt (refine' in_list_ints (News.isList ?zN ?zm) ?zi ?_; (case zN => k_asm); (case zm => k_mem); (case zi => assumption))))
local macro_rules | `(tactic| walk_at "subscriptTail Name Name ref int") => `(tactic| (k_here; k_dflt (refine' item_val ?zN ?zm ?za ?zb ?zx ?_ ?zs; (case zN => k_asm); (case zm => k_mem); (case zx => with_reducible assumption); (case za => omega); (case zb => omega); (case zs => with_unfolding_all rfl))))
section
local macro_rules | `(tactic| omega) => `(tactic| lia)
set_option maxHeartbeats 8000000
set_option rowWalk.seconds 0
namespace Mine
noncomputable def insP (letter text : Str) (p : Nat) : Str := Txt.slice text none (some (0 + (p : Int))) ++ letter ++ Txt.slice text (some (0 + (p : Int))) none
noncomputable def addNew (grown : List Str) (x : Str) : List Str := if (grown.any fun y => y == x) = true then grown else grown ++ [x]
theorem addNew_t {g : List Str} {x : Str} (h : (g.any fun y => y == x) = true) : addNew g x = g := if_pos h
theorem addNew_f {g : List Str} {x : Str} (h : (g.any fun y => y == x) = false) : addNew g x = g ++ [x] := if_neg (by rw [h]; decide)
noncomputable def growT (letter : Str) (grown : List Str) (text : Str) : List Str := ((List.range (text.length + 1)).map (insP letter text)).foldl addNew grown
noncomputable def growF (letter : Str) (texts : List Str) : List Str := texts.foldl (growT letter) []
noncomputable def textsF (lets : List Str) : List Str := lets.foldl (fun ts l => growF l ts) [Str.ofString ""]
local macro_rules | `(tactic| walk_at "compareOp NotIn str ref") => `(tactic| (k_here; k_dflt (refine' notin_list_strs (News.isList ?zN ?zm) ?zi ?_; (case zN => k_asm); (case zm => k_mem); (case zi => assumption))))
theorem textsF_succ {ns : List Str} {i : Nat} (h : i < ns.length) : textsF (ns.take (i + 1)) = growF (ns.getD i (Str.ofString "")) (textsF (ns.take i)) := by
  unfold textsF
  rw [List.take_add_one, List.foldl_append]
  simp [h]
theorem foldAdd_len : ∀ (xs g : List Str), (xs.foldl addNew g).length ≤ g.length + xs.length
  | [], g => Nat.le_refl _
  | x :: xs, g => by
    have h1 := foldAdd_len xs (addNew g x)
    have h2 : (addNew g x).length ≤ g.length + 1 := by
      unfold addNew; split
      · exact Nat.le_succ _
      · rw [List.length_append]; exact Nat.le_refl _
    rw [List.foldl_cons, List.length_cons]; omega
theorem foldAdd_mem : ∀ (xs g : List Str) y, y ∈ xs.foldl addNew g → y ∈ g ∨ y ∈ xs
  | [], g, y, h => .inl h
  | x :: xs, g, y, h => by
    rcases foldAdd_mem xs (addNew g x) y h with h | h
    · unfold addNew at h; split at h
      · exact .inl h
      · rcases List.mem_append.mp h with h | h
        · exact .inl h
        · exact .inr (by rw [List.mem_singleton.mp h]; exact .head _)
    · exact .inr (.tail _ h)
theorem insP_len {letter text : Str} {p : Nat} (hp : p ≤ text.length) : (insP letter text p).length = text.length + letter.length := by
  have h1 := tl_slice_to hp
  have h2 := tl_slice_from (x := text) (i := (p : Int)) (by omega) (by omega)
  unfold insP
  rw [Int.zero_add, Str.length_append, Str.length_append, ← tl_length (Txt.slice text none _), ← tl_length (Txt.slice text (some _) none), h1, h2, List.length_take, List.length_drop]
  have h3 := tl_length text
  rw [h3]
  omega
theorem growT_len (letter : Str) (g : List Str) (t : Str) : (growT letter g t).length ≤ g.length + (t.length + 1) := by
  unfold growT
  have := foldAdd_len ((List.range (t.length + 1)).map (insP letter t)) g
  rw [List.length_map, List.length_range] at this
  exact this
theorem growFold_len (letter : Str) : ∀ (ts g : List Str), (∀ t ∈ ts, t.length ≤ 5) → (ts.foldl (growT letter) g).length ≤ g.length + 6 * ts.length
  | [], g, _ => Nat.le_refl _
  | t :: ts, g, h => by
    have h1 := growFold_len letter ts (growT letter g t) fun x hx => h x (.tail _ hx)
    have h2 := growT_len letter g t
    have h3 := h t (.head _)
    rw [List.foldl_cons, List.length_cons]; omega
theorem growFold_mem {letter : Str} (hl : letter.length = 1) {n : Nat} : ∀ (ts g : List Str), (∀ t ∈ ts, t.length = n) → (∀ t ∈ g, t.length = n + 1) → ∀ t ∈ ts.foldl (growT letter) g, t.length = n + 1
  | [], g, _, hg => hg
  | t :: ts, g, h, hg => by
    refine growFold_mem hl ts (growT letter g t) (fun x hx => h x (.tail _ hx)) fun y hy => ?_
    unfold growT at hy
    rcases foldAdd_mem _ _ _ hy with hy | hy
    · exact hg y hy
    · obtain ⟨p, hp, rfl⟩ := List.mem_map.mp hy
      have hp := List.mem_range.mp hp
      rw [insP_len (by omega), h t (.head _), hl]
theorem texts_len {ns : List Str} (hl : ns.length ≤ 5) (hs : ∀ x ∈ ns, x.length = 1) : ∀ i, i ≤ ns.length → (∀ t ∈ textsF (ns.take i), t.length = i) ∧ (textsF (ns.take i)).length ≤ 6 ^ i
  | 0, _ => by
    refine ⟨fun t ht => ?_, ?_⟩
    · rw [List.take_zero] at ht
      rw [List.mem_singleton.mp ht]
      decide +kernel
    · rw [List.take_zero]; exact Nat.le_refl _
  | i + 1, hi => by
    obtain ⟨h1, h2⟩ := texts_len hl hs i (by omega)
    have hlt : i < ns.length := hi
    rw [textsF_succ hlt]
    have hm : ns.getD i (Str.ofString "") ∈ ns := by
      rw [List.getD_eq_getElem?_getD, List.getElem?_eq_getElem hlt]
      exact List.getElem_mem hlt
    refine ⟨growFold_mem (hs _ hm) _ [] h1 (fun t ht => nomatch ht), ?_⟩
    have h3 := growFold_len (ns.getD i (Str.ofString "")) (textsF (ns.take i)) [] fun t ht => by rw [h1 t ht]; omega
    unfold growF
    rw [List.length_nil] at h3
    rw [Nat.pow_succ]; omega
theorem strs_get {vs : List Value} {ns : List Str} (h : StrsAre vs ns) : ∀ {i : Nat} {v : Value}, vs[i]? = some v → ∃ t, v = .str (ns.getD i (Str.ofString "")) t := by
  induction h with
  | nil => intro i v hv; simp at hv
  | cons y t h ih =>
    intro i v hv
    cases i with
    | zero => simp at hv; exact ⟨t, hv.symm⟩
    | succ i => simpa using ih (by simpa using hv)
namespace texts_tells
noncomputable def cutQ1 : { qq : (World → (ExcName → Option Value) → (Str → Option Value) → (Str → Option Value) → Addr → (List Value) → (List Str) → Nat → Nat → (Option (List Code)) → (List Env) → Heap → Shared → (Value → Shared → Prop) → (Value → Shared → Prop) → Heap → Addr → Heap → Prop) // (∀ (w : World) (mean : ExcName → Option Value) (mg : Str → Option Value) (mb : Str → Option Value) (ll : Addr) (vs : List Value) (ns : List Str) (dp : Nat) (un : Nat) (gd : Option (List Code)) (outers : List Env) (base : Heap) (s : Shared) (Q : Value → Shared → Prop) (E : Value → Shared → Prop) (g : Heap) (L' : Addr) (h₁ : Heap), qq w mean mg mb ll vs ns dp un gd outers base s Q E g L' h₁) → ∀ (w : World) (mean : ExcName → Option Value) (mg mb : Str → Option Value) (ll : Addr) (vs : List Value) (ns : List Str) (hI : StrsAre vs ns) (hl : ns.length ≤ 5) (hs : ∀ x ∈ ns, x.length = 1),
   Tells Challenge.rw_re0065_01.row.prog w (hd1.heap_39 w.params) hd1.view_39 (looseW hd1.view_39 []) mean mg mb 2 82 [.ref ll] (fun h => h.IsList ll vs.toArray) (fun v h h' => ∃ l ws e, v = .ref l ∧ h'.get? l = some (W.listOf ws.toArray e) ∧ h.get? l = none ∧ StrsAre ws (textsF ns)) } := by
  refine ⟨?qq0, fun hP0 => ?b⟩
  case b =>
    intro w mean mg mb ll vs ns hI hl hs
    ((k_fill; intro dp un gd outers base s Q E B X T hdp hun hpre hret; ((refine wpAny_call ?_; k_dflt (refine' enter ?k1 ?k2 ?k3 ?k6 ?k7 ?k8 ?k9 ?kB ?_ ?c2 ?c3 ?c4 ?c5; (case k1 => k_asm); (case k2 => k_asm); (case k3 => k_asm); (case k6 => k_is); (case k7 => k_is); (case k8 => ktr_room); (case k9 => exact BindsTo.of_eq rfl); (case c5 => decide); (case kB => exact locs rfl); (case c2 => exact rfl); (case c3 => exact rfl); (case c4 => exact rfl); k_whole))); intro g L' h₁ hg F' N' B' X' T'; (try dsimp only); (try k_lift B')))
    have hl' : g.IsList ll vs.toArray := by rw [hg]; exact hpre
    (try dsimp +zetaDelta only)
    revert hl'
    revert T'
    revert X'
    revert B'
    revert N'
    revert F'
    revert hg
    revert hret
    revert hun
    revert hdp
    revert hs
    revert hl
    revert hI
    exact @hP0 w mean mg mb ll vs ns dp un gd outers base s Q E g L' h₁
namespace C
@[irreducible] noncomputable def cutT : World × (ExcName → Option Value) × (Str → Option Value) × (Str → Option Value) × Addr × (List Value) × (List Str) × Nat × Nat × (Option (List Code)) × (List Env) × Heap × Shared × (Value → Shared → Prop) × (Value → Shared → Prop) × Heap × Addr × Heap := gen ⟨(Classical.choice world_ne, fun _ => none, fun _ => none, fun _ => none, 0, [], [], 0, 0, none, [], default, {}, fun _ _ => True, fun _ _ => True, default, 0, default)⟩ fun t => cutQ1.1 t.1 t.2.1 t.2.2.1 t.2.2.2.1 t.2.2.2.2.1 t.2.2.2.2.2.1 t.2.2.2.2.2.2.1 t.2.2.2.2.2.2.2.1 t.2.2.2.2.2.2.2.2.1 t.2.2.2.2.2.2.2.2.2.1 t.2.2.2.2.2.2.2.2.2.2.1 t.2.2.2.2.2.2.2.2.2.2.2.1 t.2.2.2.2.2.2.2.2.2.2.2.2.1 t.2.2.2.2.2.2.2.2.2.2.2.2.2.1 t.2.2.2.2.2.2.2.2.2.2.2.2.2.2.1 t.2.2.2.2.2.2.2.2.2.2.2.2.2.2.2.1 t.2.2.2.2.2.2.2.2.2.2.2.2.2.2.2.2.1 t.2.2.2.2.2.2.2.2.2.2.2.2.2.2.2.2.2
@[irreducible] noncomputable def w : World := cutT.1
@[irreducible] noncomputable def mean : ExcName → Option Value := cutT.2.1
@[irreducible] noncomputable def mg : Str → Option Value := cutT.2.2.1
@[irreducible] noncomputable def mb : Str → Option Value := cutT.2.2.2.1
@[irreducible] noncomputable def ll : Addr := cutT.2.2.2.2.1
@[irreducible] noncomputable def vs : List Value := cutT.2.2.2.2.2.1
@[irreducible] noncomputable def ns : List Str := cutT.2.2.2.2.2.2.1
@[irreducible] noncomputable def dp : Nat := cutT.2.2.2.2.2.2.2.1
@[irreducible] noncomputable def un : Nat := cutT.2.2.2.2.2.2.2.2.1
@[irreducible] noncomputable def gd : Option (List Code) := cutT.2.2.2.2.2.2.2.2.2.1
@[irreducible] noncomputable def outers : List Env := cutT.2.2.2.2.2.2.2.2.2.2.1
@[irreducible] noncomputable def base : Heap := cutT.2.2.2.2.2.2.2.2.2.2.2.1
@[irreducible] noncomputable def s : Shared := cutT.2.2.2.2.2.2.2.2.2.2.2.2.1
@[irreducible] noncomputable def Q : Value → Shared → Prop := cutT.2.2.2.2.2.2.2.2.2.2.2.2.2.1
@[irreducible] noncomputable def E : Value → Shared → Prop := cutT.2.2.2.2.2.2.2.2.2.2.2.2.2.2.1
@[irreducible] noncomputable def g : Heap := cutT.2.2.2.2.2.2.2.2.2.2.2.2.2.2.2.1
@[irreducible] noncomputable def L' : Addr := cutT.2.2.2.2.2.2.2.2.2.2.2.2.2.2.2.2.1
@[irreducible] noncomputable def h₁ : Heap := cutT.2.2.2.2.2.2.2.2.2.2.2.2.2.2.2.2.2
noncomputable def cutQ2 : { qq : (Heap → Nat → Nat → Addr → (List Value) → Nat → (Str → Option Value) → Heap → Nat → Addr → Obj → Tok → Prop) // (∀ (hX : Heap) (tkX : Nat) (i : Nat) (lt : Addr) (ws : List Value) (e : Nat) (u : Str → Option Value) (h : Heap) (tk : Nat) (I : Addr) (oI : Obj) (t : Tok), qq hX tkX i lt ws e u h tk I oI t) → cutQ1.1 w mean mg mb ll vs ns dp un gd outers base s Q E g L' h₁ } := by
  refine ⟨?qq0, fun hP0 => ?b⟩
  case b =>
    delta cutQ1
    dsimp only
    intro hI hl hs hdp hun hret hg F' N' B' X' T' hl'
    (((try k_fold); ((repeat' (first | (k_unfold; (try dsimp only)) | ((fail_if_success (with_reducible show wpAny _ _ (exec (Stmt.While _ _ _ _) _) _ _ _)); (fail_if_success (with_reducible show wpAny _ _ (exec (Stmt.For _ _ _ _ _) _) _ _ _)); (fail_if_success (with_reducible show wpAny _ _ (pyIter _) _ _ _)); (fail_if_success (with_reducible show wpAny _ _ (eval (Expr.ListComp _ _ _ _) _) _ _ _)); (fail_if_success (with_reducible show wpAny _ _ (exec (Stmt.Assign _ (Expr.ListComp _ _ _ _) _) _) _ _ _)); ((first | walk1 | (dsimp only; walk1)); (try dsimp only))))))))
    refine For_invV g rfl rfl ?_
    (((try k_fold); ((repeat' (first | (k_unfold; (try dsimp only)) | ((fail_if_success (with_reducible show wpAny _ _ (exec (Stmt.While _ _ _ _) _) _ _ _)); (fail_if_success (with_reducible show wpAny _ _ (exec (Stmt.For _ _ _ _ _) _) _ _ _)); (fail_if_success (with_reducible show wpAny _ _ (pyIter _) _ _ _)); (fail_if_success (with_reducible show wpAny _ _ (eval (Expr.ListComp _ _ _ _) _) _ _ _)); (fail_if_success (with_reducible show wpAny _ _ (exec (Stmt.Assign _ (Expr.ListComp _ _ _ _) _) _) _ _ _)); ((first | walk1 | (dsimp only; walk1)); (try dsimp only))))))))
    (((with_reducible rename Fr _ _ _ _ => F0); (with_reducible rename News _ _ _ _ => N0)))
    have hgl : ∃ o, g.get? ll = some o := let ⟨o, ho, _⟩ := hl'; ⟨o, ho⟩
    refine' list_cut (σ := Nat × List Value × Nat) (fun c => [(c.1, W.listOf c.2.1.toArray c.2.2)]) (fun c => [(Str.ofString "texts", .ref c.1)]) (fun i c => StrsAre c.2.1 (textsF (ns.take i))) (fun c => StrsAre c.2.1 (textsF ns)) (_, _, _) rfl (hl'.at fun o e => F0.keep _ _ e) (.inl hgl) F0 N0 ?kl ?kk ?kp ?kt ?kx ?kd
    case kl => kst_in
    case kk => kst_all
    case kp => exact .cons _ _ .nil
    case kx =>
      rintro c h
      rw [hI.length, List.take_length] at h
      exact h
    case kd =>
      rintro ⟨lt, ws, e⟩ u h tk hc F' N'
      clear F0 N0
      dsimp only at hc N'; dsimp only [kstB] at F'
      (try k_fold)
      (((try k_fold); ((repeat' (first | (k_unfold; (try dsimp only)) | ((fail_if_success (with_reducible show wpAny _ _ (exec (Stmt.While _ _ _ _) _) _ _ _)); (fail_if_success (with_reducible show wpAny _ _ (exec (Stmt.For _ _ _ _ _) _) _ _ _)); (fail_if_success (with_reducible show wpAny _ _ (pyIter _) _ _ _)); (fail_if_success (with_reducible show wpAny _ _ (eval (Expr.ListComp _ _ _ _) _) _ _ _)); (fail_if_success (with_reducible show wpAny _ _ (exec (Stmt.Assign _ (Expr.ListComp _ _ _ _) _) _) _ _ _)); ((first | walk1 | (dsimp only; walk1)); (try dsimp only))))))))
      (((with_reducible rename Fr _ _ _ _ => F0); (with_reducible rename News _ _ _ _ => N0)))
      have hnw9 := new_of hg N0 (D := lt) (by k_mem)
      exact hret _ _ _ (ret_keep hg F0) ⟨lt, _, _, rfl, hnw9.1, hnw9.2, hc⟩
    case kt =>
      rintro i v ⟨lt, ws, e⟩ u h tk I oI hv hP hne F' N'
      clear F0 N0
      dsimp only at hP hne N'; dsimp only [kstB] at F'
      obtain ⟨t, hv'⟩ := strs_get hI hv
      subst hv'
      rename_i hX tkX
      (try dsimp +zetaDelta only)
      revert hv
      revert hne
      revert hP
      revert hgl
      revert hl'
      revert T'
      revert X'
      revert B'
      revert N'
      revert F'
      revert hg
      revert hret
      revert hun
      revert hdp
      revert hs
      revert hl
      revert hI
      exact @hP0 hX tkX i lt ws e u h tk I oI t
namespace C
@[irreducible] noncomputable def cutT : Heap × Nat × Nat × Addr × (List Value) × Nat × (Str → Option Value) × Heap × Nat × Addr × Obj × Tok := gen ⟨(default, 0, 0, 0, [], 0, fun _ => none, default, 0, 0, default, 0)⟩ fun t => cutQ2.1 t.1 t.2.1 t.2.2.1 t.2.2.2.1 t.2.2.2.2.1 t.2.2.2.2.2.1 t.2.2.2.2.2.2.1 t.2.2.2.2.2.2.2.1 t.2.2.2.2.2.2.2.2.1 t.2.2.2.2.2.2.2.2.2.1 t.2.2.2.2.2.2.2.2.2.2.1 t.2.2.2.2.2.2.2.2.2.2.2
@[irreducible] noncomputable def hX : Heap := cutT.1
@[irreducible] noncomputable def tkX : Nat := cutT.2.1
@[irreducible] noncomputable def i : Nat := cutT.2.2.1
@[irreducible] noncomputable def lt : Addr := cutT.2.2.2.1
@[irreducible] noncomputable def ws : List Value := cutT.2.2.2.2.1
@[irreducible] noncomputable def e : Nat := cutT.2.2.2.2.2.1
@[irreducible] noncomputable def u : Str → Option Value := cutT.2.2.2.2.2.2.1
@[irreducible] noncomputable def h : Heap := cutT.2.2.2.2.2.2.2.1
@[irreducible] noncomputable def tk : Nat := cutT.2.2.2.2.2.2.2.2.1
@[irreducible] noncomputable def I : Addr := cutT.2.2.2.2.2.2.2.2.2.1
@[irreducible] noncomputable def oI : Obj := cutT.2.2.2.2.2.2.2.2.2.2.1
@[irreducible] noncomputable def t : Tok := cutT.2.2.2.2.2.2.2.2.2.2.2
noncomputable def cutQ3 : { qq : (Heap → Nat → Addr → (List Str) → Str → Nat → (List Value) → Nat → (Str → Option Value) → Heap → Nat → Addr → Obj → Tok → Str → (List Str) → Prop) // (∀ (hY : Heap) (tk : Nat) (lg : Addr) (T : List Str) (x : Str) (j : Nat) (gv : List Value) (ge : Nat) (u1 : Str → Option Value) (h1 : Heap) (tk1 : Nat) (J : Addr) (oJ : Obj) (tt : Tok) (y : Str) (G : List Str), qq hY tk lg T x j gv ge u1 h1 tk1 J oJ tt y G) → cutQ2.1 hX tkX i lt ws e u h tk I oI t } := by
  refine ⟨?qq0, fun hP0 => ?b⟩
  case b =>
    delta cutQ2
    dsimp only
    intro hI hl hs hdp hun hret hg F' N' B' X' T' hl' hgl hP hne hv
    (try k_fold)
    (((try k_fold); ((repeat' (first | (k_unfold; (try dsimp only)) | ((fail_if_success (with_reducible show wpAny _ _ (exec (Stmt.While _ _ _ _) _) _ _ _)); (fail_if_success (with_reducible show wpAny _ _ (exec (Stmt.For _ _ _ _ _) _) _ _ _)); (fail_if_success (with_reducible show wpAny _ _ (pyIter _) _ _ _)); (fail_if_success (with_reducible show wpAny _ _ (eval (Expr.ListComp _ _ _ _) _) _ _ _)); (fail_if_success (with_reducible show wpAny _ _ (exec (Stmt.Assign _ (Expr.ListComp _ _ _ _) _) _) _ _ _)); ((first | walk1 | (dsimp only; walk1)); (try dsimp only))))))))
    refine For_invV g rfl rfl ?_
    (((try k_fold); ((repeat' (first | (k_unfold; (try dsimp only)) | ((fail_if_success (with_reducible show wpAny _ _ (exec (Stmt.While _ _ _ _) _) _ _ _)); (fail_if_success (with_reducible show wpAny _ _ (exec (Stmt.For _ _ _ _ _) _) _ _ _)); (fail_if_success (with_reducible show wpAny _ _ (pyIter _) _ _ _)); (fail_if_success (with_reducible show wpAny _ _ (eval (Expr.ListComp _ _ _ _) _) _ _ _)); (fail_if_success (with_reducible show wpAny _ _ (exec (Stmt.Assign _ (Expr.ListComp _ _ _ _) _) _) _ _ _)); ((first | walk1 | (dsimp only; walk1)); (try dsimp only))))))))
    (((with_reducible rename Fr _ _ _ _ => F0); (with_reducible rename News _ _ _ _ => N0)))
    obtain ⟨lg, hlg⟩ := name_led N0
    subst hlg
    have hi5 : i < ns.length := by have := (List.getElem?_eq_some_iff.mp hv).1; rw [hI.length] at this; exact this
    obtain ⟨hT1, hT2⟩ := texts_len hl hs i (by omega)
    have hle : (ns.getD i (Str.ofString "")).length = 1 := hs _ (by rw [List.getD_eq_getElem?_getD, List.getElem?_eq_getElem hi5]; exact List.getElem_mem hi5)
    have hT3 : 6 ^ i ≤ 6 ^ 5 := Nat.pow_le_pow_right (by decide) (by omega)
    have hsucc := textsF_succ hi5
    generalize textsF (ns.take i) = T at *
    generalize ns.getD i (Str.ofString "") = x at *
    refine' list_cut (σ := List Value × Nat) (fun c => [(lg, W.listOf c.1.toArray c.2), (I, oI), (lt, W.listOf ws.toArray e)]) (fun c => [(Str.ofString "letter", .str x t), (Str.ofString "texts", .ref lt), (Str.ofString "grown", .ref lg)]) (fun j c => StrsAre c.1 ((T.take j).foldl (growT x) [])) (fun c => StrsAre c.1 (growF x T)) ([], 0) rfl (isList_of N0 (by k_mem)) (.inr ⟨_, fun c => by k_mem⟩) F0 N0 ?kl1 ?kk1 ?kp1 ?kt1 ?kx1 ?kd1
    case kl1 => kst_in
    case kk1 => kst_all
    case kp1 => exact .nil
    case kx1 =>
      intro c h
      rw [hP.length, List.take_length] at h
      exact h
    case kd1 =>
      rintro ⟨gv, ge⟩ u1 h1 tk1 hc F1 N1
      clear F0 N0
      dsimp only at hc N1; dsimp only [kstB] at F1
      (try k_fold)
      (((try k_fold); ((repeat' (first | (k_unfold; (try dsimp only)) | ((fail_if_success (with_reducible show wpAny _ _ (exec (Stmt.While _ _ _ _) _) _ _ _)); (fail_if_success (with_reducible show wpAny _ _ (exec (Stmt.For _ _ _ _ _) _) _ _ _)); (fail_if_success (with_reducible show wpAny _ _ (pyIter _) _ _ _)); (fail_if_success (with_reducible show wpAny _ _ (eval (Expr.ListComp _ _ _ _) _) _ _ _)); (fail_if_success (with_reducible show wpAny _ _ (exec (Stmt.Assign _ (Expr.ListComp _ _ _ _) _) _) _ _ _)); ((first | walk1 | (dsimp only; walk1)); (try dsimp only))))))))
      (((with_reducible rename Fr _ _ _ _ => F0); (with_reducible rename News _ _ _ _ => N0)))
      dsimp only [FTurn]
      refine Out.mk' (lg, _, _) F0 N0 (by kst_in) (by kst_all) ⟨by rw [hsucc]; exact hc, ?_⟩
      exact all_cons (by k_ne) all_nil
    case kt1 =>
      rintro j v ⟨gv, ge⟩ u1 h1 tk1 J oJ hv1 hP1 hne1 F1 N1
      clear F0 N0
      dsimp only at hP1 hne1 N1; dsimp only [kstB] at F1
      have hj : j < T.length := by have := (List.getElem?_eq_some_iff.mp hv1).1; rw [hP.length] at this; exact this
      obtain ⟨tt, hv1'⟩ := strs_get hP hv1
      subst hv1'
      have hy := hT1 _ (show T.getD j (Str.ofString "") ∈ T by rw [List.getD_eq_getElem?_getD, List.getElem?_eq_getElem hj]; exact List.getElem_mem hj)
      have hsj : (T.take (j + 1)).foldl (growT x) [] = growT x ((T.take j).foldl (growT x) []) (T.getD j (Str.ofString "")) := by
        rw [List.take_add_one, List.foldl_append]
        simp [hj]
      have hGl := growFold_len x (T.take j) [] fun a ha => by rw [hT1 a (List.mem_of_mem_take ha)]; omega
      have hGl2 : (T.take j).length ≤ T.length := by rw [List.length_take]; exact Nat.min_le_right _ _
      generalize T.getD j (Str.ofString "") = y at *
      generalize (T.take j).foldl (growT x) [] = G at *
      rename_i hY _ hl1 _
      (try dsimp +zetaDelta only)
      revert hle
      revert hi5
      revert hT3
      revert hT2
      revert hGl2
      revert hGl
      revert hsj
      revert hy
      revert hj
      revert hne1
      revert hP1
      revert N1
      revert F1
      revert hl1
      revert hne
      revert hP
      revert hgl
      revert hl'
      revert T'
      revert X'
      revert B'
      revert hg
      revert hret
      revert hun
      revert hdp
      revert hs
      revert hl
      revert hI
      exact @hP0 hY tk lg T x j gv ge u1 h1 tk1 J oJ tt y G
namespace C
@[irreducible] noncomputable def cutT : Heap × Nat × Addr × (List Str) × Str × Nat × (List Value) × Nat × (Str → Option Value) × Heap × Nat × Addr × Obj × Tok × Str × (List Str) := gen ⟨(default, 0, 0, [], Str.ofString "", 0, [], 0, fun _ => none, default, 0, 0, default, 0, Str.ofString "", [])⟩ fun t => cutQ3.1 t.1 t.2.1 t.2.2.1 t.2.2.2.1 t.2.2.2.2.1 t.2.2.2.2.2.1 t.2.2.2.2.2.2.1 t.2.2.2.2.2.2.2.1 t.2.2.2.2.2.2.2.2.1 t.2.2.2.2.2.2.2.2.2.1 t.2.2.2.2.2.2.2.2.2.2.1 t.2.2.2.2.2.2.2.2.2.2.2.1 t.2.2.2.2.2.2.2.2.2.2.2.2.1 t.2.2.2.2.2.2.2.2.2.2.2.2.2.1 t.2.2.2.2.2.2.2.2.2.2.2.2.2.2.1 t.2.2.2.2.2.2.2.2.2.2.2.2.2.2.2
@[irreducible] noncomputable def hY : Heap := cutT.1
@[irreducible] noncomputable def tk : Nat := cutT.2.1
@[irreducible] noncomputable def lg : Addr := cutT.2.2.1
@[irreducible] noncomputable def T : List Str := cutT.2.2.2.1
@[irreducible] noncomputable def x : Str := cutT.2.2.2.2.1
@[irreducible] noncomputable def j : Nat := cutT.2.2.2.2.2.1
@[irreducible] noncomputable def gv : List Value := cutT.2.2.2.2.2.2.1
@[irreducible] noncomputable def ge : Nat := cutT.2.2.2.2.2.2.2.1
@[irreducible] noncomputable def u1 : Str → Option Value := cutT.2.2.2.2.2.2.2.2.1
@[irreducible] noncomputable def h1 : Heap := cutT.2.2.2.2.2.2.2.2.2.1
@[irreducible] noncomputable def tk1 : Nat := cutT.2.2.2.2.2.2.2.2.2.2.1
@[irreducible] noncomputable def J : Addr := cutT.2.2.2.2.2.2.2.2.2.2.2.1
@[irreducible] noncomputable def oJ : Obj := cutT.2.2.2.2.2.2.2.2.2.2.2.2.1
@[irreducible] noncomputable def tt : Tok := cutT.2.2.2.2.2.2.2.2.2.2.2.2.2.1
@[irreducible] noncomputable def y : Str := cutT.2.2.2.2.2.2.2.2.2.2.2.2.2.2.1
@[irreducible] noncomputable def G : List Str := cutT.2.2.2.2.2.2.2.2.2.2.2.2.2.2.2
theorem cutP3 : cutQ3.1 hY tk lg T x j gv ge u1 h1 tk1 J oJ tt y G := by
  delta cutQ3
  dsimp only
  intro hI hl hs hdp hun hret hg B' X' T' hl' hgl hP hne hl1 F1 N1 hP1 hne1 hj hy hsj hGl hGl2 hT2 hT3 hi5 hle
  (try k_fold)
  (((try k_fold); ((repeat' (first | (k_unfold; (try dsimp only)) | ((fail_if_success (with_reducible show wpAny _ _ (exec (Stmt.While _ _ _ _) _) _ _ _)); (fail_if_success (with_reducible show wpAny _ _ (exec (Stmt.For _ _ _ _ _) _) _ _ _)); (fail_if_success (with_reducible show wpAny _ _ (pyIter _) _ _ _)); (fail_if_success (with_reducible show wpAny _ _ (eval (Expr.ListComp _ _ _ _) _) _ _ _)); (fail_if_success (with_reducible show wpAny _ _ (exec (Stmt.Assign _ (Expr.ListComp _ _ _ _) _) _) _ _ _)); ((first | walk1 | (dsimp only; walk1)); (try dsimp only))))))))
  refine For_invV g rfl rfl ?_
  (((try k_fold); ((repeat' (first | (k_unfold; (try dsimp only)) | ((fail_if_success (with_reducible show wpAny _ _ (exec (Stmt.While _ _ _ _) _) _ _ _)); (fail_if_success (with_reducible show wpAny _ _ (exec (Stmt.For _ _ _ _ _) _) _ _ _)); (fail_if_success (with_reducible show wpAny _ _ (pyIter _) _ _ _)); (fail_if_success (with_reducible show wpAny _ _ (eval (Expr.ListComp _ _ _ _) _) _ _ _)); (fail_if_success (with_reducible show wpAny _ _ (exec (Stmt.Assign _ (Expr.ListComp _ _ _ _) _) _) _ _ _)); ((first | walk1 | (dsimp only; walk1)); (try dsimp only))))))))
  (((with_reducible rename Fr _ _ _ _ => F0); (with_reducible rename News _ _ _ _ => N0)))
  rename IsRange _ _ _ _ _ _ _ _ => R0
  have hgn := hP1.length
  refine' range_cut (σ := List Value × Nat) (n := y.length + 1) (fun c => [(lg, W.listOf c.1.toArray c.2), (J, oJ), (I, oI), (lt, W.listOf ws.toArray e)]) (fun c => [(Str.ofString "letter", .str x t), (Str.ofString "texts", .ref lt), (Str.ofString "grown", .ref lg), (Str.ofString "text", .str y tt)])
    (fun p c => StrsAre c.1 (((List.range p).map (insP x y)).foldl addNew G)) (fun c => StrsAre c.1 (growT x G y)) (gv, ge) rfl R0 (small_one (by omega) (by omega) (by omega) (by omega)) ?ks F0 N0 ?kl2 ?kk2 ?kp2 ?kt2 ?kx2 ?kd2
  case ks =>
    unfold Builtin.Range.rangeSize
    rw [if_pos (by decide)]
    split <;> omega
  case kl2 => kst_in
  case kk2 => kst_all
  case kp2 => exact hP1
  case kx2 => exact fun c h => h
  case kd2 =>
    rintro ⟨gv2, ge2⟩ u2 h2 tk2 hc F2 N2
    clear F0 N0 R0
    dsimp only at hc N2; dsimp only [kstB] at F2
    (try k_fold)
    (((try k_fold); ((repeat' (first | (k_unfold; (try dsimp only)) | ((fail_if_success (with_reducible show wpAny _ _ (exec (Stmt.While _ _ _ _) _) _ _ _)); (fail_if_success (with_reducible show wpAny _ _ (exec (Stmt.For _ _ _ _ _) _) _ _ _)); (fail_if_success (with_reducible show wpAny _ _ (pyIter _) _ _ _)); (fail_if_success (with_reducible show wpAny _ _ (eval (Expr.ListComp _ _ _ _) _) _ _ _)); (fail_if_success (with_reducible show wpAny _ _ (exec (Stmt.Assign _ (Expr.ListComp _ _ _ _) _) _) _ _ _)); ((first | walk1 | (dsimp only; walk1)); (try dsimp only))))))))
    (((with_reducible rename Fr _ _ _ _ => F0); (with_reducible rename News _ _ _ _ => N0)))
    dsimp only [FTurn]
    refine Out.mk' (_, _) F0 N0 (by kst_in) (by kst_all) ⟨by rw [hsj]; exact hc, ?_⟩
    exact ne_same hne1 rfl
  case kt2 =>
    rintro p tp ⟨gv2, ge2⟩ u2 h2 tk2 M oM hp hP2 hne2 F2 N2
    clear F0 N0 R0
    dsimp only at hP2 hne2 N2; dsimp only [kstB] at F2
    have hg2 := hP2.length
    have hg3 := foldAdd_len ((List.range p).map (insP x y)) G
    rw [List.length_map, List.length_range] at hg3
    have hgb : gv2.length ≤ 60000 := by
      rw [List.length_nil] at hGl
      have e5 : (6 : Nat) ^ 5 = 7776 := rfl
      omega
    have hsp : ((List.range (p + 1)).map (insP x y)).foldl addNew G = addNew (((List.range p).map (insP x y)).foldl addNew G) (insP x y p) := by
      rw [List.range_succ, List.map_append, List.foldl_append]; rfl
    (try k_fold)
    (((try k_fold); ((repeat' (first | (k_unfold; (try dsimp only)) | ((fail_if_success (with_reducible show wpAny _ _ (exec (Stmt.While _ _ _ _) _) _ _ _)); (fail_if_success (with_reducible show wpAny _ _ (exec (Stmt.For _ _ _ _ _) _) _ _ _)); (fail_if_success (with_reducible show wpAny _ _ (pyIter _) _ _ _)); (fail_if_success (with_reducible show wpAny _ _ (eval (Expr.ListComp _ _ _ _) _) _ _ _)); (fail_if_success (with_reducible show wpAny _ _ (exec (Stmt.Assign _ (Expr.ListComp _ _ _ _) _) _) _ _ _)); ((first | walk1 | (dsimp only; walk1)); (try dsimp only))))))))
    · rename (List.any _ _) = true => ha
      refine Out.mk' (_, _) (by k_asm) (by k_asm) (by kst_in) (by kst_all) ⟨?_, ?_⟩
      dsimp only
      rw [hsp, addNew_t (x := insP x y p) ha]
      exact hP2
      exact ne_same hne2 rfl
    · rename (List.any _ _) = false => ha
      refine Out.mk' (_, _) (by k_asm) (by k_asm) (by kst_in) (by kst_all) ⟨?_, ?_⟩
      dsimp only
      rw [hsp, addNew_f (x := insP x y p) ha]
      exact StrsAre.append' hP2 (.cons _ _ .nil)
      exact ne_same hne2 rfl
theorem cutR3 : ∀ (hY : Heap) (tk : Nat) (lg : Addr) (T : List Str) (x : Str) (j : Nat) (gv : List Value) (ge : Nat) (u1 : Str → Option Value) (h1 : Heap) (tk1 : Nat) (J : Addr) (oJ : Obj) (tt : Tok) (y : Str) (G : List Str), cutQ3.1 hY tk lg T x j gv ge u1 h1 tk1 J oJ tt y G := by
  intro hY tk lg T x j gv ge u1 h1 tk1 J oJ tt y G
  with_unfolding_all exact of_gen (P := fun t : Heap × Nat × Addr × (List Str) × Str × Nat × (List Value) × Nat × (Str → Option Value) × Heap × Nat × Addr × Obj × Tok × Str × (List Str) => cutQ3.1 t.1 t.2.1 t.2.2.1 t.2.2.2.1 t.2.2.2.2.1 t.2.2.2.2.2.1 t.2.2.2.2.2.2.1 t.2.2.2.2.2.2.2.1 t.2.2.2.2.2.2.2.2.1 t.2.2.2.2.2.2.2.2.2.1 t.2.2.2.2.2.2.2.2.2.2.1 t.2.2.2.2.2.2.2.2.2.2.2.1 t.2.2.2.2.2.2.2.2.2.2.2.2.1 t.2.2.2.2.2.2.2.2.2.2.2.2.2.1 t.2.2.2.2.2.2.2.2.2.2.2.2.2.2.1 t.2.2.2.2.2.2.2.2.2.2.2.2.2.2.2) cutP3 (hY, tk, lg, T, x, j, gv, ge, u1, h1, tk1, J, oJ, tt, y, G)
end C
theorem cutP2 : cutQ2.1 hX tkX i lt ws e u h tk I oI t := cutQ3.2 C.cutR3
theorem cutR2 : ∀ (hX : Heap) (tkX : Nat) (i : Nat) (lt : Addr) (ws : List Value) (e : Nat) (u : Str → Option Value) (h : Heap) (tk : Nat) (I : Addr) (oI : Obj) (t : Tok), cutQ2.1 hX tkX i lt ws e u h tk I oI t := by
  intro hX tkX i lt ws e u h tk I oI t
  with_unfolding_all exact of_gen (P := fun t : Heap × Nat × Nat × Addr × (List Value) × Nat × (Str → Option Value) × Heap × Nat × Addr × Obj × Tok => cutQ2.1 t.1 t.2.1 t.2.2.1 t.2.2.2.1 t.2.2.2.2.1 t.2.2.2.2.2.1 t.2.2.2.2.2.2.1 t.2.2.2.2.2.2.2.1 t.2.2.2.2.2.2.2.2.1 t.2.2.2.2.2.2.2.2.2.1 t.2.2.2.2.2.2.2.2.2.2.1 t.2.2.2.2.2.2.2.2.2.2.2) cutP2 (hX, tkX, i, lt, ws, e, u, h, tk, I, oI, t)
end C
theorem cutP1 : cutQ1.1 w mean mg mb ll vs ns dp un gd outers base s Q E g L' h₁ := cutQ2.2 C.cutR2
theorem cutR1 : ∀ (w : World) (mean : ExcName → Option Value) (mg : Str → Option Value) (mb : Str → Option Value) (ll : Addr) (vs : List Value) (ns : List Str) (dp : Nat) (un : Nat) (gd : Option (List Code)) (outers : List Env) (base : Heap) (s : Shared) (Q : Value → Shared → Prop) (E : Value → Shared → Prop) (g : Heap) (L' : Addr) (h₁ : Heap), cutQ1.1 w mean mg mb ll vs ns dp un gd outers base s Q E g L' h₁ := by
  intro w mean mg mb ll vs ns dp un gd outers base s Q E g L' h₁
  with_unfolding_all exact of_gen (P := fun t : World × (ExcName → Option Value) × (Str → Option Value) × (Str → Option Value) × Addr × (List Value) × (List Str) × Nat × Nat × (Option (List Code)) × (List Env) × Heap × Shared × (Value → Shared → Prop) × (Value → Shared → Prop) × Heap × Addr × Heap => cutQ1.1 t.1 t.2.1 t.2.2.1 t.2.2.2.1 t.2.2.2.2.1 t.2.2.2.2.2.1 t.2.2.2.2.2.2.1 t.2.2.2.2.2.2.2.1 t.2.2.2.2.2.2.2.2.1 t.2.2.2.2.2.2.2.2.2.1 t.2.2.2.2.2.2.2.2.2.2.1 t.2.2.2.2.2.2.2.2.2.2.2.1 t.2.2.2.2.2.2.2.2.2.2.2.2.1 t.2.2.2.2.2.2.2.2.2.2.2.2.2.1 t.2.2.2.2.2.2.2.2.2.2.2.2.2.2.1 t.2.2.2.2.2.2.2.2.2.2.2.2.2.2.2.1 t.2.2.2.2.2.2.2.2.2.2.2.2.2.2.2.2.1 t.2.2.2.2.2.2.2.2.2.2.2.2.2.2.2.2.2) cutP1 (w, mean, mg, mb, ll, vs, ns, dp, un, gd, outers, base, s, Q, E, g, L', h₁)
end C
end texts_tells
theorem texts_tells (w : World) (mean : ExcName → Option Value) (mg mb : Str → Option Value) (ll : Addr) (vs : List Value) (ns : List Str) (hI : StrsAre vs ns) (hl : ns.length ≤ 5) (hs : ∀ x ∈ ns, x.length = 1) :
   Tells Challenge.rw_re0065_01.row.prog w (hd1.heap_39 w.params) hd1.view_39 (looseW hd1.view_39 []) mean mg mb 2 82 [.ref ll] (fun h => h.IsList ll vs.toArray) (fun v h h' => ∃ l ws e, v = .ref l ∧ h'.get? l = some (W.listOf ws.toArray e) ∧ h.get? l = none ∧ StrsAre ws (textsF ns)) :=
  texts_tells.cutQ1.2 texts_tells.C.cutR1 w mean mg mb ll vs ns hI hl hs
end Mine
end
section
local macro_rules | `(tactic| omega) => `(tactic| lia)
set_option maxHeartbeats 8000000
set_option rowWalk.seconds 0
namespace Mine
theorem paired_ints' {α : Type} {f : α → Int} : ∀ {as : List α} {ys : List Value}, Paired (fun a y => isInt (f a) y) as ys → IntsAre ys (as.map f)
  | [], _, .nil => .nil
  | a :: as, _, .cons ⟨t, e⟩ r => by subst e; exact .cons _ _ (paired_ints' r)
theorem cells1 {cm : Str → Option Value} {n1 : Str} {c1 : Addr} {cells : List (Addr × Obj)} (x : CellsAre cm [(n1, c1)] cells) :
    ∃ o1, cells = [(c1, o1)] ∧ o1.data = .cell (cm n1) := by
  obtain ⟨o1, c1, rfl, h1, x⟩ := cells_uncons x
  rw [cells_nil x]
  exact ⟨_, rfl, h1⟩
noncomputable def pw (q : Nat × Nat) : Int := (2 : Int) ^ (8 * (q.1 : Int) + 48 * (q.2 : Int)).toNat
noncomputable def facF (size : Int) : Int := ((flatP (fun i => (size.toNat + 1) - i) (size.toNat + 1)).map pw).sum
noncomputable def edgeL (ns : List Int) : List Int := [0] ++ ns ++ [5]
noncomputable def sizeA (ns : List Int) (k : Nat) : Int := (edgeL ns).getD (k + 1) 0 - (edgeL ns).getD k 0
noncomputable def prodA (ns : List Int) : Nat → Int
  | 0 => 1
  | k + 1 => prodA ns k * facF (sizeA ns k)
noncomputable def dealF (ns : List Int) (lo mi : Int) : Int := Int.fmod (Int.fdiv (prodA ns (ns.length + 1)) (2 ^ (8 * lo + 48 * mi).toNat)) 256
theorem fac_all : ((List.range 6).all fun z => decide (Builtin.Int.intBits (facF (z : Int)) ≤ 300)) = true := by decide +kernel
theorem fac_bits {z : Int} (h0 : 0 ≤ z) (h5 : z ≤ 5) : Builtin.Int.intBits (facF z) ≤ 300 := by
  have := List.all_eq_true.mp fac_all z.toNat (List.mem_range.mpr (by omega))
  rw [decide_eq_true_eq, Int.toNat_of_nonneg h0] at this
  exact this
theorem prod_bits {ns : List Int} (hs : ∀ k, k ≤ ns.length → 0 ≤ sizeA ns k ∧ sizeA ns k ≤ 5) : ∀ i, i ≤ ns.length + 1 → Builtin.Int.intBits (prodA ns i) ≤ 1 + 300 * i
  | 0, _ => by rw [prodA]; decide
  | i + 1, h => by
    have h1 := prod_bits hs i (by omega)
    have h2 := fac_bits (hs i (by omega)).1 (hs i (by omega)).2
    have h3 := bits_mul h1 h2
    rw [prodA]
    exact Nat.le_trans h3 (by omega)
local macro_rules | `(tactic| walk_at "inplaceOp Mult int int") => `(tactic| (with_reducible refine imul_int ?_ (by assumption)))
namespace deal_tells
noncomputable def cutQ1 : { qq : (World → (ExcName → Option Value) → (Str → Option Value) → (Str → Option Value) → Addr → (List Value) → (List Int) → Int → Int → Tok → Tok → Nat → Nat → (Option (List Code)) → (List Env) → Heap → Shared → (Value → Shared → Prop) → (Value → Shared → Prop) → Heap → Addr → Heap → Nat → Obj → (Str → Option Value) → Prop) // (∀ (w : World) (mean : ExcName → Option Value) (mg : Str → Option Value) (mb : Str → Option Value) (lm : Addr) (vs : List Value) (ns : List Int) (lo : Int) (mi : Int) (tl : Tok) (tm : Tok) (dp : Nat) (un : Nat) (gd : Option (List Code)) (outers : List Env) (base : Heap) (s : Shared) (Q : Value → Shared → Prop) (E : Value → Shared → Prop) (g : Heap) (L' : Addr) (h₁ : Heap) (tk : Nat) (o1 : Obj) (m0 : Str → Option Value), qq w mean mg mb lm vs ns lo mi tl tm dp un gd outers base s Q E g L' h₁ tk o1 m0) → ∀ (w : World) (mean : ExcName → Option Value) (mg mb : Str → Option Value) (lm : Addr) (vs : List Value) (ns : List Int) (lo mi : Int) (tl tm : Tok) (hI : IntsAre vs ns) (hl : ns.length ≤ 4) (hs : ∀ k, k ≤ ns.length → 0 ≤ sizeA ns k ∧ sizeA ns k ≤ 5) (hlo : 0 ≤ lo ∧ lo ≤ 5) (hmi : 0 ≤ mi ∧ mi ≤ 5),
   Tells Challenge.rw_re0065_01.row.prog w (hd1.heap_39 w.params) hd1.view_39 (looseW hd1.view_39 []) mean mg mb 2 87 [.ref lm, .int lo tl, .int mi tm] (fun h => h.IsList lm vs.toArray) (fun v h h' => ∃ t, v = .int (dealF ns lo mi) t) } := by
  refine ⟨?qq0, fun hP0 => ?b⟩
  case b =>
    intro w mean mg mb lm vs ns lo mi tl tm hI hl hs hlo hmi
    k_fill; intro dp un gd outers base s Q E B X T hdp hun hpre hret
    ((refine wpAny_call ?_; k_dflt (refine' enterC ?k1 ?k2 ?k3 ?k6 ?k7 ?k8 ?k9 ?kB ?kN ?_ ?c2 ?c3 ?c4; (case k1 => k_asm); (case k2 => k_asm); (case k3 => k_asm); (case k6 => k_is); (case k7 => k_is); (case k8 => ktr_room); (case k9 => exact BindsTo.of_eq rfl); (case kB => exact rfl); (case kN => decide +kernel); (case c2 => exact rfl); (case c3 => exact rfl); (case c4 => exact rfl); k_whole)))
    intro g L' h₁ tk cells hg F' N' Y' B' X' T'
    have hl' : g.IsList lm vs.toArray := by rw [hg]; exact hpre
    obtain ⟨o1, rfl, hc1⟩ := cells1 Y'
    clear Y'
    replace hc1 : o1.data = .cell none := hc1
    replace F' := fr_known (ps := [(Str.ofString "marks", .ref lm), (Str.ofString "lowest", .int lo tl), (Str.ofString "middle", .int mi tm)]) F' (by kst_all)
    generalize bindL _ _ _ = m0 at F'
    dsimp only [kstB] at F'
    (try dsimp only); (try k_lift B')
    (try dsimp +zetaDelta only)
    revert hc1
    revert hl'
    revert T'
    revert X'
    revert B'
    revert N'
    revert F'
    revert hg
    revert hret
    revert hun
    revert hdp
    revert hmi
    revert hlo
    revert hs
    revert hl
    revert hI
    exact @hP0 w mean mg mb lm vs ns lo mi tl tm dp un gd outers base s Q E g L' h₁ tk o1 m0
namespace C
@[irreducible] noncomputable def cutT : World × (ExcName → Option Value) × (Str → Option Value) × (Str → Option Value) × Addr × (List Value) × (List Int) × Int × Int × Tok × Tok × Nat × Nat × (Option (List Code)) × (List Env) × Heap × Shared × (Value → Shared → Prop) × (Value → Shared → Prop) × Heap × Addr × Heap × Nat × Obj × (Str → Option Value) := gen ⟨(Classical.choice world_ne, fun _ => none, fun _ => none, fun _ => none, 0, [], [], 0, 0, 0, 0, 0, 0, none, [], default, {}, fun _ _ => True, fun _ _ => True, default, 0, default, 0, default, fun _ => none)⟩ fun t => cutQ1.1 t.1 t.2.1 t.2.2.1 t.2.2.2.1 t.2.2.2.2.1 t.2.2.2.2.2.1 t.2.2.2.2.2.2.1 t.2.2.2.2.2.2.2.1 t.2.2.2.2.2.2.2.2.1 t.2.2.2.2.2.2.2.2.2.1 t.2.2.2.2.2.2.2.2.2.2.1 t.2.2.2.2.2.2.2.2.2.2.2.1 t.2.2.2.2.2.2.2.2.2.2.2.2.1 t.2.2.2.2.2.2.2.2.2.2.2.2.2.1 t.2.2.2.2.2.2.2.2.2.2.2.2.2.2.1 t.2.2.2.2.2.2.2.2.2.2.2.2.2.2.2.1 t.2.2.2.2.2.2.2.2.2.2.2.2.2.2.2.2.1 t.2.2.2.2.2.2.2.2.2.2.2.2.2.2.2.2.2.1 t.2.2.2.2.2.2.2.2.2.2.2.2.2.2.2.2.2.2.1 t.2.2.2.2.2.2.2.2.2.2.2.2.2.2.2.2.2.2.2.1 t.2.2.2.2.2.2.2.2.2.2.2.2.2.2.2.2.2.2.2.2.1 t.2.2.2.2.2.2.2.2.2.2.2.2.2.2.2.2.2.2.2.2.2.1 t.2.2.2.2.2.2.2.2.2.2.2.2.2.2.2.2.2.2.2.2.2.2.1 t.2.2.2.2.2.2.2.2.2.2.2.2.2.2.2.2.2.2.2.2.2.2.2.1 t.2.2.2.2.2.2.2.2.2.2.2.2.2.2.2.2.2.2.2.2.2.2.2.2
@[irreducible] noncomputable def w : World := cutT.1
@[irreducible] noncomputable def mean : ExcName → Option Value := cutT.2.1
@[irreducible] noncomputable def mg : Str → Option Value := cutT.2.2.1
@[irreducible] noncomputable def mb : Str → Option Value := cutT.2.2.2.1
@[irreducible] noncomputable def lm : Addr := cutT.2.2.2.2.1
@[irreducible] noncomputable def vs : List Value := cutT.2.2.2.2.2.1
@[irreducible] noncomputable def ns : List Int := cutT.2.2.2.2.2.2.1
@[irreducible] noncomputable def lo : Int := cutT.2.2.2.2.2.2.2.1
@[irreducible] noncomputable def mi : Int := cutT.2.2.2.2.2.2.2.2.1
@[irreducible] noncomputable def tl : Tok := cutT.2.2.2.2.2.2.2.2.2.1
@[irreducible] noncomputable def tm : Tok := cutT.2.2.2.2.2.2.2.2.2.2.1
@[irreducible] noncomputable def dp : Nat := cutT.2.2.2.2.2.2.2.2.2.2.2.1
@[irreducible] noncomputable def un : Nat := cutT.2.2.2.2.2.2.2.2.2.2.2.2.1
@[irreducible] noncomputable def gd : Option (List Code) := cutT.2.2.2.2.2.2.2.2.2.2.2.2.2.1
@[irreducible] noncomputable def outers : List Env := cutT.2.2.2.2.2.2.2.2.2.2.2.2.2.2.1
@[irreducible] noncomputable def base : Heap := cutT.2.2.2.2.2.2.2.2.2.2.2.2.2.2.2.1
@[irreducible] noncomputable def s : Shared := cutT.2.2.2.2.2.2.2.2.2.2.2.2.2.2.2.2.1
@[irreducible] noncomputable def Q : Value → Shared → Prop := cutT.2.2.2.2.2.2.2.2.2.2.2.2.2.2.2.2.2.1
@[irreducible] noncomputable def E : Value → Shared → Prop := cutT.2.2.2.2.2.2.2.2.2.2.2.2.2.2.2.2.2.2.1
@[irreducible] noncomputable def g : Heap := cutT.2.2.2.2.2.2.2.2.2.2.2.2.2.2.2.2.2.2.2.1
@[irreducible] noncomputable def L' : Addr := cutT.2.2.2.2.2.2.2.2.2.2.2.2.2.2.2.2.2.2.2.2.1
@[irreducible] noncomputable def h₁ : Heap := cutT.2.2.2.2.2.2.2.2.2.2.2.2.2.2.2.2.2.2.2.2.2.1
@[irreducible] noncomputable def tk : Nat := cutT.2.2.2.2.2.2.2.2.2.2.2.2.2.2.2.2.2.2.2.2.2.2.1
@[irreducible] noncomputable def o1 : Obj := cutT.2.2.2.2.2.2.2.2.2.2.2.2.2.2.2.2.2.2.2.2.2.2.2.1
@[irreducible] noncomputable def m0 : Str → Option Value := cutT.2.2.2.2.2.2.2.2.2.2.2.2.2.2.2.2.2.2.2.2.2.2.2.2
noncomputable def cutQ2 : { qq : (Heap → Nat → Addr → (List Value) → Nat → Tok → Obj → Int → Tok → (Str → Option Value) → Nat → Addr → Obj → Heap → Obj → Nat → Int → Nat → Prop) // (∀ (hX : Heap) (tkX : Nat) (le : Addr) (ws : List Value) (i : Nat) (ti : Tok) (o1' : Obj) (pr : Int) (tp : Tok) (u2 : Str → Option Value) (tk2 : Nat) (I : Addr) (oI : Obj) (hY : Heap) (oY : Obj) (tk : Nat) (sz : Int) (zn : Nat), qq hX tkX le ws i ti o1' pr tp u2 tk2 I oI hY oY tk sz zn) → cutQ1.1 w mean mg mb lm vs ns lo mi tl tm dp un gd outers base s Q E g L' h₁ tk o1 m0 } := by
  refine ⟨?qq0, fun hP0 => ?b⟩
  case b =>
    delta cutQ1
    dsimp only
    intro hI hl hs hlo hmi hdp hun hret hg F' N' B' X' T' hl' hc1
    (((try k_fold); ((repeat' (first | (k_unfold; (try dsimp only)) | ((fail_if_success (with_reducible show wpAny _ _ (exec (Stmt.While _ _ _ _) _) _ _ _)); (fail_if_success (with_reducible show wpAny _ _ (exec (Stmt.For _ _ _ _ _) _) _ _ _)); (fail_if_success (with_reducible show wpAny _ _ (pyIter _) _ _ _)); (fail_if_success (with_reducible show wpAny _ _ (eval (Expr.ListComp _ _ _ _) _) _ _ _)); (fail_if_success (with_reducible show wpAny _ _ (exec (Stmt.Assign _ (Expr.ListComp _ _ _ _) _) _) _ _ _)); ((first | walk1 | (dsimp only; walk1)); (try dsimp only))))))))
    refine For_invV g rfl rfl ?_
    (((try k_fold); ((repeat' (first | (k_unfold; (try dsimp only)) | ((fail_if_success (with_reducible show wpAny _ _ (exec (Stmt.While _ _ _ _) _) _ _ _)); (fail_if_success (with_reducible show wpAny _ _ (exec (Stmt.For _ _ _ _ _) _) _ _ _)); (fail_if_success (with_reducible show wpAny _ _ (pyIter _) _ _ _)); (fail_if_success (with_reducible show wpAny _ _ (eval (Expr.ListComp _ _ _ _) _) _ _ _)); (fail_if_success (with_reducible show wpAny _ _ (exec (Stmt.Assign _ (Expr.ListComp _ _ _ _) _) _) _ _ _)); ((first | walk1 | (dsimp only; walk1)); (try dsimp only))))))))
    (((with_reducible rename Fr _ _ _ _ => F0); (with_reducible rename News _ _ _ _ => N0)))
    rename IsRange _ _ _ _ _ _ _ _ => R0
    obtain ⟨le, hle⟩ := name_led N0
    subst hle
    rename IntsAre _ ([0] ++ ns ++ [5]) => hE
    obtain ⟨ws, hws⟩ := name_ints hE
    subst hws
    have hwl := hE.length
    have hel : ([0] ++ ns ++ [5]).length = ns.length + 2 := by simp
    rw [hel] at hwl
    refine' range_cut (σ := Obj × Int × Tok) (n := ns.length + 1) (fun c => [(le, W.listOf ws.toArray 0), (L' + 1, c.1)]) (fun c => [(Str.ofString "product", .int c.2.1 c.2.2), (Str.ofString "edges", .ref le), (Str.ofString "lowest", .int lo tl), (Str.ofString "middle", .int mi tm)])
      (fun i c => c.2.1 = prodA ns i ∧ ∃ x, c.1.data = .cell x) (fun c => c.2.1 = prodA ns (ns.length + 1)) (o1, _, _) rfl R0 (small_one (by omega) (by omega) (by omega) (by omega)) ?ks F0 N0 ?kl ?kk ?kp ?kt ?kx ?kd
    case ks =>
      unfold Builtin.Range.rangeSize
      rw [if_pos (by decide)]
      split <;> omega
    case kl => kst_in
    case kk => kst_all
    case kp => exact ⟨rfl, _, hc1⟩
    case kx => exact fun c h => h.1
    case kd =>
      rintro ⟨o1', pr, tp⟩ u2 h2 tk2 hc F2 N2
      clear F0 N0 R0
      dsimp only at hc N2; dsimp only [kstB] at F2
      (try k_fold)
      (((try k_fold); ((repeat' (first | (k_unfold; (try dsimp only)) | ((fail_if_success (with_reducible show wpAny _ _ (exec (Stmt.While _ _ _ _) _) _ _ _)); (fail_if_success (with_reducible show wpAny _ _ (exec (Stmt.For _ _ _ _ _) _) _ _ _)); (fail_if_success (with_reducible show wpAny _ _ (pyIter _) _ _ _)); (fail_if_success (with_reducible show wpAny _ _ (eval (Expr.ListComp _ _ _ _) _) _ _ _)); (fail_if_success (with_reducible show wpAny _ _ (exec (Stmt.Assign _ (Expr.ListComp _ _ _ _) _) _) _ _ _)); ((first | walk1 | (dsimp only; walk1)); (try dsimp only))))))))
      (((try k_unfold); (try dsimp only); refine hret _ _ _ (ret_keep hg (by k_asm)) ?_))
      rw [hc]
      exact ⟨_, rfl⟩
    case kt =>
      rintro i ti ⟨o1', pr, tp⟩ u2 h2 tk2 I oI hi ⟨hP, x1, hx1⟩ hne F2 N2
      clear F0 N0 R0
      dsimp only at hP hx1 hne N2; dsimp only [kstB] at F2
      (try k_fold)
      (((try k_fold); ((repeat' (first | (k_unfold; (try dsimp only)) | ((fail_if_success (with_reducible show wpAny _ _ (exec (Stmt.While _ _ _ _) _) _ _ _)); (fail_if_success (with_reducible show wpAny _ _ (exec (Stmt.For _ _ _ _ _) _) _ _ _)); (fail_if_success (with_reducible show wpAny _ _ (pyIter _) _ _ _)); (fail_if_success (with_reducible show wpAny _ _ (eval (Expr.ListComp _ _ _ _) _) _ _ _)); (fail_if_success (with_reducible show wpAny _ _ (exec (Stmt.Assign _ (Expr.ListComp _ _ _ _) _) _) _ _ _)); ((first | walk1 | (dsimp only; walk1)); (try dsimp only))))))))
      have hsz : ([0] ++ ns ++ [5]).getD (1 + (i : Int)).toNat 0 - ([0] ++ ns ++ [5]).getD (1 + (i : Int) - 1).toNat 0 = sizeA ns i := by
        have e1 : (1 + (i : Int)).toNat = i + 1 := by omega
        have e2 : (1 + (i : Int) - 1).toNat = i := by omega
        rw [e1, e2]; rfl
      have hs5 := hs i (by omega)
      have hnext : prodA ns (i + 1) = prodA ns i * facF (sizeA ns i) := rfl
      (try k_fold)
      (((try k_fold); ((repeat' (first | (k_unfold; (try dsimp only)) | ((fail_if_success (with_reducible show wpAny _ _ (exec (Stmt.While _ _ _ _) _) _ _ _)); (fail_if_success (with_reducible show wpAny _ _ (exec (Stmt.For _ _ _ _ _) _) _ _ _)); (fail_if_success (with_reducible show wpAny _ _ (pyIter _) _ _ _)); (fail_if_success (with_reducible show wpAny _ _ (eval (Expr.ListComp _ _ _ _) _) _ _ _)); (fail_if_success (with_reducible show wpAny _ _ (exec (Stmt.Assign _ (Expr.ListComp _ _ _ _) _) _) _ _ _)); ((first | walk1 | (dsimp only; walk1)); (try dsimp only))))))))
      rename Obj.data _ = Data.cell (some (Value.int _ _)) => hd
      rw [hsz] at hd
      clear hsz
      generalize hzz : sizeA ns i = sz at *
      obtain ⟨zn, hzn⟩ : ∃ zn : Nat, zn = sz.toNat := ⟨_, rfl⟩
      have hz1 : sz = (zn : Int) := by omega
      have hz2 : zn ≤ 5 := by omega
      (((with_reducible rename Fr _ _ _ _ => F0); (with_reducible rename News _ _ _ _ => N0)))
      rename_i hX tkX _ _ _ _ _ _ _ hY oY
      (try dsimp +zetaDelta only)
      revert hzn
      revert hzz
      revert hnext
      revert hs5
      revert hz2
      revert hz1
      revert hd
      revert N0
      revert F0
      revert hne
      revert hP
      revert hi
      revert hc1
      revert hl'
      revert T'
      revert X'
      revert B'
      revert hg
      revert hret
      revert hun
      revert hdp
      revert hmi
      revert hlo
      revert hs
      revert hl
      revert hI
      exact @hP0 hX tkX le ws i ti o1' pr tp u2 tk2 I oI hY oY tk sz zn
namespace C
@[irreducible] noncomputable def cutT : Heap × Nat × Addr × (List Value) × Nat × Tok × Obj × Int × Tok × (Str → Option Value) × Nat × Addr × Obj × Heap × Obj × Nat × Int × Nat := gen ⟨(default, 0, 0, [], 0, 0, default, 0, 0, fun _ => none, 0, 0, default, default, default, 0, 0, 0)⟩ fun t => cutQ2.1 t.1 t.2.1 t.2.2.1 t.2.2.2.1 t.2.2.2.2.1 t.2.2.2.2.2.1 t.2.2.2.2.2.2.1 t.2.2.2.2.2.2.2.1 t.2.2.2.2.2.2.2.2.1 t.2.2.2.2.2.2.2.2.2.1 t.2.2.2.2.2.2.2.2.2.2.1 t.2.2.2.2.2.2.2.2.2.2.2.1 t.2.2.2.2.2.2.2.2.2.2.2.2.1 t.2.2.2.2.2.2.2.2.2.2.2.2.2.1 t.2.2.2.2.2.2.2.2.2.2.2.2.2.2.1 t.2.2.2.2.2.2.2.2.2.2.2.2.2.2.2.1 t.2.2.2.2.2.2.2.2.2.2.2.2.2.2.2.2.1 t.2.2.2.2.2.2.2.2.2.2.2.2.2.2.2.2.2
@[irreducible] noncomputable def hX : Heap := cutT.1
@[irreducible] noncomputable def tkX : Nat := cutT.2.1
@[irreducible] noncomputable def le : Addr := cutT.2.2.1
@[irreducible] noncomputable def ws : List Value := cutT.2.2.2.1
@[irreducible] noncomputable def i : Nat := cutT.2.2.2.2.1
@[irreducible] noncomputable def ti : Tok := cutT.2.2.2.2.2.1
@[irreducible] noncomputable def o1' : Obj := cutT.2.2.2.2.2.2.1
@[irreducible] noncomputable def pr : Int := cutT.2.2.2.2.2.2.2.1
@[irreducible] noncomputable def tp : Tok := cutT.2.2.2.2.2.2.2.2.1
@[irreducible] noncomputable def u2 : Str → Option Value := cutT.2.2.2.2.2.2.2.2.2.1
@[irreducible] noncomputable def tk2 : Nat := cutT.2.2.2.2.2.2.2.2.2.2.1
@[irreducible] noncomputable def I : Addr := cutT.2.2.2.2.2.2.2.2.2.2.2.1
@[irreducible] noncomputable def oI : Obj := cutT.2.2.2.2.2.2.2.2.2.2.2.2.1
@[irreducible] noncomputable def hY : Heap := cutT.2.2.2.2.2.2.2.2.2.2.2.2.2.1
@[irreducible] noncomputable def oY : Obj := cutT.2.2.2.2.2.2.2.2.2.2.2.2.2.2.1
@[irreducible] noncomputable def tk : Nat := cutT.2.2.2.2.2.2.2.2.2.2.2.2.2.2.2.1
@[irreducible] noncomputable def sz : Int := cutT.2.2.2.2.2.2.2.2.2.2.2.2.2.2.2.2.1
@[irreducible] noncomputable def zn : Nat := cutT.2.2.2.2.2.2.2.2.2.2.2.2.2.2.2.2.2
theorem cutP2 : cutQ2.1 hX tkX le ws i ti o1' pr tp u2 tk2 I oI hY oY tk sz zn := by
  delta cutQ2
  dsimp only
  intro hI hl hs hlo hmi hdp hun hret hg B' X' T' hl' hc1 hi hP hne F0 N0 hd hz1 hz2 hs5 hnext hzz hzn
  refine' comp2_eval ?h ?hclos ?hkind ?hnames ?hs
  (((case hclos => with_unfolding_all rfl); (case hkind => exact rfl); (case hnames => decide); (case hs => intro _; with_unfolding_all rfl)))
  case h =>
    (((try k_fold); ((repeat' (first | (k_unfold; (try dsimp only)) | ((fail_if_success (with_reducible show wpAny _ _ (exec (Stmt.While _ _ _ _) _) _ _ _)); (fail_if_success (with_reducible show wpAny _ _ (exec (Stmt.For _ _ _ _ _) _) _ _ _)); (fail_if_success (with_reducible show wpAny _ _ (pyIter _) _ _ _)); (fail_if_success (with_reducible show wpAny _ _ (eval (Expr.ListComp _ _ _ _) _) _ _ _)); (fail_if_success (with_reducible show wpAny _ _ (exec (Stmt.Assign _ (Expr.ListComp _ _ _ _) _) _) _ _ _)); ((first | walk1 | (dsimp only; walk1)); (try dsimp only))))))))
    (((with_reducible rename Fr _ _ _ _ => F0); (with_reducible rename News _ _ _ _ => N0)))
    rename IsRange _ _ _ _ _ _ _ _ => R0
    refine comp2_range (zn + 1) (fun i => zn + 1 - i) (fun q y => isInt (pw q) y) (by omega) (fun _ => by omega) R0 (small_one (by omega) (by omega) (by omega) (by omega)) ?ks rfl F0 N0 (by decide) rfl rfl rfl (by decide) (fun _ _ => by with_unfolding_all rfl) ⟨?ki, ?ke⟩ ?kk2
    case ks =>
      unfold Builtin.Range.rangeSize
      rw [if_pos (by decide)]
      split <;> omega
    case ki =>
      rintro C D J j t oC oD oJ mC h tk E' hDC hnw hj hC hm F9 N9
      clear F0 N0 R0
      (((try k_fold); ((repeat' (first | (k_unfold; (try dsimp only)) | ((fail_if_success (with_reducible show wpAny _ _ (exec (Stmt.While _ _ _ _) _) _ _ _)); (fail_if_success (with_reducible show wpAny _ _ (exec (Stmt.For _ _ _ _ _) _) _ _ _)); (fail_if_success (with_reducible show wpAny _ _ (pyIter _) _ _ _)); (fail_if_success (with_reducible show wpAny _ _ (eval (Expr.ListComp _ _ _ _) _) _ _ _)); (fail_if_success (with_reducible show wpAny _ _ (exec (Stmt.Assign _ (Expr.ListComp _ _ _ _) _) _) _ _ _)); ((first | walk1 | (dsimp only; walk1)); (try dsimp only))))))))
      · k_asm
      · k_asm
      · exact small_one (by omega) (by omega) (by omega) (by omega)
      · unfold Builtin.Range.rangeSize
        rw [if_pos (by decide)]
        split <;> omega
    case ke =>
      rintro C D J M j k t u oC oD oJ oM mC h tk E' hDC hnw hj hk hC hm hm2 F9 N9
      clear F0 N0 R0
      have hk' : k < zn + 1 - j := hk
      (((try k_fold); ((repeat' (first | (k_unfold; (try dsimp only)) | ((fail_if_success (with_reducible show wpAny _ _ (exec (Stmt.While _ _ _ _) _) _ _ _)); (fail_if_success (with_reducible show wpAny _ _ (exec (Stmt.For _ _ _ _ _) _) _ _ _)); (fail_if_success (with_reducible show wpAny _ _ (pyIter _) _ _ _)); (fail_if_success (with_reducible show wpAny _ _ (eval (Expr.ListComp _ _ _ _) _) _ _ _)); (fail_if_success (with_reducible show wpAny _ _ (exec (Stmt.Assign _ (Expr.ListComp _ _ _ _) _) _) _ _ _)); ((first | walk1 | (dsimp only; walk1)); (try dsimp only))))))))
      exact CKeep.mk' (by k_asm) (by k_asm) (by kst_in) ⟨_, rfl⟩
    case kk2 =>
      intro C D ys e oC mC h3 tk3 hy hDC hnw F9 hC N9
      clear F0 N0 R0
      refine post_none hDC hnw F9 hC N9 ?_
      clear hC; k_lt hnw
      intro h4 F8 N8
      clear F9 N9
      dsimp only
      have hI2 : IntsAre ys ((flatP (fun i => zn + 1 - i) (zn + 1)).map pw) := paired_ints' hy
      have hmul : IntMulOk pr (((flatP (fun i => zn + 1 - i) (zn + 1)).map pw).sum) := by
        have h1 := prod_bits (ns := ns) hs i (by omega)
        have h2 := fac_bits (z := sz) hs5.1 hs5.2
        unfold facF at h2
        rw [← hzn] at h2
        rw [hP]
        exact mulOk_of_bits h1 h2 (by omega)
      (((try k_fold); ((repeat' (first | (k_unfold; (try dsimp only)) | ((fail_if_success (with_reducible show wpAny _ _ (exec (Stmt.While _ _ _ _) _) _ _ _)); (fail_if_success (with_reducible show wpAny _ _ (exec (Stmt.For _ _ _ _ _) _) _ _ _)); (fail_if_success (with_reducible show wpAny _ _ (pyIter _) _ _ _)); (fail_if_success (with_reducible show wpAny _ _ (eval (Expr.ListComp _ _ _ _) _) _ _ _)); (fail_if_success (with_reducible show wpAny _ _ (exec (Stmt.Assign _ (Expr.ListComp _ _ _ _) _) _) _ _ _)); ((first | walk1 | (dsimp only; walk1)); (try dsimp only))))))))
      (((with_reducible rename Fr _ _ _ _ => F0); (with_reducible rename News _ _ _ _ => N0)))
      dsimp only [FTurn]
      refine Out.mk' (_, _, _) F0 N0 (by kst_in) (by kst_all) ?_
      refine ⟨⟨?_, _, hd⟩, ne_same hne rfl⟩
      dsimp only
      rw [hnext, hP, facF, ← hzn]
theorem cutR2 : ∀ (hX : Heap) (tkX : Nat) (le : Addr) (ws : List Value) (i : Nat) (ti : Tok) (o1' : Obj) (pr : Int) (tp : Tok) (u2 : Str → Option Value) (tk2 : Nat) (I : Addr) (oI : Obj) (hY : Heap) (oY : Obj) (tk : Nat) (sz : Int) (zn : Nat), cutQ2.1 hX tkX le ws i ti o1' pr tp u2 tk2 I oI hY oY tk sz zn := by
  intro hX tkX le ws i ti o1' pr tp u2 tk2 I oI hY oY tk sz zn
  with_unfolding_all exact of_gen (P := fun t : Heap × Nat × Addr × (List Value) × Nat × Tok × Obj × Int × Tok × (Str → Option Value) × Nat × Addr × Obj × Heap × Obj × Nat × Int × Nat => cutQ2.1 t.1 t.2.1 t.2.2.1 t.2.2.2.1 t.2.2.2.2.1 t.2.2.2.2.2.1 t.2.2.2.2.2.2.1 t.2.2.2.2.2.2.2.1 t.2.2.2.2.2.2.2.2.1 t.2.2.2.2.2.2.2.2.2.1 t.2.2.2.2.2.2.2.2.2.2.1 t.2.2.2.2.2.2.2.2.2.2.2.1 t.2.2.2.2.2.2.2.2.2.2.2.2.1 t.2.2.2.2.2.2.2.2.2.2.2.2.2.1 t.2.2.2.2.2.2.2.2.2.2.2.2.2.2.1 t.2.2.2.2.2.2.2.2.2.2.2.2.2.2.2.1 t.2.2.2.2.2.2.2.2.2.2.2.2.2.2.2.2.1 t.2.2.2.2.2.2.2.2.2.2.2.2.2.2.2.2.2) cutP2 (hX, tkX, le, ws, i, ti, o1', pr, tp, u2, tk2, I, oI, hY, oY, tk, sz, zn)
end C
theorem cutP1 : cutQ1.1 w mean mg mb lm vs ns lo mi tl tm dp un gd outers base s Q E g L' h₁ tk o1 m0 := cutQ2.2 C.cutR2
theorem cutR1 : ∀ (w : World) (mean : ExcName → Option Value) (mg : Str → Option Value) (mb : Str → Option Value) (lm : Addr) (vs : List Value) (ns : List Int) (lo : Int) (mi : Int) (tl : Tok) (tm : Tok) (dp : Nat) (un : Nat) (gd : Option (List Code)) (outers : List Env) (base : Heap) (s : Shared) (Q : Value → Shared → Prop) (E : Value → Shared → Prop) (g : Heap) (L' : Addr) (h₁ : Heap) (tk : Nat) (o1 : Obj) (m0 : Str → Option Value), cutQ1.1 w mean mg mb lm vs ns lo mi tl tm dp un gd outers base s Q E g L' h₁ tk o1 m0 := by
  intro w mean mg mb lm vs ns lo mi tl tm dp un gd outers base s Q E g L' h₁ tk o1 m0
  with_unfolding_all exact of_gen (P := fun t : World × (ExcName → Option Value) × (Str → Option Value) × (Str → Option Value) × Addr × (List Value) × (List Int) × Int × Int × Tok × Tok × Nat × Nat × (Option (List Code)) × (List Env) × Heap × Shared × (Value → Shared → Prop) × (Value → Shared → Prop) × Heap × Addr × Heap × Nat × Obj × (Str → Option Value) => cutQ1.1 t.1 t.2.1 t.2.2.1 t.2.2.2.1 t.2.2.2.2.1 t.2.2.2.2.2.1 t.2.2.2.2.2.2.1 t.2.2.2.2.2.2.2.1 t.2.2.2.2.2.2.2.2.1 t.2.2.2.2.2.2.2.2.2.1 t.2.2.2.2.2.2.2.2.2.2.1 t.2.2.2.2.2.2.2.2.2.2.2.1 t.2.2.2.2.2.2.2.2.2.2.2.2.1 t.2.2.2.2.2.2.2.2.2.2.2.2.2.1 t.2.2.2.2.2.2.2.2.2.2.2.2.2.2.1 t.2.2.2.2.2.2.2.2.2.2.2.2.2.2.2.1 t.2.2.2.2.2.2.2.2.2.2.2.2.2.2.2.2.1 t.2.2.2.2.2.2.2.2.2.2.2.2.2.2.2.2.2.1 t.2.2.2.2.2.2.2.2.2.2.2.2.2.2.2.2.2.2.1 t.2.2.2.2.2.2.2.2.2.2.2.2.2.2.2.2.2.2.2.1 t.2.2.2.2.2.2.2.2.2.2.2.2.2.2.2.2.2.2.2.2.1 t.2.2.2.2.2.2.2.2.2.2.2.2.2.2.2.2.2.2.2.2.2.1 t.2.2.2.2.2.2.2.2.2.2.2.2.2.2.2.2.2.2.2.2.2.2.1 t.2.2.2.2.2.2.2.2.2.2.2.2.2.2.2.2.2.2.2.2.2.2.2.1 t.2.2.2.2.2.2.2.2.2.2.2.2.2.2.2.2.2.2.2.2.2.2.2.2) cutP1 (w, mean, mg, mb, lm, vs, ns, lo, mi, tl, tm, dp, un, gd, outers, base, s, Q, E, g, L', h₁, tk, o1, m0)
end C
end deal_tells
theorem deal_tells (w : World) (mean : ExcName → Option Value) (mg mb : Str → Option Value) (lm : Addr) (vs : List Value) (ns : List Int) (lo mi : Int) (tl tm : Tok) (hI : IntsAre vs ns) (hl : ns.length ≤ 4) (hs : ∀ k, k ≤ ns.length → 0 ≤ sizeA ns k ∧ sizeA ns k ≤ 5)
    (hlo : 0 ≤ lo ∧ lo ≤ 5) (hmi : 0 ≤ mi ∧ mi ≤ 5) :
   Tells Challenge.rw_re0065_01.row.prog w (hd1.heap_39 w.params) hd1.view_39 (looseW hd1.view_39 []) mean mg mb 2 87 [.ref lm, .int lo tl, .int mi tm] (fun h => h.IsList lm vs.toArray) (fun v h h' => ∃ t, v = .int (dealF ns lo mi) t) :=
  deal_tells.cutQ1.2 deal_tells.C.cutR1 w mean mg mb lm vs ns lo mi tl tm hI hl hs hlo hmi
end Mine
end
section
local macro_rules | `(tactic| omega) => `(tactic| lia)
namespace Mine
noncomputable def insN (l : Nat) (t : List Nat) (p : Nat) : List Nat := t.take p ++ l :: t.drop p
noncomputable def addN (g : List (List Nat)) (x : List Nat) : List (List Nat) := if (g.any fun y => y == x) = true then g else g ++ [x]
noncomputable def growTN (l : Nat) (g : List (List Nat)) (t : List Nat) : List (List Nat) := ((List.range (t.length + 1)).map (insN l t)).foldl addN g
noncomputable def growN (l : Nat) (ts : List (List Nat)) : List (List Nat) := ts.foldl (growTN l) []
noncomputable def textsN (ps : List Nat) : List (List Nat) := ps.foldl (fun ts l => growN l ts) [[]]
noncomputable def toS (φ : Nat → Nat) (t : List Nat) : Str := ⟨(t.map φ).toArray⟩
section
variable {φ : Nat → Nat} (hφ : ∀ x y, φ x < φ y ↔ x < y)
include hφ
theorem phi_inj {x y : Nat} (h : φ x = φ y) : x = y := by
  have h1 := hφ x y
  have h2 := hφ y x
  omega
theorem toS_beq (a b : List Nat) : (toS φ a == toS φ b) = (a == b) := by
  rw [beq_tl]
  show (a.map φ == b.map φ) = _
  cases h : (a == b) with
  | true => rw [beq_iff_eq] at h; rw [h]; exact beq_self_eq_true _
  | false =>
    cases h2 : (a.map φ == b.map φ) with
    | false => rfl
    | true =>
      rw [beq_iff_eq] at h2
      rw [map_inj (fun x _ y _ => phi_inj hφ) h2] at h
      rw [beq_self_eq_true] at h; cases h
omit hφ in
theorem insP_map (l : Nat) (t : List Nat) {p : Nat} (hp : p ≤ t.length) : insP (toS φ [l]) (toS φ t) p = toS φ (insN l t p) := by
  have hl : (toS φ t).length = t.length := by rw [← tl_length]; show (t.map φ).length = _; rw [List.length_map]
  refine tl_ext ?_
  unfold insP
  rw [Int.zero_add, tl_append, tl_append, tl_slice_to (by rw [hl]; exact hp), tl_slice_from (by omega) (by rw [hl]; omega)]
  show (t.map φ).take p ++ [φ l] ++ (t.map φ).drop (p : Int).toNat = (insN l t p).map φ
  unfold insN
  rw [List.map_append, List.map_cons, List.map_take, List.map_drop, Int.toNat_natCast, List.append_assoc]
  rfl
theorem addNew_map (g : List (List Nat)) (x : List Nat) : addNew (g.map (toS φ)) (toS φ x) = (addN g x).map (toS φ) := by
  have e : ((g.map (toS φ)).any fun y => y == toS φ x) = (g.any fun y => y == x) := by
    rw [List.any_map]
    congr 1
    funext y
    exact toS_beq hφ y x
  unfold addNew addN
  rw [e]
  split
  · rfl
  · rw [List.map_append]; rfl
theorem foldAdd_map : ∀ (xs g : List (List Nat)), (xs.map (toS φ)).foldl addNew (g.map (toS φ)) = (xs.foldl addN g).map (toS φ)
  | [], g => rfl
  | x :: xs, g => by
    rw [List.map_cons, List.foldl_cons, addNew_map hφ, List.foldl_cons]
    exact foldAdd_map xs _
theorem growT_map (l : Nat) (g : List (List Nat)) (t : List Nat) : growT (toS φ [l]) (g.map (toS φ)) (toS φ t) = (growTN l g t).map (toS φ) := by
  have hl : (toS φ t).length = t.length := by rw [← tl_length]; show (t.map φ).length = _; rw [List.length_map]
  unfold growT growTN
  rw [hl, ← foldAdd_map hφ, List.map_map]
  congr 1
  refine List.map_congr_left fun p hp => ?_
  have := List.mem_range.mp hp
  exact insP_map l t (by omega)
theorem growFold_map (l : Nat) : ∀ (ts g : List (List Nat)), (ts.map (toS φ)).foldl (growT (toS φ [l])) (g.map (toS φ)) = (ts.foldl (growTN l) g).map (toS φ)
  | [], g => rfl
  | t :: ts, g => by
    rw [List.map_cons, List.foldl_cons, growT_map hφ, List.foldl_cons]
    exact growFold_map l ts _
theorem textsFold_map : ∀ (ps : List Nat) (ts : List (List Nat)), (ps.map fun p => toS φ [p]).foldl (fun ts l => growF l ts) (ts.map (toS φ)) = (ps.foldl (fun ts l => growN l ts) ts).map (toS φ)
  | [], ts => rfl
  | p :: ps, ts => by
    rw [List.map_cons, List.foldl_cons, List.foldl_cons]
    have e : growF (toS φ [p]) (ts.map (toS φ)) = (growN p ts).map (toS φ) := growFold_map hφ p ts []
    rw [e]
    exact textsFold_map ps _
theorem texts_map (ps : List Nat) : textsF (ps.map fun p => toS φ [p]) = (textsN ps).map (toS φ) := by
  unfold textsF textsN
  have e : [Str.ofString ""] = [([] : List Nat)].map (toS φ) := by
    show [Str.ofString ""] = [(⟨#[]⟩ : Str)]
    decide +kernel
  rw [e]
  exact textsFold_map hφ ps _
end
theorem mem_foldAddN : ∀ (xs g : List (List Nat)) w, w ∈ xs.foldl addN g ↔ w ∈ g ∨ w ∈ xs
  | [], g, w => by simp
  | x :: xs, g, w => by
    rw [List.foldl_cons, mem_foldAddN xs]
    unfold addN
    split
    · rename_i h
      obtain ⟨y, hy, he⟩ := List.any_eq_true.mp h
      rw [beq_iff_eq] at he
      subst he
      constructor
      · rintro (h | h)
        · exact .inl h
        · exact .inr (.tail _ h)
      · rintro (h | h)
        · exact .inl h
        · rcases List.mem_cons.mp h with rfl | h
          · exact .inl hy
          · exact .inr h
    · simp only [List.mem_append, List.mem_cons, List.not_mem_nil, or_false, or_assoc]
theorem nodup_foldAddN : ∀ (xs g : List (List Nat)), g.Nodup → (xs.foldl addN g).Nodup
  | [], g, h => h
  | x :: xs, g, h => by
    rw [List.foldl_cons]
    refine nodup_foldAddN xs _ ?_
    unfold addN
    split
    · exact h
    · rename_i hn
      rw [List.nodup_append]
      refine ⟨h, by simp, fun a ha b hb => ?_⟩
      rw [List.mem_singleton.mp hb]
      intro e
      subst e
      exact hn (List.any_eq_true.mpr ⟨a, ha, beq_self_eq_true _⟩)
theorem mem_growFold (l : Nat) : ∀ (ts g : List (List Nat)) w, w ∈ ts.foldl (growTN l) g ↔ w ∈ g ∨ ∃ t ∈ ts, ∃ p, p ≤ t.length ∧ w = insN l t p
  | [], g, w => by simp
  | t :: ts, g, w => by
    rw [List.foldl_cons, mem_growFold l ts]
    unfold growTN
    rw [mem_foldAddN]
    constructor
    · rintro ((h | h) | ⟨t', ht, p, hp, e⟩)
      · exact .inl h
      · obtain ⟨p, hp, rfl⟩ := List.mem_map.mp h
        exact .inr ⟨t, .head _, p, by have := List.mem_range.mp hp; omega, rfl⟩
      · exact .inr ⟨t', .tail _ ht, p, hp, e⟩
    · rintro (h | ⟨t', ht, p, hp, e⟩)
      · exact .inl (.inl h)
      · rcases List.mem_cons.mp ht with rfl | ht
        · exact .inl (.inr (List.mem_map.mpr ⟨p, List.mem_range.mpr (by omega), e.symm⟩))
        · exact .inr ⟨t', ht, p, hp, e⟩
theorem nodup_growFold (l : Nat) : ∀ (ts g : List (List Nat)), g.Nodup → (ts.foldl (growTN l) g).Nodup
  | [], g, h => h
  | t :: ts, g, h => nodup_growFold l ts _ (nodup_foldAddN _ _ h)
theorem perm_insN (l : Nat) (t : List Nat) (p : Nat) : (insN l t p).Perm (l :: t) := by
  unfold insN
  refine List.perm_middle.trans ?_
  rw [List.take_append_drop]
theorem mem_textsFold : ∀ (ps : List Nat) (ts : List (List Nat)) (qs : List Nat), (∀ w, w ∈ ts ↔ w.Perm qs) → ∀ w, w ∈ ps.foldl (fun ts l => growN l ts) ts ↔ w.Perm (qs ++ ps)
  | [], ts, qs, h, w => by rw [List.append_nil]; exact h w
  | l :: ps, ts, qs, h, w => by
    rw [List.foldl_cons]
    have e : qs ++ l :: ps = (qs ++ [l]) ++ ps := by simp
    rw [e]
    refine mem_textsFold ps _ (qs ++ [l]) (fun w => ?_) w
    unfold growN
    rw [mem_growFold]
    constructor
    · rintro (h' | ⟨t, ht, p, hp, rfl⟩)
      · cases h'
      · exact (perm_insN l t p).trans ((((h t).mp ht).cons l).trans (List.perm_append_singleton l qs).symm)
    · intro hw
      refine .inr ?_
      have hm : l ∈ w := hw.mem_iff.mpr (List.mem_append_right _ (.head _))
      obtain ⟨a, b, rfl⟩ := List.append_of_mem hm
      refine ⟨a ++ b, (h _).mpr ?_, a.length, by simp, ?_⟩
      · have h1 : (l :: (a ++ b)).Perm (l :: qs) := List.perm_middle.symm.trans (hw.trans (List.perm_append_singleton l qs))
        exact List.Perm.cons_inv h1
      · unfold insN
        rw [List.take_left, List.drop_left]
theorem mem_textsN (ps w : List Nat) : w ∈ textsN ps ↔ w.Perm ps := by
  unfold textsN
  have := mem_textsFold ps [[]] [] (fun w => by rw [List.mem_singleton]; exact List.perm_nil.symm) w
  rwa [List.nil_append] at this
theorem nodup_textsFold : ∀ (ps : List Nat) (ts : List (List Nat)), ts.Nodup → (ps.foldl (fun ts l => growN l ts) ts).Nodup
  | [], ts, h => h
  | l :: ps, ts, h => nodup_textsFold ps _ (nodup_growFold l ts [] List.nodup_nil)
theorem nodup_textsN (ps : List Nat) : (textsN ps).Nodup := nodup_textsFold ps _ (by simp)
theorem textsN_perm {ps qs : List Nat} (h : ps.Perm qs) : (textsN ps).Perm (textsN qs) := by
  refine (List.perm_ext_iff_of_nodup (nodup_textsN ps) (nodup_textsN qs)).mpr fun w => ?_
  rw [mem_textsN, mem_textsN]
  exact ⟨fun q => q.trans h, fun q => q.trans h.symm⟩
end Mine
end
section
open PySem.Builtin PySem.Builtin.Str
namespace Mine
noncomputable def partsL (x : List Nat) (w : Nat) : Nat → List Nat → List (List Nat)
  | a, [] => [(x.drop a).take (x.length - a)]
  | a, c :: r => (x.drop a).take (c - a) :: partsL x w (c + w) r
theorem parts_tl (x : Str) (w : Nat) : ∀ (cuts : List Nat) (a : Nat), (StrLaws.partsFrom x w a cuts).map tl = partsL (tl x) w a cuts
  | [], a => by
    show [tl (strSub x a x.length)] = [_]
    rw [show tl (strSub x a x.length) = ((tl x).drop a).take (x.length - a) from StrLaws.strSub_toList .., tl_length]
  | c :: r, a => by
    show tl (strSub x a c) :: (StrLaws.partsFrom x w (c + w) r).map tl = _ :: _
    rw [parts_tl x w r (c + w), show tl (strSub x a c) = ((tl x).drop a).take (c - a) from StrLaws.strSub_toList ..]
noncomputable def findL (g w : List Nat) (i j : Int) : Int := match occL g w (fromIndex g.length i) (min (fromIndex g.length j) g.length) 1 with | k :: _ => (k : Int) | [] => -1
theorem find_tl (x y : Str) (i j : Int) : find4 x y i j = findL (tl x) (tl y) i j := by
  unfold find4 findL
  rw [occ_L, tl_length]
  all_goals rfl
noncomputable def scanL (g : List Nat) : List (List Nat) → Int → Int → Bool
  | [], _, _ => true
  | w :: ws, sp, ep => if findL g w sp ep < 0 then false else scanL g ws (findL g w sp ep + w.length) ep
theorem scan_tl (g : Str) : ∀ (ws : List Str) (sp ep : Int), ellScan g ws sp ep = scanL (tl g) (ws.map tl) sp ep
  | [], _, _ => rfl
  | w :: ws, sp, ep => by
    show (if _ then _ else _) = (if _ then _ else _)
    rw [find_tl, scan_tl g ws, tl_length]
noncomputable def cL (g : List Nat) (ws : List (List Nat)) (sp ep : Int) : Bool := if sp > ep then false else scanL g ws sp ep
noncomputable def startsL (x y : List Nat) : Bool := decide (0 + y.length ≤ x.length) && subAtL x y 0
noncomputable def endsL (x y : List Nat) : Bool := decide (0 + y.length ≤ x.length) && subAtL x y (x.length - y.length)
theorem starts_tl (x y : Str) : Txt.startswith x y = startsL (tl x) (tl y) := by
  unfold Txt.startswith startsL
  rw [subAt_L, tl_length, tl_length]
theorem ends_tl (x y : Str) : Txt.endswith x y = endsL (tl x) (tl y) := by
  unfold Txt.endswith endsL
  rw [subAt_L, tl_length, tl_length]
noncomputable def bzL (g pl : List Nat) (all init : List (List Nat)) (sp : Int) : Bool :=
  if pl.length = 0 then cL g all sp g.length
  else if endsL g pl = true then cL g init sp ((g.length : Int) - pl.length) else false
noncomputable def bL (g : List Nat) (ws : List (List Nat)) (sp : Int) : Bool := bzL g (ws.getLastD []) ws ws.dropLast sp
noncomputable def aL (g p0 : List Nat) (all rest : List (List Nat)) : Bool :=
  if p0.length = 0 then bL g all 0
  else if startsL g p0 = true then bL g rest p0.length else false
noncomputable def ellFL (D w g : List Nat) : Bool :=
  if (occL w D 0 w.length 1).isEmpty = true then w == g
  else aL g ((partsL w 3 0 (occL w D 0 w.length (w.length + 1))).headD []) (partsL w 3 0 (occL w D 0 w.length (w.length + 1))) (partsL w 3 0 (occL w D 0 w.length (w.length + 1))).tail
theorem c_tl (g : Str) (ws : List Str) (sp ep : Int) : ellC g ws sp ep = cL (tl g) (ws.map tl) sp ep := by
  unfold ellC cL; rw [scan_tl]
theorem tl_empty : tl Str.empty = [] := by decide
theorem bz_tl (g pl : Str) (all init : List Str) (sp : Int) : ellBz g pl all init sp = bzL (tl g) (tl pl) (all.map tl) (init.map tl) sp := by
  unfold ellBz bzL
  rw [c_tl, c_tl, ends_tl, tl_length, tl_length]
theorem getLastD_map {α β : Type} (f : α → β) : ∀ (l : List α) (a : α), f (l.getLastD a) = (l.map f).getLastD (f a)
  | [], _ => rfl
  | x :: l, a => by rw [List.getLastD_cons, List.map_cons, List.getLastD_cons]; exact getLastD_map f l x
theorem b_tl (g : Str) (ws : List Str) (sp : Int) : ellB g ws sp = bL (tl g) (ws.map tl) sp := by
  unfold ellB bL
  rw [bz_tl, getLastD_map tl, tl_empty, List.map_dropLast]
theorem a_tl (g p0 : Str) (all rest : List Str) : ellA g p0 all rest = aL (tl g) (tl p0) (all.map tl) (rest.map tl) := by
  unfold ellA aL
  rw [b_tl, b_tl, starts_tl, tl_length]
theorem ell_tl (want got : Str) : ellF want got = ellFL (tl dots) (tl want) (tl got) := by
  unfold ellF ellFL
  rw [occ_L, tl_length]
  split
  · exact beq_tl want got
  · rename_i h
    have hp := (split_parts (x := want) (by rw [occ_L, ← Bool.not_eq_true]; exact h)).1
    rw [hp, a_tl, occ_L, ← parts_tl, ← List.map_tail]
    congr 1
    cases StrLaws.partsFrom want 3 0 (occL (tl want) (tl dots) 0 want.length (want.length + 1)) with
    | nil => exact tl_empty
    | cons a l => rfl
end Mine
end
section
local macro_rules | `(tactic| omega) => `(tactic| lia)
set_option maxHeartbeats 8000000
namespace Mine
noncomputable def allD : List (List Int) := [[], [1], [2], [1, 2], [3], [1, 3], [2, 3], [1, 2, 3], [4], [1, 4], [2, 4], [1, 2, 4], [3, 4], [1, 3, 4], [2, 3, 4], [1, 2, 3, 4]]
theorem rowD_menu (c j : Int) : rowD c j ∈ [1, 2, 3, 0, 127] := by
  have := rowD_range c j
  unfold Menu at this
  simp only [List.mem_cons, List.not_mem_nil, or_false]; exact this
theorem marks_all : ([1, 2, 3, 0, 127].all fun (a : Int) => [1, 2, 3, 0, 127].all fun b => [1, 2, 3, 0, 127].all fun c => allD.contains (marksL a b c)) = true := by decide +kernel
theorem marksC_in (c : Int) : marksC c ∈ allD := by
  have h1 := List.all_eq_true.mp marks_all _ (rowD_menu c 0)
  have h2 := List.all_eq_true.mp h1 _ (rowD_menu c 1)
  have h3 := List.all_eq_true.mp h2 _ (rowD_menu c 2)
  exact List.contains_iff_mem.mp h3
theorem allD_len : (allD.all fun l => decide (l.length ≤ 4)) = true := by decide +kernel
theorem marksC_len (c : Int) : (marksC c).length ≤ 4 := by
  have := List.all_eq_true.mp allD_len _ (marksC_in c)
  exact of_decide_eq_true this
noncomputable def code0 (cs : List Int) : Int := 1 + (cs.getD 6 0).fmod 40000
noncomputable def code1 (cs : List Int) : Int := code0 cs + 1 + (cs.getD 7 0).fmod 7000
noncomputable def code2 (cs : List Int) : Int := code1 cs + 1 + (cs.getD 8 0).fmod 7000
noncomputable def codeC (cs : List Int) (i : Nat) : Int := [code0 cs, code1 cs, code2 cs].getD i 0
noncomputable def signS (cs : List Int) (i : Nat) : Str := ⟨#[(codeC cs i).toNat]⟩
noncomputable def chrI (a : Int) : Str := ⟨#[a.toNat]⟩
theorem code_facts (cs : List Int) : 1 ≤ code0 cs ∧ code0 cs < code1 cs ∧ code1 cs < code2 cs ∧ code2 cs ≤ 54000 := by
  have a0 := Int.fmod_nonneg_of_pos (cs.getD 6 0) (show (0 : Int) < 40000 by decide)
  have a1 := Int.fmod_lt_of_pos (cs.getD 6 0) (show (0 : Int) < 40000 by decide)
  have b0 := Int.fmod_nonneg_of_pos (cs.getD 7 0) (show (0 : Int) < 7000 by decide)
  have b1 := Int.fmod_lt_of_pos (cs.getD 7 0) (show (0 : Int) < 7000 by decide)
  have c0 := Int.fmod_nonneg_of_pos (cs.getD 8 0) (show (0 : Int) < 7000 by decide)
  have c1 := Int.fmod_lt_of_pos (cs.getD 8 0) (show (0 : Int) < 7000 by decide)
  unfold code2 code1 code0
  omega
theorem code_range (cs : List Int) : ∀ a ∈ [code0 cs, code1 cs, code2 cs], 1 ≤ a ∧ a ≤ 54000 := by
  obtain ⟨h1, h2, h3, h4⟩ := code_facts cs
  refine all_cons ⟨h1, ?_⟩ (all_cons ⟨?_, ?_⟩ (all_cons ⟨?_, h4⟩ all_nil)) <;> omega
theorem paired_strs {α : Type} {f : α → Str} : ∀ {as : List α} {ys : List Value}, Paired (fun a y => ∃ t, y = Value.str (f a) t) as ys → StrsAre ys (as.map f)
  | [], _, .nil => .nil
  | a :: as, _, .cons ⟨t, e⟩ r => by subst e; exact .cons _ _ (paired_strs r)
theorem strs_at {vs : List Value} {a b c : Str} (h : StrsAre vs [a, b, c]) {i : Nat} (hi : i < 3) : ∃ t, vs[(0 + (i : Int)).toNat]? = some (.str ([a, b, c].getD i (Str.ofString "")) t) := by
  have e : (0 + (i : Int)).toNat = i := by omega
  rw [e]
  exact h.get i _ (by simp [hi])
noncomputable def tabC (i j : Nat) : Int := ([[0, -1, -1], [1, 0, -1], [1, 1, 0]].getD i []).getD j 0
theorem sign_len (cs : List Int) {i : Nat} (hi : i < 3) : ([signS cs 0, signS cs 1, signS cs 2].getD i (Str.ofString "")).length ≤ 1000 := by
  have : i = 0 ∨ i = 1 ∨ i = 2 := by omega
  rcases this with rfl | rfl | rfl <;> exact (by decide : 1 ≤ 1000)
theorem coll_one {a b : Nat} : collF ⟨#[a]⟩ ⟨#[b]⟩ = if a < b then -1 else if b < a then 1 else 0 := by
  have h1 : decide (([b] : List Nat) < [a]) = decide (b < a) := by
    refine decide_eq_decide.mpr ?_
    rw [List.cons_lt_cons_iff]
    constructor
    · rintro (h | ⟨_, h⟩)
      · exact h
      · exact absurd h (by decide)
    · exact .inl
  have h2 : decide (([a] : List Nat) < [b]) = decide (a < b) := by
    refine decide_eq_decide.mpr ?_
    rw [List.cons_lt_cons_iff]
    constructor
    · rintro (h | ⟨_, h⟩)
      · exact h
      · exact absurd h (by decide)
    · exact .inl
  unfold collF
  show b2i (decide (([b] : List Nat) < [a])) - b2i (decide (([a] : List Nat) < [b])) = _
  rw [h1, h2]
  by_cases h : a < b
  · have h' : ¬ b < a := by omega
    rw [decide_eq_true h, decide_eq_false h', if_pos h]; rfl
  · rw [decide_eq_false h, if_neg h]
    by_cases h3 : b < a
    · rw [decide_eq_true h3, if_pos h3]; rfl
    · rw [decide_eq_false h3, if_neg h3]; rfl
theorem step_lt {f : Nat → Nat} (h : ∀ n, f n < f (n + 1)) (x : Nat) : ∀ d, f x < f (x + d + 1)
  | 0 => h x
  | d + 1 => Nat.lt_trans (step_lt h x d) (h (x + d + 1))
theorem mono_of_step {f : Nat → Nat} (h : ∀ n, f n < f (n + 1)) (x y : Nat) : f x < f y ↔ x < y := by
  constructor
  · intro q
    rcases Nat.lt_trichotomy x y with r | r | r
    · exact r
    · subst r; exact absurd q (Nat.lt_irrefl _)
    · obtain ⟨d, rfl⟩ := Nat.exists_eq_add_of_lt r
      exact absurd (Nat.lt_trans q (step_lt h y d)) (Nat.lt_irrefl _)
  · intro r
    obtain ⟨d, rfl⟩ := Nat.exists_eq_add_of_lt r
    exact step_lt h x d
theorem toNat_lt' {a b : Int} (h0 : 1 ≤ a) (h : a < b) : a.toNat < b.toNat := by omega
theorem code_lt01 (cs : List Int) : (codeC cs 0).toNat < (codeC cs 1).toNat := toNat_lt' (code_facts cs).1 (code_facts cs).2.1
theorem code_lt12 (cs : List Int) : (codeC cs 1).toNat < (codeC cs 2).toNat := toNat_lt' (Int.le_trans (code_facts cs).1 (Int.le_of_lt (code_facts cs).2.1)) (code_facts cs).2.2.1
theorem coll_tab (cs : List Int) {i j : Nat} (hi : i < 3) (hj : j < 3) : collF ([signS cs 0, signS cs 1, signS cs 2].getD i (Str.ofString "")) ([signS cs 0, signS cs 1, signS cs 2].getD j (Str.ofString "")) = tabC i j := by
  obtain ⟨h1, h2, h3, h4⟩ := code_facts cs
  have hi3 : i = 0 ∨ i = 1 ∨ i = 2 := by omega
  have hj3 : j = 0 ∨ j = 1 ∨ j = 2 := by omega
  have l01 := code_lt01 cs
  have l12 := code_lt12 cs
  have l02 := Nat.lt_trans l01 l12
  rcases hi3 with rfl | rfl | rfl <;> rcases hj3 with rfl | rfl | rfl <;> refine (coll_one (a := (codeC cs _).toNat) (b := (codeC cs _).toNat)).trans ?_
  · rw [if_neg (Nat.lt_irrefl _), if_neg (Nat.lt_irrefl _)]; rfl
  · rw [if_pos l01]; rfl
  · rw [if_pos l02]; rfl
  · rw [if_neg (Nat.lt_asymm l01), if_pos l01]; rfl
  · rw [if_neg (Nat.lt_irrefl _), if_neg (Nat.lt_irrefl _)]; rfl
  · rw [if_pos l12]; rfl
  · rw [if_neg (Nat.lt_asymm l02), if_pos l02]; rfl
  · rw [if_neg (Nat.lt_asymm l12), if_pos l12]; rfl
  · rw [if_neg (Nat.lt_irrefl _), if_neg (Nat.lt_irrefl _)]; rfl
theorem tab_eq {i j k : Nat} (h : 0 + (i : Int) = (k : Int)) : tabC i j = (([[0, -1, -1], [1, 0, -1], [1, 1, 0]] : List (List Int)).getD k []).getD (0 + (j : Int)).toNat 0 := by
  have e : i = k := by omega
  have e2 : (0 + (j : Int)).toNat = j := by omega
  subst e
  rw [e2]; rfl
noncomputable def picksI (cs : List Int) : List Int := (rangeL 0 5).map fun a => (cs.getD a.toNat 0).fmod 3
noncomputable def sgn (sg : List Str) (a : Int) : Str := sg.getD a.toNat (Str.ofString "")
noncomputable def StrsL (sg : List Str) : Prop := sg.length = 3 ∧ ∀ x ∈ sg, x.length = 1
theorem signs_one (cs : List Int) : StrsL [signS cs 0, signS cs 1, signS cs 2] := ⟨rfl, all_cons rfl (all_cons rfl (all_cons rfl all_nil))⟩
theorem picks_range (cs : List Int) : ∀ a ∈ picksI cs, 0 ≤ a ∧ a < 3 := fun a ha => by
  obtain ⟨i, _, rfl⟩ := List.mem_map.mp ha
  exact ⟨Int.fmod_nonneg_of_pos _ (by decide), Int.fmod_lt_of_pos _ (by decide)⟩
theorem sgn_mem {sg : List Str} (hS : StrsL sg) {a : Int} (ha : 0 ≤ a ∧ a < 3) : sgn sg a ∈ sg ∧ sg[a.toNat]? = some (sgn sg a) := by
  have h : a.toNat < sg.length := by rw [hS.1]; omega
  unfold sgn
  rw [List.getD_eq_getElem?_getD, List.getElem?_eq_getElem h]
  exact ⟨List.getElem_mem h, rfl⟩
theorem strs_sgn {vs : List Value} {sg : List Str} (h : StrsAre vs sg) (hS : StrsL sg) {a : Int} (ha : 0 ≤ a ∧ a < 3) : ∃ t, vs[a.toNat]? = some (.str (sgn sg a) t) := h.get _ _ (sgn_mem hS ha).2
theorem sgn_one {sg : List Str} (hS : StrsL sg) {pk : List Int} (hp : ∀ a ∈ pk, 0 ≤ a ∧ a < 3) : ∀ x ∈ pk.map (sgn sg), x.length = 1 := fun x hx => by
  obtain ⟨a, ha, rfl⟩ := List.mem_map.mp hx
  exact hS.2 _ (sgn_mem hS (hp a ha)).1
noncomputable def descF (t : Str) : List Int := (rangeL 1 4).filter fun k => decide (collF (Txt.item t (k - 1)) (Txt.item t k) = 1)
noncomputable def cntF (D : List Int) : List Str → Int
  | [] => 0
  | t :: ts => (if descF t = D then 1 else 0) + cntF D ts
theorem cntF_app (D : List Int) : ∀ (a b : List Str), cntF D (a ++ b) = cntF D a + cntF D b
  | [], b => (Int.zero_add _).symm
  | t :: a, b => by
    rw [List.cons_append, cntF, cntF, cntF_app D a b, Int.add_assoc]
theorem cntF_take (D : List Int) (T : List Str) {i : Nat} (hi : i < T.length) : cntF D (T.take (i + 1)) = cntF D (T.take i) + (if descF (T.getD i (Str.ofString "")) = D then 1 else 0) := by
  have e : T.take (i + 1) = T.take i ++ [T.getD i (Str.ofString "")] := by
    rw [List.take_add_one]; simp [hi]
  rw [e, cntF_app, cntF, cntF, Int.add_zero]
noncomputable def exactF (sg : List Str) (pk D : List Int) : Int := cntF D (textsF (pk.map (sgn sg)))
theorem allD_len4 {D : List Int} (h : D ∈ allD) : D.length ≤ 4 := of_decide_eq_true (List.all_eq_true.mp allD_len _ h)
theorem bne_no {b : Bool} (h : (b != b) = true) : False := by rw [bne_self_eq_false] at h; cases h
theorem beq_dec (a b : Int) : (a == b) = decide (a = b) := by
  by_cases h : a = b
  · rw [decide_eq_true h]; exact beq_iff_eq.mpr h
  · rw [decide_eq_false h]; exact beq_eq_false_iff_ne.mpr h
noncomputable def someL (n : Nat) : List Int := (rangeL 1 4).filter fun p => decide (Int.fmod (Int.fdiv (0 + (n : Int)) (2 ^ (p - 1).toNat)) 2 = 1)
noncomputable def withinB (S D : List Int) : Bool := decide (S.filter (fun p => !(D.any fun x => x == p)) = [])
noncomputable def dueI (S D : List Int) : Int := 2 * (((rangeL 1 4).filter fun p => (S.any fun x => x == p) != (D.any fun x => x == p)).length : Int)
noncomputable def totA (D : List Int) (c0 c1 : Nat) : Nat → Int
  | 0 => 0
  | n + 1 => if withinB (someL n) D = true then totA D c0 c1 n + (-1) ^ (Int.fdiv (dueI (someL n) D) 2).toNat * dealF (someL n) c0 c1 else totA D c0 c1 n
theorem some_sizes : ((List.range 16).all fun n => (List.range ((someL n).length + 1)).all fun k => decide (0 ≤ sizeA (someL n) k) && decide (sizeA (someL n) k ≤ 5)) = true := by decide +kernel
theorem some_size {i : Nat} (hi : i < 16) : ∀ k, k ≤ (someL i).length → 0 ≤ sizeA (someL i) k ∧ sizeA (someL i) k ≤ 5 := fun k hk => by
  have h1 := List.all_eq_true.mp some_sizes i (List.mem_range.mpr hi)
  have h2 := List.all_eq_true.mp h1 k (List.mem_range.mpr (by omega))
  rw [Bool.and_eq_true, decide_eq_true_eq, decide_eq_true_eq] at h2
  exact h2
theorem cnt_le {pk : List Int} (h : pk.length = 5) (a : Int) : 0 ≤ ((pk.count a : Nat) : Int) ∧ ((pk.count a : Nat) : Int) ≤ 5 := by
  have := List.count_le_length (a := a) (l := pk)
  omega
theorem deal_mul (S : List Int) (a b : Int) {n : Nat} (hn : n ≤ 4) : IntMulOk ((-1) ^ n) (dealF S a b) := by
  have h1 : Builtin.Int.intBits ((-1 : Int) ^ n) ≤ 1 := by
    have : n = 0 ∨ n = 1 ∨ n = 2 ∨ n = 3 ∨ n = 4 := by omega
    rcases this with h | h | h | h | h <;> rw [h] <;> decide
  have h2 : Builtin.Int.intBits (dealF S a b) ≤ 9 := bits_fmod_by (by decide) (by decide +kernel)
  exact mulOk_of_bits h1 h2 (by omega)
theorem pow2_ne (a : Int) : (2 : Int) ^ (a - 1).toNat ≠ 0 := Int.ne_of_gt (Int.pow_pos (by decide))
theorem pow2_le {a : Int} (h1 : 1 ≤ a) (h4 : a ≤ 4) : 1 ≤ (2 : Int) ^ (a - 1).toNat ∧ (2 : Int) ^ (a - 1).toNat ≤ 8 := by
  have : (a - 1).toNat = 0 ∨ (a - 1).toNat = 1 ∨ (a - 1).toNat = 2 ∨ (a - 1).toNat = 3 := by omega
  rcases this with h | h | h | h <;> rw [h] <;> decide
theorem someL_len (n : Nat) : (someL n).length ≤ 4 := Nat.le_trans (List.length_filter_le _ _) (by simp [rangeL])
noncomputable def kF (x y : Nat) : Nat := match Nat.beq x y with | true => 0 | false => 2
noncomputable def wrL (ns : List Int) (sign : List Nat) : List Nat := 49 :: ([1, 2, 3, 4].flatMap fun (i : Nat) => (if (ns.any fun x => x == (i : Int)) = true then sign else []) ++ [49 + i])
theorem some_in : ((List.range 16).all fun n => allD.contains (someL n)) = true := by decide +kernel
theorem wr_all : (allD.all fun S => tl (wrS S (Str.ofString ",") 4) == wrL S [44] && tl (wrS S (Str.ofString "...") 4) == wrL S [46, 46, 46]) = true := by decide +kernel
theorem ell_chk : (allD.all fun D => allD.all fun S => ellFL [46, 46, 46] (wrL D [46, 46, 46]) (wrL S [44]) == withinB S D) = true := by decide +kernel
theorem lev_chk : (allD.all fun D => allD.all fun S => fastLev kF (wrL S [44]) (wrL D [44]) (dueI S D).toNat && decide (0 ≤ dueI S D)) = true := by decide +kernel
theorem cost_chk : ([44, 49, 50, 51, 52, 53].all fun x => [44, 49, 50, 51, 52, 53].all fun y => costN x y == (kF x y : Int)) = true := by decide +kernel
theorem in_chk : (allD.all fun D => (wrL D [44]).all fun x => [44, 49, 50, 51, 52, 53].contains x) = true := by decide +kernel
theorem someL_in {i : Nat} (hi : i < 16) : someL i ∈ allD := List.contains_iff_mem.mp (List.all_eq_true.mp some_in i (List.mem_range.mpr hi))
theorem wr_com {S : List Int} (h : S ∈ allD) : tl (wrS S (Str.ofString ",") 4) = wrL S [44] ∧ tl (wrS S (Str.ofString "...") 4) = wrL S [46, 46, 46] := by
  have := List.all_eq_true.mp wr_all S h
  rw [Bool.and_eq_true, beq_iff_eq, beq_iff_eq] at this
  exact this
theorem ell_law (i : Nat) (hi : i < 16) {D : List Int} (hD : D ∈ allD) : ellF (wrS D (Str.ofString "...") 4) (wrS (someL i) (Str.ofString ",") 4) = withinB (someL i) D := by
  have h := beq_iff_eq.mp (List.all_eq_true.mp (List.all_eq_true.mp ell_chk D hD) _ (someL_in hi))
  rw [ell_tl, (wr_com hD).2, (wr_com (someL_in hi)).1]
  exact h
theorem cost_kF {S D : List Int} (hS : S ∈ allD) (hD : D ∈ allD) : ∀ y ∈ wrL S [44], ∀ x ∈ wrL D [44], costN y x = (kF y x : Int) := fun y hy x hx => by
  have h1 := List.contains_iff_mem.mp (List.all_eq_true.mp (List.all_eq_true.mp in_chk S hS) y hy)
  have h2 := List.contains_iff_mem.mp (List.all_eq_true.mp (List.all_eq_true.mp in_chk D hD) x hx)
  exact beq_iff_eq.mp (List.all_eq_true.mp (List.all_eq_true.mp cost_chk y h1) x h2)
theorem lev_law1 (i : Nat) (hi : i < 16) {D : List Int} (hD : D ∈ allD) : levL costN (tl (wrS (someL i) (Str.ofString ",") 4)) (tl (wrS D (Str.ofString ",") 4)) (dueI (someL i) D - 1 + Int.fmod (0 + (i : Int)) 3) = dueI (someL i) D := by
  have hS := someL_in hi
  have h := List.all_eq_true.mp (List.all_eq_true.mp lev_chk D hD) _ hS
  rw [Bool.and_eq_true, decide_eq_true_eq] at h
  have h0 := Int.fmod_nonneg_of_pos (0 + (i : Int)) (show (0 : Int) < 3 by decide)
  rw [(wr_com hD).1, (wr_com hS).1]
  have := lev_fast (cost := costN) (cost_kF hD hS) (cost_kF hS hD) h.1 (-1 + Int.fmod (0 + (i : Int)) 3) (by omega)
  rw [Int.toNat_of_nonneg h.2] at this
  rw [← this]
  congr 1
  omega
noncomputable def rep (c0 c1 : Nat) : List Nat := List.replicate c0 0 ++ List.replicate c1 1 ++ List.replicate (5 - c0 - c1) 2
noncomputable def descN (t : List Nat) : List Int := (rangeL 1 4).filter fun k => decide (t.getD k.toNat 0 < t.getD (k - 1).toNat 0)
noncomputable def words5 : List (List Nat) := [0, 1, 2].flatMap fun a => [0, 1, 2].flatMap fun b => [0, 1, 2].flatMap fun c => [0, 1, 2].flatMap fun d => [0, 1, 2].map fun e => [a, b, c, d, e]
noncomputable def toI (w : List Nat) : List Int := w.map fun (n : Nat) => (n : Int)
theorem perm_chk : (words5.all fun w => w.isPerm (rep (w.count 0) (w.count 1))) = true := by decide +kernel
theorem cnt_chk : (words5.all fun w => (toI w).count 0 == w.count 0 && (toI w).count 1 == w.count 1 && Nat.ble (w.count 0 + w.count 1) 5) = true := by decide +kernel
noncomputable def macB (c0 c1 : Nat) (D : List Int) : Bool := (((textsN (rep c0 c1)).countP (fun t => descN t == D) : Nat) : Int) == totA D c0 c1 16
theorem mac_chk : ((List.range 6).all fun c0 => (List.range (6 - c0)).all fun c1 => allD.all fun D => macB c0 c1 D) = true := by decide +kernel
theorem word_in {a b c d e : Nat} (ha : a < 3) (hb : b < 3) (hc : c < 3) (hd : d < 3) (he : e < 3) : [a, b, c, d, e] ∈ words5 := by
  have h3 : ∀ {x : Nat}, x < 3 → x ∈ [0, 1, 2] := fun {x} h => List.mem_range.mpr h
  exact List.mem_flatMap.mpr ⟨a, h3 ha, List.mem_flatMap.mpr ⟨b, h3 hb, List.mem_flatMap.mpr ⟨c, h3 hc, List.mem_flatMap.mpr ⟨d, h3 hd, List.mem_map.mpr ⟨e, h3 he, rfl⟩⟩⟩⟩⟩
theorem desc_toS {φ : Nat → Nat} (hφ : ∀ x y, φ x < φ y ↔ x < y) {t : List Nat} (ht : t.length = 5) : descF (toS φ t) = descN t := by
  have hl : (toS φ t).length = 5 := by rw [← tl_length]; show (t.map φ).length = 5; rw [List.length_map, ht]
  have hit : ∀ i : Nat, i < 5 → Txt.item (toS φ t) (i : Int) = ⟨#[φ (t.getD i 0)]⟩ := fun i hi => tl_ext (by
    rw [tl_item (by rw [hl]; exact hi)]
    show [(t.map φ).getD i 0] = [φ (t.getD i 0)]
    rw [List.getD_eq_getElem?_getD, List.getD_eq_getElem?_getD, List.getElem?_map, List.getElem?_eq_getElem (by rw [ht]; exact hi)]
    rfl)
  unfold descF descN
  refine List.filter_congr fun k hk => ?_
  have hk2 : 1 ≤ k ∧ k ≤ 4 := by
    simp only [rangeL, List.mem_map, List.mem_range] at hk
    omega
  have e1 : k = ((k.toNat : Nat) : Int) := by omega
  have e2 : k - 1 = (((k - 1).toNat : Nat) : Int) := by omega
  have h1 := hit k.toNat (by omega)
  have h2 := hit (k - 1).toNat (by omega)
  rw [← e1] at h1
  rw [← e2] at h2
  rw [h1, h2, coll_one]
  refine decide_eq_decide.mpr ?_
  have q1 := hφ (t.getD (k - 1).toNat 0) (t.getD k.toNat 0)
  have q2 := hφ (t.getD k.toNat 0) (t.getD (k - 1).toNat 0)
  split
  · rename_i h; rw [q1] at h; constructor
    · intro q; exact absurd q (by decide)
    · intro q; omega
  · split
    · rename_i h; exact ⟨fun _ => q2.mp h, fun _ => rfl⟩
    · rename_i h; exact ⟨fun q => absurd q (by decide), fun q => absurd (q2.mpr q) h⟩
theorem cntF_map {φ : Nat → Nat} (hφ : ∀ x y, φ x < φ y ↔ x < y) (D : List Int) : ∀ ts : List (List Nat), (∀ t ∈ ts, t.length = 5) → cntF D (ts.map (toS φ)) = ((ts.countP (fun t => descN t == D) : Nat) : Int)
  | [], _ => rfl
  | t :: ts, h => by
    rw [List.map_cons, cntF, cntF_map hφ D ts fun x hx => h x (.tail _ hx), desc_toS hφ (h t (.head _)), List.countP_cons]
    by_cases q : descN t = D
    · rw [if_pos q, if_pos (beq_iff_eq.mpr q)]; omega
    · rw [if_neg q, if_neg (by rw [beq_iff_eq]; exact q)]; omega
theorem mac_law {φ : Nat → Nat} (hφ : ∀ x y, φ x < φ y ↔ x < y) {w : List Nat} (hw : w ∈ words5) {D : List Int} (hD : D ∈ allD) : cntF D (textsF (w.map fun p => toS φ [p])) = totA D ((toI w).count 0) ((toI w).count 1) 16 := by
  have hc := List.all_eq_true.mp cnt_chk w hw
  rw [Bool.and_eq_true, Bool.and_eq_true, beq_iff_eq, beq_iff_eq, Nat.ble_eq] at hc
  obtain ⟨⟨hc0, hc1⟩, hcs⟩ := hc
  have hp := List.isPerm_iff.mp (List.all_eq_true.mp perm_chk w hw)
  have hl : w.length = 5 := by
    rw [hp.length_eq]
    unfold rep
    rw [List.length_append, List.length_append, List.length_replicate, List.length_replicate, List.length_replicate]
    omega
  rw [texts_map hφ, cntF_map hφ D _ fun t ht => by rw [((mem_textsN w t).mp ht).length_eq, hl], (textsN_perm hp).countP_eq, hc0, hc1]
  have h1 := List.all_eq_true.mp mac_chk (w.count 0) (List.mem_range.mpr (by omega))
  have h2 := List.all_eq_true.mp h1 (w.count 1) (List.mem_range.mpr (by omega))
  exact beq_iff_eq.mp (List.all_eq_true.mp h2 D hD)
noncomputable def phC (cs : List Int) (p : Nat) : Nat := if p = 0 then (codeC cs 0).toNat else if p = 1 then (codeC cs 1).toNat else (codeC cs 2).toNat + (p - 2)
theorem phC_mono (cs : List Int) (x y : Nat) : phC cs x < phC cs y ↔ x < y := mono_of_step (fun n => by
  match n with
  | 0 => exact code_lt01 cs
  | 1 => exact code_lt12 cs
  | n + 2 => exact Nat.add_lt_add_left (Nat.lt_succ_self n) _) x y
theorem sgn_phC (cs : List Int) {p : Nat} (hp : p < 3) : sgn [signS cs 0, signS cs 1, signS cs 2] (p : Int) = toS (phC cs) [p] := by
  have : p = 0 ∨ p = 1 ∨ p = 2 := by omega
  rcases this with rfl | rfl | rfl <;> rfl
theorem law_eq (cs : List Int) {D : List Int} (hD : D ∈ allD) : exactF [signS cs 0, signS cs 1, signS cs 2] (picksI cs) D = totA D ((picksI cs).count 0) ((picksI cs).count 1) 16 := by
  have hr := picks_range cs
  obtain ⟨a, ea⟩ : ∃ a : Nat, (cs.getD 0 0).fmod 3 = a := ⟨_, (Int.toNat_of_nonneg (Int.fmod_nonneg_of_pos _ (by decide))).symm⟩
  obtain ⟨b, eb⟩ : ∃ a : Nat, (cs.getD 1 0).fmod 3 = a := ⟨_, (Int.toNat_of_nonneg (Int.fmod_nonneg_of_pos _ (by decide))).symm⟩
  obtain ⟨c, ec⟩ : ∃ a : Nat, (cs.getD 2 0).fmod 3 = a := ⟨_, (Int.toNat_of_nonneg (Int.fmod_nonneg_of_pos _ (by decide))).symm⟩
  obtain ⟨d, ed⟩ : ∃ a : Nat, (cs.getD 3 0).fmod 3 = a := ⟨_, (Int.toNat_of_nonneg (Int.fmod_nonneg_of_pos _ (by decide))).symm⟩
  obtain ⟨e, ee⟩ : ∃ a : Nat, (cs.getD 4 0).fmod 3 = a := ⟨_, (Int.toNat_of_nonneg (Int.fmod_nonneg_of_pos _ (by decide))).symm⟩
  have hpk : picksI cs = toI [a, b, c, d, e] := by
    show [(cs.getD 0 0).fmod 3, (cs.getD 1 0).fmod 3, (cs.getD 2 0).fmod 3, (cs.getD 3 0).fmod 3, (cs.getD 4 0).fmod 3] = _
    rw [ea, eb, ec, ed, ee]; rfl
  rw [hpk] at hr
  have hlt : ∀ p ∈ [a, b, c, d, e], p < 3 := fun p hp => by
    have := (hr (p : Int) (List.mem_map.mpr ⟨p, hp, rfl⟩)).2
    omega
  rw [hpk, ← mac_law (phC_mono cs) (word_in (hlt a (by simp)) (hlt b (by simp)) (hlt c (by simp)) (hlt d (by simp)) (hlt e (by simp))) hD]
  unfold exactF toI
  rw [List.map_map]
  congr 2
  exact List.map_congr_left fun p hp => sgn_phC cs (hlt p hp)
end Mine
end
section
set_option maxHeartbeats 8000000
set_option rowWalk.seconds 0
namespace Mine
theorem tup_int5 {prog : Program} {w : World} {A : Around} {E : Value → Shared → Prop} {s : Shared} {h₀ : Heap} {L : Addr} {news : List (Addr × Obj)} {value slice : Expr} {l : Addr} {a b c d e : Int} {ta tb tc td te u : Tok} {k : Int} {Q : Value → Shared → Prop}
    (N : News h₀ L s.heap news) (hm : (l, { cls := .type "tuple", data := .seq [Value.int a ta, .int b tb, .int c tc, .int d td, .int e te].toArray }) ∈ news) (h0 : 0 ≤ k) (h4 : k < 5) (h : ∀ t, Q (.int ([a, b, c, d, e].getD k.toNat 0) t) s)
    (hs : subscripted slice false (.ref l) (.int k u) = operate [.ref l, .int k u] (getItem (.ref l) (.int k u)) := by with_unfolding_all rfl) :
    wpAny (model prog w) A (subscriptTail value slice (.ref l) (.int k u)) Q E s := by
  have ht : IsTup s.heap l [Value.int a ta, .int b tb, .int c tc, .int d td, .int e te].toArray := News.isTup N hm
  have hk : k = 0 ∨ k = 1 ∨ k = 2 ∨ k = 3 ∨ k = 4 := by omega
  rcases hk with rfl | rfl | rfl | rfl | rfl
  · exact item_tupleT ht (by omega) (by omega) (j := 0) rfl rfl (h ta) hs
  · exact item_tupleT ht (by omega) (by omega) (j := 1) rfl rfl (h tb) hs
  · exact item_tupleT ht (by omega) (by omega) (j := 2) rfl rfl (h tc) hs
  · exact item_tupleT ht (by omega) (by omega) (j := 3) rfl rfl (h td) hs
  · exact item_tupleT ht (by omega) (by omega) (j := 4) rfl rfl (h te) hs
local macro_rules | `(tactic| walk_at "subscriptTail") => `(tactic| (k_here; (with_reducible show wpAny _ _ (subscriptTail (Expr.Tuple _ _ _) _ (Value.ref _) (Value.int _ _)) _ _ _); k_dflt (refine' tup_int5 ?zN ?zm ?za ?zb ?_ ?zs; (case zN => k_asm); (case zm => k_mem); (case za => exact Int.fmod_nonneg_of_pos _ (by decide)); (case zb => exact Int.fmod_lt_of_pos _ (by decide)); (case zs => with_unfolding_all rfl)); intro _))
local macro_rules | `(tactic| walk_at "binaryOp FloorDiv int int") => `(tactic| (with_reducible refine floordiv_int (by with_reducible assumption) ?_))
local macro_rules | `(tactic| walk_at "getMethod ref") => `(tactic| (k_here; (with_reducible show wpAny _ _ (getMethod (Value.ref _) (Str.ofString "count") _) _ _ _); k_dflt (refine' kf_method ?N ?m PySem.F.slot_list_count PySem.F.type_list_count ?_; (case N => k_asm); (case m => k_mem))))
local macro_rules | `(tactic| walk_at "binaryOp Mult int int") => `(tactic| (with_reducible refine mul_int ?_ (by with_reducible assumption)))
theorem cells6 {cm : Str → Option Value} {n1 n2 n3 n4 n5 n6 : Str} {c1 c2 c3 c4 c5 c6 : Addr} {cells : List (Addr × Obj)} (x : CellsAre cm [(n1, c1), (n2, c2), (n3, c3), (n4, c4), (n5, c5), (n6, c6)] cells) :
    ∃ o1 o2 o3 o4 o5 o6, cells = [(c1, o1), (c2, o2), (c3, o3), (c4, o4), (c5, o5), (c6, o6)] ∧ o1.data = .cell (cm n1) ∧ o2.data = .cell (cm n2) ∧ o3.data = .cell (cm n3) ∧ o4.data = .cell (cm n4) ∧ o5.data = .cell (cm n5) ∧ o6.data = .cell (cm n6) := by
  obtain ⟨o1, c1, rfl, h1, x⟩ := cells_uncons x
  obtain ⟨o2, c2, rfl, h2, x⟩ := cells_uncons x
  obtain ⟨o3, c3, rfl, h3, x⟩ := cells_uncons x
  obtain ⟨o4, c4, rfl, h4, x⟩ := cells_uncons x
  obtain ⟨o5, c5, rfl, h5, x⟩ := cells_uncons x
  obtain ⟨o6, c6, rfl, h6, x⟩ := cells_uncons x
  rw [cells_nil x]
  exact ⟨_, _, _, _, _, _, rfl, h1, h2, h3, h4, h5, h6⟩
namespace law_code
noncomputable def cutQ1 : { qq : (World → (ExcName → Option Value) → (Str → Option Value) → (Str → Option Value) → Addr → (List Value) → (List Int) → Nat → Nat → (Option (List Code)) → Heap → Shared → (Result → Shared → Prop) → Heap → Addr → Heap → Nat → Obj → Obj → Obj → Obj → Obj → Obj → (Str → Option Value) → Prop) // (∀ (w : World) (mean : ExcName → Option Value) (mg : Str → Option Value) (mb : Str → Option Value) (ls : Addr) (sv : List Value) (scr : List Int) (dp : Nat) (un : Nat) (gd : Option (List Code)) (base : Heap) (s : Shared) (R : Result → Shared → Prop) (g : Heap) (L' : Addr) (h₁ : Heap) (tk : Nat) (o1 : Obj) (o2 : Obj) (o3 : Obj) (o4 : Obj) (o5 : Obj) (o6 : Obj) (m0 : Str → Option Value), qq w mean mg mb ls sv scr dp un gd base s R g L' h₁ tk o1 o2 o3 o4 o5 o6 m0) → ∀ (w : World) (mean : ExcName → Option Value) (mg mb : Str → Option Value) (ls : Addr) (sv : List Value) (scr : List Int) (dp un : Nat) (gd : Option (List Code)) (base : Heap) (s : Shared) (R : Result → Shared → Prop) (B : Below (Aro dp un gd []) base [] s.heap) (X0 : (hd1.heap_39 w.params).In base) (T0 : Top hd1.view_39 (looseW hd1.view_39 []) mean mg mb base) (hdp : dp + 20 < recursionLimit) (hun : un + 1000 < cLine) (hs : base.IsList ls sv.toArray) (hsi : IntsAre sv scr) (hsl : scr.length ≤ 63) (hb : AllBare s.gens) (hret : ∀ h' tk' gens', Keeps s.heap h' → AllBare gens' → R (.ok (.ret (.bool true))) { s with heap := h', toks := tk', gens := gens' }),
   codeAny (model Challenge.rw_re0065_01.row.prog w) (Aro dp un gd []) (.call (.ref 92) ⟨[.ref ls], []⟩) R s } := by
  refine ⟨?qq0, fun hP0 => ?b⟩
  case b =>
    intro w mean mg mb ls sv scr dp un gd base s R B X0 T0 hdp hun hs hsi hsl hb hret
    revert X0; k_fill; intro X0
    have X : (hd1.heap_39 w.params).In s.heap := X0.keeps B.stays
    have T : Top hd1.view_39 (looseW hd1.view_39 []) mean mg mb s.heap := T0.keeps B.stays
    revert X; k_fill; intro X
    ((k_dflt (refine' enterC ?k1 ?k2 ?k3 ?k6 ?k7 ?k8 ?k9 ?kB ?kN ?_ ?c2 ?c3 ?c4; (case k1 => k_asm); (case k2 => k_asm); (case k3 => k_asm); (case k6 => k_is); (case k7 => k_is); (case k8 => ktr_room); (case k9 => exact BindsTo.of_eq rfl); (case kB => exact rfl); (case kN => decide +kernel); (case c2 => exact rfl); (case c3 => exact rfl); (case c4 => exact rfl); k_whole)))
    intro g L' h₁ tk cells hg F' N' Y' B' X' T'
    obtain ⟨o1, o2, o3, o4, o5, o6, rfl, hc1, hc2, hc3, hc4, hc5, hc6⟩ := cells6 Y'
    clear Y'
    replace hc1 : o1.data = .cell none := hc1
    replace hc2 : o2.data = .cell none := hc2
    replace hc3 : o3.data = .cell none := hc3
    replace hc4 : o4.data = .cell none := hc4
    replace hc5 : o5.data = .cell none := hc5
    replace hc6 : o6.data = .cell none := hc6
    replace F' := fr_known (ps := [(Str.ofString "script", .ref ls)]) F' (by kst_all)
    generalize bindL _ _ _ = m0 at F'
    dsimp only [kstB] at F'
    (try dsimp only); (try k_lift B')
    (try dsimp +zetaDelta only)
    revert hc6
    revert hc5
    revert hc4
    revert hc3
    revert hc2
    revert hc1
    revert T'
    revert X'
    revert B'
    revert N'
    revert F'
    revert hg
    revert hret
    revert hb
    revert hsl
    revert hsi
    revert hs
    revert hun
    revert hdp
    revert T0
    revert X0
    exact @hP0 w mean mg mb ls sv scr dp un gd base s R g L' h₁ tk o1 o2 o3 o4 o5 o6 m0
namespace C
@[irreducible] noncomputable def cutT : World × (ExcName → Option Value) × (Str → Option Value) × (Str → Option Value) × Addr × (List Value) × (List Int) × Nat × Nat × (Option (List Code)) × Heap × Shared × (Result → Shared → Prop) × Heap × Addr × Heap × Nat × Obj × Obj × Obj × Obj × Obj × Obj × (Str → Option Value) := gen ⟨(Classical.choice world_ne, fun _ => none, fun _ => none, fun _ => none, 0, [], [], 0, 0, none, default, {}, fun _ _ => True, default, 0, default, 0, default, default, default, default, default, default, fun _ => none)⟩ fun t => cutQ1.1 t.1 t.2.1 t.2.2.1 t.2.2.2.1 t.2.2.2.2.1 t.2.2.2.2.2.1 t.2.2.2.2.2.2.1 t.2.2.2.2.2.2.2.1 t.2.2.2.2.2.2.2.2.1 t.2.2.2.2.2.2.2.2.2.1 t.2.2.2.2.2.2.2.2.2.2.1 t.2.2.2.2.2.2.2.2.2.2.2.1 t.2.2.2.2.2.2.2.2.2.2.2.2.1 t.2.2.2.2.2.2.2.2.2.2.2.2.2.1 t.2.2.2.2.2.2.2.2.2.2.2.2.2.2.1 t.2.2.2.2.2.2.2.2.2.2.2.2.2.2.2.1 t.2.2.2.2.2.2.2.2.2.2.2.2.2.2.2.2.1 t.2.2.2.2.2.2.2.2.2.2.2.2.2.2.2.2.2.1 t.2.2.2.2.2.2.2.2.2.2.2.2.2.2.2.2.2.2.1 t.2.2.2.2.2.2.2.2.2.2.2.2.2.2.2.2.2.2.2.1 t.2.2.2.2.2.2.2.2.2.2.2.2.2.2.2.2.2.2.2.2.1 t.2.2.2.2.2.2.2.2.2.2.2.2.2.2.2.2.2.2.2.2.2.1 t.2.2.2.2.2.2.2.2.2.2.2.2.2.2.2.2.2.2.2.2.2.2.1 t.2.2.2.2.2.2.2.2.2.2.2.2.2.2.2.2.2.2.2.2.2.2.2
@[irreducible] noncomputable def w : World := cutT.1
@[irreducible] noncomputable def mean : ExcName → Option Value := cutT.2.1
@[irreducible] noncomputable def mg : Str → Option Value := cutT.2.2.1
@[irreducible] noncomputable def mb : Str → Option Value := cutT.2.2.2.1
@[irreducible] noncomputable def ls : Addr := cutT.2.2.2.2.1
@[irreducible] noncomputable def sv : List Value := cutT.2.2.2.2.2.1
@[irreducible] noncomputable def scr : List Int := cutT.2.2.2.2.2.2.1
@[irreducible] noncomputable def dp : Nat := cutT.2.2.2.2.2.2.2.1
@[irreducible] noncomputable def un : Nat := cutT.2.2.2.2.2.2.2.2.1
@[irreducible] noncomputable def gd : Option (List Code) := cutT.2.2.2.2.2.2.2.2.2.1
@[irreducible] noncomputable def base : Heap := cutT.2.2.2.2.2.2.2.2.2.2.1
@[irreducible] noncomputable def s : Shared := cutT.2.2.2.2.2.2.2.2.2.2.2.1
@[irreducible] noncomputable def R : Result → Shared → Prop := cutT.2.2.2.2.2.2.2.2.2.2.2.2.1
@[irreducible] noncomputable def g : Heap := cutT.2.2.2.2.2.2.2.2.2.2.2.2.2.1
@[irreducible] noncomputable def L' : Addr := cutT.2.2.2.2.2.2.2.2.2.2.2.2.2.2.1
@[irreducible] noncomputable def h₁ : Heap := cutT.2.2.2.2.2.2.2.2.2.2.2.2.2.2.2.1
@[irreducible] noncomputable def tk : Nat := cutT.2.2.2.2.2.2.2.2.2.2.2.2.2.2.2.2.1
@[irreducible] noncomputable def o1 : Obj := cutT.2.2.2.2.2.2.2.2.2.2.2.2.2.2.2.2.2.1
@[irreducible] noncomputable def o2 : Obj := cutT.2.2.2.2.2.2.2.2.2.2.2.2.2.2.2.2.2.2.1
@[irreducible] noncomputable def o3 : Obj := cutT.2.2.2.2.2.2.2.2.2.2.2.2.2.2.2.2.2.2.2.1
@[irreducible] noncomputable def o4 : Obj := cutT.2.2.2.2.2.2.2.2.2.2.2.2.2.2.2.2.2.2.2.2.1
@[irreducible] noncomputable def o5 : Obj := cutT.2.2.2.2.2.2.2.2.2.2.2.2.2.2.2.2.2.2.2.2.2.1
@[irreducible] noncomputable def o6 : Obj := cutT.2.2.2.2.2.2.2.2.2.2.2.2.2.2.2.2.2.2.2.2.2.2.1
@[irreducible] noncomputable def m0 : Str → Option Value := cutT.2.2.2.2.2.2.2.2.2.2.2.2.2.2.2.2.2.2.2.2.2.2.2
noncomputable def cutQ2 : { qq : (Obj → Addr → (List Value) → Nat → (List Int) → (Str → Option Value) → Heap → Nat → (Array GenState) → Prop) // (∀ (o6' : Obj) (lc : Addr) (vs' : List Value) (e' : Nat) (cs' : List Int) (u1 : Str → Option Value) (h1 : Heap) (tk1 : Nat) (gens1 : Array GenState), qq o6' lc vs' e' cs' u1 h1 tk1 gens1) → cutQ1.1 w mean mg mb ls sv scr dp un gd base s R g L' h₁ tk o1 o2 o3 o4 o5 o6 m0 } := by
  refine ⟨?qq0, fun hP0 => ?b⟩
  case b =>
    delta cutQ1
    dsimp only
    intro X0 T0 hdp hun hs hsi hsl hb hret hg F' N' B' X' T' hc1 hc2 hc3 hc4 hc5 hc6
    (try k_fold)
    (((with_reducible rename Fr _ _ _ _ => F0); (with_reducible rename News _ _ _ _ => N0)))
    refine' seqN (h₀ := g) (L := L') (σ := Obj × Nat × List Value × Nat × List Int) (fun c => [(c.2.1, W.listOf c.2.2.1.toArray c.2.2.2.1), (L' + 1 + 1 + 1 + 1 + 1 + 1, o1), (L' + 1 + 1 + 1 + 1 + 1, o2), (L' + 1 + 1 + 1 + 1, o3), (L' + 1 + 1 + 1, o4), (L' + 1 + 1, o5), (L' + 1, c.1)]) (fun _ => []) (fun c => c.1.data = .cell (some (.ref c.2.1)) ∧ IntsAre c.2.2.1 c.2.2.2.2 ∧ c.2.2.2.2.length = 9 ∧ LtAll c.2.1 (six L')) ?s1 ?s2
    case s1 =>
      (((try k_fold); ((repeat' (first | (k_unfold; (try dsimp only)) | ((fail_if_success (with_reducible show wpAny _ _ (exec (Stmt.While _ _ _ _) _) _ _ _)); (fail_if_success (with_reducible show wpAny _ _ (exec (Stmt.For _ _ _ _ _) _) _ _ _)); (fail_if_success (with_reducible show wpAny _ _ (pyIter _) _ _ _)); (fail_if_success (with_reducible show wpAny _ _ (eval (Expr.ListComp _ _ _ _) _) _ _ _)); (fail_if_success (with_reducible show wpAny _ _ (exec (Stmt.Assign _ (Expr.ListComp _ _ _ _) _) _) _ _ _)); ((first | walk1 | (dsimp only; walk1)); (try dsimp only))))))))
      (((with_reducible rename Fr _ _ _ _ => F0); (with_reducible rename News _ _ _ _ => N0); (refine' cells_use ?k1 F0 N0 ?k4 ?k5 ?k6 ?k7 ?k8 ?k9 ?k10 ?k11 ?k12 ?k13 ?k14 ?k15 ?k16 ?_); (case k1 => k_asm); (case k4 => assumption); (case k5 => assumption); (case k6 => exact rfl); (case k7 => exact rfl); (case k8 => exact rfl); (case k9 => ktr_room); (case k10 => ktr_units); (case k11 => assumption); (case k12 => assumption); (case k13 => assumption); (case k14 => k_updF); (case k15 => exact ints9 _ _ _ _ _ _ _ _ _ _ _ _ _ _ _ _ _ _); (case k16 => exact rfl); (intro h' tk' vs' cs' e' F1 N1 hI1 hl1); clear F0 N0; (dsimp only at N1 ⊢)))
      (((try k_fold); ((repeat' (first | (k_unfold; (try dsimp only)) | ((fail_if_success (with_reducible show wpAny _ _ (exec (Stmt.While _ _ _ _) _) _ _ _)); (fail_if_success (with_reducible show wpAny _ _ (exec (Stmt.For _ _ _ _ _) _) _ _ _)); (fail_if_success (with_reducible show wpAny _ _ (pyIter _) _ _ _)); (fail_if_success (with_reducible show wpAny _ _ (eval (Expr.ListComp _ _ _ _) _) _ _ _)); (fail_if_success (with_reducible show wpAny _ _ (exec (Stmt.Assign _ (Expr.ListComp _ _ _ _) _) _) _ _ _)); ((first | walk1 | (dsimp only; walk1)); (try dsimp only))))))))
      (((with_reducible rename Fr _ _ _ _ => F0); (with_reducible rename News _ _ _ _ => N0)))
      refine OutG.mk' (_, _, _, _, cs') (by assumption) (by k_asm) (by k_asm) (by kst_in) (by kst_all) ?_
      exact ⟨by assumption, hI1, hl1, by assumption⟩
    case s2 =>
      rintro ⟨o6', lc, vs', e', cs'⟩ u1 h1 tk1 gens1 ⟨hd6, hI1, hl1, hlt⟩ hB1 F1 N1
      clear F0 N0
      dsimp only at hd6 hI1 hl1 hlt; (try dsimp only at N1); dsimp only [kstB] at F1
      (try dsimp +zetaDelta only)
      revert N1
      revert F1
      revert hB1
      revert hlt
      revert hl1
      revert hI1
      revert hd6
      revert hc5
      revert hc4
      revert hc3
      revert hc2
      revert hc1
      revert T'
      revert X'
      revert B'
      revert hg
      revert hret
      revert hun
      revert hdp
      revert T0
      revert X0
      exact @hP0 o6' lc vs' e' cs' u1 h1 tk1 gens1
namespace C
@[irreducible] noncomputable def cutT : Obj × Addr × (List Value) × Nat × (List Int) × (Str → Option Value) × Heap × Nat × (Array GenState) := gen ⟨(default, 0, [], 0, [], fun _ => none, default, 0, #[])⟩ fun t => cutQ2.1 t.1 t.2.1 t.2.2.1 t.2.2.2.1 t.2.2.2.2.1 t.2.2.2.2.2.1 t.2.2.2.2.2.2.1 t.2.2.2.2.2.2.2.1 t.2.2.2.2.2.2.2.2
@[irreducible] noncomputable def o6' : Obj := cutT.1
@[irreducible] noncomputable def lc : Addr := cutT.2.1
@[irreducible] noncomputable def vs' : List Value := cutT.2.2.1
@[irreducible] noncomputable def e' : Nat := cutT.2.2.2.1
@[irreducible] noncomputable def cs' : List Int := cutT.2.2.2.2.1
@[irreducible] noncomputable def u1 : Str → Option Value := cutT.2.2.2.2.2.1
@[irreducible] noncomputable def h1 : Heap := cutT.2.2.2.2.2.2.1
@[irreducible] noncomputable def tk1 : Nat := cutT.2.2.2.2.2.2.2.1
@[irreducible] noncomputable def gens1 : Array GenState := cutT.2.2.2.2.2.2.2.2
noncomputable def cutQ3 : { qq : (Obj → Addr → (List Value) → Nat → (Str → Option Value) → Heap → Nat → (Array GenState) → Prop) // (∀ (o5' : Obj) (lm : Addr) (vm : List Value) (em : Nat) (u2 : Str → Option Value) (h2 : Heap) (tk2 : Nat) (gens2 : Array GenState), qq o5' lm vm em u2 h2 tk2 gens2) → cutQ2.1 o6' lc vs' e' cs' u1 h1 tk1 gens1 } := by
  refine ⟨?qq0, fun hP0 => ?b⟩
  case b =>
    delta cutQ2
    dsimp only
    intro X0 T0 hdp hun hret hg B' X' T' hc1 hc2 hc3 hc4 hc5 hd6 hI1 hl1 hlt hB1 F1 N1
    refine' seqNk (a := [_, _, _, _]) (h₀ := g) (L := L') (σ := Obj × Nat × List Value × Nat) (fun c => [(c.2.1, W.listOf c.2.2.1.toArray c.2.2.2), (lc, W.listOf vs'.toArray e'), (L' + 1 + 1 + 1 + 1 + 1 + 1, o1), (L' + 1 + 1 + 1 + 1 + 1, o2), (L' + 1 + 1 + 1 + 1, o3), (L' + 1 + 1 + 1, o4), (L' + 1 + 1, c.1), (L' + 1, o6')]) (fun _ => []) (fun c => c.1.data = .cell (some (.ref c.2.1)) ∧ IntsAre c.2.2.1 (marksC (cs'.getD 5 0)) ∧ Apart c.2.1 (lc :: six L')) ?s1 ?s2
    case s1 =>
      (try k_fold)
      (((try k_fold); ((repeat' (first | (k_unfold; (try dsimp only)) | ((fail_if_success (with_reducible show wpAny _ _ (exec (Stmt.While _ _ _ _) _) _ _ _)); (fail_if_success (with_reducible show wpAny _ _ (exec (Stmt.For _ _ _ _ _) _) _ _ _)); (fail_if_success (with_reducible show wpAny _ _ (pyIter _) _ _ _)); (fail_if_success (with_reducible show wpAny _ _ (eval (Expr.ListComp _ _ _ _) _) _ _ _)); (fail_if_success (with_reducible show wpAny _ _ (exec (Stmt.Assign _ (Expr.ListComp _ _ _ _) _) _) _ _ _)); ((first | walk1 | (dsimp only; walk1)); (try dsimp only))))))))
      refine' comp_assign ?h ?hsw ?hclos ?hkind ?hnames ?hs
      case hsw => with_unfolding_all rfl
      (((case hclos => with_unfolding_all rfl); (case hkind => exact rfl); (case hnames => decide); (case hs => intro _; with_unfolding_all rfl)))
      case h =>
        (((try k_fold); ((repeat' (first | (k_unfold; (try dsimp only)) | ((fail_if_success (with_reducible show wpAny _ _ (exec (Stmt.While _ _ _ _) _) _ _ _)); (fail_if_success (with_reducible show wpAny _ _ (exec (Stmt.For _ _ _ _ _) _) _ _ _)); (fail_if_success (with_reducible show wpAny _ _ (pyIter _) _ _ _)); (fail_if_success (with_reducible show wpAny _ _ (eval (Expr.ListComp _ _ _ _) _) _ _ _)); (fail_if_success (with_reducible show wpAny _ _ (exec (Stmt.Assign _ (Expr.ListComp _ _ _ _) _) _) _ _ _)); ((first | walk1 | (dsimp only; walk1)); (try dsimp only))))))))
        (((with_reducible rename Fr _ _ _ _ => F0); (with_reducible rename News _ _ _ _ => N0)))
        generalize hcj : cs'.getD 5 0 = cj at *
        refine compK_range 3 (fun _ => true) (fun a y => isInt (rowD cj a) y) (by assumption) rfl rfl (by decide) rfl F0 N0 (by decide) rfl rfl ⟨?t4, ?e4⟩ ?k4
        case t4 =>
          rintro C D I a v oC oD oI mC h tk E' hDC hnw ha ⟨t, rfl⟩ hC hm F9 N9
          clear F0 N0
          unfold ifsOf
          (((try k_fold); ((repeat' (first | (k_unfold; (try dsimp only)) | ((fail_if_success (with_reducible show wpAny _ _ (exec (Stmt.While _ _ _ _) _) _ _ _)); (fail_if_success (with_reducible show wpAny _ _ (exec (Stmt.For _ _ _ _ _) _) _ _ _)); (fail_if_success (with_reducible show wpAny _ _ (pyIter _) _ _ _)); (fail_if_success (with_reducible show wpAny _ _ (eval (Expr.ListComp _ _ _ _) _) _ _ _)); (fail_if_success (with_reducible show wpAny _ _ (exec (Stmt.Assign _ (Expr.ListComp _ _ _ _) _) _) _ _ _)); ((first | walk1 | (dsimp only; walk1)); (try dsimp only))))))))
          exact CKeep.mk' (by k_asm) (by k_asm) (by kst_in) rfl
        case e4 =>
          rintro C D I a v oC oD oI mC h tk E' hDC hnw ha ⟨t, rfl⟩ hp hC hm F9 N9
          clear F0 N0
          have ha3 : 0 ≤ a ∧ a ≤ 2 := by
            simp only [rangeL, List.mem_map, List.mem_range] at ha
            omega
          have hcj' : cs'.getD (Int.toNat 5) 0 = cj := hcj
          have hp5 : (5 : Int) ^ a.toNat ≠ 0 := Int.ne_of_gt (Int.pow_pos (by decide))
          have hp6 : 1 ≤ (5 : Int) ^ a.toNat ∧ (5 : Int) ^ a.toNat ≤ 25 := by
            have : a.toNat = 0 ∨ a.toNat = 1 ∨ a.toNat = 2 := by omega
            rcases this with h | h | h <;> rw [h] <;> decide
          (((try k_fold); ((repeat' (first | (k_unfold; (try dsimp only)) | ((fail_if_success (with_reducible show wpAny _ _ (exec (Stmt.While _ _ _ _) _) _ _ _)); (fail_if_success (with_reducible show wpAny _ _ (exec (Stmt.For _ _ _ _ _) _) _ _ _)); (fail_if_success (with_reducible show wpAny _ _ (pyIter _) _ _ _)); (fail_if_success (with_reducible show wpAny _ _ (eval (Expr.ListComp _ _ _ _) _) _ _ _)); (fail_if_success (with_reducible show wpAny _ _ (exec (Stmt.Assign _ (Expr.ListComp _ _ _ _) _) _) _ _ _)); ((first | walk1 | (dsimp only; walk1)); (try dsimp only))))))))
          exact CKeep.mk' (by k_asm) (by k_asm) (by kst_in) (by rw [← hcj']; exact ⟨_, rfl⟩)
        case k4 =>
          intro C D ys e oC mC h8 tk8 hy hDC hnw F9 hC N9
          clear F0 N0
          refine post_assign hDC hnw rfl rfl rfl F9 hC N9 ?_
          clear hC; k_lt hnw
          intro h8 tk8 F8 N8
          clear F9 N9
          dsimp only
          have hI8 := paired_ints hy
          clear hy
          rw [List.filter_eq_self.mpr (fun _ _ => rfl)] at hI8
          obtain ⟨t0, t1, t2, hys⟩ := ints3 (a := rowD cj 0) (b := rowD cj 1) (c := rowD cj 2) hI8
          subst hys
          have hm0 := rowD_range cj 0
          have hm1 := rowD_range cj 1
          have hm2 := rowD_range cj 2
          generalize hr0 : rowD cj 0 = r0 at *
          generalize hr1 : rowD cj 1 = r1 at *
          generalize hr2 : rowD cj 2 = r2 at *
          (((try k_fold); ((repeat' (first | (k_unfold; (try dsimp only)) | ((fail_if_success (with_reducible show wpAny _ _ (exec (Stmt.While _ _ _ _) _) _ _ _)); (fail_if_success (with_reducible show wpAny _ _ (exec (Stmt.For _ _ _ _ _) _) _ _ _)); (fail_if_success (with_reducible show wpAny _ _ (pyIter _) _ _ _)); (fail_if_success (with_reducible show wpAny _ _ (eval (Expr.ListComp _ _ _ _) _) _ _ _)); (fail_if_success (with_reducible show wpAny _ _ (exec (Stmt.Assign _ (Expr.ListComp _ _ _ _) _) _) _ _ _)); ((first | walk1 | (dsimp only; walk1)); (try dsimp only))))))))
          (((with_reducible rename Fr _ _ _ _ => F0); (with_reducible rename News _ _ _ _ => N0)))
          refine marks_use B' F0 N0 X0 T0 rfl rfl rfl ?hd6 ?hu6 (isList_of N0 (by k_mem)) hB1 hm0.ge hm1.ge hm2.ge ?hm ?hm0
          case hd6 => show dp + 1 + 5 < recursionLimit; omega
          case hu6 => show un + 3 + 100 < cLine; omega
          case hm =>
            intro lm vm em h9 tk9 gens9 hz hB9 F9 N9 hneM hIM
            clear F0 N0
            dsimp only
            rw [← marks_due hm0 hm1 hm2 hz] at hIM
            (((try k_fold); ((repeat' (first | (k_unfold; (try dsimp only)) | ((fail_if_success (with_reducible show wpAny _ _ (exec (Stmt.While _ _ _ _) _) _ _ _)); (fail_if_success (with_reducible show wpAny _ _ (exec (Stmt.For _ _ _ _ _) _) _ _ _)); (fail_if_success (with_reducible show wpAny _ _ (pyIter _) _ _ _)); (fail_if_success (with_reducible show wpAny _ _ (eval (Expr.ListComp _ _ _ _) _) _ _ _)); (fail_if_success (with_reducible show wpAny _ _ (exec (Stmt.Assign _ (Expr.ListComp _ _ _ _) _) _) _ _ _)); ((first | walk1 | (dsimp only; walk1)); (try dsimp only))))))))
            (((with_reducible rename Fr _ _ _ _ => F0); (with_reducible rename News _ _ _ _ => N0)))
            refine tells_use (due_tells w mean mg mb D r0 r1 r2 t0 t1 t2 hz hm0.in hm1.in hm2.in) B' F0 N0 X' T' rfl rfl rfl ?hd8 ?hu8 (isList_of N0 (by k_mem)) ?_
            case hd8 => show dp + 1 + 2 < recursionLimit; omega
            case hu8 => show un + 3 + 20 * 2 < cLine; omega
            rintro v h10 tk10 F10 N10 _ ⟨ld, vd, ed, rfl, hod, hnd, hId⟩
            have N11 := news_join F0 N10 hod hnd
            clear F0 N0 N10
            dsimp only
            (((try k_fold); ((repeat' (first | (k_unfold; (try dsimp only)) | ((fail_if_success (with_reducible show wpAny _ _ (exec (Stmt.While _ _ _ _) _) _ _ _)); (fail_if_success (with_reducible show wpAny _ _ (exec (Stmt.For _ _ _ _ _) _) _ _ _)); (fail_if_success (with_reducible show wpAny _ _ (pyIter _) _ _ _)); (fail_if_success (with_reducible show wpAny _ _ (eval (Expr.ListComp _ _ _ _) _) _ _ _)); (fail_if_success (with_reducible show wpAny _ _ (exec (Stmt.Assign _ (Expr.ListComp _ _ _ _) _) _) _ _ _)); ((first | walk1 | (dsimp only; walk1)); (try dsimp only))))))))
            (((with_reducible rename Fr _ _ _ _ => F0); (with_reducible rename News _ _ _ _ => N0)))
            rename Obj.data _ = Data.cell (some (Value.ref lm)) => hd2
            refine OutG.mk' (_, lm, vm, em) hB9 F0 N0 (by kst_in) (by kst_all) ⟨hd2, ?_, ?_⟩
            · dsimp only
              unfold marksC marksL
              rw [hcj, hr0, hr1, hr2, if_neg hz, ← marks_due hm0 hm1 hm2 hz]
              exact hIM
            · exact apart_ne hneM (by kst_in)
          case hm0 =>
            intro h9 tk9 gens9 hz hB9 F9 N9
            clear F0 N0
            dsimp only
            (((try k_fold); ((repeat' (first | (k_unfold; (try dsimp only)) | ((fail_if_success (with_reducible show wpAny _ _ (exec (Stmt.While _ _ _ _) _) _ _ _)); (fail_if_success (with_reducible show wpAny _ _ (exec (Stmt.For _ _ _ _ _) _) _ _ _)); (fail_if_success (with_reducible show wpAny _ _ (pyIter _) _ _ _)); (fail_if_success (with_reducible show wpAny _ _ (eval (Expr.ListComp _ _ _ _) _) _ _ _)); (fail_if_success (with_reducible show wpAny _ _ (exec (Stmt.Assign _ (Expr.ListComp _ _ _ _) _) _) _ _ _)); ((first | walk1 | (dsimp only; walk1)); (try dsimp only))))))))
            (((with_reducible rename Fr _ _ _ _ => F0); (with_reducible rename News _ _ _ _ => N0)))
            refine tells_use (due0_tells w mean mg mb D r0 r1 r2 t0 t1 t2 hz) B' F0 N0 X' T' rfl rfl rfl ?hd9 ?hu9 (isList_of N0 (by k_mem)) ?_
            case hd9 => show dp + 1 + 2 < recursionLimit; omega
            case hu9 => show un + 3 + 20 * 2 < cLine; omega
            rintro v h10 tk10 F10 N10 _ rfl
            clear F0 N0
            dsimp only
            (((try k_fold); ((repeat' (first | (k_unfold; (try dsimp only)) | ((fail_if_success (with_reducible show wpAny _ _ (exec (Stmt.While _ _ _ _) _) _ _ _)); (fail_if_success (with_reducible show wpAny _ _ (exec (Stmt.For _ _ _ _ _) _) _ _ _)); (fail_if_success (with_reducible show wpAny _ _ (pyIter _) _ _ _)); (fail_if_success (with_reducible show wpAny _ _ (eval (Expr.ListComp _ _ _ _) _) _ _ _)); (fail_if_success (with_reducible show wpAny _ _ (exec (Stmt.Assign _ (Expr.ListComp _ _ _ _) _) _) _ _ _)); ((first | walk1 | (dsimp only; walk1)); (try dsimp only))))))))
            (((with_reducible rename Fr _ _ _ _ => F0); (with_reducible rename News _ _ _ _ => N0)))
            obtain ⟨lm, hlm⟩ := name_led N0
            subst hlm
            rename Obj.data _ = Data.cell (some (Value.ref lm)) => hd2
            refine OutG.mk' (_, lm, [], 0) hB9 F0 N0 (by kst_in) (by kst_all) ⟨hd2, ?_, ?_⟩
            · dsimp only
              unfold marksC marksL
              rw [hcj, hr0, if_pos hz]
              exact .nil
            · exact apart_lt (by assumption) (by kst_in)
    case s2 =>
      rintro ⟨o5', lm, vm, em⟩ u2 h2 tk2 gens2 ⟨hd5, hIM, hap⟩ hB2 F2 N2
      clear F1 N1
      dsimp only at hd5 hIM hap; (try dsimp only at N2); dsimp only [kstB] at F2
      have hml : (marksC (cs'.getD 5 0)).length ≤ 4 := marksC_len _
      (try dsimp +zetaDelta only)
      revert hml
      revert N2
      revert F2
      revert hB2
      revert hap
      revert hIM
      revert hd5
      revert hlt
      revert hl1
      revert hI1
      revert hd6
      revert hc4
      revert hc3
      revert hc2
      revert hc1
      revert T'
      revert X'
      revert B'
      revert hg
      revert hret
      revert hun
      revert hdp
      revert T0
      revert X0
      exact @hP0 o5' lm vm em u2 h2 tk2 gens2
namespace C
@[irreducible] noncomputable def cutT : Obj × Addr × (List Value) × Nat × (Str → Option Value) × Heap × Nat × (Array GenState) := gen ⟨(default, 0, [], 0, fun _ => none, default, 0, #[])⟩ fun t => cutQ3.1 t.1 t.2.1 t.2.2.1 t.2.2.2.1 t.2.2.2.2.1 t.2.2.2.2.2.1 t.2.2.2.2.2.2.1 t.2.2.2.2.2.2.2
@[irreducible] noncomputable def o5' : Obj := cutT.1
@[irreducible] noncomputable def lm : Addr := cutT.2.1
@[irreducible] noncomputable def vm : List Value := cutT.2.2.1
@[irreducible] noncomputable def em : Nat := cutT.2.2.2.1
@[irreducible] noncomputable def u2 : Str → Option Value := cutT.2.2.2.2.1
@[irreducible] noncomputable def h2 : Heap := cutT.2.2.2.2.2.1
@[irreducible] noncomputable def tk2 : Nat := cutT.2.2.2.2.2.2.1
@[irreducible] noncomputable def gens2 : Array GenState := cutT.2.2.2.2.2.2.2
noncomputable def cutQ4 : { qq : (Obj → Addr → (List Value) → Nat → (Str → Option Value) → Heap → Nat → (Array GenState) → Prop) // (∀ (o4' : Obj) (lsg : Addr) (vsg : List Value) (esg : Nat) (u3 : Str → Option Value) (h3 : Heap) (tk3 : Nat) (gens3 : Array GenState), qq o4' lsg vsg esg u3 h3 tk3 gens3) → cutQ3.1 o5' lm vm em u2 h2 tk2 gens2 } := by
  refine ⟨?qq0, fun hP0 => ?b⟩
  case b =>
    delta cutQ3
    dsimp only
    intro X0 T0 hdp hun hret hg B' X' T' hc1 hc2 hc3 hc4 hd6 hI1 hl1 hlt hd5 hIM hap hB2 F2 N2 hml
    refine' seqNk (a := [_, _, _, _]) (h₀ := g) (L := L') (σ := Obj × Nat × List Value × Nat) (fun c => [(c.2.1, W.listOf c.2.2.1.toArray c.2.2.2), (lm, W.listOf vm.toArray em), (lc, W.listOf vs'.toArray e'), (L' + 1 + 1 + 1 + 1 + 1 + 1, o1), (L' + 1 + 1 + 1 + 1 + 1, o2), (L' + 1 + 1 + 1 + 1, o3), (L' + 1 + 1 + 1, c.1), (L' + 1 + 1, o5'), (L' + 1, o6')]) (fun _ => []) (fun c => c.1.data = .cell (some (.ref c.2.1)) ∧ StrsAre c.2.2.1 [signS cs' 0, signS cs' 1, signS cs' 2] ∧ LtAll c.2.1 (lm :: lc :: six L')) ?s1 ?s2
    case s1 =>
      (try k_fold)
      (((try k_fold); ((repeat' (first | (k_unfold; (try dsimp only)) | ((fail_if_success (with_reducible show wpAny _ _ (exec (Stmt.While _ _ _ _) _) _ _ _)); (fail_if_success (with_reducible show wpAny _ _ (exec (Stmt.For _ _ _ _ _) _) _ _ _)); (fail_if_success (with_reducible show wpAny _ _ (pyIter _) _ _ _)); (fail_if_success (with_reducible show wpAny _ _ (eval (Expr.ListComp _ _ _ _) _) _ _ _)); (fail_if_success (with_reducible show wpAny _ _ (exec (Stmt.Assign _ (Expr.ListComp _ _ _ _) _) _) _ _ _)); ((first | walk1 | (dsimp only; walk1)); (try dsimp only))))))))
      refine wpAny_Assign_Name ?_ (by with_unfolding_all rfl)
      refine' comp_eval ?h ?hclos ?hkind ?hnames ?hs
      (((case hclos => with_unfolding_all rfl); (case hkind => exact rfl); (case hnames => decide); (case hs => intro _; with_unfolding_all rfl)))
      case h =>
        (((try k_fold); ((repeat' (first | (k_unfold; (try dsimp only)) | ((fail_if_success (with_reducible show wpAny _ _ (exec (Stmt.While _ _ _ _) _) _ _ _)); (fail_if_success (with_reducible show wpAny _ _ (exec (Stmt.For _ _ _ _ _) _) _ _ _)); (fail_if_success (with_reducible show wpAny _ _ (pyIter _) _ _ _)); (fail_if_success (with_reducible show wpAny _ _ (eval (Expr.ListComp _ _ _ _) _) _ _ _)); (fail_if_success (with_reducible show wpAny _ _ (exec (Stmt.Assign _ (Expr.ListComp _ _ _ _) _) _) _ _ _)); ((first | walk1 | (dsimp only; walk1)); (try dsimp only))))))))
        (((with_reducible rename Fr _ _ _ _ => F0); (with_reducible rename News _ _ _ _ => N0)))
        refine compK_list (vs := [Value.int (code0 cs') _, .int (code1 cs') _, .int (code2 cs') _]) [code0 cs', code1 cs', code2 cs'] isInt (fun _ => true) (fun a y => ∃ t, y = Value.str (chrI a) t) (isList_of N0 (by k_mem)) (ints_paired (.cons _ _ (.cons _ _ (.cons _ _ .nil)))) (.inr ⟨_, by k_mem⟩) (show 3 ≤ sizeLine by rw [sizeLine_eq]; decide) rfl F0 N0 (by decide) rfl rfl ⟨?t5, ?e5⟩ ?k5
        case t5 =>
          rintro C D I a v oC oD oI mC h tk E' hDC hnw ha ⟨t, rfl⟩ hC hm F9 N9
          clear F0 N0
          unfold ifsOf
          (((try k_fold); ((repeat' (first | (k_unfold; (try dsimp only)) | ((fail_if_success (with_reducible show wpAny _ _ (exec (Stmt.While _ _ _ _) _) _ _ _)); (fail_if_success (with_reducible show wpAny _ _ (exec (Stmt.For _ _ _ _ _) _) _ _ _)); (fail_if_success (with_reducible show wpAny _ _ (pyIter _) _ _ _)); (fail_if_success (with_reducible show wpAny _ _ (eval (Expr.ListComp _ _ _ _) _) _ _ _)); (fail_if_success (with_reducible show wpAny _ _ (exec (Stmt.Assign _ (Expr.ListComp _ _ _ _) _) _) _ _ _)); ((first | walk1 | (dsimp only; walk1)); (try dsimp only))))))))
          exact CKeep.mk' (by k_asm) (by k_asm) (by kst_in) rfl
        case e5 =>
          rintro C D I a v oC oD oI mC h tk E' hDC hnw ha ⟨t, rfl⟩ hp hC hm F9 N9
          clear F0 N0
          have ha3 : 1 ≤ a ∧ a ≤ 54000 := code_range cs' a ha
          (((try k_fold); ((repeat' (first | (k_unfold; (try dsimp only)) | ((fail_if_success (with_reducible show wpAny _ _ (exec (Stmt.While _ _ _ _) _) _ _ _)); (fail_if_success (with_reducible show wpAny _ _ (exec (Stmt.For _ _ _ _ _) _) _ _ _)); (fail_if_success (with_reducible show wpAny _ _ (pyIter _) _ _ _)); (fail_if_success (with_reducible show wpAny _ _ (eval (Expr.ListComp _ _ _ _) _) _ _ _)); (fail_if_success (with_reducible show wpAny _ _ (exec (Stmt.Assign _ (Expr.ListComp _ _ _ _) _) _) _ _ _)); ((first | walk1 | (dsimp only; walk1)); (try dsimp only))))))))
          exact CKeep.mk' (by k_asm) (by k_asm) (by kst_in) ⟨_, rfl⟩
        case k5 =>
          intro C D ys e oC mC h3 tk3 hy hDC hnw F9 hC N9
          clear F0 N0
          refine post_none hDC hnw F9 hC N9 ?_
          clear hC; k_lt hnw
          intro h4 F8 N8
          clear F9 N9
          dsimp only
          rw [List.filter_eq_self.mpr (fun _ _ => rfl)] at hy
          have hS : StrsAre ys [signS cs' 0, signS cs' 1, signS cs' 2] := paired_strs hy
          clear hy
          (((try k_fold); ((repeat' (first | (k_unfold; (try dsimp only)) | ((fail_if_success (with_reducible show wpAny _ _ (exec (Stmt.While _ _ _ _) _) _ _ _)); (fail_if_success (with_reducible show wpAny _ _ (exec (Stmt.For _ _ _ _ _) _) _ _ _)); (fail_if_success (with_reducible show wpAny _ _ (pyIter _) _ _ _)); (fail_if_success (with_reducible show wpAny _ _ (eval (Expr.ListComp _ _ _ _) _) _ _ _)); (fail_if_success (with_reducible show wpAny _ _ (exec (Stmt.Assign _ (Expr.ListComp _ _ _ _) _) _) _ _ _)); ((first | walk1 | (dsimp only; walk1)); (try dsimp only))))))))
          (((with_reducible rename Fr _ _ _ _ => F0); (with_reducible rename News _ _ _ _ => N0)))
          rename Obj.data _ = Data.cell (some (Value.ref D)) => hd4
          exact OutG.mk' (_, D, ys, e) hB2 F0 N0 (by kst_in) (by kst_all) ⟨hd4, hS, ltAll_sub hnw (by kst_in)⟩
    case s2 =>
      rintro ⟨o4', lsg, vsg, esg⟩ u3 h3 tk3 gens3 ⟨hd4, hS, hls⟩ hB3 F3 N3
      clear F2 N2
      dsimp only at hd4 hS hls; (try dsimp only at N3); dsimp only [kstB] at F3
      (try dsimp +zetaDelta only)
      revert N3
      revert F3
      revert hB3
      revert hls
      revert hS
      revert hd4
      revert hml
      revert hap
      revert hIM
      revert hd5
      revert hlt
      revert hl1
      revert hI1
      revert hd6
      revert hc3
      revert hc2
      revert hc1
      revert T'
      revert X'
      revert B'
      revert hg
      revert hret
      revert hun
      revert hdp
      revert T0
      revert X0
      exact @hP0 o4' lsg vsg esg u3 h3 tk3 gens3
namespace C
@[irreducible] noncomputable def cutT : Obj × Addr × (List Value) × Nat × (Str → Option Value) × Heap × Nat × (Array GenState) := gen ⟨(default, 0, [], 0, fun _ => none, default, 0, #[])⟩ fun t => cutQ4.1 t.1 t.2.1 t.2.2.1 t.2.2.2.1 t.2.2.2.2.1 t.2.2.2.2.2.1 t.2.2.2.2.2.2.1 t.2.2.2.2.2.2.2
@[irreducible] noncomputable def o4' : Obj := cutT.1
@[irreducible] noncomputable def lsg : Addr := cutT.2.1
@[irreducible] noncomputable def vsg : List Value := cutT.2.2.1
@[irreducible] noncomputable def esg : Nat := cutT.2.2.2.1
@[irreducible] noncomputable def u3 : Str → Option Value := cutT.2.2.2.2.1
@[irreducible] noncomputable def h3 : Heap := cutT.2.2.2.2.2.1
@[irreducible] noncomputable def tk3 : Nat := cutT.2.2.2.2.2.2.1
@[irreducible] noncomputable def gens3 : Array GenState := cutT.2.2.2.2.2.2.2
noncomputable def cutQ5 : { qq : ((Str → Option Value) → Heap → Nat → (Array GenState) → Prop) // (∀ (u4 : Str → Option Value) (h4 : Heap) (tk4 : Nat) (gens4 : Array GenState), qq u4 h4 tk4 gens4) → cutQ4.1 o4' lsg vsg esg u3 h3 tk3 gens3 } := by
  refine ⟨?qq0, fun hP0 => ?b⟩
  case b =>
    delta cutQ4
    dsimp only
    intro X0 T0 hdp hun hret hg B' X' T' hc1 hc2 hc3 hd6 hI1 hl1 hlt hd5 hIM hap hml hd4 hS hls hB3 F3 N3
    refine' seqN (h₀ := g) (L := L') (σ := Unit) (fun _ => [(lsg, W.listOf vsg.toArray esg), (lm, W.listOf vm.toArray em), (lc, W.listOf vs'.toArray e'), (L' + 1 + 1 + 1 + 1 + 1 + 1, o1), (L' + 1 + 1 + 1 + 1 + 1, o2), (L' + 1 + 1 + 1 + 1, o3), (L' + 1 + 1 + 1, o4'), (L' + 1 + 1, o5'), (L' + 1, o6')]) (fun _ => []) (fun _ => True) ?s1 ?s2
    case s1 =>
      (try k_fold)
      refine wpAny_For ?_
      (((try k_fold); ((repeat' (first | (k_unfold; (try dsimp only)) | ((fail_if_success (with_reducible show wpAny _ _ (exec (Stmt.While _ _ _ _) _) _ _ _)); (fail_if_success (with_reducible show wpAny _ _ (exec (Stmt.For _ _ _ _ _) _) _ _ _)); (fail_if_success (with_reducible show wpAny _ _ (pyIter _) _ _ _)); (fail_if_success (with_reducible show wpAny _ _ (eval (Expr.ListComp _ _ _ _) _) _ _ _)); (fail_if_success (with_reducible show wpAny _ _ (exec (Stmt.Assign _ (Expr.ListComp _ _ _ _) _) _) _ _ _)); ((first | walk1 | (dsimp only; walk1)); (try dsimp only))))))))
      (((with_reducible rename Fr _ _ _ _ => F0); (with_reducible rename News _ _ _ _ => N0)))
      rename IsRange _ _ _ _ _ _ _ _ => R0
      refine' rangeN (L := L') (σ := Unit) (n := 3) (fun _ => [(lsg, W.listOf vsg.toArray esg), (lm, W.listOf vm.toArray em), (lc, W.listOf vs'.toArray e'), (L' + 1 + 1 + 1 + 1 + 1 + 1, o1), (L' + 1 + 1 + 1 + 1 + 1, o2), (L' + 1 + 1 + 1 + 1, o3), (L' + 1 + 1 + 1, o4'), (L' + 1 + 1, o5'), (L' + 1, o6')]) (fun _ => []) (fun _ _ => True) (fun _ => True) () rfl R0 rfl rfl F0 N0 (by kst_in) (by kst_all) trivial hB3 ?t1 (fun _ h => h) ?d1
      case d1 =>
        rintro _ u h tk gens _ hB F N
        dsimp only
        (((try k_fold); ((repeat' (first | (k_unfold; (try dsimp only)) | ((fail_if_success (with_reducible show wpAny _ _ (exec (Stmt.While _ _ _ _) _) _ _ _)); (fail_if_success (with_reducible show wpAny _ _ (exec (Stmt.For _ _ _ _ _) _) _ _ _)); (fail_if_success (with_reducible show wpAny _ _ (pyIter _) _ _ _)); (fail_if_success (with_reducible show wpAny _ _ (eval (Expr.ListComp _ _ _ _) _) _ _ _)); (fail_if_success (with_reducible show wpAny _ _ (exec (Stmt.Assign _ (Expr.ListComp _ _ _ _) _) _) _ _ _)); ((first | walk1 | (dsimp only; walk1)); (try dsimp only))))))))
        exact OutG.mk' () hB F N (by kst_in) (by kst_all) trivial
      case t1 =>
        rintro i ti _ u4 h4 tk4 gens4 I oI hI0 hi _ hne hB4 F4 N4
        clear F0 N0 R0
        (try dsimp only at N4); dsimp only [kstB] at F4
        obtain ⟨qi, hqi⟩ := strs_at (i := i) hS hi
        (try k_fold)
        (((try k_fold); ((repeat' (first | (k_unfold; (try dsimp only)) | ((fail_if_success (with_reducible show wpAny _ _ (exec (Stmt.While _ _ _ _) _) _ _ _)); (fail_if_success (with_reducible show wpAny _ _ (exec (Stmt.For _ _ _ _ _) _) _ _ _)); (fail_if_success (with_reducible show wpAny _ _ (pyIter _) _ _ _)); (fail_if_success (with_reducible show wpAny _ _ (eval (Expr.ListComp _ _ _ _) _) _ _ _)); (fail_if_success (with_reducible show wpAny _ _ (exec (Stmt.Assign _ (Expr.ListComp _ _ _ _) _) _) _ _ _)); ((first | walk1 | (dsimp only; walk1)); (try dsimp only))))))))
        refine wpAny_For ?_
        (((try k_fold); ((repeat' (first | (k_unfold; (try dsimp only)) | ((fail_if_success (with_reducible show wpAny _ _ (exec (Stmt.While _ _ _ _) _) _ _ _)); (fail_if_success (with_reducible show wpAny _ _ (exec (Stmt.For _ _ _ _ _) _) _ _ _)); (fail_if_success (with_reducible show wpAny _ _ (pyIter _) _ _ _)); (fail_if_success (with_reducible show wpAny _ _ (eval (Expr.ListComp _ _ _ _) _) _ _ _)); (fail_if_success (with_reducible show wpAny _ _ (exec (Stmt.Assign _ (Expr.ListComp _ _ _ _) _) _) _ _ _)); ((first | walk1 | (dsimp only; walk1)); (try dsimp only))))))))
        (((with_reducible rename Fr _ _ _ _ => F0); (with_reducible rename News _ _ _ _ => N0)))
        rename IsRange _ _ _ _ _ _ _ _ => R0
        refine' rangeN (L := L') (σ := Unit) (n := 3) (fun _ => (I, oI) :: [(lsg, W.listOf vsg.toArray esg), (lm, W.listOf vm.toArray em), (lc, W.listOf vs'.toArray e'), (L' + 1 + 1 + 1 + 1 + 1 + 1, o1), (L' + 1 + 1 + 1 + 1 + 1, o2), (L' + 1 + 1 + 1 + 1, o3), (L' + 1 + 1 + 1, o4'), (L' + 1 + 1, o5'), (L' + 1, o6')]) (fun _ => [(Str.ofString "i", .int (0 + (i : Int)) ti)]) (fun _ _ => True) (fun _ => True) () rfl R0 rfl rfl F0 N0 (by kst_in) (by kst_all) trivial hB4 ?t2 (fun _ h => h) ?d2
        case d2 =>
          rintro _ u h tk gens _ hB F N
          dsimp only
          (((try k_fold); ((repeat' (first | (k_unfold; (try dsimp only)) | ((fail_if_success (with_reducible show wpAny _ _ (exec (Stmt.While _ _ _ _) _) _ _ _)); (fail_if_success (with_reducible show wpAny _ _ (exec (Stmt.For _ _ _ _ _) _) _ _ _)); (fail_if_success (with_reducible show wpAny _ _ (pyIter _) _ _ _)); (fail_if_success (with_reducible show wpAny _ _ (eval (Expr.ListComp _ _ _ _) _) _ _ _)); (fail_if_success (with_reducible show wpAny _ _ (exec (Stmt.Assign _ (Expr.ListComp _ _ _ _) _) _) _ _ _)); ((first | walk1 | (dsimp only; walk1)); (try dsimp only))))))))
          exact OutG.mk' () hB F N (by kst_in) (by kst_all) ⟨trivial, hne⟩
        case t2 =>
          rintro j tj _ u5 h5 tk5 gens5 J oJ hJ0 hj _ hneJ hB5 F5 N5
          clear F0 N0 R0
          (try dsimp only at N5); dsimp only [kstB] at F5
          obtain ⟨qj, hqj⟩ := strs_at (i := j) hS hj
          (try k_fold)
          (((try k_fold); ((repeat' (first | (k_unfold; (try dsimp only)) | ((fail_if_success (with_reducible show wpAny _ _ (exec (Stmt.While _ _ _ _) _) _ _ _)); (fail_if_success (with_reducible show wpAny _ _ (exec (Stmt.For _ _ _ _ _) _) _ _ _)); (fail_if_success (with_reducible show wpAny _ _ (pyIter _) _ _ _)); (fail_if_success (with_reducible show wpAny _ _ (eval (Expr.ListComp _ _ _ _) _) _ _ _)); (fail_if_success (with_reducible show wpAny _ _ (exec (Stmt.Assign _ (Expr.ListComp _ _ _ _) _) _) _ _ _)); ((first | walk1 | (dsimp only; walk1)); (try dsimp only))))))))
          (((with_reducible rename Fr _ _ _ _ => F0); (with_reducible rename News _ _ _ _ => N0)))
          have hcl := coll_tab cs' (i := i) (j := j) hi hj
          refine tells_use (coll_tells w mean mg mb _ _ _ _ (sign_len cs' hi) (sign_len cs' hj)) B' F0 N0 X' T' rfl rfl rfl ?hdc ?huc trivial ?_
          case hdc => show dp + 1 + 2 < recursionLimit; omega
          case huc => show un + 3 + 20 * 2 < cLine; omega
          rintro v h13 tk13 F13 N13 _ ⟨tc, rfl⟩
          clear F0 N0
          rw [hcl]
          dsimp only
          (((try k_fold); ((repeat' (first | (k_unfold; (try dsimp only)) | ((fail_if_success (with_reducible show wpAny _ _ (exec (Stmt.While _ _ _ _) _) _ _ _)); (fail_if_success (with_reducible show wpAny _ _ (exec (Stmt.For _ _ _ _ _) _) _ _ _)); (fail_if_success (with_reducible show wpAny _ _ (pyIter _) _ _ _)); (fail_if_success (with_reducible show wpAny _ _ (eval (Expr.ListComp _ _ _ _) _) _ _ _)); (fail_if_success (with_reducible show wpAny _ _ (exec (Stmt.Assign _ (Expr.ListComp _ _ _ _) _) _) _ _ _)); ((first | walk1 | (dsimp only; walk1)); (try dsimp only))))))))
          · exact absurd (tab_eq (k := 0) (by assumption)) (by assumption)
          · exact OutG.mk' () hB5 (by k_asm) (by k_asm) (by kst_in) (by kst_all) ⟨trivial, hneJ⟩
          · exact absurd (tab_eq (k := 1) (by assumption)) (by assumption)
          · exact OutG.mk' () hB5 (by k_asm) (by k_asm) (by kst_in) (by kst_all) ⟨trivial, hneJ⟩
          · exact absurd (tab_eq (k := 2) (by assumption)) (by assumption)
          · exact OutG.mk' () hB5 (by k_asm) (by k_asm) (by kst_in) (by kst_all) ⟨trivial, hneJ⟩
    case s2 =>
      rintro _ u4 h4 tk4 gens4 _ hB4 F4 N4
      clear F3 N3
      (try dsimp only at N4); dsimp only [kstB] at F4
      (try dsimp +zetaDelta only)
      revert N4
      revert F4
      revert hB4
      revert hls
      revert hS
      revert hd4
      revert hml
      revert hap
      revert hIM
      revert hd5
      revert hlt
      revert hl1
      revert hI1
      revert hd6
      revert hc3
      revert hc2
      revert hc1
      revert T'
      revert X'
      revert B'
      revert hg
      revert hret
      revert hun
      revert hdp
      revert T0
      revert X0
      exact @hP0 u4 h4 tk4 gens4
namespace C
@[irreducible] noncomputable def cutT : (Str → Option Value) × Heap × Nat × (Array GenState) := gen ⟨(fun _ => none, default, 0, #[])⟩ fun t => cutQ5.1 t.1 t.2.1 t.2.2.1 t.2.2.2
@[irreducible] noncomputable def u4 : Str → Option Value := cutT.1
@[irreducible] noncomputable def h4 : Heap := cutT.2.1
@[irreducible] noncomputable def tk4 : Nat := cutT.2.2.1
@[irreducible] noncomputable def gens4 : Array GenState := cutT.2.2.2
noncomputable def cutQ6 : { qq : (Addr → (List Value) → Nat → (Str → Option Value) → Heap → Nat → (Array GenState) → (List Str) → (List Int) → (List Int) → Prop) // (∀ (lp : Addr) (vp : List Value) (ep : Nat) (u5 : Str → Option Value) (h5 : Heap) (tk5 : Nat) (gens5 : Array GenState) (sg : List Str) (pk : List Int) (DD : List Int), qq lp vp ep u5 h5 tk5 gens5 sg pk DD) → cutQ5.1 u4 h4 tk4 gens4 } := by
  refine ⟨?qq0, fun hP0 => ?b⟩
  case b =>
    delta cutQ5
    dsimp only
    intro X0 T0 hdp hun hret hg B' X' T' hc1 hc2 hc3 hd6 hI1 hl1 hlt hd5 hIM hap hml hd4 hS hls hB4 F4 N4
    refine' seqN (h₀ := g) (L := L') (σ := Nat × List Value × Nat) (fun c => [(c.1, W.listOf c.2.1.toArray c.2.2), (lsg, W.listOf vsg.toArray esg), (lm, W.listOf vm.toArray em), (lc, W.listOf vs'.toArray e'), (L' + 1 + 1 + 1 + 1 + 1 + 1, o1), (L' + 1 + 1 + 1 + 1 + 1, o2), (L' + 1 + 1 + 1 + 1, o3), (L' + 1 + 1 + 1, o4'), (L' + 1 + 1, o5'), (L' + 1, o6')]) (fun c => [(Str.ofString "picks", .ref c.1)]) (fun c => IntsAre c.2.1 (picksI cs') ∧ LtAll c.1 (lsg :: lm :: lc :: six L')) ?s1 ?s2
    case s1 =>
      (try k_fold)
      (((try k_fold); ((repeat' (first | (k_unfold; (try dsimp only)) | ((fail_if_success (with_reducible show wpAny _ _ (exec (Stmt.While _ _ _ _) _) _ _ _)); (fail_if_success (with_reducible show wpAny _ _ (exec (Stmt.For _ _ _ _ _) _) _ _ _)); (fail_if_success (with_reducible show wpAny _ _ (pyIter _) _ _ _)); (fail_if_success (with_reducible show wpAny _ _ (eval (Expr.ListComp _ _ _ _) _) _ _ _)); (fail_if_success (with_reducible show wpAny _ _ (exec (Stmt.Assign _ (Expr.ListComp _ _ _ _) _) _) _ _ _)); ((first | walk1 | (dsimp only; walk1)); (try dsimp only))))))))
      refine' comp_assign ?h ?hsw ?hclos ?hkind ?hnames ?hs
      case hsw => with_unfolding_all rfl
      (((case hclos => with_unfolding_all rfl); (case hkind => exact rfl); (case hnames => decide); (case hs => intro _; with_unfolding_all rfl)))
      case h =>
        (((try k_fold); ((repeat' (first | (k_unfold; (try dsimp only)) | ((fail_if_success (with_reducible show wpAny _ _ (exec (Stmt.While _ _ _ _) _) _ _ _)); (fail_if_success (with_reducible show wpAny _ _ (exec (Stmt.For _ _ _ _ _) _) _ _ _)); (fail_if_success (with_reducible show wpAny _ _ (pyIter _) _ _ _)); (fail_if_success (with_reducible show wpAny _ _ (eval (Expr.ListComp _ _ _ _) _) _ _ _)); (fail_if_success (with_reducible show wpAny _ _ (exec (Stmt.Assign _ (Expr.ListComp _ _ _ _) _) _) _ _ _)); ((first | walk1 | (dsimp only; walk1)); (try dsimp only))))))))
        (((with_reducible rename Fr _ _ _ _ => F0); (with_reducible rename News _ _ _ _ => N0)))
        refine compK_range 5 (fun _ => true) (fun a y => isInt ((cs'.getD a.toNat 0).fmod 3) y) (by assumption) rfl rfl (by decide) rfl F0 N0 (by decide) rfl rfl ⟨?t4, ?e4⟩ ?k4
        case t4 =>
          rintro C D I a v oC oD oI mC h tk E' hDC hnw ha ⟨t, rfl⟩ hC hm F9 N9
          clear F0 N0
          unfold ifsOf
          (((try k_fold); ((repeat' (first | (k_unfold; (try dsimp only)) | ((fail_if_success (with_reducible show wpAny _ _ (exec (Stmt.While _ _ _ _) _) _ _ _)); (fail_if_success (with_reducible show wpAny _ _ (exec (Stmt.For _ _ _ _ _) _) _ _ _)); (fail_if_success (with_reducible show wpAny _ _ (pyIter _) _ _ _)); (fail_if_success (with_reducible show wpAny _ _ (eval (Expr.ListComp _ _ _ _) _) _ _ _)); (fail_if_success (with_reducible show wpAny _ _ (exec (Stmt.Assign _ (Expr.ListComp _ _ _ _) _) _) _ _ _)); ((first | walk1 | (dsimp only; walk1)); (try dsimp only))))))))
          exact CKeep.mk' (by k_asm) (by k_asm) (by kst_in) rfl
        case e4 =>
          rintro C D I a v oC oD oI mC h tk E' hDC hnw ha ⟨t, rfl⟩ hp hC hm F9 N9
          clear F0 N0
          have ha3 : 0 ≤ a ∧ a ≤ 4 := by
            simp only [rangeL, List.mem_map, List.mem_range] at ha
            omega
          (((try k_fold); ((repeat' (first | (k_unfold; (try dsimp only)) | ((fail_if_success (with_reducible show wpAny _ _ (exec (Stmt.While _ _ _ _) _) _ _ _)); (fail_if_success (with_reducible show wpAny _ _ (exec (Stmt.For _ _ _ _ _) _) _ _ _)); (fail_if_success (with_reducible show wpAny _ _ (pyIter _) _ _ _)); (fail_if_success (with_reducible show wpAny _ _ (eval (Expr.ListComp _ _ _ _) _) _ _ _)); (fail_if_success (with_reducible show wpAny _ _ (exec (Stmt.Assign _ (Expr.ListComp _ _ _ _) _) _) _ _ _)); ((first | walk1 | (dsimp only; walk1)); (try dsimp only))))))))
          exact CKeep.mk' (by k_asm) (by k_asm) (by kst_in) ⟨_, rfl⟩
        case k4 =>
          intro C D ys e oC mC h8 tk8 hy hDC hnw F9 hC N9
          clear F0 N0
          refine post_assign hDC hnw rfl rfl rfl F9 hC N9 ?_
          clear hC; k_lt hnw
          intro h8 tk8 F8 N8
          clear F9 N9
          dsimp only
          have hI8 := paired_ints hy
          clear hy
          rw [List.filter_eq_self.mpr (fun _ _ => rfl)] at hI8
          (((try k_fold); ((repeat' (first | (k_unfold; (try dsimp only)) | ((fail_if_success (with_reducible show wpAny _ _ (exec (Stmt.While _ _ _ _) _) _ _ _)); (fail_if_success (with_reducible show wpAny _ _ (exec (Stmt.For _ _ _ _ _) _) _ _ _)); (fail_if_success (with_reducible show wpAny _ _ (pyIter _) _ _ _)); (fail_if_success (with_reducible show wpAny _ _ (eval (Expr.ListComp _ _ _ _) _) _ _ _)); (fail_if_success (with_reducible show wpAny _ _ (exec (Stmt.Assign _ (Expr.ListComp _ _ _ _) _) _) _ _ _)); ((first | walk1 | (dsimp only; walk1)); (try dsimp only))))))))
          exact OutG.mk' (D, ys, e) hB4 (by k_asm) (by k_asm) (by kst_in) (by kst_all) ⟨hI8, ltAll_sub hnw (by kst_in)⟩
    case s2 =>
      rintro ⟨lp, vp, ep⟩ u5 h5 tk5 gens5 ⟨hIp, hlp⟩ hB5 F5 N5
      clear F4 N4
      dsimp only at hIp hlp; (try dsimp only at N5); dsimp only [kstB] at F5
      have hpr := picks_range cs'
      have hSl : StrsL [signS cs' 0, signS cs' 1, signS cs' 2] := signs_one cs'
      generalize hsg : [signS cs' 0, signS cs' 1, signS cs' 2] = sg at *
      generalize hpk : picksI cs' = pk at *
      have hDin := marksC_in (cs'.getD 5 0)
      generalize hD : marksC (cs'.getD 5 0) = DD at *
      have hpl : pk.length = 5 := by rw [← hpk]; rfl
      (try dsimp +zetaDelta only)
      revert hpl
      revert hD
      revert hDin
      revert hpk
      revert hsg
      revert hSl
      revert hpr
      revert N5
      revert F5
      revert hB5
      revert hlp
      revert hIp
      revert hls
      revert hS
      revert hd4
      revert hml
      revert hap
      revert hIM
      revert hd5
      revert hlt
      revert hl1
      revert hI1
      revert hd6
      revert hc3
      revert hc2
      revert hc1
      revert T'
      revert X'
      revert B'
      revert hg
      revert hret
      revert hun
      revert hdp
      revert T0
      revert X0
      exact @hP0 lp vp ep u5 h5 tk5 gens5 sg pk DD
namespace C
@[irreducible] noncomputable def cutT : Addr × (List Value) × Nat × (Str → Option Value) × Heap × Nat × (Array GenState) × (List Str) × (List Int) × (List Int) := gen ⟨(0, [], 0, fun _ => none, default, 0, #[], [], [], [])⟩ fun t => cutQ6.1 t.1 t.2.1 t.2.2.1 t.2.2.2.1 t.2.2.2.2.1 t.2.2.2.2.2.1 t.2.2.2.2.2.2.1 t.2.2.2.2.2.2.2.1 t.2.2.2.2.2.2.2.2.1 t.2.2.2.2.2.2.2.2.2
@[irreducible] noncomputable def lp : Addr := cutT.1
@[irreducible] noncomputable def vp : List Value := cutT.2.1
@[irreducible] noncomputable def ep : Nat := cutT.2.2.1
@[irreducible] noncomputable def u5 : Str → Option Value := cutT.2.2.2.1
@[irreducible] noncomputable def h5 : Heap := cutT.2.2.2.2.1
@[irreducible] noncomputable def tk5 : Nat := cutT.2.2.2.2.2.1
@[irreducible] noncomputable def gens5 : Array GenState := cutT.2.2.2.2.2.2.1
@[irreducible] noncomputable def sg : List Str := cutT.2.2.2.2.2.2.2.1
@[irreducible] noncomputable def pk : List Int := cutT.2.2.2.2.2.2.2.2.1
@[irreducible] noncomputable def DD : List Int := cutT.2.2.2.2.2.2.2.2.2
noncomputable def cutQ7 : { qq : (Addr → (List Value) → Nat → (List Str) → Nat → Obj → Int → Tok → (Str → Option Value) → Heap → Nat → (Array GenState) → Addr → Obj → Tok → Str → Heap → Nat → (Option Value) → Prop) × (Obj → Int → Tok → (Str → Option Value) → Heap → Nat → (Array GenState) → Prop) // (∀ (lt : Addr) (ws : List Value) (et : Nat) (T : List Str) (i : Nat) (o3' : Obj) (x : Int) (tx : Tok) (u6 : Str → Option Value) (h6 : Heap) (tk6 : Nat) (gens6 : Array GenState) (I : Addr) (oI : Obj) (ty : Tok) (y : Str) (h10 : Heap) (tk10 : Nat) (x3 : Option Value), qq.1 lt ws et T i o3' x tx u6 h6 tk6 gens6 I oI ty y h10 tk10 x3) → (∀ (o3' : Obj) (ex : Int) (tx : Tok) (u6 : Str → Option Value) (h6 : Heap) (tk6 : Nat) (gens6 : Array GenState), qq.2 o3' ex tx u6 h6 tk6 gens6) → cutQ6.1 lp vp ep u5 h5 tk5 gens5 sg pk DD } := by
  refine ⟨(?qq0, ?qq1), fun hP0 hP1 => ?b⟩
  case b =>
    dsimp only at hP0 hP1
    delta cutQ6
    dsimp only
    intro X0 T0 hdp hun hret hg B' X' T' hc1 hc2 hc3 hd6 hI1 hl1 hlt hd5 hIM hap hml hd4 hS hls hIp hlp hB5 F5 N5 hpr hSl hsg hpk hDin hD hpl
    refine' seqNk (a := [_, _]) (h₀ := g) (L := L') (σ := Obj × Int × Tok) (fun c => [(lp, W.listOf vp.toArray ep), (lsg, W.listOf vsg.toArray esg), (lm, W.listOf vm.toArray em), (lc, W.listOf vs'.toArray e'), (L' + 1 + 1 + 1 + 1 + 1 + 1, o1), (L' + 1 + 1 + 1 + 1 + 1, o2), (L' + 1 + 1 + 1 + 1, c.1), (L' + 1 + 1 + 1, o4'), (L' + 1 + 1, o5'), (L' + 1, o6')]) (fun c => [(Str.ofString "picks", .ref lp), (Str.ofString "exact", .int c.2.1 c.2.2)]) (fun c => c.2.1 = exactF sg pk DD) ?s1 ?s2
    case s1 =>
      (try k_fold)
      (((try k_fold); ((repeat' (first | (k_unfold; (try dsimp only)) | ((fail_if_success (with_reducible show wpAny _ _ (exec (Stmt.While _ _ _ _) _) _ _ _)); (fail_if_success (with_reducible show wpAny _ _ (exec (Stmt.For _ _ _ _ _) _) _ _ _)); (fail_if_success (with_reducible show wpAny _ _ (pyIter _) _ _ _)); (fail_if_success (with_reducible show wpAny _ _ (eval (Expr.ListComp _ _ _ _) _) _ _ _)); (fail_if_success (with_reducible show wpAny _ _ (exec (Stmt.Assign _ (Expr.ListComp _ _ _ _) _) _) _ _ _)); ((first | walk1 | (dsimp only; walk1)); (try dsimp only))))))))
      refine wpAny_For ?_
      (((try k_fold); ((repeat' (first | (k_unfold; (try dsimp only)) | ((fail_if_success (with_reducible show wpAny _ _ (exec (Stmt.While _ _ _ _) _) _ _ _)); (fail_if_success (with_reducible show wpAny _ _ (exec (Stmt.For _ _ _ _ _) _) _ _ _)); (fail_if_success (with_reducible show wpAny _ _ (pyIter _) _ _ _)); (fail_if_success (with_reducible show wpAny _ _ (eval (Expr.ListComp _ _ _ _) _) _ _ _)); (fail_if_success (with_reducible show wpAny _ _ (exec (Stmt.Assign _ (Expr.ListComp _ _ _ _) _) _) _ _ _)); ((first | walk1 | (dsimp only; walk1)); (try dsimp only))))))))
      refine' comp_eval ?h ?hclos ?hkind ?hnames ?hs
      (((case hclos => with_unfolding_all rfl); (case hkind => exact rfl); (case hnames => decide); (case hs => intro _; with_unfolding_all rfl)))
      case h =>
        (((try k_fold); ((repeat' (first | (k_unfold; (try dsimp only)) | ((fail_if_success (with_reducible show wpAny _ _ (exec (Stmt.While _ _ _ _) _) _ _ _)); (fail_if_success (with_reducible show wpAny _ _ (exec (Stmt.For _ _ _ _ _) _) _ _ _)); (fail_if_success (with_reducible show wpAny _ _ (pyIter _) _ _ _)); (fail_if_success (with_reducible show wpAny _ _ (eval (Expr.ListComp _ _ _ _) _) _ _ _)); (fail_if_success (with_reducible show wpAny _ _ (exec (Stmt.Assign _ (Expr.ListComp _ _ _ _) _) _) _ _ _)); ((first | walk1 | (dsimp only; walk1)); (try dsimp only))))))))
        (((with_reducible rename Fr _ _ _ _ => F0); (with_reducible rename News _ _ _ _ => N0)))
        refine compK_list pk isInt (fun _ => true) (fun a y => ∃ t, y = Value.str (sgn sg a) t) (isList_of N0 (by k_mem)) (ints_paired hIp) (.inr ⟨_, by k_mem⟩) (by rw [hIp.length, hpl, sizeLine_eq]; decide) rfl F0 N0 (by decide) rfl rfl ⟨?t5, ?e5⟩ ?k5
        case t5 =>
          rintro C D I a v oC oD oI mC h tk E' hDC hnw ha ⟨t, rfl⟩ hC hm F9 N9
          clear F0 N0
          unfold ifsOf
          (((try k_fold); ((repeat' (first | (k_unfold; (try dsimp only)) | ((fail_if_success (with_reducible show wpAny _ _ (exec (Stmt.While _ _ _ _) _) _ _ _)); (fail_if_success (with_reducible show wpAny _ _ (exec (Stmt.For _ _ _ _ _) _) _ _ _)); (fail_if_success (with_reducible show wpAny _ _ (pyIter _) _ _ _)); (fail_if_success (with_reducible show wpAny _ _ (eval (Expr.ListComp _ _ _ _) _) _ _ _)); (fail_if_success (with_reducible show wpAny _ _ (exec (Stmt.Assign _ (Expr.ListComp _ _ _ _) _) _) _ _ _)); ((first | walk1 | (dsimp only; walk1)); (try dsimp only))))))))
          exact CKeep.mk' (by k_asm) (by k_asm) (by kst_in) rfl
        case e5 =>
          rintro C D I a v oC oD oI mC h tk E' hDC hnw ha ⟨t, rfl⟩ hp hC hm F9 N9
          clear F0 N0
          have ha3 := hpr a ha
          obtain ⟨qa, hqa⟩ := strs_sgn hS hSl ha3
          (((try k_fold); ((repeat' (first | (k_unfold; (try dsimp only)) | ((fail_if_success (with_reducible show wpAny _ _ (exec (Stmt.While _ _ _ _) _) _ _ _)); (fail_if_success (with_reducible show wpAny _ _ (exec (Stmt.For _ _ _ _ _) _) _ _ _)); (fail_if_success (with_reducible show wpAny _ _ (pyIter _) _ _ _)); (fail_if_success (with_reducible show wpAny _ _ (eval (Expr.ListComp _ _ _ _) _) _ _ _)); (fail_if_success (with_reducible show wpAny _ _ (exec (Stmt.Assign _ (Expr.ListComp _ _ _ _) _) _) _ _ _)); ((first | walk1 | (dsimp only; walk1)); (try dsimp only))))))))
          exact CKeep.mk' (by k_asm) (by k_asm) (by kst_in) ⟨_, rfl⟩
        case k5 =>
          intro C D ys e oC mC h3 tk3 hy hDC hnw F9 hC N9
          clear F0 N0
          refine post_none hDC hnw F9 hC N9 ?_
          clear hC; k_lt hnw
          intro h4 F8 N8
          clear F9 N9
          dsimp only
          rw [List.filter_eq_self.mpr (fun _ _ => rfl)] at hy
          have hSy : StrsAre ys (pk.map (sgn sg)) := paired_strs hy
          clear hy
          (((try k_fold); ((repeat' (first | (k_unfold; (try dsimp only)) | ((fail_if_success (with_reducible show wpAny _ _ (exec (Stmt.While _ _ _ _) _) _ _ _)); (fail_if_success (with_reducible show wpAny _ _ (exec (Stmt.For _ _ _ _ _) _) _ _ _)); (fail_if_success (with_reducible show wpAny _ _ (pyIter _) _ _ _)); (fail_if_success (with_reducible show wpAny _ _ (eval (Expr.ListComp _ _ _ _) _) _ _ _)); (fail_if_success (with_reducible show wpAny _ _ (exec (Stmt.Assign _ (Expr.ListComp _ _ _ _) _) _) _ _ _)); ((first | walk1 | (dsimp only; walk1)); (try dsimp only))))))))
          (((with_reducible rename Fr _ _ _ _ => F0); (with_reducible rename News _ _ _ _ => N0)))
          refine tells_use (texts_tells w mean mg mb D ys _ hSy (by rw [List.length_map, hpl]; decide) (sgn_one hSl hpr)) B' F0 N0 X' T' rfl rfl rfl ?hdt ?hut (isList_of N0 (by k_mem)) ?_
          case hdt => show dp + 1 + 2 < recursionLimit; omega
          case hut => show un + 3 + 20 * 2 < cLine; omega
          rintro v h10 tk10 F10 N10 _ ⟨lt, ws, et, rfl, hod, hnd, hSt⟩
          have hneT := news_ne N0 hnd
          have N11 := news_join F0 N10 hod hnd
          have hapT : Apart lt (lp :: lsg :: lm :: lc :: six L') := apart_ne hneT (by kst_in)
          clear F0 N0 N10 hneT
          dsimp only
          (((try k_fold); ((repeat' (first | (k_unfold; (try dsimp only)) | ((fail_if_success (with_reducible show wpAny _ _ (exec (Stmt.While _ _ _ _) _) _ _ _)); (fail_if_success (with_reducible show wpAny _ _ (exec (Stmt.For _ _ _ _ _) _) _ _ _)); (fail_if_success (with_reducible show wpAny _ _ (pyIter _) _ _ _)); (fail_if_success (with_reducible show wpAny _ _ (eval (Expr.ListComp _ _ _ _) _) _ _ _)); (fail_if_success (with_reducible show wpAny _ _ (exec (Stmt.Assign _ (Expr.ListComp _ _ _ _) _) _) _ _ _)); ((first | walk1 | (dsimp only; walk1)); (try dsimp only))))))))
          show wpAny (model _ w) _ (pyIter (Value.ref lt)) _ _ _
          (try dsimp only)
          (((with_reducible rename Fr _ _ _ _ => F0); (with_reducible rename News _ _ _ _ => N0)))
          have hT5 := texts_len (ns := pk.map (sgn sg)) (by rw [List.length_map, hpl]; decide) (sgn_one hSl hpr) 5 (by rw [List.length_map, hpl]; decide)
          rw [List.take_of_length_le (by rw [List.length_map, hpl]; decide)] at hT5
          have hEx : exactF sg pk DD = cntF DD (textsF (pk.map (sgn sg))) := rfl
          generalize textsF (pk.map (sgn sg)) = T at *
          obtain ⟨hT5, hT6⟩ := hT5
          refine' listN (L := L') (σ := Obj × Int × Tok) (fun c => [(lt, W.listOf ws.toArray et), (lp, W.listOf vp.toArray ep), (lsg, W.listOf vsg.toArray esg), (lm, W.listOf vm.toArray em), (lc, W.listOf vs'.toArray e'), (L' + 1 + 1 + 1 + 1 + 1 + 1, o1), (L' + 1 + 1 + 1 + 1 + 1, o2), (L' + 1 + 1 + 1 + 1, c.1), (L' + 1 + 1 + 1, o4'), (L' + 1 + 1, o5'), (L' + 1, o6')]) (fun c => [(Str.ofString "picks", .ref lp), (Str.ofString "exact", .int c.2.1 c.2.2)])
            (fun i c => (∃ x, c.1.data = .cell x) ∧ c.2.1 = cntF DD (T.take i) ∧ 0 ≤ c.2.1 ∧ c.2.1 ≤ (i : Int)) (fun c => c.2.1 = cntF DD T) (o3, _, _) rfl (isList_of N0 (by k_mem)) (.inr ⟨_, fun c => by k_mem⟩) F0 N0 (by kst_in) (by kst_all) ⟨⟨_, hc3⟩, rfl, Int.le_refl _, Int.le_refl _⟩ hB5 ?jt ?jx ?jd
          case jx =>
            rintro c ⟨_, h, _⟩
            rw [hSt.length, List.take_length] at h
            exact h
          case jd =>
            rintro ⟨o3', x, tx⟩ u h tk gens hc hB F N
            clear F0 N0
            dsimp only at hc; (try dsimp only at N); dsimp only [kstB] at F
            dsimp only
            (((try k_fold); ((repeat' (first | (k_unfold; (try dsimp only)) | ((fail_if_success (with_reducible show wpAny _ _ (exec (Stmt.While _ _ _ _) _) _ _ _)); (fail_if_success (with_reducible show wpAny _ _ (exec (Stmt.For _ _ _ _ _) _) _ _ _)); (fail_if_success (with_reducible show wpAny _ _ (pyIter _) _ _ _)); (fail_if_success (with_reducible show wpAny _ _ (eval (Expr.ListComp _ _ _ _) _) _ _ _)); (fail_if_success (with_reducible show wpAny _ _ (exec (Stmt.Assign _ (Expr.ListComp _ _ _ _) _) _) _ _ _)); ((first | walk1 | (dsimp only; walk1)); (try dsimp only))))))))
            exact OutG.mk' (_, _, _) hB F N (by kst_in) (by kst_all) (hc.trans hEx.symm)
          case jt =>
            rintro i v ⟨o3', x, tx⟩ u6 h6 tk6 gens6 I oI hI0 hv ⟨⟨x3, hd3⟩, hx, hx0, hxi⟩ hne hB6 F6 N6
            clear F0 N0
            dsimp only at hd3 hx hx0 hxi hne; (try dsimp only at N6); dsimp only [kstB] at F6
            have hi : i < T.length := by have := (List.getElem?_eq_some_iff.mp hv).1; rw [hSt.length] at this; exact this
            obtain ⟨ty, hv'⟩ := strs_get hSt hv
            subst hv'
            clear hv
            have hy5 : (T.getD i (Str.ofString "")).length = 5 := hT5 _ (by rw [List.getD_eq_getElem?_getD, List.getElem?_eq_getElem hi]; exact List.getElem_mem hi)
            have hnx := cntF_take DD T hi
            generalize T.getD i (Str.ofString "") = y at *
            have hi6 : (i : Int) ≤ 7776 := by
              have : T.length ≤ 7776 := hT6
              omega
            (try dsimp +zetaDelta only)
            revert hi6
            revert hnx
            revert hy5
            revert hi
            revert N6
            revert F6
            revert hB6
            revert hne
            revert hxi
            revert hx0
            revert hx
            revert hd3
            revert hEx
            revert hT6
            revert hT5
            revert hapT
            revert hpl
            revert hD
            revert hDin
            revert hpk
            revert hsg
            revert hSl
            revert hpr
            revert hlp
            revert hIp
            revert hls
            revert hS
            revert hd4
            revert hml
            revert hap
            revert hIM
            revert hd5
            revert hlt
            revert hl1
            revert hI1
            revert hd6
            revert hc3
            revert hc2
            revert hc1
            revert T'
            revert X'
            revert B'
            revert hg
            revert hret
            revert hun
            revert hdp
            revert T0
            revert X0
            exact @hP0 lt ws et T i o3' x tx u6 h6 tk6 gens6 I oI ty y h10 tk10 x3
    case s2 =>
      rintro ⟨o3', ex, tx⟩ u6 h6 tk6 gens6 hex hB6 F6 N6
      clear F5 N5
      dsimp only at hex; (try dsimp only at N6); dsimp only [kstB] at F6
      (try dsimp +zetaDelta only)
      revert N6
      revert F6
      revert hB6
      revert hex
      revert hpl
      revert hD
      revert hDin
      revert hpk
      revert hsg
      revert hSl
      revert hpr
      revert hlp
      revert hIp
      revert hls
      revert hS
      revert hd4
      revert hml
      revert hap
      revert hIM
      revert hd5
      revert hlt
      revert hl1
      revert hI1
      revert hd6
      revert hc2
      revert hc1
      revert T'
      revert X'
      revert B'
      revert hg
      revert hret
      revert hun
      revert hdp
      revert T0
      revert X0
      exact @hP1 o3' ex tx u6 h6 tk6 gens6
namespace C0
@[irreducible] noncomputable def cutT : Addr × (List Value) × Nat × (List Str) × Nat × Obj × Int × Tok × (Str → Option Value) × Heap × Nat × (Array GenState) × Addr × Obj × Tok × Str × Heap × Nat × (Option Value) := gen ⟨(0, [], 0, [], 0, default, 0, 0, fun _ => none, default, 0, #[], 0, default, 0, Str.ofString "", default, 0, none)⟩ fun t => cutQ7.1.1 t.1 t.2.1 t.2.2.1 t.2.2.2.1 t.2.2.2.2.1 t.2.2.2.2.2.1 t.2.2.2.2.2.2.1 t.2.2.2.2.2.2.2.1 t.2.2.2.2.2.2.2.2.1 t.2.2.2.2.2.2.2.2.2.1 t.2.2.2.2.2.2.2.2.2.2.1 t.2.2.2.2.2.2.2.2.2.2.2.1 t.2.2.2.2.2.2.2.2.2.2.2.2.1 t.2.2.2.2.2.2.2.2.2.2.2.2.2.1 t.2.2.2.2.2.2.2.2.2.2.2.2.2.2.1 t.2.2.2.2.2.2.2.2.2.2.2.2.2.2.2.1 t.2.2.2.2.2.2.2.2.2.2.2.2.2.2.2.2.1 t.2.2.2.2.2.2.2.2.2.2.2.2.2.2.2.2.2.1 t.2.2.2.2.2.2.2.2.2.2.2.2.2.2.2.2.2.2
@[irreducible] noncomputable def lt : Addr := cutT.1
@[irreducible] noncomputable def ws : List Value := cutT.2.1
@[irreducible] noncomputable def et : Nat := cutT.2.2.1
@[irreducible] noncomputable def T : List Str := cutT.2.2.2.1
@[irreducible] noncomputable def i : Nat := cutT.2.2.2.2.1
@[irreducible] noncomputable def o3' : Obj := cutT.2.2.2.2.2.1
@[irreducible] noncomputable def x : Int := cutT.2.2.2.2.2.2.1
@[irreducible] noncomputable def tx : Tok := cutT.2.2.2.2.2.2.2.1
@[irreducible] noncomputable def u6 : Str → Option Value := cutT.2.2.2.2.2.2.2.2.1
@[irreducible] noncomputable def h6 : Heap := cutT.2.2.2.2.2.2.2.2.2.1
@[irreducible] noncomputable def tk6 : Nat := cutT.2.2.2.2.2.2.2.2.2.2.1
@[irreducible] noncomputable def gens6 : Array GenState := cutT.2.2.2.2.2.2.2.2.2.2.2.1
@[irreducible] noncomputable def I : Addr := cutT.2.2.2.2.2.2.2.2.2.2.2.2.1
@[irreducible] noncomputable def oI : Obj := cutT.2.2.2.2.2.2.2.2.2.2.2.2.2.1
@[irreducible] noncomputable def ty : Tok := cutT.2.2.2.2.2.2.2.2.2.2.2.2.2.2.1
@[irreducible] noncomputable def y : Str := cutT.2.2.2.2.2.2.2.2.2.2.2.2.2.2.2.1
@[irreducible] noncomputable def h10 : Heap := cutT.2.2.2.2.2.2.2.2.2.2.2.2.2.2.2.2.1
@[irreducible] noncomputable def tk10 : Nat := cutT.2.2.2.2.2.2.2.2.2.2.2.2.2.2.2.2.2.1
@[irreducible] noncomputable def x3 : Option Value := cutT.2.2.2.2.2.2.2.2.2.2.2.2.2.2.2.2.2.2
theorem cutP7 : cutQ7.1.1 lt ws et T i o3' x tx u6 h6 tk6 gens6 I oI ty y h10 tk10 x3 := by
  delta cutQ7
  dsimp only
  intro X0 T0 hdp hun hret hg B' X' T' hc1 hc2 hc3 hd6 hI1 hl1 hlt hd5 hIM hap hml hd4 hS hls hIp hlp hpr hSl hsg hpk hDin hD hpl hapT hT5 hT6 hEx hd3 hx hx0 hxi hne hB6 F6 N6 hi hy5 hnx hi6
  (try k_fold)
  (((try k_fold); ((repeat' (first | (k_unfold; (try dsimp only)) | ((fail_if_success (with_reducible show wpAny _ _ (exec (Stmt.While _ _ _ _) _) _ _ _)); (fail_if_success (with_reducible show wpAny _ _ (exec (Stmt.For _ _ _ _ _) _) _ _ _)); (fail_if_success (with_reducible show wpAny _ _ (pyIter _) _ _ _)); (fail_if_success (with_reducible show wpAny _ _ (eval (Expr.ListComp _ _ _ _) _) _ _ _)); (fail_if_success (with_reducible show wpAny _ _ (exec (Stmt.Assign _ (Expr.ListComp _ _ _ _) _) _) _ _ _)); ((first | walk1 | (dsimp only; walk1)); (try dsimp only))))))))
  refine' comp_eval ?h ?hclos ?hkind ?hnames ?hs
  (((case hclos => with_unfolding_all rfl); (case hkind => exact rfl); (case hnames => decide); (case hs => intro _; with_unfolding_all rfl)))
  case h =>
    (((try k_fold); ((repeat' (first | (k_unfold; (try dsimp only)) | ((fail_if_success (with_reducible show wpAny _ _ (exec (Stmt.While _ _ _ _) _) _ _ _)); (fail_if_success (with_reducible show wpAny _ _ (exec (Stmt.For _ _ _ _ _) _) _ _ _)); (fail_if_success (with_reducible show wpAny _ _ (pyIter _) _ _ _)); (fail_if_success (with_reducible show wpAny _ _ (eval (Expr.ListComp _ _ _ _) _) _ _ _)); (fail_if_success (with_reducible show wpAny _ _ (exec (Stmt.Assign _ (Expr.ListComp _ _ _ _) _) _) _ _ _)); ((first | walk1 | (dsimp only; walk1)); (try dsimp only))))))))
    (((with_reducible rename Fr _ _ _ _ => F0); (with_reducible rename News _ _ _ _ => N0)))
    rename Obj.data _ = Data.cell (some (Value.str y ty)) => hd3y
    obtain ⟨o3y, ho3⟩ := name_cell hd3y
    subst ho3
    refine compK_range 4 (fun k => decide (collF (Txt.item y (k - 1)) (Txt.item y k) = 1)) (fun a z => isInt a z) (by assumption) rfl rfl (by decide) rfl F0 N0 (by decide) rfl rfl ⟨?t7, ?e7⟩ ?k7
    case t7 =>
      rintro C D2 M a v oC oD oI mC h tk E' hDC hnw ha ⟨t, rfl⟩ hC hm F9 N9
      clear F0 N0
      have ha3 : 1 ≤ a ∧ a ≤ 4 := by
        simp only [rangeL, List.mem_map, List.mem_range] at ha
        omega
      unfold ifsOf
      (((try k_fold); ((repeat' (first | (k_unfold; (try dsimp only)) | ((fail_if_success (with_reducible show wpAny _ _ (exec (Stmt.While _ _ _ _) _) _ _ _)); (fail_if_success (with_reducible show wpAny _ _ (exec (Stmt.For _ _ _ _ _) _) _ _ _)); (fail_if_success (with_reducible show wpAny _ _ (pyIter _) _ _ _)); (fail_if_success (with_reducible show wpAny _ _ (eval (Expr.ListComp _ _ _ _) _) _ _ _)); (fail_if_success (with_reducible show wpAny _ _ (exec (Stmt.Assign _ (Expr.ListComp _ _ _ _) _) _) _ _ _)); ((first | walk1 | (dsimp only; walk1)); (try dsimp only))))))))
      (((with_reducible rename Fr _ _ _ _ => F0); (with_reducible rename News _ _ _ _ => N0)))
      refine tells_use (coll_tells w mean mg mb _ _ _ _ (by omega) (by omega)) B' F0 N0 X' T' rfl rfl rfl ?hdc ?huc trivial ?_
      case hdc => show dp + 1 + 2 < recursionLimit; omega
      case huc => show un + 3 + 20 * 2 < cLine; omega
      rintro v h13 tk13 F13 N13 _ ⟨tc, rfl⟩
      clear F0 N0
      dsimp only
      (((try k_fold); ((repeat' (first | (k_unfold; (try dsimp only)) | ((fail_if_success (with_reducible show wpAny _ _ (exec (Stmt.While _ _ _ _) _) _ _ _)); (fail_if_success (with_reducible show wpAny _ _ (exec (Stmt.For _ _ _ _ _) _) _ _ _)); (fail_if_success (with_reducible show wpAny _ _ (pyIter _) _ _ _)); (fail_if_success (with_reducible show wpAny _ _ (eval (Expr.ListComp _ _ _ _) _) _ _ _)); (fail_if_success (with_reducible show wpAny _ _ (exec (Stmt.Assign _ (Expr.ListComp _ _ _ _) _) _) _ _ _)); ((first | walk1 | (dsimp only; walk1)); (try dsimp only))))))))
      exact CKeep.mk' (by k_asm) (by k_asm) (by kst_in) (beq_dec _ _)
    case e7 =>
      rintro C D2 M a v oC oD oI mC h tk E' hDC hnw ha ⟨t, rfl⟩ hp hC hm F9 N9
      clear F0 N0
      (((try k_fold); ((repeat' (first | (k_unfold; (try dsimp only)) | ((fail_if_success (with_reducible show wpAny _ _ (exec (Stmt.While _ _ _ _) _) _ _ _)); (fail_if_success (with_reducible show wpAny _ _ (exec (Stmt.For _ _ _ _ _) _) _ _ _)); (fail_if_success (with_reducible show wpAny _ _ (pyIter _) _ _ _)); (fail_if_success (with_reducible show wpAny _ _ (eval (Expr.ListComp _ _ _ _) _) _ _ _)); (fail_if_success (with_reducible show wpAny _ _ (exec (Stmt.Assign _ (Expr.ListComp _ _ _ _) _) _) _ _ _)); ((first | walk1 | (dsimp only; walk1)); (try dsimp only))))))))
      exact CKeep.mk' (by k_asm) (by k_asm) (by kst_in) ⟨_, rfl⟩
    case k7 =>
      intro C D2 ys2 e2 oC mC h8 tk8 hy2 hDC hnw F9 hC N9
      clear F0 N0
      refine post_none hDC hnw F9 hC N9 ?_
      clear hC; k_lt hnw
      intro h9 F8 N8
      clear F9 N9
      dsimp only
      have hI8 : IntsAre ys2 (descF y) := by
        have := paired_ints hy2
        rw [List.map_id'] at this
        exact this
      clear hy2
      generalize descF y = dy at *
      (((try k_fold); ((repeat' (first | (k_unfold; (try dsimp only)) | ((fail_if_success (with_reducible show wpAny _ _ (exec (Stmt.While _ _ _ _) _) _ _ _)); (fail_if_success (with_reducible show wpAny _ _ (exec (Stmt.For _ _ _ _ _) _) _ _ _)); (fail_if_success (with_reducible show wpAny _ _ (pyIter _) _ _ _)); (fail_if_success (with_reducible show wpAny _ _ (eval (Expr.ListComp _ _ _ _) _) _ _ _)); (fail_if_success (with_reducible show wpAny _ _ (exec (Stmt.Assign _ (Expr.ListComp _ _ _ _) _) _) _ _ _)); ((first | walk1 | (dsimp only; walk1)); (try dsimp only))))))))
      · rename dy = DD => hq
        refine OutG.mk' (_, _, _) hB6 (by k_asm) (by k_asm) (by kst_in) (by kst_all) ?_
        refine ⟨⟨⟨_, hd3y⟩, ?_, ?_, ?_⟩, ne_same hne rfl⟩
        · dsimp only; rw [hnx, if_pos hq, ← hx]
        · dsimp only; omega
        · dsimp only; omega
      · rename dy ≠ DD => hq
        refine OutG.mk' (_, _, _) hB6 (by k_asm) (by k_asm) (by kst_in) (by kst_all) ?_
        refine ⟨⟨⟨_, hd3y⟩, ?_, ?_, ?_⟩, ne_same hne rfl⟩
        · dsimp only; rw [hnx, if_neg hq, Int.add_zero, ← hx]
        · exact hx0
        · dsimp only; omega
theorem cutR7 : ∀ (lt : Addr) (ws : List Value) (et : Nat) (T : List Str) (i : Nat) (o3' : Obj) (x : Int) (tx : Tok) (u6 : Str → Option Value) (h6 : Heap) (tk6 : Nat) (gens6 : Array GenState) (I : Addr) (oI : Obj) (ty : Tok) (y : Str) (h10 : Heap) (tk10 : Nat) (x3 : Option Value), cutQ7.1.1 lt ws et T i o3' x tx u6 h6 tk6 gens6 I oI ty y h10 tk10 x3 := by
  intro lt ws et T i o3' x tx u6 h6 tk6 gens6 I oI ty y h10 tk10 x3
  with_unfolding_all exact of_gen (P := fun t : Addr × (List Value) × Nat × (List Str) × Nat × Obj × Int × Tok × (Str → Option Value) × Heap × Nat × (Array GenState) × Addr × Obj × Tok × Str × Heap × Nat × (Option Value) => cutQ7.1.1 t.1 t.2.1 t.2.2.1 t.2.2.2.1 t.2.2.2.2.1 t.2.2.2.2.2.1 t.2.2.2.2.2.2.1 t.2.2.2.2.2.2.2.1 t.2.2.2.2.2.2.2.2.1 t.2.2.2.2.2.2.2.2.2.1 t.2.2.2.2.2.2.2.2.2.2.1 t.2.2.2.2.2.2.2.2.2.2.2.1 t.2.2.2.2.2.2.2.2.2.2.2.2.1 t.2.2.2.2.2.2.2.2.2.2.2.2.2.1 t.2.2.2.2.2.2.2.2.2.2.2.2.2.2.1 t.2.2.2.2.2.2.2.2.2.2.2.2.2.2.2.1 t.2.2.2.2.2.2.2.2.2.2.2.2.2.2.2.2.1 t.2.2.2.2.2.2.2.2.2.2.2.2.2.2.2.2.2.1 t.2.2.2.2.2.2.2.2.2.2.2.2.2.2.2.2.2.2) cutP7 (lt, ws, et, T, i, o3', x, tx, u6, h6, tk6, gens6, I, oI, ty, y, h10, tk10, x3)
end C0
namespace C1
@[irreducible] noncomputable def cutT : Obj × Int × Tok × (Str → Option Value) × Heap × Nat × (Array GenState) := gen ⟨(default, 0, 0, fun _ => none, default, 0, #[])⟩ fun t => cutQ7.1.2 t.1 t.2.1 t.2.2.1 t.2.2.2.1 t.2.2.2.2.1 t.2.2.2.2.2.1 t.2.2.2.2.2.2
@[irreducible] noncomputable def o3' : Obj := cutT.1
@[irreducible] noncomputable def ex : Int := cutT.2.1
@[irreducible] noncomputable def tx : Tok := cutT.2.2.1
@[irreducible] noncomputable def u6 : Str → Option Value := cutT.2.2.2.1
@[irreducible] noncomputable def h6 : Heap := cutT.2.2.2.2.1
@[irreducible] noncomputable def tk6 : Nat := cutT.2.2.2.2.2.1
@[irreducible] noncomputable def gens6 : Array GenState := cutT.2.2.2.2.2.2
noncomputable def cutQ8 : { qq : (Tok → Tok → Tok → (Str → Option Value) → Heap → Nat → (Array GenState) → Str → Str → Prop) // (∀ (ta : Tok) (tf : Tok) (tt : Tok) (u7 : Str → Option Value) (h7 : Heap) (tk7 : Nat) (gens7 : Array GenState) (As : Str) (Fu : Str), qq ta tf tt u7 h7 tk7 gens7 As Fu) → cutQ7.1.2 o3' ex tx u6 h6 tk6 gens6 } := by
  refine ⟨?qq0, fun hP0 => ?b⟩
  case b =>
    delta cutQ7
    dsimp only
    intro X0 T0 hdp hun hret hg B' X' T' hc1 hc2 hd6 hI1 hl1 hlt hd5 hIM hap hml hd4 hS hls hIp hlp hpr hSl hsg hpk hDin hD hpl hex hB6 F6 N6
    refine' seqNk (a := [_, _, _]) (h₀ := g) (L := L') (σ := Tok × Tok × Tok) (fun _ => [(lp, W.listOf vp.toArray ep), (lsg, W.listOf vsg.toArray esg), (lm, W.listOf vm.toArray em), (lc, W.listOf vs'.toArray e'), (L' + 1 + 1 + 1 + 1 + 1 + 1, o1), (L' + 1 + 1 + 1 + 1 + 1, o2), (L' + 1 + 1 + 1 + 1, o3'), (L' + 1 + 1 + 1, o4'), (L' + 1 + 1, o5'), (L' + 1, o6')]) (fun c => [(Str.ofString "picks", .ref lp), (Str.ofString "exact", .int ex tx), (Str.ofString "asked", .str (wrS DD (Str.ofString "...") 4) c.1), (Str.ofString "full", .str (wrS DD (Str.ofString ",") 4) c.2.1), (Str.ofString "total", .int 0 c.2.2)]) (fun _ => True) ?s1 ?s2
    case s1 =>
      (try k_fold)
      (((try k_fold); ((repeat' (first | (k_unfold; (try dsimp only)) | ((fail_if_success (with_reducible show wpAny _ _ (exec (Stmt.While _ _ _ _) _) _ _ _)); (fail_if_success (with_reducible show wpAny _ _ (exec (Stmt.For _ _ _ _ _) _) _ _ _)); (fail_if_success (with_reducible show wpAny _ _ (pyIter _) _ _ _)); (fail_if_success (with_reducible show wpAny _ _ (eval (Expr.ListComp _ _ _ _) _) _ _ _)); (fail_if_success (with_reducible show wpAny _ _ (exec (Stmt.Assign _ (Expr.ListComp _ _ _ _) _) _) _ _ _)); ((first | walk1 | (dsimp only; walk1)); (try dsimp only))))))))
      (((with_reducible rename Fr _ _ _ _ => F0); (with_reducible rename News _ _ _ _ => N0)))
      have hDl := allD_len4 hDin
      refine tells_use (written_tells w mean mg mb lm vm DD (Str.ofString "...") _ hIM (by omega) (by decide +kernel)) B' F0 N0 X' T' rfl rfl rfl ?hda ?hua (isList_of N0 (by k_mem)) ?_
      case hda => show dp + 1 + 2 < recursionLimit; omega
      case hua => show un + 3 + 20 * 2 < cLine; omega
      rintro v h10 tk10 F10 N10 _ ⟨ta, rfl⟩
      clear F0 N0
      dsimp only
      (((try k_fold); ((repeat' (first | (k_unfold; (try dsimp only)) | ((fail_if_success (with_reducible show wpAny _ _ (exec (Stmt.While _ _ _ _) _) _ _ _)); (fail_if_success (with_reducible show wpAny _ _ (exec (Stmt.For _ _ _ _ _) _) _ _ _)); (fail_if_success (with_reducible show wpAny _ _ (pyIter _) _ _ _)); (fail_if_success (with_reducible show wpAny _ _ (eval (Expr.ListComp _ _ _ _) _) _ _ _)); (fail_if_success (with_reducible show wpAny _ _ (exec (Stmt.Assign _ (Expr.ListComp _ _ _ _) _) _) _ _ _)); ((first | walk1 | (dsimp only; walk1)); (try dsimp only))))))))
      (((with_reducible rename Fr _ _ _ _ => F0); (with_reducible rename News _ _ _ _ => N0)))
      refine tells_use (written_tells w mean mg mb lm vm DD (Str.ofString ",") _ hIM (by omega) (by decide +kernel)) B' F0 N0 X' T' rfl rfl rfl ?hdb ?hub (isList_of N0 (by k_mem)) ?_
      case hdb => show dp + 1 + 2 < recursionLimit; omega
      case hub => show un + 3 + 20 * 2 < cLine; omega
      rintro v h11 tk11 F11 N11 _ ⟨tb, rfl⟩
      clear F0 N0
      dsimp only
      (((try k_fold); ((repeat' (first | (k_unfold; (try dsimp only)) | ((fail_if_success (with_reducible show wpAny _ _ (exec (Stmt.While _ _ _ _) _) _ _ _)); (fail_if_success (with_reducible show wpAny _ _ (exec (Stmt.For _ _ _ _ _) _) _ _ _)); (fail_if_success (with_reducible show wpAny _ _ (pyIter _) _ _ _)); (fail_if_success (with_reducible show wpAny _ _ (eval (Expr.ListComp _ _ _ _) _) _ _ _)); (fail_if_success (with_reducible show wpAny _ _ (exec (Stmt.Assign _ (Expr.ListComp _ _ _ _) _) _) _ _ _)); ((first | walk1 | (dsimp only; walk1)); (try dsimp only))))))))
      exact OutG.mk' (_, _, _) hB6 (by k_asm) (by k_asm) (by kst_in) (by kst_all) trivial
    case s2 =>
      rintro ⟨ta, tf, tt⟩ u7 h7 tk7 gens7 _ hB7 F7 N7
      clear F6 N6
      (try dsimp only at N7); dsimp only [kstB] at F7
      have hAl := wrS_len DD (Str.ofString "...") (by decide +kernel) 4 (Nat.le_refl _)
      have hFl := wrS_len DD (Str.ofString ",") (by decide +kernel) 4 (Nat.le_refl _)
      generalize hAs : wrS DD (Str.ofString "...") 4 = As at *
      generalize hFu : wrS DD (Str.ofString ",") 4 = Fu at *
      (try dsimp +zetaDelta only)
      revert hFu
      revert hAs
      revert hFl
      revert hAl
      revert N7
      revert F7
      revert hB7
      revert hex
      revert hpl
      revert hD
      revert hDin
      revert hpk
      revert hsg
      revert hSl
      revert hpr
      revert hlp
      revert hIp
      revert hls
      revert hS
      revert hd4
      revert hml
      revert hap
      revert hIM
      revert hd5
      revert hlt
      revert hl1
      revert hI1
      revert hd6
      revert hc2
      revert hc1
      revert T'
      revert X'
      revert B'
      revert hg
      revert hret
      revert hun
      revert hdp
      revert T0
      revert X0
      exact @hP0 ta tf tt u7 h7 tk7 gens7 As Fu
namespace C
@[irreducible] noncomputable def cutT : Tok × Tok × Tok × (Str → Option Value) × Heap × Nat × (Array GenState) × Str × Str := gen ⟨(0, 0, 0, fun _ => none, default, 0, #[], Str.ofString "", Str.ofString "")⟩ fun t => cutQ8.1 t.1 t.2.1 t.2.2.1 t.2.2.2.1 t.2.2.2.2.1 t.2.2.2.2.2.1 t.2.2.2.2.2.2.1 t.2.2.2.2.2.2.2.1 t.2.2.2.2.2.2.2.2
@[irreducible] noncomputable def ta : Tok := cutT.1
@[irreducible] noncomputable def tf : Tok := cutT.2.1
@[irreducible] noncomputable def tt : Tok := cutT.2.2.1
@[irreducible] noncomputable def u7 : Str → Option Value := cutT.2.2.2.1
@[irreducible] noncomputable def h7 : Heap := cutT.2.2.2.2.1
@[irreducible] noncomputable def tk7 : Nat := cutT.2.2.2.2.2.1
@[irreducible] noncomputable def gens7 : Array GenState := cutT.2.2.2.2.2.2.1
@[irreducible] noncomputable def As : Str := cutT.2.2.2.2.2.2.2.1
@[irreducible] noncomputable def Fu : Str := cutT.2.2.2.2.2.2.2.2
noncomputable def cutQ9 : { qq : (Heap → Nat → Nat → Tok → Obj → Obj → Int → Tok → (Str → Option Value) → Heap → Nat → (Array GenState) → Addr → Obj → (Option Value) → (Option Value) → Prop) // (∀ (hZ : Heap) (tkZ : Nat) (i : Nat) (ti : Tok) (o1' : Obj) (o2' : Obj) (x : Int) (tz : Tok) (u8 : Str → Option Value) (h8 : Heap) (tk8 : Nat) (gens8 : Array GenState) (I : Addr) (oI : Obj) (x1 : Option Value) (x2 : Option Value), qq hZ tkZ i ti o1' o2' x tz u8 h8 tk8 gens8 I oI x1 x2) → cutQ8.1 ta tf tt u7 h7 tk7 gens7 As Fu } := by
  refine ⟨?qq0, fun hP0 => ?b⟩
  case b =>
    delta cutQ8
    dsimp only
    intro X0 T0 hdp hun hret hg B' X' T' hc1 hc2 hd6 hI1 hl1 hlt hd5 hIM hap hml hd4 hS hls hIp hlp hpr hSl hsg hpk hDin hD hpl hex hB7 F7 N7 hAl hFl hAs hFu
    refine' seqN (h₀ := g) (L := L') (σ := (Obj × Obj) × Int × Tok) (fun c => [(lp, W.listOf vp.toArray ep), (lsg, W.listOf vsg.toArray esg), (lm, W.listOf vm.toArray em), (lc, W.listOf vs'.toArray e'), (L' + 1 + 1 + 1 + 1 + 1 + 1, c.1.1), (L' + 1 + 1 + 1 + 1 + 1, c.1.2), (L' + 1 + 1 + 1 + 1, o3'), (L' + 1 + 1 + 1, o4'), (L' + 1 + 1, o5'), (L' + 1, o6')]) (fun c => [(Str.ofString "picks", .ref lp), (Str.ofString "exact", .int ex tx), (Str.ofString "asked", .str As ta), (Str.ofString "full", .str Fu tf), (Str.ofString "total", .int c.2.1 c.2.2)]) (fun c => c.2.1 = totA DD (pk.count 0) (pk.count 1) 16) ?s1 ?s2
    case s1 =>
      (try k_fold)
      refine wpAny_For ?_
      (((try k_fold); ((repeat' (first | (k_unfold; (try dsimp only)) | ((fail_if_success (with_reducible show wpAny _ _ (exec (Stmt.While _ _ _ _) _) _ _ _)); (fail_if_success (with_reducible show wpAny _ _ (exec (Stmt.For _ _ _ _ _) _) _ _ _)); (fail_if_success (with_reducible show wpAny _ _ (pyIter _) _ _ _)); (fail_if_success (with_reducible show wpAny _ _ (eval (Expr.ListComp _ _ _ _) _) _ _ _)); (fail_if_success (with_reducible show wpAny _ _ (exec (Stmt.Assign _ (Expr.ListComp _ _ _ _) _) _) _ _ _)); ((first | walk1 | (dsimp only; walk1)); (try dsimp only))))))))
      (((with_reducible rename Fr _ _ _ _ => F0); (with_reducible rename News _ _ _ _ => N0)))
      rename IsRange _ _ _ _ _ _ _ _ => R0
      refine' rangeN (L := L') (σ := (Obj × Obj) × Int × Tok) (n := 16) (fun c => [(lp, W.listOf vp.toArray ep), (lsg, W.listOf vsg.toArray esg), (lm, W.listOf vm.toArray em), (lc, W.listOf vs'.toArray e'), (L' + 1 + 1 + 1 + 1 + 1 + 1, c.1.1), (L' + 1 + 1 + 1 + 1 + 1, c.1.2), (L' + 1 + 1 + 1 + 1, o3'), (L' + 1 + 1 + 1, o4'), (L' + 1 + 1, o5'), (L' + 1, o6')]) (fun c => [(Str.ofString "picks", .ref lp), (Str.ofString "exact", .int ex tx), (Str.ofString "asked", .str As ta), (Str.ofString "full", .str Fu tf), (Str.ofString "total", .int c.2.1 c.2.2)])
        (fun i c => (∃ x, c.1.1.data = .cell x) ∧ (∃ x, c.1.2.data = .cell x) ∧ c.2.1 = totA DD (pk.count 0) (pk.count 1) i) (fun c => c.2.1 = totA DD (pk.count 0) (pk.count 1) 16) ((o1, o2), _, _) rfl R0 rfl rfl F0 N0 (by kst_in) (by kst_all) ⟨⟨_, hc1⟩, ⟨_, hc2⟩, rfl⟩ hB7 ?t1 (fun _ h => h.2.2) ?d1
      case d1 =>
        rintro ⟨⟨o1', o2'⟩, x, tz⟩ u h tk gens hc hB F N
        clear F0 N0 R0
        dsimp only at hc; (try dsimp only at N); dsimp only [kstB] at F
        dsimp only
        (((try k_fold); ((repeat' (first | (k_unfold; (try dsimp only)) | ((fail_if_success (with_reducible show wpAny _ _ (exec (Stmt.While _ _ _ _) _) _ _ _)); (fail_if_success (with_reducible show wpAny _ _ (exec (Stmt.For _ _ _ _ _) _) _ _ _)); (fail_if_success (with_reducible show wpAny _ _ (pyIter _) _ _ _)); (fail_if_success (with_reducible show wpAny _ _ (eval (Expr.ListComp _ _ _ _) _) _ _ _)); (fail_if_success (with_reducible show wpAny _ _ (exec (Stmt.Assign _ (Expr.ListComp _ _ _ _) _) _) _ _ _)); ((first | walk1 | (dsimp only; walk1)); (try dsimp only))))))))
        exact OutG.mk' ((_, _), _, _) hB F N (by kst_in) (by kst_all) hc
      case t1 =>
        rintro i ti ⟨⟨o1', o2'⟩, x, tz⟩ u8 h8 tk8 gens8 I oI hI0 hi ⟨⟨x1, hd1⟩, ⟨x2, hd2⟩, hx⟩ hne hB8 F8 N8
        clear F0 N0 R0
        dsimp only at hd1 hd2 hx hne; (try dsimp only at N8); dsimp only [kstB] at F8
        rename_i hZ tkZ tZ1 tZ2 tZ3 aZ
        (try dsimp +zetaDelta only)
        revert N8
        revert F8
        revert hB8
        revert hne
        revert hx
        revert hd2
        revert hd1
        revert hi
        revert hFu
        revert hAs
        revert hFl
        revert hAl
        revert hex
        revert hpl
        revert hD
        revert hDin
        revert hpk
        revert hsg
        revert hSl
        revert hpr
        revert hlp
        revert hIp
        revert hls
        revert hS
        revert hd4
        revert hml
        revert hap
        revert hIM
        revert hd5
        revert hlt
        revert hl1
        revert hI1
        revert hd6
        revert T'
        revert X'
        revert B'
        revert hg
        revert hret
        revert hun
        revert hdp
        revert T0
        revert X0
        exact @hP0 hZ tkZ i ti o1' o2' x tz u8 h8 tk8 gens8 I oI x1 x2
    case s2 =>
      rintro ⟨⟨o1', o2'⟩, x, tz⟩ u8 h8 tk8 gens8 hx hB8 F8 N8
      clear F7 N7
      dsimp only at hx; (try dsimp only at N8); dsimp only [kstB] at F8
      have heq : ex = x := by
        rw [hex, hx, ← hsg, ← hpk]
        exact law_eq cs' hDin
      subst heq
      (try k_fold)
      (((try k_fold); ((repeat' (first | (k_unfold; (try dsimp only)) | ((fail_if_success (with_reducible show wpAny _ _ (exec (Stmt.While _ _ _ _) _) _ _ _)); (fail_if_success (with_reducible show wpAny _ _ (exec (Stmt.For _ _ _ _ _) _) _ _ _)); (fail_if_success (with_reducible show wpAny _ _ (pyIter _) _ _ _)); (fail_if_success (with_reducible show wpAny _ _ (eval (Expr.ListComp _ _ _ _) _) _ _ _)); (fail_if_success (with_reducible show wpAny _ _ (exec (Stmt.Assign _ (Expr.ListComp _ _ _ _) _) _) _ _ _)); ((first | walk1 | (dsimp only; walk1)); (try dsimp only))))))))
      (((with_reducible rename Fr _ _ _ _ => F0); (with_reducible rename News _ _ _ _ => N0)))
      rw [beq_self_eq_true]
      exact hret _ _ _ (ret_keep hg F0) hB8
namespace C
@[irreducible] noncomputable def cutT : Heap × Nat × Nat × Tok × Obj × Obj × Int × Tok × (Str → Option Value) × Heap × Nat × (Array GenState) × Addr × Obj × (Option Value) × (Option Value) := gen ⟨(default, 0, 0, 0, default, default, 0, 0, fun _ => none, default, 0, #[], 0, default, none, none)⟩ fun t => cutQ9.1 t.1 t.2.1 t.2.2.1 t.2.2.2.1 t.2.2.2.2.1 t.2.2.2.2.2.1 t.2.2.2.2.2.2.1 t.2.2.2.2.2.2.2.1 t.2.2.2.2.2.2.2.2.1 t.2.2.2.2.2.2.2.2.2.1 t.2.2.2.2.2.2.2.2.2.2.1 t.2.2.2.2.2.2.2.2.2.2.2.1 t.2.2.2.2.2.2.2.2.2.2.2.2.1 t.2.2.2.2.2.2.2.2.2.2.2.2.2.1 t.2.2.2.2.2.2.2.2.2.2.2.2.2.2.1 t.2.2.2.2.2.2.2.2.2.2.2.2.2.2.2
@[irreducible] noncomputable def hZ : Heap := cutT.1
@[irreducible] noncomputable def tkZ : Nat := cutT.2.1
@[irreducible] noncomputable def i : Nat := cutT.2.2.1
@[irreducible] noncomputable def ti : Tok := cutT.2.2.2.1
@[irreducible] noncomputable def o1' : Obj := cutT.2.2.2.2.1
@[irreducible] noncomputable def o2' : Obj := cutT.2.2.2.2.2.1
@[irreducible] noncomputable def x : Int := cutT.2.2.2.2.2.2.1
@[irreducible] noncomputable def tz : Tok := cutT.2.2.2.2.2.2.2.1
@[irreducible] noncomputable def u8 : Str → Option Value := cutT.2.2.2.2.2.2.2.2.1
@[irreducible] noncomputable def h8 : Heap := cutT.2.2.2.2.2.2.2.2.2.1
@[irreducible] noncomputable def tk8 : Nat := cutT.2.2.2.2.2.2.2.2.2.2.1
@[irreducible] noncomputable def gens8 : Array GenState := cutT.2.2.2.2.2.2.2.2.2.2.2.1
@[irreducible] noncomputable def I : Addr := cutT.2.2.2.2.2.2.2.2.2.2.2.2.1
@[irreducible] noncomputable def oI : Obj := cutT.2.2.2.2.2.2.2.2.2.2.2.2.2.1
@[irreducible] noncomputable def x1 : Option Value := cutT.2.2.2.2.2.2.2.2.2.2.2.2.2.2.1
@[irreducible] noncomputable def x2 : Option Value := cutT.2.2.2.2.2.2.2.2.2.2.2.2.2.2.2
theorem cutP9 : cutQ9.1 hZ tkZ i ti o1' o2' x tz u8 h8 tk8 gens8 I oI x1 x2 := by
  delta cutQ9
  dsimp only
  intro X0 T0 hdp hun hret hg B' X' T' hd6 hI1 hl1 hlt hd5 hIM hap hml hd4 hS hls hIp hlp hpr hSl hsg hpk hDin hD hpl hex hAl hFl hAs hFu hi hd1 hd2 hx hne hB8 F8 N8
  (try k_fold)
  (((try k_fold); ((repeat' (first | (k_unfold; (try dsimp only)) | ((fail_if_success (with_reducible show wpAny _ _ (exec (Stmt.While _ _ _ _) _) _ _ _)); (fail_if_success (with_reducible show wpAny _ _ (exec (Stmt.For _ _ _ _ _) _) _ _ _)); (fail_if_success (with_reducible show wpAny _ _ (pyIter _) _ _ _)); (fail_if_success (with_reducible show wpAny _ _ (eval (Expr.ListComp _ _ _ _) _) _ _ _)); (fail_if_success (with_reducible show wpAny _ _ (exec (Stmt.Assign _ (Expr.ListComp _ _ _ _) _) _) _ _ _)); ((first | walk1 | (dsimp only; walk1)); (try dsimp only))))))))
  refine wpAny_Assign_Name ?_ (by with_unfolding_all rfl)
  refine' comp_eval ?h ?hclos ?hkind ?hnames ?hs
  (((case hclos => with_unfolding_all rfl); (case hkind => exact rfl); (case hnames => decide); (case hs => intro _; with_unfolding_all rfl)))
  case h =>
    (((try k_fold); ((repeat' (first | (k_unfold; (try dsimp only)) | ((fail_if_success (with_reducible show wpAny _ _ (exec (Stmt.While _ _ _ _) _) _ _ _)); (fail_if_success (with_reducible show wpAny _ _ (exec (Stmt.For _ _ _ _ _) _) _ _ _)); (fail_if_success (with_reducible show wpAny _ _ (pyIter _) _ _ _)); (fail_if_success (with_reducible show wpAny _ _ (eval (Expr.ListComp _ _ _ _) _) _ _ _)); (fail_if_success (with_reducible show wpAny _ _ (exec (Stmt.Assign _ (Expr.ListComp _ _ _ _) _) _) _ _ _)); ((first | walk1 | (dsimp only; walk1)); (try dsimp only))))))))
    (((with_reducible rename Fr _ _ _ _ => F0); (with_reducible rename News _ _ _ _ => N0)))
    rename Obj.data _ = Data.cell (some (Value.int (0 + (i : Int)) _)) => hd2y
    obtain ⟨o2y, ho2⟩ := name_cell hd2y
    subst ho2
    refine compK_range 4 (fun p => decide (Int.fmod (Int.fdiv (0 + (i : Int)) (2 ^ (p - 1).toNat)) 2 = 1)) (fun a z => isInt a z) (by assumption) rfl rfl (by decide) rfl F0 N0 (by decide) rfl rfl ⟨?t7, ?e7⟩ ?k7
    case t7 =>
      rintro C D2 M a v oC oD oI mC h tk E' hDC hnw ha ⟨t, rfl⟩ hC hm F9 N9
      clear F0 N0
      have ha3 : 1 ≤ a ∧ a ≤ 4 := by
        simp only [rangeL, List.mem_map, List.mem_range] at ha
        omega
      have hp2 := pow2_ne a
      have hp3 := pow2_le ha3.1 ha3.2
      unfold ifsOf
      (((try k_fold); ((repeat' (first | (k_unfold; (try dsimp only)) | ((fail_if_success (with_reducible show wpAny _ _ (exec (Stmt.While _ _ _ _) _) _ _ _)); (fail_if_success (with_reducible show wpAny _ _ (exec (Stmt.For _ _ _ _ _) _) _ _ _)); (fail_if_success (with_reducible show wpAny _ _ (pyIter _) _ _ _)); (fail_if_success (with_reducible show wpAny _ _ (eval (Expr.ListComp _ _ _ _) _) _ _ _)); (fail_if_success (with_reducible show wpAny _ _ (exec (Stmt.Assign _ (Expr.ListComp _ _ _ _) _) _) _ _ _)); ((first | walk1 | (dsimp only; walk1)); (try dsimp only))))))))
      exact CKeep.mk' (by k_asm) (by k_asm) (by kst_in) (beq_dec _ _)
    case e7 =>
      rintro C D2 M a v oC oD oI mC h tk E' hDC hnw ha ⟨t, rfl⟩ hp hC hm F9 N9
      clear F0 N0
      (((try k_fold); ((repeat' (first | (k_unfold; (try dsimp only)) | ((fail_if_success (with_reducible show wpAny _ _ (exec (Stmt.While _ _ _ _) _) _ _ _)); (fail_if_success (with_reducible show wpAny _ _ (exec (Stmt.For _ _ _ _ _) _) _ _ _)); (fail_if_success (with_reducible show wpAny _ _ (pyIter _) _ _ _)); (fail_if_success (with_reducible show wpAny _ _ (eval (Expr.ListComp _ _ _ _) _) _ _ _)); (fail_if_success (with_reducible show wpAny _ _ (exec (Stmt.Assign _ (Expr.ListComp _ _ _ _) _) _) _ _ _)); ((first | walk1 | (dsimp only; walk1)); (try dsimp only))))))))
      exact CKeep.mk' (by k_asm) (by k_asm) (by kst_in) ⟨_, rfl⟩
    case k7 =>
      intro C SL sv2 se oC mC h8 tk8 hy2 hDC hnw F9 hC N9
      clear F0 N0
      refine post_none hDC hnw F9 hC N9 ?_
      clear hC; k_lt hnw
      intro h9 F8 N8
      clear F9 N9
      dsimp only
      have hIs : IntsAre sv2 (someL i) := by
        have := paired_ints hy2
        rw [List.map_id'] at this
        exact this
      clear hy2
      have hsl := someL_len i
      (((try k_fold); ((repeat' (first | (k_unfold; (try dsimp only)) | ((fail_if_success (with_reducible show wpAny _ _ (exec (Stmt.While _ _ _ _) _) _ _ _)); (fail_if_success (with_reducible show wpAny _ _ (exec (Stmt.For _ _ _ _ _) _) _ _ _)); (fail_if_success (with_reducible show wpAny _ _ (pyIter _) _ _ _)); (fail_if_success (with_reducible show wpAny _ _ (eval (Expr.ListComp _ _ _ _) _) _ _ _)); (fail_if_success (with_reducible show wpAny _ _ (exec (Stmt.Assign _ (Expr.ListComp _ _ _ _) _) _) _ _ _)); ((first | walk1 | (dsimp only; walk1)); (try dsimp only))))))))
      (((with_reducible rename Fr _ _ _ _ => F0); (with_reducible rename News _ _ _ _ => N0)))
      refine tells_use (written_tells w mean mg mb SL sv2 (someL i) (Str.ofString ",") _ hIs (by omega) (by decide +kernel)) B' F0 N0 X' T' rfl rfl rfl ?hda ?hua (isList_of N0 (by k_mem)) ?_
      case hda => show dp + 1 + 2 < recursionLimit; omega
      case hua => show un + 3 + 20 * 2 < cLine; omega
      rintro v h10 tk10 F10 N10 _ ⟨tp, rfl⟩
      clear F0 N0
      have hell := ell_law i hi hDin
      have hlev := lev_law1 i hi hDin
      rw [hAs] at hell
      rw [hFu] at hlev
      have hPl := wrS_len (someL i) (Str.ofString ",") (by decide +kernel) 4 (Nat.le_refl _)
      generalize hPt : wrS (someL i) (Str.ofString ",") 4 = Pt at *
      dsimp only
      (((try k_fold); ((repeat' (first | (k_unfold; (try dsimp only)) | ((fail_if_success (with_reducible show wpAny _ _ (exec (Stmt.While _ _ _ _) _) _ _ _)); (fail_if_success (with_reducible show wpAny _ _ (exec (Stmt.For _ _ _ _ _) _) _ _ _)); (fail_if_success (with_reducible show wpAny _ _ (pyIter _) _ _ _)); (fail_if_success (with_reducible show wpAny _ _ (eval (Expr.ListComp _ _ _ _) _) _ _ _)); (fail_if_success (with_reducible show wpAny _ _ (exec (Stmt.Assign _ (Expr.ListComp _ _ _ _) _) _) _ _ _)); ((first | walk1 | (dsimp only; walk1)); (try dsimp only))))))))
      refine' comp_eval ?h3 ?hclos3 ?hkind3 ?hnames3 ?hs3
      case hclos3 => with_unfolding_all rfl
      case hkind3 => exact rfl
      case hnames3 => decide
      case hs3 => intro _; with_unfolding_all rfl
      case h3 =>
        (((try k_fold); ((repeat' (first | (k_unfold; (try dsimp only)) | ((fail_if_success (with_reducible show wpAny _ _ (exec (Stmt.While _ _ _ _) _) _ _ _)); (fail_if_success (with_reducible show wpAny _ _ (exec (Stmt.For _ _ _ _ _) _) _ _ _)); (fail_if_success (with_reducible show wpAny _ _ (pyIter _) _ _ _)); (fail_if_success (with_reducible show wpAny _ _ (eval (Expr.ListComp _ _ _ _) _) _ _ _)); (fail_if_success (with_reducible show wpAny _ _ (exec (Stmt.Assign _ (Expr.ListComp _ _ _ _) _) _) _ _ _)); ((first | walk1 | (dsimp only; walk1)); (try dsimp only))))))))
        (((with_reducible rename Fr _ _ _ _ => F0); (with_reducible rename News _ _ _ _ => N0)))
        refine compK_list (someL i) isInt (fun p => !(DD.any fun x => x == p)) (fun a z => isInt a z) (isList_of N0 (by k_mem)) (ints_paired hIs) (.inr ⟨_, by k_mem⟩) (by rw [hIs.length, sizeLine_eq]; omega) rfl F0 N0 (by decide) rfl rfl ⟨?t8, ?e8⟩ ?k8
        case t8 =>
          rintro C D2 M a v oC oD oI mC h tk E' hDC hnw ha ⟨t, rfl⟩ hC hm F9 N9
          clear F0 N0
          unfold ifsOf
          (((try k_fold); ((repeat' (first | (k_unfold; (try dsimp only)) | ((fail_if_success (with_reducible show wpAny _ _ (exec (Stmt.While _ _ _ _) _) _ _ _)); (fail_if_success (with_reducible show wpAny _ _ (exec (Stmt.For _ _ _ _ _) _) _ _ _)); (fail_if_success (with_reducible show wpAny _ _ (pyIter _) _ _ _)); (fail_if_success (with_reducible show wpAny _ _ (eval (Expr.ListComp _ _ _ _) _) _ _ _)); (fail_if_success (with_reducible show wpAny _ _ (exec (Stmt.Assign _ (Expr.ListComp _ _ _ _) _) _) _ _ _)); ((first | walk1 | (dsimp only; walk1)); (try dsimp only))))))))
          exact CKeep.mk' (by k_asm) (by k_asm) (by kst_in) rfl
        case e8 =>
          rintro C D2 M a v oC oD oI mC h tk E' hDC hnw ha ⟨t, rfl⟩ hp hC hm F9 N9
          clear F0 N0
          (((try k_fold); ((repeat' (first | (k_unfold; (try dsimp only)) | ((fail_if_success (with_reducible show wpAny _ _ (exec (Stmt.While _ _ _ _) _) _ _ _)); (fail_if_success (with_reducible show wpAny _ _ (exec (Stmt.For _ _ _ _ _) _) _ _ _)); (fail_if_success (with_reducible show wpAny _ _ (pyIter _) _ _ _)); (fail_if_success (with_reducible show wpAny _ _ (eval (Expr.ListComp _ _ _ _) _) _ _ _)); (fail_if_success (with_reducible show wpAny _ _ (exec (Stmt.Assign _ (Expr.ListComp _ _ _ _) _) _) _ _ _)); ((first | walk1 | (dsimp only; walk1)); (try dsimp only))))))))
          exact CKeep.mk' (by k_asm) (by k_asm) (by kst_in) ⟨_, rfl⟩
        case k8 =>
          intro C D8 ys8 e8 oC mC h8 tk8 hy8 hDC hnw8 F9 hC N9
          clear F0 N0
          refine post_none hDC hnw8 F9 hC N9 ?_
          clear hC; k_lt hnw8
          intro h9 F8 N8
          clear F9 N9
          dsimp only
          have hIw := paired_ints hy8
          rw [List.map_id'] at hIw
          clear hy8
          have hwB : withinB (someL i) DD = decide ((someL i).filter (fun p => !(DD.any fun x => x == p)) = []) := rfl
          generalize (someL i).filter (fun p => !(DD.any fun x => x == p)) = fw at *
          (((try k_fold); ((repeat' (first | (k_unfold; (try dsimp only)) | ((fail_if_success (with_reducible show wpAny _ _ (exec (Stmt.While _ _ _ _) _) _ _ _)); (fail_if_success (with_reducible show wpAny _ _ (exec (Stmt.For _ _ _ _ _) _) _ _ _)); (fail_if_success (with_reducible show wpAny _ _ (pyIter _) _ _ _)); (fail_if_success (with_reducible show wpAny _ _ (eval (Expr.ListComp _ _ _ _) _) _ _ _)); (fail_if_success (with_reducible show wpAny _ _ (exec (Stmt.Assign _ (Expr.ListComp _ _ _ _) _) _) _ _ _)); ((first | walk1 | (dsimp only; walk1)); (try dsimp only))))))))
          (((with_reducible rename Fr _ _ _ _ => F0); (with_reducible rename News _ _ _ _ => N0)))
          refine tells_use (ell_tells w mean mg mb As Pt _ _ (by omega) (by omega)) B' F0 N0 X' T' rfl rfl rfl ?hde ?hue trivial ?_
          case hde => show dp + 1 + 1 < recursionLimit; omega
          case hue => show un + 3 + 20 * 1 < cLine; omega
          rintro v h14 tk14 F14 N14 _ hve
          rw [hell] at hve
          subst hve
          clear F0 N0
          dsimp only
          rw [hwB]
          (((try k_fold); ((repeat' (first | (k_unfold; (try dsimp only)) | ((fail_if_success (with_reducible show wpAny _ _ (exec (Stmt.While _ _ _ _) _) _ _ _)); (fail_if_success (with_reducible show wpAny _ _ (exec (Stmt.For _ _ _ _ _) _) _ _ _)); (fail_if_success (with_reducible show wpAny _ _ (pyIter _) _ _ _)); (fail_if_success (with_reducible show wpAny _ _ (eval (Expr.ListComp _ _ _ _) _) _ _ _)); (fail_if_success (with_reducible show wpAny _ _ (exec (Stmt.Assign _ (Expr.ListComp _ _ _ _) _) _) _ _ _)); ((first | walk1 | (dsimp only; walk1)); (try dsimp only))))))))
          · exact (bne_no (by assumption)).elim
          ·
            refine' comp_eval ?h4A ?hclos4A ?hkind4A ?hnames4A ?hs4A
            case hclos4A => with_unfolding_all rfl
            case hkind4A => exact rfl
            case hnames4A => decide
            case hs4A => intro _; with_unfolding_all rfl
            case h4A =>
              (((try k_fold); ((repeat' (first | (k_unfold; (try dsimp only)) | ((fail_if_success (with_reducible show wpAny _ _ (exec (Stmt.While _ _ _ _) _) _ _ _)); (fail_if_success (with_reducible show wpAny _ _ (exec (Stmt.For _ _ _ _ _) _) _ _ _)); (fail_if_success (with_reducible show wpAny _ _ (pyIter _) _ _ _)); (fail_if_success (with_reducible show wpAny _ _ (eval (Expr.ListComp _ _ _ _) _) _ _ _)); (fail_if_success (with_reducible show wpAny _ _ (exec (Stmt.Assign _ (Expr.ListComp _ _ _ _) _) _) _ _ _)); ((first | walk1 | (dsimp only; walk1)); (try dsimp only))))))))
              (((with_reducible rename Fr _ _ _ _ => F0); (with_reducible rename News _ _ _ _ => N0)))
              refine compK_range 4 (fun p => ((someL i).any fun x => x == p) != (DD.any fun x => x == p)) (fun a z => isInt a z) (by assumption) rfl rfl (by decide) rfl F0 N0 (by decide) rfl rfl ⟨?t9A, ?e9A⟩ ?k9A
              case t9A =>
                rintro C D2 M a v oC oD oI mC h tk E' hDC hnw ha ⟨t, rfl⟩ hC hm F9 N9
                clear F0 N0
                unfold ifsOf
                (((try k_fold); ((repeat' (first | (k_unfold; (try dsimp only)) | ((fail_if_success (with_reducible show wpAny _ _ (exec (Stmt.While _ _ _ _) _) _ _ _)); (fail_if_success (with_reducible show wpAny _ _ (exec (Stmt.For _ _ _ _ _) _) _ _ _)); (fail_if_success (with_reducible show wpAny _ _ (pyIter _) _ _ _)); (fail_if_success (with_reducible show wpAny _ _ (eval (Expr.ListComp _ _ _ _) _) _ _ _)); (fail_if_success (with_reducible show wpAny _ _ (exec (Stmt.Assign _ (Expr.ListComp _ _ _ _) _) _) _ _ _)); ((first | walk1 | (dsimp only; walk1)); (try dsimp only))))))))
                exact CKeep.mk' (by k_asm) (by k_asm) (by kst_in) rfl
              case e9A =>
                rintro C D2 M a v oC oD oI mC h tk E' hDC hnw ha ⟨t, rfl⟩ hp hC hm F9 N9
                clear F0 N0
                (((try k_fold); ((repeat' (first | (k_unfold; (try dsimp only)) | ((fail_if_success (with_reducible show wpAny _ _ (exec (Stmt.While _ _ _ _) _) _ _ _)); (fail_if_success (with_reducible show wpAny _ _ (exec (Stmt.For _ _ _ _ _) _) _ _ _)); (fail_if_success (with_reducible show wpAny _ _ (pyIter _) _ _ _)); (fail_if_success (with_reducible show wpAny _ _ (eval (Expr.ListComp _ _ _ _) _) _ _ _)); (fail_if_success (with_reducible show wpAny _ _ (exec (Stmt.Assign _ (Expr.ListComp _ _ _ _) _) _) _ _ _)); ((first | walk1 | (dsimp only; walk1)); (try dsimp only))))))))
                exact CKeep.mk' (by k_asm) (by k_asm) (by kst_in) ⟨_, rfl⟩
              case k9A =>
                intro C D9 ys9 e9 oC mC h8 tk8 hy9 hDC hnw9 F9 hC N9
                clear F0 N0
                refine post_none hDC hnw9 F9 hC N9 ?_
                clear hC; k_lt hnw9
                intro h9 F8 N8
                clear F9 N9
                dsimp only
                have hId := paired_ints hy9
                rw [List.map_id'] at hId
                clear hy9
                have hdu : dueI (someL i) DD = 2 * (((rangeL 1 4).filter fun p => ((someL i).any fun x => x == p) != (DD.any fun x => x == p)).length : Int) := rfl
                have hd4 : ((rangeL 1 4).filter fun p => ((someL i).any fun x => x == p) != (DD.any fun x => x == p)).length ≤ 4 := Nat.le_trans (List.length_filter_le _ _) (by simp [rangeL])
                generalize ((rangeL 1 4).filter fun p => ((someL i).any fun x => x == p) != (DD.any fun x => x == p)) = fd at *
                (((try k_fold); ((repeat' (first | (k_unfold; (try dsimp only)) | ((fail_if_success (with_reducible show wpAny _ _ (exec (Stmt.While _ _ _ _) _) _ _ _)); (fail_if_success (with_reducible show wpAny _ _ (exec (Stmt.For _ _ _ _ _) _) _ _ _)); (fail_if_success (with_reducible show wpAny _ _ (pyIter _) _ _ _)); (fail_if_success (with_reducible show wpAny _ _ (eval (Expr.ListComp _ _ _ _) _) _ _ _)); (fail_if_success (with_reducible show wpAny _ _ (exec (Stmt.Assign _ (Expr.ListComp _ _ _ _) _) _) _ _ _)); ((first | walk1 | (dsimp only; walk1)); (try dsimp only))))))))
                (((with_reducible rename Fr _ _ _ _ => F0); (with_reducible rename News _ _ _ _ => N0)))
                refine tells_use (lev_tells w mean mg mb Pt Fu _ _ _ _ (by omega) (by omega)) B' F0 N0 X' T' rfl rfl rfl ?hdlA ?hulA trivial ?_
                case hdlA => show dp + 1 + 2 < recursionLimit; omega
                case hulA => show un + 3 + 20 * 2 < cLine; omega
                rintro v h15 tk15 F15 N15 _ ⟨ts, rfl⟩
                clear F0 N0
                rw [hdu] at hlev
                rw [hlev]
                dsimp only
                (((try k_fold); ((repeat' (first | (k_unfold; (try dsimp only)) | ((fail_if_success (with_reducible show wpAny _ _ (exec (Stmt.While _ _ _ _) _) _ _ _)); (fail_if_success (with_reducible show wpAny _ _ (exec (Stmt.For _ _ _ _ _) _) _ _ _)); (fail_if_success (with_reducible show wpAny _ _ (pyIter _) _ _ _)); (fail_if_success (with_reducible show wpAny _ _ (eval (Expr.ListComp _ _ _ _) _) _ _ _)); (fail_if_success (with_reducible show wpAny _ _ (exec (Stmt.Assign _ (Expr.ListComp _ _ _ _) _) _) _ _ _)); ((first | walk1 | (dsimp only; walk1)); (try dsimp only))))))))
                · exact absurd rfl (by assumption)
                · (((with_reducible rename Fr _ _ _ _ => F0); (with_reducible rename News _ _ _ _ => N0)))
                  have hmul := deal_mul (someL i) ((pk.count 0 : Nat) : Int) ((pk.count 1 : Nat) : Int) (n := (Int.fdiv (2 * (fd.length : Int)) 2).toNat) (by rw [Int.mul_fdiv_cancel_left _ (by decide)]; omega)
                  refine tells_use (deal_tells w mean mg mb SL sv2 (someL i) _ _ _ _ hIs (by omega) (some_size hi) (cnt_le hpl 0) (cnt_le hpl 1)) B' F0 N0 X' T' rfl rfl rfl ?hdg ?hug (isList_of N0 (by k_mem)) ?_
                  case hdg => show dp + 1 + 2 < recursionLimit; omega
                  case hug => show un + 3 + 20 * 2 < cLine; omega
                  rintro v h16 tk16 F16 N16 _ ⟨tg, rfl⟩
                  clear F0 N0
                  dsimp only
                  (((try k_fold); ((repeat' (first | (k_unfold; (try dsimp only)) | ((fail_if_success (with_reducible show wpAny _ _ (exec (Stmt.While _ _ _ _) _) _ _ _)); (fail_if_success (with_reducible show wpAny _ _ (exec (Stmt.For _ _ _ _ _) _) _ _ _)); (fail_if_success (with_reducible show wpAny _ _ (pyIter _) _ _ _)); (fail_if_success (with_reducible show wpAny _ _ (eval (Expr.ListComp _ _ _ _) _) _ _ _)); (fail_if_success (with_reducible show wpAny _ _ (exec (Stmt.Assign _ (Expr.ListComp _ _ _ _) _) _) _ _ _)); ((first | walk1 | (dsimp only; walk1)); (try dsimp only))))))))
                  rename fw = [] => hfw
                  rename Obj.data _ = Data.cell (some (Value.ref SL)) => hd1y
                  refine OutG.mk' ((_, _), _, _) hB8 (by k_asm) (by k_asm) (by kst_in) (by kst_all) ?_
                  refine ⟨⟨⟨_, hd1y⟩, ⟨_, hd2y⟩, ?_⟩, ne_same hne rfl⟩
                  dsimp only
                  rw [totA, if_pos (by rw [hwB, decide_eq_true hfw]), ← hx, hdu]
          ·
            refine' comp_eval ?h4B ?hclos4B ?hkind4B ?hnames4B ?hs4B
            case hclos4B => with_unfolding_all rfl
            case hkind4B => exact rfl
            case hnames4B => decide
            case hs4B => intro _; with_unfolding_all rfl
            case h4B =>
              (((try k_fold); ((repeat' (first | (k_unfold; (try dsimp only)) | ((fail_if_success (with_reducible show wpAny _ _ (exec (Stmt.While _ _ _ _) _) _ _ _)); (fail_if_success (with_reducible show wpAny _ _ (exec (Stmt.For _ _ _ _ _) _) _ _ _)); (fail_if_success (with_reducible show wpAny _ _ (pyIter _) _ _ _)); (fail_if_success (with_reducible show wpAny _ _ (eval (Expr.ListComp _ _ _ _) _) _ _ _)); (fail_if_success (with_reducible show wpAny _ _ (exec (Stmt.Assign _ (Expr.ListComp _ _ _ _) _) _) _ _ _)); ((first | walk1 | (dsimp only; walk1)); (try dsimp only))))))))
              (((with_reducible rename Fr _ _ _ _ => F0); (with_reducible rename News _ _ _ _ => N0)))
              refine compK_range 4 (fun p => ((someL i).any fun x => x == p) != (DD.any fun x => x == p)) (fun a z => isInt a z) (by assumption) rfl rfl (by decide) rfl F0 N0 (by decide) rfl rfl ⟨?t9B, ?e9B⟩ ?k9B
              case t9B =>
                rintro C D2 M a v oC oD oI mC h tk E' hDC hnw ha ⟨t, rfl⟩ hC hm F9 N9
                clear F0 N0
                unfold ifsOf
                (((try k_fold); ((repeat' (first | (k_unfold; (try dsimp only)) | ((fail_if_success (with_reducible show wpAny _ _ (exec (Stmt.While _ _ _ _) _) _ _ _)); (fail_if_success (with_reducible show wpAny _ _ (exec (Stmt.For _ _ _ _ _) _) _ _ _)); (fail_if_success (with_reducible show wpAny _ _ (pyIter _) _ _ _)); (fail_if_success (with_reducible show wpAny _ _ (eval (Expr.ListComp _ _ _ _) _) _ _ _)); (fail_if_success (with_reducible show wpAny _ _ (exec (Stmt.Assign _ (Expr.ListComp _ _ _ _) _) _) _ _ _)); ((first | walk1 | (dsimp only; walk1)); (try dsimp only))))))))
                exact CKeep.mk' (by k_asm) (by k_asm) (by kst_in) rfl
              case e9B =>
                rintro C D2 M a v oC oD oI mC h tk E' hDC hnw ha ⟨t, rfl⟩ hp hC hm F9 N9
                clear F0 N0
                (((try k_fold); ((repeat' (first | (k_unfold; (try dsimp only)) | ((fail_if_success (with_reducible show wpAny _ _ (exec (Stmt.While _ _ _ _) _) _ _ _)); (fail_if_success (with_reducible show wpAny _ _ (exec (Stmt.For _ _ _ _ _) _) _ _ _)); (fail_if_success (with_reducible show wpAny _ _ (pyIter _) _ _ _)); (fail_if_success (with_reducible show wpAny _ _ (eval (Expr.ListComp _ _ _ _) _) _ _ _)); (fail_if_success (with_reducible show wpAny _ _ (exec (Stmt.Assign _ (Expr.ListComp _ _ _ _) _) _) _ _ _)); ((first | walk1 | (dsimp only; walk1)); (try dsimp only))))))))
                exact CKeep.mk' (by k_asm) (by k_asm) (by kst_in) ⟨_, rfl⟩
              case k9B =>
                intro C D9 ys9 e9 oC mC h8 tk8 hy9 hDC hnw9 F9 hC N9
                clear F0 N0
                refine post_none hDC hnw9 F9 hC N9 ?_
                clear hC; k_lt hnw9
                intro h9 F8 N8
                clear F9 N9
                dsimp only
                have hId := paired_ints hy9
                rw [List.map_id'] at hId
                clear hy9
                have hdu : dueI (someL i) DD = 2 * (((rangeL 1 4).filter fun p => ((someL i).any fun x => x == p) != (DD.any fun x => x == p)).length : Int) := rfl
                have hd4 : ((rangeL 1 4).filter fun p => ((someL i).any fun x => x == p) != (DD.any fun x => x == p)).length ≤ 4 := Nat.le_trans (List.length_filter_le _ _) (by simp [rangeL])
                generalize ((rangeL 1 4).filter fun p => ((someL i).any fun x => x == p) != (DD.any fun x => x == p)) = fd at *
                (((try k_fold); ((repeat' (first | (k_unfold; (try dsimp only)) | ((fail_if_success (with_reducible show wpAny _ _ (exec (Stmt.While _ _ _ _) _) _ _ _)); (fail_if_success (with_reducible show wpAny _ _ (exec (Stmt.For _ _ _ _ _) _) _ _ _)); (fail_if_success (with_reducible show wpAny _ _ (pyIter _) _ _ _)); (fail_if_success (with_reducible show wpAny _ _ (eval (Expr.ListComp _ _ _ _) _) _ _ _)); (fail_if_success (with_reducible show wpAny _ _ (exec (Stmt.Assign _ (Expr.ListComp _ _ _ _) _) _) _ _ _)); ((first | walk1 | (dsimp only; walk1)); (try dsimp only))))))))
                (((with_reducible rename Fr _ _ _ _ => F0); (with_reducible rename News _ _ _ _ => N0)))
                refine tells_use (lev_tells w mean mg mb Pt Fu _ _ _ _ (by omega) (by omega)) B' F0 N0 X' T' rfl rfl rfl ?hdlB ?hulB trivial ?_
                case hdlB => show dp + 1 + 2 < recursionLimit; omega
                case hulB => show un + 3 + 20 * 2 < cLine; omega
                rintro v h15 tk15 F15 N15 _ ⟨ts, rfl⟩
                clear F0 N0
                rw [hdu] at hlev
                rw [hlev]
                dsimp only
                (((try k_fold); ((repeat' (first | (k_unfold; (try dsimp only)) | ((fail_if_success (with_reducible show wpAny _ _ (exec (Stmt.While _ _ _ _) _) _ _ _)); (fail_if_success (with_reducible show wpAny _ _ (exec (Stmt.For _ _ _ _ _) _) _ _ _)); (fail_if_success (with_reducible show wpAny _ _ (pyIter _) _ _ _)); (fail_if_success (with_reducible show wpAny _ _ (eval (Expr.ListComp _ _ _ _) _) _ _ _)); (fail_if_success (with_reducible show wpAny _ _ (exec (Stmt.Assign _ (Expr.ListComp _ _ _ _) _) _) _ _ _)); ((first | walk1 | (dsimp only; walk1)); (try dsimp only))))))))
                · exact absurd rfl (by assumption)
                · rename ¬ fw = [] => hfw
                  rename Obj.data _ = Data.cell (some (Value.ref SL)) => hd1y
                  refine OutG.mk' ((_, _), _, _) hB8 (by k_asm) (by k_asm) (by kst_in) (by kst_all) ?_
                  refine ⟨⟨⟨_, hd1y⟩, ⟨_, hd2y⟩, ?_⟩, ne_same hne rfl⟩
                  dsimp only
                  rw [totA, if_neg (by rw [hwB, decide_eq_false hfw]; decide), ← hx]
          · rename ¬ fw = [] => hfw
            rename Obj.data _ = Data.cell (some (Value.ref SL)) => hd1y
            refine OutG.mk' ((_, _), _, _) hB8 (by k_asm) (by k_asm) (by kst_in) (by kst_all) ?_
            refine ⟨⟨⟨_, hd1y⟩, ⟨_, hd2y⟩, ?_⟩, ne_same hne rfl⟩
            dsimp only
            rw [totA, if_neg (by rw [hwB, decide_eq_false hfw]; decide), ← hx]
theorem cutR9 : ∀ (hZ : Heap) (tkZ : Nat) (i : Nat) (ti : Tok) (o1' : Obj) (o2' : Obj) (x : Int) (tz : Tok) (u8 : Str → Option Value) (h8 : Heap) (tk8 : Nat) (gens8 : Array GenState) (I : Addr) (oI : Obj) (x1 : Option Value) (x2 : Option Value), cutQ9.1 hZ tkZ i ti o1' o2' x tz u8 h8 tk8 gens8 I oI x1 x2 := by
  intro hZ tkZ i ti o1' o2' x tz u8 h8 tk8 gens8 I oI x1 x2
  with_unfolding_all exact of_gen (P := fun t : Heap × Nat × Nat × Tok × Obj × Obj × Int × Tok × (Str → Option Value) × Heap × Nat × (Array GenState) × Addr × Obj × (Option Value) × (Option Value) => cutQ9.1 t.1 t.2.1 t.2.2.1 t.2.2.2.1 t.2.2.2.2.1 t.2.2.2.2.2.1 t.2.2.2.2.2.2.1 t.2.2.2.2.2.2.2.1 t.2.2.2.2.2.2.2.2.1 t.2.2.2.2.2.2.2.2.2.1 t.2.2.2.2.2.2.2.2.2.2.1 t.2.2.2.2.2.2.2.2.2.2.2.1 t.2.2.2.2.2.2.2.2.2.2.2.2.1 t.2.2.2.2.2.2.2.2.2.2.2.2.2.1 t.2.2.2.2.2.2.2.2.2.2.2.2.2.2.1 t.2.2.2.2.2.2.2.2.2.2.2.2.2.2.2) cutP9 (hZ, tkZ, i, ti, o1', o2', x, tz, u8, h8, tk8, gens8, I, oI, x1, x2)
end C
theorem cutP8 : cutQ8.1 ta tf tt u7 h7 tk7 gens7 As Fu := cutQ9.2 C.cutR9
theorem cutR8 : ∀ (ta : Tok) (tf : Tok) (tt : Tok) (u7 : Str → Option Value) (h7 : Heap) (tk7 : Nat) (gens7 : Array GenState) (As : Str) (Fu : Str), cutQ8.1 ta tf tt u7 h7 tk7 gens7 As Fu := by
  intro ta tf tt u7 h7 tk7 gens7 As Fu
  with_unfolding_all exact of_gen (P := fun t : Tok × Tok × Tok × (Str → Option Value) × Heap × Nat × (Array GenState) × Str × Str => cutQ8.1 t.1 t.2.1 t.2.2.1 t.2.2.2.1 t.2.2.2.2.1 t.2.2.2.2.2.1 t.2.2.2.2.2.2.1 t.2.2.2.2.2.2.2.1 t.2.2.2.2.2.2.2.2) cutP8 (ta, tf, tt, u7, h7, tk7, gens7, As, Fu)
end C
theorem cutP7 : cutQ7.1.2 o3' ex tx u6 h6 tk6 gens6 := cutQ8.2 C.cutR8
theorem cutR7 : ∀ (o3' : Obj) (ex : Int) (tx : Tok) (u6 : Str → Option Value) (h6 : Heap) (tk6 : Nat) (gens6 : Array GenState), cutQ7.1.2 o3' ex tx u6 h6 tk6 gens6 := by
  intro o3' ex tx u6 h6 tk6 gens6
  with_unfolding_all exact of_gen (P := fun t : Obj × Int × Tok × (Str → Option Value) × Heap × Nat × (Array GenState) => cutQ7.1.2 t.1 t.2.1 t.2.2.1 t.2.2.2.1 t.2.2.2.2.1 t.2.2.2.2.2.1 t.2.2.2.2.2.2) cutP7 (o3', ex, tx, u6, h6, tk6, gens6)
end C1
theorem cutP6 : cutQ6.1 lp vp ep u5 h5 tk5 gens5 sg pk DD := cutQ7.2 C0.cutR7 C1.cutR7
theorem cutR6 : ∀ (lp : Addr) (vp : List Value) (ep : Nat) (u5 : Str → Option Value) (h5 : Heap) (tk5 : Nat) (gens5 : Array GenState) (sg : List Str) (pk : List Int) (DD : List Int), cutQ6.1 lp vp ep u5 h5 tk5 gens5 sg pk DD := by
  intro lp vp ep u5 h5 tk5 gens5 sg pk DD
  with_unfolding_all exact of_gen (P := fun t : Addr × (List Value) × Nat × (Str → Option Value) × Heap × Nat × (Array GenState) × (List Str) × (List Int) × (List Int) => cutQ6.1 t.1 t.2.1 t.2.2.1 t.2.2.2.1 t.2.2.2.2.1 t.2.2.2.2.2.1 t.2.2.2.2.2.2.1 t.2.2.2.2.2.2.2.1 t.2.2.2.2.2.2.2.2.1 t.2.2.2.2.2.2.2.2.2) cutP6 (lp, vp, ep, u5, h5, tk5, gens5, sg, pk, DD)
end C
theorem cutP5 : cutQ5.1 u4 h4 tk4 gens4 := cutQ6.2 C.cutR6
theorem cutR5 : ∀ (u4 : Str → Option Value) (h4 : Heap) (tk4 : Nat) (gens4 : Array GenState), cutQ5.1 u4 h4 tk4 gens4 := by
  intro u4 h4 tk4 gens4
  with_unfolding_all exact of_gen (P := fun t : (Str → Option Value) × Heap × Nat × (Array GenState) => cutQ5.1 t.1 t.2.1 t.2.2.1 t.2.2.2) cutP5 (u4, h4, tk4, gens4)
end C
theorem cutP4 : cutQ4.1 o4' lsg vsg esg u3 h3 tk3 gens3 := cutQ5.2 C.cutR5
theorem cutR4 : ∀ (o4' : Obj) (lsg : Addr) (vsg : List Value) (esg : Nat) (u3 : Str → Option Value) (h3 : Heap) (tk3 : Nat) (gens3 : Array GenState), cutQ4.1 o4' lsg vsg esg u3 h3 tk3 gens3 := by
  intro o4' lsg vsg esg u3 h3 tk3 gens3
  with_unfolding_all exact of_gen (P := fun t : Obj × Addr × (List Value) × Nat × (Str → Option Value) × Heap × Nat × (Array GenState) => cutQ4.1 t.1 t.2.1 t.2.2.1 t.2.2.2.1 t.2.2.2.2.1 t.2.2.2.2.2.1 t.2.2.2.2.2.2.1 t.2.2.2.2.2.2.2) cutP4 (o4', lsg, vsg, esg, u3, h3, tk3, gens3)
end C
theorem cutP3 : cutQ3.1 o5' lm vm em u2 h2 tk2 gens2 := cutQ4.2 C.cutR4
theorem cutR3 : ∀ (o5' : Obj) (lm : Addr) (vm : List Value) (em : Nat) (u2 : Str → Option Value) (h2 : Heap) (tk2 : Nat) (gens2 : Array GenState), cutQ3.1 o5' lm vm em u2 h2 tk2 gens2 := by
  intro o5' lm vm em u2 h2 tk2 gens2
  with_unfolding_all exact of_gen (P := fun t : Obj × Addr × (List Value) × Nat × (Str → Option Value) × Heap × Nat × (Array GenState) => cutQ3.1 t.1 t.2.1 t.2.2.1 t.2.2.2.1 t.2.2.2.2.1 t.2.2.2.2.2.1 t.2.2.2.2.2.2.1 t.2.2.2.2.2.2.2) cutP3 (o5', lm, vm, em, u2, h2, tk2, gens2)
end C
theorem cutP2 : cutQ2.1 o6' lc vs' e' cs' u1 h1 tk1 gens1 := cutQ3.2 C.cutR3
theorem cutR2 : ∀ (o6' : Obj) (lc : Addr) (vs' : List Value) (e' : Nat) (cs' : List Int) (u1 : Str → Option Value) (h1 : Heap) (tk1 : Nat) (gens1 : Array GenState), cutQ2.1 o6' lc vs' e' cs' u1 h1 tk1 gens1 := by
  intro o6' lc vs' e' cs' u1 h1 tk1 gens1
  with_unfolding_all exact of_gen (P := fun t : Obj × Addr × (List Value) × Nat × (List Int) × (Str → Option Value) × Heap × Nat × (Array GenState) => cutQ2.1 t.1 t.2.1 t.2.2.1 t.2.2.2.1 t.2.2.2.2.1 t.2.2.2.2.2.1 t.2.2.2.2.2.2.1 t.2.2.2.2.2.2.2.1 t.2.2.2.2.2.2.2.2) cutP2 (o6', lc, vs', e', cs', u1, h1, tk1, gens1)
end C
theorem cutP1 : cutQ1.1 w mean mg mb ls sv scr dp un gd base s R g L' h₁ tk o1 o2 o3 o4 o5 o6 m0 := cutQ2.2 C.cutR2
theorem cutR1 : ∀ (w : World) (mean : ExcName → Option Value) (mg : Str → Option Value) (mb : Str → Option Value) (ls : Addr) (sv : List Value) (scr : List Int) (dp : Nat) (un : Nat) (gd : Option (List Code)) (base : Heap) (s : Shared) (R : Result → Shared → Prop) (g : Heap) (L' : Addr) (h₁ : Heap) (tk : Nat) (o1 : Obj) (o2 : Obj) (o3 : Obj) (o4 : Obj) (o5 : Obj) (o6 : Obj) (m0 : Str → Option Value), cutQ1.1 w mean mg mb ls sv scr dp un gd base s R g L' h₁ tk o1 o2 o3 o4 o5 o6 m0 := by
  intro w mean mg mb ls sv scr dp un gd base s R g L' h₁ tk o1 o2 o3 o4 o5 o6 m0
  with_unfolding_all exact of_gen (P := fun t : World × (ExcName → Option Value) × (Str → Option Value) × (Str → Option Value) × Addr × (List Value) × (List Int) × Nat × Nat × (Option (List Code)) × Heap × Shared × (Result → Shared → Prop) × Heap × Addr × Heap × Nat × Obj × Obj × Obj × Obj × Obj × Obj × (Str → Option Value) => cutQ1.1 t.1 t.2.1 t.2.2.1 t.2.2.2.1 t.2.2.2.2.1 t.2.2.2.2.2.1 t.2.2.2.2.2.2.1 t.2.2.2.2.2.2.2.1 t.2.2.2.2.2.2.2.2.1 t.2.2.2.2.2.2.2.2.2.1 t.2.2.2.2.2.2.2.2.2.2.1 t.2.2.2.2.2.2.2.2.2.2.2.1 t.2.2.2.2.2.2.2.2.2.2.2.2.1 t.2.2.2.2.2.2.2.2.2.2.2.2.2.1 t.2.2.2.2.2.2.2.2.2.2.2.2.2.2.1 t.2.2.2.2.2.2.2.2.2.2.2.2.2.2.2.1 t.2.2.2.2.2.2.2.2.2.2.2.2.2.2.2.2.1 t.2.2.2.2.2.2.2.2.2.2.2.2.2.2.2.2.2.1 t.2.2.2.2.2.2.2.2.2.2.2.2.2.2.2.2.2.2.1 t.2.2.2.2.2.2.2.2.2.2.2.2.2.2.2.2.2.2.2.1 t.2.2.2.2.2.2.2.2.2.2.2.2.2.2.2.2.2.2.2.2.1 t.2.2.2.2.2.2.2.2.2.2.2.2.2.2.2.2.2.2.2.2.2.1 t.2.2.2.2.2.2.2.2.2.2.2.2.2.2.2.2.2.2.2.2.2.2.1 t.2.2.2.2.2.2.2.2.2.2.2.2.2.2.2.2.2.2.2.2.2.2.2) cutP1 (w, mean, mg, mb, ls, sv, scr, dp, un, gd, base, s, R, g, L', h₁, tk, o1, o2, o3, o4, o5, o6, m0)
end C
end law_code
theorem law_code (w : World) (mean : ExcName → Option Value) (mg mb : Str → Option Value) (ls : Addr) (sv : List Value) (scr : List Int) (dp un : Nat) (gd : Option (List Code)) (base : Heap) (s : Shared) (R : Result → Shared → Prop)
    (B : Below (Aro dp un gd []) base [] s.heap) (X0 : (hd1.heap_39 w.params).In base) (T0 : Top hd1.view_39 (looseW hd1.view_39 []) mean mg mb base)
    (hdp : dp + 20 < recursionLimit) (hun : un + 1000 < cLine) (hs : base.IsList ls sv.toArray) (hsi : IntsAre sv scr) (hsl : scr.length ≤ 63) (hb : AllBare s.gens)
    (hret : ∀ h' tk' gens', Keeps s.heap h' → AllBare gens' → R (.ok (.ret (.bool true))) { s with heap := h', toks := tk', gens := gens' }) :
    codeAny (model Challenge.rw_re0065_01.row.prog w) (Aro dp un gd []) (.call (.ref 92) ⟨[.ref ls], []⟩) R s :=
  law_code.cutQ1.2 law_code.C.cutR1 w mean mg mb ls sv scr dp un gd base s R B X0 T0 hdp hun hs hsi hsl hb hret
end Mine
end
set_option maxHeartbeats 8000000
theorem PySem.Challenge.cw_re0065_01_holds : PySem.Challenge.rw_re0065_01.Holds := by
  exact hd1 (by
  k_fill
  intro w s₀ s₁ mg mb G Y fa o pm cd doc dV kV ho hd hcd hD hmg hg args vals as hpre hlay hrd hwl hlo
  have KX := kIn_of Y
  refine Ground.open G ?_
  intro T B D TE TW
  try (refine guard_noD D (by decide +kernel) ?_; clear D)
  have hfa : fa = 92 := by
    have h1 := mg_of KX T.g (n := Str.ofString "law") (v := .ref 92) (by first | rfl | k_is | decide +kernel)
    rw [hmg] at h1
    cases h1
    rfl
  clear hmg ho hd hcd hD
  subst hfa
  wrow_args hpre hlay hrd hwl hlo
  first | refine callC_kw (enter_call ?_) | refine enter_call ?_ | refine callC_kw (enter_callW ?_) | refine enter_callW ?_ | w_how
  have K0 := below_caller (Top.heap T)
  refine law_code w _ mg mb _ _ _ (1 + claimMargin) 4 (some []) s₁.heap s₁ _ K0 KX T (by decide +kernel) (by decide +kernel) (by assumption) (by assumption) (by omega) ?hb9 ?hr9
  case hb9 =>
    intro y hy
    rw [hg] at hy
    simp at hy
  case hr9 =>
    intro h' tk' gens' hk hB
    skip
    refine ⟨.inl ⟨_, .bool true, [], rfl, raisesW_false ?_, .bool true, ?_, unshared_nil⟩, .of_keep hk, rfl, hB⟩
    · wrow_none_raised
    · wrow_post)
