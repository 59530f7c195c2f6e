import PyProof.Rows.All
import Wide.All
import OpenK.AllK
import Wide.FinOn
import PySem.Challenge.RW_dn0186_12
open PySem PySem.W PyProof.Rows
set_option Elab.async false
set_option maxRecDepth 100000
set_option maxHeartbeats 8000000
set_option linter.unusedSimpArgs false
set_option linter.unusedVariables false
namespace Mine
open_top hd12 for PySem.Challenge.rw_dn0186_12

section
open PySem.Calls PySem.Spec


/-! Growth: a caller's facts behind a pure callee. -/
theorem fr_stays {h₀ h h' : Heap} {L : Addr} {m : Str → Option Value} (F : Fr h₀ L h m) (st : h.StaysIn h') : Fr h₀ L h' m :=
  ⟨F.ns.at' fun o e => st _ o e, fun b o e => st b o (F.keep b o e), F.above⟩
theorem news_stays {h₀ h h' : Heap} {L : Addr} {news : List (Addr × Obj)} (N : News h₀ L h news) (st : h.StaysIn h') : News h₀ L h' news :=
  fun p hp => ⟨st _ _ (N p hp).1, (N p hp).2⟩
theorem news_sub {h₀ h : Heap} {L : Addr} {l l' : List (Addr × Obj)} (N : News h₀ L h l) (hs : ∀ p ∈ l', p ∈ l) : News h₀ L h l' := fun p hp => N p (hs p hp)
theorem news_app {h₀ h : Heap} {L : Addr} {l l' : List (Addr × Obj)} (N : News h₀ L h l) (N' : News h₀ L h l') : News h₀ L h (l ++ l') :=
  fun p hp => (List.mem_append.mp hp).elim (N p) (N' p)
theorem allNe_of_lt {l : List (Addr × Obj)} {d a : Addr} (h : ∀ p ∈ l, p.1 < d) (hd : d ≤ a) : ∀ p ∈ l, p.1 ≠ a :=
  fun p hp => Nat.ne_of_lt (Nat.lt_of_lt_of_le (h p hp) hd)

section
variable {prog : Program} {w : World} {A A₀ : Around} {E : Value → Shared → Prop} {s : Shared} {K : Frag} {C L : Addr} {h₀ base : Heap} {m mg mb : Str → Option Value} {news : List (Addr × Obj)} {p : Program} {loose : List Str} {mean : ExcName → Option Value} {Q : Value → Shared → Prop}

/-- A class is called: the new object lies just behind the heap as it was. -/
theorem call_clsH {pos : List Value} {kw : List (Str × Value)} {fI : Addr} (F : Fr h₀ L s.heap m) (X₀ : K.In h₀) (hm : makesIn K C = true) (hi : findIn K (.ref C) "__init__" = some (some (.ref fI))) (hf : isFn K (.ref fI) = true)
    (h : ∀ x dx h', s.heap.StaysIn h' → s.heap.objs.size ≤ dx → dx < x → Fr h₀ L h' m → News h₀ L h' [(x, instObj C dx), (dx, dictOf [] 0)] →
      codeAny (model prog w) (A.under (.builtin "type.__call__" ⟨.ref C :: pos, kw⟩)) (.call (.ref fI) ⟨.ref x :: pos, kw⟩) (InitBack x fun r s' => match r with | .ok (.ret v) => Q v s' | .ok _ => False | .error e => E e s') { s with heap := h' }) :
    wpAny (model prog w) A (call (.ref C) pos kw) Q E s := by
  have X := X₀.keeps F.keep
  refine wpAny_call ?_
  obtain ⟨hh, g, d, t, os⟩ := s
  refine make_core (makes_of X hm) (looks_findIn X hi) (fun self => bind_fn X self (beq_iff_eq.mp hf)) (.inl rfl)
    (h _ hh.objs.size _ (fun b o e => Heap.get?_push_of_some _ (Heap.get?_push_of_some _ e)) (Nat.le_refl _) (Nat.lt_succ_self _) ((F.push _).push _) ?_)
  have := ((News.nil (h₀ := h₀) (h := hh) (L := L)).push F emptyDict).push (F.push _) (instObj C hh.objs.size)
  rwa [Heap.size_push] at this

/-- A def is called: all that the ledger does not name stands behind the callee's frame, as it was. -/
theorem code_defH {env : Env} {outer : List Env} {R : Result → Shared → Prop} {name qual : Str} {params : Arguments} {body : List Stmt} {scope : Scope} {dV kV doc pm cdv ct oc : Value} {an od : Option Addr} {osl : Array (Option Value)} {f : Addr} {args : Args} {binds : List (Str × Value)}
    (B : Below A₀ base outer h₀) (F : Fr h₀ L s.heap m) (X₀ : K.In h₀) (N : News h₀ L s.heap news) (T : Top p loose mean mg mb h₀) (hA : A.frames = some (env :: outer)) (hf : env.frame = some L) (hke : env.scope.kind = .function)
    (ho : K.lookup f = some ⟨oc, od, .func (fnOf name qual params body scope dV kV doc pm an cdv ct), osl⟩) (hcd : codeIn K cdv qual = true) (hroom : A.depth < recursionLimit)
    (hbind : BindsTo s (fnOf name qual params body scope dV kV doc pm an cdv ct) args binds) (hloc : ∀ y ∈ binds, scope.names.lookup y.1 = some .local)
    (h : ∀ g L' h₁, (∀ b o, s.heap.get? b = some o → b ∉ news.map (·.1) → g.get? b = some o) → s.heap.objs.size ≤ L' → Fr h₀ L g m → Fr g L' h₁ (fun y => binds.reverse.lookup y) → News g L' h₁ news → Below A base (env :: outer) g → K.In g → Top p loose mean mg mb g →
      wpAny (model prog w) (A.deeper (envOf qual scope L' f cdv)) (execs body (envOf qual scope L' f cdv))
        (fun fl s' => LeaveK h₀ L m g R (match fl with | .ret v => v | _ => .none) s')
        (fun e s' => wpAny (model prog w) (A.deeper (envOf qual scope L' f cdv)) (leaving (envOf qual scope L' f cdv) e) (fun _ s'' => R (.error e) s'') (fun e' s'' => R (.error e') s'') s')
        { s with heap := h₁, toks := s.toks + binds.length })
    (hco : scope.isCoroutine = false) (hgen : scope.isGenerator = false) (hk : scope.kind = .function)
    (hcell : ∀ x ∈ scope.names, x.2 ≠ .cell) : codeAny (model prog w) A (.call (.ref f) args) R s := by
  obtain ⟨FG, BG, st, lv⟩ := groundX (R := R) B F N hA hf hke
  refine codeAny_call_def (fd := fnOf name qual params body scope dV kV doc pm an cdv ct) (body := body) (binds := binds) hroom ((X₀.keeps F.keep) _ _ ho) rfl (T.nolimit.keeps F.keep) (codeRec_of (X₀.keeps F.keep) hcd) rfl hbind hcell hloc (fun h₁ hns hk₁ => ?_) hco hgen hk
  exact wpAny_mono (h _ s.heap.objs.size h₁ (fun b o e hb => hideAll_get _ e hb) (Nat.le_refl _) FG ⟨hns, fun b o e => hk₁ b o (of_hideAll _ e), Nat.le_of_eq (hideAll_size _ _)⟩
    (fun p hp => ⟨hk₁ _ _ (N p hp).1, Nat.ne_of_lt (Heap.lt_size (N p hp).1), hideAll_none _ (List.mem_map_of_mem hp)⟩) BG (X₀.keeps st) (T.keeps st)) (fun fl s' hl => lv _ _ hl) fun _ _ y => y
end

/-! Loops by an invariant over a state of one's own: the frame's map and the ledger are functions of it. -/
section
variable {prog : Program} {w : World} {A : Around} {E : Value → Shared → Prop} {s : Shared} {env : Env} {h₀ : Heap} {x : Str} {body : List Stmt} {Q : Flow → Shared → Prop}

/-- How a turn ends: it goes on with the next state, or breaks off with a state that Ex tells, or returns. -/
def TurnEnd {σ : Type} (h₀ : Heap) (L : Addr) (x : Str) (mp : σ → Str → Option Value) (led : σ → List (Addr × Obj)) (Inv Ex : σ → Prop) (I : Addr) (oI : Obj) (Q : Flow → Shared → Prop) (s₁ : Shared) (f : Flow) (s₂ : Shared) : Prop :=
  match f with
  | .ret v => Q (.ret v) s₂
  | .brk => ∃ (c : σ) (h' : Heap) (tk : Nat) (m' : Str → Option Value), s₂ = { s₁ with heap := h', toks := tk } ∧ Fr h₀ L h' m' ∧ News h₀ L h' (led c) ∧ (∀ z, z ≠ x → m' z = mp c z) ∧ Ex c
  | _ => ∃ (c : σ) (h' : Heap) (tk : Nat) (m' : Str → Option Value), s₂ = { s₁ with heap := h', toks := tk } ∧ Fr h₀ L h' m' ∧ News h₀ L h' (led c ++ [(I, oI)]) ∧ (∀ z, z ≠ x → m' z = mp c z) ∧ (∀ p ∈ led c, p.1 ≠ I) ∧ Inv c

theorem map_off {mp : Str → Option Value} {m₁ : Str → Option Value} {v : Value} (h : ∀ z, z ≠ x → m₁ z = mp z) : (fun y => if y = x then some v else m₁ y) = fun y => if y = x then some v else mp y := by
  funext y
  by_cases hy : y = x
  · simp [hy]
  · simp only [if_neg hy]; exact h y hy
theorem map_off' {mp : Str → Option Value} {m₁ : Str → Option Value} (h : ∀ z, z ≠ x → m₁ z = mp z) : m₁ = fun y => if y = x then m₁ y else mp y := by
  funext y
  by_cases hy : y = x
  · simp [hy]
  · simp only [if_neg hy]; exact h y hy

theorem loop_led {σ : Type} {I : Addr} {fp : List Addr} {n : Nat} {P : Nat → Value → Prop} {St : Nat → Heap → Prop} {m₀ : Str → Option Value}
    (mp : σ → Str → Option Value) (led : σ → List (Addr × Obj)) (Inv : Nat → σ → Prop) (Ex : σ → Prop) (c₀ : σ)
    (W : Walks prog w A I fp [I] n P St) (hit : ∀ i h, St i h → ∃ o, h.get? I = some o) (hfp : ∀ b ∈ fp, b = I ∨ (∃ o, h₀.get? b = some o) ∨ ∃ o, ∀ c, (b, o) ∈ led c)
    (hLf : env.locals ∉ fp) (hI0 : h₀.get? I = none) (hst : St 0 s.heap) (F : Fr h₀ env.locals s.heap m₀) (N : News h₀ env.locals s.heap (led c₀))
    (hoff : ∀ p ∈ led c₀, p.1 ≠ I) (hm : ∀ z, z ≠ x → m₀ z = mp c₀ z) (hi : Inv 0 c₀)
    (turn : ∀ i v c oI h tk, i < n → P i v → Inv i c → (∀ p ∈ led c, p.1 ≠ I) → Fr h₀ env.locals h (fun y => if y = x then some v else mp c y) → News h₀ env.locals h (led c ++ [(I, oI)]) →
      wpAny (model prog w) A (execs body env) (TurnEnd h₀ env.locals x mp led (Inv (i + 1)) Ex I oI Q { s with heap := h, toks := tk }) E { s with heap := h, toks := tk })
    (ends : ∀ c, Inv n c → Ex c)
    (done : ∀ c (u : Str → Option Value) h tk, Ex c → Fr h₀ env.locals h (fun y => if y = x then u y else mp c y) → News h₀ env.locals h (led c) → Q .next { s with heap := h, toks := tk }) :
    LoopAtV prog w A h₀ env x body Q E (.ref I) s := by
  have hIfp : I ∈ fp := W.sub I (.head _)
  let J : Nat → (Str → Option Value) → List (Addr × Obj) → Prop := fun i m nx => ∃ c, nx = led c ∧ (∀ z, z ≠ x → m z = mp c z) ∧ Inv i c
  refine ⟨I, fp, [I], n, P, St, m₀, led c₀, J, rfl, W, hLf, ?_, ?_, hst, F, N, ⟨c₀, rfl, hm, hi⟩, ?_, ?_⟩
  · intro b hb; rw [List.mem_singleton.mp hb]; exact hI0
  · intro p hp hb; exact hoff p hp (List.mem_singleton.mp hb)
  · rintro i v m₁ news₁ s₁ own ⟨h, tk, rfl⟩ hin hP ⟨c, rfl, hm₁, hinv⟩ hwr hown hget hall hst' F₁ N₁
    have hoff' : ∀ p ∈ led c, p.1 ≠ I := fun p hp e => hwr p hp (List.mem_singleton.mpr e)
    obtain ⟨oI, e⟩ := hit _ _ hst'
    have hIown : (I, oI) ∈ own := hall I hIfp hI0 oI e
    have N₂ : News h₀ env.locals h (led c ++ [(I, oI)]) := by
      intro p hp
      rcases List.mem_append.mp hp with hp | hp
      · exact N₁ p (List.mem_append.mpr (.inr hp))
      · rw [List.mem_singleton.mp hp]; exact N₁ _ (List.mem_append.mpr (.inl hIown))
    rw [map_off hm₁] at F₁
    refine wpAny_mono (turn i v c oI h tk hin hP hinv hoff' F₁ N₂) (fun f s₂ q => ?_) fun _ _ e => e
    have fin : (∃ (c : σ) (h' : Heap) (tk' : Nat) (m' : Str → Option Value), s₂ = { s with heap := h', toks := tk' } ∧ Fr h₀ env.locals h' m' ∧ News h₀ env.locals h' (led c ++ [(I, oI)]) ∧ (∀ z, z ≠ x → m' z = mp c z) ∧ (∀ p ∈ led c, p.1 ≠ I) ∧ Inv (i + 1) c) →
        LoopStepU h₀ env.locals [I] own (J (i + 1)) { s with heap := h, toks := tk } .next s₂ := by
      rintro ⟨c', h', tk', m', rfl, F', N', hm', hoff'', hinv'⟩
      refine ⟨rfl, h', tk', m', led c', rfl, F', ?_, fun p hp hq => hoff'' p hp (List.mem_singleton.mp hq), ⟨c', rfl, hm', hinv'⟩⟩
      intro p hp
      rcases List.mem_append.mp hp with hp | hp
      · have hp0 := (N₁ p (List.mem_append.mpr (.inl hp))).2.2
        have hpg := (N₁ p (List.mem_append.mpr (.inl hp))).1
        rcases hfp p.1 (hown p hp) with e1 | ⟨o, e1⟩ | ⟨o, e1⟩
        · obtain ⟨pa, po⟩ := p
          simp only at e1 hpg
          subst e1
          rw [e] at hpg
          cases hpg
          exact N' _ (List.mem_append.mpr (.inr (.head _)))
        · rw [e1] at hp0; cases hp0
        · have q1 := (N₂ _ (List.mem_append.mpr (.inl (e1 c)))).1
          obtain ⟨pa, po⟩ := p
          simp only at e1 hpg q1
          rw [q1] at hpg
          cases hpg
          exact N' _ (List.mem_append.mpr (.inl (e1 c')))
      · exact N' p (List.mem_append.mpr (.inl hp))
    cases f with
    | ret v => exact .ret q
    | brk =>
      obtain ⟨c', h', tk', m', rfl, F', N', hm', hex⟩ := q
      exact .brk (done c' m' h' tk' hex (by rw [← map_off' hm']; exact F') N')
    | next => exact .next (fin q)
    | cont => exact .cont (fin q)
  · rintro h' tk m' news' F' N' _ ⟨c, rfl, hm', hinv⟩
    exact done c m' h' tk (ends c hinv) (by rw [← map_off' hm']; exact F') N'

theorem led_push {h : Heap} {L : Addr} {news : List (Addr × Obj)} (N : News h₀ L h news) (o : Obj) : News h₀ L (h.push o) news := fun p hp => ⟨Heap.get?_push_of_some _ (N p hp).1, (N p hp).2⟩
theorem led_off {h : Heap} {L : Addr} {news : List (Addr × Obj)} (N : News h₀ L h news) : ∀ p ∈ news, p.1 ≠ h.objs.size := fun p hp e => absurd (Heap.lt_size (N p hp).1) (e ▸ Nat.lt_irrefl _)

theorem text_led {σ : Type} {xt : Str} {tx : Tok} {m₀ : Str → Option Value} {news : List (Addr × Obj)}
    (mp : σ → Str → Option Value) (led : σ → List (Addr × Obj)) (Inv : List Nat → σ → Prop) (Ex : σ → Prop) (c₀ : σ)
    (hh : A.handled = none) (F : Fr h₀ env.locals s.heap m₀) (N : News h₀ env.locals s.heap news) (hl : ∀ p ∈ led c₀, p ∈ news) (hm : ∀ z, z ≠ x → m₀ z = mp c₀ z) (hi : Inv [] c₀)
    (turn : ∀ pre n post t c I oI h tk, xt.cps.toList = pre ++ n :: post → Inv pre c → (∀ p ∈ led c, p.1 ≠ I) → Fr h₀ env.locals h (fun y => if y = x then some (.str ⟨#[n]⟩ t) else mp c y) → News h₀ env.locals h (led c ++ [(I, oI)]) →
      wpAny (model prog w) A (execs body env) (TurnEnd h₀ env.locals x mp led (Inv (pre ++ [n])) Ex I oI Q { s with heap := h, toks := tk }) E { s with heap := h, toks := tk })
    (ends : ∀ c, Inv xt.cps.toList c → Ex c)
    (done : ∀ c (u : Str → Option Value) h tk, Ex c → Fr h₀ env.locals h (fun y => if y = x then u y else mp c y) → News h₀ env.locals h (led c) → Q .next { s with heap := h, toks := tk }) :
    wpAny (model prog w) A (pyIter (.str xt tx)) (fun it s₂ => LoopAtV prog w A h₀ env x body Q E it s₂) E s := by
  have key : ∀ (o : Obj) (nm : String), Walks prog w A s.heap.objs.size [s.heap.objs.size] [s.heap.objs.size] xt.cps.size (SignAt xt) (fun i h => h.IsStrIter s.heap.objs.size nm xt tx i) → (s.heap.push o).IsStrIter s.heap.objs.size nm xt tx 0 →
      LoopAtV prog w A h₀ env x body Q E (.ref s.heap.objs.size) { s with heap := s.heap.push o } := by
    intro o nm W hst
    refine loop_led mp led (fun i c => Inv (xt.cps.toList.take i) c) Ex c₀ W (fun i h st => let ⟨o, ho, _⟩ := st; ⟨o, ho⟩) (fun b hb => .inl (List.mem_singleton.mp hb)) ?_ (next_is_new F) hst (F.push _) (led_push (news_sub N hl) _) (led_off (news_sub N hl)) hm (by simpa using hi) ?_ ?_ ?_
    · intro hm
      exact absurd F.ns.lt ((List.mem_singleton.mp hm) ▸ Nat.lt_irrefl _)
    · rintro i v c oI h tk hin ⟨n, u, hn, rfl⟩ hinv hoff F₁ N₁
      have hn' : xt.cps.toList[i]? = some n := by simpa using hn
      have hs : xt.cps.toList.take (i + 1) = xt.cps.toList.take i ++ [n] := by simp [List.take_add_one, hn']
      have e : xt.cps.toList = xt.cps.toList.take i ++ n :: xt.cps.toList.drop (i + 1) := by
        have ht := List.take_append_drop (i + 1) xt.cps.toList
        rw [hs, List.append_assoc] at ht
        exact ht.symm
      have := turn _ n _ u c _ oI h tk e hinv hoff F₁ N₁
      rw [← hs] at this
      exact this
    · intro c hc
      have hz : xt.cps.size = xt.cps.toList.length := by simp
      rw [hz, List.take_length] at hc
      exact ends c hc
    · intro c u h tk hex F' N'
      exact done c u h tk hex F' N'
  cases ha : xt.cps.all (· < 128)
  · exact wpAny_pyIter_wide ha (key _ _ (Walks.strWide hh _ xt tx) ⟨_, Heap.get?_push_size _ rfl, rfl, rfl⟩)
  · exact wpAny_pyIter_ascii ha (key _ _ (Walks.strAscii hh _ xt tx) ⟨_, Heap.get?_push_size _ rfl, rfl, rfl⟩)

/-- A list: one that stood before the frame, or one of the ledger that no turn changes. -/
theorem list_led {σ : Type} {l : Addr} {vs : List Value} {m₀ : Str → Option Value} {news : List (Addr × Obj)}
    (mp : σ → Str → Option Value) (led : σ → List (Addr × Obj)) (Inv : Nat → σ → Prop) (Ex : σ → Prop) (c₀ : σ)
    (hh : A.handled = none) (hl0 : h₀.IsList l vs.toArray ∨ ∃ n, ∀ c, (l, listOf vs.toArray n) ∈ led c) (F : Fr h₀ env.locals s.heap m₀) (N : News h₀ env.locals s.heap news) (hl : ∀ p ∈ led c₀, p ∈ news) (hm : ∀ z, z ≠ x → m₀ z = mp c₀ z) (hi : Inv 0 c₀)
    (turn : ∀ i v c I oI h tk, vs[i]? = some v → Inv i c → (∀ p ∈ led c, p.1 ≠ I) → Fr h₀ env.locals h (fun y => if y = x then some v else mp c y) → News h₀ env.locals h (led c ++ [(I, oI)]) →
      wpAny (model prog w) A (execs body env) (TurnEnd h₀ env.locals x mp led (Inv (i + 1)) Ex I oI Q { s with heap := h, toks := tk }) E { s with heap := h, toks := tk })
    (ends : ∀ c, Inv vs.length c → Ex c)
    (done : ∀ c (u : Str → Option Value) h tk, Ex c → Fr h₀ env.locals h (fun y => if y = x then u y else mp c y) → News h₀ env.locals h (led c) → Q .next { s with heap := h, toks := tk }) :
    wpAny (model prog w) A (pyIter (.ref l)) (fun it s₂ => LoopAtV prog w A h₀ env x body Q E it s₂) E s := by
  have N₀ := news_sub N hl
  have hls : s.heap.IsList l vs.toArray := by
    rcases hl0 with hl0 | ⟨n, hl0⟩
    · exact hl0.at fun o e => F.keep l o e
    · exact ⟨_, N₀.get (hl0 c₀), rfl, n, rfl⟩
  have hL : l ≠ env.locals := by
    rcases hl0 with hl0 | ⟨n, hl0⟩
    · obtain ⟨ol, hol, _⟩ := id hl0
      exact Nat.ne_of_lt (Nat.lt_of_lt_of_le (Heap.lt_size hol) F.above)
    · exact (N₀ _ (hl0 c₀)).2.1
  obtain ⟨ol, hol, _⟩ := id hls
  have hne : l ≠ s.heap.objs.size := Nat.ne_of_lt (Heap.lt_size hol)
  refine wpAny_pyIter_list hls ?_
  have W := Walks.list (prog := prog) (w := w) hh s.heap.objs.size l hne vs.toArray
  have hlen : vs.toArray.size = vs.length := by simp
  rw [hlen] at W
  refine loop_led mp led Inv Ex c₀ W (fun i h st => let ⟨⟨o, ho, _⟩, _⟩ := st; ⟨o, ho⟩) (fun b hb => ?_) ?_ (next_is_new F) ⟨⟨_, Heap.get?_push_size _ rfl, rfl, rfl⟩, hls.at fun o e => Heap.get?_push_of_some _ e⟩ (F.push _) (led_push N₀ _) (led_off N₀) hm hi ?_ ends done
  · rcases List.mem_cons.mp hb with e | hb
    · exact .inl e
    · rw [List.mem_singleton.mp hb]
      rcases hl0 with hl0 | ⟨n, hl0⟩
      · obtain ⟨ol, hol, _⟩ := id hl0
        exact .inr (.inl ⟨_, hol⟩)
      · exact .inr (.inr ⟨_, hl0⟩)
  · intro hm
    rcases List.mem_cons.mp hm with e | hm
    · exact absurd F.ns.lt (e ▸ Nat.lt_irrefl _)
    · exact hL (List.mem_singleton.mp hm).symm
  · intro i v c oI h tk hin hP hinv hoff F₁ N₁
    exact turn i v c _ oI h tk (by simpa using hP) hinv hoff F₁ N₁

theorem range_led {σ : Type} {r : Addr} {a₀ b₀ : Int} {t₀ u₀ v₀ : Tok} {n : Nat} {m₀ : Str → Option Value} {news : List (Addr × Obj)}
    (mp : σ → Str → Option Value) (led : σ → List (Addr × Obj)) (Inv : Nat → σ → Prop) (Ex : σ → Prop) (c₀ : σ)
    (hh : A.handled = none) (hr : IsRange s.heap r a₀ b₀ 1 t₀ u₀ v₀) (hsmall : Builtin.Range.small a₀ b₀ 1 = true) (hn : Builtin.Range.rangeSize a₀ b₀ 1 = (n : Int)) (F : Fr h₀ env.locals s.heap m₀) (N : News h₀ env.locals s.heap news) (hl : ∀ p ∈ led c₀, p ∈ news) (hm : ∀ z, z ≠ x → m₀ z = mp c₀ z) (hi : Inv 0 c₀)
    (turn : ∀ i t c I oI h tk, i < n → Inv i c → (∀ p ∈ led c, p.1 ≠ I) → Fr h₀ env.locals h (fun y => if y = x then some (.int (a₀ + (i : Int)) t) else mp c y) → News h₀ env.locals h (led c ++ [(I, oI)]) →
      wpAny (model prog w) A (execs body env) (TurnEnd h₀ env.locals x mp led (Inv (i + 1)) Ex I oI Q { s with heap := h, toks := tk }) E { s with heap := h, toks := tk })
    (ends : ∀ c, Inv n c → Ex c)
    (done : ∀ c (u : Str → Option Value) h tk, Ex c → Fr h₀ env.locals h (fun y => if y = x then u y else mp c y) → News h₀ env.locals h (led c) → Q .next { s with heap := h, toks := tk }) :
    wpAny (model prog w) A (pyIter (.ref r)) (fun it s₂ => LoopAtV prog w A h₀ env x body Q E it s₂) E s := by
  have N₀ := news_sub N hl
  refine wpAny_pyIter_range hr hsmall ?_
  have W : Walks prog w A s.heap.objs.size [s.heap.objs.size] [s.heap.objs.size] n (fun i v => i < n ∧ ∃ t, v = .int (a₀ + i * 1) t)
      (fun i h => IsRangeIter h s.heap.objs.size (a₀ + (i : Nat) * 1) ((n : Int) - (i : Nat)) 1) := (Walks.range hh _ a₀ 1 n).bound
  refine loop_led mp led Inv Ex c₀ W (fun i h st => ⟨_, st⟩) (fun b hb => .inl (List.mem_singleton.mp hb)) ?_ (next_is_new F) (by show IsRangeIter _ _ _ _ _; rw [hn]; simpa using Heap.get?_push_size _ rfl) (F.push _) (led_push N₀ _) (led_off N₀) hm hi ?_ ends done
  · intro hm
    exact absurd F.ns.lt ((List.mem_singleton.mp hm) ▸ Nat.lt_irrefl _)
  · rintro i v c oI h tk hin ⟨_, t, rfl⟩ hinv hoff F₁ N₁
    have e1 : a₀ + (i : Int) * 1 = a₀ + (i : Int) := by omega
    rw [e1] at F₁
    exact turn i t c _ oI h tk hin hinv hoff F₁ N₁
end

end

section
open PySem.Calls PySem.Spec

theorem leN {a b : Nat} (h : a ≤ b) : a ≤ b := h
theorem tab_len {l : List Str} {k B : Nat} (h : ∀ y ∈ l, y.length ≤ B) : (l.getD k Str.empty).length ≤ B := by
  rw [List.getD_eq_getElem?_getD]
  cases e : l[k]? with
  | none => exact Nat.zero_le _
  | some y => exact h y (List.mem_of_getElem? e)
theorem add_fits {x y : Str} (hx : x.length ≤ 1000000) (hy : y.length ≤ 1000000) : x.length + y.length ≤ sizeLine := by
  have : (2000000 : Nat) ≤ sizeLine := by decide
  omega
theorem mul_len1 {c : Nat} {n : Int} {N : Nat} (hn : n ≤ (N : Int)) : (Txt.mul ⟨#[c]⟩ n).length ≤ N := len_mul_one rfl hn
theorem mul_len2 {x : Str} {n : Int} {N : Nat} (hx : x.length ≤ 1) (hn : n ≤ (N : Int)) : (Txt.mul x n).length ≤ 1 * N := len_mul_leN hx hn
theorem app_len {x y : Str} {a b : Nat} (hx : x.length ≤ a) (hy : y.length ≤ b) : (x ++ y).length ≤ a + b := by
  rw [Str.length_append]; omega
theorem len_le {x : Str} {a b : Nat} (h : x.length ≤ a) (hb : a ≤ b) : x.length ≤ b := Nat.le_trans h hb
abbrev tupO (items : Array Value) : Obj := { cls := .type "tuple", data := .seq items }
theorem noFill_tuple_mul : fillsNumberSlot (.type "tuple") "mul" = pure false :=
  PySem.fillsNumberSlot_seq (id := "tuple.__mul__") (r := some (.builtin "tuple.__rmul__")) F.slot_tuple_mul.lookup (by decide +kernel) F.slot_tuple_rmul.lookup (by decide +kernel)
theorem repeat_tuple : seqRepeat? (.type "tuple") = pure (some (.builtin "tuple.__mul__")) := by
  unfold seqRepeat?
  rw [PySem.seqSlot_of (T := "tuple") (name := "__mul__") (id := "tuple.__mul__") F.slot_tuple_mul.lookup (by decide +kernel), PySem.seqSlot_of (T := "tuple") (name := "__rmul__") (id := "tuple.__rmul__") F.slot_tuple_rmul.lookup (by decide +kernel)]
  rfl
theorem int_rmul_tuple (a : Int) (t : Tok) (l : Addr) (items : Array Value) :
    Meets (Builtin.«int.__rmul__» ⟨[.int a t, .ref l], []⟩) (fun _ R s => s.heap.get? l = some (tupO items) ∧ R (.ok (.ret Value.notImplemented)) s) :=
  .of_wp fun prog w A R s h => by obtain ⟨hp, g, d, tk, os⟩ := s; obtain ⟨hl, h⟩ := h; wp_walk; exact ⟨_, rfl, h⟩
theorem tuple_mul_one (l : Addr) (items : Array Value) (u : Tok) :
    Meets (Builtin.«tuple.__mul__» ⟨[.ref l, .int 1 u], []⟩) (fun _ R s => s.heap.get? l = some (tupO items) ∧ R (.ok (.ret (Value.ref l))) s) :=
  .of_wp fun prog w A R s h => by obtain ⟨hp, g, d, tk, os⟩ := s; obtain ⟨hl, h⟩ := h; wp_walk; exact ⟨_, rfl, h⟩
theorem tuple_mul_zero (l : Addr) (v : Value) (u : Tok) :
    Meets (Builtin.«tuple.__mul__» ⟨[.ref l, .int 0 u], []⟩) (fun _ R s => s.heap.get? l = some (tupO #[v]) ∧ R (.ok (.ret (Value.ref s.heap.objs.size))) { s with heap := s.heap.push (tupO #[]) }) :=
  .of_wp fun prog w A R s h => by obtain ⟨hp, g, d, tk, os⟩ := s; obtain ⟨hl, h⟩ := h; wp_walk; exact ⟨_, rfl, h⟩
theorem tuple_mul_two (l : Addr) (v : Value) (u : Tok) :
    Meets (Builtin.«tuple.__mul__» ⟨[.ref l, .int 2 u], []⟩) (fun _ R s => s.heap.get? l = some (tupO #[v]) ∧ R (.ok (.ret (Value.ref s.heap.objs.size))) { s with heap := s.heap.push (tupO #[v, v]) }) :=
  .of_wp fun prog w A R s h => by obtain ⟨hp, g, d, tk, os⟩ := s; obtain ⟨hl, h⟩ := h; wp_walk; exact ⟨_, rfl, h⟩

section
variable {prog : Program} {w : World} {A : Around} {E : Value → Shared → Prop} {s : Shared} {h₀ : Heap} {L l t b : Addr} {m : Str → Option Value} {news : List (Addr × Obj)} {v : Value} {vs ws : List Value} {x : Int} {u : Tok} {Q : Value → Shared → Prop}
theorem tup_mul1 (Fm : Fr h₀ L s.heap m) (N : News h₀ L s.heap news) (hm : (l, tupO #[v]) ∈ news) (h0 : 0 ≤ x) (h2 : x ≤ 2)
    (h : ∀ D h', Fr h₀ L h' m → News h₀ L h' ((D, tupO (List.replicate x.toNat v).toArray) :: news) → l ≤ D → Q (.ref D) { s with heap := h' }) : wpAny (model prog w) A (binaryOp .Mult (.ref l) (.int x u)) Q E s := by
  have ho := N.get hm
  refine wpAny_binaryOp_repeat_ref (T := "tuple") (U := "int") (by decide) ⟨_, ho, rfl⟩ (fun s' => typeIs_int s' x u) noFill_tuple_mul F.fills_int_mul F.slot_int_rmul repeat_tuple F.slot_int_index.lookup
    (call_meets F.slot_int_rmul (typeIs_int s x u) F.entry_int_rmul (F.args_int_rmul_2 _ _) (int_rmul_tuple x u l #[v]) ⟨ho, rfl, ⟨_, ho, rfl⟩, ?_⟩)
  have hx : x = 0 ∨ x = 1 ∨ x = 2 := by omega
  rcases hx with rfl | rfl | rfl
  · exact call_meets F.slot_tuple_mul ⟨_, ho, rfl⟩ F.entry_tuple_mul (F.args_tuple_mul_2 _ _) (tuple_mul_zero l v u) ⟨ho, h _ _ (Fm.push _) (News.push Fm N (tupO #[])) (Nat.le_of_lt (Heap.lt_size ho))⟩
  · exact call_meets F.slot_tuple_mul ⟨_, ho, rfl⟩ F.entry_tuple_mul (F.args_tuple_mul_2 _ _) (tuple_mul_one l #[v] u) ⟨ho, h _ _ Fm (fun p hp => (List.mem_cons.mp hp).elim (fun e => e ▸ N _ hm) (N p)) (Nat.le_refl _)⟩
  · exact call_meets F.slot_tuple_mul ⟨_, ho, rfl⟩ F.entry_tuple_mul (F.args_tuple_mul_2 _ _) (tuple_mul_two l v u) ⟨ho, h _ _ (Fm.push _) (News.push Fm N (tupO #[v, v])) (Nat.le_of_lt (Heap.lt_size ho))⟩
theorem tup_add (Fm : Fr h₀ L s.heap m) (N : News h₀ L s.heap news) (ha : (t, tupO vs.toArray) ∈ news) (hb : (b, tupO ws.toArray) ∈ news) (hv : vs ≠ []) (hz : vs.length + ws.length ≤ 16384)
    (h : ∀ D h', Fr h₀ L h' m → News h₀ L h' ((D, tupO (vs ++ ws).toArray) :: news) → t ≤ D → Q (.ref D) { s with heap := h' }) : wpAny (model prog w) A (binaryOp .Add (.ref t) (.ref b)) Q E s := by
  have h1 : IsTup s.heap t vs.toArray := ⟨_, N.get ha, rfl, 0, rfl⟩
  have h2 : IsTup s.heap b ws.toArray := ⟨_, N.get hb, rfl, 0, rfl⟩
  by_cases hw : ws = []
  · subst hw
    refine kde_addT1 Fm N h1 h2 (by simpa using hv) rfl (by simpa using hz) ?_
    have := h t s.heap Fm (fun p hp => (List.mem_cons.mp hp).elim (fun e => by rw [e, List.append_nil]; exact N _ ha) (N p)) (Nat.le_refl _)
    exact this
  · refine kde_addT Fm N h1 h2 (by simpa using hv) (by simpa using hw) (by simpa using hz) rfl fun D h' F' N' lt => ?_
    exact h D h' F' (by simpa using N') (Nat.le_of_lt (lt _ ha))
theorem len_ledL {n : Nat} (N : News h₀ L s.heap news) (hm : (l, listOf vs.toArray n) ∈ news) (hz : vs.length ≤ 1000000) (h : ∀ t k, Q (.int (vs.length : Int) t) { s with toks := k }) :
    wpAny (model prog w) A (call (.builtin "len") [.ref l]) Q E s := by
  refine len_list (items := vs.toArray) ⟨_, N.get hm, rfl, n, rfl⟩ (by rw [List.size_toArray]; omega) ?_
  rw [List.size_toArray]
  exact h _ _
theorem item_ledL {value slice : PySem.Expr} {n : Nat} {k : Int} (N : News h₀ L s.heap news) (hm : (l, listOf vs.toArray n) ∈ news) (h0 : 0 ≤ k) (hfit : k < 2 ^ 63) (hx : vs[k.toNat]? = some v) (h : Q v s)
    (hs : subscripted slice false (.ref l) (.int k u) = operate [.ref l, .int k u] (getItem (.ref l) (.int k u)) := by with_unfolding_all rfl) :
    wpAny (model prog w) A (subscriptTail value slice (.ref l) (.int k u)) Q E s :=
  tail_any (s := s) (Heap.IsList.typeIs ⟨_, N.get hm, rfl, n, rfl⟩) slot_list_getitem.lookup (wpAny_getItem_list ⟨_, N.get hm, rfl, n, rfl⟩ h0 hfit (by simpa using hx) h) hs
theorem ne_led_same {a b : Value} {d : Dat} (N : News h₀ L s.heap news) (Da : DatIn news a d) (Db : DatIn news b d) (hk : kqdOk 8 d = true) (hu : A.units + 64 < cLine) (h : Q (.bool false) s) : wpAny (model prog w) A (compareOp .NotEq a b) Q E s := by
  obtain ⟨as, ra⟩ := kqd_in N 8 Da hk
  obtain ⟨bs, rb⟩ := kqd_in N 8 Db hk
  have la := kqd_lay 8 d hk
  have e : PyData.eqv (kqdP d) (kqdP d) = true := (kqd_eqv 8 d d 8 hk hk).mpr rfl
  refine ne_dataH ra rb ?_ ?_ hu (by rw [e]; exact h)
  · unfold SeqAt.shaped; rw [la.1, Bool.true_and]; exact decide_eq_true (Nat.le_trans la.2 (by decide))
  · unfold SeqAt.shaped; rw [la.1, Bool.true_and]; exact decide_eq_true (Nat.le_trans la.2 (by decide))
end
theorem datAll_ints {news : List (Addr × Obj)} : ∀ {vs : List Value} {cs : List Int}, IntsAre vs cs → DatAll news vs (cs.map .int)
  | _, _, .nil => .nil
  | _, _, .cons _ _ r => .cons (.int _ _) (datAll_ints r)
section
variable {prog : Program} {w : World} {A : Around} {E : Value → Shared → Prop} {s : Shared} {h₀ : Heap} {L : Addr} {m : Str → Option Value} {news : List (Addr × Obj)}
theorem adjust_to (b n : Nat) (hb : b ≤ n) : Builtin.Slice.sliceAdjust none (some (b : Int)) 1 (n : Int) = ((0 : Int), (b : Int)) := by
  unfold Builtin.Slice.sliceAdjust
  have h1 : ¬ ((1 : Int) < 0) := by omega
  have h2 : ¬ ((b : Int) < 0) := by omega
  simp only [h1, h2, if_false]
  congr 1
  omega
theorem places_to (b : Nat) : Builtin.Slice.slicePlaces (0 : Int) (b : Int) 1 = b := by
  unfold Builtin.Slice.slicePlaces
  have h1 : (1 : Int) > 0 := by omega
  simp only [h1, if_true, Int.ediv_one]
  split <;> omega
theorem sliceApplied_to {sl : Addr} {b n : Nat} {u : Tok} {Q : Int × Int × Nat → Shared → Prop} (hs : s.heap.IsSliceOf sl .none (.int b u) .none) (hb : b ≤ n) (h : Q ((0 : Int), 1, b) s) :
    wpAny (model prog w) A (Builtin.Slice.sliceApplied (.ref sl) (pure (n : Int))) Q E s := by
  obtain ⟨os, hos, hcs, hds⟩ := id hs
  unfold Builtin.Slice.sliceApplied Builtin.Slice.sliceFields
  refine wpAny_bind (wpAny_bind (wpAny_field hos hds (x := .none) rfl (wpAny_bind (wpAny_field hos hds (x := .int b u) rfl (wpAny_bind (wpAny_field hos hds (x := .none) rfl (wpAny_pure ?_)))))))
  refine wpAny_bind (slicePart_none ?_)
  show wpAny _ _ (if ((1 : Int) == 0) = true then _ else _) _ _ s
  rw [if_neg (by decide)]
  refine wpAny_bind (slicePart_none (wpAny_bind (slicePart_int (wpAny_bind (wpAny_pure ?_)))))
  show wpAny _ _ (match Builtin.Slice.sliceAdjust none (some (b : Int)) 1 (n : Int) with | (lo, hi) => pure (lo, (1 : Int), Builtin.Slice.slicePlaces lo hi 1)) _ _ s
  rw [adjust_to b n hb]
  show wpAny _ _ (pure ((0 : Int), (1 : Int), Builtin.Slice.slicePlaces (0 : Int) (b : Int) 1)) _ _ s
  rw [places_to b]
  exact wpAny_pure h
theorem pick_to (xs : Array Value) (b : Nat) (hb : b ≤ xs.size) : ((List.range b).filterMap fun (k : Nat) => xs[((0 : Int) + (k : Int) * 1).toNat]?).toArray = (xs.toList.take b).toArray := by
  have e : (fun (k : Nat) => xs[((0 : Int) + (k : Int) * 1).toNat]?) = fun k => xs.toList[k]? := by
    funext k
    have : ((0 : Int) + (k : Int) * 1).toNat = k := by omega
    rw [this]; simp
  rw [e]
  congr 1
  have hb' : b ≤ xs.toList.length := by simpa using hb
  generalize xs.toList = l at hb'
  induction b with
  | zero => simp
  | succ b ih =>
    rw [List.range_succ, List.filterMap_append, ih (by omega) (by omega), List.take_add_one]
    congr 1
theorem getItem_tuple_to {t sl : Addr} {items : Array Value} {b : Nat} {u : Tok} {Q : Value → Shared → Prop} (ht : IsTup s.heap t items) (hs : s.heap.IsSliceOf sl .none (.int b u) .none) (hb : b < items.size)
    (h : Q (.ref s.heap.objs.size) { s with heap := s.heap.push { cls := .type "tuple", data := .seq (items.toList.take b).toArray } })
    (hsz : items.size ≤ sizeLine) : wpAny (model prog w) A (getItem (.ref t) (.ref sl)) Q E s := by
  have hdrop : sizeOk (.seq (items.toList.take b).toArray) := by
    show (items.toList.take b).toArray.size ≤ sizeLine
    rw [List.size_toArray, List.length_take, Array.length_toList]
    omega
  obtain ⟨os, hos, hcs, hds⟩ := id hs
  have hTs : s.TypeIs (.ref sl) "slice" := ⟨os, hos, hcs⟩
  unfold getItem
  try with_reducible refine wpAny_holding ?_
  first | refine wpAny_bind (wpAny_pure ?_) | skip
  refine wpAny_bind (wpAny_sequenceKey ht.typeIs (by decide) ?_)
  refine wpAny_bind (wpAny_callSpecial?_slot (name := Str.ofString "__getitem__") ht.typeIs slot_tuple_getitem
    (wpAny_call_entry slot_tuple_getitem ht.typeIs entry_tuple_getitem ?_ (args_tuple_getitem _ _)))
  show wpAny _ _ (Builtin.Tuple.tupleItemsOf (.ref t) >>= _) _ _ s
  refine wpAny_bind (tupleItemsOf_ ht ?_)
  refine wpAny_bind (wpAny_typeOf hTs ?_)
  rw [if_pos (by decide)]
  refine wpAny_bind (sliceApplied_to hs (Nat.le_of_lt hb) ?_)
  have hno : ¬ (((0 : Int) == 0 && (1 : Int) == 1 && b == items.size) = true) := by
    have : (b == items.size) = false := by rw [beq_eq_false_iff_ne]; omega
    rw [this]; simp
  show wpAny _ _ (if ((0 : Int) == 0 && (1 : Int) == 1 && b == items.size) = true then _ else _) _ _ s
  rw [if_neg hno, pick_to items b (Nat.le_of_lt hb)]
  first
    | exact wpAny_bind (m := Builtin.Tuple.tupleExact _) (wpAny_newObj_type (wpAny_pure ⟨_, rfl, wpAny_pure h⟩) hdrop)
    | exact wpAny_bind (m := Builtin.Tuple.tupleExact _) (wpAny_newObj_type (wpAny_bind (wpAny_pure (wpAny_pure ⟨_, rfl, wpAny_pure h⟩))) hdrop)
    | exact wpAny_bind (wpAny_bind (m := Builtin.Tuple.tupleExact _) (wpAny_newObj_type (wpAny_pure (wpAny_pure ⟨_, rfl, wpAny_pure h⟩)) hdrop))
    | exact wpAny_bind (wpAny_bind (m := Builtin.Tuple.tupleExact _) (wpAny_newObj_type (wpAny_pure ⟨_, rfl, wpAny_pure h⟩) hdrop))
theorem cut_led0 {value slice : PySem.Expr} {t : Addr} {vs : List Value} {n b : Nat} {u : Tok} {Q : Value → Shared → Prop} (Fm : Fr h₀ L s.heap m) (N : News h₀ L s.heap news) (hm : (t, ({ cls := .type "tuple", data := .seq vs.toArray n } : Obj)) ∈ news) (hb : b < vs.length) (hz : vs.length ≤ 10000)
    (h : ∀ D h', Fr h₀ L h' m → News h₀ L h' ((D, tupO (vs.take b).toArray) :: news) → (∀ p ∈ news, p.1 < D) → Q (.ref D) { s with heap := h' })
    {ops : List Value} (hs : subscripted slice false (.ref t) (.ref s.heap.objs.size) = operate ops (getItem (.ref t) (.ref s.heap.objs.size))) :
    wpAny (model prog w) A (subscriptTail value slice (.ref t) (.ref s.heap.objs.size)) Q E { s with heap := s.heap.push { cls := .type "slice", data := .fields #[.none, .int b u, .none] } } := by
  have F' := Fm.push ({ cls := .type "slice", data := .fields #[.none, .int b u, .none] } : Obj)
  have N' := led_push N ({ cls := .type "slice", data := .fields #[.none, .int b u, .none] } : Obj)
  have ht : IsTup (s.heap.push ({ cls := .type "slice", data := .fields #[.none, .int b u, .none] } : Obj)) t vs.toArray := ⟨_, N'.get hm, rfl, n, rfl⟩
  refine tail_any (T := "tuple") ht.typeIs slot_tuple_getitem.lookup (getItem_tuple_to ht ⟨_, Heap.get?_push_size _ rfl, rfl, rfl⟩ (by simpa using hb) ?_ (by rw [List.size_toArray]; exact Nat.le_trans hz (by decide))) hs
  exact h _ _ (F'.push _) (N'.push F' _) fun p hp => Heap.lt_size (N' p hp).1
/-- t[:x] of a tuple of the ledger, x within it. -/
theorem cut_led {value slice : PySem.Expr} {t : Addr} {vs : List Value} {n : Nat} {x : Int} {u : Tok} {Q : Value → Shared → Prop} (Fm : Fr h₀ L s.heap m) (N : News h₀ L s.heap news) (hm : (t, ({ cls := .type "tuple", data := .seq vs.toArray n } : Obj)) ∈ news) (hx : 0 ≤ x) (hb : x.toNat < vs.length) (hz : vs.length ≤ 10000)
    (h : ∀ D h', Fr h₀ L h' m → News h₀ L h' ((D, tupO (vs.take x.toNat).toArray) :: news) → (∀ p ∈ news, p.1 < D) → Q (.ref D) { s with heap := h' })
    {ops : List Value} (hs : subscripted slice false (.ref t) (.ref s.heap.objs.size) = operate ops (getItem (.ref t) (.ref s.heap.objs.size))) :
    wpAny (model prog w) A (subscriptTail value slice (.ref t) (.ref s.heap.objs.size)) Q E { s with heap := s.heap.push { cls := .type "slice", data := .fields #[.none, .int x u, .none] } } := by
  have e : ((x.toNat : Nat) : Int) = x := Int.toNat_of_nonneg hx
  have := cut_led0 (u := u) Fm N hm hb hz h hs (E := E) (A := A) (prog := prog) (w := w) (value := value)
  rw [e] at this
  exact this
end
theorem rsize (n : Nat) : Builtin.Range.rangeSize 0 (n : Int) 1 = (n : Int) := by
  unfold Builtin.Range.rangeSize
  simp
  intro h
  subst h
  rfl

end

structure WS where
  ca : Nat
  cv : List Value
  ep : Nat
  ci : List Int
  b : Int
  n : Int
  nt : Int
  tb : Tok
  tn : Tok
  tnt : Tok
def bump (ci : List Int) (b : Nat) : List Int :=
  let c := ci ++ List.replicate (b + 1 - ci.length) 0
  c.set b (c.getD b 0 + 1)
def scanStep (q : List Int × Nat × Nat × Nat) (k : Nat) : List Int × Nat × Nat × Nat :=
  if k = 32 then (q.1, q.2.1 + 1, q.2.2.1 + 1, q.2.2.2) else (bump q.1 q.2.1, 0, q.2.2.1 + 1, q.2.2.2 + 1)
def scan (l : List Nat) : List Int × Nat × Nat × Nat := l.foldl scanStep ([], 0, 0, 0)
def isSp (k : Nat) : Bool := k == 32 || k == 9
def WSat (pre : List Nat) (c : WS) : Prop := IntsAre c.cv c.ci ∧ c.ci = (scan pre).1 ∧ c.b = ((scan pre).2.1 : Int) ∧ c.n = ((scan pre).2.2.1 : Int) ∧ c.nt = ((scan pre).2.2.2 : Int)
theorem ofSp : Str.ofString " " = (⟨#[32]⟩ : Str) := by rfl
theorem ofTab : Str.ofString "\t" = (⟨#[9]⟩ : Str) := by rfl
theorem one_true {n k : Nat} {y : Str} (e : y = (⟨#[k]⟩ : Str)) (h : ((⟨#[n]⟩ : Str) == y) = true) : n = k := by
  have := eq_of_beq h
  rw [e] at this
  injection this with q
  simpa using q
theorem one_false {n k : Nat} {y : Str} (e : y = (⟨#[k]⟩ : Str)) (h : ((⟨#[n]⟩ : Str) == y) = false) : n ≠ k := by
  intro q
  subst q e
  simp at h
theorem rep_flat {k : Nat} {a : Int} : (List.replicate k [a]).flatten = List.replicate k a := by
  induction k with
  | zero => rfl
  | succ k ih => simp [List.replicate_succ, ih]
theorem scan_snoc (pre : List Nat) (n : Nat) : scan (pre ++ [n]) = scanStep (scan pre) n := by simp [scan]
theorem bump_length (ci : List Int) (b : Nat) : (bump ci b).length = max ci.length (b + 1) := by
  simp only [bump, List.length_set, List.length_append, List.length_replicate]
  omega
theorem bump_ge {ci : List Int} {b : Int} (h0 : 0 ≤ b) (h : (ci.length : Int) ≤ b) :
    (ci ++ (List.replicate (b - ↑ci.length + 1).toNat [(0 : Int)]).flatten).set b.toNat ((ci ++ (List.replicate (b - ↑ci.length + 1).toNat [(0 : Int)]).flatten).getD b.toNat 0 + 1) = bump ci b.toNat := by
  have e : (b - (ci.length : Int) + 1).toNat = b.toNat + 1 - ci.length := by omega
  rw [rep_flat, e]
  rfl
theorem bump_lt {ci : List Int} {b : Int} (h0 : 0 ≤ b) (h : ¬ (ci.length : Int) ≤ b) : ci.set b.toNat (ci.getD b.toNat 0 + 1) = bump ci b.toNat := by
  have e : b.toNat + 1 - ci.length = 0 := by
    by_cases h0 : 0 ≤ b <;> omega
  simp only [bump, e, List.replicate_zero, List.append_nil]
theorem takeWhile_stop {p : Nat → Bool} {pre post : List Nat} {n : Nat} (h : ∀ k ∈ pre, p k = true) (hn : p n = false) : (pre ++ n :: post).takeWhile p = pre := by
  induction pre with
  | nil => simp [hn]
  | cons a r ih => simp [h a (.head _), ih fun k hk => h k (.tail _ hk)]
theorem takeWhile_all {p : Nat → Bool} {l : List Nat} (h : ∀ k ∈ l, p k = true) : l.takeWhile p = l := by
  induction l with
  | nil => rfl
  | cons a r ih => simp [h a (.head _), ih fun k hk => h k (.tail _ hk)]
abbrev tupOf (vs : Array Value) : Obj := { cls := .type "tuple", data := .seq vs }
abbrev wsEnt (w : World) (ws : Str) (t : Tok) (n nt : Int) (tn tnt : Tok) (nr : Nat) (b : Bool) (k1 k2 k3 k4 k5 : Tok) : List DictEntry :=
  [⟨PyData.keyHash w.params (Str.ofString "raw"), .str (Str.ofString "raw") k1, .str ws t⟩, ⟨PyData.keyHash w.params (Str.ofString "n"), .str (Str.ofString "n") k2, .int n tn⟩, ⟨PyData.keyHash w.params (Str.ofString "nt"), .str (Str.ofString "nt") k3, .int nt tnt⟩,
   ⟨PyData.keyHash w.params (Str.ofString "norm"), .str (Str.ofString "norm") k4, .ref nr⟩, ⟨PyData.keyHash w.params (Str.ofString "is_simple"), .str (Str.ofString "is_simple") k5, .bool b⟩]
def wsOf (ws : Str) : List Int × Nat × Nat × Nat := scan (ws.cps.toList.takeWhile isSp)
theorem tuple_led {prog : Program} {w : World} {A : Around} {E : Value → Shared → Prop} {s : Shared} {h₀ : Heap} {L l : Addr} {m : Str → Option Value} {news : List (Addr × Obj)} {vs : List Value} {n : Nat} {Q : Value → Shared → Prop}
    (F : Fr h₀ L s.heap m) (N : News h₀ L s.heap news) (hm : (l, listOf vs.toArray n) ∈ news) (hz : vs.length ≤ 1000000)
    (h : ∀ D h', Fr h₀ L h' m → News h₀ L h' ((D, tupOf vs.toArray) :: news) → (∀ p ∈ news, p.1 < D) → Q (.ref D) { s with heap := h' }) :
    wpAny (model prog w) A (call (.type "tuple") [.ref l]) Q E s := by
  refine call_tuple_list (items := vs.toArray) ⟨_, N.get hm, rfl, n, rfl⟩ (fun h' hk => ?_) (by rw [List.size_toArray]; exact Nat.le_trans hz (by decide))
  have F' := fr_stays F hk
  have N' := news_stays N hk
  exact h _ _ (F'.push _) (N'.push F' _) fun p hp => Heap.lt_size (N' p hp).1
local macro_rules | `(tactic| walk_at "call type:tuple") => `(tactic| (k_here; (with_reducible show wpAny _ _ (call (Value.type _) [Value.ref _]) _ _ _); k_dflt (refine' tuple_led ?k1 ?k2 ?k3 ?k4 ?_; (case k1 => k_asm); (case k2 => k_asm); (case k3 => k_mem); (case k4 => ((have hq9 := IntsAre.length (by assumption)); omega)); k_whole); intro D' h' F' N' l1; (try k_lt l1); (try k_sweep)))
local macro_rules | `(tactic| walk_at "mapeq") => `(tactic| (intro z hz; by_cases h1 : z = Str.ofString "nt"; subst h1; rfl; by_cases h2 : z = Str.ofString "n"; subst h2; rfl; by_cases h3 : z = Str.ofString "b"; subst h3; rfl; by_cases h4 : z = Str.ofString "count"; subst h4; rfl; simp only [h1, h2, h3, h4, hz, if_false]))
theorem ws12 (w : World) (mean : ExcName → Option Value) (mg mb : Str → Option Value) :
  ∀ (dp un : Nat) (gd : Option (List Code)) (cn : Str) (cs : Scope) (a : Addr) (ccd : Value) (cl : List (Str × Addr)) (outer : List Env) (A₀ : Around) (base h₀ : Heap) (L : Addr) (m : Str → Option Value) (s : Shared) (ws : Str) (t : Tok)
    (Q E : Value → Shared → Prop),
    Below A₀ base outer h₀ → Fr h₀ L s.heap m → (hd12.heap_39 w.params).In h₀ → Top hd12.view_39 (looseW hd12.view_39 [Str.ofString "Whitespace"]) mean mg mb h₀ → cs.kind = .function → ws.length ≤ 10000 → dp + 10 < recursionLimit → un + 80 < cLine →
    (∀ (x dx nr ct : Nat) (cv : List Value) (k1 k2 k3 k4 k5 tn tnt tb : Tok) h' tk', Fr h₀ L h' m → s.heap.StaysIn h' →
      News h₀ L h' [(x, instObj 83 dx), (dx, dictOf (wsEnt w ws t (wsOf ws).2.2.1 (wsOf ws).2.2.2 tn tnt nr (decide (((wsOf ws).1.length : Int) ≤ 1)) k1 k2 k3 k4 k5) 5), (nr, tupOf #[.ref ct, .int (wsOf ws).2.1 tb]), (ct, tupOf cv.toArray)] →
      IntsAre cv (wsOf ws).1 → s.heap.objs.size ≤ dx → dx < x → x < ct → ct < nr → Q (.ref x) { s with heap := h', toks := tk' }) →
    wpAny (model Challenge.rw_dn0186_12.row.prog w) (ktrTop dp un gd cn cs L a ccd cl outer) (call (.ref 83) [.str ws t]) Q E s := by
  k_fill
  intro dp un gd cn cs a ccd cl outer A₀ base h₀ L m s ws t Q E B F X T hk hlen hd hu hret
  refine call_clsH F X (by k_is) (by k_is) (by k_is) ?_
  intro x dx h' st hsz hdx F' N'
  k_lt2 hdx
  k_dflt (refine' code_defH ?k1 ?k2 ?k3 ?k4 ?k5 ?kA ?kF ?kK ?k6 ?k7 ?k8 ?k9 ?kB ?_ ?c2 ?c3 ?c4 ?c5; (case kA => exact rfl); (case kF => exact rfl); (case kK => assumption); (case k1 => k_asm); (case k2 => k_asm); (case k3 => k_asm); (case k4 => k_asm); (case k5 => k_asm); (case k6 => k_is); (case k7 => k_is); (case k8 => ktr_room); (case k9 => exact BindsTo.of_eq rfl); (case c5 => decide); (case kB => exact locs rfl); (case c2 => exact rfl); (case c3 => exact rfl); (case c4 => exact rfl); k_whole)
  intro g L' h' stG hszL FG' F' N' B' X' T'
  (try dsimp only)
  (try k_fold)
  w_on
  k_steps
  rename Fr g L' _ _ => F1
  rename News g L' _ _ => N1
  rename_i D1 _ l1 _ _ _ lc _ l2 _ _ _ h1
  obtain ⟨mr, hmr, F2⟩ : ∃ mr : Str → Option Value, mr = _ ∧ Fr g L' h1 (fun y => if y = Str.ofString "nt" then _ else if y = Str.ofString "n" then _ else if y = Str.ofString "b" then _ else if y = Str.ofString "count" then _ else mr y) := ⟨_, rfl, F1⟩
  obtain ⟨od, hod, N2⟩ : ∃ od : Obj, od = _ ∧ News g L' h1 [(lc, _), (D1, _), (x, _), (dx, od)] := ⟨_, rfl, N1⟩
  clear F1 N1
  refine text_led (σ := WS) (fun c y => if y = Str.ofString "nt" then some (.int c.nt c.tnt) else if y = Str.ofString "n" then some (.int c.n c.tn) else if y = Str.ofString "b" then some (.int c.b c.tb) else if y = Str.ofString "count" then some (.ref c.ca) else mr y)
    (fun c => [(c.ca, listOf c.cv.toArray c.ep), (x, instObj 83 dx), (dx, od)])
    (fun pre c => (∀ k ∈ pre, isSp k = true) ∧ x < c.ca ∧ WSat pre c ∧ 0 ≤ c.b ∧ c.b ≤ pre.length ∧ c.ci.length ≤ pre.length ∧ pre.length ≤ 10000)
    (fun c => x < c.ca ∧ WSat (ws.cps.toList.takeWhile isSp) c ∧ c.ci.length ≤ 10000) ⟨lc, [], 0, [], 0, 0, 0, _, _, _⟩ rfl F2 N2 ?_ (fun z _ => rfl) ?_ ?_ ?_ ?_
  · subst hod
    exact List.forall_mem_cons.mpr ⟨.head _, List.forall_mem_cons.mpr ⟨.tail _ (.tail _ (.head _)), List.forall_mem_cons.mpr ⟨.tail _ (.tail _ (.tail _ (.head _))), List.forall_mem_nil _⟩⟩⟩
  · exact ⟨by simp, l2.2.1, ⟨.nil, rfl, rfl, rfl, rfl⟩, by simp, by simp, by simp, by simp⟩
  · subst hmr hod
    rintro pre n post t' ⟨ca, cv, ep, ci, b, n', nt, tb, tn, tnt⟩ I oI h tk' hpre ⟨hsp, hxa, ⟨hia, hw1, hw2, hw3, hw4⟩, hb0, hb1, hci, hpl⟩ hoff F3 N3
    dsimp only at hsp hxa hia hw1 hw2 hw3 hw4 hb0 hb1 hci F3 N3 hoff
    simp only [List.cons_append, List.nil_append] at N3
    have hpl1 : pre.length + 1 ≤ 10000 := by
      have q := congrArg List.length hpre
      rw [List.length_append, List.length_cons, Array.length_toList] at q
      have q2 : ws.cps.size ≤ 10000 := hlen
      omega
    have o1 : ca ≠ I := hoff _ (.head _)
    have o2 : x ≠ I := hoff _ (.tail _ (.head _))
    have o3 : dx ≠ I := hoff _ (.tail _ (.tail _ (.head _)))
    (try k_fold)
    k_steps
    · rename _ = true => e1
      have hn := one_true ofSp e1
      rename Fr g L' _ _ => Fz
      rename News g L' _ _ => Nz
      refine' ⟨⟨ca, cv, ep, ci, b + 1, n' + 1, nt, ?_, ?_, tnt⟩, _, _, _, rfl, Fz, Nz, ?_, hoff, ?_⟩
      rotate_left 2
      · walk_at "mapeq"
      · subst hn
        refine ⟨?_, hxa, ⟨hia, ?_, ?_, ?_, ?_⟩, ?_, ?_, ?_, ?_⟩
        · intro k hk
          rcases List.mem_append.mp hk with hk | hk
          · exact hsp k hk
          · rw [List.mem_singleton.mp hk]; rfl
        · rw [scan_snoc]; exact hw1
        · rw [scan_snoc]; show b + 1 = (((scan pre).2.1 + 1 : Nat) : Int); omega
        · rw [scan_snoc]; show n' + 1 = (((scan pre).2.2.1 + 1 : Nat) : Int); omega
        · rw [scan_snoc]; exact hw4
        · show 0 ≤ b + 1; omega
        · show b + 1 ≤ ((pre ++ [32]).length : Int); rw [List.length_append, List.length_singleton]; omega
        · show ci.length ≤ (pre ++ [32]).length; rw [List.length_append]; omega
        · rw [List.length_append, List.length_singleton]; exact hpl1
    · rename_i D' ws' _ hI' l1' _ _ _ hi' hl' _ _ Fz Nz
      rename (_ == Str.ofString "\t") = true => e1
      have hn := one_true ofTab e1
      have hbn : b.toNat = (scan pre).2.1 := by omega
      rename (ci.length : Int) ≤ b => hge
      obtain ⟨cv', hcv, hi2⟩ : ∃ cv' : List Value, cv' = _ ∧ IntsAre cv' _ := ⟨_, rfl, hi'⟩
      rw [← hcv] at Nz
      rw [bump_ge hb0 hge] at hi2
      refine' ⟨⟨D', cv', 0, bump ci b.toNat, 0, n' + 1, nt + 1, ?_, ?_, ?_⟩, _, _, _, rfl, Fz, news_sub Nz ?_, ?_, ?_, ?_⟩
      rotate_left 3
      · intro p hp
        simp only [List.cons_append, List.nil_append, List.mem_cons, List.not_mem_nil, or_false] at hp ⊢
        grind
      · walk_at "mapeq"
      · exact List.forall_mem_cons.mpr ⟨Nat.ne_of_gt l1'.2.2.2.2.2, List.forall_mem_cons.mpr ⟨o2, List.forall_mem_cons.mpr ⟨o3, List.forall_mem_nil _⟩⟩⟩
      · subst hn
        refine ⟨?_, l1'.2.2.2.1, ⟨hi2, ?_, ?_, ?_, ?_⟩, ?_, ?_, ?_, ?_⟩
        · intro k hk
          rcases List.mem_append.mp hk with hk | hk
          · exact hsp k hk
          · rw [List.mem_singleton.mp hk]; rfl
        · rw [scan_snoc]; show _ = bump (scan pre).1 (scan pre).2.1; rw [← hw1, ← hbn]
        · rw [scan_snoc]; rfl
        · rw [scan_snoc]; show n' + 1 = (((scan pre).2.2.1 + 1 : Nat) : Int); omega
        · rw [scan_snoc]; show nt + 1 = (((scan pre).2.2.2 + 1 : Nat) : Int); omega
        · show (0 : Int) ≤ 0; omega
        · show (0 : Int) ≤ ((pre.length + 1 : Nat) : Int); omega
        · show (bump ci b.toNat).length ≤ pre.length + 1
          rw [bump_length]; omega
        · exact hpl1
    · rename_i _ _ hi' hl' _ _ Fz Nz
      rename (_ == Str.ofString "\t") = true => e1
      have hn := one_true ofTab e1
      have hbn : b.toNat = (scan pre).2.1 := by omega
      rename ¬ (ci.length : Int) ≤ b => hge
      obtain ⟨cv', hcv, hi2⟩ : ∃ cv' : List Value, cv' = _ ∧ IntsAre cv' _ := ⟨_, rfl, hi'⟩
      rw [← hcv] at Nz
      rw [bump_lt hb0 hge] at hi2
      refine' ⟨⟨ca, cv', ep, bump ci b.toNat, 0, n' + 1, nt + 1, ?_, ?_, ?_⟩, _, _, _, rfl, Fz, Nz, ?_, ?_, ?_⟩
      rotate_left 3
      · walk_at "mapeq"
      · exact List.forall_mem_cons.mpr ⟨o1, List.forall_mem_cons.mpr ⟨o2, List.forall_mem_cons.mpr ⟨o3, List.forall_mem_nil _⟩⟩⟩
      · subst hn
        refine ⟨?_, hxa, ⟨hi2, ?_, ?_, ?_, ?_⟩, ?_, ?_, ?_, ?_⟩
        · intro k hk
          rcases List.mem_append.mp hk with hk | hk
          · exact hsp k hk
          · rw [List.mem_singleton.mp hk]; rfl
        · rw [scan_snoc]; show _ = bump (scan pre).1 (scan pre).2.1; rw [← hw1, ← hbn]
        · rw [scan_snoc]; rfl
        · rw [scan_snoc]; show n' + 1 = (((scan pre).2.2.1 + 1 : Nat) : Int); omega
        · rw [scan_snoc]; show nt + 1 = (((scan pre).2.2.2 + 1 : Nat) : Int); omega
        · show (0 : Int) ≤ 0; omega
        · show (0 : Int) ≤ ((pre.length + 1 : Nat) : Int); omega
        · show (bump ci b.toNat).length ≤ pre.length + 1
          rw [bump_length]; omega
        · exact hpl1
    · rename (_ == Str.ofString " ") = false => e1
      rename (_ == Str.ofString "\t") = false => e2
      have h1 := one_false ofSp e1
      have h2 := one_false ofTab e2
      refine' ⟨⟨ca, cv, ep, ci, b, n', nt, tb, tn, tnt⟩, _, _, _, rfl, F3, news_sub N3 ?_, ?_, hxa, ?_, ?_⟩
      · exact fun p hp => (by simp only [List.mem_cons] at hp ⊢; grind)
      · intro z hz
        simp only [hz, if_false]
      · rw [hpre, takeWhile_stop hsp (by simp [isSp, h1, h2])]
        exact ⟨hia, hw1, hw2, hw3, hw4⟩
      · exact Nat.le_trans hci hpl
  · rintro ⟨ca, cv, ep, ci, b, n', nt, tb, tn, tnt⟩ ⟨hsp, hxa, hws, hb0, hb1, hci, hpl⟩
    refine ⟨hxa, ?_, Nat.le_trans hci hpl⟩
    rw [takeWhile_all hsp]
    exact hws
  · subst hmr hod
    rintro ⟨ca, cv, ep, ci, b, n', nt, tb, tn, tnt⟩ u h tk' ⟨hxa, ⟨hia, hw1, hw2, hw3, hw4⟩, hci⟩ F3 N3
    dsimp only at hxa hia hw1 hw2 hw3 hw4 hci F3 N3
    (try k_fold)
    k_steps
    rename_i D1' _ l1' D2' _ l2' _ _ Fz Nz kF kN _ _
    subst hw1 hw2 hw3 hw4
    refine' hret x dx D2' D1' cv _ _ _ _ _ _ _ _ _ _ kF ?hst (news_sub kN ?hsub) hia hsz hdx l1'.2.1 l2'.1
    case hsub =>
      refine List.forall_mem_cons.mpr ⟨?_, List.forall_mem_cons.mpr ⟨?_, List.forall_mem_cons.mpr ⟨?_, List.forall_mem_cons.mpr ⟨?_, List.forall_mem_nil _⟩⟩⟩⟩
      · exact List.Mem.tail _ (List.Mem.tail _ (List.Mem.tail _ (List.Mem.head _)))
      · refine List.Mem.tail _ (List.Mem.tail _ (List.Mem.tail _ (List.Mem.tail _ (List.mem_singleton.mpr (congrArg (Prod.mk dx) (congrArg (fun l => dictOf l 5) ?_))))))
        refine congr (congrArg List.cons ?_) (congr (congrArg List.cons ?_) (congr (congrArg List.cons ?_) (congr (congrArg List.cons ?_) (congrArg (fun e => [e]) ?_))))
        · rfl
        · rfl
        · rfl
        · rfl
        · rfl
      · exact List.Mem.head _
      · exact List.Mem.tail _ (List.Mem.head _)
    case hst =>
      intro b o e
      have hb := Heap.lt_size e
      refine Fz.keep b o (stG b o (st b o e) ?_)
      intro q
      rcases List.mem_cons.mp q with q | q
      · exact absurd hb (by rw [q]; exact Nat.not_lt.mpr (Nat.le_trans hsz (Nat.le_of_lt hdx)))
      · exact absurd hb (by rw [List.mem_singleton.mp q]; exact Nat.not_lt.mpr hsz)

theorem ws12_use {w : World} {mean : ExcName → Option Value} {mg mb : Str → Option Value} {dp un : Nat} {gd : Option (List Code)} {cn : Str} {cs : Scope} {a : Addr} {ccd : Value} {cl : List (Str × Addr)} {outer : List Env} {A₀ : Around} {base h₀ : Heap} {L : Addr} {m : Str → Option Value} {news : List (Addr × Obj)} {s : Shared} {ws : Str} {t : Tok}
    {Q E : Value → Shared → Prop} (B : Below A₀ base outer h₀) (F : Fr h₀ L s.heap m) (X : (hd12.heap_39 w.params).In h₀) (N : News h₀ L s.heap news) (T : Top hd12.view_39 (looseW hd12.view_39 [Str.ofString "Whitespace"]) mean mg mb h₀) (hk : cs.kind = .function) (hlen : ws.length ≤ 10000) (hd : dp + 10 < recursionLimit) (hu : un + 80 < cLine)
    (h : ∀ (x dx nr ct : Nat) (cv : List Value) (k1 k2 k3 k4 k5 tn tnt tb : Tok) h' tk', Fr h₀ L h' m →
      News h₀ L h' ((x, instObj 83 dx) :: (dx, dictOf (wsEnt w ws t (wsOf ws).2.2.1 (wsOf ws).2.2.2 tn tnt nr (decide (((wsOf ws).1.length : Int) ≤ 1)) k1 k2 k3 k4 k5) 5) :: (nr, tupOf #[.ref ct, .int (wsOf ws).2.1 tb]) :: (ct, tupOf cv.toArray) :: news) →
      IntsAre cv (wsOf ws).1 → (∀ p ∈ news, p.1 < dx) → dx < x ∧ x < ct ∧ ct < nr → Q (.ref x) { s with heap := h', toks := tk' }) :
    wpAny (model Challenge.rw_dn0186_12.row.prog w) (ktrTop dp un gd cn cs L a ccd cl outer) (call (.ref 83) [.str ws t]) Q E s :=
  ws12 w mean mg mb dp un gd cn cs a ccd cl outer A₀ base h₀ L m s ws t Q E B F X T hk hlen hd hu fun x dx nr ct cv k1 k2 k3 k4 k5 tn tnt tb h' tk' F' st N' hi hz h1 h2 h3 =>
    h x dx nr ct cv k1 k2 k3 k4 k5 tn tnt tb h' tk' F' (news_app N' (news_stays N st)) hi (fun p hp => Nat.lt_of_lt_of_le (Heap.lt_size (N p hp).1) hz) ⟨h1, h2, h3⟩
theorem ws12_eq {w : World} {mean : ExcName → Option Value} {mg mb : Str → Option Value} {dp un : Nat} {gd : Option (List Code)} {cn : Str} {cs : Scope} {a : Addr} {ccd : Value} {cl : List (Str × Addr)} {outer : List Env} {A₀ : Around} {base h₀ : Heap} {L : Addr} {m : Str → Option Value} {news : List (Addr × Obj)} {s : Shared} {ws : Str} {t : Tok}
    {Q E : Value → Shared → Prop} {ci : List Int} {b n nt : Int} {sb : Bool} (hq : (wsOf ws).1 = ci ∧ ((wsOf ws).2.1 : Int) = b ∧ ((wsOf ws).2.2.1 : Int) = n ∧ ((wsOf ws).2.2.2 : Int) = nt ∧ decide ((ci.length : Int) ≤ 1) = sb)
    (B : Below A₀ base outer h₀) (F : Fr h₀ L s.heap m) (X : (hd12.heap_39 w.params).In h₀) (N : News h₀ L s.heap news) (T : Top hd12.view_39 (looseW hd12.view_39 [Str.ofString "Whitespace"]) mean mg mb h₀) (hk : cs.kind = .function) (hlen : ws.length ≤ 10000) (hd : dp + 10 < recursionLimit) (hu : un + 80 < cLine)
    (h : ∀ (x dx nr ct : Nat) (cv : List Value) (k1 k2 k3 k4 k5 tn tnt tb : Tok) h' tk', Fr h₀ L h' m →
      News h₀ L h' ((x, instObj 83 dx) :: (dx, dictOf (wsEnt w ws t n nt tn tnt nr sb k1 k2 k3 k4 k5) 5) :: (nr, tupOf #[.ref ct, .int b tb]) :: (ct, tupOf cv.toArray) :: news) →
      IntsAre cv ci → (∀ p ∈ news, p.1 < dx) → dx < x ∧ x < ct ∧ ct < nr → Q (.ref x) { s with heap := h', toks := tk' }) :
    wpAny (model Challenge.rw_dn0186_12.row.prog w) (ktrTop dp un gd cn cs L a ccd cl outer) (call (.ref 83) [.str ws t]) Q E s := by
  obtain ⟨rfl, rfl, rfl, rfl, rfl⟩ := hq
  exact ws12_use B F X N T hk hlen hd hu h

def lineOf (n : Int) : Str := Txt.mul (Str.ofString " ") (n.fmod 4) ++ Txt.mul (Str.ofString "\t") ((n.fdiv 4).fmod 3) ++ Txt.mul (Str.ofString " ") ((n.fdiv 12).fmod 4) ++ [Str.ofString "", Str.ofString "x", Str.ofString "x\t y", Str.ofString "\x0c \t"].getD ((n.fdiv 48).fmod 4).toNat Str.empty
def wn (n : Int) : Int := n.fmod 4 + (n.fdiv 4).fmod 3 + (n.fdiv 12).fmod 4
def wt (n : Int) : Int := (n.fdiv 4).fmod 3
def wl (n : Int) : Int := if (n.fdiv 4).fmod 3 = 0 then n.fmod 4 + (n.fdiv 12).fmod 4 else (n.fdiv 12).fmod 4
def wc (n : Int) : List Int := if (n.fdiv 4).fmod 3 = 0 then [] else if n.fmod 4 = 0 then [(n.fdiv 4).fmod 3] else ((n.fdiv 4).fmod 3 - 1) :: (List.replicate (n.fmod 4 - 1).toNat 0 ++ [1])
def wb (n : Int) : Bool := decide ((n.fdiv 4).fmod 3 = 0) || decide (n.fmod 4 = 0)
def WsIs (x : Int) (r : Str) : Prop := (wsOf r).1 = wc x ∧ ((wsOf r).2.1 : Int) = wl x ∧ ((wsOf r).2.2.1 : Int) = wn x ∧ ((wsOf r).2.2.2 : Int) = wt x ∧ decide (((wc x).length : Int) ≤ 1) = wb x

theorem cl_app (a b : Str) : (a ++ b).cps.toList = a.cps.toList ++ b.cps.toList := by
  rw [PySem.Str.cps_append, Array.toList_append]
theorem foldl_cat (xs : Array Nat) : ∀ (k : Nat) (acc : Array Nat), ((List.replicate k xs).foldl (· ++ ·) acc).toList = acc.toList ++ (List.replicate k xs.toList).flatten
  | 0, acc => by simp
  | k + 1, acc => by
    rw [List.replicate_succ, List.foldl_cons, foldl_cat xs k, Array.toList_append, List.replicate_succ, List.flatten_cons, List.append_assoc]
theorem flat_rep (k c : Nat) : (List.replicate k [c]).flatten = List.replicate k c := by
  induction k with
  | zero => rfl
  | succ k ih => simp [List.replicate_succ, ih]
theorem cl_mul (c : Nat) (n : Int) : (Txt.mul ⟨#[c]⟩ n).cps.toList = List.replicate n.toNat c := by
  unfold Txt.mul
  by_cases h : n < 1
  · have : n.toNat = 0 := by omega
    rw [if_pos h, this]; rfl
  · rw [if_neg h]
    by_cases h1 : n = 1
    · subst h1; rfl
    · have : (n == 1 || (⟨#[c]⟩ : Str).length == 0) = false := by
        simp [h1, PySem.Str.length]
      rw [this]
      simp only [Bool.false_eq_true, if_false]
      rw [foldl_cat]
      simp [flat_rep]
theorem cl_line (n : Int) : ∃ e, (lineOf n).cps.toList = List.replicate (n.fmod 4).toNat 32 ++ List.replicate ((n.fdiv 4).fmod 3).toNat 9 ++ List.replicate ((n.fdiv 12).fmod 4).toNat 32 ++ e ∧ (e = [] ∨ ∃ k q, e = k :: q ∧ isSp k = false) := by
  refine ⟨(([Str.ofString "", Str.ofString "x", Str.ofString "x\t y", Str.ofString "\x0c \t"] : List Str).getD ((n.fdiv 48).fmod 4).toNat Str.empty).cps.toList, ?_, ?_⟩
  · unfold lineOf
    rw [cl_app, cl_app, cl_app, ofSp, ofTab, cl_mul, cl_mul, cl_mul]
  · have h : ((n.fdiv 48).fmod 4).toNat = 0 ∨ ((n.fdiv 48).fmod 4).toNat = 1 ∨ ((n.fdiv 48).fmod 4).toNat = 2 ∨ ((n.fdiv 48).fmod 4).toNat = 3 := by
      rw [Int.fmod_eq_emod_of_nonneg _ (by omega)]; omega
    rcases h with h | h | h | h <;> rw [h]
    · exact .inl rfl
    · exact .inr ⟨120, [], rfl, rfl⟩
    · exact .inr ⟨120, [9, 32, 121], rfl, rfl⟩
    · exact .inr ⟨12, [32, 9], rfl, rfl⟩
theorem scan_cases (A B C : Int) (hA : 0 ≤ A ∧ A < 4) (hB : 0 ≤ B ∧ B < 3) (hC : 0 ≤ C ∧ C < 4) :
    (scan (List.replicate A.toNat 32 ++ List.replicate B.toNat 9 ++ List.replicate C.toNat 32)).1 = (if B = 0 then [] else if A = 0 then [B] else (B - 1) :: (List.replicate (A - 1).toNat 0 ++ [1])) ∧
    ((scan (List.replicate A.toNat 32 ++ List.replicate B.toNat 9 ++ List.replicate C.toNat 32)).2.1 : Int) = (if B = 0 then A + C else C) ∧
    ((scan (List.replicate A.toNat 32 ++ List.replicate B.toNat 9 ++ List.replicate C.toNat 32)).2.2.1 : Int) = A + B + C ∧
    ((scan (List.replicate A.toNat 32 ++ List.replicate B.toNat 9 ++ List.replicate C.toNat 32)).2.2.2 : Int) = B ∧
    decide (((if B = 0 then [] else if A = 0 then [B] else (B - 1) :: (List.replicate (A - 1).toNat 0 ++ [1]) : List Int).length : Int) ≤ 1) = (decide (B = 0) || decide (A = 0)) := by
  have a : A = 0 ∨ A = 1 ∨ A = 2 ∨ A = 3 := by omega
  have b : B = 0 ∨ B = 1 ∨ B = 2 := by omega
  have c : C = 0 ∨ C = 1 ∨ C = 2 ∨ C = 3 := by omega
  rcases a with rfl | rfl | rfl | rfl <;> rcases b with rfl | rfl | rfl <;> rcases c with rfl | rfl | rfl | rfl <;> decide
theorem ws_line (x : Int) (r : Str) (rest : List Nat) (hrest : rest = [] ∨ ∃ q, rest = 10 :: q) (h : r.cps.toList = (lineOf x).cps.toList ++ rest) : WsIs x r := by
  obtain ⟨e, he, hne⟩ := cl_line x
  have hsp : ∀ k ∈ List.replicate (x.fmod 4).toNat 32 ++ List.replicate ((x.fdiv 4).fmod 3).toNat 9 ++ List.replicate ((x.fdiv 12).fmod 4).toNat 32, isSp k = true := by
    intro k hk
    simp only [List.mem_append, List.mem_replicate] at hk
    rcases hk with (hk | hk) | hk <;> rw [hk.2] <;> rfl
  have key : r.cps.toList.takeWhile isSp = List.replicate (x.fmod 4).toNat 32 ++ List.replicate ((x.fdiv 4).fmod 3).toNat 9 ++ List.replicate ((x.fdiv 12).fmod 4).toNat 32 := by
    rw [h, he, List.append_assoc]
    have : e ++ rest = [] ∨ ∃ k q, e ++ rest = k :: q ∧ isSp k = false := by
      rcases hne with rfl | ⟨k, q, rfl, hk⟩
      · rcases hrest with rfl | ⟨q, rfl⟩
        · exact .inl rfl
        · exact .inr ⟨10, q, rfl, rfl⟩
      · exact .inr ⟨k, q ++ rest, rfl, hk⟩
    rcases this with e1 | ⟨k, q, e1, hk⟩
    · rw [e1, List.append_nil]; exact takeWhile_all hsp
    · rw [e1]; exact takeWhile_stop hsp hk
  have := scan_cases (x.fmod 4) ((x.fdiv 4).fmod 3) ((x.fdiv 12).fmod 4) (by rw [Int.fmod_eq_emod_of_nonneg _ (by omega)]; omega) (by rw [Int.fmod_eq_emod_of_nonneg _ (by omega)]; omega) (by rw [Int.fmod_eq_emod_of_nonneg _ (by omega)]; omega)
  unfold WsIs wsOf wc wl wn wt wb
  rw [key]
  exact this
abbrev nl : Str := Str.ofString "\n"
theorem cl_nl : nl.cps.toList = [10] := by rfl
theorem len_cl (s : Str) : s.length = s.cps.toList.length := by simp [PySem.Str.length]
theorem drop_join : ∀ (i : Nat) (ys : List Str), i < ys.length → (Str.join nl ys).cps.toList.drop ((ys.take i).map fun y => y.length + 1).sum = (Str.join nl (ys.drop i)).cps.toList
  | 0, ys, _ => by simp
  | i + 1, [], h => by simp at h
  | i + 1, [y], h => by simp at h
  | i + 1, y :: z :: r, h => by
    have ih := drop_join i (z :: r) (by simpa using h)
    have e : Str.join nl (y :: z :: r) = y ++ nl ++ Str.join nl (z :: r) := rfl
    rw [e, cl_app, cl_app, cl_nl, List.take_succ_cons, List.map_cons, List.sum_cons, List.drop_succ_cons, ← ih]
    rw [List.drop_append]
    have hl : (y.cps.toList ++ [10]).length = y.length + 1 := by rw [List.length_append, ← len_cl]; rfl
    rw [hl, List.drop_eq_nil_of_le (by rw [hl]; omega), List.nil_append]
    congr 1
    omega
theorem join_head (y : Str) (r : List Str) : ∃ rest, (Str.join nl (y :: r)).cps.toList = y.cps.toList ++ rest ∧ (rest = [] ∨ ∃ q, rest = 10 :: q) := by
  cases r with
  | nil => exact ⟨[], by show y.cps.toList = _; simp, .inl rfl⟩
  | cons z r =>
    refine ⟨10 :: (Str.join nl (z :: r)).cps.toList, ?_, .inr ⟨_, rfl⟩⟩
    have e : Str.join nl (y :: z :: r) = y ++ nl ++ Str.join nl (z :: r) := rfl
    rw [e, cl_app, cl_app, cl_nl]; simp
theorem len_join (ys : List Str) : (Str.join nl ys).length ≤ (ys.map fun y => y.length + 1).sum := by
  induction ys with
  | nil => exact Nat.le_refl 0
  | cons y r ih =>
    cases r with
    | nil => show y.length ≤ _; simp
    | cons z r =>
      have e : Str.join nl (y :: z :: r) = y ++ nl ++ Str.join nl (z :: r) := rfl
      have h1 : nl.length = 1 := rfl
      rw [e, Str.length_append, Str.length_append, List.map_cons, List.sum_cons, h1]
      omega
theorem le_join : ∀ (i : Nat) (ys : List Str), i < ys.length → ((ys.take i).map fun y => y.length + 1).sum ≤ (Str.join nl ys).length
  | 0, ys, _ => by simp
  | i + 1, [], h => by simp at h
  | i + 1, [y], h => by simp at h
  | i + 1, y :: z :: r, h => by
    have ih := le_join i (z :: r) (by simpa using h)
    have e : Str.join nl (y :: z :: r) = y ++ nl ++ Str.join nl (z :: r) := rfl
    have h1 : nl.length = 1 := rfl
    rw [e, Str.length_append, Str.length_append, List.take_succ_cons, List.map_cons, List.sum_cons, h1]
    omega
structure S2 where
  st : Int
  ts : Tok
  u : Str → Option Value
def inv2 (xs : List Int) (c : S2) : Prop := c.st = ((xs.map fun x => (lineOf x).length + 1).sum : Nat)
theorem join_is (ys : List Str) : Txt.join (Str.ofString "\n") ys = Str.join nl ys := by unfold Txt.join; exact StrLaws.glued_eq_join _ _
theorem line_len (n : Int) : (lineOf n).length ≤ 20 := by
  unfold lineOf
  refine Nat.le_trans (app_len (app_len (app_len (mul_len2 (N := 4) (by decide) (by (try k_fmods); omega)) (mul_len2 (N := 3) (by decide) (by (try k_fmods); omega))) (mul_len2 (N := 4) (by decide) (by (try k_fmods); omega))) (tab_len (B := 4) (by decide))) (by decide)
theorem page_len (xs : List Int) (h : xs.length ≤ 31) : (Txt.join (Str.ofString "\n") (xs.map lineOf)).length ≤ 10000 := by
  rw [join_is]
  refine Nat.le_trans (len_join _) ?_
  have : ∀ l : List Int, ((l.map lineOf).map fun y => y.length + 1).sum ≤ 21 * l.length := by
    intro l
    induction l with
    | nil => simp
    | cons a r ih => simp only [List.map_cons, List.sum_cons, List.length_cons]; have := line_len a; omega
  have := this xs
  omega
theorem ws_page {xs : List Int} {i : Nat} {x st : Int} {ts : Tok} {u : Str → Option Value} (hx : xs[i]? = some x) (h : inv2 (xs.take i) ⟨st, ts, u⟩) : WsIs x (Txt.slice (Txt.join (Str.ofString "\n") (xs.map lineOf)) (some st) none) := by
  obtain ⟨hlt, hxe⟩ := List.getElem?_eq_some_iff.mp hx
  have hlt' : i < (xs.map lineOf).length := by simpa using hlt
  have hsum : (((xs.map lineOf).take i).map fun y => y.length + 1).sum = ((xs.take i).map fun x => (lineOf x).length + 1).sum := by
    rw [← List.map_take, List.map_map]; rfl
  have hd := drop_join i (xs.map lineOf) hlt'
  have hle := le_join i (xs.map lineOf) hlt'
  rw [hsum] at hd hle
  simp only [inv2] at h
  have hst : st.toNat = ((xs.take i).map fun x => (lineOf x).length + 1).sum := by omega
  have hdrop : (xs.map lineOf).drop i = lineOf x :: (xs.map lineOf).drop (i + 1) := by
    rw [List.drop_eq_getElem_cons hlt']; simp [hxe]
  obtain ⟨rest, hr, hr2⟩ := join_head (lineOf x) ((xs.map lineOf).drop (i + 1))
  rw [← hdrop, ← hd] at hr
  refine ws_line x _ rest hr2 ?_
  rw [join_is, slice_from_eq (b := (Str.join nl (xs.map lineOf)).length) (by omega) (by omega) rfl]
  show ((_ : List Nat).toArray).toList = _
  rw [hst, ← hr]
  show List.take _ _ = _
  rw [List.take_of_length_le]
  rw [List.length_drop, ← len_cl]
  omega

local macro_rules | `(tactic| walk_at "exec For Name BinOp cons nil") => `(tactic| (k_here; (rename Fr _ _ _ _ => lF'); (with_unfolding_all refine' For_invVF lF' ?k1 ?k2 ?_; (case k1 => exact rfl); (case k2 => exact rfl); k_whole)))
local macro_rules | `(tactic| walk_at "GO") => `(tactic| repeat' ((fail_if_success (with_reducible show wpAny _ _ (pyIter _) _ _ _)); (fail_if_success (with_reducible show wpAny _ _ (compareOp CmpOp.NotEq (Value.ref _) (Value.ref _)) _ _ _)); first | (k_unfold; (try dsimp only)) | (k_end; wrow_close) | walk1 | (dsimp only; walk1) | (leave1; walk_say "STEP leave1"; try dsimp only) | fail "no step"))
local macro_rules | `(tactic| walk_at "LB") => `(tactic| first | (with_reducible refine' tab_len (B := 64) ?_; decide) | (with_reducible refine' mul_len2 (N := 64) ?_ ?_; (exact Nat.le_of_ble_eq_true rfl); ((try k_fmods); omega)) | (with_reducible refine' app_len ?x9 ?y9; (case x9 => walk_at "LB"); (case y9 => walk_at "LB")))
local macro_rules | `(tactic| walk_at "LEN") => `(tactic| ((refine' len_le ?p9 ?q9); (case p9 => walk_at "LB"); (case q9 => decide)))
local macro_rules | `(tactic| walk_at "binaryOp Add str str") => `(tactic| (k_here; (with_reducible show wpAny _ _ (binaryOp Operator.Add (Value.str _ _) (Value.str _ _)) _ _ _); (refine add_str ?_ (add_fits ?h1 ?h2)); (case h1 => walk_at "LEN"); (case h2 => walk_at "LEN"); intro _ _))
local macro_rules | `(tactic| k_all) => `(tactic| assumption)
local macro_rules | `(tactic| walk_at "binaryOp Mult ref int") => `(tactic| (k_here; (with_reducible show wpAny _ _ (binaryOp Operator.Mult (Value.ref _) (Value.int _ _)) _ _ _); k_dflt (refine' tup_mul1 ?k1 ?k2 ?k3 ?k4 ?k5 ?_; (case k1 => k_asm); (case k2 => k_asm); (case k3 => k_mem); (case k4 => ((try k_fmods); omega)); (case k5 => ((try k_fmods); omega)); k_whole); intro D' h' F' N' l1; (replace l1 := leN l1); (try k_sweep)))
local macro_rules | `(tactic| walk_at "binaryOp Add ref ref") => `(tactic| (k_here; (with_reducible show wpAny _ _ (binaryOp Operator.Add (Value.ref _) (Value.ref _)) _ _ _); k_dflt (refine' tup_add ?k1 ?k2 ?k3 ?k4 ?k5 ?k6 ?_; (case k1 => k_asm); (case k2 => k_asm); (case k3 => k_mem); (case k4 => k_mem); (case k5 => (intro q; cases q)); (case k6 => ((try simp only [List.length_append, List.length_replicate, List.length_cons, List.length_nil]); (try k_fmods); omega)); k_whole); intro D' h' F' N' l1; (replace l1 := leN l1); (try k_sweep)))
def wantOf (n : Int) : Dat :=
  let a := n.fmod 4
  let b := (n.fdiv 4).fmod 3
  let c := (n.fdiv 12).fmod 4
  if b = 0 then .tuple [.int (a + c), .int 0, .tuple [.tuple [], .int (a + c)], .bool true]
  else if a = 0 then .tuple [.int (b + c), .int b, .tuple [.tuple [.int b], .int c], .bool true]
  else .tuple [.int (a + b + c), .int b, .tuple [.tuple (.int (b - 1) :: (List.replicate (a - 1).toNat (.int 0) ++ [.int 1])), .int c], .bool false]
structure S1 where
  lv : List Value
  wv : List Value
  le : Nat
  we : Nat
  tl : List (Addr × Obj)
  u : Str → Option Value
abbrev stored1 : List Str := [Str.ofString "a", Str.ofString "b", Str.ofString "c", Str.ofString "end"]
abbrev mp1 (m0 : Str → Option Value) (c : S1) (y : Str) : Option Value := if stored1.contains y then c.u y else m0 y
abbrev led1 (la wa D : Nat) (ws : List Value) (c : S1) : List (Addr × Obj) := (la, listOf c.lv.toArray c.le) :: (wa, listOf c.wv.toArray c.we) :: (D, listOf ws.toArray 0) :: c.tl
def inv1 (la wa D : Nat) (xs : List Int) (c : S1) : Prop := StrsAre c.lv (xs.map lineOf) ∧ DatAll c.tl c.wv (xs.map wantOf) ∧ ∀ p ∈ c.tl, la < p.1 ∧ wa < p.1 ∧ D < p.1
theorem allLt_last {d : Nat} {l : List (Addr × Obj)} {I : Nat} {o : Obj} (h : AllLt d (l ++ [(I, o)])) : I < d := by
  induction l with
  | nil => exact h.1
  | cons p r ih => exact ih h.2
theorem dat_rep {news : List (Addr × Obj)} (k : Nat) (i : Int) (t : Tok) : DatAll news (List.replicate k (Value.int i t)) (List.replicate k (Dat.int i)) := by
  induction k with
  | zero => exact .nil
  | succ k ih => exact .cons (.int _ _) ih
theorem off1 {z : Str} (h : stored1.contains z = false) : z ≠ Str.ofString "a" ∧ z ≠ Str.ofString "b" ∧ z ≠ Str.ofString "c" ∧ z ≠ Str.ofString "end" := by
  simp only [stored1, List.contains_cons, List.contains_nil, Bool.or_false, Bool.or_eq_false_iff, beq_eq_false_iff_ne, ne_eq] at h
  exact h
theorem end1 {h₀ h' : Heap} {L la wa D I T : Nat} {m' m0 : Str → Option Value} {lv wv ws : List Value} {le we tk : Nat} {tl news' new : List (Addr × Obj)} {u : Str → Option Value} {oI : Obj} {xs : List Int} {i : Nat} {n : Int} {t : Tok} {Q : Flow → Shared → Prop} {s₁ : Shared} {Ex : S1 → Prop}
    (hn : xs[i]? = some n) (hi : inv1 la wa D (xs.take i) ⟨lv, wv, le, we, tl, u⟩) (hoff : ∀ p ∈ led1 la wa D ws ⟨lv, wv, le, we, tl, u⟩, p.1 ≠ I)
    (Fz : Fr h₀ L h' m') (Nz : News h₀ L h' news')
    (hsub : ∀ p ∈ ((la, listOf (lv.toArray.push (.str (lineOf n) t)) (le + 1)) :: (wa, listOf (wv.toArray.push (.ref T)) (we + 1)) :: (D, listOf ws.toArray 0) :: (new ++ (tl ++ [(I, oI)]))), p ∈ news')
    (hdat : DatIn new (.ref T) (wantOf n)) (hnew : ∀ p ∈ new, la < p.1 ∧ wa < p.1 ∧ D < p.1 ∧ I < p.1)
    (hmap : ∀ z, z ≠ Str.ofString "x" → stored1.contains z = false → m' z = m0 z) :
    TurnEnd h₀ L (Str.ofString "x") (mp1 m0) (led1 la wa D ws) (inv1 la wa D (xs.take (i + 1))) Ex I oI Q s₁ .next { s₁ with heap := h', toks := tk } := by
  obtain ⟨h1, h2, h3⟩ := hi
  have hA : la ≠ I := hoff _ (.head _)
  have hB : wa ≠ I := hoff _ (.tail _ (.head _))
  have hC : D ≠ I := hoff _ (.tail _ (.tail _ (.head _)))
  refine ⟨⟨lv ++ [.str (lineOf n) t], wv ++ [.ref T], le + 1, we + 1, new ++ tl, m'⟩, h', tk, m', rfl, Fz, news_sub Nz ?_, ?_, ?_, ?_⟩
  · intro p hp
    refine hsub p ?_
    simpa [led1] using hp
  · intro z hz
    simp only [mp1]
    cases e : stored1.contains z with
    | true => simp
    | false => simp only [Bool.false_eq_true, if_false]; exact hmap z hz e
  · intro p hp
    simp only [led1, List.mem_cons, List.mem_append] at hp
    rcases hp with rfl | rfl | rfl | hp | hp
    · exact hA
    · exact hB
    · exact hC
    · exact Nat.ne_of_gt (hnew p hp).2.2.2
    · exact hoff _ (.tail _ (.tail _ (.tail _ hp)))
  · have hs : xs.take (i + 1) = xs.take i ++ [n] := by simp [List.take_add_one, hn]
    refine ⟨?_, ?_, ?_⟩
    · rw [hs, List.map_append]; exact h1.append' (.cons _ _ .nil)
    · rw [hs, List.map_append]
      exact DatAll.append (h2.mono fun p hp => List.mem_append.mpr (.inr hp)) (DatAll.one (hdat.mono fun p hp => List.mem_append.mpr (.inl hp)))
    · intro p hp
      rcases List.mem_append.mp hp with hp | hp
      · exact ⟨(hnew p hp).1, (hnew p hp).2.1, (hnew p hp).2.2.1⟩
      · exact h3 p hp
theorem end1' {h₀ h' : Heap} {L la wa D I : Nat} {m' m0 : Str → Option Value} {lv wv ws : List Value} {le we tk : Nat} {tl rest : List (Addr × Obj)} {p1 p2 p3 : Addr × Obj} {u : Str → Option Value} {oI : Obj} {xs : List Int} {i : Nat} {n : Int} {t : Tok} {Q : Flow → Shared → Prop} {s₁ : Shared} {Ex : S1 → Prop}
    (hn : xs[i]? = some n) (hi : inv1 la wa D (xs.take i) ⟨lv, wv, le, we, tl, u⟩) (hoff : ∀ p ∈ led1 la wa D ws ⟨lv, wv, le, we, tl, u⟩, p.1 ≠ I)
    (Fz : Fr h₀ L h' m') (Nz : News h₀ L h' (p1 :: p2 :: p3 :: rest))
    (hsub : ∀ p ∈ ((la, listOf (lv.toArray.push (.str (lineOf n) t)) (le + 1)) :: (wa, listOf (wv.toArray.push (.ref p1.1)) (we + 1)) :: (D, listOf ws.toArray 0) :: (tl ++ [(I, oI)])), p ∈ rest)
    (hdat : DatIn [p1, p2, p3] (.ref p1.1) (wantOf n)) (hnew : ∀ p ∈ [p1, p2, p3], la < p.1 ∧ wa < p.1 ∧ D < p.1 ∧ I < p.1)
    (hmap : ∀ z, z ≠ Str.ofString "x" → stored1.contains z = false → m' z = m0 z) :
    TurnEnd h₀ L (Str.ofString "x") (mp1 m0) (led1 la wa D ws) (inv1 la wa D (xs.take (i + 1))) Ex I oI Q s₁ .next { s₁ with heap := h', toks := tk } := by
  refine end1 (t := t) (new := [p1, p2, p3]) hn hi hoff Fz Nz ?_ hdat hnew hmap
  intro p hp
  simp only [List.mem_cons, List.mem_append, List.not_mem_nil, or_false] at hp ⊢
  have q := hsub p
  simp only [List.mem_cons, List.mem_append, List.not_mem_nil, or_false] at q
  grind
theorem wantOf_shape (n : Int) : wantOf n = .tuple [.int (wn n), .int (wt n), .tuple [.tuple ((wc n).map .int), .int (wl n)], .bool (wb n)] := by
  unfold wantOf wn wt wl wc wb
  by_cases hb : (n.fdiv 4).fmod 3 = 0
  · simp [hb]
  · by_cases ha : n.fmod 4 = 0
    · simp [hb, ha]
    · simp [hb, ha]
abbrev tupN (vs : Array Value) (n : Nat) : Obj := { cls := .type "tuple", data := .seq vs n }
theorem dat_ints {news : List (Addr × Obj)} : ∀ {vs : List Value} {cs : List Int}, DatAll news vs (cs.map .int) → IntsAre vs cs
  | _, [], h => by cases h; exact .nil
  | _, c :: cs, h => by
    cases h with
    | cons h r => cases h; exact .cons _ _ (dat_ints r)
theorem want_inv {news : List (Addr × Obj)} {v : Value} {a b l : Int} {cs : List Int} {q : Bool} (h : DatIn news v (.tuple [.int a, .int b, .tuple [.tuple (cs.map .int), .int l], .bool q])) :
    ∃ (ak bk ck : Addr) (nk nb nc : Nat) (t0 t1 t2 : Tok) (cv : List Value), v = .ref ak ∧ (ak, tupN #[.int a t0, .int b t1, .ref bk, .bool q] nk) ∈ news ∧ (bk, tupN #[.ref ck, .int l t2] nb) ∈ news ∧ (ck, tupN cv.toArray nc) ∈ news ∧ IntsAre cv cs := by
  cases h with
  | tuple hm r =>
    rename_i ak vs nk
    cases r with | cons h0 r => cases r with | cons h1 r => cases r with | cons h2 r => cases r with | cons h3 r =>
      cases r; cases h0; cases h1; cases h3
      cases h2 with
      | tuple hm2 r2 =>
        rename_i bk vs2 nb
        cases r2 with | cons g0 r2 => cases r2 with | cons g1 r2 =>
          cases r2; cases g1
          cases g0 with
          | tuple hm3 r3 => exact ⟨_, _, _, _, _, _, _, _, _, _, rfl, hm, hm2, hm3, dat_ints r3⟩
abbrev stored2 : List Str := [Str.ofString "raw", Str.ofString "w"]
abbrev mp2 (m0 : Str → Option Value) (c : S2) (y : Str) : Option Value := if y = Str.ofString "start" then some (.int c.st c.ts) else if stored2.contains y then c.u y else m0 y
theorem and3N {a b c d : Nat} (h : a < b ∧ b < c ∧ c < d) : a < b ∧ b < c ∧ c < d := h
structure S3 where
  u : Str → Option Value
abbrev stored3 : List Str := [Str.ofString "w"]
abbrev mp3 (m0 : Str → Option Value) (c : S3) (y : Str) : Option Value := if stored3.contains y then c.u y else m0 y
theorem lines_weight (xs : List Int) (h : xs.length ≤ 31) : ((xs.map lineOf).map (·.length)).sum + (xs.map lineOf).length ≤ 1048576 := by
  have : ∀ l : List Int, ((l.map lineOf).map (·.length)).sum ≤ 20 * l.length := by
    intro l
    induction l with
    | nil => simp
    | cons a r ih => simp only [List.map_cons, List.sum_cons, List.length_cons]; have := line_len a; omega
  have := this xs
  rw [List.length_map]
  omega
theorem len_take30 (ns : List Int) : (List.take 30 ns ++ [30]).length ≤ 31 := by
  simp only [List.length_append, List.length_take, List.length_singleton]; omega
local macro_rules | `(tactic| walk_at "call builtin:len") => `(tactic| (k_here; (with_reducible show wpAny _ _ (call (Value.builtin _) [Value.ref _]) _ _ _); k_dflt (refine' len_ledL ?k1 ?k2 ?k3 ?_; (case k1 => k_asm); (case k2 => k_mem); (case k3 => omega); k_whole); intro _ _))
local macro_rules | `(tactic| walk_at "subscriptTail Name Name ref int") => `(tactic| (k_here; (with_reducible show wpAny _ _ (subscriptTail _ _ (Value.ref _) (Value.int _ _)) _ _ _); k_dflt (refine' item_ledL ?k1 ?k2 ?k3 ?k4 ?k5 ?_ ?k6; (case k1 => k_asm); (case k2 => k_mem); (case k3 => omega); (case k4 => omega); (case k5 => assumption); (case k6 => with_unfolding_all rfl); k_whole)))
local macro_rules | `(tactic| walk_at "subscriptTail Name Slice str ref") => `(tactic| (k_here; (with_unfolding_all refine' slice_strN_sn_len ?F ?N ?_ ?hs ?ht ?hz; (case F => k_asm); (case N => k_asm); (case hs => with_unfolding_all rfl); (case ht => (intro _; with_unfolding_all rfl)); (case hz => exact Nat.le_trans (by assumption) (by decide)); k_whole); intro h' t' k' F' N' hslen'; (try k_sweep)))
local macro_rules | `(tactic| walk_at "call ref") => `(tactic| (k_here; (with_reducible show wpAny _ _ (call (Value.ref _) [Value.str _ _]) _ _ _); k_dflt (refine' ws12_eq ?hq ?B ?F ?X ?N ?T ?hk ?hl ?hd ?hu ?_; (case hq => assumption); (case B => k_asm); (case F => k_asm); (case X => k_asm); (case N => k_asm); (case T => k_asm); (case hk => exact rfl); (case hl => first | assumption | omega | exact Nat.le_trans (by assumption) (by assumption)); (case hd => ktr_room); (case hu => ktr_units); k_whole); intro x' dx' nr' ct' cv' _ _ _ _ _ _ _ _ h' _ F' N' hI' l1 l2; (try k_lt l1); (replace l2 := and3N l2); (try k_sweep)))
local macro_rules | `(tactic| walk_at "CUT") => `(tactic| (k_here; (with_reducible show wpAny _ _ (subscriptTail _ (PySem.Expr.Slice none _ none _) (Value.ref _) (Value.ref _)) _ _ _); k_dflt (refine' cut_led (n := _) ?F ?N ?hm ?hx ?hb ?hz ?_ ?hs; (case F => k_asm); (case N => k_asm); (case hm => k_mem); (case hx => decide); (case hb => ((simp only [List.length_cons, List.length_nil]); decide)); (case hz => ((simp only [List.length_cons, List.length_nil]); decide)); (case hs => with_unfolding_all rfl); k_whole); intro D' h' F' N' l1; (try k_lt l1); (try k_sweep)))
local macro_rules | `(tactic| walk_at "subscriptTail") => `(tactic| walk_at "CUT")
local macro_rules | `(tactic| walk_at "subscriptTail Name Slice ref ref") => `(tactic| walk_at "CUT")
local macro_rules | `(tactic| walk_at "compareOp NotEq ref ref") => `(tactic| (k_here; k_dflt (k_extra "cmpNE")))
local macro_rules | `(tactic| walk_at "call builtin:str.join") => `(tactic| (k_here; (with_reducible show wpAny _ _ (call (Value.builtin _) [Value.str _ _, Value.ref _]) _ _ _); (with_unfolding_all refine' join_listW ?l ?st ?sep ?w ?_; (case l => exact News.isList (by k_asm) (by k_mem)); (case st => assumption); (case sep => decide); (case w => assumption); k_whole); intro _ _))
theorem t12 : PySem.Challenge.rw_dn0186_12.Holds := by
  refine hd12 ?_
  (k_with "table" => skip)
  w_strict (
    k_go0
    (all_goals try k_fold)
    walk_at "GO"
    rename_i la _ _ _ _ wa _ l1 _ D0 _ _ _ _ _ l2 D1 _ l3 D ws _ F N hI l4
    rename (List Int) => ns
    have hl31 := len_take30 ns
    generalize hxs : List.take 30 ns ++ [30] = xs at hI hl31
    obtain ⟨m0, hm0, F2⟩ : ∃ m0 : Str → Option Value, m0 = _ ∧ Fr _ _ _ m0 := ⟨_, rfl, F⟩
    refine list_led (σ := S1) (mp1 m0) (led1 la wa D ws) (fun i c => inv1 la wa D (xs.take i) c) (fun c => inv1 la wa D xs c) ⟨[], [], 0, 0, [], m0⟩ rfl (.inr ⟨0, fun c => .tail _ (.tail _ (.head _))⟩) F2 N ?_ ?_ (by simp only [List.take_zero, inv1]; exact ⟨.nil, .nil, fun _ h => nomatch h⟩) ?_ ?_ ?_
    · intro p hp
      simp only [led1, List.mem_cons] at hp ⊢
      grind
    · intro z hz
      simp only [mp1]
      split <;> rfl
    · subst hm0
      rintro i v ⟨lv, wv, le, we, tl, u⟩ I oI h tk' hv hinv hoff F3 N3
      obtain ⟨hst, hda, htl⟩ := id hinv
      obtain ⟨n, t, hn, rfl⟩ : ∃ n t, xs[i]? = some n ∧ v = .int n t := by
        have hlt := (List.getElem?_eq_some_iff.mp hv).1
        rw [hI.length] at hlt
        obtain ⟨t, ht⟩ := hI.get i _ (List.getElem?_eq_getElem hlt)
        rw [hv] at ht
        exact ⟨_, t, List.getElem?_eq_getElem hlt, Option.some.inj ht⟩
      dsimp only [mp1, led1] at F3 N3 hst hda htl
      simp only [List.cons_append, List.nil_append] at N3
      have hi : i ≤ 31 := by
        have q := (List.getElem?_eq_some_iff.mp hn).1
        omega
      have hlv : lv.length ≤ 31 := by
        rw [hst.length, List.length_map, List.length_take]; omega
      have hwv : wv.length ≤ 31 := by
        rw [hda.length, List.length_map, List.length_take]; omega
      have hla : ∀ p ∈ tl ++ [(I, oI)], p.1 ≠ la := by
        intro p hp
        rcases List.mem_append.mp hp with hp | hp
        · exact Nat.ne_of_gt (htl p hp).1
        · rw [List.mem_singleton.mp hp]; exact fun e => hoff _ (.head _) e.symm
      have hwa : ∀ p ∈ tl ++ [(I, oI)], p.1 ≠ wa := by
        intro p hp
        rcases List.mem_append.mp hp with hp | hp
        · exact Nat.ne_of_gt (htl p hp).2.1
        · rw [List.mem_singleton.mp hp]; exact fun e => hoff _ (.tail _ (.head _)) e.symm
      replace l1 := ltN l1
      (try k_fold)
      walk_at "GO"
      all_goals (rename Fr _ _ _ _ => Fz; rename News _ _ _ _ => Nz)
      · rename (_ ∧ _ ∧ _ ∧ AllLt _ (_ ++ [_])) => q9
        have qI := allLt_last q9.2.2.2
        refine' end1' hn hinv hoff Fz Nz ?hs ?hd ?hw ?hm
        case hs =>
          refine List.forall_mem_cons.mpr ⟨?_, List.forall_mem_cons.mpr ⟨?_, List.forall_mem_cons.mpr ⟨?_, fun p hp => ?_⟩⟩⟩
          · exact List.Mem.tail _ (List.Mem.head _)
          · exact List.Mem.tail _ (List.Mem.tail _ (List.Mem.head _))
          · exact List.Mem.tail _ (List.Mem.tail _ (List.Mem.tail _ (List.Mem.head _)))
          · exact List.Mem.tail _ (List.Mem.tail _ (List.Mem.tail _ (List.Mem.tail _ (hp))))
        case hd =>
          rename (n.fdiv 4).fmod 3 = 0 => hb
          simp only [wantOf, hb, if_true]
          exact .tuple (.head _) (.cons (.int _ _) (.cons (.int _ _) (.cons (.tuple (.tail _ (.head _)) (.cons (.tuple (.tail _ (.tail _ (.head _))) .nil) (.cons (.int _ _) .nil))) (.cons (.bool _) .nil))))
        case hw =>
          refine List.forall_mem_cons.mpr ⟨⟨?_, ?_, ?_, ?_⟩, List.forall_mem_cons.mpr ⟨⟨?_, ?_, ?_, ?_⟩, List.forall_mem_cons.mpr ⟨⟨?_, ?_, ?_, ?_⟩, List.forall_mem_nil _⟩⟩⟩ <;> (refine ltN ?_; dsimp only; omega)
        case hm =>
          intro z hz hs
          obtain ⟨z1, z2, z3, z4⟩ := off1 hs
          simp only [z1, z2, z3, z4, hz, hs, if_false, Bool.false_eq_true]
      · rename (_ ∧ _ ∧ _ ∧ AllLt _ (_ ++ [_])) => q9
        have qI := allLt_last q9.2.2.2
        refine' end1' hn hinv hoff Fz Nz ?hs ?hd ?hw ?hm
        case hs =>
          refine List.forall_mem_cons.mpr ⟨?_, List.forall_mem_cons.mpr ⟨?_, List.forall_mem_cons.mpr ⟨?_, fun p hp => ?_⟩⟩⟩
          · exact List.Mem.tail _ (List.Mem.head _)
          · exact List.Mem.tail _ (List.Mem.tail _ (List.Mem.head _))
          · exact List.Mem.tail _ (List.Mem.tail _ (List.Mem.tail _ (List.Mem.head _)))
          · exact List.Mem.tail _ (List.Mem.tail _ (List.Mem.tail _ (List.Mem.tail _ (hp))))
        case hd =>
          rename ¬ (n.fdiv 4).fmod 3 = 0 => hb
          rename n.fmod 4 = 0 => ha
          simp only [wantOf, hb, ha, if_true, if_false]
          exact .tuple (.head _) (.cons (.int _ _) (.cons (.int _ _) (.cons (.tuple (.tail _ (.head _)) (.cons (.tuple (.tail _ (.tail _ (.head _))) (.cons (.int _ _) .nil)) (.cons (.int _ _) .nil))) (.cons (.bool _) .nil))))
        case hw =>
          refine List.forall_mem_cons.mpr ⟨⟨?_, ?_, ?_, ?_⟩, List.forall_mem_cons.mpr ⟨⟨?_, ?_, ?_, ?_⟩, List.forall_mem_cons.mpr ⟨⟨?_, ?_, ?_, ?_⟩, List.forall_mem_nil _⟩⟩⟩ <;> (refine ltN ?_; dsimp only; omega)
        case hm =>
          intro z hz hs
          obtain ⟨z1, z2, z3, z4⟩ := off1 hs
          simp only [z1, z2, z3, z4, hz, hs, if_false, Bool.false_eq_true]
      · rename (_ ∧ _ ∧ _ ∧ AllLt _ (_ ++ [_])) => q9
        have qI := allLt_last q9.2.2.2
        refine' end1' hn hinv hoff Fz Nz ?hs ?hd ?hw ?hm
        case hs =>
          refine List.forall_mem_cons.mpr ⟨?_, List.forall_mem_cons.mpr ⟨?_, List.forall_mem_cons.mpr ⟨?_, fun p hp => ?_⟩⟩⟩
          · exact List.Mem.tail _ (List.Mem.tail _ (List.Mem.tail _ (List.Mem.tail _ (List.Mem.tail _ (List.Mem.tail _ (List.Mem.head _))))))
          · exact List.Mem.tail _ (List.Mem.tail _ (List.Mem.tail _ (List.Mem.tail _ (List.Mem.tail _ (List.Mem.tail _ (List.Mem.tail _ (List.Mem.head _)))))))
          · exact List.Mem.tail _ (List.Mem.tail _ (List.Mem.tail _ (List.Mem.tail _ (List.Mem.tail _ (List.Mem.tail _ (List.Mem.tail _ (List.Mem.tail _ (List.Mem.head _))))))))
          · exact List.Mem.tail _ (List.Mem.tail _ (List.Mem.tail _ (List.Mem.tail _ (List.Mem.tail _ (List.Mem.tail _ (List.Mem.tail _ (List.Mem.tail _ (List.Mem.tail _ (hp)))))))))
        case hd =>
          rename ¬ (n.fdiv 4).fmod 3 = 0 => hb
          rename ¬ n.fmod 4 = 0 => ha
          simp only [wantOf, hb, ha, if_false]
          exact .tuple (.head _) (.cons (.int _ _) (.cons (.int _ _) (.cons (.tuple (.tail _ (.head _)) (.cons (.tuple (.tail _ (.tail _ (.head _))) (.cons (.int _ _) (DatAll.append (dat_rep _ _ _) (.cons (.int _ _) .nil)))) (.cons (.int _ _) .nil))) (.cons (.bool _) .nil))))
        case hw =>
          refine List.forall_mem_cons.mpr ⟨⟨?_, ?_, ?_, ?_⟩, List.forall_mem_cons.mpr ⟨⟨?_, ?_, ?_, ?_⟩, List.forall_mem_cons.mpr ⟨⟨?_, ?_, ?_, ?_⟩, List.forall_mem_nil _⟩⟩⟩ <;> (refine ltN ?_; dsimp only; omega)
        case hm =>
          intro z hz hs
          obtain ⟨z1, z2, z3, z4⟩ := off1 hs
          simp only [z1, z2, z3, z4, hz, hs, if_false, Bool.false_eq_true]
    · intro c hc
      have e : ws.length = xs.length := hI.length
      rw [e, List.take_length] at hc
      exact hc
    · subst hm0
      rintro ⟨lv, wv, le, we, tl, u⟩ uu h tk' hinv F3 N3
      obtain ⟨hst, hda, htl⟩ := id hinv
      dsimp only [mp1, led1] at F3 N3 hst hda htl
      replace l1 := ltN l1
      have hwt := lines_weight _ hl31
      have hlv : lv.length = xs.length := by rw [hst.length, List.length_map]
      (try k_fold)
      walk_at "GO"
      rename_i hr F4 N4 _
      obtain ⟨mr, ts0, hmr, F5⟩ : ∃ (mr : Str → Option Value) (ts0 : Tok), mr = _ ∧ Fr _ _ _ (fun y => if y = Str.ofString "start" then some (.int 0 ts0) else mr y) := ⟨_, _, rfl, F4⟩
      refine range_led (σ := S2) (n := xs.length) (mp2 mr) (fun _ => (la, listOf lv.toArray le) :: (wa, listOf wv.toArray we) :: tl) (fun i c => inv2 (xs.take i) c) (fun _ => True) ⟨0, ts0, mr⟩ rfl hr ?_ ?_ F5 N4 ?_ ?_ ?_ ?_ ?_ ?_
      · rw [hlv]; exact small_one (by omega) (by omega) (by omega) (by omega)
      · rw [hlv]; exact rsize _
      · intro p hp
        simp only [List.mem_cons] at hp ⊢
        grind
      · intro z hz
        simp only [mp2]
        by_cases h1 : z = Str.ofString "start"
        · simp only [h1, if_true]
        · simp only [h1, if_false]; split <;> rfl
      · simp [inv2]
      · subst hmr
        rintro i t ⟨st, ts, u⟩ I oI h tk' hi hinv hoff F6 N6
        have hx : xs[i]? = some xs[i] := List.getElem?_eq_getElem hi
        generalize xs[i] = x at hx
        obtain ⟨tl0, hlk⟩ := hst.get i (lineOf x) (by rw [List.getElem?_map, hx]; rfl)
        obtain ⟨v, hwk, hdx⟩ := hda.get (k := i) (by rw [List.length_map]; exact hi)
        have hdx' : DatIn tl v (wantOf x) := by
          have e : (xs.map wantOf)[i]'(by rw [List.length_map]; exact hi) = wantOf x := by
            have := hx; simp only [List.getElem_map]; congr 1; exact Option.some.inj ((List.getElem?_eq_getElem hi).symm.trans hx)
          rw [← e]; exact hdx
        rw [wantOf_shape] at hdx'
        obtain ⟨ak, bk, ck, nk, nb, nc, t0, t1, t2, cv, rfl, m1, m2, m3, hcv⟩ := want_inv hdx'
        have ek : (0 + (i : Int)).toNat = i := by omega
        rw [← ek] at hlk hwk
        have N7 : News _ _ _ ((ak, tupN #[.int (wn x) t0, .int (wt x) t1, .ref bk, .bool (wb x)] nk) :: (bk, tupN #[.ref ck, .int (wl x) t2] nb) :: (ck, tupN cv.toArray nc) :: (la, listOf lv.toArray le) :: (wa, listOf wv.toArray we) :: (tl ++ [(I, oI)])) := news_sub N6 (by
          intro p hp
          simp only [List.cons_append, List.mem_cons, List.mem_append] at hp ⊢
          rcases hp with rfl | rfl | rfl | hp | hp | hp
          · exact .inr (.inr (.inl m1))
          · exact .inr (.inr (.inl m2))
          · exact .inr (.inr (.inl m3))
          · exact .inl hp
          · exact .inr (.inl hp)
          · exact .inr (.inr hp))
        clear N6
        dsimp only [mp2] at F6
        have hpg := page_len xs hl31
        have hll : (lineOf x).length ≤ 10000 := Nat.le_trans (line_len x) (by decide)
        (try k_fold)
        walk_at "GO"
        rename_i _ tsl _ hsl lr _ F8' N8 l8
        obtain ⟨m2, hm2, F8⟩ : ∃ m2 : Str → Option Value, m2 = _ ∧ Fr _ _ _ m2 := ⟨_, rfl, F8'⟩
        obtain ⟨LED, hLED, N9⟩ : ∃ LED : List (Addr × Obj), LED = _ ∧ News _ _ _ LED := ⟨_, rfl, N8⟩
        have hR1 : WsIs x (lineOf x) := ws_line x (lineOf x) [] (.inl rfl) (by simp)
        have hR2 : WsIs x (Txt.slice (Txt.join (Str.ofString "\n") (xs.map lineOf)) (some st) none) := ws_page hx hinv
        refine list_led (σ := S3) (vs := [.str (lineOf x) tl0, .str (Txt.slice (Txt.join (Str.ofString "\n") (xs.map lineOf)) (some st) none) tsl]) (mp3 m2) (fun _ => LED) (fun _ _ => True) (fun _ => True) ⟨m2⟩ rfl (.inr ⟨0, fun _ => by rw [hLED]; exact .head _⟩) F8 N9 ?_ ?_ trivial ?_ ?_ ?_
        · exact fun p hp => hp
        · intro z hz
          simp only [mp3]
          split <;> rfl
        · subst hm2 hLED
          rintro j v ⟨u3⟩ I2 oI2 h2 tk2 hv _ hoff2 F9 N10
          obtain ⟨r, tr, rfl, hr, hrl⟩ : ∃ r tr, v = .str r tr ∧ WsIs x r ∧ r.length ≤ 10000 := by
            match j, hv with
            | 0, hv => exact ⟨_, _, (Option.some.inj hv).symm, hR1, hll⟩
            | 1, hv => exact ⟨_, _, (Option.some.inj hv).symm, hR2, Nat.le_trans hsl hpg⟩
          dsimp only [mp3] at F9
          simp only [List.cons_append] at N10
          (k_with "cmpNE" => (refine' ne_led_same (d := .tuple [.int (wn x), .int (wt x), .tuple [.tuple ((wc x).map .int), .int (wl x)]]) ?cN ?cA ?cB ?cK ?cU ?_; (case cN => k_asm); (case cA => exact DatIn.tuple (by k_mem) (.cons (.int _ _) (.cons (.int _ _) (.cons (DatIn.tuple (by k_mem) (.cons (DatIn.tuple (by k_mem) (datAll_ints (by assumption))) (.cons (.int _ _) .nil))) .nil)))); (case cB => exact DatIn.tuple (by k_mem) (.cons (.int _ _) (.cons (.int _ _) (.cons (DatIn.tuple (by k_mem) (.cons (DatIn.tuple (by k_mem) (datAll_ints (by assumption))) (.cons (.int _ _) .nil))) .nil)))); (case cK => simp [kqdOk]); (case cU => ktr_units)))
          (try k_fold)
          walk_at "GO"
          all_goals (try (exfalso; rename (_ != _) = true => q; simp at q; done))
          · refine' ne_led_same (d := .tuple [.int (wn x), .int (wt x), .tuple [.tuple ((wc x).map .int), .int (wl x)]]) ?cN ?cA ?cB ?cK ?cU ?_
            (case cN => k_asm)
            (case cK => simp [kqdOk])
            (case cU => ktr_units)
            (case cA => exact DatIn.tuple (by k_mem) (.cons (.int _ _) (.cons (.int _ _) (.cons (DatIn.tuple (by k_mem) (.cons (DatIn.tuple (by k_mem) (datAll_ints (by assumption))) (.cons (.int _ _) .nil))) .nil))))
            (case cB => exact DatIn.tuple (by k_mem) (.cons (.int _ _) (.cons (.int _ _) (.cons (DatIn.tuple (by k_mem) (.cons (DatIn.tuple (by k_mem) (datAll_ints (by assumption))) (.cons (.int _ _) .nil))) .nil))))
            (try dsimp only)
            walk_at "GO"
            all_goals (try (exfalso; rename (_ != _) = true => q; simp at q; done))
            rename Fr _ _ _ _ => Fz
            rename News _ _ _ _ => Nz
            refine' ⟨⟨_⟩, _, _, _, rfl, Fz, news_sub Nz ?hs, ?hm, hoff2, trivial⟩
            case hs =>
              intro p hp
              simp only [List.cons_append] at hp
              exact .tail _ (.tail _ (.tail _ (.tail _ (.tail _ (.tail _ hp)))))
            case hm =>
              intro z hz
              simp only [mp3]
              cases e : stored3.contains z with
              | true => rfl
              | false =>
                have hw : z ≠ Str.ofString "w" := by
                  simpa [stored3] using e
                simp only [hw, hz, e, if_false, Bool.false_eq_true]
        · intro _ _; trivial
        · subst hm2 hLED
          rintro ⟨u3⟩ uu3 h2 tk2 _ F9 N10
          dsimp only [mp3] at F9
          (try k_fold)
          k_steps
          rename Fr _ _ _ _ => Fz
          rename News _ _ _ _ => Nz
          refine' ⟨⟨st + ((lineOf x).length : Int) + 1, ?_, _⟩, _, _, _, rfl, Fz, news_sub Nz ?hs, ?hm, hoff, ?hi⟩
          case hs =>
            intro p hp
            simp only [List.cons_append] at hp
            exact .tail _ (.tail _ (.tail _ (.tail _ hp)))
          case hm =>
            intro z hz
            by_cases h1 : z = Str.ofString "start"
            · subst h1; rfl
            · simp only [mp2, h1, if_false]
              cases e : stored2.contains z with
              | true => rfl
              | false =>
                have hw : z ≠ Str.ofString "raw" ∧ z ≠ Str.ofString "w" := by
                  simpa [stored2] using e
                have hs3 : stored3.contains z = false := by simp [stored3, hw.2]
                simp only [hw.1, hz, hs3, if_false, Bool.false_eq_true]
          case hi =>
            have hs : xs.take (i + 1) = xs.take i ++ [x] := by simp [List.take_add_one, hx]
            simp only [inv2] at hinv ⊢
            rw [hs, List.map_append, List.sum_append, hinv]
            simp
            omega
      · intro _ _; trivial
      · subst hmr
        rintro c u' h tk' _ F6 N6
        dsimp only [mp2] at F6
        (try k_fold)
        k_steps
    )
end Mine
theorem PySem.Challenge.cw_dn0186_12_holds : PySem.Challenge.rw_dn0186_12.Holds :=
  Mine.t12
