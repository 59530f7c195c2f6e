import PyProof.Rows.All
import Wide.All
import OpenK.AllK
import Wide.FinOn
import PySem.Challenge.RW_dn0186_04
open PySem PySem.W PyProof.Rows
set_option Elab.async false
set_option maxRecDepth 100000
set_option maxHeartbeats 8000000
set_option linter.unusedSimpArgs false
set_option linter.unusedVariables false
set_option compiler.extract_closed false
namespace Mine
open_top hd04 for PySem.Challenge.rw_dn0186_04

section
open PySem PySem.W PyProof.Rows PySem.Calls PySem.Spec


/-! Growth: a caller's facts behind a pure callee. -/
theorem fr_stays {h₀ h h' : Heap} {L : Addr} {m : Str → Option Value} (F : Fr h₀ L h m) (st : h.StaysIn h') : Fr h₀ L h' m :=
  ⟨F.ns.at' fun o e => st _ o e, fun b o e => st b o (F.keep b o e), F.above⟩
theorem news_stays {h₀ h h' : Heap} {L : Addr} {news : List (Addr × Obj)} (N : News h₀ L h news) (st : h.StaysIn h') : News h₀ L h' news :=
  fun p hp => ⟨st _ _ (N p hp).1, (N p hp).2⟩
theorem news_sub {h₀ h : Heap} {L : Addr} {l l' : List (Addr × Obj)} (N : News h₀ L h l) (hs : ∀ p ∈ l', p ∈ l) : News h₀ L h l' := fun p hp => N p (hs p hp)
theorem news_app {h₀ h : Heap} {L : Addr} {l l' : List (Addr × Obj)} (N : News h₀ L h l) (N' : News h₀ L h l') : News h₀ L h (l ++ l') :=
  fun p hp => (List.mem_append.mp hp).elim (N p) (N' p)
section
variable {prog : Program} {w : World} {A A₀ : Around} {E : Value → Shared → Prop} {s : Shared} {K : Frag} {C L : Addr} {h₀ base : Heap} {m mg mb : Str → Option Value} {news : List (Addr × Obj)} {p : Program} {loose : List Str} {mean : ExcName → Option Value} {Q : Value → Shared → Prop}

/-- A class is called: the new object lies just behind the heap as it was. -/
theorem call_clsH {pos : List Value} {kw : List (Str × Value)} {fI : Addr} (F : Fr h₀ L s.heap m) (X₀ : K.In h₀) (hm : makesIn K C = true) (hi : findIn K (.ref C) "__init__" = some (some (.ref fI))) (hf : isFn K (.ref fI) = true)
    (h : ∀ x dx h', s.heap.StaysIn h' → s.heap.objs.size ≤ dx → dx < x → Fr h₀ L h' m → News h₀ L h' [(x, instObj C dx), (dx, dictOf [] 0)] →
      codeAny (model prog w) (A.under (.builtin "type.__call__" ⟨.ref C :: pos, kw⟩)) (.call (.ref fI) ⟨.ref x :: pos, kw⟩) (InitBack x fun r s' => match r with | .ok (.ret v) => Q v s' | .ok _ => False | .error e => E e s') { s with heap := h' }) :
    wpAny (model prog w) A (call (.ref C) pos kw) Q E s := by
  have X := X₀.keeps F.keep
  refine wpAny_call ?_
  obtain ⟨hh, g, d, t, os⟩ := s
  refine make_core (makes_of X hm) (looks_findIn X hi) (fun self => bind_fn X self (beq_iff_eq.mp hf)) (.inl rfl)
    (h _ hh.objs.size _ (fun b o e => Heap.get?_push_of_some _ (Heap.get?_push_of_some _ e)) (Nat.le_refl _) (Nat.lt_succ_self _) ((F.push _).push _) ?_)
  have := ((News.nil (h₀ := h₀) (h := hh) (L := L)).push F emptyDict).push (F.push _) (instObj C hh.objs.size)
  rwa [Heap.size_push] at this

/-- A def is called: all that the ledger does not name stands behind the callee's frame, as it was. -/
theorem code_defH {env : Env} {outer : List Env} {R : Result → Shared → Prop} {name qual : Str} {params : Arguments} {body : List Stmt} {scope : Scope} {dV kV doc pm cdv ct oc : Value} {an od : Option Addr} {osl : Array (Option Value)} {f : Addr} {args : Args} {binds : List (Str × Value)}
    (B : Below A₀ base outer h₀) (F : Fr h₀ L s.heap m) (X₀ : K.In h₀) (N : News h₀ L s.heap news) (T : Top p loose mean mg mb h₀) (hA : A.frames = some (env :: outer)) (hf : env.frame = some L) (hke : env.scope.kind = .function)
    (ho : K.lookup f = some ⟨oc, od, .func (fnOf name qual params body scope dV kV doc pm an cdv ct), osl⟩) (hcd : codeIn K cdv qual = true) (hroom : A.depth < recursionLimit)
    (hbind : BindsTo s (fnOf name qual params body scope dV kV doc pm an cdv ct) args binds) (hloc : ∀ y ∈ binds, scope.names.lookup y.1 = some .local)
    (h : ∀ g L' h₁, (∀ b o, s.heap.get? b = some o → b ∉ news.map (·.1) → g.get? b = some o) → s.heap.objs.size ≤ L' → Fr h₀ L g m → Fr g L' h₁ (fun y => binds.reverse.lookup y) → News g L' h₁ news → Below A base (env :: outer) g → K.In g → Top p loose mean mg mb g →
      wpAny (model prog w) (A.deeper (envOf qual scope L' f cdv)) (execs body (envOf qual scope L' f cdv))
        (fun fl s' => LeaveK h₀ L m g R (match fl with | .ret v => v | _ => .none) s')
        (fun e s' => wpAny (model prog w) (A.deeper (envOf qual scope L' f cdv)) (leaving (envOf qual scope L' f cdv) e) (fun _ s'' => R (.error e) s'') (fun e' s'' => R (.error e') s'') s')
        { s with heap := h₁, toks := s.toks + binds.length })
    (hco : scope.isCoroutine = false) (hgen : scope.isGenerator = false) (hk : scope.kind = .function)
    (hcell : ∀ x ∈ scope.names, x.2 ≠ .cell) : codeAny (model prog w) A (.call (.ref f) args) R s := by
  obtain ⟨FG, BG, st, lv⟩ := groundX (R := R) B F N hA hf hke
  refine codeAny_call_def (fd := fnOf name qual params body scope dV kV doc pm an cdv ct) (body := body) (binds := binds) hroom ((X₀.keeps F.keep) _ _ ho) rfl (T.nolimit.keeps F.keep) (codeRec_of (X₀.keeps F.keep) hcd) rfl hbind hcell hloc (fun h₁ hns hk₁ => ?_) hco hgen hk
  exact wpAny_mono (h _ s.heap.objs.size h₁ (fun b o e hb => hideAll_get _ e hb) (Nat.le_refl _) FG ⟨hns, fun b o e => hk₁ b o (of_hideAll _ e), Nat.le_of_eq (hideAll_size _ _)⟩
    (fun p hp => ⟨hk₁ _ _ (N p hp).1, Nat.ne_of_lt (Heap.lt_size (N p hp).1), hideAll_none _ (List.mem_map_of_mem hp)⟩) BG (X₀.keeps st) (T.keeps st)) (fun fl s' hl => lv _ _ hl) fun _ _ y => y
end

/-! Loops by an invariant over a state of one's own: the frame's map and the ledger are functions of it. -/
section
variable {prog : Program} {w : World} {A : Around} {E : Value → Shared → Prop} {s : Shared} {env : Env} {h₀ : Heap} {x : Str} {body : List Stmt} {Q : Flow → Shared → Prop}

/-- How a turn ends: it goes on with the next state, or breaks off with a state that Ex tells, or returns. -/
def TurnEnd {σ : Type} (h₀ : Heap) (L : Addr) (x : Str) (mp : σ → Str → Option Value) (led : σ → List (Addr × Obj)) (Inv Ex : σ → Prop) (I : Addr) (oI : Obj) (Q : Flow → Shared → Prop) (s₁ : Shared) (f : Flow) (s₂ : Shared) : Prop :=
  match f with
  | .ret v => Q (.ret v) s₂
  | .brk => ∃ (c : σ) (h' : Heap) (tk : Nat) (m' : Str → Option Value), s₂ = { s₁ with heap := h', toks := tk } ∧ Fr h₀ L h' m' ∧ News h₀ L h' (led c) ∧ (∀ z, z ≠ x → m' z = mp c z) ∧ Ex c
  | _ => ∃ (c : σ) (h' : Heap) (tk : Nat) (m' : Str → Option Value), s₂ = { s₁ with heap := h', toks := tk } ∧ Fr h₀ L h' m' ∧ News h₀ L h' (led c ++ [(I, oI)]) ∧ (∀ z, z ≠ x → m' z = mp c z) ∧ (∀ p ∈ led c, p.1 ≠ I) ∧ Inv c

theorem map_off {mp : Str → Option Value} {m₁ : Str → Option Value} {v : Value} (h : ∀ z, z ≠ x → m₁ z = mp z) : (fun y => if y = x then some v else m₁ y) = fun y => if y = x then some v else mp y := by
  funext y
  by_cases hy : y = x
  · simp [hy]
  · simp only [if_neg hy]; exact h y hy
theorem map_off' {mp : Str → Option Value} {m₁ : Str → Option Value} (h : ∀ z, z ≠ x → m₁ z = mp z) : m₁ = fun y => if y = x then m₁ y else mp y := by
  funext y
  by_cases hy : y = x
  · simp [hy]
  · simp only [if_neg hy]; exact h y hy

theorem loop_led {σ : Type} {I : Addr} {fp : List Addr} {n : Nat} {P : Nat → Value → Prop} {St : Nat → Heap → Prop} {m₀ : Str → Option Value}
    (mp : σ → Str → Option Value) (led : σ → List (Addr × Obj)) (Inv : Nat → σ → Prop) (Ex : σ → Prop) (c₀ : σ)
    (W : Walks prog w A I fp [I] n P St) (hit : ∀ i h, St i h → ∃ o, h.get? I = some o) (hfp : ∀ b ∈ fp, b = I ∨ (∃ o, h₀.get? b = some o) ∨ ∃ o, ∀ c, (b, o) ∈ led c)
    (hLf : env.locals ∉ fp) (hI0 : h₀.get? I = none) (hst : St 0 s.heap) (F : Fr h₀ env.locals s.heap m₀) (N : News h₀ env.locals s.heap (led c₀))
    (hoff : ∀ p ∈ led c₀, p.1 ≠ I) (hm : ∀ z, z ≠ x → m₀ z = mp c₀ z) (hi : Inv 0 c₀)
    (turn : ∀ i v c oI h tk, i < n → P i v → Inv i c → (∀ p ∈ led c, p.1 ≠ I) → Fr h₀ env.locals h (fun y => if y = x then some v else mp c y) → News h₀ env.locals h (led c ++ [(I, oI)]) →
      wpAny (model prog w) A (execs body env) (TurnEnd h₀ env.locals x mp led (Inv (i + 1)) Ex I oI Q { s with heap := h, toks := tk }) E { s with heap := h, toks := tk })
    (ends : ∀ c, Inv n c → Ex c)
    (done : ∀ c (u : Str → Option Value) h tk, Ex c → Fr h₀ env.locals h (fun y => if y = x then u y else mp c y) → News h₀ env.locals h (led c) → Q .next { s with heap := h, toks := tk }) :
    LoopAtV prog w A h₀ env x body Q E (.ref I) s := by
  have hIfp : I ∈ fp := W.sub I (.head _)
  let J : Nat → (Str → Option Value) → List (Addr × Obj) → Prop := fun i m nx => ∃ c, nx = led c ∧ (∀ z, z ≠ x → m z = mp c z) ∧ Inv i c
  refine ⟨I, fp, [I], n, P, St, m₀, led c₀, J, rfl, W, hLf, ?_, ?_, hst, F, N, ⟨c₀, rfl, hm, hi⟩, ?_, ?_⟩
  · intro b hb; rw [List.mem_singleton.mp hb]; exact hI0
  · intro p hp hb; exact hoff p hp (List.mem_singleton.mp hb)
  · rintro i v m₁ news₁ s₁ own ⟨h, tk, rfl⟩ hin hP ⟨c, rfl, hm₁, hinv⟩ hwr hown hget hall hst' F₁ N₁
    have hoff' : ∀ p ∈ led c, p.1 ≠ I := fun p hp e => hwr p hp (List.mem_singleton.mpr e)
    obtain ⟨oI, e⟩ := hit _ _ hst'
    have hIown : (I, oI) ∈ own := hall I hIfp hI0 oI e
    have N₂ : News h₀ env.locals h (led c ++ [(I, oI)]) := by
      intro p hp
      rcases List.mem_append.mp hp with hp | hp
      · exact N₁ p (List.mem_append.mpr (.inr hp))
      · rw [List.mem_singleton.mp hp]; exact N₁ _ (List.mem_append.mpr (.inl hIown))
    rw [map_off hm₁] at F₁
    refine wpAny_mono (turn i v c oI h tk hin hP hinv hoff' F₁ N₂) (fun f s₂ q => ?_) fun _ _ e => e
    have fin : (∃ (c : σ) (h' : Heap) (tk' : Nat) (m' : Str → Option Value), s₂ = { s with heap := h', toks := tk' } ∧ Fr h₀ env.locals h' m' ∧ News h₀ env.locals h' (led c ++ [(I, oI)]) ∧ (∀ z, z ≠ x → m' z = mp c z) ∧ (∀ p ∈ led c, p.1 ≠ I) ∧ Inv (i + 1) c) →
        LoopStepU h₀ env.locals [I] own (J (i + 1)) { s with heap := h, toks := tk } .next s₂ := by
      rintro ⟨c', h', tk', m', rfl, F', N', hm', hoff'', hinv'⟩
      refine ⟨rfl, h', tk', m', led c', rfl, F', ?_, fun p hp hq => hoff'' p hp (List.mem_singleton.mp hq), ⟨c', rfl, hm', hinv'⟩⟩
      intro p hp
      rcases List.mem_append.mp hp with hp | hp
      · have hp0 := (N₁ p (List.mem_append.mpr (.inl hp))).2.2
        have hpg := (N₁ p (List.mem_append.mpr (.inl hp))).1
        rcases hfp p.1 (hown p hp) with e1 | ⟨o, e1⟩ | ⟨o, e1⟩
        · obtain ⟨pa, po⟩ := p
          simp only at e1 hpg
          subst e1
          rw [e] at hpg
          cases hpg
          exact N' _ (List.mem_append.mpr (.inr (.head _)))
        · rw [e1] at hp0; cases hp0
        · have q1 := (N₂ _ (List.mem_append.mpr (.inl (e1 c)))).1
          obtain ⟨pa, po⟩ := p
          simp only at e1 hpg q1
          rw [q1] at hpg
          cases hpg
          exact N' _ (List.mem_append.mpr (.inl (e1 c')))
      · exact N' p (List.mem_append.mpr (.inl hp))
    cases f with
    | ret v => exact .ret q
    | brk =>
      obtain ⟨c', h', tk', m', rfl, F', N', hm', hex⟩ := q
      exact .brk (done c' m' h' tk' hex (by rw [← map_off' hm']; exact F') N')
    | next => exact .next (fin q)
    | cont => exact .cont (fin q)
  · rintro h' tk m' news' F' N' _ ⟨c, rfl, hm', hinv⟩
    exact done c m' h' tk (ends c hinv) (by rw [← map_off' hm']; exact F') N'

theorem led_push {h : Heap} {L : Addr} {news : List (Addr × Obj)} (N : News h₀ L h news) (o : Obj) : News h₀ L (h.push o) news := fun p hp => ⟨Heap.get?_push_of_some _ (N p hp).1, (N p hp).2⟩
theorem led_off {h : Heap} {L : Addr} {news : List (Addr × Obj)} (N : News h₀ L h news) : ∀ p ∈ news, p.1 ≠ h.objs.size := fun p hp e => absurd (Heap.lt_size (N p hp).1) (e ▸ Nat.lt_irrefl _)

theorem text_led {σ : Type} {xt : Str} {tx : Tok} {m₀ : Str → Option Value} {news : List (Addr × Obj)}
    (mp : σ → Str → Option Value) (led : σ → List (Addr × Obj)) (Inv : List Nat → σ → Prop) (Ex : σ → Prop) (c₀ : σ)
    (hh : A.handled = none) (F : Fr h₀ env.locals s.heap m₀) (N : News h₀ env.locals s.heap news) (hl : ∀ p ∈ led c₀, p ∈ news) (hm : ∀ z, z ≠ x → m₀ z = mp c₀ z) (hi : Inv [] c₀)
    (turn : ∀ pre n post t c I oI h tk, xt.cps.toList = pre ++ n :: post → Inv pre c → (∀ p ∈ led c, p.1 ≠ I) → Fr h₀ env.locals h (fun y => if y = x then some (.str ⟨#[n]⟩ t) else mp c y) → News h₀ env.locals h (led c ++ [(I, oI)]) →
      wpAny (model prog w) A (execs body env) (TurnEnd h₀ env.locals x mp led (Inv (pre ++ [n])) Ex I oI Q { s with heap := h, toks := tk }) E { s with heap := h, toks := tk })
    (ends : ∀ c, Inv xt.cps.toList c → Ex c)
    (done : ∀ c (u : Str → Option Value) h tk, Ex c → Fr h₀ env.locals h (fun y => if y = x then u y else mp c y) → News h₀ env.locals h (led c) → Q .next { s with heap := h, toks := tk }) :
    wpAny (model prog w) A (pyIter (.str xt tx)) (fun it s₂ => LoopAtV prog w A h₀ env x body Q E it s₂) E s := by
  have key : ∀ (o : Obj) (nm : String), Walks prog w A s.heap.objs.size [s.heap.objs.size] [s.heap.objs.size] xt.cps.size (SignAt xt) (fun i h => h.IsStrIter s.heap.objs.size nm xt tx i) → (s.heap.push o).IsStrIter s.heap.objs.size nm xt tx 0 →
      LoopAtV prog w A h₀ env x body Q E (.ref s.heap.objs.size) { s with heap := s.heap.push o } := by
    intro o nm W hst
    refine loop_led mp led (fun i c => Inv (xt.cps.toList.take i) c) Ex c₀ W (fun i h st => let ⟨o, ho, _⟩ := st; ⟨o, ho⟩) (fun b hb => .inl (List.mem_singleton.mp hb)) ?_ (next_is_new F) hst (F.push _) (led_push (news_sub N hl) _) (led_off (news_sub N hl)) hm (by simpa using hi) ?_ ?_ ?_
    · intro hm
      exact absurd F.ns.lt ((List.mem_singleton.mp hm) ▸ Nat.lt_irrefl _)
    · rintro i v c oI h tk hin ⟨n, u, hn, rfl⟩ hinv hoff F₁ N₁
      have hn' : xt.cps.toList[i]? = some n := by simpa using hn
      have hs : xt.cps.toList.take (i + 1) = xt.cps.toList.take i ++ [n] := by simp [List.take_add_one, hn']
      have e : xt.cps.toList = xt.cps.toList.take i ++ n :: xt.cps.toList.drop (i + 1) := by
        have ht := List.take_append_drop (i + 1) xt.cps.toList
        rw [hs, List.append_assoc] at ht
        exact ht.symm
      have := turn _ n _ u c _ oI h tk e hinv hoff F₁ N₁
      rw [← hs] at this
      exact this
    · intro c hc
      have hz : xt.cps.size = xt.cps.toList.length := by simp
      rw [hz, List.take_length] at hc
      exact ends c hc
    · intro c u h tk hex F' N'
      exact done c u h tk hex F' N'
  cases ha : xt.cps.all (· < 128)
  · exact wpAny_pyIter_wide ha (key _ _ (Walks.strWide hh _ xt tx) ⟨_, Heap.get?_push_size _ rfl, rfl, rfl⟩)
  · exact wpAny_pyIter_ascii ha (key _ _ (Walks.strAscii hh _ xt tx) ⟨_, Heap.get?_push_size _ rfl, rfl, rfl⟩)

/-- A list: one that stood before the frame, or one of the ledger that no turn changes. -/
theorem list_led {σ : Type} {l : Addr} {vs : List Value} {m₀ : Str → Option Value} {news : List (Addr × Obj)}
    (mp : σ → Str → Option Value) (led : σ → List (Addr × Obj)) (Inv : Nat → σ → Prop) (Ex : σ → Prop) (c₀ : σ)
    (hh : A.handled = none) (hl0 : h₀.IsList l vs.toArray ∨ ∃ n, ∀ c, (l, listOf vs.toArray n) ∈ led c) (F : Fr h₀ env.locals s.heap m₀) (N : News h₀ env.locals s.heap news) (hl : ∀ p ∈ led c₀, p ∈ news) (hm : ∀ z, z ≠ x → m₀ z = mp c₀ z) (hi : Inv 0 c₀)
    (turn : ∀ i v c I oI h tk, vs[i]? = some v → Inv i c → (∀ p ∈ led c, p.1 ≠ I) → Fr h₀ env.locals h (fun y => if y = x then some v else mp c y) → News h₀ env.locals h (led c ++ [(I, oI)]) →
      wpAny (model prog w) A (execs body env) (TurnEnd h₀ env.locals x mp led (Inv (i + 1)) Ex I oI Q { s with heap := h, toks := tk }) E { s with heap := h, toks := tk })
    (ends : ∀ c, Inv vs.length c → Ex c)
    (done : ∀ c (u : Str → Option Value) h tk, Ex c → Fr h₀ env.locals h (fun y => if y = x then u y else mp c y) → News h₀ env.locals h (led c) → Q .next { s with heap := h, toks := tk }) :
    wpAny (model prog w) A (pyIter (.ref l)) (fun it s₂ => LoopAtV prog w A h₀ env x body Q E it s₂) E s := by
  have N₀ := news_sub N hl
  have hls : s.heap.IsList l vs.toArray := by
    rcases hl0 with hl0 | ⟨n, hl0⟩
    · exact hl0.at fun o e => F.keep l o e
    · exact ⟨_, N₀.get (hl0 c₀), rfl, n, rfl⟩
  have hL : l ≠ env.locals := by
    rcases hl0 with hl0 | ⟨n, hl0⟩
    · obtain ⟨ol, hol, _⟩ := id hl0
      exact Nat.ne_of_lt (Nat.lt_of_lt_of_le (Heap.lt_size hol) F.above)
    · exact (N₀ _ (hl0 c₀)).2.1
  obtain ⟨ol, hol, _⟩ := id hls
  have hne : l ≠ s.heap.objs.size := Nat.ne_of_lt (Heap.lt_size hol)
  refine wpAny_pyIter_list hls ?_
  have W := Walks.list (prog := prog) (w := w) hh s.heap.objs.size l hne vs.toArray
  have hlen : vs.toArray.size = vs.length := by simp
  rw [hlen] at W
  refine loop_led mp led Inv Ex c₀ W (fun i h st => let ⟨⟨o, ho, _⟩, _⟩ := st; ⟨o, ho⟩) (fun b hb => ?_) ?_ (next_is_new F) ⟨⟨_, Heap.get?_push_size _ rfl, rfl, rfl⟩, hls.at fun o e => Heap.get?_push_of_some _ e⟩ (F.push _) (led_push N₀ _) (led_off N₀) hm hi ?_ ends done
  · rcases List.mem_cons.mp hb with e | hb
    · exact .inl e
    · rw [List.mem_singleton.mp hb]
      rcases hl0 with hl0 | ⟨n, hl0⟩
      · obtain ⟨ol, hol, _⟩ := id hl0
        exact .inr (.inl ⟨_, hol⟩)
      · exact .inr (.inr ⟨_, hl0⟩)
  · intro hm
    rcases List.mem_cons.mp hm with e | hm
    · exact absurd F.ns.lt (e ▸ Nat.lt_irrefl _)
    · exact hL (List.mem_singleton.mp hm).symm
  · intro i v c oI h tk hin hP hinv hoff F₁ N₁
    exact turn i v c _ oI h tk (by simpa using hP) hinv hoff F₁ N₁

theorem range_led {σ : Type} {r : Addr} {a₀ b₀ : Int} {t₀ u₀ v₀ : Tok} {n : Nat} {m₀ : Str → Option Value} {news : List (Addr × Obj)}
    (mp : σ → Str → Option Value) (led : σ → List (Addr × Obj)) (Inv : Nat → σ → Prop) (Ex : σ → Prop) (c₀ : σ)
    (hh : A.handled = none) (hr : IsRange s.heap r a₀ b₀ 1 t₀ u₀ v₀) (hsmall : Builtin.Range.small a₀ b₀ 1 = true) (hn : Builtin.Range.rangeSize a₀ b₀ 1 = (n : Int)) (F : Fr h₀ env.locals s.heap m₀) (N : News h₀ env.locals s.heap news) (hl : ∀ p ∈ led c₀, p ∈ news) (hm : ∀ z, z ≠ x → m₀ z = mp c₀ z) (hi : Inv 0 c₀)
    (turn : ∀ i t c I oI h tk, i < n → Inv i c → (∀ p ∈ led c, p.1 ≠ I) → Fr h₀ env.locals h (fun y => if y = x then some (.int (a₀ + (i : Int)) t) else mp c y) → News h₀ env.locals h (led c ++ [(I, oI)]) →
      wpAny (model prog w) A (execs body env) (TurnEnd h₀ env.locals x mp led (Inv (i + 1)) Ex I oI Q { s with heap := h, toks := tk }) E { s with heap := h, toks := tk })
    (ends : ∀ c, Inv n c → Ex c)
    (done : ∀ c (u : Str → Option Value) h tk, Ex c → Fr h₀ env.locals h (fun y => if y = x then u y else mp c y) → News h₀ env.locals h (led c) → Q .next { s with heap := h, toks := tk }) :
    wpAny (model prog w) A (pyIter (.ref r)) (fun it s₂ => LoopAtV prog w A h₀ env x body Q E it s₂) E s := by
  have N₀ := news_sub N hl
  refine wpAny_pyIter_range hr hsmall ?_
  have W : Walks prog w A s.heap.objs.size [s.heap.objs.size] [s.heap.objs.size] n (fun i v => i < n ∧ ∃ t, v = .int (a₀ + i * 1) t)
      (fun i h => IsRangeIter h s.heap.objs.size (a₀ + (i : Nat) * 1) ((n : Int) - (i : Nat)) 1) := (Walks.range hh _ a₀ 1 n).bound
  refine loop_led mp led Inv Ex c₀ W (fun i h st => ⟨_, st⟩) (fun b hb => .inl (List.mem_singleton.mp hb)) ?_ (next_is_new F) (by show IsRangeIter _ _ _ _ _; rw [hn]; simpa using Heap.get?_push_size _ rfl) (F.push _) (led_push N₀ _) (led_off N₀) hm hi ?_ ends done
  · intro hm
    exact absurd F.ns.lt ((List.mem_singleton.mp hm) ▸ Nat.lt_irrefl _)
  · rintro i v c oI h tk hin ⟨_, t, rfl⟩ hinv hoff F₁ N₁
    have e1 : a₀ + (i : Int) * 1 = a₀ + (i : Int) := by omega
    rw [e1] at F₁
    exact turn i t c _ oI h tk hin hinv hoff F₁ N₁

end

end

section
open PySem PySem.W PyProof.Rows PySem.Calls PySem.Spec

theorem add_fits {x y : Str} (hx : x.length ≤ 1000000) (hy : y.length ≤ 1000000) : x.length + y.length ≤ sizeLine := by
  have : (2000000 : Nat) ≤ sizeLine := by decide
  omega
theorem mul_len1 {c : Nat} {n : Int} {N : Nat} (hn : n ≤ (N : Int)) : (Txt.mul ⟨#[c]⟩ n).length ≤ N := len_mul_one rfl hn
abbrev tupO (items : Array Value) : Obj := { cls := .type "tuple", data := .seq items }
section
variable {prog : Program} {w : World} {A : Around} {E : Value → Shared → Prop} {s : Shared} {h₀ : Heap} {L l t b : Addr} {m : Str → Option Value} {news : List (Addr × Obj)} {v : Value} {vs ws : List Value} {x : Int} {u : Tok} {Q : Value → Shared → Prop}
theorem len_ledL {n : Nat} (N : News h₀ L s.heap news) (hm : (l, listOf vs.toArray n) ∈ news) (hz : vs.length ≤ 1000000) (h : ∀ t k, Q (.int (vs.length : Int) t) { s with toks := k }) :
    wpAny (model prog w) A (call (.builtin "len") [.ref l]) Q E s := by
  refine len_list (items := vs.toArray) ⟨_, N.get hm, rfl, n, rfl⟩ (by rw [List.size_toArray]; omega) ?_
  rw [List.size_toArray]
  exact h _ _
theorem item_ledL {value slice : PySem.Expr} {n : Nat} {k : Int} (N : News h₀ L s.heap news) (hm : (l, listOf vs.toArray n) ∈ news) (h0 : 0 ≤ k) (hfit : k < 2 ^ 63) (hx : vs[k.toNat]? = some v) (h : Q v s)
    (hs : subscripted slice false (.ref l) (.int k u) = operate [.ref l, .int k u] (getItem (.ref l) (.int k u)) := by with_unfolding_all rfl) :
    wpAny (model prog w) A (subscriptTail value slice (.ref l) (.int k u)) Q E s :=
  tail_any (s := s) (Heap.IsList.typeIs ⟨_, N.get hm, rfl, n, rfl⟩) slot_list_getitem.lookup (wpAny_getItem_list ⟨_, N.get hm, rfl, n, rfl⟩ h0 hfit (by simpa using hx) h) hs
end
section
variable {prog : Program} {w : World} {A : Around} {E : Value → Shared → Prop} {s : Shared} {h₀ : Heap} {L : Addr} {m : Str → Option Value} {news : List (Addr × Obj)}
end
section
variable {h₀ h : Heap} {L : Addr} {news : List (Addr × Obj)}
end
section
variable {prog : Program} {w : World} {A : Around} {E : Value → Shared → Prop} {s : Shared} {h₀ : Heap} {L : Addr} {news : List (Addr × Obj)} {Q : Value → Shared → Prop}
end
section
variable {prog : Program} {w : World} {A : Around} {E : Value → Shared → Prop} {s : Shared} {h₀ : Heap} {L : Addr} {m : Str → Option Value} {news : List (Addr × Obj)} {Q : Value → Shared → Prop}
theorem item_tupLed {value slice : PySem.Expr} {t : Addr} {l : List Value} {n : Nat} {k : Int} {u : Tok} {j : Nat} {x : Value} (N : News h₀ L s.heap news) (hm : (t, ({ cls := .type "tuple", data := .seq l.toArray n } : Obj)) ∈ news)
    (hlo : -(2 ^ 63) ≤ k) (hhi : k < 2 ^ 63) (hj : seqIndex? k l.length = some j) (hx : l[j]? = some x) (h : Q x s)
    {ops : List Value} (hs : subscripted slice false (.ref t) (.int k u) = operate ops (getItem (.ref t) (.int k u))) :
    wpAny (model prog w) A (subscriptTail value slice (.ref t) (.int k u)) Q E s := by
  have ht : IsTup s.heap t l.toArray := ⟨_, N.get hm, rfl, n, rfl⟩
  exact tail_any ht.typeIs slot_tuple_getitem.lookup (getItem_tuple ht hlo hhi (by simpa using hj) (by simpa using hx) h) hs
end
section
variable {prog : Program} {w : World} {A : Around} {E : Value → Shared → Prop} {s : Shared} {h₀ : Heap} {L : Addr} {m : Str → Option Value} {news : List (Addr × Obj)} {Q : Value → Shared → Prop}
theorem ints_at {vs : List Value} {ns : List Int} (hi : IntsAre vs ns) {k : Nat} (h : k < ns.length) : ∃ t, vs[k]? = some (.int (ns.getD k 0) t) := by
  have e : ns[k]? = some (ns.getD k 0) := by rw [List.getD_eq_getElem?_getD, List.getElem?_eq_getElem h]; rfl
  exact hi.get k _ e
end

end

section
open PySem PySem.W PyProof.Rows PySem.Calls PySem.Spec

section
variable {prog : Program} {w : World} {A : Around} {E : Value → Shared → Prop} {s : Shared} {h₀ : Heap} {L : Addr} {m : Str → Option Value} {news : List (Addr × Obj)} {Q : Value → Shared → Prop}
end

end

section
open PySem PySem.W PyProof.Rows PySem.Calls PySem.Spec

/-! A comprehension by an invariant over a state of one's own. -/
section
variable {prog : Program} {w : World} {A : Around} {h₀ : Heap} {L : Addr} {m : Str → Option Value} {env : Env}
def CTurn {σ : Type} (h₀ : Heap) (L : Addr) (m : Str → Option Value) (s : Shared) (I : Addr) (oI : Obj) (C : Addr) (oC : Obj) (D : Addr) (ys : List Value) (led : σ → List (Addr × Obj)) (S : List (Addr × Obj) → Prop) (Inv : List Value → σ → Prop) (y : Value) (s₂ : Shared) : Prop :=
  ∃ c' h' tk', s₂ = { s with heap := h', toks := tk' } ∧ Fr h₀ L h' m ∧ News h₀ L h' ((I, oI) :: (C, oC) :: (D, LCg.lst ys) :: led c') ∧ LCg.Off3 I C D (led c') ∧ S (led c') ∧ Inv (ys ++ [y]) c'
def CInt (h₀ : Heap) (L : Addr) (m : Str → Option Value) (s : Shared) (I : Addr) (oI : Obj) (C : Addr) (oC : Obj) (D : Addr) (ys : List Value) (news : List (Addr × Obj)) (k : Int) (y : Value) (s₂ : Shared) : Prop :=
  ∃ h' tk' t, s₂ = { s with heap := h', toks := tk' } ∧ Fr h₀ L h' m ∧ News h₀ L h' ((I, oI) :: (C, oC) :: (D, LCg.lst ys) :: news) ∧ y = .int k t
theorem cint {h₀ h' : Heap} {L I C D : Addr} {m : Str → Option Value} {s : Shared} {oI oC : Obj} {ys : List Value} {news : List (Addr × Obj)} {k k' : Int} {t : Tok} {tk : Nat} (F : Fr h₀ L h' m) (N : News h₀ L h' ((I, oI) :: (C, oC) :: (D, LCg.lst ys) :: news)) (e : k' = k) :
    CInt h₀ L m s I oI C oC D ys news k (.int k' t) { s with heap := h', toks := tk } := ⟨h', tk, t, rfl, F, N, by rw [e]⟩
theorem comp_led0 {σ : Type} {elt : Expr} {x : Str} {scope : Scope} {cl : List (Str × Addr)} {s : Shared} {S : List (Addr × Obj) → Prop} {P : Nat → Value → Prop} {Fin : List Value → List (Addr × Obj) → Prop} {n : Nat}
    (led : σ → List (Addr × Obj)) (Inv : Nat → List Value → σ → Prop)
    (turn : ∀ i v ys c I oI C oC D m₂ h tk (E' : Value → Shared → Prop), i < n → P i v → Inv i ys c → LCg.NsObj oC m₂ → m₂ x = some v → Fr h₀ L h m → News h₀ L h ((I, oI) :: (C, oC) :: (D, LCg.lst ys) :: led c) → LCg.Off3 I C D (led c) → ((@Ne Nat I C) ∧ (@Ne Nat I D) ∧ (@Ne Nat C D)) →
      wpAny (model prog w) A (eval elt (compEnvC scope cl C env)) (CTurn h₀ L m s I oI C oC D ys led S (Inv (i + 1))) E' { s with heap := h, toks := tk })
    (fin : ∀ ys c, Inv n ys c → Fin ys (led c)) :
    ∀ k i ys c, k + i = n → Inv i ys c → LCg.CompRest prog w A h₀ L m env elt x scope cl s S P Fin k i ys (led c)
  | 0, i, ys, c, hk, hi => by
    have : i = n := by omega
    subst this
    exact fin ys c hi
  | k + 1, i, ys, c, hk, hi => by
    refine LCg.CompRest.succ ?_
    intro v I oI C oC D m₂ h tk E' hP hC hx F N off ne
    refine wpAny_mono (turn i v ys c I oI C oC D m₂ h tk E' (by omega) hP hi hC hx F N off ne) (fun y s₂ q => ?_) fun _ _ e => e
    obtain ⟨c', h', tk', rfl, F', N', off', hS, hi'⟩ := q
    exact ⟨h', tk', led c', rfl, F', N', off', hS, comp_led0 led Inv turn fin k (i + 1) _ c' (by omega) hi'⟩
theorem comp_led {σ : Type} {elt : Expr} {x : Str} {scope : Scope} {cl : List (Str × Addr)} {s : Shared} {S : List (Addr × Obj) → Prop} {P : Nat → Value → Prop} {Fin : List Value → List (Addr × Obj) → Prop} {n : Nat} {news : List (Addr × Obj)}
    (led : σ → List (Addr × Obj)) (Inv : Nat → List Value → σ → Prop) (c₀ : σ) (hn : news = led c₀) (hi : Inv 0 [] c₀)
    (turn : ∀ i v ys c I oI C oC D m₂ h tk (E' : Value → Shared → Prop), i < n → P i v → Inv i ys c → LCg.NsObj oC m₂ → m₂ x = some v → Fr h₀ L h m → News h₀ L h ((I, oI) :: (C, oC) :: (D, LCg.lst ys) :: led c) → LCg.Off3 I C D (led c) → ((@Ne Nat I C) ∧ (@Ne Nat I D) ∧ (@Ne Nat C D)) →
      wpAny (model prog w) A (eval elt (compEnvC scope cl C env)) (CTurn h₀ L m s I oI C oC D ys led S (Inv (i + 1))) E' { s with heap := h, toks := tk })
    (fin : ∀ ys c, Inv n ys c → Fin ys (led c)) :
    LCg.CompRest prog w A h₀ L m env elt x scope cl s S P Fin n 0 [] news := by
  subst hn
  exact comp_led0 led Inv turn fin n 0 [] c₀ (by omega) hi
end
section
variable {prog : Program} {w : World} {A : Around} {E : Value → Shared → Prop} {s : Shared} {h₀ : Heap} {L D : Addr} {m : Str → Option Value} {news news' : List (Addr × Obj)} {n : Nat} {Q : Value → Shared → Prop}
end
section
variable {prog : Program} {w : World} {A : Around} {E : Value → Shared → Prop} {s : Shared} {h₀ : Heap} {L a b l : Addr} {m : Str → Option Value} {news : List (Addr × Obj)} {n k : Nat} {vs ws : List Value} {ns ms : List Int} {Q : Value → Shared → Prop}
end

end

section
open PySem PySem.W PyProof.Rows PySem.Calls PySem.Spec

theorem mulOk_of {x : Str} {n : Int} (hx : x.length ≤ 1000) (hn : n ≤ 1000) (hm : -1000 ≤ n) : MulOk x n := by
  refine ⟨?_, ?_, ?_⟩
  · have a : decide (n < -(2 ^ 63 : Int)) = false := decide_eq_false (by omega)
    have b : decide (n ≥ 2 ^ 63) = false := decide_eq_false (by omega)
    rw [a, b]; rfl
  · intro h1 _
    have : (1000 : Int) ≤ (2 ^ 63 - 1) / n := by
      refine (Int.le_ediv_iff_mul_le (by omega)).mpr ?_
      omega
    omega
  · intro h1 _
    have h2 : x.length * n.toNat ≤ 1000 * 1000 := Nat.mul_le_mul hx (by omega)
    unfold PySem.Builtin.Str.tooLong
    rw [PySem.sizeLine_eq]
    exact decide_eq_false (by omega)
section
variable {prog : Program} {w : World} {A : Around} {E : Value → Shared → Prop} {s : Shared} {h₀ : Heap} {L D : Addr} {m : Str → Option Value} {news : List (Addr × Obj)} {k : Nat} {Q : Value → Shared → Prop} {x : Str} {t u : Tok}
theorem mul_led {n : Int} (hx : x.length ≤ 1000) (hn : n ≤ 1000) (hm : -1000 ≤ n) (h : ∀ t' k, Q (.str (Txt.mul x n) t') { s with toks := k }) : wpAny (model prog w) A (binaryOp .Mult (.str x t) (.int n u)) Q E s := SB.mul (mulOk_of hx hn hm) h
end
section
variable {prog : Program} {w : World} {A : Around} {h₀ : Heap} {L : Addr} {m : Str → Option Value} {env : Env}
end
/-- What a place of a list of ints holds. -/
theorem ints_item {vs : List Value} {ns : List Int} (hi : IntsAre vs ns) {i : Nat} {v : Value} (h : vs.toArray[i]? = some v) : ∃ t, i < ns.length ∧ v = .int (ns.getD i 0) t := by
  have h' : vs[i]? = some v := by simpa using h
  have hl := (List.getElem?_eq_some_iff.mp h').1
  rw [hi.length] at hl
  obtain ⟨t, e⟩ := ints_at hi hl
  rw [h'] at e
  exact ⟨t, hl, Option.some.inj e⟩
theorem map_range {α β : Type} (l : List α) (d : α) (g : α → β) : (List.range l.length).map (fun i => g (l.getD i d)) = l.map g := by
  apply List.ext_getElem
  · simp
  · intro i h1 h2
    simp only [List.length_map] at h2
    simp [List.getD_eq_getElem?_getD, List.getElem?_eq_getElem h2]
section
variable {prog : Program} {w : World} {A : Around} {h₀ : Heap} {L : Addr} {m : Str → Option Value} {env : Env} {elt : Expr} {x : Str} {scope : Scope} {cl : List (Str × Addr)} {s : Shared} {S : List (Addr × Obj) → Prop} {Fin : List Value → List (Addr × Obj) → Prop} {news : List (Addr × Obj)} {vs : List Value} {ns : List Int}
end

end

section
open PySem PySem.W PyProof.Rows PySem.Calls PySem.Spec

section
variable {prog : Program} {w : World} {A : Around} {E : Value → Shared → Prop} {s : Shared} {h₀ : Heap} {L : Addr} {m : Str → Option Value} {news : List (Addr × Obj)} {Q : Value → Shared → Prop}
end
theorem and3N {a b c d : Nat} (h : a < b ∧ b < c ∧ c < d) : a < b ∧ b < c ∧ c < d := h
end

section
open PySem PySem.W PyProof.Rows PySem.Calls PySem.Spec

section
variable {prog : Program} {w : World} {A : Around} {E : Value → Shared → Prop} {s : Shared} {h₀ : Heap} {L : Addr} {m : Str → Option Value} {news : List (Addr × Obj)} {Q : Value → Shared → Prop}
end

end

section
open PySem PySem.W PyProof.Rows PySem.Calls PySem.Spec

section
variable {prog : Program} {w : World} {A : Around} {E : Value → Shared → Prop} {s : Shared} {h₀ : Heap} {L : Addr} {m : Str → Option Value} {news : List (Addr × Obj)} {Q : Value → Shared → Prop}
theorem len_tupL {t : Addr} {vs : List Value} {ns : List Int} {n : Nat} (N : News h₀ L s.heap news) (hm : (t, ({ cls := .type "tuple", data := .seq vs.toArray n } : Obj)) ∈ news) (hi : IntsAre vs ns) (hz : ns.length ≤ 1000000) (h : ∀ t' k, Q (.int (ns.length : Int) t') { s with toks := k }) :
    wpAny (model prog w) A (call (.builtin "len") [.ref t]) Q E s := by
  have hl := hi.length
  refine len_tuple (items := vs.toArray) ⟨_, N.get hm, rfl, n, rfl⟩ (by rw [List.size_toArray]; omega) ?_
  rw [List.size_toArray, hl]
  exact h _ _
/-- A place of a tuple of ints of the ledger. -/
theorem item_tupI {value slice : PySem.Expr} {t : Addr} {vs : List Value} {ns : List Int} {n : Nat} {k : Int} {u : Tok} (N : News h₀ L s.heap news) (hm : (t, ({ cls := .type "tuple", data := .seq vs.toArray n } : Obj)) ∈ news) (hi : IntsAre vs ns) (h0 : 0 ≤ k) (h1 : k.toNat < ns.length) (hf : k < 2 ^ 63) (h : ∀ t', Q (.int (ns.getD k.toNat 0) t') s)
    {ops : List Value} (hs : subscripted slice false (.ref t) (.int k u) = operate ops (getItem (.ref t) (.int k u))) :
    wpAny (model prog w) A (subscriptTail value slice (.ref t) (.int k u)) Q E s := by
  obtain ⟨t', e⟩ := ints_at hi h1
  have hl := hi.length
  exact item_tupLed N hm (by omega) hf (seqIndex_of h0 (by omega)) e (h t') hs
end

end

section
open PySem PySem.W PyProof.Rows PySem.Calls PySem.Spec

/-! Loops whose turns may leave generators behind. -/
section
variable {prog : Program} {w : World} {A : Around} {E : Value → Shared → Prop} {s : Shared} {env : Env} {h₀ : Heap} {x : Str} {body : List Stmt}
/-- What a for loop comes to behind its iterator. -/
def LoopG (prog : Program) (w : World) (A : Around) (env : Env) (x : Str) (px : Pos) (body : List Stmt) (Q : Flow → Shared → Prop) (E : Value → Shared → Prop) (it : Value) (s : Shared) : Prop :=
  codeAny (model prog w) A (.forLoop (.Name x px) it body [] env) (fun r s' => match r with | .ok f => Q f s' | .error e => cameBackBy (model prog w) A env E e s') s
theorem For_G {Q : Flow → Shared → Prop} {px pos : Pos} {iter : Expr}
    (h : wpAny (model prog w) A (eval iter env) (fun xv s₁ => wpAny (model prog w) A (pyIter xv) (fun it s₂ => LoopG prog w A env x px body Q E it s₂) E s₁) E s)
    (hs : ∀ x, foldedSetIterable iter env x = pure x := by intro _; rfl) :
    wpAny (model prog w) A (exec (.For (.Name x px) iter body [] pos) env) Q E s :=
  wpAny_For (wpAny_mono h (fun xv s₁ h₁ => wpAny_mono h₁ (fun it s₂ h₂ => h₂) fun _ _ e => e) fun _ _ e => e) hs
end

end

section
open PySem PySem.W PyProof.Rows PySem.Calls PySem.Spec

/-! A generator expression whose footprint is told by its user. -/
section
variable {prog : Program} {w : World} {A : Around} {E : Value → Shared → Prop} {s : Shared}
theorem genexp_X {env : Env} {elt iter : Expr} {x : Str} {px : Pos} {ifs : List Expr} {scope : Scope} {cl : List (Str × Addr)} {pos : Pos} {Q : Value → Shared → Prop}
    (hh : A.handled = none) (hco : scope.isCoroutine = false) (hclos : closureFor scope env = pure cl) (hcell : ∀ y ∈ scope.names, y.2 ≠ .cell) (h0 : scope.names.lookup (".0" : Str) = some NameKind.local)
    (hx : scope.names.lookup x = some .local) (hkind : scope.kind = .function) (hroom : A.depth < recursionLimit)
    (h : wpAny (model prog w) A (eval iter env) (fun xv s₁ => wpAny (model prog w) A (pyIter xv) (fun it s₂ => s₂.heap.NoLimit ∧
      wpAny (model prog w) A (genexprCode env pos (env.qual ++ "<genexpr>") scope) (fun code s₃ => wpAny (model prog w) A (builtinsFor env.globals env.builtins) (fun bi s₄ =>
        ∃ I fp wr n₀ P St₀ pz F, it = .ref I ∧ (∀ A' : Around, A'.handled = none → Walks prog w A' I fp wr n₀ P St₀) ∧ St₀ 0 s₄.heap ∧ (∀ b ∈ fp, b < s₄.heap.objs.size) ∧ s₄.heap.NoLimit ∧ cStatics ∉ wr ∧ cStatics ∈ fp ∧
          (∀ href : Heap, (∀ b o, s₄.heap.get? b = some o → href.get? b = some o) →
            QuietGenD prog w (genEnv scope cl s₄.heap.objs.size code bi env) x ifs elt fp wr P pz F href (A.depth + 1) (A.units + 8)) ∧
          (∀ a h₅ tk gs oa oC, gs.bare = true → s₄.heap.objs.size < a → h₅.objs.size = a + 1 → (∀ b o, s₄.heap.get? b = some o → h₅.get? b = some o) → h₅.get? a = some oa → h₅.get? s₄.heap.objs.size = some oC →
            WalksS prog w A.in4 a (a :: s₄.heap.objs.size :: fp) (s₄.heap.objs.size :: wr) (GenOnlyQ s₄.gens.size) (passing pz n₀ 0).length
              (fun j y => ∃ i, (passing pz n₀ 0)[j]? = some i ∧ F i y) (GenAt prog w A.in4 a s₄.gens.size s₄.heap.objs.size fp wr pz n₀ F) →
            GenAt prog w A.in4 a s₄.gens.size s₄.heap.objs.size fp wr pz n₀ F 0 { s₄ with gens := s₄.gens.push gs, toks := tk, heap := h₅ } →
            Q (.ref a) { s₄ with gens := s₄.gens.push gs, toks := tk, heap := h₅ })) E s₃) E s₂) E s₁) E s)
    (hs : ∀ x, genFold iter env x = pure x) :
    wpAny (model prog w) A (eval (.GeneratorExp elt [⟨.Name x px, iter, ifs, 0⟩] scope pos) env) Q E s := by
  refine wpAny_GeneratorExp_make hco hclos hcell h0 hkind hroom (wpAny_mono h (fun xv s₁ h₁ => wpAny_mono h₁ (fun it s₂ h₂ => ⟨h₂.1, wpAny_mono h₂.2 (fun code s₃ h₃ => wpAny_mono h₃ (fun bi s₄ h₄ => ?_)
    fun _ _ e => e) fun _ _ e => e⟩) fun _ _ e => e) fun _ _ e => e) hs
  obtain ⟨I, fp, wr, n₀, P, St₀, pz, F, rfl, W₀, hst, hfp, hl₄, hcw, hcf, hq, hQ⟩ := h₄
  have hclt : cStatics < s₄.heap.objs.size := let ⟨_, hn, _⟩ := hl₄; hn.lt
  intro h' hn' hs'
  have hsz : h'.objs.size = s₄.heap.objs.size + 1 := by rw [hs'.1, Heap.size_push]
  have keep' : ∀ b o, s₄.heap.get? b = some o → h'.get? b = some o := fun b o e => hs'.extBut b o (Nat.ne_of_lt (Heap.lt_size e)) (Heap.get?_push_of_some _ e)
  have hsub : ∀ b ∈ wr, b ∈ fp := fun b hb => (W₀ A hh).sub b hb
  have haC : h'.objs.size ≠ s₄.heap.objs.size := by rw [hsz]; exact Nat.succ_ne_self _
  have haf : h'.objs.size ∉ fp := fun hm => absurd (hfp _ hm) (Nat.not_lt.mpr (by rw [hsz]; exact Nat.le_succ _))
  have keep₅ : ∀ b o, s₄.heap.get? b = some o → (h'.push { cls := .type "generator", data := .fields #[.int s₄.gens.size 0, .str "<genexpr>" (s₄.toks + 1), .str (env.qual ++ "<genexpr>") (s₄.toks + 1 + 1)] }).get? b = some o :=
    fun b o e => Heap.get?_push_of_some _ (keep' b o e)
  obtain ⟨oC, _, _, hoC, _⟩ := id hn'
  refine hQ _ _ _ _ _ _ rfl (by omega) (by rw [Heap.size_push]) keep₅ (Heap.get?_push_size _ rfl) (Heap.get?_push_of_some _ hoC) (WalksS.genexpQ (A := A.in4) hh _ _ _ _ wr pz n₀ F haC haf hsub hroom hcf (Nat.ne_of_lt hclt) hcw) ?_
  refine GenAt.freshD (A := A.in4) (cenv := genEnv scope cl s₄.heap.objs.size code bi env) (m := fun y => if y = ".0" then some (.ref I) else none) hh
    W₀ pz F hx (by simp [genEnv, hkind]) hco
    (fun hm => Nat.lt_irrefl _ (hfp _ hm)) (hq _ keep₅) ⟨_, _, _, Heap.get?_push_size _ rfl, rfl, rfl, rfl⟩ (Array.getElem?_push_size ..) ((W₀ A hh).frame _ _ _ hst fun b _ o e => keep₅ b o e) (hn'.push _) (hl₄.keeps keep₅)
end

end

section
open PySem PySem.W PyProof.Rows PySem.Calls PySem.Spec

theorem isList_keeps {h h' : Heap} {a : Addr} {xs : Array Value} (x : h.IsList a xs) (k : ∀ b o, h.get? b = some o → h'.get? b = some o) : h'.IsList a xs := let ⟨o, e, r⟩ := x; ⟨o, k _ _ e, r⟩
theorem isTuple_keeps {h h' : Heap} {a : Addr} {xs : Array Value} (x : h.IsTuple a xs) (k : ∀ b o, h.get? b = some o → h'.get? b = some o) : h'.IsTuple a xs := let ⟨o, e, r⟩ := x; ⟨o, k _ _ e, r⟩
/-- The places of a base. -/
def fpG (g : Heap) : List Addr := (List.range g.objs.size).filter fun b => (g.get? b).isSome
theorem mem_fpG {g : Heap} {b : Addr} {o : Obj} (e : g.get? b = some o) : b ∈ fpG g := List.mem_filter.mpr ⟨List.mem_range.mpr (Heap.lt_size e), by rw [e]; rfl⟩
theorem of_fpG {g : Heap} {b : Addr} (h : b ∈ fpG g) : ∃ o, g.get? b = some o := by
  have := (List.mem_filter.mp h).2
  exact Option.isSome_iff_exists.mp this
/-- A generator that stands ready: it gives n values, told by Fv, whatever else the frame does meanwhile. -/
def GenReady (prog : Program) (w : World) (A : Around) (g : Heap) (a : Addr) (oa : Obj) (C : Addr) (oC : Obj) (I : Addr) (oI : Obj) (n : Nat) (Fv : Nat → Value → Prop) (gens : Array GenState) : Prop :=
  ∃ gi St, WalksS prog w A.in4 a (a :: C :: I :: fpG g) [C, I] (GenOnlyQ gi) n Fv St ∧ (∀ i s', St i s' → s'.TypeIs (.ref a) "generator") ∧
    ∀ s : Shared, s.gens = gens → s.heap.get? a = some oa → s.heap.get? C = some oC → s.heap.get? I = some oI → (∀ b o, g.get? b = some o → s.heap.get? b = some o) → St 0 s
theorem passing_all (n : Nat) : passing (fun _ => true) n 0 = List.range n := by
  unfold passing
  simp
theorem walksS_imp {prog : Program} {w : World} {A : Around} {I : Addr} {fp wr : List Addr} {G : Array GenState → Array GenState → Prop} {n n' : Nat} {P P' : Nat → Value → Prop} {St : Nat → Shared → Prop} (W : WalksS prog w A I fp wr G n P St) (hn : n = n') (h : ∀ i v, P i v → P' i v) : WalksS prog w A I fp wr G n' P' St := by
  subst hn
  exact W.imp h
section
variable {prog : Program} {w : World} {A : Around} {E : Value → Shared → Prop} {s : Shared} {g : Heap} {L c P : Addr} {ps : Array Value} {m mg mb : Str → Option Value} {p : Program} {loose : List Str} {mean : ExcName → Option Value}
def TabForm (pos : Pos) (ps : Array Value) : Prop := ps = #[] ∨ ∃ c' : Addr, ps = #[rawInt pos.line, rawInt pos.col, .ref c']
theorem tabForm_ok {pos : Pos} (h : TabForm pos ps) : TriplesOk ps.toList := by
  rcases h with rfl | ⟨c', rfl⟩
  · exact True.intro
  · simp [TriplesOk, rawInt]
/-- The code of a generator expression: made, or found. -/
theorem genexprCode_tab {env : Env} {pos : Pos} {qualname : Str} {scope : Scope} {Q : Value → Shared → Prop} (hc : env.code = .ref c) (C : CodeHd s.heap c P) (hP : s.heap.get? P = some (tabObj ps)) (hf : TabForm pos ps)
    (h : ∀ code h' tk ps', Heap.ExtBut P s.heap h' → s.heap.objs.size ≤ h'.objs.size → h'.get? P = some (tabObj ps') → TabForm pos ps' → Q code { s with heap := h', toks := tk }) :
    wpAny (model prog w) A (genexprCode env pos qualname scope) Q E s := by
  have hok := C.code hP (tabForm_ok hf)
  rcases hf with rfl | ⟨c', rfl⟩
  · refine wpAny_genexprCodeX hc hok (C.tab hP) rfl fun c' h' tk hx hge hlt _ _ ht _ => ?_
    exact h _ h' tk _ hx (Nat.le_trans hge (Nat.le_of_lt hlt)) ht.2 (.inr ⟨c', by simp⟩)
  · refine wpAny_genexprCode_hit hc hok (c' := .ref c') (by simp [codeAmong, rawInt]) ?_
    exact h _ s.heap s.toks _ (fun b o _ e => e) (Nat.le_refl _) hP (.inr ⟨c', rfl⟩)

/-- A generator expression over a list or tuple that stood before the frame; its table lies in the ledger. -/
theorem genexp_tab {env : Env} {elt iter : Expr} {x : Str} {px : Pos} {scope : Scope} {cl : List (Str × Addr)} {pos : Pos} {Q : Value → Shared → Prop} {D : Addr} {vs : List Value} {Fv : Nat → Value → Prop}
    (F : Fr g L s.heap m) (N : News g L s.heap [(P, tabObj ps)]) (CH : CodeHd g c P) (T : Top p loose mean mg mb g) (hf : TabForm pos ps) (hG : AllBare s.gens)
    (hcode : env.code = .ref c) (hgl : env.globals = mainGlobals)
    (hh : A.handled = none) (hco : scope.isCoroutine = false) (hclos : closureFor scope env = pure cl) (hcell : ∀ y ∈ scope.names, y.2 ≠ .cell) (h0 : scope.names.lookup (".0" : Str) = some NameKind.local)
    (hx : scope.names.lookup x = some .local) (hkind : scope.kind = .function) (hroom : A.depth < recursionLimit)
    (hD : g.IsList D vs.toArray ∨ g.IsTuple D vs.toArray)
    (hit : ∀ Q' : Value → Shared → Prop, Q' (.ref D) s → wpAny (model prog w) A (eval iter env) Q' E s)
    (hel : ∀ (C : Addr) (code : Value) (A' : Around) E' i v (u : Shared) m₂, A'.handled = none → A'.depth ≤ A.depth + 1 → A'.units ≤ A.units + 8 → vs[i]? = some v → Fr g C u.heap m₂ → m₂ x = some v → L < C →
      wpAny (model prog w) A' (eval elt (genEnv scope cl C code builtinsNs env)) (fun y s₃ => Fv i y ∧ Keeps u s₃) E' u)
    (hQ : ∀ a oa C oC I oI h₅ tk gs ps', AllBare gs → Fr g L h₅ m → News g L h₅ [(a, oa), (C, oC), (I, oI), (P, tabObj ps')] → TabForm pos ps' → s.heap.objs.size ≤ I → I < C → C < a → (∀ b o, b ≠ P → s.heap.get? b = some o → h₅.get? b = some o) →
      GenReady prog w A g a oa C oC I oI vs.length Fv gs → Q (.ref a) { s with gens := gs, toks := tk, heap := h₅ })
    (hs : ∀ x, genFold iter env x = pure x) :
    wpAny (model prog w) A (eval (.GeneratorExp elt [⟨.Name x px, iter, [], 0⟩] scope pos) env) Q E s := by
  refine genexp_X hh hco hclos hcell h0 hx hkind hroom (hit _ ?_) hs
  have hP := (N _ (.head _)).1
  have hPg := (N _ (.head _)).2.2
  have hPlt : P < s.heap.objs.size := Heap.lt_size hP
  have hDlt : D < g.objs.size := by
    rcases hD with ⟨_, e, _⟩ | ⟨_, e, _⟩
    · exact Heap.lt_size e
    · exact Heap.lt_size e
  have hDg : ∃ o, g.get? D = some o := by
    rcases hD with ⟨_, e, _⟩ | ⟨_, e, _⟩
    · exact ⟨_, e⟩
    · exact ⟨_, e⟩
  have hgs : g.objs.size < s.heap.objs.size := Nat.lt_of_le_of_lt F.above F.ns.lt
  have hIfr : ∀ o, g.get? s.heap.objs.size = some o → False := fun o e => absurd (Heap.lt_size e) (Nat.not_lt.mpr (Nat.le_of_lt hgs))
  have hDI : D ≠ s.heap.objs.size := Nat.ne_of_lt (Nat.lt_trans hDlt hgs)
  obtain ⟨mc, hcs, hcn⟩ := id T.nolimit
  obtain ⟨ocs, _, _, ecs, _⟩ := id hcs
  have rest : ∀ (oI : Obj) (St₀ : Nat → Heap → Prop), (∀ A' : Around, A'.handled = none → Walks prog w A' s.heap.objs.size [s.heap.objs.size, D] [s.heap.objs.size] vs.toArray.size (fun i v => vs.toArray[i]? = some v) St₀) → St₀ 0 (s.heap.push oI) → oI.isFreed = false →
      (s.heap.push oI).NoLimit ∧
        wpAny (model prog w) A (genexprCode env pos (env.qual ++ "<genexpr>") scope) (fun code s₃ => wpAny (model prog w) A (builtinsFor env.globals env.builtins) (fun bi s₄ =>
          ∃ I fp wr n₀ P St₀ pz F, Value.ref s.heap.objs.size = .ref I ∧ (∀ A' : Around, A'.handled = none → Walks prog w A' I fp wr n₀ P St₀) ∧ St₀ 0 s₄.heap ∧ (∀ b ∈ fp, b < s₄.heap.objs.size) ∧ s₄.heap.NoLimit ∧ cStatics ∉ wr ∧ cStatics ∈ fp ∧
          (∀ href : Heap, (∀ b o, s₄.heap.get? b = some o → href.get? b = some o) →
            QuietGenD prog w (genEnv scope cl s₄.heap.objs.size code bi env) x [] elt fp wr P pz F href (A.depth + 1) (A.units + 8)) ∧
          (∀ a h₅ tk gs oa oC, gs.bare = true → s₄.heap.objs.size < a → h₅.objs.size = a + 1 → (∀ b o, s₄.heap.get? b = some o → h₅.get? b = some o) → h₅.get? a = some oa → h₅.get? s₄.heap.objs.size = some oC →
            WalksS prog w A.in4 a (a :: s₄.heap.objs.size :: fp) (s₄.heap.objs.size :: wr) (GenOnlyQ s₄.gens.size) (passing pz n₀ 0).length
              (fun j y => ∃ i, (passing pz n₀ 0)[j]? = some i ∧ F i y) (GenAt prog w A.in4 a s₄.gens.size s₄.heap.objs.size fp wr pz n₀ F) →
            GenAt prog w A.in4 a s₄.gens.size s₄.heap.objs.size fp wr pz n₀ F 0 { s₄ with gens := s₄.gens.push gs, toks := tk, heap := h₅ } →
            Q (.ref a) { s₄ with gens := s₄.gens.push gs, toks := tk, heap := h₅ })) E s₃) E { s with heap := s.heap.push oI } := by
    intro oI St₀ W₀ hst hfr
    have F₁ := F.push oI
    refine ⟨T.nolimit.keeps F₁.keep, genexprCode_tab (ps := ps) hcode (CH.keeps F₁.keep) (Heap.get?_push_of_some _ hP) hf fun code h₃ tk₃ ps' hx₃ hsz hP₃ hf' => ?_⟩
    rw [hgl]
    obtain ⟨bm, ob, b1, b2, b3, b4, b5, b6⟩ := T.bmain
    have up : ∀ b o, b ≠ P → s.heap.get? b = some o → h₃.get? b = some o := fun b o hb e => hx₃ b o hb (Heap.get?_push_of_some _ e)
    have upg : ∀ b o, g.get? b = some o → h₃.get? b = some o := fun b o e => up b o (fun q => by rw [q, hPg] at e; cases e) (F.keep b o e)
    refine wpAny_builtinsFor (T.g.keeps upg) b1 b2 (upg _ _ b3) b4 b5 b6 ?_
    have hsz' : s.heap.objs.size < h₃.objs.size := by
      have : (s.heap.push oI).objs.size ≤ h₃.objs.size := hsz
      rw [Heap.size_push] at this
      exact this
    have hI₃ : h₃.get? s.heap.objs.size = some oI := hx₃ _ _ (Nat.ne_of_gt hPlt) (Heap.get?_push_size _ hfr)
    have W₁ : ∀ A' : Around, A'.handled = none → Walks prog w A' s.heap.objs.size (s.heap.objs.size :: fpG g) [s.heap.objs.size] vs.toArray.size (fun i v => vs.toArray[i]? = some v) St₀ := fun A' hA => (W₀ A' hA).mono_fp fun b hb => by
      rcases List.mem_cons.mp hb with rfl | hb
      · exact .head _
      · rw [List.mem_singleton.mp hb]
        exact .tail _ (let ⟨_, e⟩ := hDg; mem_fpG e)
    refine ⟨s.heap.objs.size, s.heap.objs.size :: fpG g, [s.heap.objs.size], vs.toArray.size, _, St₀, (fun _ => true), Fv, rfl, W₁, ?_, ?_, T.nolimit.keeps upg, ?_, .tail _ (mem_fpG ecs), fun href hhref => ?_, ?_⟩
    · refine (W₀ A hh).frame _ _ _ hst fun b hb o e => hx₃ b o ?_ e
      rintro rfl
      rcases List.mem_cons.mp hb with q | hb
      · exact absurd hPlt (q ▸ Nat.lt_irrefl _)
      · obtain ⟨o, e⟩ := hDg
        rw [← List.mem_singleton.mp hb, hPg] at e
        cases e
    · intro b hb
      rcases List.mem_cons.mp hb with rfl | hb
      · exact hsz'
      · obtain ⟨o, e⟩ := of_fpG hb
        exact Heap.lt_size (upg b o e)
    · intro hm
      rw [List.mem_singleton.mp hm] at ecs
      exact hIfr _ ecs
    · have inB : ∀ (t : Shared) m₂, t.heap.Ns h₃.objs.size m₂ → (∀ b ∈ s.heap.objs.size :: fpG g, b ∉ [s.heap.objs.size] → ∀ o, href.get? b = some o → t.heap.get? b = some o) → Fr g h₃.objs.size t.heap m₂ := fun t m₂ hn hkp =>
        ⟨hn, fun b o e => hkp b (.tail _ (mem_fpG e)) (fun hm => by rw [List.mem_singleton.mp hm] at e; exact hIfr _ e) o (hhref b o (upg b o e)), Nat.le_of_lt (Nat.lt_trans hgs hsz')⟩
      have hLC : L < h₃.objs.size := Nat.lt_trans F.ns.lt hsz'
      refine ⟨fun A' E' i v t m₂ hA hD hU hP hn hm hkp => ?_, fun A' E' i v t m₂ hA hD hU hP _ hn hm hkp => ?_⟩
      · exact wpAny_pure ⟨rfl, ⟨_, _, rfl, fun _ _ e => e⟩⟩
      · exact hel _ code A' E' i v t m₂ hA hD hU (by simpa using hP) (inB t m₂ hn hkp) hm hLC
    · intro a h₅ tk gs oa oC hb hCa hsz₅ hk₅ ea eC W at0
      have ePs : h₅.get? P = some (tabObj ps') := hk₅ _ _ hP₃
      have hLP : P ≠ L := (N _ (.head _)).2.1
      have F₅ : Fr g L h₅ m := ⟨F.ns.at' fun o e => hk₅ _ _ (up _ _ (Ne.symm hLP) e), fun b o e => hk₅ _ _ (upg b o e), F.above⟩
      have fr : ∀ b, s.heap.objs.size ≤ b → b ≠ L ∧ g.get? b = none := fun b hb => ⟨Nat.ne_of_gt (Nat.lt_of_lt_of_le F.ns.lt hb), Heap.get?_none_of_le (Nat.le_trans (Nat.le_of_lt hgs) hb)⟩
      have hCsz : s.heap.objs.size ≤ h₃.objs.size := Nat.le_of_lt hsz'
      refine hQ a oa h₃.objs.size oC s.heap.objs.size oI h₅ tk _ ps' (hG.push hb) F₅ ?_ hf' (Nat.le_refl _) hsz' hCa (fun b o hbP e => hk₅ b o (up b o hbP e)) ?_
      · intro q hq
        rcases List.mem_cons.mp hq with rfl | hq
        · exact ⟨ea, (fr a (Nat.le_trans hCsz (Nat.le_of_lt hCa))).1, (fr a (Nat.le_trans hCsz (Nat.le_of_lt hCa))).2⟩
        · rcases List.mem_cons.mp hq with rfl | hq
          · exact ⟨eC, (fr _ hCsz).1, (fr _ hCsz).2⟩
          · rcases List.mem_cons.mp hq with rfl | hq
            · exact ⟨hk₅ _ _ hI₃, (fr _ (Nat.le_refl _)).1, (fr _ (Nat.le_refl _)).2⟩
            · rw [List.mem_singleton.mp hq]
              exact ⟨ePs, hLP, hPg⟩
      · refine ⟨_, _, walksS_imp W ?_ ?_, fun i s' st => st.1.typeIs, ?_⟩
        · rw [passing_all, List.length_range, List.size_toArray]
        · rintro j y ⟨i, hij, hF⟩
          rw [passing_all] at hij
          obtain ⟨hl, e⟩ := List.getElem?_eq_some_iff.mp hij
          rw [List.getElem_range] at e
          rw [e]; exact hF
        · intro s9 hgs9 ea9 eC9 eI9 hk9
          obtain ⟨⟨o1, nm, qn, ho1, r1⟩, hl1, gs1, hgs1, hgo1⟩ := at0
          refine ⟨⟨o1, nm, qn, ?_, r1⟩, T.nolimit.keeps hk9, gs1, by rw [hgs9]; exact hgs1, fun s'' hal => hgo1 s'' fun b hb o e => hal b hb o ?_⟩
          · have : o1 = oa := by
              have h2 : h₅.get? a = some o1 := ho1
              rw [ea] at h2
              exact (Option.some.inj h2).symm
            rw [this]; exact ea9
          · have e' : h₅.get? b = some o := e
            rcases List.mem_cons.mp hb with rfl | hb
            · rw [eC] at e'; cases e'; exact eC9
            · rcases List.mem_cons.mp hb with rfl | hb
              · rw [hk₅ _ _ hI₃] at e'; cases e'; exact eI9
              · obtain ⟨o0, e0⟩ := of_fpG hb
                rw [hk₅ _ _ (upg _ _ e0)] at e'
                cases e'
                exact hk9 _ _ e0
  rcases hD with hl | ht
  · exact wpAny_pyIter_list (isList_keeps hl F.keep) (rest _ _ (fun A' hA => Walks.list hA _ _ hDI vs.toArray) ⟨⟨_, Heap.get?_push_size _ rfl, rfl, rfl⟩, isList_keeps (isList_keeps hl F.keep) (fun _ _ e => Heap.get?_push_of_some _ e)⟩ rfl)
  · exact wpAny_pyIter_tuple (isTuple_keeps ht F.keep) (rest _ _ (fun A' hA => Walks.tuple hA _ _ hDI vs.toArray) ⟨⟨_, Heap.get?_push_size _ rfl, rfl, rfl⟩, isTuple_keeps (isTuple_keeps ht F.keep) (fun _ _ e => Heap.get?_push_of_some _ e)⟩ rfl)
section
variable {a C I : Addr} {oa oC oI : Obj} {n : Nat} {Fv : Nat → Value → Prop} {news : List (Addr × Obj)} {Q : Value → Shared → Prop}
/-- sep.join of a generator that stands ready. -/
theorem join_ready {sep : Str} {t : Tok} (F : Fr g L s.heap m) (N : News g L s.heap ((a, oa) :: (C, oC) :: (I, oI) :: news)) (hoff : ∀ q ∈ news, q.1 ≠ C ∧ q.1 ≠ I) (hG : AllBare s.gens) (R : GenReady prog w A g a oa C oC I oI n Fv s.gens)
    (tx : Nat → Str) (htx : ∀ j v, Fv j v → ∃ u, v = .str (tx j) u) (hok : JoinOk sep ((List.range n).map tx) = true)
    (hQ : ∀ h' gs tk t', Fr g L h' m → News g L h' news → AllBare gs → (∀ b o, b ≠ C → b ≠ I → s.heap.get? b = some o → h'.get? b = some o) → Q (.str (Txt.join sep ((List.range n).map tx)) t') { s with heap := h', gens := gs, toks := tk })
    (hsz : n ≤ sizeLine) : wpAny (model prog w) A (call (.builtin "str.join") [.str sep t, .ref a]) Q E s := by
  obtain ⟨gi, St, W, hT, h0⟩ := R
  have W := W.in4_2
  have ea := N _ (.head _)
  have eC := N _ (.tail _ (.head _))
  have eI := N _ (.tail _ (.tail _ (.head _)))
  have hst := h0 s rfl ea.1 eC.1 eI.1 F.keep
  have hfp : ∀ b ∈ a :: C :: I :: fpG g, b < s.heap.objs.size := by
    intro b hb
    rcases List.mem_cons.mp hb with rfl | hb
    · exact Heap.lt_size ea.1
    · rcases List.mem_cons.mp hb with rfl | hb
      · exact Heap.lt_size eC.1
      · rcases List.mem_cons.mp hb with rfl | hb
        · exact Heap.lt_size eI.1
        · obtain ⟨o, e⟩ := of_fpG hb
          exact Heap.lt_size (F.keep _ _ e)
  refine SC.joinGen W hT hst hfp (.head _) (fun j v hv => let ⟨u, e⟩ := htx j v hv; ⟨_, u, e⟩) (fun s' lt hm hacc => ?_) hsz
  have hl : lt.map (·.1) = (List.range n).map tx := by
    apply List.ext_getElem?
    intro j
    have hsz : lt.length = n := by simpa [strValues] using hacc.1
    by_cases hj : j < n
    · have hj' : j < lt.length := hsz ▸ hj
      obtain ⟨u, hv⟩ := htx j _ (hacc.2 j (.str lt[j].1 lt[j].2) (by simp [strValues, List.getElem?_eq_getElem hj']))
      injection hv with h1 _
      simp [List.getElem?_eq_getElem hj', hj, h1]
    · rw [List.getElem?_eq_none (by simpa [hsz] using Nat.le_of_not_lt hj), List.getElem?_eq_none (by simpa using Nat.le_of_not_lt hj)]
  rw [hl]
  refine ⟨hok, fun t' k => ?_⟩
  have keep : ∀ b o, b ≠ C → b ≠ I → s.heap.get? b = some o → s'.heap.get? b = some o := fun b o h1 h2 e => hm.heap b o (by simp [h1, h2]) e
  have hgC : ∀ b o, g.get? b = some o → b ≠ C ∧ b ≠ I := fun b o e => ⟨fun q => (by rw [q, eC.2.2] at e; cases e), fun q => (by rw [q, eI.2.2] at e; cases e)⟩
  have := hQ s'.heap s'.gens k t' ⟨F.ns.at' fun o e => keep _ _ (Ne.symm eC.2.1) (Ne.symm eI.2.1) e, fun b o e => keep _ _ (hgC b o e).1 (hgC b o e).2 (F.keep b o e), F.above⟩
    (fun q hq => ⟨keep _ _ (hoff q hq).1 (hoff q hq).2 (N q (.tail _ (.tail _ (.tail _ hq)))).1, (N q (.tail _ (.tail _ (.tail _ hq)))).2⟩) (hm.gens.bare hG) keep
  have e : { s' with toks := k } = { s with heap := s'.heap, gens := s'.gens, toks := k } := by
    obtain ⟨h1, h2, h3, h4, h5⟩ := s'
    have d1 : h3 = s.drawn := hm.drawn
    have d2 : h5 = s.os := hm.os
    rw [d1, d2]
  rw [e]
  exact this
end
end

end

section
open PySem PySem.W PyProof.Rows PySem.Calls PySem.Spec

/-- A row: a list or tuple whose first is an int or a text; x is the text of it. -/
def FirstTx (h : Heap) (v : Value) (x : Str) : Prop :=
  ∃ a items f, v = .ref a ∧ (h.IsList a items ∨ h.IsTuple a items) ∧ items[0]? = some f ∧ ((∃ n t, f = .int n t ∧ x = (toString n : Str) ∧ n.natAbs.log2 < 1920) ∨ ∃ t, f = .str x t)
theorem FirstTx.keeps {h h' : Heap} {v : Value} {x : Str} (r : FirstTx h v x) (k : ∀ b o, (∃ xs n, o.data = .seq xs n) → h.get? b = some o → h'.get? b = some o) : FirstTx h' v x := by
  obtain ⟨a, items, f, rfl, hl, r⟩ := r
  refine ⟨a, items, f, rfl, ?_, r⟩
  rcases hl with ⟨o, e, c, n, d⟩ | ⟨o, e, c, n, d⟩
  · exact .inl ⟨o, k _ _ ⟨_, _, d⟩ e, c, n, d⟩
  · exact .inr ⟨o, k _ _ ⟨_, _, d⟩ e, c, n, d⟩
section
variable {prog : Program} {w : World} {A : Around} {E : Value → Shared → Prop} {s : Shared} {g : Heap} {L : Addr} {m mg mb : Str → Option Value} {Q : Value → Shared → Prop}
theorem getItem_first {value slice : PySem.Expr} {a : Addr} {items : Array Value} {f : Value} {u : Tok} (F : Fr g L s.heap m) (hl : g.IsList a items ∨ g.IsTuple a items) (hf : items[0]? = some f) (h : Q f s)
    {ops : List Value} (hs : subscripted slice false (.ref a) (.int 0 u) = operate ops (getItem (.ref a) (.int 0 u))) :
    wpAny (model prog w) A (subscriptTail value slice (.ref a) (.int 0 u)) Q E s := by
  rcases hl with hl | ht
  · have hl := isList_keeps hl F.keep
    exact tail_any hl.typeIs slot_list_getitem.lookup (wpAny_getItem_list hl (by decide) (by decide) (by simpa using hf) h) hs
  · have ht' : IsTup s.heap a items := isTuple_keeps ht F.keep
    have hsz : 0 < items.size := by
      rcases Nat.eq_zero_or_pos items.size with h0 | h0
      · rw [Array.getElem?_eq_none (by omega)] at hf; cases hf
      · exact h0
    exact tail_any ht'.typeIs slot_tuple_getitem.lookup (getItem_tuple ht' (by decide) (by decide) (j := 0) (seqIndex_of (by decide) (by omega)) hf h) hs
theorem str_first {f : Value} {x : Str} (hf : (∃ n t, f = .int n t ∧ x = (toString n : Str) ∧ n.natAbs.log2 < 1920) ∨ ∃ t, f = .str x t) (h : ∀ t tk, Q (.str x t) { s with toks := tk }) : wpAny (model prog w) A (call (.type "str") [f]) Q E s := by
  rcases hf with ⟨n, t, rfl, rfl, hn⟩ | ⟨t, rfl⟩
  · exact P.str_of_int hn (h _ _)
  · exact P.str_of_str (h _ s.toks)
/-- str(tup[0]) in a generator's frame. -/
theorem elt_first {env : Env} (hgl : env.globals = mainGlobals) (hg : g.Ns mainGlobals mg) (hmiss : mg (Str.ofString "str") = none) (hb : g.Ns builtinsNs mb) (hv : mb (Str.ofString "str") = some (.type "str")) {p1 p2 p3 p4 p5 : Pos} {cl : List (Str × Addr)} {scope : Scope}
    (hk : scope.kind = .function) (h1 : scope.names.lookup (Str.ofString "str") = some .globalImplicit) (h2 : scope.names.lookup (Str.ofString "tup") = some .local)
    {C : Addr} {code v : Value} {u : Shared} {m₂ : Str → Option Value} {x : Str} (F : Fr g C u.heap m₂) (hm : m₂ (Str.ofString "tup") = some v) (hx : FirstTx g v x) :
      wpAny (model prog w) A (eval (.Call (.Name (Str.ofString "str") p1) [.Subscript (.Name (Str.ofString "tup") p2) (.Constant (.int 0) 0 p3) p4] [] p5) (genEnv scope cl C code builtinsNs env)) (fun y s₃ => (∃ t, y = .str x t) ∧ Keeps u s₃) E u := by
  obtain ⟨a, items, f, rfl, hl, hf, hfx⟩ := hx
  refine Call_ (Calls.Name_function_global hk h1 (Calls.loadGlobal_builtin (env := genEnv scope cl C code builtinsNs env) (mg := mg) (by show u.heap.Ns env.globals mg; rw [hgl]; exact hg.keeps F.keep) hmiss (hb.keeps F.keep) hv ?_) (by decide))
  refine Pv.callWith_type1 (spliced_more ?_)
  refine Subscript_ (wpAny_Name (wpAny_loadName_local hk h2 F.ns hm ?_) (by decide))
  refine wpAny_Constant_int ?_
  refine getItem_first (s := { u with toks := u.toks + 1 }) F hl hf ?_ (by with_unfolding_all rfl)
  refine spliced_none ?_
  refine str_first hfx fun t tk => ⟨⟨t, rfl⟩, _, _, rfl, fun _ _ e => e⟩
theorem len_base {D : Addr} {vs : List Value} {n : Nat} (F : Fr g L s.heap m) (hD : g.IsList D vs.toArray ∨ g.IsTuple D vs.toArray) (hl : vs.length = n) (hz : n ≤ 1000000) (h : ∀ t tk, Q (.int (n : Int) t) { s with toks := tk }) : wpAny (model prog w) A (call (.builtin "len") [.ref D]) Q E s := by
  rcases hD with hD | hD
  · refine len_list (isList_keeps hD F.keep) (by rw [List.size_toArray]; omega) ?_
    rw [List.size_toArray, hl]; exact h _ _
  · refine PyProof.Rows.len_tuple (isTuple_keeps hD F.keep) (by rw [List.size_toArray]; omega) ?_
    rw [List.size_toArray, hl]; exact h _ _
theorem join_len (sep : Str) (ts : List Str) {B : Nat} (h : (ts.map (·.length)).sum + ts.length * sep.length ≤ B) : (Txt.join sep ts).length ≤ B := by rw [show Txt.join sep ts = Str.join sep ts from StrLaws.glued_eq_join sep ts]; exact Nat.le_trans (StrLaws.join_length_le sep ts) h
theorem map_getD (ts : List Str) (d : Str) {n : Nat} (h : n = ts.length) : (List.range n).map (fun i => ts.getD i d) = ts := by
  subst h
  have := map_range ts d (fun x => x)
  simpa using this
end

end

section
open PySem PySem.W PyProof.Rows PySem.Calls PySem.Spec

/-- The law's end: True; what stood before it stands, but the tables of codes, which may have grown; the generators are bare. -/
def EndTrue (tabs : List (Addr × Addr)) (s₁ : Shared) (r : Result) (s' : Shared) : Prop :=
  r = .ok (.ret (.bool true)) ∧ (∀ b o, (ghostOf s₁.heap tabs).get? b = some o → s'.heap.get? b = some o) ∧ s'.os = s₁.os ∧ AllBare s'.gens ∧ GrownAll tabs s'.heap
theorem kn_postT {M : Model} {A : Around} {cd : Code} {s s₁ : Shared} {cw : ClaimW} {cl : Str → Option Addr} {mean : ExcName → Option Value} {args : List WData} {tabs : List (Addr × Addr)} (hT : TabsAt tabs s₁.heap) (hr : ∀ x, cw.raises args x = false) (hp : cw.post args (.bool true) args = true)
    (h : codeAny M A cd (EndTrue tabs s₁) s) : codeAny M A cd (GoodWG cw cl mean args s₁) s :=
  codeAny_mono h fun r s' ⟨hr1, hk, hos, hg, hgr⟩ => by
    have keep : ∀ b o, b ∉ tabs.map (·.2) → s₁.heap.get? b = some o → s'.heap.get? b = some o := fun b o hb e => hk b o (ghost_ne e hb)
    have grown : ∀ b o, b ∈ tabs.map (·.2) → s₁.heap.get? b = some o → isCodeTable s₁.heap b ∧ o = tabObj #[] ∧ ∃ ps, s'.heap.get? b = some (tabObj ps) := fun b o hb e => by
      obtain ⟨q, hq, rfl⟩ := List.mem_map.mp hb
      have e2 := (hT q hq).2
      rw [e] at e2
      exact ⟨((hT q hq).1.tab (hT q hq).2).isCodeTable, Option.some.inj e2, hgr.get q hq⟩
    refine ⟨.inl ⟨.bool true, .bool true, [], hr1, hr, ReadsW.bool _, hp, fun _ => ⟨List.nodup_nil, fun a ha => by cases ha⟩⟩, ⟨fun b o e => ?_, fun b o e => ?_⟩, hos, hg⟩
    · by_cases hb : b ∈ tabs.map (·.2)
      · obtain ⟨ht, rfl, ps, hP⟩ := grown b o hb e
        exact .inr (.inl ⟨ht, rfl, #[], ps, rfl, by rw [Array.empty_append]; exact hP⟩)
      · exact .inl (keep b o hb e)
    · by_cases hb : b ∈ tabs.map (·.2)
      · obtain ⟨_, _, ps, hP⟩ := grown b o hb e
        exact ⟨_, hP⟩
      · exact ⟨o, keep b o hb e⟩

end

section
open PySem PySem.W PyProof.Rows

structure WS where
  ca : Nat
  cv : List Value
  ep : Nat
  ci : List Int
  b : Int
  n : Int
  nt : Int
  tb : Tok
  tn : Tok
  tnt : Tok
def bump (ci : List Int) (b : Nat) : List Int :=
  let c := ci ++ List.replicate (b + 1 - ci.length) 0
  c.set b (c.getD b 0 + 1)
def scanStep (q : List Int × Nat × Nat × Nat) (k : Nat) : List Int × Nat × Nat × Nat :=
  if k = 32 then (q.1, q.2.1 + 1, q.2.2.1 + 1, q.2.2.2) else (bump q.1 q.2.1, 0, q.2.2.1 + 1, q.2.2.2 + 1)
def scan (l : List Nat) : List Int × Nat × Nat × Nat := l.foldl scanStep ([], 0, 0, 0)
def isSp (k : Nat) : Bool := k == 32 || k == 9
def WSat (pre : List Nat) (c : WS) : Prop := IntsAre c.cv c.ci ∧ c.ci = (scan pre).1 ∧ c.b = ((scan pre).2.1 : Int) ∧ c.n = ((scan pre).2.2.1 : Int) ∧ c.nt = ((scan pre).2.2.2 : Int)
theorem ofSp : Str.ofString " " = (⟨#[32]⟩ : Str) := by rfl
theorem ofTab : Str.ofString "\t" = (⟨#[9]⟩ : Str) := by rfl
theorem one_true {n k : Nat} {y : Str} (e : y = (⟨#[k]⟩ : Str)) (h : ((⟨#[n]⟩ : Str) == y) = true) : n = k := by
  have := eq_of_beq h
  rw [e] at this
  injection this with q
  simpa using q
theorem one_false {n k : Nat} {y : Str} (e : y = (⟨#[k]⟩ : Str)) (h : ((⟨#[n]⟩ : Str) == y) = false) : n ≠ k := by
  intro q
  subst q e
  simp at h
theorem rep_flat {k : Nat} {a : Int} : (List.replicate k [a]).flatten = List.replicate k a := by
  induction k with
  | zero => rfl
  | succ k ih => simp [List.replicate_succ, ih]
theorem scan_snoc (pre : List Nat) (n : Nat) : scan (pre ++ [n]) = scanStep (scan pre) n := by simp [scan]
theorem bump_length (ci : List Int) (b : Nat) : (bump ci b).length = max ci.length (b + 1) := by
  simp only [bump, List.length_set, List.length_append, List.length_replicate]
  omega
theorem bump_ge {ci : List Int} {b : Int} (h0 : 0 ≤ b) (h : (ci.length : Int) ≤ b) :
    (ci ++ (List.replicate (b - ↑ci.length + 1).toNat [(0 : Int)]).flatten).set b.toNat ((ci ++ (List.replicate (b - ↑ci.length + 1).toNat [(0 : Int)]).flatten).getD b.toNat 0 + 1) = bump ci b.toNat := by
  have e : (b - (ci.length : Int) + 1).toNat = b.toNat + 1 - ci.length := by omega
  rw [rep_flat, e]
  rfl
theorem bump_lt {ci : List Int} {b : Int} (h0 : 0 ≤ b) (h : ¬ (ci.length : Int) ≤ b) : ci.set b.toNat (ci.getD b.toNat 0 + 1) = bump ci b.toNat := by
  have e : b.toNat + 1 - ci.length = 0 := by
    by_cases h0 : 0 ≤ b <;> omega
  simp only [bump, e, List.replicate_zero, List.append_nil]
theorem takeWhile_stop {p : Nat → Bool} {pre post : List Nat} {n : Nat} (h : ∀ k ∈ pre, p k = true) (hn : p n = false) : (pre ++ n :: post).takeWhile p = pre := by
  induction pre with
  | nil => simp [hn]
  | cons a r ih => simp [h a (.head _), ih fun k hk => h k (.tail _ hk)]
theorem takeWhile_all {p : Nat → Bool} {l : List Nat} (h : ∀ k ∈ l, p k = true) : l.takeWhile p = l := by
  induction l with
  | nil => rfl
  | cons a r ih => simp [h a (.head _), ih fun k hk => h k (.tail _ hk)]
abbrev tupOf (vs : Array Value) : Obj := { cls := .type "tuple", data := .seq vs }
abbrev wsEnt (w : World) (ws : Str) (t : Tok) (n nt : Int) (tn tnt : Tok) (nr : Nat) (b : Bool) (k1 k2 k3 k4 k5 : Tok) : List DictEntry :=
  [⟨PyData.keyHash w.params (Str.ofString "raw"), .str (Str.ofString "raw") k1, .str ws t⟩, ⟨PyData.keyHash w.params (Str.ofString "n"), .str (Str.ofString "n") k2, .int n tn⟩, ⟨PyData.keyHash w.params (Str.ofString "nt"), .str (Str.ofString "nt") k3, .int nt tnt⟩,
   ⟨PyData.keyHash w.params (Str.ofString "norm"), .str (Str.ofString "norm") k4, .ref nr⟩, ⟨PyData.keyHash w.params (Str.ofString "is_simple"), .str (Str.ofString "is_simple") k5, .bool b⟩]
def wsOf (ws : Str) : List Int × Nat × Nat × Nat := scan (ws.cps.toList.takeWhile isSp)
theorem tuple_led {prog : Program} {w : World} {A : Around} {E : Value → Shared → Prop} {s : Shared} {h₀ : Heap} {L l : Addr} {m : Str → Option Value} {news : List (Addr × Obj)} {vs : List Value} {n : Nat} {Q : Value → Shared → Prop}
    (F : Fr h₀ L s.heap m) (N : News h₀ L s.heap news) (hm : (l, listOf vs.toArray n) ∈ news) (hz : vs.length ≤ 1000000)
    (h : ∀ D h', Fr h₀ L h' m → News h₀ L h' ((D, tupOf vs.toArray) :: news) → (∀ p ∈ news, p.1 < D) → Q (.ref D) { s with heap := h' }) :
    wpAny (model prog w) A (call (.type "tuple") [.ref l]) Q E s := by
  refine call_tuple_list (items := vs.toArray) ⟨_, N.get hm, rfl, n, rfl⟩ (fun h' hk => ?_) (by rw [List.size_toArray]; exact Nat.le_trans hz (by decide))
  have F' := fr_stays F hk
  have N' := news_stays N hk
  exact h _ _ (F'.push _) (N'.push F' _) fun p hp => Heap.lt_size (N' p hp).1

end

section
open PySem PySem.W PyProof.Rows

end

section
open PySem PySem.W PyProof.Rows

end

section
open PySem PySem.W PyProof.Rows

/-- The counts with one row of r spaces made one longer. -/
def grown (H : List Int) (r : Nat) : List Int :=
  let c := (H ++ [0]).set r ((H ++ [0]).getD r 0 - 1)
  c.set (r + 1) (c.getD (r + 1) 0 + 1)
end

section
open PySem PySem.W PyProof.Rows PySem.Builtin PySem.Builtin.Str

end

section
open PySem PySem.W PyProof.Rows

/-- The text of a number. -/
def numTx (n : Int) : Str := (toString n : Str)
def digTx (d : Int) : Str := ⟨#[48 + d.toNat]⟩
theorem str_ext' {a b : Str} (h : a.cps.toList = b.cps.toList) : a = b := by
  obtain ⟨a⟩ := a
  obtain ⟨b⟩ := b
  have : a = b := Array.ext' h
  rw [this]
theorem signs_num' (m : Nat) : (numTx (m : Int)).cps.toList = (Nat.toDigits 10 m).map Char.toNat := by
  unfold numTx
  show (Str.ofString (toString ((m : Nat) : Int))).cps.toList = _
  rw [PyProof.Rows.signs_ofString]
  show (Nat.repr m).toList.map Char.toNat = _
  rw [Nat.toList_repr]
theorem digitChar_code : ∀ d, d < 10 → (Nat.digitChar d).toNat = 48 + d := by decide
theorem numTx_small {n : Int} (h0 : 0 ≤ n) (h1 : n < 10) : numTx n = digTx n := by
  obtain ⟨m, rfl⟩ := Int.eq_ofNat_of_zero_le h0
  apply str_ext'
  rw [signs_num', Nat.toDigits_of_lt_base (by omega)]
  simp [digTx, digitChar_code m (by omega)]
theorem numTx_step {n : Int} (h : 10 ≤ n) : numTx n = numTx (n / 10) ++ digTx (n % 10) := by
  obtain ⟨m, rfl⟩ := Int.eq_ofNat_of_zero_le (by omega : 0 ≤ n)
  have e1 : ((m : Int) / 10) = ((m / 10 : Nat) : Int) := by omega
  have e2 : ((m : Int) % 10) = ((m % 10 : Nat) : Int) := by omega
  apply str_ext'
  rw [e1, e2, Str.cps_append, Array.toList_append, signs_num', signs_num', Nat.toDigits_of_base_le (by decide) (by omega), List.map_append]
  simp [digTx, digitChar_code (m % 10) (by omega)]; omega
theorem numTx_len (k : Nat) : ∀ {n : Int}, 0 ≤ n → n < 10 ^ (k + 1) → (numTx n).length ≤ k + 1 := by
  induction k with
  | zero =>
    intro n h0 h1
    rw [numTx_small h0 (by simpa using h1)]
    exact Nat.le_refl _
  | succ k ih =>
    intro n h0 h1
    by_cases h : n < 10
    · rw [numTx_small h0 h]
      show 1 ≤ _
      omega
    · rw [numTx_step (by omega), Str.length_append]
      have h2 : n / 10 < 10 ^ (k + 1) := by
        refine Int.ediv_lt_of_lt_mul (by decide) ?_
        rw [← Int.pow_succ]; exact h1
      have := ih (n := n / 10) (by omega) h2
      show (numTx (n / 10)).length + 1 ≤ _
      omega
end

section
open PySem PySem.W PyProof.Rows PySem.Calls PySem.Spec
open PySem.Sem (wp)

/-! A block of statements cut in two, with a word between. -/
section
variable {M : Model} {A : Around} {E : Value → Shared → Prop} {s : Shared} {env : Env} {Q : Flow → Shared → Prop}
theorem wp_execs_app {Γ : PySem.Ctx} {b : List Stmt} {Q : Flow → Pos → Shared → Prop} {E : Value → Pos → Shared → Prop} : ∀ (a : List Stmt) (p : Pos) (s : Shared),
    wp M Γ (execs a env) (fun f p' s' => match f with | .next => wp M Γ (execs b env) Q E p' s' | f => Q f p' s') E p s → wp M Γ (execs (a ++ b) env) Q E p s
  | [], _, _, h => h
  | st :: a, p, s, h => by
    rw [List.cons_append, execs_cons, Sem.wp_bind']
    rw [execs_cons, Sem.wp_bind'] at h
    refine Sem.wp_mono M Γ _ (fun f p' s' h' => ?_) (fun _ _ _ h' => h') _ _ h
    cases f with
    | next => exact wp_execs_app a p' s' h'
    | _ => exact h'
def CutEnd (Mid : Shared → Prop) (f : Flow) (s' : Shared) : Prop := f = .next ∧ Mid s'
theorem execs_cut (n : Nat) {l : List Stmt} (Mid : Shared → Prop) (h1 : wpAny M A (execs (l.take n) env) (CutEnd Mid) E s) (h2 : ∀ s', Mid s' → wpAny M A (execs (l.drop n) env) Q E s') : wpAny M A (execs l env) Q E s := by
  intro Γ p hΓ
  rw [← List.take_append_drop n l]
  refine wp_execs_app _ _ _ (Sem.wp_mono M Γ _ (fun f p' s' h' => ?_) (fun _ _ _ h' => h') _ _ (h1 Γ p hΓ))
  obtain ⟨rfl, h'⟩ := h'
  exact h2 s' h' Γ p' hΓ
end
theorem news_cons {h₀ h : Heap} {L : Addr} {news : List (Addr × Obj)} {p : Addr × Obj} (N : News h₀ L h news) (hp : p ∈ news) : News h₀ L h (p :: news) := fun q hq => (List.mem_cons.mp hq).elim (fun e => e ▸ N p hp) (N q)
theorem neN {a b : Nat} (h : a ≠ b) : a ≠ b := h
/-- A row of the ledger and the text of its first. -/
def RowIn (news : List (Addr × Obj)) (v : Value) (x : Str) : Prop :=
  ∃ (a : Addr) (items : Array Value) (f : Value), v = .ref a ∧ ((∃ n, (a, listOf items n) ∈ news) ∨ ∃ n, (a, ({ cls := .type "tuple", data := .seq items n } : Obj)) ∈ news) ∧ items[0]? = some f ∧ ((∃ n t, f = .int n t ∧ x = (toString n : Str) ∧ n.natAbs.log2 < 1920) ∨ ∃ t, f = .str x t)
theorem RowIn.mono {l l' : List (Addr × Obj)} {v : Value} {x : Str} (r : RowIn l v x) (h : ∀ p ∈ l, p ∈ l') : RowIn l' v x := by
  obtain ⟨a, items, f, e, hl, r⟩ := r
  refine ⟨a, items, f, e, ?_, r⟩
  rcases hl with ⟨n, hl⟩ | ⟨n, hl⟩
  · exact .inl ⟨n, h _ hl⟩
  · exact .inr ⟨n, h _ hl⟩
theorem RowIn.first {h₀ h : Heap} {L : Addr} {news : List (Addr × Obj)} {v : Value} {x : Str} (N : News h₀ L h news) (r : RowIn news v x) : FirstTx h v x := by
  obtain ⟨a, items, f, e, hl, r⟩ := r
  refine ⟨a, items, f, e, ?_, r⟩
  rcases hl with ⟨n, hl⟩ | ⟨n, hl⟩
  · exact .inl ⟨_, N.get hl, rfl, n, rfl⟩
  · exact .inr ⟨_, N.get hl, rfl, n, rfl⟩
def RowsIn (news : List (Addr × Obj)) (vs : List Value) (ts : List Str) : Prop := vs.length = ts.length ∧ ∀ i v, vs[i]? = some v → RowIn news v (ts.getD i ⟨#[]⟩)
theorem RowsIn.mono {l l' : List (Addr × Obj)} {vs : List Value} {ts : List Str} (r : RowsIn l vs ts) (h : ∀ p ∈ l, p ∈ l') : RowsIn l' vs ts := ⟨r.1, fun i v e => (r.2 i v e).mono h⟩
end

section
open PySem PySem.W PyProof.Rows PySem.Calls PySem.Spec

/-! t[:] of a tuple is the tuple. -/
section
variable {prog : Program} {w : World} {A : Around} {E : Value → Shared → Prop} {s : Shared} {h₀ : Heap} {L : Addr} {m : Str → Option Value} {news : List (Addr × Obj)}
theorem append_led {D : Addr} {vs : List Value} {n : Nat} {x : Value} {news' : List (Addr × Obj)} {Q : Value → Shared → Prop} (F : Fr h₀ L s.heap m) (N : News h₀ L s.heap news) (U : Upd D (W.listOf vs.toArray n) (W.listOf (vs ++ [x]).toArray (n + 1)) news news') (hz : vs.length ≤ 1000000)
    (h : ∀ h', Fr h₀ L h' m → News h₀ L h' news' → Q .none { s with heap := h' }) : wpAny (model prog w) A (call (.builtin "list.append") [.ref D, x]) Q E s := by
  refine append_K (its := vs.toArray) (n := n) (news' := news') F N ?_ h (by rw [List.size_toArray, PySem.sizeLine_eq]; omega)
  rw [List.push_toArray]
  exact U
end

end

section
open PySem PySem.W PyProof.Rows PySem.Calls PySem.Spec

/-! An own exception class with an own __init__ is called. -/
abbrev mroE : List Value := [.type "Exception", .type "BaseException", .type "object"]
section
variable {prog : Program} {w : World} {A : Around} {R : Result → Shared → Prop} {h : Heap} {g : Array GenState} {d : Drawn} {t : Nat} {os : OsState}
variable {nm q : Str} {C N : Addr} {bs : List Value} {hdct : Bool} {sn : List Str} {sub : List Value} {ab : Bool} {col : Option Bool} {dd : Option Addr} {k0 k1 k2 k3 k5 : Option Value}
abbrev excNew (C : Addr) (t : Addr) : Obj := { cls := .ref C, data := .fields #[.ref t, .none, .none, .none, .bool false, .none] }
theorem exc_core {rest : List Value} {fI : Addr} (hC : h.get? C = some (excClassObj nm q C N bs mroE hdct sn sub ab col dd k0 k1 k2 k3 k5 "Exception.__new__"))
    (hi : Looks (model prog w) h (typeLookup (.ref C) "__init__") (some (.ref fI))) (hb : ∀ self, Looks (model prog w) h (bindSpecial (.ref fI) self) (.ref fI, [self])) (hrest : rest.length ≤ sizeLine)
    (hq : codeAny (model prog w) (A.under (.builtin "type.__call__" ⟨.ref C :: rest, []⟩)) (.call (.ref fI) ⟨.ref (h.objs.size + 1) :: rest, []⟩) (InitBack (h.objs.size + 1) R) ⟨(h.push (tupO rest.toArray)).push (excNew C h.objs.size), g, d, t, os⟩) :
    codeAny (model prog w) A (.call (.ref C) ⟨rest, []⟩) R ⟨h, g, d, t, os⟩ := by
  have F := PySem.F.excBase_Exception
  have f1 := tc_lookup
  have f2 := tc_bind (.ref C)
  have hT : (⟨h, g, d, t, os⟩ : Shared).TypeIs (.ref C) "type" := ⟨_, hC, rfl⟩
  refine codeAny_of_tree ?_
  show wpAny _ _ (callAny (.ref C) _) _ _ _
  repeat (any_goals (first | assumption | with_reducible refine wpAny_loadPart_at hC ?_ | wp_step))
  refine ⟨rfl, ?_⟩
  refine codeAny_call_builtin_at (Code.quiet_builtin _ (by decide +kernel)) entry_typeCall (wpAny_check_type_call_sub hC ?_)
  repeat (first | with_reducible refine wpAny_loadPart_at hC ?_ | with_reducible refine wpAny_madeBy_exc hC ?_ | wp_step)
  refine codeAny_call_builtin_code (Code.quiet_builtin _ F.quiet) (wpAny_check_new_sub F hC ?_)
  refine codeAny_exc_new_sub F hC ?_ hrest
  show wpAny _ _ _ _ _ _
  have k : ∀ b o, h.get? b = some o → ((h.push (tupO rest.toArray)).push (excNew C h.objs.size)).get? b = some o := fun b o e => Heap.get?_push_of_some _ (Heap.get?_push_of_some _ e)
  have hC₁ := k _ _ hC
  have hget : ((h.push (tupO rest.toArray)).push (excNew C h.objs.size)).get? (h.objs.size + 1) = some (excNew C h.objs.size) := by heap_get
  have hcC : (Value.ref C :: mroE).contains (.ref C) = true := by simp
  unfold isInstance
  repeat (first | with_reducible refine wpAny_loadPart_at hget ?_ | (with_reducible refine wpAny_isSubtype_exc hC₁ ?_; rw [hcC]) | wp_step)
  show wpAny _ _ (isSubtype (.ref C) (.ref C)) _ _ ⟨(h.push (tupO rest.toArray)).push (excNew C h.objs.size), g, d, t, os⟩
  refine wpAny_isSubtype_exc hC₁ ?_
  rw [hcC]
  have t1 : Looks (model prog w) ((h.push (tupO rest.toArray)).push (excNew C h.objs.size)) (typeOf (.ref (h.objs.size + 1))) (.ref C) := (Looks.ld hget).andThen .now
  have i1 := hi.keeps k
  have b1 := (hb (.ref (h.objs.size + 1))).keeps k
  simp only [Bool.not_true, Bool.false_eq_true, if_false]
  unfold callSpecial? specialOf
  repeat (first | with_reducible refine wpAny_call ?_ | lk)
  refine codeAny_mono hq fun r s' z => ?_
  rcases r with e | (v | _ | _ | _) <;> first | exact z | exact z.elim | skip
  obtain ⟨rfl, z⟩ := z
  exact wpAny_pure (wpAny_pure z)
end

end

section
open PySem PySem.W PyProof.Rows PySem.Calls PySem.Spec

/-! An exception in flight of which more than its class is told: P holds of its object all the way. -/
def KeepP (P : Obj → Prop) : Prop := ∀ (o : Obj) (v : Value), P o → P (o.mapFields (·.setIfInBounds 1 v))
def TrP (P : Obj → Prop) (h base : Heap) (e : Addr) (fl : Value) : Prop :=
  ∃ (oe : Obj) (vs : Array Value) (T : Addr) (oT : Obj) (ts : Array Value), h.get? e = some oe ∧ P oe ∧ oe.data = .fields vs ∧ vs[1]? = some (.ref T) ∧ base.get? T = none ∧ T ≠ e ∧ h.get? T = some oT ∧ oT.data = .fields ts ∧ ts[3]? = some fl
def FlyP (P : Obj → Prop) (base : Heap) (l : List Env) (e : Addr) (fl : Value) (h : Heap) : Prop :=
  base.StaysIn h ∧ base.get? e = none ∧ h.FunFrames base l ∧ TrP P h base e fl
section
variable {M : Model} {A : Around} {E : Value → Shared → Prop} {s : Shared} {P : Obj → Prop} {base : Heap} {env : Env} {outer : List Env} {L e : Addr} {Q : Unit → Shared → Prop}
theorem entryP {oe : Obj} {vs : Array Value} {head : Value} {hadNext : Bool} (hP : KeepP P)
    (hfr : A.frames = some (env :: outer)) (hl : s.heap.FunFrames base (env :: outer)) (hf : env.frame = some L)
    (he : s.heap.get? e = some oe) (hp : P oe) (hkb : base.StaysIn s.heap) (hen : base.get? e = none) (hd : oe.data = .fields vs) (hsz : 1 < vs.size)
    (h : ∀ h', FlyP P base (env :: outer) e (rawInt L) h' → s.heap.UpToSlots h' → Q () { s with heap := h' }) :
    wpAny M A (do let a ← frameOf env; let pl ← entryPlaceOf L hadNext; let b ← EntryCells.newEntry head a .none (rawInt L) .none pl; setField (.ref e) 1 b) Q E s := by
  have offFrames : e ∉ (env :: outer).filterMap (·.frame) := fun hm => by
    obtain ⟨_, o, ho, hnf⟩ := hl.mem hm
    rw [he] at ho
    cases ho
    exact hnf vs hd
  refine wpAny_bind (wpAny_frameOf_fun hfr hl hf fun h₁ hs₁ => ?_)
  refine wpAny_bind (wpAny_entryPlaceOf fun pl hpl => ?_)
  unfold EntryCells.newEntry newFields
  refine wpAny_bind (wpAny_newObj_type ?_ (hpl.sizeOk5 _ _ _ _ _))
  have he₁ : h₁.get? e = some oe := (hs₁.2.1 e offFrames).trans he
  have kb₁ : base.StaysIn h₁ := fun b o hbo => (hs₁.2.1 b fun hm => by rw [(hl.mem hm).1] at hbo; cases hbo).trans (hkb b o hbo)
  generalize hto : ({ cls := .type "traceback", dict := none, data := .fields ([head, .ref L, .none, rawInt L, .none] ++ (if pl.isEmpty then List.replicate 6 Value.none else pl)).toArray } : Obj) = to
  have he₂ := Heap.get?_push_of_some (h := h₁) to he₁
  refine wpAny_setField he₂ hd hsz (h _ ?_ ?_)
  · have hTe : h₁.objs.size ≠ e := Nat.ne_of_gt (Heap.lt_size he₁)
    have hd₃ := Obj.data_mapFields hd (·.setIfInBounds 1 (Value.ref h₁.objs.size))
    have he₃ := Heap.get?_update_self (Obj.mapFields (·.setIfInBounds 1 (Value.ref h₁.objs.size))) he₂ (Obj.isFreed_of_fields hd₃)
    have other : ∀ b o, b ≠ e → h₁.get? b = some o → ((h₁.push to).update e (Obj.mapFields (·.setIfInBounds 1 (Value.ref h₁.objs.size)))).get? b = some o := fun b o hbe hb => by
      rw [Heap.get?_update_other _ _ (Ne.symm hbe)]
      exact Heap.get?_push_of_some _ hb
    refine ⟨fun b o hbo => other b o (fun q => by rw [q, hen] at hbo; cases hbo) (kb₁ b o hbo), hen, hl.of_keeps fun b o hb hnf => ?_, ?_⟩
    · obtain ⟨sl, hs⟩ := hs₁.2.2 b o hb
      exact ⟨_, other b _ (fun q => by rw [q, he] at hb; cases hb; exact hnf vs hd) hs, rfl⟩
    · subst hto
      refine ⟨_, _, h₁.objs.size, _, _, he₃, hP _ _ hp, hd₃, by simp [hsz], kb₁.fresh, hTe, (Heap.get?_update_other _ _ (Ne.symm hTe)).trans (Heap.get?_push_size h₁ rfl), rfl, ?_⟩
      first
        | (simp; done)
        | (rcases hpl with rfl | ⟨_, _, _, _, _, _, _, rfl⟩ <;> simp)
  · intro b o hb hnf
    obtain ⟨sl, hs⟩ := hs₁.2.2 b o hb
    refine ⟨sl, ?_⟩
    have hbe : b ≠ e := fun q => by rw [q, he] at hb; cases hb; exact hnf vs hd
    rw [Heap.get?_update_other _ _ (Ne.symm hbe)]
    exact Heap.get?_push_of_some _ hs
theorem noteFirstP {oe : Obj} {vs : Array Value} (hP : KeepP P) (hfr : A.frames = some (env :: outer)) (hl : s.heap.FunFrames base (env :: outer)) (hf : env.frame = some L)
    (he : s.heap.get? e = some oe) (hp : P oe) (hkb : base.StaysIn s.heap) (hen : base.get? e = none) (hd : oe.data = .fields vs) (h1 : vs[1]? = some .none)
    (h : ∀ h', FlyP P base (env :: outer) e (rawInt L) h' → s.heap.UpToSlots h' → Q () { s with heap := h' }) : wpAny M A (noteFrame (.ref e) env) Q E s := by
  unfold noteFrame
  simp only [hf]
  refine wpAny_bind (wpAny_field he hd h1 ?_)
  rw [if_neg (by decide)]
  exact entryP hP hfr hl hf he hp hkb hen hd (Array.getElem?_eq_some_iff.mp h1).1 h
theorem noteOnP (hP : KeepP P) (hfr : A.frames = some (env :: outer)) (hf : env.frame = some L) (x : FlyP P base (env :: outer) e .none s.heap)
    (h : ∀ h', FlyP P base (env :: outer) e (rawInt L) h' → s.heap.UpToSlots h' → Q () { s with heap := h' }) : wpAny M A (noteFrame (.ref e) env) Q E s := by
  obtain ⟨hkb, hen, hl, oe, vs, T, oT, ts, he, hp, hd, h1, hnT, hTe, hT, hdT, h3⟩ := x
  unfold noteFrame
  simp only [hf]
  refine wpAny_bind (wpAny_field he hd h1 ?_)
  rw [if_pos (show (Value.ref T != Value.none) = true from by simp)]
  refine wpAny_bind (wpAny_field hT hdT h3 ?_)
  rw [if_neg (show ¬ ((Value.none == rawInt L) = true) from by simp [rawInt])]
  refine wpAny_bind (wpAny_setField hT hdT (Array.getElem?_eq_some_iff.mp h3).1 ?_)
  have other : ∀ b, b ≠ T → (s.heap.update T (Obj.mapFields (·.setIfInBounds 3 Value.none))).get? b = s.heap.get? b := fun b hb => Heap.get?_update_other _ _ (Ne.symm hb)
  have offT : ∀ b o, s.heap.get? b = some o → (∀ vs, o.data ≠ .fields vs) → b ≠ T := fun b o hb hnf q => by rw [q, hT] at hb; cases hb; exact hnf ts hdT
  refine entryP hP hfr (hl.of_keeps fun b o hb hnf => ⟨o, (other b (offT b o hb hnf)).trans hb, rfl⟩) hf ((other e (Ne.symm hTe)).trans he) hp
    (fun b o hbo => (other b fun q => by rw [q, hnT] at hbo; cases hbo).trans (hkb b o hbo)) hen hd (Array.getElem?_eq_some_iff.mp h1).1
    fun h' x1 x2 => h h' x1 fun b o hb hnf => x2 b o ((other b (offT b o hb hnf)).trans hb) hnf
theorem landP {l : List Env} {fl : Value} (x : FlyP P base l e fl s.heap)
    (h : ∀ h', FlyP P base l e .none h' → (∀ b o, s.heap.get? b = some o → (∀ vs, o.data ≠ .fields vs) → h'.get? b = some o) → Q () { s with heap := h' }) : wpAny M A (setFlight (.ref e) none) Q E s := by
  obtain ⟨hkb, hen, hl, oe, vs, T, oT, ts, he, hp, hd, h1, hnT, hTe, hT, hdT, h3⟩ := x
  have hsz3 : 3 < ts.size := (Array.getElem?_eq_some_iff.mp h3).1
  have other : ∀ b, b ≠ T → (s.heap.update T (Obj.mapFields (·.setIfInBounds 3 ((none : Option Addr).elim Value.none fun f => rawInt f)))).get? b = s.heap.get? b :=
    fun b hb => Heap.get?_update_other _ _ (Ne.symm hb)
  have offT : ∀ b o, s.heap.get? b = some o → (∀ vs, o.data ≠ .fields vs) → b ≠ T := fun b o hb hnf q => by rw [q, hT] at hb; cases hb; exact hnf ts hdT
  unfold setFlight
  refine wpAny_bind (wpAny_field he hd h1 ?_)
  rw [if_pos (show (Value.ref T != Value.none) = true from by simp)]
  refine wpAny_setField hT hdT hsz3 (h _ ⟨fun b o hbo => (other b fun q => by rw [q, hnT] at hbo; cases hbo).trans (hkb b o hbo), hen,
    hl.of_keeps fun b o hb hnf => ⟨o, (other b (offT b o hb hnf)).trans hb, rfl⟩, oe, vs, T, _, _, (other e (Ne.symm hTe)).trans he, hp, hd, h1, hnT, hTe, Heap.get?_update_self _ hT (Obj.isFreed_of_fields (Obj.data_mapFields hdT _)), Obj.data_mapFields hdT _, by simp [hsz3]⟩ fun b o hb hnf => (other b (offT b o hb hnf)).trans hb)
theorem upTo_of {h h' : Heap} (k : ∀ b o, h.get? b = some o → (∀ vs, o.data ≠ .fields vs) → h'.get? b = some o) : h.UpToSlots h' := fun b o hb hn => ⟨o.slots, k b o hb hn⟩
theorem FlyP.tail {fl : Value} {h : Heap} (x : FlyP P base (env :: outer) e fl h) : FlyP P base outer e fl h := by
  obtain ⟨k1, k2, ⟨_, _, k3⟩, k4⟩ := x
  exact ⟨k1, k2, k3, k4⟩
theorem leaveFirstP {oe : Obj} {vs : Array Value} (hP : KeepP P) (hfr : A.frames = some (env :: outer)) (hl : s.heap.FunFrames base (env :: outer)) (hf : env.frame = some L)
    (he : s.heap.get? e = some oe) (hp : P oe) (hkb : base.StaysIn s.heap) (hen : base.get? e = none) (hd : oe.data = .fields vs) (h1 : vs[1]? = some .none)
    (h : ∀ h', FlyP P base outer e .none h' → s.heap.UpToSlots h' → Q () { s with heap := h' }) : wpAny M A (leaving env (.ref e)) Q E s := by
  unfold leaving
  refine wpAny_bind (noteFirstP hP hfr hl hf he hp hkb hen hd h1 fun h₁ x₁ u₁ => ?_)
  exact landP x₁ fun h₂ x₂ u₂ => h h₂ x₂.tail (u₁.trans (upTo_of u₂))
end

end

section
open PySem PySem.W PyProof.Rows PySem.Calls PySem.Spec

section
variable {M : Model} {A : Around} {E : Value → Shared → Prop} {s : Shared} {env : Env} {P : Obj → Prop} {base : Heap} {outer : List Env} {L e : Addr}
variable {nm q : Str} {C N : Addr} {bs : List Value} {hdct : Bool} {sn : List Str} {sub : List Value} {ab : Bool} {col : Option Bool} {dd : Option Addr} {k0 k1 k2 k3 k5 : Option Value} {newId : String}
/-- An exception that stands ready and was never raised. -/
def Ready (C : Addr) (h : Heap) (e : Addr) : Prop := ∃ oe vs, h.get? e = some oe ∧ oe.cls = .ref C ∧ oe.data = .fields vs ∧ vs[1]? = some .none
theorem raise_inst {x : Sem Value} {Q : Flow → Shared → Prop} (hh : A.handled = none)
    (h : wpAny M A x (fun v s₁ => ∃ e, v = .ref e ∧ s₁.heap.get? C = some (excClassObj nm q C N bs mroE hdct sn sub ab col dd k0 k1 k2 k3 k5 newId) ∧ Ready C s₁.heap e ∧ E (.ref e) s₁) E s) :
    wpAny M A (raiseStmt env (some x) none) Q E s := by
  have hcB : (Value.ref C :: mroE).contains (.type "BaseException") = true := by simp
  unfold raiseStmt
  refine wpAny_bind (wpAny_mono h (fun v s₁ h₁ => ?_) fun _ _ x => x)
  obtain ⟨e, rfl, hC, ⟨oe, vs, he, hcl, hd, hv1⟩, hE⟩ := h₁
  obtain ⟨hp, g, d, tk, os⟩ := s₁
  obtain ⟨oc, od, oda, osl⟩ := oe
  dsimp only at hcl hd
  subst hcl hd
  repeat (first | with_reducible refine wpAny_loadPart_at he ?_ | with_reducible refine wpAny_loadPart_at hC ?_ | (with_reducible refine wpAny_isSubtype_exc hC ?_; rw [hcB]) | wp_step)
  rw [hv1]
  refine wpAny_pure ?_
  rw [if_neg (by decide)]
  exact wpAny_pure (wpAny_raiseNew_none hh hE)
theorem Raise_inst {ex : Expr} {pos : Pos} {Q : Flow → Shared → Prop} (hh : A.handled = none)
    (h : wpAny M A (eval ex env) (fun v s₁ => ∃ e, v = .ref e ∧ s₁.heap.get? C = some (excClassObj nm q C N bs mroE hdct sn sub ab col dd k0 k1 k2 k3 k5 newId) ∧ Ready C s₁.heap e ∧ E (.ref e) s₁) E s) :
    wpAny M A (exec (.Raise (some ex) none pos) env) Q E s := by
  rw [arm_exec_Raise]
  refine wpAny_bind (wpAny_standAt ?_)
  refine raise_inst hh (nm := nm) (q := q) (N := N) (bs := bs) (hdct := hdct) (sn := sn) (sub := sub) (ab := ab) (col := col) (dd := dd) (k0 := k0) (k1 := k1) (k2 := k2) (k3 := k3) (k5 := k5) (newId := newId) (C := C) ?_
  exact wpAny_bind (wpAny_mono h (fun v s₁ h₁ => wpAny_bind (wpAny_standAt (wpAny_pure h₁))) fun _ _ y => y)
end

end

section
open PySem PySem.W PyProof.Rows PySem.Calls PySem.Spec

section
variable {prog : Program} {w : World} {A : Around} {E : Value → Shared → Prop} {s : Shared} {K : Frag} {x C : Addr} {ox : Obj} {od : Option Obj} {name : Str} {expr : Bool} {Q : Value → Shared → Prop}
theorem bga_kind : builtinKind "BaseException.__getattribute__" = some .slot := by decide +kernel
theorem bga_split : splitId "BaseException.__getattribute__" = some ("BaseException", "__getattribute__") := by decide +kernel
theorem getE_value {v : Value} (X : K.In s.heap) (I : InstAt s.heap x ox C od) (hga : findIn K (.ref C) "__getattribute__" = some (some (.builtin "BaseException.__getattribute__"))) (hgn : findIn K (.ref C) "__getattr__" = some none)
    (hsub : subIn K (.ref C) (.type "BaseException") = some true) (hf : findObj K C od name = some (.value v)) (hh : handedIn v = true) (h : Q v { s with toks := s.toks + 1 }) : wpAny (model prog w) A (getAttr (.ref x) name expr) Q E s := by
  obtain ⟨hp, g, d, t, os⟩ := s
  have L0 := I.type (M := model prog w)
  have L1 := looks_findIn (M := model prog w) X hga
  have L2 := looks_findIn (M := model prog w) X hgn
  have L3 : Looks (model prog w) hp (isInstance (.ref x) (.type "BaseException")) true := L0.andThen (looks_subIn X hsub)
  have L4 := looks_find (M := model prog w) X I hf
  unfold getAttr getAttrBy
  refine wpAny_bind (wpAny_mkText (wpAny_holding (wpAny_bind (L0.at (wpAny_bind (L1.at ?_))))))
  show wpAny _ _ (getAttrByItsOwn _ _ _ _ _ _) _ _ _
  unfold getAttrByItsOwn hookBefore
  refine wpAny_bind (L2.at ?_)
  refine wpAny_bind (wpAny_attempt ?_)
  refine wpAny_holding ?_
  have e0 : callGetattribute (.ref x) (.str name t) (.builtin "BaseException.__getattribute__") expr = boundAndCalled (.builtin "BaseException.__getattribute__") (.ref x) (.str name t) := by
    unfold callGetattribute
    rw [if_neg (by cases expr <;> simp [onTheHeap])]
  show wpAny _ _ (callGetattribute (.ref x) (.str name t) (.builtin "BaseException.__getattribute__") expr) _ _ _
  rw [e0]
  unfold boundAndCalled
  rw [PySem.F.attr_Exception.ga.bind]
  refine wpAny_bind (wpAny_pure ?_)
  refine wpAny_call (codeAny_call_builtin PySem.F.attr_Exception.ga.plain PySem.F.entry_bexc_ga (@check_slot (model prog w) _ _ _ "BaseException.__getattribute__" "BaseException" "__getattribute__" (.ref x) [.str name t] [] _ bga_kind bga_split L3 (PySem.F.args_bexc_ga (.ref x) (.str name t)) ?_))
  refine wpAny_bind (wpAny_pure ?_)
  refine wpAny_bind (wpAny_pure ?_)
  refine wpAny_bind (L0.at (wpAny_bind (L4.at ?_)))
  refine wpAny_pure ?_
  show wpAny _ _ (handedOut v) _ _ _
  rw [handedOut_of hh]
  exact wpAny_pure h
end

end

section
open PySem PySem.W PyProof.Rows PySem.Calls PySem.Spec Builtin Builtin.ObjectAttr

/-- A dict object that holds the names of m. -/
def DictObj (o : Obj) (m : Str → Option Value) : Prop := ∃ es ep, o.data = .dict es ep ∧ StrKeys es ∧ UniqKeys es ∧ ∀ name, nsFind es name = m name
theorem DictObj.ns1 {h : Heap} {a : Addr} {o : Obj} {m : Str → Option Value} (x : DictObj o m) (e : h.get? a = some o) : h.Ns1 a m := let ⟨es, ep, hd, r⟩ := x; ⟨o, es, ep, e, hd, r⟩
theorem dictObj_of {h : Heap} {a : Addr} {m : Str → Option Value} (x : h.Ns1 a m) : ∃ o, h.get? a = some o ∧ DictObj o m := let ⟨o, es, ep, e, hd, r⟩ := x; ⟨o, e, es, ep, hd, r⟩
theorem lookIn_dictObj {o : Obj} {m : Str → Option Value} {name : Str} {v : Value} (x : DictObj o m) (hv : m name = some v) : lookIn name o = some (some v) := by
  obtain ⟨es, ep, hd, _, _, hf⟩ := x
  have h1 := hf name
  rw [hv] at h1
  unfold lookIn
  rw [hd]
  dsimp only
  unfold nsFind findBy at h1
  rw [← Array.find?_toList] at h1
  cases q : es.toList.find? (·.key.isStr name) with
  | none => rw [q] at h1; cases h1
  | some en => rw [q] at h1; simp only [Option.map_some] at h1; show some (some en.val) = some (some v); rw [h1]
section
variable {prog : Program} {w : World} {A : Around} {E : Value → Shared → Prop} {h : Heap} {g : Array GenState} {d : Drawn} {t : Nat} {os : OsState}
variable {nm q : Str} {C N x : Addr} {bs : List Value} {sn : List Str} {sub : List Value} {ab : Bool} {col : Option Bool} {dd : Option Addr} {k0 k1 k2 k3 k5 : Option Value} {newId : String}
  {mN : Str → Option Value} {name : Str} {v : Value}
/-- The first store: the dict is made. -/
theorem store_first {o : Obj} {Q : Unit → Shared → Prop}
    (hC : h.get? C = some (excClassObj nm q C N bs mroE true sn sub ab col dd k0 k1 k2 k3 k5 newId)) (hn : h.Ns N mN) (hns : mN "__setattr__" = none) (hna : mN name = none)
    (hB : typeLookup (.type "Exception") name = pure none) (hx : h.get? x = some o) (hc : o.cls = .ref C) (hnc : ∀ c, o.data ≠ .cls c) (hdn : o.dict = none)
    (hq : ∀ h' tk' od, h'.get? x = some { o with dict := some h.objs.size } → h'.get? h.objs.size = some od → DictObj od (fun y => if y = name then some v else none) → (∀ b ob, b ≠ x → h.get? b = some ob → h'.get? b = some ob) → Q () ⟨h', g, d, tk', os⟩) :
    wpAny (model prog w) A (setAttr (.ref x) name v) Q E ⟨h, g, d, t, os⟩ := by
  have SF := PySem.F.store_Exception
  have f3 := SF.slot.bind (.ref x)
  have hpass := SF.passes (.ref x)
  unfold setAttr callSpecial? specialOf
  repeat (any_goals (first | assumption | (with_reducible refine wpAny_loadPart_at hx ?_; rw [hc]) | (with_reducible refine wpAny_typeLookup_exc hC hn SF.mro SF.slot.lookup ?_; rw [hns]) | wp_step))
  refine codeAny_call_builtin SF.slot.plain SF.entry (wpAny_check_sa SF hC hx hc ?_)
  unfold Builtin.«object.__setattr__»
  repeat (first | rw [refuse_eq] | (rw [refuseLoop_ref, hpass]) | (with_reducible refine wpAny_loadPart_at hx ?_; rw [hc]) | with_reducible refine wpAny_mroOf_exc hC ?_ | (with_reducible refine wpAny_typeLookup_exc hC hn SF.mro hB ?_; rw [hna]) | wp_step)
  rw [hdn, if_neg (by simp [typeHasDict])]
  split
  · rename_i hcd
    cases hcd
  split
  · rename_i c hcd
    exact absurd hcd (hnc c)
  · have hx₁ : (h.push { cls := .type "dict", data := .dict #[] }).get? x = some o := Heap.get?_push_of_some _ hx
    have hxs : x ≠ h.objs.size := Nat.ne_of_lt (Heap.lt_size hx)
    refine wpAny_bind (wpAny_alloc' ?_)
    refine wpAny_bind (wpAny_update' hx₁ ?_)
    refine wpAny_pure ?_
    have hgd : ((h.push { cls := .type "dict", data := .dict #[] }).update x fun o => { cls := o.cls, dict := some h.objs.size, data := o.data, slots := o.slots }).get? h.objs.size
        = some { cls := .type "dict", data := .dict #[] } :=
      (Heap.get?_update_ne _ _ _ _ hxs.symm).trans (Heap.get?_push_at rfl rfl)
    have hnd : ((h.push { cls := .type "dict", data := .dict #[] }).update x fun o => { cls := o.cls, dict := some h.objs.size, data := o.data, slots := o.slots }).Ns h.objs.size (fun _ => none) :=
      ⟨_, #[], _, hgd, rfl, fun e he => absurd he (by simp), fun _ => rfl⟩
    show wpAny _ _ (storeInDict h.objs.size (.str name _) name v) _ _ _
    unfold storeInDict newKeyGuard
    refine wpAny_bind (wpAny_pure (wpAny_bind (wpAny_nsSet1 (Heap.Ns1.of_empty hnd) fun h' hn' hs => ?_)))
    obtain ⟨oD, esD, epD, hoD, hdD, hcD⟩ := hn'.count (Within.cons name v Within.nil)
    refine wpAny_bind (wpAny_lookBehind hoD (by rw [hdD]; exact pastItsLine_dict (Nat.le_trans hcD (by rw [List.length_cons, List.length_nil, sizeLine_eq]; omega))) ?_)
    obtain ⟨od, hod, hDO⟩ := dictObj_of hn'
    have hx' : h'.get? x = some { o with dict := some h.objs.size } := by
      refine (hs.2 x hxs).trans (Heap.get?_update_self _ hx₁ ?_)
      have hfr := (Heap.get?_some_iff.mp hx).2
      obtain ⟨oc, od, odt, osl⟩ := o
      cases odt <;> first | rfl | exact hfr
    have fin := fun tk' => hq h' tk' od hx' hod hDO fun b ob hbx hb => (hs.2 b (Nat.ne_of_lt (Heap.lt_size hb))).trans ((Heap.get?_update_ne _ _ _ _ hbx).trans (Heap.get?_push_of_some _ hb))
    repeat (any_goals (first | assumption | wp_step))
    exact fin _
/-- A later store. -/
theorem store_more {o od : Obj} {dx : Addr} {mA : Str → Option Value} {ns : List Str} {Q : Unit → Shared → Prop}
    (hC : h.get? C = some (excClassObj nm q C N bs mroE true sn sub ab col dd k0 k1 k2 k3 k5 newId)) (hn : h.Ns N mN) (hns : mN "__setattr__" = none) (hna : mN name = none)
    (hB : typeLookup (.type "Exception") name = pure none) (hxC : x ≠ C) (hx : h.get? x = some o) (hc : o.cls = .ref C) (hnc : ∀ c, o.data ≠ .cls c) (hdx : o.dict = some dx) (hne : dx ≠ x) (hod : h.get? dx = some od) (hD : DictObj od mA) (hw : Within mA ns) (hsz : ns.length ≤ 1000)
    (hq : ∀ h' tk' od', h'.get? dx = some od' → DictObj od' (fun y => if y = name then some v else mA y) → (∀ b ob, b ≠ dx → h.get? b = some ob → h'.get? b = some ob) → Q () ⟨h', g, d, tk', os⟩) :
    wpAny (model prog w) A (setAttr (.ref x) name v) Q E ⟨h, g, d, t, os⟩ := by
  refine store_attr PySem.F.store_Exception hC hn hns hna hB hxC ⟨o, hx, hc, hnc, .inr ⟨dx, hdx, hne, hD.ns1 hod⟩⟩ (fun h' tk' I' hk hsame => ?_) hw (by rw [sizeLine_eq]; omega)
  obtain ⟨o₁, hx₁, e1, e2, e3, e4⟩ := hsame o hx
  have ho : o₁ = o := by
    obtain ⟨a1, a2, a3, a4⟩ := o₁
    obtain ⟨b1, b2, b3, b4⟩ := o
    simp only at e1 e2 e3 hdx
    have := e4 dx hdx
    simp only at this
    subst e1 e2 e3
    rw [hdx, this]
  subst ho
  obtain ⟨o₂, hx₂, _, _, hd₂⟩ := I'
  rw [hx₁] at hx₂
  cases hx₂
  rcases hd₂ with ⟨hdn, _⟩ | ⟨d₂, hd₂, _, hN₂⟩
  · rw [hdx] at hdn; cases hdn
  · rw [hdx] at hd₂
    cases hd₂
    obtain ⟨od', hod', hDO⟩ := dictObj_of hN₂
    refine hq h' tk' od' hod' hDO fun b ob hb hg => ?_
    by_cases hbx : b = x
    · subst hbx
      rw [hx] at hg
      cases hg
      exact hx₁
    · exact hk b ob hbx (fun o₀ dx' e0 e1 => by rw [hx] at e0; cases e0; rw [hdx] at e1; cases e1; exact hb) hg
end

end

section
open PySem PySem.W PyProof.Rows PySem.Calls PySem.Spec

/-- An own exception class right under Exception with an own __init__, as the text's top has left it. -/
structure NagK (K : Frag) (C N fI : Addr) : Prop where
  obj : ∃ nm q bs sn sub ab col dd k0 k1 k2 k3 k5, K.lookup C = some (excClassObj nm q C N bs mroE true sn sub ab col dd k0 k1 k2 k3 k5 "Exception.__new__")
  nsok : nsOkIn K N = true
  noSet : nsIn K N "__setattr__" = some none
  init : findIn K (.ref C) "__init__" = some (some (.ref fI))
  fn : typeIn K (.ref fI) = some (.type "function")
section
variable {prog : Program} {w : World} {A : Around} {E : Value → Shared → Prop} {s : Shared} {K : Frag} {C Nn fI L x : Addr} {h₀ : Heap} {m : Str → Option Value} {news : List (Addr × Obj)}
theorem call_excH {pos : List Value} {Q : Value → Shared → Prop} (F : Fr h₀ L s.heap m) (X₀ : K.In h₀) (NK : NagK K C Nn fI) (hz : pos.length ≤ 1000)
    (h : ∀ x t h', s.heap.StaysIn h' → s.heap.objs.size ≤ t → t < x → Fr h₀ L h' m → News h₀ L h' [(x, excNew C t), (t, tupO pos.toArray)] →
      codeAny (model prog w) (A.under (.builtin "type.__call__" ⟨.ref C :: pos, []⟩)) (.call (.ref fI) ⟨.ref x :: pos, []⟩) (InitBack x fun r s' => match r with | .ok (.ret v) => Q v s' | .ok _ => False | .error e => E e s') { s with heap := h' }) :
    wpAny (model prog w) A (call (.ref C) pos []) Q E s := by
  have X := X₀.keeps F.keep
  obtain ⟨⟨nm, q, bs, sn, sub, ab, col, dd, k0, k1, k2, k3, k5, hC⟩, _, _, hi, hf⟩ := NK
  refine wpAny_call ?_
  obtain ⟨hh, g, d, t, os⟩ := s
  refine exc_core (X _ _ hC) (looks_findIn X hi) (fun self => bind_fn X self hf) (by rw [PySem.sizeLine_eq]; omega)
    (h _ hh.objs.size _ (fun b o e => Heap.get?_push_of_some _ (Heap.get?_push_of_some _ e)) (Nat.le_refl _) (Nat.lt_succ_self _) ((F.push _).push _) ?_)
  have := ((News.nil (h₀ := h₀) (h := hh) (L := L)).push F (tupO pos.toArray)).push (F.push _) (excNew C hh.objs.size)
  rwa [Heap.size_push] at this
theorem setE_first {name : Str} {v : Value} {o : Obj} {vs : Array Value} {news' : Addr → List (Addr × Obj)} {Q : Unit → Shared → Prop} (F : Fr h₀ L s.heap m) (X₀ : K.In h₀) (N : News h₀ L s.heap news) (NK : NagK K C Nn fI)
    (hn : nsIn K Nn name = some none) (hB : typeLookup (.type "Exception") name = pure none) (hc : o.cls = .ref C) (hd : o.data = .fields vs) (hdn : o.dict = none) (U : ∀ dx, Upd x o { o with dict := some dx } news (news' dx))
    (h : ∀ dx od h' tk, Fr h₀ L h' m → News h₀ L h' ((dx, od) :: news' dx) → (∀ p ∈ news, p.1 < dx) → DictObj od (fun y => if y = name then some v else none) → Q () { s with heap := h', toks := tk }) :
    wpAny (model prog w) A (setAttr (.ref x) name v) Q E s := by
  have X := X₀.keeps F.keep
  obtain ⟨⟨nm, q, bs, sn, sub, ab, col, dd, k0, k1, k2, k3, k5, hC⟩, hok, hns, _, _⟩ := NK
  obtain ⟨hh, g, d, t, os⟩ := s
  have hmem : (x, o) ∈ news := by
    obtain ⟨pre, post, rfl, _, _, _⟩ := (U 0).split
    exact List.mem_append.mpr (.inr (.head _))
  have hx := N.get hmem
  refine store_first (X _ _ hC) (.of_isNs (isNs_of_in X hok)) (nsMap_none_of_in X hok hns) (nsMap_none_of_in X hok hn) hB hx hc (fun c q => by rw [hd] at q; cases q) hdn fun h' tk' od hx' hod hDO hk => ?_
  have hsL : L ≠ x := fun q => (N _ hmem).2.1 q.symm
  have F' : Fr h₀ L h' m := ⟨F.ns.at' fun o e => hk _ o hsL e, fun b o e => hk b o (fun q => by rw [q, (N _ hmem).2.2] at e; cases e) (F.keep b o e), F.above⟩
  refine h _ od h' tk' F' ?_ (fun p hp => Heap.lt_size (N p hp).1) hDO
  obtain ⟨pre, post, e1, e2, a, b⟩ := (U hh.objs.size).split
  intro p hp
  rcases List.mem_cons.mp hp with rfl | hp
  · refine ⟨hod, Nat.ne_of_gt F.ns.lt, ?_⟩
    exact next_is_new F
  · rw [e2] at hp
    rcases List.mem_append.mp hp with hp | hp
    · have z := N p (by rw [e1]; exact List.mem_append.mpr (.inl hp))
      exact ⟨hk _ _ (a p hp) z.1, z.2⟩
    · rcases List.mem_cons.mp hp with rfl | hp
      · exact ⟨hx', (N _ hmem).2⟩
      · have z := N p (by rw [e1]; exact List.mem_append.mpr (.inr (.tail _ hp)))
        exact ⟨hk _ _ (b p hp) z.1, z.2⟩
theorem setE_more {name : Str} {v : Value} {o od : Obj} {dx : Addr} {vs : Array Value} {mA : Str → Option Value} {ns : List Str} {news' : Obj → List (Addr × Obj)} {Q : Unit → Shared → Prop} (F : Fr h₀ L s.heap m) (X₀ : K.In h₀) (N : News h₀ L s.heap news) (NK : NagK K C Nn fI)
    (hn : nsIn K Nn name = some none) (hB : typeLookup (.type "Exception") name = pure none) (hm : (x, o) ∈ news) (hc : o.cls = .ref C) (hd : o.data = .fields vs) (hdx : o.dict = some dx) (hne : dx ≠ x) (hD : DictObj od mA) (hw : Within mA ns) (hsz : ns.length ≤ 1000) (U : ∀ od', Upd dx od od' news (news' od'))
    (h : ∀ od' h' tk, Fr h₀ L h' m → News h₀ L h' (news' od') → DictObj od' (fun y => if y = name then some v else mA y) → Q () { s with heap := h', toks := tk }) :
    wpAny (model prog w) A (setAttr (.ref x) name v) Q E s := by
  have X := X₀.keeps F.keep
  obtain ⟨⟨nm, q, bs, sn, sub, ab, col, dd, k0, k1, k2, k3, k5, hC⟩, hok, hns, _, _⟩ := NK
  obtain ⟨hh, g, d, t, os⟩ := s
  have hmem : (dx, od) ∈ news := by
    obtain ⟨pre, post, rfl, _, _, _⟩ := (U od).split
    exact List.mem_append.mpr (.inr (.head _))
  have hx := N.get hm
  have hxC : x ≠ C := fun q => by
    have := (N _ hm).2.2
    rw [q, X₀ _ _ hC] at this
    cases this
  refine store_more (X _ _ hC) (.of_isNs (isNs_of_in X hok)) (nsMap_none_of_in X hok hns) (nsMap_none_of_in X hok hn) hB hxC hx hc (fun c q => by rw [hd] at q; cases q) hdx hne (N.get hmem) hD hw hsz fun h' tk' od' hod' hDO hk => ?_
  have hsL : L ≠ dx := fun q => (N _ hmem).2.1 q.symm
  have F' : Fr h₀ L h' m := ⟨F.ns.at' fun o e => hk _ o hsL e, fun b o e => hk b o (fun q => by rw [q, (N _ hmem).2.2] at e; cases e) (F.keep b o e), F.above⟩
  refine h od' h' tk' F' ?_ hDO
  obtain ⟨pre, post, e1, e2, a, b⟩ := (U od').split
  intro p hp
  rw [e2] at hp
  rcases List.mem_append.mp hp with hp | hp
  · have z := N p (by rw [e1]; exact List.mem_append.mpr (.inl hp))
    exact ⟨hk _ _ (a p hp) z.1, z.2⟩
  · rcases List.mem_cons.mp hp with rfl | hp
    · exact ⟨hod', (N _ hmem).2⟩
    · have z := N p (by rw [e1]; exact List.mem_append.mpr (.inr (.tail _ hp)))
      exact ⟨hk _ _ (b p hp) z.1, z.2⟩
/-- An attribute of an exception of the ledger. -/
theorem getE_led {name : Str} {v : Value} {o od : Obj} {dx : Addr} {vs : Array Value} {mA : Str → Option Value} {expr : Bool} {Q : Value → Shared → Prop} (F : Fr h₀ L s.heap m) (X₀ : K.In h₀) (N : News h₀ L s.heap news)
    (hga : findIn K (.ref C) "__getattribute__" = some (some (.builtin "BaseException.__getattribute__"))) (hgn : findIn K (.ref C) "__getattr__" = some none) (hsub : subIn K (.ref C) (.type "BaseException") = some true) (hna : findIn K (.ref C) name = some none) (hhd : hasDictIn K C = true)
    (hm : (x, o) ∈ news) (hmd : (dx, od) ∈ news) (hc : o.cls = .ref C) (hd : o.data = .fields vs) (hdx : o.dict = some dx) (hD : DictObj od mA) (hv : mA name = some v) (hh : handedIn v = true) (h : Q v { s with toks := s.toks + 1 }) :
    wpAny (model prog w) A (getAttr (.ref x) name expr) Q E s := by
  have X := X₀.keeps F.keep
  refine getE_value (ox := o) (od := some od) X ⟨N.get hm, hc, by unfold notCls; rw [hd], by rw [hdx]; exact N.get hmd⟩ hga hgn hsub (findObj_own hhd hna rfl (lookIn_dictObj hD hv)) hh h
end

end

section
open PySem PySem.W PyProof.Rows PySem.Calls PySem.Spec

/-! An own exception goes up through frames that catch it and raise it on. -/
abbrev frs (l : List Env) : List Addr := l.filterMap (·.frame)
def IsNag (C dx : Addr) (o : Obj) : Prop := o.cls = .ref C ∧ o.dict = some dx ∧ ∃ vs, o.data = .fields vs ∧ vs[2]? = some .none
theorem isNag_keep {C dx : Addr} : KeepP (IsNag C dx) := by
  rintro ⟨oc, od, dt, sl⟩ v ⟨h1, h2, vs, h3, h4⟩
  simp only at h1 h2 h3
  subst h1 h2 h3
  exact ⟨rfl, rfl, _, rfl, by rw [Array.getElem?_setIfInBounds_ne (by decide)]; exact h4⟩
structure Aloft (h : Heap) (xs : List Addr) (l : List Env) (C x dx : Addr) (fl : Value) (own : List (Addr × Obj)) (h' : Heap) : Prop where
  ex : ∃ B, (∀ b o, h.get? b = some o → b ∉ xs → b ∉ frs l → B.get? b = some o) ∧ (∀ p ∈ own, B.get? p.1 = some p.2) ∧ FlyP (IsNag C dx) B l x fl h'
  slots : ∀ b o, h.get? b = some o → b ∉ xs → (∀ vs, o.data ≠ .fields vs) → ∃ sl, h'.get? b = some { o with slots := sl }
theorem frs_mem {env : Env} {outer : List Env} {L b : Addr} (hf : env.frame = some L) (hm : b ∈ frs (env :: outer)) : b = L ∨ b ∈ frs outer := by
  unfold frs at hm
  rw [List.filterMap_cons, hf] at hm
  exact List.mem_cons.mp hm
section
variable {M : Model} {A A₀ A₁ : Around} {E : Value → Shared → Prop} {s : Shared} {base g g₀ G G₀ : Heap} {env : Env} {outer : List Env} {L x dx T C : Addr} {m : Str → Option Value} {news own : List (Addr × Obj)} {xs : List Addr} {ox oT : Obj} {vs ts : Array Value}
theorem off_frs (K : Below A₀ base outer g) (F : Fr g L G m) (hf : env.frame = some L) {b : Addr} (hg : g.get? b = none) (hL : b ≠ L) : b ∉ frs (env :: outer) := fun hm => by
  rcases frs_mem hf hm with z | z
  · exact hL z
  · obtain ⟨_, o, ho, _⟩ := K.frames.mem z
    rw [hg] at ho; cases ho
theorem in_frs (F : Fr g L G m) (hf : env.frame = some L) {b : Addr} {o : Obj} (hg : g.get? b = some o) (hn : b ∉ frs outer) : b ∉ frs (env :: outer) := fun hm => by
  rcases frs_mem hf hm with z | z
  · rw [z, kts_self F] at hg; cases hg
  · exact hn z
theorem frs_in {l : List Env} {b : Addr} {e : Env} (he : e ∈ l) (hf : e.frame = some b) : b ∈ frs l := List.mem_filterMap.mpr ⟨e, he, hf⟩
/-- What stands in a hidden heap: all but the exception, its traceback and the frames. -/
theorem hid_frames (hke : env.scope.kind = .function) (K : Below A₀ base outer g) (F : Fr g L G m) (hf : env.frame = some L) (ys : List Addr) : G.FunFrames (hideAll G (ys ++ frs (env :: outer))) (env :: outer) :=
  funFrames_hide (pushX K F hf hke).frames fun e he b hb => List.mem_append.mpr (.inr (frs_in he hb))
theorem hid_keep (F : Fr g L G m) (hf : env.frame = some L) {ys : List Addr} (hy : ∀ y ∈ ys, g.get? y = none) {b : Addr} {o : Obj} (hg : g.get? b = some o) (hn : b ∉ frs outer) : (hideAll G (ys ++ frs (env :: outer))).get? b = some o :=
  hideAll_get _ (F.keep _ _ hg) fun hm => (List.mem_append.mp hm).elim (fun z => by rw [hy b z] at hg; cases hg) (in_frs F hf hg hn)
theorem hid_own (K : Below A₀ base outer g) (F : Fr g L G m) (hf : env.frame = some L) (N : News g L G news) {ys : List Addr} {p : Addr × Obj} (hp : p ∈ news) (hy : p.1 ∉ ys) : (hideAll G (ys ++ frs (env :: outer))).get? p.1 = some p.2 :=
  hideAll_get _ (N p hp).1 fun hm => (List.mem_append.mp hm).elim hy (off_frs K F hf (N p hp).2.2 (N p hp).2.1)
theorem hid_none {G : Heap} {ys zs : List Addr} {y : Addr} (hy : y ∈ ys) : (hideAll G (ys ++ zs)).get? y = none := hideAll_none _ (List.mem_append.mpr (.inl hy))
theorem aloft_of {fl : Value} {ys : List Addr} {h' : Heap} (K : Below A₀ base outer g) (F : Fr g L G m) (hf : env.frame = some L) (N : News g L G news) (hy : ∀ y ∈ ys, g.get? y = none) (hown : ∀ p ∈ own, p ∈ news ∧ p.1 ∉ ys)
    (stG : ∀ b o, G₀.get? b = some o → b ∉ xs → g₀.get? b = some o) (T0 : KtsTurn (frs outer) g₀ g) (fly : FlyP (IsNag C dx) (hideAll G (ys ++ frs (env :: outer))) outer x fl h')
    (up : ∀ b o, b ≠ L → G.get? b = some o → (∀ vs, o.data ≠ .fields vs) → ∃ sl, h'.get? b = some { o with slots := sl }) : Aloft G₀ xs outer C x dx fl own h' := by
  refine ⟨⟨_, fun b o e hb hn => hid_keep F hf hy (T0.other b o (stG b o e hb) hn) hn, fun p hp => hid_own K F hf N (hown p hp).1 (hown p hp).2, fly⟩, fun b o e hb hnf => ?_⟩
  obtain ⟨s1, h1⟩ := T0.up (stG b o e hb)
  obtain ⟨s2, h2⟩ := up b _ (fun q => by rw [q, kts_self F] at h1; cases h1) (F.keep _ _ h1) hnf
  exact ⟨s2, h2⟩
theorem leaveP_first {Q : Unit → Shared → Prop} (hA : A.frames = some (env :: outer)) (hf : env.frame = some L) (hke : env.scope.kind = .function) (K : Below A₀ base outer g) (F : Fr g L s.heap m) (N : News g L s.heap news)
    (stG : ∀ b o, G₀.get? b = some o → b ∉ xs → g.get? b = some o) (hx : (x, ox) ∈ news) (hp : IsNag C dx ox) (hd : ox.data = .fields vs) (h1 : vs[1]? = some .none) (hown : ∀ p ∈ own, p ∈ news ∧ p.1 ≠ x)
    (h : ∀ h', Aloft G₀ xs outer C x dx .none own h' → Q () { s with heap := h' }) : wpAny M A (leaving env (.ref x)) Q E s := by
  refine leaveFirstP (base := hideAll s.heap ([x] ++ frs (env :: outer))) isNag_keep hA (hid_frames hke K F hf _) hf (N.get hx) hp (fun b o e => of_hideAll _ e) (hid_none (.head _)) hd h1 fun h' fly up => h h' ?_
  exact aloft_of K F hf N (fun y hy => by rw [List.mem_singleton.mp hy]; exact (N _ hx).2.2) (fun p hp => ⟨(hown p hp).1, fun q => (hown p hp).2 (List.mem_singleton.mp q)⟩) stG .refl fly fun b o _ e hn => up b o e hn
end
section
variable {M : Model} {A A₁ : Around} {E : Value → Shared → Prop} {s : Shared} {B : Heap} {env : Env} {outer : List Env} {L x : Addr} {P : Obj → Prop}
end
section
variable {M : Model} {A A₀ A₁ : Around} {E : Value → Shared → Prop} {s : Shared} {base g g₀ G G₀ : Heap} {env : Env} {outer : List Env} {L x dx T C : Addr} {m : Str → Option Value} {news own : List (Addr × Obj)} {xs : List Addr} {ox oT : Obj} {vs ts : Array Value}
theorem ground_at {h₅ B : Heap} (K : Below A₀ base outer g) (F : Fr g L G m) (hf : env.frame = some L) (hxs : ∀ y ∈ xs, g.get? y = none ∧ y ≠ L) (hBG : ∀ b o, G.get? b = some o → b ∉ xs → b ∉ frs (env :: outer) → B.get? b = some o) (hBh : B.StaysIn h₅)
    (hsm : ∀ b o, G.get? b = some o → b ∉ xs → (∀ vs, o.data ≠ .fields vs) → ∃ sl, h₅.get? b = some { o with slots := sl }) :
    KtsTurn (frs outer) g (ktsHeap h₅ (frs outer) g) ∧ Fr (ktsHeap h₅ (frs outer) g) L h₅ m ∧ Below A₀ base outer (ktsHeap h₅ (frs outer) g) := by
  have offx : ∀ b o, g.get? b = some o → b ∉ xs := fun b o e hm => by rw [(hxs b hm).1] at e; cases e
  obtain ⟨T, S⟩ := kts_turn_at (h := h₅) (fs := frs outer) (g := g)
    (fun b hb => by
      obtain ⟨_, o, ho, _⟩ := K.frames.mem hb
      exact ⟨o, ho⟩)
    (fun b o e nm => hBh b o (hBG b o (F.keep b o e) (offx b o e) (in_frs F hf e nm)))
    (fun b o e hm => by
      obtain ⟨_, o', ho', hd⟩ := K.frames.mem hm
      rw [e] at ho'
      cases ho'
      exact hsm b o (F.keep b o e) (offx b o e) hd)
  have hns : h₅.Ns L m := by
    obtain ⟨oL, es, ep, hL, hLd, hLk, hLf⟩ := F.ns
    obtain ⟨sl, e⟩ := hsm L oL hL (fun hm => (hxs L hm).2 rfl) (fun vs q => by rw [hLd] at q; cases q)
    exact ⟨_, es, ep, e, hLd, hLk, hLf⟩
  refine ⟨T, ⟨hns, S, by rw [T.size]; exact F.above⟩, ⟨K.stack, fun b o e => T.other b o (K.stays b o e) (fun hm => by
    rw [(K.frames.mem hm).1] at e
    cases e), K.frames.of_keeps fun b o e _ => ?_⟩⟩
  obtain ⟨sl, hs⟩ := T.up e
  exact ⟨_, hs, rfl⟩
end
section
variable {prog : Program} {w : World} {A A₀ : Around} {E : Value → Shared → Prop} {s : Shared} {base g G : Heap} {env : Env} {outer : List Env} {L x dx C Nn fI : Addr} {m : Str → Option Value} {news own rest : List (Addr × Obj)} {xs : List Addr} {KF : Frag}
  {p : Program} {loose : List Str} {mean : ExcName → Option Value} {mg mb : Str → Option Value}
/-- An own exception is caught under a name. -/
theorem catch_as {t : Expr} {n : Str} {b₀ : Stmt} {suite : List Stmt} {pos : Pos} {hs : List ExceptHandler} {Q : Flow → Shared → Prop} (hA : A.frames = some (env :: outer)) (hf : env.frame = some L) (hlo : env.locals = L) (hke : env.scope.kind = .function) (hk : env.kindOf n = some .local)
    (NK : NagK KF C Nn fI) (K : Below A₀ base outer g) (XB : KF.In base) (TB : Top p loose mean mg mb base) (F : Fr g L G m) (N : News g L G news) (hxs : ∀ y ∈ xs, g.get? y = none ∧ y ≠ L) (hx : x ∈ xs)
    (al : Aloft G xs (env :: outer) C x dx .none own s.heap) (hrest : ∀ p ∈ rest, p ∈ news ∧ p.1 ∉ xs) (hown : ∀ p ∈ own, ∀ b o, G.get? b = some o → b ∉ xs → b ≠ p.1)
    (hev : ∀ (E' : Value → Shared → Prop) (s5 : Shared) (g5 : Heap), Fr g5 L s5.heap m → KF.In g5 → Top p loose mean mg mb g5 → wpAny (model prog w) (A.mark (some (.ref x))) (eval t env) (fun c s₁ => c = .ref C ∧ s₁ = s5) E' s5)
    (h : ∀ h' tk g' (T : Addr) (ox oT : Obj) (vs ts : Array Value), KtsTurn (frs outer) g g' → (frs outer = [] → g' = g) → Fr g' L h' (fun y => if y = n then some (.ref x) else m y) → News g' L h' ((x, ox) :: (T, oT) :: (own ++ rest)) →
      IsNag C dx ox → ox.data = .fields vs → vs[1]? = some (.ref T) → T ≠ x → oT.data = .fields ts → ts[3]? = some .none → (∀ p ∈ own ++ rest, p.1 ≠ T ∧ p.1 ≠ x) → Below A₀ base outer g' → KF.In g' → Top p loose mean mg mb g' →
      wpAny (model prog w) (A.mark (some (.ref x))) (execs (b₀ :: suite) env) (fun f s₄ => wpAny (model prog w) A (do bindName env n .none; unbindBehindTheSuite env n pos) (fun _ s₅ => Q f s₅) E s₄)
        (AsSuiteRaised (model prog w) (A.mark (some (.ref x))) env n pos (notedBy (model prog w) (A.mark (some (.ref x))) env (cameBackBy (model prog w) A env E))) { s with heap := h', toks := tk }) :
    wpAny (model prog w) A (noteFrame (.ref x) env) (fun _ s₂ => wpAny (model prog w) A (setFlight (.ref x) none) (fun _ s₃ =>
        wpAny (model prog w) A (handleBy (.ref x) env (.ExceptHandler (some t) (some n) (b₀ :: suite) pos :: hs)) Q E s₃) E s₂) E s := by
  subst hlo
  obtain ⟨⟨B, hBG, hBown, fly⟩, slots⟩ := al
  have offx : ∀ b o, g.get? b = some o → b ∉ xs := fun b o e hm => by rw [(hxs b hm).1] at e; cases e
  refine noteOnP isNag_keep hA hf fly fun h4 fly4 up4 => ?_
  refine landP (s := { s with heap := h4 }) fly4 fun h5 fly5 k5 => ?_
  have up5 : ∀ b o, G.get? b = some o → b ∉ xs → (∀ vs, o.data ≠ .fields vs) → ∃ sl, h5.get? b = some { o with slots := sl } := fun b o e hb hn => by
    obtain ⟨s1, e1⟩ := slots b o e hb hn
    obtain ⟨s2, e2⟩ := up4 b _ e1 hn
    exact ⟨s2, k5 b _ e2 hn⟩
  obtain ⟨T5, F5, B5⟩ := ground_at K F hf hxs hBG fly5.1 up5
  refine wpAny_handleBy_cons (codeAny_handlers_test (wpAny_mono (hev _ { s with heap := h5 } _ F5 (XB.keeps B5.stays) (TB.keeps B5.stays)) (fun c s₁ hc => ?_) fun _ _ y => y)) (by intro q; cases q)
  obtain ⟨rfl, rfl⟩ := hc
  obtain ⟨⟨nm, q, bs, sn, sub, ab, col, dd, k0, k1, k2, k3, k5', hC⟩, _, _, _, _⟩ := NK
  obtain ⟨_, _, _, oe5, _, _, _, _, he5, hp5, _⟩ := id fly5
  have hC5 := fly5.1 _ _ (hBG _ _ (F.keep _ _ (K.stays _ _ (XB _ _ hC))) (offx _ _ (K.stays _ _ (XB _ _ hC))) (in_frs F hf (K.stays _ _ (XB _ _ hC)) fun hm => by
    have := XB _ _ hC
    rw [(K.frames.mem hm).1] at this
    cases this))
  obtain ⟨hh, gg, d, tk, os⟩ := s
  refine wpAny_excMatches_sub_self hC5 he5 hp5.1 (by simp) (codeAny_handlers_suite_as ?_)
  refine landP (s := ⟨h5, gg, d, tk, os⟩) fly5 fun h6 fly6 k6 => ?_
  have up6 : ∀ b o, G.get? b = some o → b ∉ xs → (∀ vs, o.data ≠ .fields vs) → ∃ sl, h6.get? b = some { o with slots := sl } := fun b o e hb hn => by
    obtain ⟨s1, e1⟩ := up5 b o e hb hn
    exact ⟨s1, k6 b _ e1 hn⟩
  obtain ⟨T6, F6, B6⟩ := ground_at K F hf hxs hBG fly6.1 up6
  obtain ⟨b1, b2, b3, ox, vs, T, oT, ts, he, hp, hd, h1, hnT, hTe, hT, hdT, h3⟩ := id fly6
  have hGL : ∃ oL, G.get? env.locals = some oL := let ⟨oL, _, _, hL, _⟩ := F.ns; ⟨oL, hL⟩
  have Tf : T ∉ frs (env :: outer) := fun hm => by
    obtain ⟨_, o, ho, hnf⟩ := b3.mem hm
    rw [hT] at ho; cases ho
    exact hnf _ hdT
  have gT : g.get? T = none := by
    cases q : g.get? T with
    | none => rfl
    | some o => have := hBG T o (F.keep _ _ q) (offx _ _ q) Tf; rw [hnT] at this; cases this
  have gown : ∀ p ∈ own, g.get? p.1 = none ∧ p.1 ≠ env.locals := fun p hp => by
    refine ⟨?_, fun e => ?_⟩
    · cases q : g.get? p.1 with
      | none => rfl
      | some o => exact absurd rfl (hown p hp p.1 o (F.keep _ _ q) (offx _ _ q))
    · obtain ⟨oL, hL⟩ := hGL
      exact hown p hp _ _ hL (fun hm => (hxs _ hm).2 rfl) e.symm
  have Brest : ∀ p ∈ rest, B.get? p.1 = some p.2 := fun p hp => hBG _ _ (N p (hrest p hp).1).1 (hrest p hp).2 (off_frs K F hf (N p (hrest p hp).1).2.2 (N p (hrest p hp).1).2.1)
  have Ball : ∀ p ∈ own ++ rest, B.get? p.1 = some p.2 := fun p hp => (List.mem_append.mp hp).elim (hBown p) (Brest p)
  have N6 : News (ktsHeap h6 (frs outer) g) env.locals h6 ((x, ox) :: (T, oT) :: (own ++ rest)) := by
    intro p hp'
    rcases List.mem_cons.mp hp' with rfl | hp'
    · exact ⟨he, (hxs x hx).2, T6.none_ _ (hxs x hx).1⟩
    · rcases List.mem_cons.mp hp' with rfl | hp'
      · exact ⟨hT, fun q => Tf (by have q' : T = env.locals := q; rw [q']; exact frs_in (.head _) hf), T6.none_ _ gT⟩
      · refine ⟨b1 _ _ (Ball p hp'), ?_⟩
        rcases List.mem_append.mp hp' with hp' | hp'
        · exact ⟨(gown p hp').2, T6.none_ _ (gown p hp').1⟩
        · exact ⟨(N p (hrest p hp').1).2.1, T6.none_ _ (N p (hrest p hp').1).2.2⟩
  have hsc : (env.scope.kind == .class || (env.scope.kind == .module && env.locals != env.globals)) = false := by rw [hke]; rfl
  refine wpAny_storeName_local hk F6.ns (fun h7 hn7 hs7 => ?_) hsc
  exact h h7 _ _ T ox oT vs ts T6 (fun e => by rw [e]; rfl) (F6.set hn7 hs7) (N6.set hs7) hp hd h1 hTe hdT h3 (fun p hp' => ⟨fun e => (by have := Ball p hp'; rw [e, hnT] at this; cases this), fun e => (by have := Ball p hp'; rw [e, b2] at this; cases this)⟩) B6 (XB.keeps B6.stays) (TB.keeps B6.stays)
end

end

section
open PySem PySem.W PyProof.Rows PySem.Calls PySem.Spec

theorem canon_bga : (Manifest.canonical "BaseException.__getattribute__" != "object.__getattribute__") = false := by decide +kernel
theorem lookIn_dictNone {o : Obj} {m : Str → Option Value} {name : Str} (x : DictObj o m) (hv : m name = none) : lookIn name o = some none := by
  obtain ⟨es, ep, hd, hk, _, hf⟩ := x
  have h1 := hf name
  rw [hv] at h1
  unfold lookIn
  rw [hd]
  dsimp only
  unfold nsFind findBy at h1
  rw [← Array.find?_toList] at h1
  cases q : es.toList.find? (·.key.isStr name) with
  | none =>
    have hr : (es.toList.any fun x => x.refKey) = false := by
      rw [List.any_eq_false]
      intro e he
      obtain ⟨a, b, c⟩ := hk e (by simpa using he)
      simp_all [DictEntry.refKey]
    show (if (es.toList.any fun x => x.refKey) = true then none else some none) = some none
    rw [hr]; rfl
  | some en => rw [q] at h1; cases h1
section
variable {prog : Program} {w : World} {A : Around} {E : Value → Shared → Prop} {s : Shared} {K : Frag} {x C : Addr} {ox : Obj} {od : Option Obj} {name : Str} {pl : Sem Bool} {Q : Value × List Value → Shared → Prop}
theorem methodE_fn {f : Addr} (X : K.In s.heap) (I : InstAt s.heap x ox C od) (hga : findIn K (.ref C) "__getattribute__" = some (some (.builtin "BaseException.__getattribute__"))) (hk : findIn K (.ref C) "__getattr__" = some none)
    (hf : findIn K (.ref C) name = some (some (.ref f))) (ht : typeIn K (.ref f) = some (.type "function")) (hs : shadowIn od name = some false) (h : Q (.ref f, [.ref x]) s) :
    wpAny (model prog w) A (getMethod (.ref x) name pl) Q E s := by
  unfold getMethod specialOf
  refine wpAny_bind (wpAny_bind (I.type.here ((looks_findIn X hga).here ?_)))
  dsimp only
  rw [canon_bga, if_neg (by decide)]
  refine wpAny_bind (wpAny_bind (I.type.here ((looks_findIn X hk).here ?_)))
  refine wpAny_bind (wpAny_bind (I.type.here ((looks_findIn X hf).here (wpAny_bind ((looks_typeIn X ht).here ?_)))))
  rw [if_neg (by decide +kernel)]
  refine wpAny_bind (wpAny_loadPart I.at_ ?_)
  have hd := I.dict
  cases e : ox.dict with
  | none => exact wpAny_bind (wpAny_rule (wpAny_pure h))
  | some dx =>
    cases od with
    | none => rw [e] at hd; exact hd.elim
    | some o =>
      rw [e] at hd
      obtain ⟨r, a, b⟩ := Option.map_eq_some_iff.mp hs
      refine wpAny_bind (wpAny_bind (wpAny_loadPart hd ?_))
      rw [nsLook_of a]
      refine wpAny_pure ?_
      rw [b]
      exact wpAny_bind (wpAny_rule (wpAny_pure h))
end
section
variable {prog : Program} {w : World} {A : Around} {E : Value → Shared → Prop} {s : Shared} {K : Frag} {C x dx f : Addr} {L : Addr} {h₀ : Heap} {m : Str → Option Value} {news : List (Addr × Obj)} {name : Str} {pl : Sem Bool} {Q : Value × List Value → Shared → Prop}
/-- A method of an exception of the ledger. -/
theorem methE_led {o od : Obj} {vs : Array Value} {mA : Str → Option Value} (F : Fr h₀ L s.heap m) (X₀ : K.In h₀) (N : News h₀ L s.heap news)
    (hga : findIn K (.ref C) "__getattribute__" = some (some (.builtin "BaseException.__getattribute__"))) (hk : findIn K (.ref C) "__getattr__" = some none) (hf : findIn K (.ref C) name = some (some (.ref f))) (ht : typeIn K (.ref f) = some (.type "function"))
    (hm : (x, o) ∈ news) (hmd : (dx, od) ∈ news) (hc : o.cls = .ref C) (hd : o.data = .fields vs) (hdx : o.dict = some dx) (hD : DictObj od mA) (hv : mA name = none) (h : Q (.ref f, [.ref x]) s) :
    wpAny (model prog w) A (getMethod (.ref x) name pl) Q E s :=
  methodE_fn (ox := o) (od := some od) (X₀.keeps F.keep) ⟨N.get hm, hc, by unfold notCls; rw [hd], by rw [hdx]; exact N.get hmd⟩ hga hk hf ht (by show Option.map (fun x => x.isSome) (lookIn name od) = some false; rw [lookIn_dictNone hD hv]; rfl) h
end

end

section
open PySem PySem.W PyProof.Rows

def turn1 (M : List Int) (A : Nat) : List Int :=
  let c := M.set A (M.getD A 0 - 1)
  c.set (A + 1) (c.getD (A + 1) 0 + 1)
def turn2 (M : List Int) (B : Nat) : List Int :=
  let c := M.set B (M.getD B 0 - 1)
  c.set (B - 1) (c.getD (B - 1) 0 + 1)
end

section
open PySem PySem.W PyProof.Rows PySem.Calls PySem.Spec

theorem kok_ints (n : Nat) (l : List Int) : (l.map Dat.int).all (kqdOk n) = true := by
  rw [List.all_map]
  exact List.all_eq_true.mpr fun x _ => by cases n <;> rfl
section
variable {prog : Program} {w : World} {A : Around} {E : Value → Shared → Prop} {s : Shared} {h₀ : Heap} {L : Addr} {news : List (Addr × Obj)} {Q : Value → Shared → Prop}
/-- Two data compared: the answer is a statement of one's own. -/
theorem eq_datB {a b : Value} {d e : Dat} {c : Bool} (N : News h₀ L s.heap news) (Da : DatIn news a d) (Db : DatIn news b e) (hk : kqdOk 8 d = true) (hk' : kqdOk 8 e = true) (hu : A.units + 64 < cLine) (hc : d = e ↔ c = true) (h : Q (.bool c) s) : wpAny (model prog w) A (compareOp .Eq a b) Q E s := by
  obtain ⟨as, ra⟩ := kqd_in N 8 Da hk
  obtain ⟨bs, rb⟩ := kqd_in N 8 Db hk'
  have la := kqd_lay 8 d hk
  have lb := kqd_lay 8 e hk'
  have q : PyData.eqv (kqdP d) (kqdP e) = c := by
    have := kqd_eqv 8 d e 8 hk hk'
    cases c with
    | true => exact this.mpr (hc.mpr rfl)
    | false =>
      cases r : PyData.eqv (kqdP d) (kqdP e) with
      | false => rfl
      | true => have := hc.mp (this.mp r); cases this
  refine eq_dataH ra rb ?_ ?_ hu (by rw [q]; exact h)
  · unfold SeqAt.shaped; rw [la.1, Bool.true_and]; exact decide_eq_true (Nat.le_trans la.2 (by decide))
  · unfold SeqAt.shaped; rw [lb.1, Bool.true_and]; exact decide_eq_true (Nat.le_trans lb.2 (by decide))
end
theorem allLt_mem : ∀ {l : List (Addr × Obj)} {a : Nat}, AllLt a l → ∀ p ∈ l, p.1 < a
  | [], _, _, _, hp => nomatch hp
  | _ :: _, _, h, p, hp => by
    rcases List.mem_cons.mp hp with rfl | hp
    · exact h.1
    · exact allLt_mem h.2 p hp
end

section
open PySem PySem.W PyProof.Rows PySem.Calls PySem.Spec

/-! A comprehension with a test: texts, told by functions of the turn's number. -/
section
variable {prog : Program} {w : World} {A : Around} {h₀ : Heap} {L : Addr} {m : Str → Option Value} {env : Env}
def CSame (h₀ : Heap) (L : Addr) (m : Str → Option Value) (s : Shared) (I : Addr) (oI : Obj) (C : Addr) (oC : Obj) (D : Addr) (ys : List Value) (news : List (Addr × Obj)) (s₂ : Shared) : Prop :=
  ∃ h' tk', s₂ = { s with heap := h', toks := tk' } ∧ Fr h₀ L h' m ∧ News h₀ L h' ((I, oI) :: (C, oC) :: (D, LCg.lst ys) :: news)
end

end

section
open PySem PySem.W PyProof.Rows PySem.Calls PySem.Spec

/-! A while whose turns may leave generators behind. -/
section
variable {prog : Program} {w : World} {A : Around} {E : Value → Shared → Prop} {s : Shared} {env : Env} {h₀ : Heap} {body : List Stmt} {Q : Flow → Shared → Prop}
def WEndG {σ : Type} (h₀ : Heap) (L : Addr) (mp : σ → Str → Option Value) (led : σ → List (Addr × Obj)) (Inv : σ → Prop) (μ : σ → Nat) (c : σ) (Q : Flow → Shared → Prop) (s₁ : Shared) (f : Flow) (s₂ : Shared) : Prop :=
  match f with
  | .ret v => Q (.ret v) s₂
  | .brk => Q .next s₂
  | _ => ∃ (c' : σ) (h' : Heap) (tk : Nat) (gs : Array GenState) (m' : Str → Option Value), s₂ = { s₁ with heap := h', toks := tk, gens := gs } ∧ AllBare gs ∧ Fr h₀ L h' m' ∧ News h₀ L h' (led c') ∧ (∀ z, m' z = mp c' z) ∧ Inv c' ∧ μ c' < μ c
theorem while_G {σ : Type} {L : Addr} {test : Expr} {pos : Pos} {m₀ : Str → Option Value} {news : List (Addr × Obj)}
    (mp : σ → Str → Option Value) (led : σ → List (Addr × Obj)) (Inv : σ → Prop) (μ : σ → Nat) (c₀ : σ)
    (F : Fr h₀ L s.heap m₀) (N : News h₀ L s.heap news) (hG : AllBare s.gens) (hl : ∀ p ∈ led c₀, p ∈ news) (hm : ∀ z, m₀ z = mp c₀ z) (hi : Inv c₀)
    (turn : ∀ c h tk gs, AllBare gs → Inv c → Fr h₀ L h (mp c) → News h₀ L h (led c) →
      wpAny (model prog w) A (isTrue test env (eval test env)) (fun b s₂ =>
        if b = true then wpAny (model prog w) A (execs body env) (WEndG h₀ L mp led Inv μ c Q s) E s₂ else Q .next s₂) E { s with heap := h, toks := tk, gens := gs })
    (hE : PassesOwn (model prog w) A env E := by passes_own) :
    wpAny (model prog w) A (exec (.While test body [] pos) env) Q E s := by
  have em : m₀ = mp c₀ := funext hm
  subst em
  refine wpAny_While (codeAny_whileLoop (fun n s' => ∃ (h₁ : Heap) (tk₁ : Nat) (gs : Array GenState) (c : σ), s' = { s with heap := h₁, toks := tk₁, gens := gs } ∧ AllBare gs ∧ Fr h₀ L h₁ (mp c) ∧ News h₀ L h₁ (led c) ∧ Inv c ∧ μ c = n) ?_ (μ c₀) ⟨s.heap, s.toks, s.gens, c₀, rfl, hG, F, news_sub N hl, hi, rfl⟩)
  rintro n s' ⟨h₁, tk₁, gs, c, rfl, hG₁, F₁, N₁, hc, rfl⟩
  refine wpAny_mono (turn c h₁ tk₁ gs hG₁ hc F₁ N₁) (fun b s₂ h₂ => ?_) hE
  cases b with
  | false =>
    simp only [Bool.false_eq_true, if_false] at h₂ ⊢
    exact wpAny_execs_nil h₂
  | true =>
    simp only [if_true] at h₂ ⊢
    refine wpAny_mono h₂ (fun f s₃ h₃ => ?_) hE
    cases f with
    | next =>
      obtain ⟨c', h', tk, gs', m', rfl, hG', F', N', hm', hi', hμ⟩ := h₃
      have em' : m' = mp c' := funext hm'
      subst em'
      exact ⟨μ c', hμ, h', tk, gs', c', rfl, hG', F', N', hi', rfl⟩
    | cont =>
      obtain ⟨c', h', tk, gs', m', rfl, hG', F', N', hm', hi', hμ⟩ := h₃
      have em' : m' = mp c' := funext hm'
      subst em'
      exact ⟨μ c', hμ, h', tk, gs', c', rfl, hG', F', N', hi', rfl⟩
    | brk => exact h₃
    | ret v => exact h₃
end

end

section
open PySem PySem.W PyProof.Rows PySem.Calls PySem.Spec

/-! A for loop whose target is a cell: each turn begins with the store of its name. -/
section
variable {prog : Program} {w : World} {A : Around} {E : Value → Shared → Prop} {s : Shared} {env : Env} {h₀ : Heap} {x : Str} {body : List Stmt}
def TurnC {σ : Type} (h₀ : Heap) (L : Addr) (mp : σ → Str → Option Value) (led : σ → List (Addr × Obj)) (Inv Ex : σ → Prop) (I : Addr) (oI : Obj) (Q : Flow → Shared → Prop) (s₁ : Shared) (f : Flow) (s₂ : Shared) : Prop :=
  match f with
  | .ret v => Q (.ret v) s₂
  | .brk => ∃ (c : σ) (h' : Heap) (tk : Nat) (m' : Str → Option Value), s₂ = { s₁ with heap := h', toks := tk } ∧ Fr h₀ L h' m' ∧ News h₀ L h' (led c) ∧ (∀ z, m' z = mp c z) ∧ Ex c
  | _ => ∃ (c : σ) (h' : Heap) (tk : Nat) (m' : Str → Option Value), s₂ = { s₁ with heap := h', toks := tk } ∧ Fr h₀ L h' m' ∧ News h₀ L h' (led c ++ [(I, oI)]) ∧ (∀ z, m' z = mp c z) ∧ (∀ p ∈ led c, p.1 ≠ I) ∧ Inv c
theorem forC {σ : Type} {R : Result → Shared → Prop} {px : Pos} {I : Addr} {fp : List Addr} {n : Nat} {P : Nat → Value → Prop} {St : Nat → Heap → Prop} {m₀ : Str → Option Value}
    (mp : σ → Str → Option Value) (led : σ → List (Addr × Obj)) (Inv : Nat → σ → Prop) (Ex : σ → Prop) (c₀ : σ)
    (W : Walks prog w A I fp [I] n P St) (hit : ∀ i h, St i h → ∃ o, h.get? I = some o) (hfp : ∀ b ∈ fp, b = I ∨ (∃ o, h₀.get? b = some o) ∨ ∃ o, ∀ c, (b, o) ∈ led c)
    (hLf : env.locals ∉ fp) (hI0 : h₀.get? I = none) (hst : St 0 s.heap) (F : Fr h₀ env.locals s.heap m₀) (N : News h₀ env.locals s.heap (led c₀)) 
    (hoff : ∀ p ∈ led c₀, p.1 ≠ I) (hm : ∀ z, m₀ z = mp c₀ z) (hi : Inv 0 c₀)
    (turn : ∀ i v c oI h tk, i < n → P i v → Inv i c → (∀ p ∈ led c, p.1 ≠ I) → Fr h₀ env.locals h (mp c) → News h₀ env.locals h (led c ++ [(I, oI)]) →
      wpAny (model prog w) A (storeName env x v) (fun _ s' => wpAny (model prog w) A (execs body env) (TurnC h₀ env.locals mp led (Inv (i + 1)) Ex I oI (fun f s' => R (.ok f) s') { s with heap := h, toks := tk }) (notedBy (model prog w) A env fun e s' => R (.error e) s') s') (notedBy (model prog w) A env fun e s' => R (.error e) s') { s with heap := h, toks := tk })
    (ends : ∀ c, Inv n c → Ex c)
    (done : ∀ c h tk, Ex c → Fr h₀ env.locals h (mp c) → News h₀ env.locals h (led c) → R (.ok .next) { s with heap := h, toks := tk }) :
    codeAny (model prog w) A (.forLoop (.Name x px) (.ref I) body [] env) R s := by
  have hIfp : I ∈ fp := W.sub I (.head _)
  have hLI : env.locals ≠ I := fun e => hLf (e ▸ hIfp)
  refine codeAny_forLoop
    (fun k s' => ∃ h' tk c i, s' = { s with heap := h', toks := tk } ∧ St i h' ∧ Fr h₀ env.locals h' (mp c) ∧ News h₀ env.locals h' (led c) ∧ (∀ p ∈ led c, p.1 ≠ I) ∧ Inv i c ∧ i ≤ n ∧ k = n + 1 - i) ?_ (n + 1)
    ⟨s.heap, s.toks, c₀, 0, rfl, hst, by rw [← funext hm]; exact F, N, hoff, hi, Nat.zero_le _, rfl⟩
  rintro k s' ⟨h', tk, c, i, rfl, hst', F', N', hoff', hinv, hin, rfl⟩
  have old : ∀ b o, h₀.get? b = some o → b ∉ [I] := fun b o e hb => by rw [List.mem_singleton.mp hb, hI0] at e; cases e
  have next : ∀ h₁ : Heap, (∀ b o, b ∉ [I] → h'.get? b = some o → h₁.get? b = some o) → Fr h₀ env.locals h₁ (mp c) ∧ News h₀ env.locals h₁ (led c) := fun h₁ hk₁ =>
    ⟨⟨F'.ns.at' fun o e => hk₁ _ o (fun q => hLI (List.mem_singleton.mp q)) e, fun b o e => hk₁ b o (old b o e) (F'.keep b o e), F'.above⟩, fun p hp => ⟨hk₁ _ _ (fun q => hoff' p hp (List.mem_singleton.mp q)) (N' p hp).1, (N' p hp).2⟩⟩
  by_cases hlt : i < n
  · refine W.item i _ _ _ hlt hst' fun v h₁ tk₁ hP hst₁ hk₁ => ?_
    obtain ⟨F₁, N₁⟩ := next h₁ hk₁
    obtain ⟨oI, hoI⟩ := hit _ _ hst₁
    have N₃ : News h₀ env.locals h₁ (led c ++ [(I, oI)]) := fun p hp => by
      rcases List.mem_append.mp hp with hp | hp
      · exact N₁ p hp
      · rw [List.mem_singleton.mp hp]; exact ⟨hoI, fun e => hLI e.symm, hI0⟩
    have fin : ∀ (s₃ : Shared), (∃ (c : σ) (h' : Heap) (tk : Nat) (m' : Str → Option Value), s₃ = { s with heap := h', toks := tk } ∧ Fr h₀ env.locals h' m' ∧ News h₀ env.locals h' (led c ++ [(I, oI)]) ∧ (∀ z, m' z = mp c z) ∧ (∀ p ∈ led c, p.1 ≠ I) ∧ Inv (i + 1) c) →
        ∃ k', k' < n + 1 - i ∧ ∃ h' tk c j, s₃ = { s with heap := h', toks := tk } ∧ St j h' ∧ Fr h₀ env.locals h' (mp c) ∧ News h₀ env.locals h' (led c) ∧ (∀ p ∈ led c, p.1 ≠ I) ∧ Inv j c ∧ j ≤ n ∧ k' = n + 1 - j := by
      rintro s₃ ⟨c', h₃, tk₃, m₃, rfl, F₃, N₄, hm₃, hoff₃, hinv₃⟩
      have em := funext hm₃
      subst em
      refine ⟨n + 1 - (i + 1), by omega, h₃, tk₃, c', i + 1, rfl, ?_, F₃, (fun p hp => N₄ p (List.mem_append.mpr (.inl hp))), hoff₃, hinv₃, hlt, rfl⟩
      refine W.frame _ _ _ hst₁ fun b hb o e => ?_
      rcases hfp b hb with rfl | ⟨o₀, e0⟩ | ⟨o₀, e0⟩
      · rw [hoI] at e; cases e
        exact (N₄ _ (List.mem_append.mpr (.inr (.head _)))).1
      · have := F₁.keep b o₀ e0
        rw [e] at this
        rw [Option.some.inj this]
        exact F₃.keep b o₀ e0
      · have := (N₁ _ (e0 c)).1
        rw [e] at this
        rw [Option.some.inj this]
        exact (N₄ _ (List.mem_append.mpr (.inl (e0 c')))).1
    refine wpAny_assign_Name (wpAny_mono (turn i v c oI h₁ _ hlt hP hinv hoff' F₁ N₃) (fun _ s₂ q₂ => wpAny_mono q₂ (fun f s₃ q => ?_) fun _ _ e => e) fun _ _ e => e)
    cases f with
    | ret v => exact q
    | brk =>
      obtain ⟨c', h₃, tk₃, m₃, rfl, F₃, N₄, hm₃, hex⟩ := q
      have em := funext hm₃
      subst em
      exact done c' h₃ tk₃ hex F₃ N₄
    | next => exact fin s₃ q
    | cont => exact fin s₃ q
  · have hin' : i = n := by omega
    subst hin'
    refine W.done _ _ _ hst' fun h₁ tk₁ hk₁ => wpAny_execs_nil ?_
    obtain ⟨F₁, N₁⟩ := next h₁ hk₁
    exact done c h₁ tk₁ (ends c hinv) F₁ N₁
theorem range_ledC {σ : Type} {Q : Flow → Shared → Prop} {px : Pos} {r : Addr} {a₀ b₀ : Int} {t₀ u₀ v₀ : Tok} {n : Nat} {m₀ : Str → Option Value} {news : List (Addr × Obj)}
    (mp : σ → Str → Option Value) (led : σ → List (Addr × Obj)) (Inv : Nat → σ → Prop) (Ex : σ → Prop) (c₀ : σ)
    (hh : A.handled = none) (hE : PassesOwn (model prog w) A env E)
    (hr : IsRange s.heap r a₀ b₀ 1 t₀ u₀ v₀) (hsmall : Builtin.Range.small a₀ b₀ 1 = true) (hn : Builtin.Range.rangeSize a₀ b₀ 1 = (n : Int)) (F : Fr h₀ env.locals s.heap m₀) (N : News h₀ env.locals s.heap news) (hl : ∀ p ∈ led c₀, p ∈ news) (hm : ∀ z, m₀ z = mp c₀ z) (hi : Inv 0 c₀)
    (turn : ∀ i t c I oI h tk, i < n → Inv i c → (∀ p ∈ led c, p.1 ≠ I) → Fr h₀ env.locals h (mp c) → News h₀ env.locals h (led c ++ [(I, oI)]) →
      wpAny (model prog w) A (storeName env x (.int (a₀ + (i : Int)) t)) (fun _ s' => wpAny (model prog w) A (execs body env) (TurnC h₀ env.locals mp led (Inv (i + 1)) Ex I oI Q { s with heap := h, toks := tk }) E s') E { s with heap := h, toks := tk })
    (ends : ∀ c, Inv n c → Ex c)
    (done : ∀ c h tk, Ex c → Fr h₀ env.locals h (mp c) → News h₀ env.locals h (led c) → Q .next { s with heap := h, toks := tk }) :
    wpAny (model prog w) A (pyIter (.ref r)) (fun it s₂ => LoopG prog w A env x px body Q E it s₂) E s := by
  have N₀ := news_sub N hl
  refine wpAny_pyIter_range hr hsmall ?_
  have W : Walks prog w A s.heap.objs.size [s.heap.objs.size] [s.heap.objs.size] n (fun i v => i < n ∧ ∃ t, v = .int (a₀ + i * 1) t)
      (fun i h => IsRangeIter h s.heap.objs.size (a₀ + (i : Nat) * 1) ((n : Int) - (i : Nat)) 1) := (Walks.range hh _ a₀ 1 n).bound
  refine forC mp led Inv Ex c₀ W (fun i h st => ⟨_, st⟩) (fun b hb => .inl (List.mem_singleton.mp hb)) ?_ (next_is_new F) (by show IsRangeIter _ _ _ _ _; rw [hn]; simpa using Heap.get?_push_size _ rfl) (F.push _) (led_push N₀ _) (led_off N₀) hm hi ?_ ends ?_
  · intro hm
    exact absurd F.ns.lt ((List.mem_singleton.mp hm) ▸ Nat.lt_irrefl _)
  · rintro i v c oI h tk hin ⟨_, t, rfl⟩ hinv hoff F₁ N₁
    have e1 : a₀ + (i : Int) * 1 = a₀ + (i : Int) := by omega
    rw [e1]
    exact wpAny_passesOwn hE (wpAny_mono (turn i t c _ oI h tk hin hinv hoff F₁ N₁) (fun _ s₂ q => wpAny_passesOwn hE q) fun _ _ e => e)
  · exact done
end

end

section
open PySem PySem.W PyProof.Rows PySem.Calls PySem.Spec

section
variable {prog : Program} {w : World} {A : Around} {h₀ : Heap} {L : Addr} {m : Str → Option Value} {env : Env}
theorem comp_intsT0 {ct elt : Expr} {x : Str} {scope : Scope} {cl : List (Str × Addr)} {s : Shared} {S : List (Addr × Obj) → Prop} {P : Nat → Value → Prop} {Fin : List Value → List (Addr × Obj) → Prop} {n : Nat} {news : List (Addr × Obj)}
    (f : Nat → Int) (p : Nat → Bool) (hS : S news)
    (turn : ∀ i v ys I oI C oC D m₂ h tk (E' : Value → Shared → Prop), i < n → P i v → LCg.NsObj oC m₂ → m₂ x = some v → Fr h₀ L h m → News h₀ L h ((I, oI) :: (C, oC) :: (D, LCg.lst ys) :: news) → LCg.Off3 I C D news → ((@Ne Nat I C) ∧ (@Ne Nat I D) ∧ (@Ne Nat C D)) →
      wpAny (model prog w) A (isTrue ct (compEnvC scope cl C env) (eval ct (compEnvC scope cl C env))) (fun ok s' => if ok = true then (p i = true ∧ wpAny (model prog w) A (eval elt (compEnvC scope cl C env)) (CInt h₀ L m s I oI C oC D ys news (f i)) E' s') else (p i = false ∧ CSame h₀ L m s I oI C oC D ys news s')) E' { s with heap := h, toks := tk })
    (fin : ∀ ys, IntsAre ys (((List.range n).filter p).map f) → Fin ys news) :
    ∀ k i ys, k + i = n → IntsAre ys (((List.range i).filter p).map f) → LCt.CompRestT prog w A h₀ L m env ct elt x scope cl s S P Fin k i ys news
  | 0, i, ys, hk, hi => by
    have : i = n := by omega
    subst this
    exact fin ys hi
  | k + 1, i, ys, hk, hi => by
    refine LCt.CompRestT.succ ?_
    intro v I oI C oC D m₂ h tk E' hP hC hx F N off ne
    refine wpAny_mono (turn i v ys I oI C oC D m₂ h tk E' (by omega) hP hC hx F N off ne) (fun ok s' q => ?_) fun _ _ e => e
    cases ok with
    | true =>
      rw [if_pos rfl] at q ⊢
      obtain ⟨hp, q⟩ := q
      refine wpAny_mono q (fun y s₂ q2 => ?_) fun _ _ e => e
      obtain ⟨h', tk', t, rfl, F', N', rfl⟩ := q2
      refine ⟨h', tk', news, rfl, F', N', off, hS, comp_intsT0 f p hS turn fin k (i + 1) _ (by omega) ?_⟩
      rw [List.range_succ, List.filter_append, List.map_append]
      simp only [List.filter_cons, hp, if_true, List.filter_nil, List.map_cons, List.map_nil]
      exact hi.append (.cons _ _ .nil)
    | false =>
      rw [if_neg (by decide)] at q ⊢
      obtain ⟨hp, h', tk', rfl, F', N'⟩ := q
      refine ⟨h', tk', news, rfl, F', N', off, hS, comp_intsT0 f p hS turn fin k (i + 1) _ (by omega) ?_⟩
      rw [List.range_succ, List.filter_append, List.map_append]
      simp only [List.filter_cons, hp, List.filter_nil, List.map_nil, List.append_nil, Bool.false_eq_true, if_false]
      exact hi
theorem comp_intsT {ct elt : Expr} {x : Str} {scope : Scope} {cl : List (Str × Addr)} {s : Shared} {S : List (Addr × Obj) → Prop} {P : Nat → Value → Prop} {Fin : List Value → List (Addr × Obj) → Prop} {n : Nat} {news : List (Addr × Obj)}
    (f : Nat → Int) (p : Nat → Bool) (hS : S news)
    (turn : ∀ i v ys I oI C oC D m₂ h tk (E' : Value → Shared → Prop), i < n → P i v → LCg.NsObj oC m₂ → m₂ x = some v → Fr h₀ L h m → News h₀ L h ((I, oI) :: (C, oC) :: (D, LCg.lst ys) :: news) → LCg.Off3 I C D news → ((@Ne Nat I C) ∧ (@Ne Nat I D) ∧ (@Ne Nat C D)) →
      wpAny (model prog w) A (isTrue ct (compEnvC scope cl C env) (eval ct (compEnvC scope cl C env))) (fun ok s' => if ok = true then (p i = true ∧ wpAny (model prog w) A (eval elt (compEnvC scope cl C env)) (CInt h₀ L m s I oI C oC D ys news (f i)) E' s') else (p i = false ∧ CSame h₀ L m s I oI C oC D ys news s')) E' { s with heap := h, toks := tk })
    (fin : ∀ ys, IntsAre ys (((List.range n).filter p).map f) → Fin ys news) :
    LCt.CompRestT prog w A h₀ L m env ct elt x scope cl s S P Fin n 0 [] news := comp_intsT0 f p hS turn fin n 0 [] (by omega) .nil
end
section
variable {prog : Program} {w : World} {A : Around} {E : Value → Shared → Prop} {s : Shared} {h₀ : Heap} {L : Addr} {news : List (Addr × Obj)} {Q : Value → Shared → Prop}
/-- Two data compared by !=: the answer is a statement of one's own. -/
theorem ne_datB {a b : Value} {d e : Dat} {c : Bool} (N : News h₀ L s.heap news) (Da : DatIn news a d) (Db : DatIn news b e) (hk : kqdOk 8 d = true) (hk' : kqdOk 8 e = true) (hu : A.units + 64 < cLine) (hc : d = e ↔ c = true) (h : Q (.bool (!c)) s) : wpAny (model prog w) A (compareOp .NotEq a b) Q E s := by
  obtain ⟨as, ra⟩ := kqd_in N 8 Da hk
  obtain ⟨bs, rb⟩ := kqd_in N 8 Db hk'
  have la := kqd_lay 8 d hk
  have lb := kqd_lay 8 e hk'
  have q : PyData.eqv (kqdP d) (kqdP e) = c := by
    have := kqd_eqv 8 d e 8 hk hk'
    cases c with
    | true => exact this.mpr (hc.mpr rfl)
    | false =>
      cases r : PyData.eqv (kqdP d) (kqdP e) with
      | false => rfl
      | true => have := hc.mp (this.mp r); cases this
  refine ne_dataH ra rb ?_ ?_ hu (by rw [q]; exact h)
  · unfold SeqAt.shaped; rw [la.1, Bool.true_and]; exact decide_eq_true (Nat.le_trans la.2 (by decide))
  · unfold SeqAt.shaped; rw [lb.1, Bool.true_and]; exact decide_eq_true (Nat.le_trans lb.2 (by decide))
end
theorem dat_ints : ∀ {l : List (Addr × Obj)} {vs : List Value} {ns : List Int}, IntsAre vs ns → DatAll l vs (ns.map Dat.int)
  | _, _, _, .nil => .nil
  | _, _, _, .cons _ _ h => .cons (.int _ _) (dat_ints h)

end

section
open PySem PySem.W PyProof.Rows

local macro_rules | `(tactic| walk_at "call type:tuple") => `(tactic| (k_here; (with_reducible show wpAny _ _ (call (Value.type _) [Value.ref _]) _ _ _); k_dflt (refine' tuple_led ?k1 ?k2 ?k3 ?k4 ?_; (case k1 => k_asm); (case k2 => k_asm); (case k3 => k_mem); (case k4 => ((have hq9 := IntsAre.length (by assumption)); omega)); k_whole); intro D' h' F' N' l1; (try k_lt l1); (try k_sweep)))
theorem ws04 (w : World) (mean : ExcName → Option Value) (mg mb : Str → Option Value) :
  ∀ (dp un : Nat) (gd : Option (List Code)) (cn : Str) (cs : Scope) (a : Addr) (ccd : Value) (cl : List (Str × Addr)) (outer : List Env) (A₀ : Around) (base h₀ : Heap) (L : Addr) (m : Str → Option Value) (s : Shared) (ws : Str) (t : Tok)
    (Q E : Value → Shared → Prop),
    Below A₀ base outer h₀ → Fr h₀ L s.heap m → (hd04.heap_39 w.params).In h₀ → Top topProg (looseW hd04.view_39 [Str.ofString "Whitespace"] ++ (recsOf hd04.view_39).map (·.name) ++ (litsOf hd04.view_39).map (·.1) ++ (clssOf hd04.view_39 (looseW hd04.view_39 [Str.ofString "Whitespace"])).map (·.name)) mean mg mb h₀ → cs.kind = .function → ws.length ≤ 10000 → dp + 10 < recursionLimit → un + 80 < cLine →
    (∀ (x dx nr ct : Nat) (cv : List Value) (k1 k2 k3 k4 k5 tn tnt tb : Tok) h' tk', Fr h₀ L h' m → s.heap.StaysIn h' →
      News h₀ L h' [(x, instObj 124 dx), (dx, dictOf (wsEnt w ws t (wsOf ws).2.2.1 (wsOf ws).2.2.2 tn tnt nr (decide (((wsOf ws).1.length : Int) ≤ 1)) k1 k2 k3 k4 k5) 5), (nr, tupOf #[.ref ct, .int (wsOf ws).2.1 tb]), (ct, tupOf cv.toArray)] →
      IntsAre cv (wsOf ws).1 → s.heap.objs.size ≤ dx → dx < x → x < ct → ct < nr → Q (.ref x) { s with heap := h', toks := tk' }) →
    wpAny (model Challenge.rw_dn0186_04.row.prog w) (ktrTop dp un gd cn cs L a ccd cl outer) (call (.ref 124) [.str ws t]) Q E s := by
  k_fill
  intro dp un gd cn cs a ccd cl outer A₀ base h₀ L m s ws t Q E B F X T hk hlen hd hu hret
  refine call_clsH F X (by k_is) (by k_is) (by k_is) ?_
  intro x dx h' st hsz hdx F' N'
  k_lt2 hdx
  k_dflt (refine' code_defH ?k1 ?k2 ?k3 ?k4 ?k5 ?kA ?kF ?kK ?k6 ?k7 ?k8 ?k9 ?kB ?_ ?c2 ?c3 ?c4 ?c5; (case kA => exact rfl); (case kF => exact rfl); (case kK => assumption); (case k1 => k_asm); (case k2 => k_asm); (case k3 => k_asm); (case k4 => k_asm); (case k5 => k_asm); (case k6 => k_is); (case k7 => k_is); (case k8 => ktr_room); (case k9 => exact BindsTo.of_eq rfl); (case c5 => decide); (case kB => exact locs rfl); (case c2 => exact rfl); (case c3 => exact rfl); (case c4 => exact rfl); k_whole)
  intro g L' h' stG hszL FG' F' N' B' X' T'
  (try dsimp only)
  (try k_fold)
  w_on
  k_steps
  rename Fr g L' _ _ => F1
  rename News g L' _ _ => N1
  rename_i D1 _ l1 _ _ _ lc _ l2 _ _ _ h1
  obtain ⟨mr, hmr, F2⟩ : ∃ mr : Str → Option Value, mr = _ ∧ Fr g L' h1 (fun y => if y = Str.ofString "nt" then _ else if y = Str.ofString "n" then _ else if y = Str.ofString "b" then _ else if y = Str.ofString "count" then _ else mr y) := ⟨_, rfl, F1⟩
  obtain ⟨od, hod, N2⟩ : ∃ od : Obj, od = _ ∧ News g L' h1 [(lc, _), (D1, _), (x, _), (dx, od)] := ⟨_, rfl, N1⟩
  clear F1 N1
  refine text_led (σ := WS) (fun c y => if y = Str.ofString "nt" then some (.int c.nt c.tnt) else if y = Str.ofString "n" then some (.int c.n c.tn) else if y = Str.ofString "b" then some (.int c.b c.tb) else if y = Str.ofString "count" then some (.ref c.ca) else mr y)
    (fun c => [(c.ca, listOf c.cv.toArray c.ep), (x, instObj 124 dx), (dx, od)])
    (fun pre c => (∀ k ∈ pre, isSp k = true) ∧ x < c.ca ∧ WSat pre c ∧ 0 ≤ c.b ∧ c.b ≤ pre.length ∧ c.ci.length ≤ pre.length ∧ pre.length ≤ 10000)
    (fun c => x < c.ca ∧ WSat (ws.cps.toList.takeWhile isSp) c ∧ c.ci.length ≤ 10000) ⟨lc, [], 0, [], 0, 0, 0, _, _, _⟩ rfl F2 N2 ?_ (fun z _ => rfl) ?_ ?_ ?_ ?_
  · subst hod
    exact List.forall_mem_cons.mpr ⟨.head _, List.forall_mem_cons.mpr ⟨.tail _ (.tail _ (.head _)), List.forall_mem_cons.mpr ⟨.tail _ (.tail _ (.tail _ (.head _))), List.forall_mem_nil _⟩⟩⟩
  · exact ⟨by simp, l2.2.1, ⟨.nil, rfl, rfl, rfl, rfl⟩, by simp, by simp, by simp, by simp⟩
  · subst hmr hod
    rintro pre n post t' ⟨ca, cv, ep, ci, b, n', nt, tb, tn, tnt⟩ I oI h tk' hpre ⟨hsp, hxa, ⟨hia, hw1, hw2, hw3, hw4⟩, hb0, hb1, hci, hpl⟩ hoff F3 N3
    dsimp only at hsp hxa hia hw1 hw2 hw3 hw4 hb0 hb1 hci F3 N3 hoff
    simp only [List.cons_append, List.nil_append] at N3
    have hpl1 : pre.length + 1 ≤ 10000 := by
      have q := congrArg List.length hpre
      rw [List.length_append, List.length_cons, Array.length_toList] at q
      have q2 : ws.cps.size ≤ 10000 := hlen
      omega
    have o1 : ca ≠ I := hoff _ (.head _)
    have o2 : x ≠ I := hoff _ (.tail _ (.head _))
    have o3 : dx ≠ I := hoff _ (.tail _ (.tail _ (.head _)))
    (try k_fold)
    k_steps
    · rename _ = true => e1
      have hn := one_true ofSp e1
      rename Fr g L' _ _ => Fz
      rename News g L' _ _ => Nz
      refine' ⟨⟨ca, cv, ep, ci, b + 1, n' + 1, nt, ?_, ?_, tnt⟩, _, _, _, rfl, Fz, Nz, ?_, hoff, ?_⟩
      rotate_left 2
      · ((intro z hz; by_cases h1 : z = Str.ofString "nt"; subst h1; rfl; by_cases h2 : z = Str.ofString "n"; subst h2; rfl; by_cases h3 : z = Str.ofString "b"; subst h3; rfl; by_cases h4 : z = Str.ofString "count"; subst h4; rfl; simp only [h1, h2, h3, h4, hz, if_false]))
      · subst hn
        refine ⟨?_, hxa, ⟨hia, ?_, ?_, ?_, ?_⟩, ?_, ?_, ?_, ?_⟩
        · intro k hk
          rcases List.mem_append.mp hk with hk | hk
          · exact hsp k hk
          · rw [List.mem_singleton.mp hk]; rfl
        · rw [scan_snoc]; exact hw1
        · rw [scan_snoc]; show b + 1 = (((scan pre).2.1 + 1 : Nat) : Int); omega
        · rw [scan_snoc]; show n' + 1 = (((scan pre).2.2.1 + 1 : Nat) : Int); omega
        · rw [scan_snoc]; exact hw4
        · show 0 ≤ b + 1; omega
        · show b + 1 ≤ ((pre ++ [32]).length : Int); rw [List.length_append, List.length_singleton]; omega
        · show ci.length ≤ (pre ++ [32]).length; rw [List.length_append]; omega
        · rw [List.length_append, List.length_singleton]; exact hpl1
    · rename_i D' ws' _ hI' l1' _ _ _ hi' hl' _ _ Fz Nz
      rename (_ == Str.ofString "\t") = true => e1
      have hn := one_true ofTab e1
      have hbn : b.toNat = (scan pre).2.1 := by omega
      rename (ci.length : Int) ≤ b => hge
      obtain ⟨cv', hcv, hi2⟩ : ∃ cv' : List Value, cv' = _ ∧ IntsAre cv' _ := ⟨_, rfl, hi'⟩
      rw [← hcv] at Nz
      rw [bump_ge hb0 hge] at hi2
      refine' ⟨⟨D', cv', 0, bump ci b.toNat, 0, n' + 1, nt + 1, ?_, ?_, ?_⟩, _, _, _, rfl, Fz, news_sub Nz ?_, ?_, ?_, ?_⟩
      rotate_left 3
      · intro p hp
        simp only [List.cons_append, List.nil_append, List.mem_cons, List.not_mem_nil, or_false] at hp ⊢
        grind
      · ((intro z hz; by_cases h1 : z = Str.ofString "nt"; subst h1; rfl; by_cases h2 : z = Str.ofString "n"; subst h2; rfl; by_cases h3 : z = Str.ofString "b"; subst h3; rfl; by_cases h4 : z = Str.ofString "count"; subst h4; rfl; simp only [h1, h2, h3, h4, hz, if_false]))
      · exact List.forall_mem_cons.mpr ⟨Nat.ne_of_gt l1'.2.2.2.2.2, List.forall_mem_cons.mpr ⟨o2, List.forall_mem_cons.mpr ⟨o3, List.forall_mem_nil _⟩⟩⟩
      · subst hn
        refine ⟨?_, l1'.2.2.2.1, ⟨hi2, ?_, ?_, ?_, ?_⟩, ?_, ?_, ?_, ?_⟩
        · intro k hk
          rcases List.mem_append.mp hk with hk | hk
          · exact hsp k hk
          · rw [List.mem_singleton.mp hk]; rfl
        · rw [scan_snoc]; show _ = bump (scan pre).1 (scan pre).2.1; rw [← hw1, ← hbn]
        · rw [scan_snoc]; rfl
        · rw [scan_snoc]; show n' + 1 = (((scan pre).2.2.1 + 1 : Nat) : Int); omega
        · rw [scan_snoc]; show nt + 1 = (((scan pre).2.2.2 + 1 : Nat) : Int); omega
        · show (0 : Int) ≤ 0; omega
        · show (0 : Int) ≤ ((pre.length + 1 : Nat) : Int); omega
        · show (bump ci b.toNat).length ≤ pre.length + 1
          rw [bump_length]; omega
        · exact hpl1
    · rename_i _ _ hi' hl' _ _ Fz Nz
      rename (_ == Str.ofString "\t") = true => e1
      have hn := one_true ofTab e1
      have hbn : b.toNat = (scan pre).2.1 := by omega
      rename ¬ (ci.length : Int) ≤ b => hge
      obtain ⟨cv', hcv, hi2⟩ : ∃ cv' : List Value, cv' = _ ∧ IntsAre cv' _ := ⟨_, rfl, hi'⟩
      rw [← hcv] at Nz
      rw [bump_lt hb0 hge] at hi2
      refine' ⟨⟨ca, cv', ep, bump ci b.toNat, 0, n' + 1, nt + 1, ?_, ?_, ?_⟩, _, _, _, rfl, Fz, Nz, ?_, ?_, ?_⟩
      rotate_left 3
      · ((intro z hz; by_cases h1 : z = Str.ofString "nt"; subst h1; rfl; by_cases h2 : z = Str.ofString "n"; subst h2; rfl; by_cases h3 : z = Str.ofString "b"; subst h3; rfl; by_cases h4 : z = Str.ofString "count"; subst h4; rfl; simp only [h1, h2, h3, h4, hz, if_false]))
      · exact List.forall_mem_cons.mpr ⟨o1, List.forall_mem_cons.mpr ⟨o2, List.forall_mem_cons.mpr ⟨o3, List.forall_mem_nil _⟩⟩⟩
      · subst hn
        refine ⟨?_, hxa, ⟨hi2, ?_, ?_, ?_, ?_⟩, ?_, ?_, ?_, ?_⟩
        · intro k hk
          rcases List.mem_append.mp hk with hk | hk
          · exact hsp k hk
          · rw [List.mem_singleton.mp hk]; rfl
        · rw [scan_snoc]; show _ = bump (scan pre).1 (scan pre).2.1; rw [← hw1, ← hbn]
        · rw [scan_snoc]; rfl
        · rw [scan_snoc]; show n' + 1 = (((scan pre).2.2.1 + 1 : Nat) : Int); omega
        · rw [scan_snoc]; show nt + 1 = (((scan pre).2.2.2 + 1 : Nat) : Int); omega
        · show (0 : Int) ≤ 0; omega
        · show (0 : Int) ≤ ((pre.length + 1 : Nat) : Int); omega
        · show (bump ci b.toNat).length ≤ pre.length + 1
          rw [bump_length]; omega
        · exact hpl1
    · rename (_ == Str.ofString " ") = false => e1
      rename (_ == Str.ofString "\t") = false => e2
      have h1 := one_false ofSp e1
      have h2 := one_false ofTab e2
      refine' ⟨⟨ca, cv, ep, ci, b, n', nt, tb, tn, tnt⟩, _, _, _, rfl, F3, news_sub N3 ?_, ?_, hxa, ?_, ?_⟩
      · exact fun p hp => (by simp only [List.mem_cons] at hp ⊢; grind)
      · intro z hz
        simp only [hz, if_false]
      · rw [hpre, takeWhile_stop hsp (by simp [isSp, h1, h2])]
        exact ⟨hia, hw1, hw2, hw3, hw4⟩
      · exact Nat.le_trans hci hpl
  · rintro ⟨ca, cv, ep, ci, b, n', nt, tb, tn, tnt⟩ ⟨hsp, hxa, hws, hb0, hb1, hci, hpl⟩
    refine ⟨hxa, ?_, Nat.le_trans hci hpl⟩
    rw [takeWhile_all hsp]
    exact hws
  · subst hmr hod
    rintro ⟨ca, cv, ep, ci, b, n', nt, tb, tn, tnt⟩ u h tk' ⟨hxa, ⟨hia, hw1, hw2, hw3, hw4⟩, hci⟩ F3 N3
    dsimp only at hxa hia hw1 hw2 hw3 hw4 hci F3 N3
    (try k_fold)
    k_steps
    rename_i D1' _ l1' D2' _ l2' _ _ Fz Nz kF kN _ _
    subst hw1 hw2 hw3 hw4
    refine' hret x dx D2' D1' cv _ _ _ _ _ _ _ _ _ _ kF ?hst (news_sub kN ?hsub) hia hsz hdx l1'.2.1 l2'.1
    case hsub =>
      refine List.forall_mem_cons.mpr ⟨?_, List.forall_mem_cons.mpr ⟨?_, List.forall_mem_cons.mpr ⟨?_, List.forall_mem_cons.mpr ⟨?_, List.forall_mem_nil _⟩⟩⟩⟩
      · exact List.Mem.tail _ (List.Mem.tail _ (List.Mem.tail _ (List.Mem.head _)))
      · refine List.Mem.tail _ (List.Mem.tail _ (List.Mem.tail _ (List.Mem.tail _ (List.mem_singleton.mpr (congrArg (Prod.mk dx) (congrArg (fun l => dictOf l 5) ?_))))))
        refine congr (congrArg List.cons ?_) (congr (congrArg List.cons ?_) (congr (congrArg List.cons ?_) (congr (congrArg List.cons ?_) (congrArg (fun e => [e]) ?_))))
        · rfl
        · rfl
        · rfl
        · rfl
        · rfl
      · exact List.Mem.head _
      · exact List.Mem.tail _ (List.Mem.head _)
    case hst =>
      intro b o e
      have hb := Heap.lt_size e
      refine Fz.keep b o (stG b o (st b o e) ?_)
      intro q
      rcases List.mem_cons.mp q with q | q
      · exact absurd hb (by rw [q]; exact Nat.not_lt.mpr (Nat.le_trans hsz (Nat.le_of_lt hdx)))
      · exact absurd hb (by rw [List.mem_singleton.mp q]; exact Nat.not_lt.mpr hsz)
theorem ws04_use {w : World} {mean : ExcName → Option Value} {mg mb : Str → Option Value} {dp un : Nat} {gd : Option (List Code)} {cn : Str} {cs : Scope} {a : Addr} {ccd : Value} {cl : List (Str × Addr)} {outer : List Env} {A₀ : Around} {base h₀ : Heap} {L : Addr} {m : Str → Option Value} {news : List (Addr × Obj)} {s : Shared} {ws : Str} {t : Tok}
    {Q E : Value → Shared → Prop} (B : Below A₀ base outer h₀) (F : Fr h₀ L s.heap m) (X : (hd04.heap_39 w.params).In h₀) (N : News h₀ L s.heap news) (T : Top topProg (looseW hd04.view_39 [Str.ofString "Whitespace"] ++ (recsOf hd04.view_39).map (·.name) ++ (litsOf hd04.view_39).map (·.1) ++ (clssOf hd04.view_39 (looseW hd04.view_39 [Str.ofString "Whitespace"])).map (·.name)) mean mg mb h₀) (hk : cs.kind = .function) (hlen : ws.length ≤ 10000) (hd : dp + 10 < recursionLimit) (hu : un + 80 < cLine)
    (h : ∀ (x dx nr ct : Nat) (cv : List Value) (k1 k2 k3 k4 k5 tn tnt tb : Tok) h' tk', Fr h₀ L h' m →
      News h₀ L h' ((x, instObj 124 dx) :: (dx, dictOf (wsEnt w ws t (wsOf ws).2.2.1 (wsOf ws).2.2.2 tn tnt nr (decide (((wsOf ws).1.length : Int) ≤ 1)) k1 k2 k3 k4 k5) 5) :: (nr, tupOf #[.ref ct, .int (wsOf ws).2.1 tb]) :: (ct, tupOf cv.toArray) :: news) →
      IntsAre cv (wsOf ws).1 → (∀ p ∈ news, p.1 < dx) → dx < x ∧ x < ct ∧ ct < nr → Q (.ref x) { s with heap := h', toks := tk' }) :
    wpAny (model Challenge.rw_dn0186_04.row.prog w) (ktrTop dp un gd cn cs L a ccd cl outer) (call (.ref 124) [.str ws t]) Q E s :=
  ws04 w mean mg mb dp un gd cn cs a ccd cl outer A₀ base h₀ L m s ws t Q E B F X T hk hlen hd hu fun x dx nr ct cv k1 k2 k3 k4 k5 tn tnt tb h' tk' F' st N' hi hz h1 h2 h3 =>
    h x dx nr ct cv k1 k2 k3 k4 k5 tn tnt tb h' tk' F' (news_app N' (news_stays N st)) hi (fun p hp => Nat.lt_of_lt_of_le (Heap.lt_size (N p hp).1) hz) ⟨h1, h2, h3⟩
end

section
open PySem PySem.W PyProof.Rows
local macro_rules | `(tactic| walk_at "ITER") => `(tactic| (k_here; (rename Fr _ _ _ _ => lF'); (with_unfolding_all refine' For_invVF lF' ?k1 ?k2 ?_; (case k1 => exact rfl); (case k2 => exact rfl); k_whole)))
local macro_rules | `(tactic| walk_at "exec For Name BinOp cons nil") => `(tactic| walk_at "ITER")
local macro_rules | `(tactic| walk_at "exec For Name Call cons nil") => `(tactic| walk_at "ITER")
local macro_rules | `(tactic| walk_at "exec For Name Name cons nil") => `(tactic| walk_at "ITER")
local macro_rules | `(tactic| walk_at "LB") => `(tactic| first | assumption | (with_reducible refine' app_len ?x9 ?y9; (case x9 => walk_at "LB"); (case y9 => walk_at "LB")) | exact (tab_len (B := 64) (by decide)) | (refine (?_ : _ ≤ 64); exact Nat.le_of_ble_eq_true rfl))
local macro_rules | `(tactic| walk_at "LEN") => `(tactic| first | omega | decide | exact Nat.le_trans (tab_len (B := 64) (by decide)) (by decide) | ((refine' len_le ?p9 ?q9); (case p9 => walk_at "LB"); (case q9 => first | decide | omega)))
local macro_rules | `(tactic| walk_at "binaryOp Add str str") => `(tactic| (k_here; (with_reducible show wpAny _ _ (binaryOp Operator.Add (Value.str _ _) (Value.str _ _)) _ _ _); (refine add_str ?_ (add_fits ?h1 ?h2)); (case h1 => walk_at "LEN"); (case h2 => walk_at "LEN"); intro _ _))
local macro_rules | `(tactic| walk_at "binaryOp Mult str int") => `(tactic| (k_here; (with_reducible show wpAny _ _ (binaryOp Operator.Mult (Value.str _ _) (Value.int _ _)) _ _ _); k_dflt (refine' mul_led ?h1 ?h2 ?h3 ?_; (case h1 => first | decide | omega | ((refine' len_le ?p9 ?q9); (case p9 => walk_at "LB"); (case q9 => first | decide | omega))); (case h2 => ((try k_fmods); omega)); (case h3 => ((try k_fmods); omega)); k_whole); intro _ _))
local macro_rules | `(tactic| walk_at "IDX") => `(tactic| first | omega | ((simp only [List.length_append, List.length_cons, List.length_nil, List.length_map, List.length_range, List.length_set, List.length_replicate]); omega))
local macro_rules | `(tactic| walk_at "SUBI") => `(tactic| (k_here; (with_reducible show wpAny _ _ (subscriptTail _ _ (Value.ref _) (Value.int _ _)) _ _ _); k_dflt (refine' ksa_sub ?k1 ?k2 ?k3 ?k4 ?k5 ?k6 ?_ ?k7; (case k1 => k_asm); (case k2 => k_mem); (case k3 => with_reducible assumption); (case k4 => walk_at "IDX"); (case k5 => walk_at "IDX"); (case k6 => walk_at "IDX"); (case k7 => with_unfolding_all rfl); k_whole); intro _))
local macro_rules | `(tactic| walk_at "subscriptTail Name Name ref int") => `(tactic| walk_at "SUBI")
local macro_rules | `(tactic| walk_at "subscriptTail Name BinOp ref int") => `(tactic| walk_at "SUBI")
local macro_rules | `(tactic| walk_at "setItem ref int") => `(tactic| (k_here; (with_reducible show wpAny _ _ (setItem (Value.ref _) (Value.int _ _) (Value.int _ _)) _ _ _); k_dflt (refine' ksa_set ?k1 ?k2 ?k3 ?k4 ?k5 ?k6 ?k7 ?_; (case k1 => k_asm); (case k2 => k_asm); (case k3 => k_upd); (case k4 => with_reducible assumption); (case k5 => walk_at "IDX"); (case k6 => walk_at "IDX"); (case k7 => walk_at "IDX"); k_whole); intro h' F' N' hi' hl' hs'; clear hs'; (try k_sweep)))
local macro_rules | `(tactic| walk_at "DATE") => `(tactic| first | (with_reducible exact DatIn.int _ _) | exact datInt (by assumption) | exact datInt (by decide) | (refine' DatIn.tuple ?m9 ?r9; (case m9 => k_mem); (case r9 => walk_at "DATES")))
local macro_rules | `(tactic| walk_at "DATES") => `(tactic| first | exact DatAll.nil | exact datInts (by assumption) (by assumption) | exact datAll_ints (by assumption) | (refine' DatAll.cons ?x9 ?y9; (case x9 => walk_at "DATE"); (case y9 => walk_at "DATES")))
open PySem PySem.W PyProof.Rows


theorem nk04 (P : Params) : NagK (hd04.heap_39 P) 59 58 35 := ⟨⟨_, _, _, _, _, _, _, _, _, _, _, _, _, rfl⟩, by kernel_rfl, by kernel_rfl, by kernel_rfl, by kernel_rfl⟩
abbrev nagMap (a b c : Value) (y : Str) : Option Value := if y = Str.ofString "line" then some c else if y = Str.ofString "msg" then some b else if y = Str.ofString "lineno" then some a else none
theorem tl_lineno : typeLookup (.type "Exception") (Str.ofString "lineno") = pure none := by rw [typeLookup_type, builtinLookup_eq_fast]; kernel_rfl
theorem ns_lineno (P : Params) : nsIn (hd04.heap_39 P) 58 (Str.ofString "lineno") = some none := by kernel_rfl
theorem within_one {n : Str} {v : Value} : Within (fun y => if y = n then some v else none) [n] := fun y hy => by
  by_cases h : y = n
  · subst h; exact .head _
  · simp [h] at hy
theorem within_more {n : Str} {v : Value} {m : Str → Option Value} {ns : List Str} (h : Within m ns) : Within (fun y => if y = n then some v else m y) (n :: ns) := fun y hy => by
  by_cases e : y = n
  · subst e; exact .head _
  · simp only [e, if_false] at hy; exact .tail _ (h y hy)
local macro_rules | `(tactic| walk_at "WITHIN") => `(tactic| first | exact within_one | exact within_more within_one | exact within_more (within_more within_one) | assumption)
local macro_rules | `(tactic| walk_at "setAttr ref") => `(tactic| (k_here; (with_reducible show wpAny _ _ (setAttr (Value.ref _) _ _) _ _ _); k_dflt (refine' setE_first ?F ?X ?N (nk04 _) ?hn ?hB ?hc ?hd ?hdn ?U ?_; (case F => k_asm); (case X => k_asm); (case N => k_asm); (case hn => first | exact ns_lineno _ | exact ns_msg _ | exact ns_line _); (case hB => first | exact tl_lineno | exact tl_msg | exact tl_line); (case U => (intro dx'; k_upd)); (case hc => rfl); (case hd => rfl); (case hdn => rfl); k_whole); intro dx' od' h' tk' F' N' l1 hD'; (try k_lt l1); (try k_sweep)))
local macro_rules | `(tactic| walk_at "setAttr ref") => `(tactic| (k_here; (with_reducible show wpAny _ _ (setAttr (Value.ref _) _ _) _ _ _); k_dflt (refine' setE_more ?F ?X ?N (nk04 _) ?hn ?hB ?hm ?hc ?hd ?hdx ?hne ?hD ?hw ?hsz ?U ?_; (case F => k_asm); (case X => k_asm); (case N => k_asm); (case hn => first | exact ns_lineno _ | exact ns_msg _ | exact ns_line _); (case hB => first | exact tl_lineno | exact tl_msg | exact tl_line); (case hm => k_mem); (case hc => rfl); (case hd => rfl); (case hdx => rfl); (case hne => k_ne); (case U => (intro od'; k_upd)); (case hD => assumption); (case hw => walk_at "WITHIN"); (case hsz => exact Nat.le_of_ble_eq_true rfl); k_whole); intro od' h' tk' F' N' hD'; (try k_sweep)))
theorem nag04 (w : World) (mean : ExcName → Option Value) (mg mb : Str → Option Value) :
  ∀ (dp un : Nat) (gd : Option (List Code)) (cn : Str) (cs : Scope) (a : Addr) (ccd : Value) (cl : List (Str × Addr)) (outer : List Env) (A₀ : Around) (base h₀ : Heap) (L : Addr) (m : Str → Option Value) (s : Shared) (v1 v2 v3 : Value)
    (Q E : Value → Shared → Prop),
    Below A₀ base outer h₀ → Fr h₀ L s.heap m → (hd04.heap_39 w.params).In h₀ → Top topProg (looseW hd04.view_39 [Str.ofString "Whitespace"] ++ (recsOf hd04.view_39).map (·.name) ++ (litsOf hd04.view_39).map (·.1) ++ (clssOf hd04.view_39 (looseW hd04.view_39 [Str.ofString "Whitespace"])).map (·.name)) mean mg mb h₀ → cs.kind = .function →
    dp + 10 < recursionLimit → un + 80 < cLine →
    (∀ (x dx t : Nat) (od : Obj) h' tk', Fr h₀ L h' m → s.heap.StaysIn h' → News h₀ L h' [(x, { excNew 59 t with dict := some dx }), (dx, od), (t, tupO #[v1, v2, v3])] → DictObj od (nagMap v1 v2 v3) → s.heap.objs.size ≤ t → t < x → x < dx → Q (.ref x) { s with heap := h', toks := tk' }) →
    wpAny (model Challenge.rw_dn0186_04.row.prog w) (ktrTop dp un gd cn cs L a ccd cl outer) (call (.ref 59) [v1, v2, v3]) Q E s := by
  k_fill
  intro dp un gd cn cs a ccd cl outer A₀ base h₀ L m s v1 v2 v3 Q E B F X T hk hd hu hret
  refine call_excH F X (nk04 w.params) (Nat.le_of_ble_eq_true rfl) ?_
  intro x t h' st hsz htx F' N'
  k_lt2 htx
  k_dflt (refine' code_defH ?k1 ?k2 ?k3 ?k4 ?k5 ?kA ?kF ?kK ?k6 ?k7 ?k8 ?k9 ?kB ?_ ?c2 ?c3 ?c4 ?c5; (case kA => exact rfl); (case kF => exact rfl); (case kK => assumption); (case k1 => k_asm); (case k2 => k_asm); (case k3 => k_asm); (case k4 => k_asm); (case k5 => k_asm); (case k6 => k_is); (case k7 => k_is); (case k8 => ktr_room); (case k9 => exact BindsTo.of_eq rfl); (case c5 => decide); (case kB => exact locs rfl); (case c2 => exact rfl); (case c3 => exact rfl); (case c4 => exact rfl); k_whole)
  intro g L' h1 stG hszL FG' F' N' B' X' T'
  (try dsimp only)
  (try k_fold)
  w_on
  (repeat' ((fail_if_success (with_reducible show wpAny _ _ (pyIter _) _ _ _)); (fail_if_success (with_reducible show wpAny _ _ (compareOp CmpOp.NotEq (Value.ref _) (Value.ref _)) _ _ _)); (fail_if_success (with_reducible show wpAny _ _ (compareOp CmpOp.Eq (Value.ref _) (Value.ref _)) _ _ _)); (fail_if_success (with_reducible show wpAny _ _ (exec (Stmt.While _ _ _ _) _) _ _ _)); (fail_if_success (with_reducible show LCg.CompSrc _ _ _ _ _ _ _ _ _ _ _ _ _ _)); first | (k_unfold; (try dsimp only)) | (k_end; wrow_close) | walk1 | (dsimp only; walk1) | (leave1; walk_say "STEP leave1"; try dsimp only) | fail "no step"))
  rename_i D1 hh4 l1 hh3 dx od2 hh2 tk2 hD2 l2 od1 hh1 tk1 hD1 od hz tkz F9 N9 hD9 kF9 kN9 _ _
  refine hret x dx t od hz tkz kF9 (fun b o e => F9.keep b o (stG b o (st b o e) ?_)) (news_sub kN9 (List.forall_mem_cons.mpr ⟨.tail _ (.tail _ (.head _)), List.forall_mem_cons.mpr ⟨.head _, List.forall_mem_cons.mpr ⟨.tail _ (.tail _ (.tail _ (.head _))), List.forall_mem_nil _⟩⟩⟩)) hD9 hsz htx l2.2.1
  have hb : b < s.heap.objs.size := Heap.lt_size e
  intro hm
  simp only [List.map_cons, List.map_nil, List.mem_cons, List.not_mem_nil, or_false] at hm
  rcases hm with rfl | rfl
  · exact absurd (Nat.lt_of_lt_of_le hb (Nat.le_trans hsz (Nat.le_of_lt htx))) (Nat.lt_irrefl _)
  · exact absurd (Nat.lt_of_lt_of_le hb hsz) (Nat.lt_irrefl _)

open PySem PySem.W PyProof.Rows


def fwTx (ts : List Str) : Str := (if 1 < ts.length then (Str.ofString "at tab size" ++ Str.ofString "s") else Str.ofString "at tab size") ++ Str.ofString " " ++ Txt.join (Str.ofString ", ") ts
local macro_rules | `(tactic| walk_at "call builtin:len") => `(tactic| (k_here; (with_reducible show wpAny _ _ (call (Value.builtin "len") [Value.ref _]) _ _ _); k_dflt (refine' len_base ?F ?t ?i ?z ?_; (case F => k_asm); (case t => assumption); (case i => assumption); (case z => omega); k_whole); intro _ _))
local macro_rules | `(tactic| walk_at "call builtin:str.join") => `(tactic| (k_here; dsimp only [List.cons_append, List.nil_append]; (with_reducible show wpAny _ _ (call (Value.builtin "str.join") [Value.str _ _, Value.ref _]) _ _ _); k_dflt (refine' join_ready ?F ?N ?o ?G ?R _ ?h1 ?h2 ?_ ?h3; (case F => k_asm); (case N => k_asm); (case G => assumption); (case R => assumption); (case o => assumption); (case h2 => assumption); (case h1 => exact fun _ _ h => h); (case h3 => assumption); k_whole); intro h' gs' tk' t' F' N' hG' hk'))
theorem fw04 (w : World) (mean : ExcName → Option Value) (mg mb : Str → Option Value) :
  ∀ (dp un : Nat) (gd : Option (List Code)) (cn : Str) (cs : Scope) (a : Addr) (ccd : Value) (cl : List (Str × Addr)) (outer : List Env) (A₀ : Around) (base h₀ : Heap) (L : Addr) (m : Str → Option Value) (s : Shared) (D : Addr) (ps : Array Value) (vs : List Value) (ts : List Str)
    (Q E : Value → Shared → Prop),
    Below A₀ base outer h₀ → Fr h₀ L s.heap m → (hd04.heap_39 w.params).In h₀ → News h₀ L s.heap [(130, tabObj ps)] → Top topProg (looseW hd04.view_39 [Str.ofString "Whitespace"] ++ (recsOf hd04.view_39).map (·.name) ++ (litsOf hd04.view_39).map (·.1) ++ (clssOf hd04.view_39 (looseW hd04.view_39 [Str.ofString "Whitespace"])).map (·.name)) mean mg mb h₀ → cs.kind = .function → CodeHd h₀ 134 130 →
    TabForm ⟨80, 13, 80, 39⟩ ps → AllBare s.gens → (s.heap.IsList D vs.toArray ∨ s.heap.IsTuple D vs.toArray) → vs.length = ts.length → (∀ i v, vs[i]? = some v → FirstTx s.heap v (ts.getD i ⟨#[]⟩)) → ts.length ≤ 1000 → (ts.map (·.length)).sum ≤ 100000 → dp + 10 < recursionLimit → un + 80 < cLine →
    (∀ h' gs tk ps' t, Fr h₀ L h' m → News h₀ L h' [(130, tabObj ps')] → TabForm ⟨80, 13, 80, 39⟩ ps' → AllBare gs → (∀ b o, b ≠ 130 → s.heap.get? b = some o → h'.get? b = some o) → Q (.str (fwTx ts) t) { s with heap := h', gens := gs, toks := tk }) →
    wpAny (model Challenge.rw_dn0186_04.row.prog w) (ktrTop dp un gd cn cs L a ccd cl outer) (call (.ref 135) [.ref D]) Q E s := by
  k_fill
  intro dp un gd cn cs a ccd cl outer A₀ base h₀ L m s D ps vs ts Q E B F X N T hk CH hf hG hD hlen hrow htl hts hd hu hret
  refine wpAny_call ?_
  k_dflt (refine' code_defH ?k1 ?k2 ?k3 ?k4 ?k5 ?kA ?kF ?kK ?k6 ?k7 ?k8 ?k9 ?kB ?_ ?c2 ?c3 ?c4 ?c5; (case kA => exact rfl); (case kF => exact rfl); (case kK => assumption); (case k1 => k_asm); (case k2 => k_asm); (case k3 => k_asm); (case k4 => k_asm); (case k5 => k_asm); (case k6 => k_is); (case k7 => k_is); (case k8 => ktr_room); (case k9 => exact BindsTo.of_eq rfl); (case c5 => decide); (case kB => exact locs rfl); (case c2 => exact rfl); (case c3 => exact rfl); (case c4 => exact rfl); k_whole)
  intro g L' h' stG hszL FG' F' N' B' X' T'
  have hP := (N _ (.head _)).1
  have kg : ∀ b o, (∃ xs n, o.data = .seq xs n) → s.heap.get? b = some o → g.get? b = some o := fun b o ⟨xs, n, hx⟩ e => stG b o e fun q => by
    rw [List.map_cons, List.map_nil, List.mem_singleton] at q
    subst q
    rw [hP] at e
    cases e
    cases hx
  have hDg : g.IsList D vs.toArray ∨ g.IsTuple D vs.toArray := by
    rcases hD with ⟨o, e, c, n, d⟩ | ⟨o, e, c, n, d⟩
    · exact .inl ⟨o, kg _ _ ⟨_, _, d⟩ e, c, n, d⟩
    · exact .inr ⟨o, kg _ _ ⟨_, _, d⟩ e, c, n, d⟩
  (try dsimp only)
  (try k_fold)
  w_on
  (repeat' ((fail_if_success (with_reducible show wpAny _ _ (pyIter _) _ _ _)); (fail_if_success (with_reducible show wpAny _ _ (compareOp CmpOp.NotEq (Value.ref _) (Value.ref _)) _ _ _)); (fail_if_success (with_reducible show wpAny _ _ (compareOp CmpOp.Eq (Value.ref _) (Value.ref _)) _ _ _)); (fail_if_success (with_reducible show wpAny _ _ (exec (Stmt.While _ _ _ _) _) _ _ _)); (fail_if_success (with_reducible show LCg.CompSrc _ _ _ _ _ _ _ _ _ _ _ _ _ _)); first | (k_unfold; (try dsimp only)) | (k_end; wrow_close) | walk1 | (dsimp only; walk1) | (leave1; walk_say "STEP leave1"; try dsimp only) | fail "no step"))
  refine genexp_tab (D := D) (vs := vs) (c := 134) (cl := []) (Fv := fun i y => ∃ t, y = .str (ts.getD i ⟨#[]⟩) t) F' N' (CH.keeps FG'.keep) T' hf hG rfl rfl rfl rfl (by with_unfolding_all rfl) (by decide) rfl rfl rfl (by ktr_room) hDg ?hit ?hel ?hQ (by intro _; rfl)
  case hit =>
    intro Q' hq
    refine ld F' rfl hq
  case hel =>
    intro C code A' E' i v u m₂ hA hD hU hi hF hm hLC
    exact elt_first rfl T'.g (mg_none_of X' T'.g (by kernel_rfl)) T'.b ((T'.builtins _ (by decide)).trans (by boot_fact)) rfl rfl rfl hF hm ((hrow i v hi).keeps kg)
  case hQ =>
    intro a9 oa C9 oC I9 oI h₅ tk5 gs5 ps5 hG5 F5 N5 hf5 l1 l2 l3 hk5 R5
    have hjl : (Txt.join (Str.ofString ", ") ts).length ≤ 102000 := join_len _ _ (by have : (Str.ofString ", ").length = 2 := by decide
                                                                                     rw [this]; omega)
    have hmp : (List.range vs.length).map (fun i => ts.getD i ⟨#[]⟩) = ts := map_getD ts _ hlen
    have hjo : JoinOk (Str.ofString ", ") ((List.range vs.length).map fun i => ts.getD i ⟨#[]⟩) = true := by
      rw [hmp]
      refine joinOk_of ?_
      have : (Str.ofString ", ").length = 2 := by decide
      rw [this]; omega
    have hvn : vs.length ≤ sizeLine := by rw [PySem.sizeLine_eq]; omega
    have h16 : (130 : Nat) < s.heap.objs.size := Heap.lt_size hP
    have hsI : s.heap.objs.size ≤ h'.objs.size := Nat.le_trans hszL (Nat.le_of_lt F'.ns.lt)
    have ho9 : ∀ q ∈ [((130 : Addr), tabObj ps5)], q.1 ≠ C9 ∧ q.1 ≠ I9 := fun q hq => by
      rw [List.mem_singleton.mp hq]
      have hI : (130 : Nat) < I9 := Nat.lt_of_lt_of_le h16 (Nat.le_trans hsI l1)
      exact ⟨Nat.ne_of_lt (Nat.lt_trans hI l2), Nat.ne_of_lt hI⟩
    (repeat' ((fail_if_success (with_reducible show wpAny _ _ (pyIter _) _ _ _)); (fail_if_success (with_reducible show wpAny _ _ (compareOp CmpOp.NotEq (Value.ref _) (Value.ref _)) _ _ _)); (fail_if_success (with_reducible show wpAny _ _ (compareOp CmpOp.Eq (Value.ref _) (Value.ref _)) _ _ _)); (fail_if_success (with_reducible show wpAny _ _ (exec (Stmt.While _ _ _ _) _) _ _ _)); (fail_if_success (with_reducible show LCg.CompSrc _ _ _ _ _ _ _ _ _ _ _ _ _ _)); first | (k_unfold; (try dsimp only)) | (k_end; wrow_close) | walk1 | (dsimp only; walk1) | (leave1; walk_say "STEP leave1"; try dsimp only) | fail "no step"))
    all_goals rw [hmp]
    all_goals (repeat' ((fail_if_success (with_reducible show wpAny _ _ (pyIter _) _ _ _)); (fail_if_success (with_reducible show wpAny _ _ (compareOp CmpOp.NotEq (Value.ref _) (Value.ref _)) _ _ _)); (fail_if_success (with_reducible show wpAny _ _ (compareOp CmpOp.Eq (Value.ref _) (Value.ref _)) _ _ _)); (fail_if_success (with_reducible show wpAny _ _ (exec (Stmt.While _ _ _ _) _) _ _ _)); (fail_if_success (with_reducible show LCg.CompSrc _ _ _ _ _ _ _ _ _ _ _ _ _ _)); first | (k_unfold; (try dsimp only)) | (k_end; wrow_close) | walk1 | (dsimp only; walk1) | (leave1; walk_say "STEP leave1"; try dsimp only) | fail "no step"))
    · rename 1 < (ts.length : Int) => h1
      rename Fr h₀ L _ m => kF
      rename News h₀ L _ _ => kN
      rename Fr g L' _ _ => Fz
      have e : fwTx ts = Str.ofString "at tab size" ++ Str.ofString "s" ++ Str.ofString " " ++ Txt.join (Str.ofString ", ") ts := by unfold fwTx; rw [if_pos (by omega)]
      refine Eq.mp (congrArg (fun x => Q (Value.str x _) _) e) (hret _ _ _ _ _ kF kN hf5 (by assumption) fun b o hb e => Fz.keep b o (stG b o e (by simpa using hb)))
    · rename ¬ 1 < (ts.length : Int) => h1
      rename Fr h₀ L _ m => kF
      rename News h₀ L _ _ => kN
      rename Fr g L' _ _ => Fz
      have e : fwTx ts = Str.ofString "at tab size" ++ Str.ofString " " ++ Txt.join (Str.ofString ", ") ts := by unfold fwTx; rw [if_neg (by omega)]
      refine Eq.mp (congrArg (fun x => Q (Value.str x _) _) e) (hret _ _ _ _ _ kF kN hf5 (by assumption) fun b o hb e => Fz.keep b o (stG b o e (by simpa using hb)))

open PySem PySem.W PyProof.Rows


abbrev wsE (w : World) (C x dx nr ct : Nat) (cv : List Value) (ws : Str) (b n nt : Int) (sb : Bool) (t k1 k2 k3 k4 k5 tn tnt tb : Tok) : List (Addr × Obj) :=
  [(x, instObj C dx), (dx, dictOf (wsEnt w ws t n nt tn tnt nr sb k1 k2 k3 k4 k5) 5), (nr, tupOf #[.ref ct, .int b tb]), (ct, tupOf cv.toArray)]
local macro_rules | `(tactic| walk_at "subscriptTail Name Name ref int") => `(tactic| (k_here; (with_reducible show wpAny _ _ (subscriptTail _ _ (Value.ref _) (Value.int _ _)) _ _ _); k_dflt (refine' item_tupI ?N ?a ?i ?h0 ?h1 ?hf ?_ ?hs; (case N => k_asm); (case a => k_mem); (case i => assumption); (case h0 => walk_at "IDX"); (case h1 => walk_at "IDX"); (case hf => walk_at "IDX"); (case hs => with_unfolding_all rfl); k_whole); intro _))
theorem ints_mem {ci : List Int} {k : Nat} (h : k < ci.length) : ci.getD k 0 ∈ ci := by
  rw [List.getD_eq_getElem?_getD, List.getElem?_eq_getElem h]
  exact List.getElem_mem h
theorem q_int {Q : Value → Shared → Prop} {v v' : Int} {t : Tok} {s : Shared} (e : v = v') (h : Q (.int v' t) s) : Q (.int v t) s := e ▸ h
theorem stays_of {h₀ h h' : Heap} {L : Addr} {led : List (Addr × Obj)} (N : News h₀ L h led) (hk : ∀ p ∈ led, h'.get? p.1 = some p.2) (hg : ∀ b o, h.get? b = some o → b ∉ led.map (·.1) → h'.get? b = some o) : h.StaysIn h' := by
  intro b o e
  by_cases hb : b ∈ led.map (·.1)
  · obtain ⟨p, hp, rfl⟩ := List.mem_map.mp hb
    have := (N p hp).1
    rw [e] at this
    rw [hk p hp, Option.some.inj this]
  · exact hg b o e hb
local macro_rules | `(tactic| walk_at "call builtin:len") => `(tactic| (k_here; (with_reducible show wpAny _ _ (call (Value.builtin "len") [Value.ref _]) _ _ _); k_dflt (refine' len_tupL ?N ?a ?i ?z ?_; (case N => k_asm); (case a => k_mem); (case i => assumption); (case z => walk_at "IDX"); k_whole); intro _ _))
theorem lr04 (w : World) (mean : ExcName → Option Value) (mg mb : Str → Option Value) :
  ∀ (dp un : Nat) (gd : Option (List Code)) (cn : Str) (cs : Scope) (a : Addr) (ccd : Value) (cl : List (Str × Addr)) (outer : List Env) (A₀ : Around) (base h₀ : Heap) (L : Addr) (m : Str → Option Value) (s : Shared)
    (x dx nr ct : Nat) (cv : List Value) (ci : List Int) (ws : Str) (b n nt : Int) (sb : Bool) (t k1 k2 k3 k4 k5 tn tnt tb : Tok) (Q E : Value → Shared → Prop),
    Below A₀ base outer h₀ → Fr h₀ L s.heap m → (hd04.heap_39 w.params).In h₀ → Top topProg (looseW hd04.view_39 [Str.ofString "Whitespace"] ++ (recsOf hd04.view_39).map (·.name) ++ (litsOf hd04.view_39).map (·.1) ++ (clssOf hd04.view_39 (looseW hd04.view_39 [Str.ofString "Whitespace"])).map (·.name)) mean mg mb h₀ → cs.kind = .function →
    News h₀ L s.heap (wsE w 124 x dx nr ct cv ws b n nt sb t k1 k2 k3 k4 k5 tn tnt tb) → IntsAre cv ci → dx < x → x < ct → ct < nr → ci.length ≤ 1000 → dp + 10 < recursionLimit → un + 80 < cLine →
    (∀ tk h' t', Fr h₀ L h' m → s.heap.StaysIn h' → Q (.int (max ((ci.length : Int) - 1) b) t') { s with heap := h', toks := tk }) →
    wpAny (model Challenge.rw_dn0186_04.row.prog w) (ktrTop dp un gd cn cs L a ccd cl outer) (call (.ref 86) [.ref x]) Q E s := by
  k_fill
  intro dp un gd cn cs a ccd cl outer A₀ base h₀ L m s x dx nr ct cv ci ws b n nt sb t k1 k2 k3 k4 k5 tn tnt tb Q E B F X T hk N hI q1 q2 q3 hz hd hu hret
  refine wpAny_call ?_
  (k_dflt (refine' code_defH ?k1zq ?k2zq ?k3zq ?k4zq ?k5zq ?kAzq ?kFzq ?kKzq ?k6zq ?k7zq ?k8zq ?k9zq ?kBzq ?_ ?c2zq ?c3zq ?c4zq ?c5zq; (case kAzq => exact rfl); (case kFzq => exact rfl); (case kKzq => assumption); (case k1zq => k_asm); (case k2zq => k_asm); (case k3zq => k_asm); (case k4zq => k_asm); (case k5zq => k_asm); (case k6zq => k_is); (case k7zq => k_is); (case k8zq => ktr_room); (case k9zq => exact BindsTo.of_eq rfl); (case c5zq => decide); (case kBzq => exact locs rfl); (case c2zq => exact rfl); (case c3zq => exact rfl); (case c4zq => exact rfl); k_whole))
  intro g L' hh1 stG hszL FG' F' N' B' X' T'
  (try dsimp only)
  (try k_fold)
  w_on
  (repeat' ((fail_if_success (with_reducible show wpAny _ _ (pyIter _) _ _ _)); (fail_if_success (with_reducible show wpAny _ _ (compareOp CmpOp.NotEq (Value.ref _) (Value.ref _)) _ _ _)); (fail_if_success (with_reducible show wpAny _ _ (compareOp CmpOp.Eq (Value.ref _) (Value.ref _)) _ _ _)); (fail_if_success (with_reducible show wpAny _ _ (exec (Stmt.While _ _ _ _) _) _ _ _)); (fail_if_success (with_reducible show LCg.CompSrc _ _ _ _ _ _ _ _ _ _ _ _ _ _)); first | (k_unfold; (try dsimp only)) | (k_end; wrow_close) | walk1 | (dsimp only; walk1) | (leave1; walk_say "STEP leave1"; try dsimp only) | fail "no step"))
  rename Fr h₀ L _ m => kF
  rename News h₀ L _ _ => kN
  rename Fr g L' _ _ => Fz
  refine q_int ?_ (hret _ _ _ kF (stays_of N (fun p hp => (kN p hp).1) fun b o e hb => Fz.keep b o (stG b o e hb)))
  split <;> omega
def ilS (ci : List Int) (ts : Int) (k : Nat) : Int := ((List.range k).map fun (j : Nat) => (ts + (j : Int)).fdiv ts * ci.getD (ts + (j : Int)).toNat 0).sum
def lvl (ci : List Int) (b nt ts : Int) : Int := b + ts * (ilS ci ts ((ci.length : Int) - ts).toNat + nt)
theorem ilS_succ (ci : List Int) (ts : Int) (k : Nat) : ilS ci ts (k + 1) = ilS ci ts k + (ts + (k : Int)).fdiv ts * ci.getD (ts + (k : Int)).toNat 0 := by
  simp [ilS, List.range_succ]
theorem rsizeAB (a b : Int) : Builtin.Range.rangeSize a b 1 = (((b - a).toNat : Nat) : Int) := by
  unfold Builtin.Range.rangeSize
  simp
  split <;> omega
theorem il04 (w : World) (mean : ExcName → Option Value) (mg mb : Str → Option Value) :
  ∀ (dp un : Nat) (gd : Option (List Code)) (cn : Str) (cs : Scope) (a : Addr) (ccd : Value) (cl : List (Str × Addr)) (outer : List Env) (A₀ : Around) (base h₀ : Heap) (L : Addr) (m : Str → Option Value) (s : Shared)
    (x dx nr ct : Nat) (cv : List Value) (ci : List Int) (ws : Str) (b n nt : Int) (sb : Bool) (t k1 k2 k3 k4 k5 tn tnt tb : Tok) (ts : Int) (tt : Tok) (Q E : Value → Shared → Prop),
    Below A₀ base outer h₀ → Fr h₀ L s.heap m → (hd04.heap_39 w.params).In h₀ → Top topProg (looseW hd04.view_39 [Str.ofString "Whitespace"] ++ (recsOf hd04.view_39).map (·.name) ++ (litsOf hd04.view_39).map (·.1) ++ (clssOf hd04.view_39 (looseW hd04.view_39 [Str.ofString "Whitespace"])).map (·.name)) mean mg mb h₀ → cs.kind = .function →
    News h₀ L s.heap (wsE w 124 x dx nr ct cv ws b n nt sb t k1 k2 k3 k4 k5 tn tnt tb) → IntsAre cv ci → dx < x → x < ct → ct < nr → ci.length ≤ 1000 → (∀ c ∈ ci, 0 ≤ c ∧ c ≤ 1000) → 0 ≤ nt → nt ≤ 1000 → 0 ≤ b → b ≤ 1000 → 1 ≤ ts → ts ≤ 1000 → dp + 10 < recursionLimit → un + 80 < cLine →
    (∀ tk h' t', Fr h₀ L h' m → s.heap.StaysIn h' → Q (.int (lvl ci b nt ts) t') { s with heap := h', toks := tk }) →
    wpAny (model Challenge.rw_dn0186_04.row.prog w) (ktrTop dp un gd cn cs L a ccd cl outer) (call (.ref 93) [.ref x, .int ts tt]) Q E s := by
  k_fill
  intro dp un gd cn cs a ccd cl outer A₀ base h₀ L m s x dx nr ct cv ci ws b n nt sb t k1 k2 k3 k4 k5 tn tnt tb ts tt Q E B F X T hk N hI q1 q2 q3 hz hc h0 h1 hb0 hb1 ht0 ht1 hd hu hret
  refine wpAny_call ?_
  (k_dflt (refine' code_defH ?k1zq ?k2zq ?k3zq ?k4zq ?k5zq ?kAzq ?kFzq ?kKzq ?k6zq ?k7zq ?k8zq ?k9zq ?kBzq ?_ ?c2zq ?c3zq ?c4zq ?c5zq; (case kAzq => exact rfl); (case kFzq => exact rfl); (case kKzq => assumption); (case k1zq => k_asm); (case k2zq => k_asm); (case k3zq => k_asm); (case k4zq => k_asm); (case k5zq => k_asm); (case k6zq => k_is); (case k7zq => k_is); (case k8zq => ktr_room); (case k9zq => exact BindsTo.of_eq rfl); (case c5zq => decide); (case kBzq => exact locs rfl); (case c2zq => exact rfl); (case c3zq => exact rfl); (case c4zq => exact rfl); k_whole))
  intro g L' hh1 stG hszL FG' F' N' B' X' T'
  (try dsimp only)
  (try k_fold)
  w_on
  (repeat' ((fail_if_success (with_reducible show wpAny _ _ (pyIter _) _ _ _)); (fail_if_success (with_reducible show wpAny _ _ (compareOp CmpOp.NotEq (Value.ref _) (Value.ref _)) _ _ _)); (fail_if_success (with_reducible show wpAny _ _ (compareOp CmpOp.Eq (Value.ref _) (Value.ref _)) _ _ _)); (fail_if_success (with_reducible show wpAny _ _ (exec (Stmt.While _ _ _ _) _) _ _ _)); (fail_if_success (with_reducible show LCg.CompSrc _ _ _ _ _ _ _ _ _ _ _ _ _ _)); first | (k_unfold; (try dsimp only)) | (k_end; wrow_close) | walk1 | (dsimp only; walk1) | (leave1; walk_say "STEP leave1"; try dsimp only) | fail "no step"))
  rename Fr g L' _ _ => F5
  rename News g L' _ _ => N5
  rename IsRange _ _ _ _ _ _ _ _ => hR5
  obtain ⟨mr, hmr, F6⟩ : ∃ (mr : Str → Option Value), mr = _ ∧ Fr _ _ _ (fun y => if y = Str.ofString "il" then _ else mr y) := ⟨_, rfl, F5⟩
  clear F5
  refine' range_led (σ := Int × Tok) (fun c y => if y = Str.ofString "il" then some (.int c.1 c.2) else mr y) (fun _ => wsE w 124 x dx nr ct cv ws b n nt sb t k1 k2 k3 k4 k5 tn tnt tb) (fun i c => c.1 = ilS ci ts i ∧ 0 ≤ c.1 ∧ c.1 ≤ 1000000 * i) (fun c => c.1 = ilS ci ts ((ci.length : Int) - ts).toNat ∧ 0 ≤ c.1 ∧ c.1 ≤ 1000000000) (0, _) rfl hR5 ?hsm (rsizeAB _ _) F6 N5 (fun p hp => hp) (fun z _ => rfl) ⟨rfl, by simp, by simp⟩ ?hturn ?hends ?hdone
  case hsm => exact small_one (by omega) (by omega) (by omega) (by omega)
  case hends =>
    rintro ⟨c, ct'⟩ ⟨e1, e2, e3⟩
    refine ⟨e1, e2, ?_⟩
    dsimp only at e3 ⊢
    omega
  case hdone =>
    subst hmr
    rintro ⟨c, ct'⟩ u h tk' ⟨e1, e2, e3⟩ F7 N7
    dsimp only at F7 e1 e2 e3
    (try k_fold)
    (repeat' ((fail_if_success (with_reducible show wpAny _ _ (pyIter _) _ _ _)); (fail_if_success (with_reducible show wpAny _ _ (compareOp CmpOp.NotEq (Value.ref _) (Value.ref _)) _ _ _)); (fail_if_success (with_reducible show wpAny _ _ (compareOp CmpOp.Eq (Value.ref _) (Value.ref _)) _ _ _)); (fail_if_success (with_reducible show wpAny _ _ (exec (Stmt.While _ _ _ _) _) _ _ _)); (fail_if_success (with_reducible show LCg.CompSrc _ _ _ _ _ _ _ _ _ _ _ _ _ _)); first | (k_unfold; (try dsimp only)) | (k_end; wrow_close) | walk1 | (dsimp only; walk1) | (leave1; walk_say "STEP leave1"; try dsimp only) | fail "no step"))
    rename Fr h₀ L _ m => kF
    rename News h₀ L _ _ => kN
    exact q_int (by rw [e1]; rfl) (hret _ _ _ kF (stays_of N (fun p hp => (kN p hp).1) fun b o e hb => F7.keep b o (stG b o e hb)))
  case hturn =>
    subst hmr
    rintro i t' ⟨c, ct'⟩ I oI h tk' hi ⟨e1, e2, e3⟩ hoff F7 N7
    dsimp only at F7 e1 e2 e3
    simp only [wsE, List.cons_append, List.nil_append] at N7
    have hx0 : 0 ≤ ts + (i : Int) := by omega
    have hx1 : (ts + (i : Int)).toNat < ci.length := by omega
    have hcc := hc _ (ints_mem hx1)
    have hf0 : 0 ≤ (ts + (i : Int)).fdiv ts := by rw [Int.fdiv_eq_ediv_of_nonneg _ (by omega)]; exact Int.ediv_nonneg hx0 (by omega)
    have hf1 : (ts + (i : Int)).fdiv ts ≤ 1000 := by
      rw [Int.fdiv_eq_ediv_of_nonneg _ (by omega)]
      exact Int.le_trans (Int.ediv_le_self _ hx0) (by omega)
    (try k_fold)
    have hp0 := Int.mul_nonneg hf0 hcc.1
    have hp1 : (ts + (i : Int)).fdiv ts * ci.getD (ts + (i : Int)).toNat 0 ≤ 1000 * 1000 := Int.mul_le_mul hf1 hcc.2 hcc.1 (by decide)
    (repeat' ((fail_if_success (with_reducible show wpAny _ _ (pyIter _) _ _ _)); (fail_if_success (with_reducible show wpAny _ _ (compareOp CmpOp.NotEq (Value.ref _) (Value.ref _)) _ _ _)); (fail_if_success (with_reducible show wpAny _ _ (compareOp CmpOp.Eq (Value.ref _) (Value.ref _)) _ _ _)); (fail_if_success (with_reducible show wpAny _ _ (exec (Stmt.While _ _ _ _) _) _ _ _)); (fail_if_success (with_reducible show LCg.CompSrc _ _ _ _ _ _ _ _ _ _ _ _ _ _)); first | (k_unfold; (try dsimp only)) | (k_end; wrow_close) | walk1 | (dsimp only; walk1) | (leave1; walk_say "STEP leave1"; try dsimp only) | fail "no step"))
    rename Fr g L' _ _ => FZ
    rename News g L' _ _ => NZ
    refine' ⟨(c + (ts + (i : Int)).fdiv ts * ci.getD (ts + (i : Int)).toNat 0, ?tok), _, _, _, rfl, FZ, NZ, ?map, hoff, ?inv⟩
    case map =>
      intro z hz
      by_cases h1 : z = Str.ofString "il"
      · subst h1; rfl
      · simp only [h1, hz, if_false]
    case inv =>
      refine ⟨?_, ?_, ?_⟩
      · show _ = ilS ci ts (i + 1)
        rw [ilS_succ, ← e1]
      · dsimp only; omega
      · dsimp only; omega

open PySem PySem.W PyProof.Rows


theorem mem4 {news : List (Addr × Obj)} {a b c d : Addr × Obj} (h1 : a ∈ news) (h2 : b ∈ news) (h3 : c ∈ news) (h4 : d ∈ news) : ∀ p ∈ [a, b, c, d], p ∈ news :=
  List.forall_mem_cons.mpr ⟨h1, List.forall_mem_cons.mpr ⟨h2, List.forall_mem_cons.mpr ⟨h3, List.forall_mem_cons.mpr ⟨h4, List.forall_mem_nil _⟩⟩⟩⟩
theorem il04_use {w : World} {mean : ExcName → Option Value} {mg mb : Str → Option Value} {dp un : Nat} {gd : Option (List Code)} {cn : Str} {cs : Scope} {a : Addr} {ccd : Value} {cl : List (Str × Addr)} {outer : List Env} {A₀ : Around} {base h₀ : Heap} {L : Addr} {m : Str → Option Value} {news : List (Addr × Obj)} {s : Shared} {x dx nr ct : Nat} {cv : List Value} {ci : List Int} {ws : Str} {b n nt : Int} {sb : Bool} {t k1 k2 k3 k4 k5 tn tnt tb : Tok} {ts : Int} {tt : Tok} {Q E : Value → Shared → Prop}
    (B : Below A₀ base outer h₀) (F : Fr h₀ L s.heap m) (X : (hd04.heap_39 w.params).In h₀) (T : Top topProg (looseW hd04.view_39 [Str.ofString "Whitespace"] ++ (recsOf hd04.view_39).map (·.name) ++ (litsOf hd04.view_39).map (·.1) ++ (clssOf hd04.view_39 (looseW hd04.view_39 [Str.ofString "Whitespace"])).map (·.name)) mean mg mb h₀) (hk : cs.kind = .function) (N : News h₀ L s.heap news)
    (m1 : (x, instObj 124 dx) ∈ news) (m2 : (dx, dictOf (wsEnt w ws t n nt tn tnt nr sb k1 k2 k3 k4 k5) 5) ∈ news) (m3 : (nr, tupOf #[.ref ct, .int b tb]) ∈ news) (m4 : (ct, tupOf cv.toArray) ∈ news) (hI : IntsAre cv ci) (q1 : dx < x) (q2 : x < ct) (q3 : ct < nr)
    (hz : ci.length ≤ 1000) (hc : ∀ c ∈ ci, 0 ≤ c ∧ c ≤ 1000) (h0 : 0 ≤ nt) (h1 : nt ≤ 1000) (hb0 : 0 ≤ b) (hb1 : b ≤ 1000) (ht0 : 1 ≤ ts) (ht1 : ts ≤ 1000) (hd : dp + 10 < recursionLimit) (hu : un + 80 < cLine)
    (h : ∀ tk h' t', Fr h₀ L h' m → News h₀ L h' news → Q (.int (lvl ci b nt ts) t') { s with heap := h', toks := tk }) :
    wpAny (model Challenge.rw_dn0186_04.row.prog w) (ktrTop dp un gd cn cs L a ccd cl outer) (call (.ref 93) [.ref x, .int ts tt]) Q E s :=
  il04 w mean mg mb dp un gd cn cs a ccd cl outer A₀ base h₀ L m s x dx nr ct cv ci ws b n nt sb t k1 k2 k3 k4 k5 tn tnt tb ts tt Q E B F X T hk (news_sub N (mem4 m1 m2 m3 m4)) hI q1 q2 q3 hz hc h0 h1 hb0 hb1 ht0 ht1 hd hu fun tk h' t' F' st => h tk h' t' F' (news_stays N st)
theorem lr04_use {w : World} {mean : ExcName → Option Value} {mg mb : Str → Option Value} {dp un : Nat} {gd : Option (List Code)} {cn : Str} {cs : Scope} {a : Addr} {ccd : Value} {cl : List (Str × Addr)} {outer : List Env} {A₀ : Around} {base h₀ : Heap} {L : Addr} {m : Str → Option Value} {news : List (Addr × Obj)} {s : Shared} {x dx nr ct : Nat} {cv : List Value} {ci : List Int} {ws : Str} {b n nt : Int} {sb : Bool} {t k1 k2 k3 k4 k5 tn tnt tb : Tok} {Q E : Value → Shared → Prop}
    (B : Below A₀ base outer h₀) (F : Fr h₀ L s.heap m) (X : (hd04.heap_39 w.params).In h₀) (T : Top topProg (looseW hd04.view_39 [Str.ofString "Whitespace"] ++ (recsOf hd04.view_39).map (·.name) ++ (litsOf hd04.view_39).map (·.1) ++ (clssOf hd04.view_39 (looseW hd04.view_39 [Str.ofString "Whitespace"])).map (·.name)) mean mg mb h₀) (hk : cs.kind = .function) (N : News h₀ L s.heap news)
    (m1 : (x, instObj 124 dx) ∈ news) (m2 : (dx, dictOf (wsEnt w ws t n nt tn tnt nr sb k1 k2 k3 k4 k5) 5) ∈ news) (m3 : (nr, tupOf #[.ref ct, .int b tb]) ∈ news) (m4 : (ct, tupOf cv.toArray) ∈ news) (hI : IntsAre cv ci) (q1 : dx < x) (q2 : x < ct) (q3 : ct < nr)
    (hz : ci.length ≤ 1000) (hd : dp + 10 < recursionLimit) (hu : un + 80 < cLine)
    (h : ∀ tk h' t', Fr h₀ L h' m → News h₀ L h' news → Q (.int (max ((ci.length : Int) - 1) b) t') { s with heap := h', toks := tk }) :
    wpAny (model Challenge.rw_dn0186_04.row.prog w) (ktrTop dp un gd cn cs L a ccd cl outer) (call (.ref 86) [.ref x]) Q E s :=
  lr04 w mean mg mb dp un gd cn cs a ccd cl outer A₀ base h₀ L m s x dx nr ct cv ci ws b n nt sb t k1 k2 k3 k4 k5 tn tnt tb Q E B F X T hk (news_sub N (mem4 m1 m2 m3 m4)) hI q1 q2 q3 hz hd hu fun tk h' t' F' st => h tk h' t' F' (news_stays N st)
structure WRow where
  D : Nat
  ts : Int
  i : Int
  j : Int
  t1 : Tok
  t2 : Tok
  t3 : Tok
abbrev WRow.ent (r : WRow) : Addr × Obj := (r.D, { cls := .type "tuple", data := .seq #[.int r.ts r.t1, .int r.i r.t2, .int r.j r.t3] })
abbrev WRow.val (r : WRow) : Int × Int × Int := (r.ts, r.i, r.j)
def wit (neq : Int → Int → Bool) (f g : Int → Int) (k : Nat) : List (Int × Int × Int) := (List.range k).filterMap fun (i : Nat) => if neq (f (1 + (i : Int))) (g (1 + (i : Int))) then some (1 + (i : Int), f (1 + (i : Int)), g (1 + (i : Int))) else none
theorem wit_yes {neq : Int → Int → Bool} {f g : Int → Int} {k : Nat} (h : neq (f (1 + (k : Int))) (g (1 + (k : Int))) = true) : wit neq f g (k + 1) = wit neq f g k ++ [(1 + (k : Int), f (1 + (k : Int)), g (1 + (k : Int)))] := by
  simp [wit, List.range_succ, h]
theorem wit_no {neq : Int → Int → Bool} {f g : Int → Int} {k : Nat} (h : neq (f (1 + (k : Int))) (g (1 + (k : Int))) = false) : wit neq f g (k + 1) = wit neq f g k := by
  simp [wit, List.range_succ, h]
abbrev runs2 (ci cj : List Int) (b b2 : Int) : Nat := (max (max ((ci.length : Int) - 1) b) (max ((cj.length : Int) - 1) b2) + 1).toNat
local macro_rules | `(tactic| k_all) => `(tactic| with_reducible assumption)
local macro_rules | `(tactic| walk_at "call builtin:list.append") => `(tactic| (k_here; dsimp only [List.cons_append, List.nil_append]; (with_reducible show wpAny _ _ (call (Value.builtin "list.append") [Value.ref _, _]) _ _ _); k_dflt (refine' append_led ?F ?N ?U ?hz ?_; (case F => k_asm); (case N => k_asm); (case U => k_upd); (case hz => omega); k_whole); intro h' F' N'; (try k_sweep)))
local macro_rules | `(tactic| walk_at "L3") => `(tactic| (rename_i l1 l2; (try k_lt l1); replace l2 := and3N l2))
theorem rng1 (p q : Int) : Builtin.Range.rangeSize 1 ((if q > p then q else p) + 1 + 1) 1 = (((max p q + 1).toNat : Nat) : Int) := by
  rw [rsizeAB]; congr 1; split <;> omega
theorem rng2 (p q : Int) : Builtin.Range.rangeSize 2 ((if q > p then q else p) + 1 + 1) 1 = (((max p q + 1).toNat - 1 : Nat) : Int) := by
  rw [rsizeAB]; congr 1; split <;> omega
theorem rng_small {a p q : Int} (ha : 0 ≤ a) (ha2 : a ≤ 2) (hp : p ≤ 1000) (hp2 : -1 ≤ p) (hq : q ≤ 1000) (hq2 : -1 ≤ q) : Builtin.Range.small a ((if q > p then q else p) + 1 + 1) 1 = true :=
  small_one (by omega) (by omega) (by split <;> omega) (by split <;> omega)
theorem lr_bd {ci : List Int} {b : Int} (h : ci.length ≤ 900) (h1 : 0 ≤ b) (h2 : b ≤ 900) : max ((ci.length : Int) - 1) b ≤ 1000 ∧ -1 ≤ max ((ci.length : Int) - 1) b := by omega
theorem runs2_901 {ci cj : List Int} {b b2 : Int} (h : ci.length ≤ 900) (h1 : b ≤ 900) (h2 : cj.length ≤ 900) (h3 : b2 ≤ 900) : runs2 ci cj b b2 ≤ 901 := by unfold runs2; omega
theorem runs2_1 {ci cj : List Int} {b b2 : Int} (h1 : 0 ≤ b) : 1 ≤ runs2 ci cj b b2 := by unfold runs2; omega
def MidL (s : Shared) (h : Heap) (p q : Prop) (s' : Shared) : Prop := (∃ tk, s' = { s with heap := h, toks := tk }) ∧ p ∧ q
section
variable {M : Model} {A : Around} {E : Value → Shared → Prop} {s : Shared} {env : Env} {Q : Flow → Shared → Prop}
/-- A block cut in two; the first part may leave by itself. -/
theorem execs_cutR (n : Nat) {l : List Stmt} (Mid : Shared → Prop) (h1 : wpAny M A (execs (l.take n) env) (fun f s' => match f with | .next => Mid s' | f => Q f s') E s) (h2 : ∀ s', Mid s' → wpAny M A (execs (l.drop n) env) Q E s') : wpAny M A (execs l env) Q E s := by
  intro Γ p hΓ
  rw [← List.take_append_drop n l]
  refine wp_execs_app _ _ _ (Sem.wp_mono M Γ _ (fun f p' s' h' => ?_) (fun _ _ _ h' => h') _ _ (h1 Γ p hΓ))
  cases f with
  | next => exact h2 s' h' Γ p' hΓ
  | _ => exact h'
end
theorem q_bool {Q : Value → Shared → Prop} {v v' : Bool} {s : Shared} (e : v = v') (h : Q (.bool v') s) : Q (.bool v) s := e ▸ h
def lessV (ci : List Int) (b n nt : Int) (sb : Bool) (cj : List Int) (b2 n2 nt2 : Int) (sb2 : Bool) : Bool :=
  if n ≥ n2 then false else if sb && sb2 then decide (nt ≤ nt2) else (List.range (runs2 ci cj b b2 - 1)).all fun i => decide (lvl ci b nt (2 + (i : Int)) < lvl cj b2 nt2 (2 + (i : Int)))
section
variable {ci cj : List Int} {b n nt b2 n2 nt2 : Int} {sb sb2 : Bool}
theorem lessV_ge (h : n2 ≤ n) : lessV ci b n nt sb cj b2 n2 nt2 sb2 = false := by
  unfold lessV; rw [if_pos h]
theorem lessV_simple (h : n < n2) (h1 : sb = true) (h2 : sb2 = true) : lessV ci b n nt sb cj b2 n2 nt2 sb2 = decide (nt ≤ nt2) := by
  subst h1 h2
  unfold lessV; rw [if_neg (by omega)]; rfl
theorem lessV_all (h : n < n2) (h1 : (sb && sb2) = false) (h2 : ∀ j, j < runs2 ci cj b b2 - 1 → lvl ci b nt (2 + (j : Int)) < lvl cj b2 nt2 (2 + (j : Int))) : lessV ci b n nt sb cj b2 n2 nt2 sb2 = true := by
  unfold lessV; rw [if_neg (by omega), h1, if_neg (by decide), List.all_eq_true]
  intro i hi
  exact decide_eq_true (h2 i (List.mem_range.mp hi))
theorem lessV_no (h : n < n2) (h1 : (sb && sb2) = false) {j : Nat} (hj : j < runs2 ci cj b b2 - 1) (h2 : ¬ lvl ci b nt (2 + (j : Int)) < lvl cj b2 nt2 (2 + (j : Int))) : lessV ci b n nt sb cj b2 n2 nt2 sb2 = false := by
  unfold lessV; rw [if_neg (by omega), h1, if_neg (by decide)]
  cases e : (List.range (runs2 ci cj b b2 - 1)).all fun i => decide (lvl ci b nt (2 + (i : Int)) < lvl cj b2 nt2 (2 + (i : Int)))
  · rfl
  · exact absurd (of_decide_eq_true (List.all_eq_true.mp e j (List.mem_range.mpr hj))) h2
end
theorem ls04 (w : World) (mean : ExcName → Option Value) (mg mb : Str → Option Value) :
  ∀ (dp un : Nat) (gd : Option (List Code)) (cn : Str) (cs : Scope) (a : Addr) (ccd : Value) (cl : List (Str × Addr)) (outer : List Env) (A₀ : Around) (base h₀ : Heap) (L : Addr) (m : Str → Option Value) (s : Shared)
    (x dx nr ct : Nat) (cv : List Value) (ci : List Int) (ws : Str) (b n nt : Int) (sb : Bool) (t k1 k2 k3 k4 k5 tn tnt tb : Tok) (y dy mr du : Nat) (cw : List Value) (cj : List Int) (wt : Str) (b2 n2 nt2 : Int) (sb2 : Bool) (u j1 j2 j3 j4 j5 un2 unt ub : Tok) (Q E : Value → Shared → Prop),
    Below A₀ base outer h₀ → Fr h₀ L s.heap m → (hd04.heap_39 w.params).In h₀ → Top topProg (looseW hd04.view_39 [Str.ofString "Whitespace"] ++ (recsOf hd04.view_39).map (·.name) ++ (litsOf hd04.view_39).map (·.1) ++ (clssOf hd04.view_39 (looseW hd04.view_39 [Str.ofString "Whitespace"])).map (·.name)) mean mg mb h₀ → cs.kind = .function →
    News h₀ L s.heap (wsE w 124 x dx nr ct cv ws b n nt sb t k1 k2 k3 k4 k5 tn tnt tb ++ wsE w 124 y dy mr du cw wt b2 n2 nt2 sb2 u j1 j2 j3 j4 j5 un2 unt ub) → IntsAre cv ci → IntsAre cw cj → dx < x → x < ct → ct < nr → dy < y → y < du → du < mr → ci.length ≤ 900 → cj.length ≤ 900 → (∀ c ∈ ci, 0 ≤ c ∧ c ≤ 1000) → (∀ c ∈ cj, 0 ≤ c ∧ c ≤ 1000) → 0 ≤ nt → nt ≤ 1000 → 0 ≤ nt2 → nt2 ≤ 1000 → 0 ≤ b → b ≤ 900 → 0 ≤ b2 → b2 ≤ 900 → dp + 20 < recursionLimit → un + 160 < cLine →
    (∀ tk h', Fr h₀ L h' m → s.heap.StaysIn h' → Q (.bool (lessV ci b n nt sb cj b2 n2 nt2 sb2)) { s with heap := h', toks := tk }) →
    wpAny (model Challenge.rw_dn0186_04.row.prog w) (ktrTop dp un gd cn cs L a ccd cl outer) (call (.ref 114) [.ref x, .ref y]) Q E s := by
  k_fill
  intro dp un gd cn cs a ccd cl outer A₀ base h₀ L m s x dx nr ct cv ci ws b n nt sb t k1 k2 k3 k4 k5 tn tnt tb y dy mr du cw cj wt b2 n2 nt2 sb2 u j1 j2 j3 j4 j5 un2 unt ub Q E B F X T hk N hI hJ q1 q2 q3 q4 q5 q6 hz1 hz2 hc1 hc2 hn1 hn2 hn3 hn4 hb1 hb2 hb3 hb4 hd hu hret
  have hd0 : dp + 10 < recursionLimit := by omega
  have hu0 : un + 80 < cLine := by omega
  refine wpAny_call ?_
  (k_dflt (refine' code_defH ?k1zq ?k2zq ?k3zq ?k4zq ?k5zq ?kAzq ?kFzq ?kKzq ?k6zq ?k7zq ?k8zq ?k9zq ?kBzq ?_ ?c2zq ?c3zq ?c4zq ?c5zq; (case kAzq => exact rfl); (case kFzq => exact rfl); (case kKzq => assumption); (case k1zq => k_asm); (case k2zq => k_asm); (case k3zq => k_asm); (case k4zq => k_asm); (case k5zq => k_asm); (case k6zq => k_is); (case k7zq => k_is); (case k8zq => ktr_room); (case k9zq => exact BindsTo.of_eq rfl); (case c5zq => decide); (case kBzq => exact locs rfl); (case c2zq => exact rfl); (case c3zq => exact rfl); (case c4zq => exact rfl); k_whole))
  intro g L' hh1 stG hszL FG' F' N' B' X' T'
  have hst := fun h'' => stays_of (h' := h'') N
  simp only [wsE, List.cons_append, List.nil_append] at N'
  (try dsimp only)
  (try k_fold)
  w_on
  refine execs_cutR 2 (MidL s hh1 ((sb && sb2) = false) (n < n2)) ?hA ?hB
  case hA =>
    dsimp only [List.take]
    (try k_fold)
    (repeat' ((fail_if_success (with_reducible show wpAny _ _ (pyIter _) _ _ _)); (fail_if_success (with_reducible show wpAny _ _ (compareOp CmpOp.NotEq (Value.ref _) (Value.ref _)) _ _ _)); (fail_if_success (with_reducible show wpAny _ _ (compareOp CmpOp.Eq (Value.ref _) (Value.ref _)) _ _ _)); (fail_if_success (with_reducible show wpAny _ _ (exec (Stmt.While _ _ _ _) _) _ _ _)); (fail_if_success (with_reducible show LCg.CompSrc _ _ _ _ _ _ _ _ _ _ _ _ _ _)); first | (k_unfold; (try dsimp only)) | (k_end; wrow_close) | ((with_reducible show wpAny _ _ (call (Value.ref _) _) _ _ _); (first | (k_here; (try dsimp only [List.cons_append, List.nil_append]); (with_reducible show wpAny _ _ (call (Value.ref 86) [Value.ref _]) _ _ _); k_dflt (refine' lr04_use (by k_asm) (by k_asm) (by k_asm) (by k_asm) (by exact rfl) (by k_asm) (by k_mem) (by k_mem) (by k_mem) (by k_mem) (by assumption) (by omega) (by omega) (by omega) (by omega) (by ktr_room) (by ktr_units) ?_; k_whole); intro _ _ _ _ _; (try k_sweep)) | (k_here; (try dsimp only [List.cons_append, List.nil_append]); (with_reducible show wpAny _ _ (call (Value.ref 93) [Value.ref _, Value.int _ _]) _ _ _); k_dflt (refine' il04_use (by k_asm) (by k_asm) (by k_asm) (by k_asm) (by exact rfl) (by k_asm) (by k_mem) (by k_mem) (by k_mem) (by k_mem) (by assumption) (by omega) (by omega) (by omega) (by omega) (by assumption) (by omega) (by omega) (by omega) (by omega) (by omega) (by omega) (by ktr_room) (by ktr_units) ?_; k_whole); intro _ _ _ _ _; (try k_sweep)))) | walk1 | (dsimp only; walk1) | (leave1; walk_say "STEP leave1"; try dsimp only) | fail "no step"))
    · rename Fr h₀ L _ m => kF
      rename News h₀ L _ _ => kN
      rename Fr g L' _ _ => Fz
      rename n2 ≤ n => z9
      refine q_bool (lessV_ge z9).symm (hret _ _ kF (stays_of N (fun p hp => (kN p hp).1) fun b o e hb => Fz.keep b o (stG b o e hb)))
    · rename Fr h₀ L _ m => kF
      rename News h₀ L _ _ => kN
      rename Fr g L' _ _ => Fz
      refine q_bool (lessV_simple (by omega) (by assumption) (by assumption)).symm (hret _ _ kF (stays_of N (fun p hp => (kN p hp).1) fun b o e hb => Fz.keep b o (stG b o e hb)))
    · rename sb2 = false => z9
      exact ⟨⟨_, rfl⟩, by rw [z9]; cases sb <;> rfl, by omega⟩
    · rename sb = false => z9
      exact ⟨⟨_, rfl⟩, by rw [z9]; rfl, by omega⟩
  case hB =>
    rintro s9 ⟨⟨tk9, rfl⟩, hns, hlt⟩
    dsimp only [List.drop]
    (try k_fold)
    (repeat' ((fail_if_success (with_reducible show wpAny _ _ (pyIter _) _ _ _)); (fail_if_success (with_reducible show wpAny _ _ (compareOp CmpOp.NotEq (Value.ref _) (Value.ref _)) _ _ _)); (fail_if_success (with_reducible show wpAny _ _ (compareOp CmpOp.Eq (Value.ref _) (Value.ref _)) _ _ _)); (fail_if_success (with_reducible show wpAny _ _ (exec (Stmt.While _ _ _ _) _) _ _ _)); (fail_if_success (with_reducible show LCg.CompSrc _ _ _ _ _ _ _ _ _ _ _ _ _ _)); first | (k_unfold; (try dsimp only)) | (k_end; wrow_close) | ((with_reducible show wpAny _ _ (call (Value.ref _) _) _ _ _); (first | (k_here; (try dsimp only [List.cons_append, List.nil_append]); (with_reducible show wpAny _ _ (call (Value.ref 86) [Value.ref _]) _ _ _); k_dflt (refine' lr04_use (by k_asm) (by k_asm) (by k_asm) (by k_asm) (by exact rfl) (by k_asm) (by k_mem) (by k_mem) (by k_mem) (by k_mem) (by assumption) (by omega) (by omega) (by omega) (by omega) (by ktr_room) (by ktr_units) ?_; k_whole); intro _ _ _ _ _; (try k_sweep)) | (k_here; (try dsimp only [List.cons_append, List.nil_append]); (with_reducible show wpAny _ _ (call (Value.ref 93) [Value.ref _, Value.int _ _]) _ _ _); k_dflt (refine' il04_use (by k_asm) (by k_asm) (by k_asm) (by k_asm) (by exact rfl) (by k_asm) (by k_mem) (by k_mem) (by k_mem) (by k_mem) (by assumption) (by omega) (by omega) (by omega) (by omega) (by assumption) (by omega) (by omega) (by omega) (by omega) (by omega) (by omega) (by ktr_room) (by ktr_units) ?_; k_whole); intro _ _ _ _ _; (try k_sweep)))) | walk1 | (dsimp only; walk1) | (leave1; walk_say "STEP leave1"; try dsimp only) | fail "no step"))
    rename Fr g L' _ _ => F5
    rename News g L' _ _ => N5
    rename IsRange _ _ _ _ _ _ _ _ => hR5
    obtain ⟨mr, hmr, F6⟩ : ∃ (mr : Str → Option Value), mr = _ ∧ Fr _ _ _ mr := ⟨_, rfl, F5⟩
    obtain ⟨bs8, hbs8, N6⟩ : ∃ (bs8 : List (Addr × Obj)), bs8 = _ ∧ News _ _ _ bs8 := ⟨_, rfl, N5⟩
    clear F5 N5
    have hK1 : runs2 ci cj b b2 ≤ 901 := runs2_901 hz1 hb2 hz2 hb4
    have hK2 : 1 ≤ runs2 ci cj b b2 := runs2_1 hb1
    have hp9 := lr_bd hz1 hb1 hb2
    have hq9 := lr_bd hz2 hb3 hb4
    refine' range_led (σ := Unit) (n := runs2 ci cj b b2 - 1) (fun _ => mr) (fun _ => bs8) (fun i _ => ∀ j, j < i → lvl ci b nt (2 + (j : Int)) < lvl cj b2 nt2 (2 + (j : Int))) (fun _ => ∀ j, j < runs2 ci cj b b2 - 1 → lvl ci b nt (2 + (j : Int)) < lvl cj b2 nt2 (2 + (j : Int))) () rfl hR5 ?hsm ?hK F6 N6 (fun p hp => hp) (fun z _ => rfl) (fun j hj => by omega) ?hturn ?hends ?hdone
    case hsm => exact rng_small (by decide) (by decide) hp9.1 hp9.2 hq9.1 hq9.2
    case hK => exact rng2 _ _
    case hends => exact fun _ h => h
    case hdone =>
      subst hmr hbs8
      rintro _ u9 h9 tk' e1 F7 N7
      dsimp only at F7
      (try k_fold)
      (repeat' ((fail_if_success (with_reducible show wpAny _ _ (pyIter _) _ _ _)); (fail_if_success (with_reducible show wpAny _ _ (compareOp CmpOp.NotEq (Value.ref _) (Value.ref _)) _ _ _)); (fail_if_success (with_reducible show wpAny _ _ (compareOp CmpOp.Eq (Value.ref _) (Value.ref _)) _ _ _)); (fail_if_success (with_reducible show wpAny _ _ (exec (Stmt.While _ _ _ _) _) _ _ _)); (fail_if_success (with_reducible show LCg.CompSrc _ _ _ _ _ _ _ _ _ _ _ _ _ _)); first | (k_unfold; (try dsimp only)) | (k_end; wrow_close) | ((with_reducible show wpAny _ _ (call (Value.ref _) _) _ _ _); (first | (k_here; (try dsimp only [List.cons_append, List.nil_append]); (with_reducible show wpAny _ _ (call (Value.ref 86) [Value.ref _]) _ _ _); k_dflt (refine' lr04_use (by k_asm) (by k_asm) (by k_asm) (by k_asm) (by exact rfl) (by k_asm) (by k_mem) (by k_mem) (by k_mem) (by k_mem) (by assumption) (by omega) (by omega) (by omega) (by omega) (by ktr_room) (by ktr_units) ?_; k_whole); intro _ _ _ _ _; (try k_sweep)) | (k_here; (try dsimp only [List.cons_append, List.nil_append]); (with_reducible show wpAny _ _ (call (Value.ref 93) [Value.ref _, Value.int _ _]) _ _ _); k_dflt (refine' il04_use (by k_asm) (by k_asm) (by k_asm) (by k_asm) (by exact rfl) (by k_asm) (by k_mem) (by k_mem) (by k_mem) (by k_mem) (by assumption) (by omega) (by omega) (by omega) (by omega) (by assumption) (by omega) (by omega) (by omega) (by omega) (by omega) (by omega) (by ktr_room) (by ktr_units) ?_; k_whole); intro _ _ _ _ _; (try k_sweep)))) | walk1 | (dsimp only; walk1) | (leave1; walk_say "STEP leave1"; try dsimp only) | fail "no step"))
      rename Fr h₀ L _ m => kF
      rename News h₀ L _ _ => kN
      refine q_bool (lessV_all hlt hns e1).symm (hret _ _ kF (stays_of N (fun p hp => (kN p hp).1) fun b o e hb => F7.keep b o (stG b o e hb)))
    case hturn =>
      subst hmr
      rintro i t' _ I oI h tk' hi e1 hoff F7 N7
      dsimp only at F7
      rw [hbs8] at N7
      simp only [List.cons_append, List.nil_append] at N7
      (try k_fold)
      (repeat' ((fail_if_success (with_reducible show wpAny _ _ (pyIter _) _ _ _)); (fail_if_success (with_reducible show wpAny _ _ (compareOp CmpOp.NotEq (Value.ref _) (Value.ref _)) _ _ _)); (fail_if_success (with_reducible show wpAny _ _ (compareOp CmpOp.Eq (Value.ref _) (Value.ref _)) _ _ _)); (fail_if_success (with_reducible show wpAny _ _ (exec (Stmt.While _ _ _ _) _) _ _ _)); (fail_if_success (with_reducible show LCg.CompSrc _ _ _ _ _ _ _ _ _ _ _ _ _ _)); first | (k_unfold; (try dsimp only)) | (k_end; wrow_close) | ((with_reducible show wpAny _ _ (call (Value.ref _) _) _ _ _); (first | (k_here; (try dsimp only [List.cons_append, List.nil_append]); (with_reducible show wpAny _ _ (call (Value.ref 86) [Value.ref _]) _ _ _); k_dflt (refine' lr04_use (by k_asm) (by k_asm) (by k_asm) (by k_asm) (by exact rfl) (by k_asm) (by k_mem) (by k_mem) (by k_mem) (by k_mem) (by assumption) (by omega) (by omega) (by omega) (by omega) (by ktr_room) (by ktr_units) ?_; k_whole); intro _ _ _ _ _; (try k_sweep)) | (k_here; (try dsimp only [List.cons_append, List.nil_append]); (with_reducible show wpAny _ _ (call (Value.ref 93) [Value.ref _, Value.int _ _]) _ _ _); k_dflt (refine' il04_use (by k_asm) (by k_asm) (by k_asm) (by k_asm) (by exact rfl) (by k_asm) (by k_mem) (by k_mem) (by k_mem) (by k_mem) (by assumption) (by omega) (by omega) (by omega) (by omega) (by assumption) (by omega) (by omega) (by omega) (by omega) (by omega) (by omega) (by ktr_room) (by ktr_units) ?_; k_whole); intro _ _ _ _ _; (try k_sweep)))) | walk1 | (dsimp only; walk1) | (leave1; walk_say "STEP leave1"; try dsimp only) | fail "no step"))
      · rename lvl _ _ _ _ ≤ lvl _ _ _ _ => ne9
        rename Fr g L' _ _ => FZ
        rename News g L' _ _ => NZ
        dsimp only
        (repeat' ((fail_if_success (with_reducible show wpAny _ _ (pyIter _) _ _ _)); (fail_if_success (with_reducible show wpAny _ _ (compareOp CmpOp.NotEq (Value.ref _) (Value.ref _)) _ _ _)); (fail_if_success (with_reducible show wpAny _ _ (compareOp CmpOp.Eq (Value.ref _) (Value.ref _)) _ _ _)); (fail_if_success (with_reducible show wpAny _ _ (exec (Stmt.While _ _ _ _) _) _ _ _)); (fail_if_success (with_reducible show LCg.CompSrc _ _ _ _ _ _ _ _ _ _ _ _ _ _)); first | (k_unfold; (try dsimp only)) | (k_end; wrow_close) | ((with_reducible show wpAny _ _ (call (Value.ref _) _) _ _ _); (first | (k_here; (try dsimp only [List.cons_append, List.nil_append]); (with_reducible show wpAny _ _ (call (Value.ref 86) [Value.ref _]) _ _ _); k_dflt (refine' lr04_use (by k_asm) (by k_asm) (by k_asm) (by k_asm) (by exact rfl) (by k_asm) (by k_mem) (by k_mem) (by k_mem) (by k_mem) (by assumption) (by omega) (by omega) (by omega) (by omega) (by ktr_room) (by ktr_units) ?_; k_whole); intro _ _ _ _ _; (try k_sweep)) | (k_here; (try dsimp only [List.cons_append, List.nil_append]); (with_reducible show wpAny _ _ (call (Value.ref 93) [Value.ref _, Value.int _ _]) _ _ _); k_dflt (refine' il04_use (by k_asm) (by k_asm) (by k_asm) (by k_asm) (by exact rfl) (by k_asm) (by k_mem) (by k_mem) (by k_mem) (by k_mem) (by assumption) (by omega) (by omega) (by omega) (by omega) (by assumption) (by omega) (by omega) (by omega) (by omega) (by omega) (by omega) (by ktr_room) (by ktr_units) ?_; k_whole); intro _ _ _ _ _; (try k_sweep)))) | walk1 | (dsimp only; walk1) | (leave1; walk_say "STEP leave1"; try dsimp only) | fail "no step"))
        dsimp only [TurnEnd]
        refine leaveK_ (s' := { s with heap := _, toks := _ }) FZ NZ fun kF kN => ?_
        refine q_bool (lessV_no hlt hns hi (by omega)).symm (hret _ _ kF (hst _ (fun p hp => (kN p (List.mem_append.mpr (.inl hp))).1) fun b o e hb => FZ.keep b o (stG b o e hb)))
      · rename ¬(lvl _ _ _ _ ≤ lvl _ _ _ _) => ne9
        rename Fr g L' _ _ => FZ
        rename News g L' _ _ => NZ
        refine' ⟨(), _, _, _, rfl, FZ, ?N9, ?map9, hoff, ?inv9⟩
        case N9 =>
          show News _ _ _ _
          rw [hbs8]
          simp only [List.cons_append, List.nil_append]
          exact NZ
        case map9 =>
          intro z hz
          simp only [hz, if_false]
        case inv9 =>
          intro j hj
          by_cases h : j < i
          · exact e1 j h
          · rw [show j = i by omega]
            omega
theorem nl04 (w : World) (mean : ExcName → Option Value) (mg mb : Str → Option Value) :
  ∀ (dp un : Nat) (gd : Option (List Code)) (cn : Str) (cs : Scope) (a : Addr) (ccd : Value) (cl : List (Str × Addr)) (outer : List Env) (A₀ : Around) (base h₀ : Heap) (L : Addr) (m : Str → Option Value) (s : Shared)
    (x dx nr ct : Nat) (cv : List Value) (ci : List Int) (ws : Str) (b n nt : Int) (sb : Bool) (t k1 k2 k3 k4 k5 tn tnt tb : Tok) (y dy mr du : Nat) (cw : List Value) (cj : List Int) (wt : Str) (b2 n2 nt2 : Int) (sb2 : Bool) (u j1 j2 j3 j4 j5 un2 unt ub : Tok) (Q E : Value → Shared → Prop),
    Below A₀ base outer h₀ → Fr h₀ L s.heap m → (hd04.heap_39 w.params).In h₀ → Top topProg (looseW hd04.view_39 [Str.ofString "Whitespace"] ++ (recsOf hd04.view_39).map (·.name) ++ (litsOf hd04.view_39).map (·.1) ++ (clssOf hd04.view_39 (looseW hd04.view_39 [Str.ofString "Whitespace"])).map (·.name)) mean mg mb h₀ → cs.kind = .function →
    News h₀ L s.heap (wsE w 124 x dx nr ct cv ws b n nt sb t k1 k2 k3 k4 k5 tn tnt tb ++ wsE w 124 y dy mr du cw wt b2 n2 nt2 sb2 u j1 j2 j3 j4 j5 un2 unt ub) → IntsAre cv ci → IntsAre cw cj → dx < x → x < ct → ct < nr → dy < y → y < du → du < mr → ci.length ≤ 900 → cj.length ≤ 900 → (∀ c ∈ ci, 0 ≤ c ∧ c ≤ 1000) → (∀ c ∈ cj, 0 ≤ c ∧ c ≤ 1000) → 0 ≤ nt → nt ≤ 1000 → 0 ≤ nt2 → nt2 ≤ 1000 → 0 ≤ b → b ≤ 900 → 0 ≤ b2 → b2 ≤ 900 → dp + 20 < recursionLimit → un + 160 < cLine →
    (∀ (D ep : Nat) (rows : List WRow) tk h', Fr h₀ L h' m → s.heap.StaysIn h' → News h₀ L h' ((D, W.listOf (rows.map fun r => Value.ref r.D).toArray ep) :: rows.map WRow.ent) → rows.map WRow.val = wit (fun i j => decide (i ≥ j)) (lvl ci b nt) (lvl cj b2 nt2) (runs2 ci cj b b2) → (∀ b o, s.heap.get? b = some o → b ≠ D) → Q (.ref D) { s with heap := h', toks := tk }) →
    wpAny (model Challenge.rw_dn0186_04.row.prog w) (ktrTop dp un gd cn cs L a ccd cl outer) (call (.ref 121) [.ref x, .ref y]) Q E s := by
  k_fill
  intro dp un gd cn cs a ccd cl outer A₀ base h₀ L m s x dx nr ct cv ci ws b n nt sb t k1 k2 k3 k4 k5 tn tnt tb y dy mr du cw cj wt b2 n2 nt2 sb2 u j1 j2 j3 j4 j5 un2 unt ub Q E B F X T hk N hI hJ q1 q2 q3 q4 q5 q6 hz1 hz2 hc1 hc2 hn1 hn2 hn3 hn4 hb1 hb2 hb3 hb4 hd hu hret
  have hd0 : dp + 10 < recursionLimit := by omega
  have hu0 : un + 80 < cLine := by omega
  refine wpAny_call ?_
  (k_dflt (refine' code_defH ?k1zq ?k2zq ?k3zq ?k4zq ?k5zq ?kAzq ?kFzq ?kKzq ?k6zq ?k7zq ?k8zq ?k9zq ?kBzq ?_ ?c2zq ?c3zq ?c4zq ?c5zq; (case kAzq => exact rfl); (case kFzq => exact rfl); (case kKzq => assumption); (case k1zq => k_asm); (case k2zq => k_asm); (case k3zq => k_asm); (case k4zq => k_asm); (case k5zq => k_asm); (case k6zq => k_is); (case k7zq => k_is); (case k8zq => ktr_room); (case k9zq => exact BindsTo.of_eq rfl); (case c5zq => decide); (case kBzq => exact locs rfl); (case c2zq => exact rfl); (case c3zq => exact rfl); (case c4zq => exact rfl); k_whole))
  intro g L' hh1 stG hszL FG' F' N' B' X' T'
  simp only [wsE, List.cons_append, List.nil_append] at N'
  (try dsimp only)
  (try k_fold)
  w_on
  (repeat' ((fail_if_success (with_reducible show wpAny _ _ (pyIter _) _ _ _)); (fail_if_success (with_reducible show wpAny _ _ (compareOp CmpOp.NotEq (Value.ref _) (Value.ref _)) _ _ _)); (fail_if_success (with_reducible show wpAny _ _ (compareOp CmpOp.Eq (Value.ref _) (Value.ref _)) _ _ _)); (fail_if_success (with_reducible show wpAny _ _ (exec (Stmt.While _ _ _ _) _) _ _ _)); (fail_if_success (with_reducible show LCg.CompSrc _ _ _ _ _ _ _ _ _ _ _ _ _ _)); first | (k_unfold; (try dsimp only)) | (k_end; wrow_close) | ((with_reducible show wpAny _ _ (call (Value.ref _) _) _ _ _); (first | (k_here; (try dsimp only [List.cons_append, List.nil_append]); (with_reducible show wpAny _ _ (call (Value.ref 86) [Value.ref _]) _ _ _); k_dflt (refine' lr04_use (by k_asm) (by k_asm) (by k_asm) (by k_asm) (by exact rfl) (by k_asm) (by k_mem) (by k_mem) (by k_mem) (by k_mem) (by assumption) (by omega) (by omega) (by omega) (by omega) (by ktr_room) (by ktr_units) ?_; k_whole); intro _ _ _ _ _; (try k_sweep)) | (k_here; (try dsimp only [List.cons_append, List.nil_append]); (with_reducible show wpAny _ _ (call (Value.ref 93) [Value.ref _, Value.int _ _]) _ _ _); k_dflt (refine' il04_use (by k_asm) (by k_asm) (by k_asm) (by k_asm) (by exact rfl) (by k_asm) (by k_mem) (by k_mem) (by k_mem) (by k_mem) (by assumption) (by omega) (by omega) (by omega) (by omega) (by assumption) (by omega) (by omega) (by omega) (by omega) (by omega) (by omega) (by ktr_room) (by ktr_units) ?_; k_whole); intro _ _ _ _ _; (try k_sweep)))) | walk1 | (dsimp only; walk1) | (leave1; walk_say "STEP leave1"; try dsimp only) | fail "no step"))
  rename Fr g L' _ _ => F5
  rename News g L' _ _ => N5
  rename IsRange _ _ _ _ _ _ _ _ => hR5
  rename_i lA _ l1 _ _ _ _ _ _ _ _ _ _
  obtain ⟨mr, hmr, F6⟩ : ∃ (mr : Str → Option Value), mr = _ ∧ Fr _ _ _ mr := ⟨_, rfl, F5⟩
  obtain ⟨bs8, hbs8, N6⟩ : ∃ (bs8 : List (Addr × Obj)), bs8 = _ ∧ News _ _ _ ((lA, W.listOf #[] 0) :: bs8) := ⟨_, rfl, N5⟩
  clear F5 N5
  have hK1 : runs2 ci cj b b2 ≤ 901 := runs2_901 hz1 hb2 hz2 hb4
  have hp9 := lr_bd hz1 hb1 hb2
  have hq9 := lr_bd hz2 hb3 hb4
  refine' range_led (σ := Nat × List WRow) (n := runs2 ci cj b b2) (fun _ => mr) (fun c => (lA, W.listOf (c.2.map fun r => Value.ref r.D).toArray c.1) :: (bs8 ++ c.2.map WRow.ent)) (fun i c => c.2.length ≤ i ∧ (∀ r ∈ c.2, (r.D : Nat) ≠ lA) ∧ c.2.map WRow.val = wit (fun i j => decide (i ≥ j)) (lvl ci b nt) (lvl cj b2 nt2) i) (fun c => c.2.map WRow.val = wit (fun i j => decide (i ≥ j)) (lvl ci b nt) (lvl cj b2 nt2) (runs2 ci cj b b2)) (0, []) rfl hR5 ?hsm ?hK F6 N6 (fun p hp => by simpa using hp) (fun z _ => rfl) ⟨by simp, by simp, rfl⟩ ?hturn ?hends ?hdone
  case hsm => exact rng_small (by decide) (by decide) hp9.1 hp9.2 hq9.1 hq9.2
  case hK => exact rng1 _ _
  case hends => exact fun c h => h.2.2
  case hdone =>
    subst hmr hbs8
    rintro ⟨ep, rows⟩ u9 h9 tk' e1 F7 N7
    dsimp only at F7 e1
    (try k_fold)
    (repeat' ((fail_if_success (with_reducible show wpAny _ _ (pyIter _) _ _ _)); (fail_if_success (with_reducible show wpAny _ _ (compareOp CmpOp.NotEq (Value.ref _) (Value.ref _)) _ _ _)); (fail_if_success (with_reducible show wpAny _ _ (compareOp CmpOp.Eq (Value.ref _) (Value.ref _)) _ _ _)); (fail_if_success (with_reducible show wpAny _ _ (exec (Stmt.While _ _ _ _) _) _ _ _)); (fail_if_success (with_reducible show LCg.CompSrc _ _ _ _ _ _ _ _ _ _ _ _ _ _)); first | (k_unfold; (try dsimp only)) | (k_end; wrow_close) | ((with_reducible show wpAny _ _ (call (Value.ref _) _) _ _ _); (first | (k_here; (try dsimp only [List.cons_append, List.nil_append]); (with_reducible show wpAny _ _ (call (Value.ref 86) [Value.ref _]) _ _ _); k_dflt (refine' lr04_use (by k_asm) (by k_asm) (by k_asm) (by k_asm) (by exact rfl) (by k_asm) (by k_mem) (by k_mem) (by k_mem) (by k_mem) (by assumption) (by omega) (by omega) (by omega) (by omega) (by ktr_room) (by ktr_units) ?_; k_whole); intro _ _ _ _ _; (try k_sweep)) | (k_here; (try dsimp only [List.cons_append, List.nil_append]); (with_reducible show wpAny _ _ (call (Value.ref 93) [Value.ref _, Value.int _ _]) _ _ _); k_dflt (refine' il04_use (by k_asm) (by k_asm) (by k_asm) (by k_asm) (by exact rfl) (by k_asm) (by k_mem) (by k_mem) (by k_mem) (by k_mem) (by assumption) (by omega) (by omega) (by omega) (by omega) (by assumption) (by omega) (by omega) (by omega) (by omega) (by omega) (by omega) (by ktr_room) (by ktr_units) ?_; k_whole); intro _ _ _ _ _; (try k_sweep)))) | walk1 | (dsimp only; walk1) | (leave1; walk_say "STEP leave1"; try dsimp only) | fail "no step"))
    rename Fr h₀ L _ m => kF
    rename News h₀ L _ _ => kN
    refine hret lA ep rows _ _ kF (stays_of N (fun p hp => (kN p (.tail _ (List.mem_append.mpr (.inl hp)))).1) fun b o e hb => F7.keep b o (stG b o e hb)) (news_sub kN fun p hp => ?_) e1 (fun b o e q => ?_)
    rotate_left 1
    · by_cases hb : b ∈ (wsE w 124 x dx nr ct cv ws b n nt sb t k1 k2 k3 k4 k5 tn tnt tb ++ wsE w 124 y dy mr du cw wt b2 n2 nt2 sb2 u j1 j2 j3 j4 j5 un2 unt ub).map (·.1)
      · simp only [wsE, List.cons_append, List.nil_append, List.map_cons, List.map_nil, List.mem_cons, List.not_mem_nil, or_false] at hb
        rw [q] at hb
        have w1 := l1.1
        have w2 := l1.2.1
        have w3 := l1.2.2.1
        have w4 := l1.2.2.2.1
        have w5 := l1.2.2.2.2.1
        have w6 := l1.2.2.2.2.2.1
        have w7 := l1.2.2.2.2.2.2.1
        have w8 := l1.2.2.2.2.2.2.2
        have z : ∀ k : Nat, k < lA → lA ≠ k := fun k h => Nat.ne_of_gt h
        rcases hb with h | h | h | h | h | h | h | h
        · exact z _ w1 h
        · exact z _ w2 h
        · exact z _ w3 h
        · exact z _ w4 h
        · exact z _ w5 h
        · exact z _ w6 h
        · exact z _ w7 h
        · exact z _ w8 h
      · have h1 := stG b o e hb
        rw [q, (N7 _ (.head _)).2.2] at h1
        cases h1
    rcases List.mem_cons.mp hp with rfl | hp
    · exact .head _
    · exact .tail _ (List.mem_append.mpr (.inr hp))
  case hturn =>
    subst hmr
    rintro i t' ⟨ep, rows⟩ I oI h tk' hi ⟨e1, e2, e3⟩ hoff F7 N7
    dsimp only at F7 e1 e2 e3
    rw [hbs8] at N7
    simp only [List.cons_append, List.nil_append] at N7
    have hvl : (rows.map fun r => Value.ref r.D).length ≤ 1000 := by rw [List.length_map]; omega
    have hIA : (I : Nat) ≠ lA := Ne.symm (hoff _ (.head _))
    have hoA : ∀ p ∈ rows.map WRow.ent ++ [(I, oI)], p.1 ≠ lA := by
      intro p hp
      rcases List.mem_append.mp hp with hp | hp
      · obtain ⟨r, hr, rfl⟩ := List.mem_map.mp hp
        exact e2 r hr
      · rw [List.mem_singleton.mp hp]; exact hIA
    (try k_fold)
    (repeat' ((fail_if_success (with_reducible show wpAny _ _ (pyIter _) _ _ _)); (fail_if_success (with_reducible show wpAny _ _ (compareOp CmpOp.NotEq (Value.ref _) (Value.ref _)) _ _ _)); (fail_if_success (with_reducible show wpAny _ _ (compareOp CmpOp.Eq (Value.ref _) (Value.ref _)) _ _ _)); (fail_if_success (with_reducible show wpAny _ _ (exec (Stmt.While _ _ _ _) _) _ _ _)); (fail_if_success (with_reducible show LCg.CompSrc _ _ _ _ _ _ _ _ _ _ _ _ _ _)); first | (k_unfold; (try dsimp only)) | (k_end; wrow_close) | ((with_reducible show wpAny _ _ (call (Value.ref _) _) _ _ _); (first | (k_here; (try dsimp only [List.cons_append, List.nil_append]); (with_reducible show wpAny _ _ (call (Value.ref 86) [Value.ref _]) _ _ _); k_dflt (refine' lr04_use (by k_asm) (by k_asm) (by k_asm) (by k_asm) (by exact rfl) (by k_asm) (by k_mem) (by k_mem) (by k_mem) (by k_mem) (by assumption) (by omega) (by omega) (by omega) (by omega) (by ktr_room) (by ktr_units) ?_; k_whole); intro _ _ _ _ _; (try k_sweep)) | (k_here; (try dsimp only [List.cons_append, List.nil_append]); (with_reducible show wpAny _ _ (call (Value.ref 93) [Value.ref _, Value.int _ _]) _ _ _); k_dflt (refine' il04_use (by k_asm) (by k_asm) (by k_asm) (by k_asm) (by exact rfl) (by k_asm) (by k_mem) (by k_mem) (by k_mem) (by k_mem) (by assumption) (by omega) (by omega) (by omega) (by omega) (by assumption) (by omega) (by omega) (by omega) (by omega) (by omega) (by omega) (by ktr_room) (by ktr_units) ?_; k_whole); intro _ _ _ _ _; (try k_sweep)))) | walk1 | (dsimp only; walk1) | (leave1; walk_say "STEP leave1"; try dsimp only) | fail "no step"))
    · rename Fr g L' _ _ => FZ
      rename News g L' _ _ => NZ
      rename_i ne9 _ _ tb9 _ _ tc9 D9 _ l19 _
      refine' ⟨(ep + 1, rows ++ [⟨D9, 1 + (i : Int), lvl ci b nt (1 + (i : Int)), lvl cj b2 nt2 (1 + (i : Int)), t', tb9, tc9⟩]), _, _, _, rfl, FZ, ?N9, ?map9, ?off9, ?inv9⟩
      case N9 =>
        show News _ _ _ _
        rw [hbs8]
        simp only [List.map_append, List.map_cons, List.map_nil, List.cons_append, List.nil_append, List.append_assoc]
        refine fun p hp => NZ p ?_
        simp only [List.mem_cons, List.mem_append, List.not_mem_nil, or_false] at hp ⊢
        grind
      case map9 =>
        intro z hz
        simp only [hz, if_false]
      case off9 =>
        intro p hp
        rcases List.mem_cons.mp hp with rfl | hp
        · exact hoff (lA, W.listOf (rows.map fun r => Value.ref r.D).toArray ep) (.head _)
        rcases List.mem_append.mp hp with hp | hp
        · exact hoff _ (.tail _ (List.mem_append.mpr (.inl hp)))
        rw [List.map_append] at hp
        rcases List.mem_append.mp hp with hp | hp
        · exact hoff _ (.tail _ (List.mem_append.mpr (.inr hp)))
        · rw [List.mem_singleton.mp hp]
          exact Nat.ne_of_gt (allLt_mem l19.2.2.2.2.2.2.2.2.2 (I, oI) (List.mem_append.mpr (.inr (.head _))))
      case inv9 =>
        refine ⟨by simp; omega, ?_, ?_⟩
        · intro r hr
          rcases List.mem_append.mp hr with hr | hr
          · exact e2 r hr
          · rw [List.mem_singleton.mp hr]; exact Nat.ne_of_gt l19.1
        · rw [wit_yes (by simpa using ne9), List.map_append, e3]
          rfl
    · rename Fr g L' _ _ => FZ
      rename News g L' _ _ => NZ
      rename ¬(lvl _ _ _ _ ≤ lvl _ _ _ _) => ne9
      refine' ⟨(ep, rows), _, _, _, rfl, FZ, ?N10, ?map10, hoff, ?inv10⟩
      case N10 =>
        show News _ _ _ _
        rw [hbs8]
        simp only [List.cons_append, List.nil_append, List.append_assoc]
        exact NZ
      case map10 =>
        intro z hz
        simp only [hz, if_false]
      case inv10 =>
        refine ⟨by dsimp only; omega, e2, ?_⟩
        rw [wit_no (by simpa using ne9)]
        exact e3

open PySem PySem.W PyProof.Rows


theorem news_swap {h₀ h h' : Heap} {L P : Addr} {o o' : Obj} {l l' : List (Addr × Obj)} (N : News h₀ L h l) (U : Upd P o o' l l') (N' : News h₀ L h' [(P, o')]) (st : ∀ b o, b ≠ P → h.get? b = some o → h'.get? b = some o) : News h₀ L h' l' := by
  obtain ⟨pre, post, rfl, rfl, a, b⟩ := U.split
  intro p hp
  rcases List.mem_append.mp hp with hp | hp
  · have := N p (List.mem_append.mpr (.inl hp))
    exact ⟨st _ _ (a p hp) this.1, this.2⟩
  · rcases List.mem_cons.mp hp with rfl | hp
    · exact N' _ (.head _)
    · have := N p (List.mem_append.mpr (.inr (.tail _ hp)))
      exact ⟨st _ _ (b p hp) this.1, this.2⟩
theorem upd_mem {P : Addr} {o o' : Obj} {l l' : List (Addr × Obj)} (U : Upd P o o' l l') : (P, o) ∈ l := by
  obtain ⟨pre, post, rfl, rfl, a, b⟩ := U.split
  exact List.mem_append.mpr (.inr (.head _))
theorem fw04_use {w : World} {mean : ExcName → Option Value} {mg mb : Str → Option Value} {dp un : Nat} {gd : Option (List Code)} {cn : Str} {cs : Scope} {a : Addr} {ccd : Value} {cl : List (Str × Addr)} {outer : List Env} {A₀ : Around} {base h₀ : Heap} {L : Addr} {m : Str → Option Value} {s : Shared} {D : Addr} {ps : Array Value} {vs : List Value} {ts : List Str} {news objs : List (Addr × Obj)} {news' : Array Value → List (Addr × Obj)} {Q E : Value → Shared → Prop}
    (B : Below A₀ base outer h₀) (F : Fr h₀ L s.heap m) (X : (hd04.heap_39 w.params).In h₀) (N : News h₀ L s.heap news) (T : Top topProg (looseW hd04.view_39 [Str.ofString "Whitespace"] ++ (recsOf hd04.view_39).map (·.name) ++ (litsOf hd04.view_39).map (·.1) ++ (clssOf hd04.view_39 (looseW hd04.view_39 [Str.ofString "Whitespace"])).map (·.name)) mean mg mb h₀) (hk : cs.kind = .function) (CH : CodeHd h₀ 134 130)
    (hf : TabForm ⟨80, 13, 80, 39⟩ ps) (hG : AllBare s.gens) (U : ∀ ps', Upd 130 (tabObj ps) (tabObj ps') news (news' ps')) (hD : (∃ n, (D, W.listOf vs.toArray n) ∈ news) ∨ ∃ n, (D, ({ cls := .type "tuple", data := .seq vs.toArray n } : Obj)) ∈ news) (hR : RowsIn objs vs ts) (hsub : ∀ p ∈ objs, p ∈ news) (htl : ts.length ≤ 1000) (hts : (ts.map (·.length)).sum ≤ 100000) (hd : dp + 10 < recursionLimit) (hu : un + 80 < cLine)
    (h : ∀ h' gs tk ps' t, Fr h₀ L h' m → News h₀ L h' (news' ps') → TabForm ⟨80, 13, 80, 39⟩ ps' → AllBare gs → Q (.str (fwTx ts) t) { s with heap := h', gens := gs, toks := tk }) :
    wpAny (model Challenge.rw_dn0186_04.row.prog w) (ktrTop dp un gd cn cs L a ccd cl outer) (call (.ref 135) [.ref D]) Q E s := by
  refine fw04 w mean mg mb dp un gd cn cs a ccd cl outer A₀ base h₀ L m s D ps vs ts Q E B F X (news_sub N fun p hp => by rw [List.mem_singleton.mp hp]; exact upd_mem (U ps)) T hk CH hf hG ?_ hR.1 (fun i v e => ((hR.2 i v e).mono hsub).first N) htl hts hd hu fun h' gs tk ps' t F' N' hf' hG' st => h h' gs tk ps' t F' (news_swap N (U ps') N' st) hf' hG'
  rcases hD with ⟨n, hD⟩ | ⟨n, hD⟩
  · exact .inl ⟨_, N.get hD, rfl, n, rfl⟩
  · exact .inr ⟨_, N.get hD, rfl, n, rfl⟩

theorem mem8 {news : List (Addr × Obj)} {a b c d e f g h : Addr × Obj} (h1 : a ∈ news) (h2 : b ∈ news) (h3 : c ∈ news) (h4 : d ∈ news) (h5 : e ∈ news) (h6 : f ∈ news) (h7 : g ∈ news) (h8 : h ∈ news) : ∀ p ∈ [a, b, c, d] ++ [e, f, g, h], p ∈ news :=
  fun p hp => (List.mem_append.mp hp).elim (mem4 h1 h2 h3 h4 p) (mem4 h5 h6 h7 h8 p)
theorem ls04_use {w : World} {mean : ExcName → Option Value} {mg mb : Str → Option Value} {dp un : Nat} {gd : Option (List Code)} {cn : Str} {cs : Scope} {a : Addr} {ccd : Value} {cl : List (Str × Addr)} {outer : List Env} {A₀ : Around} {base h₀ : Heap} {L : Addr} {m : Str → Option Value} {news : List (Addr × Obj)} {s : Shared} {x dx nr ct : Nat} {cv : List Value} {ci : List Int} {ws : Str} {b n nt : Int} {sb : Bool} {t k1 k2 k3 k4 k5 tn tnt tb : Tok} {y dy mr du : Nat} {cw : List Value} {cj : List Int} {wt : Str} {b2 n2 nt2 : Int} {sb2 : Bool} {u j1 j2 j3 j4 j5 un2 unt ub : Tok} {Q E : Value → Shared → Prop} (B : Below A₀ base outer h₀) (F : Fr h₀ L s.heap m) (X : (hd04.heap_39 w.params).In h₀) (T : Top topProg (looseW hd04.view_39 [Str.ofString "Whitespace"] ++ (recsOf hd04.view_39).map (·.name) ++ (litsOf hd04.view_39).map (·.1) ++ (clssOf hd04.view_39 (looseW hd04.view_39 [Str.ofString "Whitespace"])).map (·.name)) mean mg mb h₀) (hk : cs.kind = .function) (N : News h₀ L s.heap news)
    (m1 : (x, instObj 124 dx) ∈ news) (m2 : (dx, dictOf (wsEnt w ws t n nt tn tnt nr sb k1 k2 k3 k4 k5) 5) ∈ news) (m3 : (nr, tupOf #[.ref ct, .int b tb]) ∈ news) (m4 : (ct, tupOf cv.toArray) ∈ news) (m5 : (y, instObj 124 dy) ∈ news) (m6 : (dy, dictOf (wsEnt w wt u n2 nt2 un2 unt mr sb2 j1 j2 j3 j4 j5) 5) ∈ news) (m7 : (mr, tupOf #[.ref du, .int b2 ub]) ∈ news) (m8 : (du, tupOf cw.toArray) ∈ news) (hI : IntsAre cv ci) (hJ : IntsAre cw cj) (q1 : dx < x) (q2 : x < ct) (q3 : ct < nr) (q4 : dy < y) (q5 : y < du) (q6 : du < mr) (hz1 : ci.length ≤ 900) (hz2 : cj.length ≤ 900) (hc1 : ∀ c ∈ ci, 0 ≤ c ∧ c ≤ 1000) (hc2 : ∀ c ∈ cj, 0 ≤ c ∧ c ≤ 1000) (hn1 : 0 ≤ nt) (hn2 : nt ≤ 1000) (hn3 : 0 ≤ nt2) (hn4 : nt2 ≤ 1000) (hb1 : 0 ≤ b) (hb2 : b ≤ 900) (hb3 : 0 ≤ b2) (hb4 : b2 ≤ 900) (hd : dp + 20 < recursionLimit) (hu : un + 160 < cLine)
    (h : ∀ tk h', Fr h₀ L h' m → News h₀ L h' news → Q (.bool (lessV ci b n nt sb cj b2 n2 nt2 sb2)) { s with heap := h', toks := tk }) :
    wpAny (model Challenge.rw_dn0186_04.row.prog w) (ktrTop dp un gd cn cs L a ccd cl outer) (call (.ref 114) [.ref x, .ref y]) Q E s :=
  ls04 w mean mg mb dp un gd cn cs a ccd cl outer A₀ base h₀ L m s x dx nr ct cv ci ws b n nt sb t k1 k2 k3 k4 k5 tn tnt tb y dy mr du cw cj wt b2 n2 nt2 sb2 u j1 j2 j3 j4 j5 un2 unt ub Q E B F X T hk (news_sub N (mem8 m1 m2 m3 m4 m5 m6 m7 m8)) hI hJ q1 q2 q3 q4 q5 q6 hz1 hz2 hc1 hc2 hn1 hn2 hn3 hn4 hb1 hb2 hb3 hb4 hd hu fun tk h' F' st => h tk h' F' (news_stays N st)
theorem nl04_use {w : World} {mean : ExcName → Option Value} {mg mb : Str → Option Value} {dp un : Nat} {gd : Option (List Code)} {cn : Str} {cs : Scope} {a : Addr} {ccd : Value} {cl : List (Str × Addr)} {outer : List Env} {A₀ : Around} {base h₀ : Heap} {L : Addr} {m : Str → Option Value} {news : List (Addr × Obj)} {s : Shared} {x dx nr ct : Nat} {cv : List Value} {ci : List Int} {ws : Str} {b n nt : Int} {sb : Bool} {t k1 k2 k3 k4 k5 tn tnt tb : Tok} {y dy mr du : Nat} {cw : List Value} {cj : List Int} {wt : Str} {b2 n2 nt2 : Int} {sb2 : Bool} {u j1 j2 j3 j4 j5 un2 unt ub : Tok} {Q E : Value → Shared → Prop} (B : Below A₀ base outer h₀) (F : Fr h₀ L s.heap m) (X : (hd04.heap_39 w.params).In h₀) (T : Top topProg (looseW hd04.view_39 [Str.ofString "Whitespace"] ++ (recsOf hd04.view_39).map (·.name) ++ (litsOf hd04.view_39).map (·.1) ++ (clssOf hd04.view_39 (looseW hd04.view_39 [Str.ofString "Whitespace"])).map (·.name)) mean mg mb h₀) (hk : cs.kind = .function) (N : News h₀ L s.heap news)
    (m1 : (x, instObj 124 dx) ∈ news) (m2 : (dx, dictOf (wsEnt w ws t n nt tn tnt nr sb k1 k2 k3 k4 k5) 5) ∈ news) (m3 : (nr, tupOf #[.ref ct, .int b tb]) ∈ news) (m4 : (ct, tupOf cv.toArray) ∈ news) (m5 : (y, instObj 124 dy) ∈ news) (m6 : (dy, dictOf (wsEnt w wt u n2 nt2 un2 unt mr sb2 j1 j2 j3 j4 j5) 5) ∈ news) (m7 : (mr, tupOf #[.ref du, .int b2 ub]) ∈ news) (m8 : (du, tupOf cw.toArray) ∈ news) (hI : IntsAre cv ci) (hJ : IntsAre cw cj) (q1 : dx < x) (q2 : x < ct) (q3 : ct < nr) (q4 : dy < y) (q5 : y < du) (q6 : du < mr) (hz1 : ci.length ≤ 900) (hz2 : cj.length ≤ 900) (hc1 : ∀ c ∈ ci, 0 ≤ c ∧ c ≤ 1000) (hc2 : ∀ c ∈ cj, 0 ≤ c ∧ c ≤ 1000) (hn1 : 0 ≤ nt) (hn2 : nt ≤ 1000) (hn3 : 0 ≤ nt2) (hn4 : nt2 ≤ 1000) (hb1 : 0 ≤ b) (hb2 : b ≤ 900) (hb3 : 0 ≤ b2) (hb4 : b2 ≤ 900) (hd : dp + 20 < recursionLimit) (hu : un + 160 < cLine)
    (h : ∀ (D ep : Nat) (rows : List WRow) tk h', Fr h₀ L h' m → News h₀ L h' ((D, W.listOf (rows.map fun r => Value.ref r.D).toArray ep) :: (news ++ rows.map WRow.ent)) → rows.map WRow.val = wit (fun i j => decide (i ≥ j)) (lvl ci b nt) (lvl cj b2 nt2) (runs2 ci cj b b2) → (∀ p ∈ news, p.1 ≠ D) → Q (.ref D) { s with heap := h', toks := tk }) :
    wpAny (model Challenge.rw_dn0186_04.row.prog w) (ktrTop dp un gd cn cs L a ccd cl outer) (call (.ref 121) [.ref x, .ref y]) Q E s :=
  nl04 w mean mg mb dp un gd cn cs a ccd cl outer A₀ base h₀ L m s x dx nr ct cv ci ws b n nt sb t k1 k2 k3 k4 k5 tn tnt tb y dy mr du cw cj wt b2 n2 nt2 sb2 u j1 j2 j3 j4 j5 un2 unt ub Q E B F X T hk (news_sub N (mem8 m1 m2 m3 m4 m5 m6 m7 m8)) hI hJ q1 q2 q3 q4 q5 q6 hz1 hz2 hc1 hc2 hn1 hn2 hn3 hn4 hb1 hb2 hb3 hb4 hd hu fun D ep rows tk h' F' st N' e off => h D ep rows tk h' F' (news_sub (news_app N' (news_stays N st)) fun p hp => (List.mem_cons.mp hp).elim (fun q => List.mem_append.mpr (.inl (q ▸ .head _))) fun q => (List.mem_append.mp q).elim (fun q => List.mem_append.mpr (.inr q)) fun q => List.mem_append.mpr (.inl (.tail _ q))) e (fun p hp q => off _ _ (N p hp).1 q)
theorem nag04_use {w : World} {mean : ExcName → Option Value} {mg mb : Str → Option Value} {dp un : Nat} {gd : Option (List Code)} {cn : Str} {cs : Scope} {a : Addr} {ccd : Value} {cl : List (Str × Addr)} {outer : List Env} {A₀ : Around} {base h₀ : Heap} {L : Addr} {m : Str → Option Value} {news : List (Addr × Obj)} {s : Shared} {v1 v2 v3 : Value} {Q E : Value → Shared → Prop} (B : Below A₀ base outer h₀) (F : Fr h₀ L s.heap m) (X : (hd04.heap_39 w.params).In h₀) (T : Top topProg (looseW hd04.view_39 [Str.ofString "Whitespace"] ++ (recsOf hd04.view_39).map (·.name) ++ (litsOf hd04.view_39).map (·.1) ++ (clssOf hd04.view_39 (looseW hd04.view_39 [Str.ofString "Whitespace"])).map (·.name)) mean mg mb h₀) (hk : cs.kind = .function) (N : News h₀ L s.heap news) (hd : dp + 10 < recursionLimit) (hu : un + 80 < cLine)
    (h : ∀ (x dx t : Nat) (od : Obj) h' tk', Fr h₀ L h' m → News h₀ L h' ((x, { excNew 59 t with dict := some dx }) :: (dx, od) :: news) → DictObj od (nagMap v1 v2 v3) → (∀ p ∈ news, p.1 < t) → t < x → x < dx → Q (.ref x) { s with heap := h', toks := tk' }) :
    wpAny (model Challenge.rw_dn0186_04.row.prog w) (ktrTop dp un gd cn cs L a ccd cl outer) (call (.ref 59) [v1, v2, v3]) Q E s :=
  nag04 w mean mg mb dp un gd cn cs a ccd cl outer A₀ base h₀ L m s v1 v2 v3 Q E B F X T hk hd hu fun x dx t od h' tk' F' st N' hD h1 h2 h3 => h x dx t od h' tk' F' (fun p hp => (List.mem_cons.mp hp).elim (fun e => e ▸ N' _ (.head _)) fun hp => (List.mem_cons.mp hp).elim (fun e => e ▸ N' _ (.tail _ (.head _))) fun hp => news_stays N st p hp) hD (fun p hp => Nat.lt_of_lt_of_le (Heap.lt_size (N p hp).1) h1) h2 h3

open PySem PySem.W PyProof.Rows PySem.Calls PySem.Spec

def ScanBd (N : Nat) (q : List Int × Nat × Nat × Nat) : Prop := q.1.length ≤ N ∧ q.2.1 ≤ N ∧ q.2.2.2 ≤ N ∧ ∀ c ∈ q.1, 0 ≤ c ∧ c ≤ (N : Int)
theorem scanStep_bd {N : Nat} {q : List Int × Nat × Nat × Nat} (k : Nat) (h : ScanBd N q) : ScanBd (N + 1) (scanStep q k) := by
  obtain ⟨h1, h2, h3, h4⟩ := h
  unfold scanStep
  split
  · exact ⟨Nat.le_succ_of_le h1, Nat.succ_le_succ h2, Nat.le_succ_of_le h3, fun c hc => ⟨(h4 c hc).1, by have := (h4 c hc).2; omega⟩⟩
  · refine ⟨?_, Nat.zero_le _, Nat.succ_le_succ h3, ?_⟩
    · show (bump q.1 q.2.1).length ≤ N + 1
      rw [bump_length]; omega
    · intro c hc
      have hc : c ∈ bump q.1 q.2.1 := hc
      unfold bump at hc
      have ha : ∀ x ∈ q.1 ++ List.replicate (q.2.1 + 1 - q.1.length) (0 : Int), 0 ≤ x ∧ x ≤ (N : Int) := fun x hx => by
        rcases List.mem_append.mp hx with hx | hx
        · exact h4 x hx
        · rw [(List.mem_replicate.mp hx).2]; omega
      have hg : 0 ≤ (q.1 ++ List.replicate (q.2.1 + 1 - q.1.length) (0 : Int)).getD q.2.1 0 ∧ (q.1 ++ List.replicate (q.2.1 + 1 - q.1.length) (0 : Int)).getD q.2.1 0 ≤ (N : Int) := by
        rw [List.getD_eq_getElem?_getD]
        cases e : (q.1 ++ List.replicate (q.2.1 + 1 - q.1.length) (0 : Int))[q.2.1]? with
        | none => simp
        | some x => exact ha x (List.mem_of_getElem? e)
      rcases List.mem_or_eq_of_mem_set hc with hc | hc
      · have := ha c hc; omega
      · rw [hc]; omega
theorem scan_bd0 : ∀ (l : List Nat) (N : Nat) (q : List Int × Nat × Nat × Nat), ScanBd N q → ScanBd (N + l.length) (l.foldl scanStep q)
  | [], _, _, h => h
  | k :: l, N, q, h => by
    have := scan_bd0 l (N + 1) _ (scanStep_bd k h)
    rw [List.length_cons, show N + (l.length + 1) = N + 1 + l.length by omega]
    exact this
theorem wsOf_bd {x : Str} {N : Nat} (h : x.length ≤ N) : (wsOf x).1.length ≤ N ∧ (wsOf x).2.1 ≤ N ∧ (wsOf x).2.2.2 ≤ N ∧ ∀ c ∈ (wsOf x).1, 0 ≤ c ∧ c ≤ (N : Int) := by
  have hs := scan_bd0 (x.cps.toList.takeWhile isSp) 0 ([], 0, 0, 0) ⟨Nat.le_refl _, Nat.le_refl _, Nat.le_refl _, fun c hc => nomatch hc⟩
  have hl : 0 + (x.cps.toList.takeWhile isSp).length ≤ N := by
    have h1 : (x.cps.toList.takeWhile isSp).length ≤ x.cps.toList.length := (List.takeWhile_sublist _).length_le
    have h2 : x.cps.toList.length = x.length := by simp [PySem.Str.length]
    omega
  obtain ⟨h1, h2, h3, h4⟩ := hs
  exact ⟨Nat.le_trans h1 hl, Nat.le_trans h2 hl, Nat.le_trans h3 hl, fun c hc => ⟨(h4 c hc).1, by have := (h4 c hc).2; omega⟩⟩
theorem wit_bd {neq : Int → Int → Bool} {f g : Int → Int} {k : Nat} : ∀ q ∈ wit neq f g k, 1 ≤ q.1 ∧ q.1 ≤ (k : Int) := by
  intro q hq
  obtain ⟨i, hi, e⟩ := List.mem_filterMap.mp hq
  have := List.mem_range.mp hi
  split at e
  · rw [← Option.some.inj e]
    constructor <;> (dsimp only; omega)
  · cases e
theorem wit_len {neq : Int → Int → Bool} {f g : Int → Int} {k : Nat} : (wit neq f g k).length ≤ k := by
  have := List.length_filterMap_le (fun (i : Nat) => if neq (f (1 + (i : Int))) (g (1 + (i : Int))) then some (1 + (i : Int), f (1 + (i : Int)), g (1 + (i : Int))) else none) (List.range k)
  rw [List.length_range] at this
  exact this
theorem rows_bd {rows : List WRow} {neq : Int → Int → Bool} {f g : Int → Int} {k : Nat} (e : rows.map WRow.val = wit neq f g k) : rows.length ≤ k ∧ ∀ r ∈ rows, 1 ≤ r.ts ∧ r.ts ≤ (k : Int) := by
  constructor
  · have := wit_len (neq := neq) (f := f) (g := g) (k := k)
    rw [← e, List.length_map] at this
    exact this
  · intro r hr
    exact wit_bd (neq := neq) (f := f) (g := g) r.val (e ▸ List.mem_map.mpr ⟨r, hr, rfl⟩)
theorem rows_in {rows : List WRow} (h : ∀ r ∈ rows, 1 ≤ r.ts ∧ r.ts ≤ 1000) : RowsIn (rows.map WRow.ent) (rows.map fun r => Value.ref r.D) (rows.map fun r => numTx r.ts) := by
  refine ⟨by simp, fun i v e => ?_⟩
  rw [List.getElem?_map] at e
  cases q : rows[i]? with
  | none => rw [q] at e; cases e
  | some r =>
    rw [q] at e
    have hr := List.mem_of_getElem? q
    have e2 : (rows.map fun r => numTx r.ts).getD i ⟨#[]⟩ = numTx r.ts := by rw [List.getD_eq_getElem?_getD, List.getElem?_map, q]; rfl
    rw [e2]
    refine ⟨r.D, _, _, (Option.some.inj e).symm, .inr ⟨_, List.mem_map.mpr ⟨r, hr, rfl⟩⟩, rfl, .inl ⟨r.ts, _, rfl, rfl, ?_⟩⟩
    have h1 := h r hr
    have : r.ts.natAbs < 2 ^ 10 := by omega
    have : r.ts.natAbs.log2 < 10 := (Nat.log2_lt (by omega)).mpr this
    omega
theorem sum_bd {α : Type} (f : α → Nat) (B : Nat) : ∀ l : List α, (∀ x ∈ l, f x ≤ B) → (l.map f).sum ≤ B * l.length
  | [], _ => by simp
  | a :: l, h => by
    have h1 := h a (.head _)
    have h2 := sum_bd f B l fun x hx => h x (.tail _ hx)
    simp only [List.map_cons, List.sum_cons, List.length_cons]
    rw [Nat.mul_succ]
    omega
theorem rows_sum {rows : List WRow} (h : ∀ r ∈ rows, 1 ≤ r.ts ∧ r.ts ≤ 1000) (hl : rows.length ≤ 1000) : ((rows.map fun r => numTx r.ts).map (·.length)).sum ≤ 100000 := by
  rw [List.map_map]
  refine Nat.le_trans (sum_bd _ 20 rows fun r hr => ?_) (by omega)
  have := h r hr
  exact numTx_len 19 (by omega) (by omega)
theorem strs_at {vs : List Value} {ts : List Str} (hi : StrsAre vs ts) {k : Nat} (h : k < ts.length) : ∃ t, vs[k]? = some (.str (ts.getD k ⟨#[]⟩) t) := by
  induction hi generalizing k with
  | nil => simp at h
  | cons x t r ih =>
    cases k with
    | zero => exact ⟨_, rfl⟩
    | succ k =>
      obtain ⟨t', e⟩ := ih (by simpa using h)
      exact ⟨t', by simpa using e⟩

open PySem PySem.W PyProof.Rows


local macro_rules | `(tactic| walk_at "call builtin:len") => `(tactic| (k_here; (with_reducible show wpAny _ _ (call (Value.builtin "len") [Value.ref _]) _ _ _); k_dflt (refine' len_ledL ?N ?a ?z ?_; (case N => k_asm); (case a => k_mem); (case z => assumption); k_whole); intro _ _))
local macro_rules | `(tactic| walk_at "SUBV") => `(tactic| (k_here; (with_reducible show wpAny _ _ (subscriptTail _ _ (Value.ref _) (Value.int _ _)) _ _ _); k_dflt (refine' item_ledL (n := _) ?N ?hm ?h0 ?hf ?hx ?_ ?hs; (case N => k_asm); (case hm => k_mem); (case h0 => omega); (case hf => omega); (case hx => with_reducible assumption); (case hs => with_unfolding_all rfl); k_whole)))
local macro_rules | `(tactic| walk_at "subscriptTail Name Constant ref int") => `(tactic| walk_at "SUBV")
local macro_rules | `(tactic| walk_at "subscriptTail Name Name ref int") => `(tactic| walk_at "SUBV")
theorem fw_len (ts : List Str) (h1 : (ts.map (·.length)).sum ≤ 100000) (h2 : ts.length ≤ 1000) : (fwTx ts).length ≤ 200000 := by
  have e0 : (Str.ofString ", ").length = 2 := by decide
  have hj : (Txt.join (Str.ofString ", ") ts).length ≤ 102000 := join_len _ _ (by rw [e0]; omega)
  have e1 : (Str.ofString "at tab size").length = 11 := by decide
  have e2 : (Str.ofString "s").length = 1 := by decide
  have e3 : (Str.ofString " ").length = 1 := by decide
  unfold fwTx
  rw [Str.length_append, Str.length_append]
  split
  · rw [Str.length_append]; omega
  · omega
local macro_rules | `(tactic| k_ne) => `(tactic| first | with_reducible assumption | (refine Ne.symm ?_; with_reducible assumption))
theorem runs2_le {ci cj : List Int} {b b2 : Nat} (h1 : ci.length ≤ 100) (h2 : b ≤ 100) (h3 : cj.length ≤ 100) (h4 : b2 ≤ 100) : runs2 ci cj (b : Int) (b2 : Int) ≤ 1000 := by unfold runs2; omega
def lessS (x y : Str) : Bool := lessV (wsOf x).1 (wsOf x).2.1 (wsOf x).2.2.1 (wsOf x).2.2.2 (decide (((wsOf x).1.length : Int) ≤ 1)) (wsOf y).1 (wsOf y).2.1 (wsOf y).2.2.1 (wsOf y).2.2.2 (decide (((wsOf y).1.length : Int) ≤ 1))
structure SK where
  x : Nat
  dx : Nat
  nr : Nat
  ct : Nat
  cv : List Value
  tx : Str
  t : Tok
  k1 : Tok
  k2 : Tok
  k3 : Tok
  k4 : Tok
  k5 : Tok
  tn : Tok
  tnt : Tok
  tb : Tok
  u : Str → Option Value
abbrev wsK (w : World) (c : SK) : List (Addr × Obj) := wsE w 124 c.x c.dx c.nr c.ct c.cv c.tx (wsOf c.tx).2.1 (wsOf c.tx).2.2.1 (wsOf c.tx).2.2.2 (decide (((wsOf c.tx).1.length : Int) ≤ 1)) c.t c.k1 c.k2 c.k3 c.k4 c.k5 c.tn c.tnt c.tb
abbrev ledK (w : World) (D ep : Nat) (vs : List Value) (ps : Array Value) (c : SK) : List (Addr × Obj) := wsK w c ++ [(130, tabObj ps), (D, W.listOf vs.toArray ep)]
abbrev storedK : List Str := [Str.ofString "new", Str.ofString "msg"]
abbrev mpK (m0 : Str → Option Value) (c : SK) (y : Str) : Option Value := if y = Str.ofString "old" then some (.ref c.x) else if storedK.contains y then c.u y else m0 y
theorem offK {z : Str} (h : storedK.contains z = false) : z ≠ Str.ofString "new" ∧ z ≠ Str.ofString "msg" := by
  simp only [storedK, List.contains_cons, List.contains_nil, Bool.or_false, Bool.or_eq_false_iff, beq_eq_false_iff_ne, ne_eq] at h
  exact h
structure InvK (ts : List Str) (st i : Nat) (c : SK) : Prop where
  tx : c.tx = ts.getD (st + i) ⟨#[]⟩
  iv : IntsAre c.cv (wsOf c.tx).1
  l0 : 130 < c.dx
  l1 : c.dx < c.x
  l2 : c.x < c.ct
  l3 : c.ct < c.nr
  up : ∀ j, j < i → lessS (ts.getD (st + j) ⟨#[]⟩) (ts.getD (st + j + 1) ⟨#[]⟩) = true
theorem clm04 (w : World) (mean : ExcName → Option Value) (mg mb : Str → Option Value) :
  ∀ (dp un : Nat) (gd : Option (List Code)) (cn : Str) (cs : Scope) (a : Addr) (ccd : Value) (cl : List (Str × Addr)) (outer : List Env) (A₀ : Around) (base h₀ : Heap) (L : Addr) (m : Str → Option Value) (s : Shared) (D : Nat) (vs : List Value) (ep : Nat) (ts : List Str) (st : Nat) (tst : Tok) (ps : Array Value) (Q E : Value → Shared → Prop),
    Below A₀ base outer h₀ → Fr h₀ L s.heap m → (hd04.heap_39 w.params).In h₀ → Top topProg (looseW hd04.view_39 [Str.ofString "Whitespace"] ++ (recsOf hd04.view_39).map (·.name) ++ (litsOf hd04.view_39).map (·.1) ++ (clssOf hd04.view_39 (looseW hd04.view_39 [Str.ofString "Whitespace"])).map (·.name)) mean mg mb h₀ → cs.kind = .function →
    News h₀ L s.heap [(130, tabObj ps), (D, W.listOf vs.toArray ep)] → StrsAre vs ts → st < ts.length → ts.length ≤ 1000 → (∀ x ∈ ts, x.length ≤ 100) → D ≠ 130 → CodeHd h₀ 134 130 → TabForm ⟨80, 13, 80, 39⟩ ps → AllBare s.gens → dp + 40 < recursionLimit → un + 300 < cLine →
    (∀ tk h', Fr h₀ L h' m → s.heap.StaysIn h' → (∀ k, st + k + 1 < ts.length → lessS (ts.getD (st + k) ⟨#[]⟩) (ts.getD (st + k + 1) ⟨#[]⟩) = true) → Q .none { s with heap := h', toks := tk }) →
    (∀ (x dx : Nat) (od : Obj) (ps' : Array Value) (h' : Heap) (tk : Nat) (gs : Array GenState) (k i : Nat) (t1 t2 t3 : Tok) (msg : Str), Aloft s.heap [130, D] (envX cn cs L a ccd cl :: outer) 59 x dx .none [(dx, od), (130, tabObj ps'), (D, W.listOf vs.toArray ep)] h' →
      DictObj od (nagMap (.int ((k : Int) + 1) t1) (.str msg t2) (.str (ts.getD k ⟨#[]⟩) t3)) → TabForm ⟨80, 13, 80, 39⟩ ps' → AllBare gs → (∀ b o, s.heap.get? b = some o → b ≠ dx ∧ b ≠ x) → x ≠ dx → k = st + i + 1 → k < ts.length → (∀ j, j < i → lessS (ts.getD (st + j) ⟨#[]⟩) (ts.getD (st + j + 1) ⟨#[]⟩) = true) → lessS (ts.getD (st + i) ⟨#[]⟩) (ts.getD (st + i + 1) ⟨#[]⟩) = false →
      E (.ref x) { s with heap := h', gens := gs, toks := tk }) →
    wpAny (model Challenge.rw_dn0186_04.row.prog w) (ktrTop dp un gd cn cs L a ccd cl outer) (call (.ref 142) [.ref D, .int (st : Int) tst]) Q E s := by
  k_fill
  intro dp un gd cn cs a ccd cl outer A₀ base h₀ L m s D vs ep ts st tst ps Q E B F X T hk N hS hz1 hz2 hlen hD0 CH hf hG hd hu hret hexc
  obtain ⟨nm, q, bs9, sn, sub, ab, col, dd, k0, k1, k2, k3, k5, hC⟩ := (nk04 w.params).obj
  have hd0 : dp + 10 < recursionLimit := by omega
  have hu0 : un + 80 < cLine := by omega
  refine wpAny_call ?_
  (k_dflt (refine' code_defH ?k1zq ?k2zq ?k3zq ?k4zq ?k5zq ?kAzq ?kFzq ?kKzq ?k6zq ?k7zq ?k8zq ?k9zq ?kBzq ?_ ?c2zq ?c3zq ?c4zq ?c5zq; (case kAzq => exact rfl); (case kFzq => exact rfl); (case kKzq => assumption); (case k1zq => k_asm); (case k2zq => k_asm); (case k3zq => k_asm); (case k4zq => k_asm); (case k5zq => k_asm); (case k6zq => k_is); (case k7zq => k_is); (case k8zq => ktr_room); (case k9zq => exact BindsTo.of_eq rfl); (case c5zq => decide); (case kBzq => exact locs rfl); (case c2zq => exact rfl); (case c3zq => exact rfl); (case c4zq => exact rfl); k_whole))
  intro g L' hh1 stG hszL FG' F' N' B' X' T'
  obtain ⟨t0, hv0⟩ := strs_at hS (k := st) hz1
  have hl0 : (ts.getD st ⟨#[]⟩).length ≤ 10000 := Nat.le_trans (hlen _ (by rw [List.getD_eq_getElem?_getD, List.getElem?_eq_getElem hz1]; exact List.getElem_mem _)) (by decide)
  have hv0 : vs[((st : Int)).toNat]? = some (.str (ts.getD st ⟨#[]⟩) t0) := by rw [Int.toNat_natCast]; exact hv0
  have hvl : vs.length ≤ 1000000 := by rw [hS.length]; omega
  (try dsimp only)
  (try k_fold)
  w_on
  (repeat' ((fail_if_success (with_reducible show wpAny _ _ (pyIter _) _ _ _)); (fail_if_success (with_reducible show wpAny _ _ (exec (Stmt.Raise _ _ _) _) _ _ _)); (fail_if_success (with_reducible show wpAny _ _ (leaving _ _) _ _ _)); (fail_if_success (with_reducible show wpAny _ _ (call (Value.ref 135) _) _ _ _)); first | (k_unfold; (try dsimp only)) | (k_end; wrow_close) | ((with_reducible show wpAny _ _ (call (Value.ref _) _) _ _ _); (first | (k_here; (try dsimp only [List.cons_append, List.nil_append]); (with_reducible show wpAny _ _ (call (Value.ref 59) [_, _, _]) _ _ _); k_dflt (refine' nag04_use (by k_asm) (by k_asm) (by k_asm) (by k_asm) (by exact rfl) (by k_asm) (by ktr_room) (by ktr_units) ?_; k_whole); intro _ _ _ _ _ _ _ _ _ _ _ _; (try k_sweep)) | (k_here; (try dsimp only [List.cons_append, List.nil_append]); (with_reducible show wpAny _ _ (call (Value.ref 121) [Value.ref _, Value.ref _]) _ _ _); k_dflt (refine' nl04_use (by k_asm) (by k_asm) (by k_asm) (by k_asm) (by exact rfl) (by k_asm) (by k_mem) (by k_mem) (by k_mem) (by k_mem) (by k_mem) (by k_mem) (by k_mem) (by k_mem) (by assumption) (by assumption) (by omega) (by omega) (by omega) (by omega) (by omega) (by omega) (by omega) (by omega) (by assumption) (by assumption) (by omega) (by omega) (by omega) (by omega) (by omega) (by omega) (by omega) (by omega) (by ktr_room) (by ktr_units) ?_; k_whole); intro _ _ _ _ _ _ _ _ _; (try k_sweep)) | (k_here; (try dsimp only [List.cons_append, List.nil_append]); (with_reducible show wpAny _ _ (call (Value.ref 114) [Value.ref _, Value.ref _]) _ _ _); k_dflt (refine' ls04_use (by k_asm) (by k_asm) (by k_asm) (by k_asm) (by exact rfl) (by k_asm) (by k_mem) (by k_mem) (by k_mem) (by k_mem) (by k_mem) (by k_mem) (by k_mem) (by k_mem) (by assumption) (by assumption) (by omega) (by omega) (by omega) (by omega) (by omega) (by omega) (by omega) (by omega) (by assumption) (by assumption) (by omega) (by omega) (by omega) (by omega) (by omega) (by omega) (by omega) (by omega) (by ktr_room) (by ktr_units) ?_; k_whole); intro _ _ _ _; (try k_sweep)) | (k_here; (try dsimp only [List.cons_append, List.nil_append]); (with_reducible show wpAny _ _ (call (Value.ref 124) [Value.str _ _]) _ _ _); k_dflt (refine' ws04_use (by k_asm) (by k_asm) (by k_asm) (by k_asm) (by k_asm) (by exact rfl) (by first | assumption | omega) (by ktr_room) (by ktr_units) ?_; k_whole); intro _ _ _ _ _ _ _ _ _ _ _ _ _ _ _ _ _ _ _ _; walk_at "L3"; (try k_sweep)) | (k_here; (try dsimp only [List.cons_append, List.nil_append]); (with_reducible show wpAny _ _ (call (Value.ref 86) [Value.ref _]) _ _ _); k_dflt (refine' lr04_use (by k_asm) (by k_asm) (by k_asm) (by k_asm) (by exact rfl) (by k_asm) (by k_mem) (by k_mem) (by k_mem) (by k_mem) (by assumption) (by omega) (by omega) (by omega) (by omega) (by ktr_room) (by ktr_units) ?_; k_whole); intro _ _ _ _ _; (try k_sweep)) | (k_here; (try dsimp only [List.cons_append, List.nil_append]); (with_reducible show wpAny _ _ (call (Value.ref 93) [Value.ref _, Value.int _ _]) _ _ _); k_dflt (refine' il04_use (by k_asm) (by k_asm) (by k_asm) (by k_asm) (by exact rfl) (by k_asm) (by k_mem) (by k_mem) (by k_mem) (by k_mem) (by assumption) (by omega) (by omega) (by omega) (by omega) (by assumption) (by omega) (by omega) (by omega) (by omega) (by omega) (by omega) (by ktr_room) (by ktr_units) ?_; k_whole); intro _ _ _ _ _; (try k_sweep)))) | walk1 | (dsimp only; walk1) | (leave1; walk_say "STEP leave1"; try dsimp only) | fail "no step"))
  rename Fr g L' _ _ => F5
  rename News g L' _ _ => N5
  rename IsRange _ _ _ _ _ _ _ _ => hR5
  obtain ⟨mr, hmr, F6⟩ : ∃ (mr : Str → Option Value), mr = _ ∧ Fr _ _ _ (fun y => if y = Str.ofString "old" then _ else mr y) := ⟨_, rfl, F5⟩
  have hvn := hS.length
  rename IntsAre _ (wsOf (ts.getD st ⟨#[]⟩)).1 => hI5
  rename (_ < _ ∧ _ < _ ∧ _ < _) => l25
  refine' range_led (σ := SK) (n := ts.length - (st + 1)) (mpK mr) (ledK w D ep vs ps) (fun i c => InvK ts st i c) (fun _ => ∀ j, st + j + 1 < ts.length → lessS (ts.getD (st + j) ⟨#[]⟩) (ts.getD (st + j + 1) ⟨#[]⟩) = true) ⟨_, _, _, _, _, ts.getD st ⟨#[]⟩, _, _, _, _, _, _, _, _, _, mr⟩ rfl hR5 (small_one (by omega) (by omega) (by omega) (by omega)) ?hK F6 N5 (fun p hp => hp) ?hmap ?hinit ?hturn ?hends ?hdone
  case hK => rw [rsizeAB]; congr 1; omega
  case hmap =>
    intro z hz
    simp only [mpK]
    split
    · rfl
    · split <;> rfl
  case hinit => exact ⟨rfl, hI5, by dsimp only; omega, l25.1, l25.2.1, l25.2.2, fun j hj => by omega⟩
  case hends =>
    intro c hc j hj
    exact hc.up j (by omega)
  case hdone =>
    subst hmr
    rintro c9 u8 h9 tk' e1 F7 N7
    dsimp only [mpK] at F7
    (try k_fold)
    (repeat' ((fail_if_success (with_reducible show wpAny _ _ (pyIter _) _ _ _)); (fail_if_success (with_reducible show wpAny _ _ (exec (Stmt.Raise _ _ _) _) _ _ _)); (fail_if_success (with_reducible show wpAny _ _ (leaving _ _) _ _ _)); (fail_if_success (with_reducible show wpAny _ _ (call (Value.ref 135) _) _ _ _)); first | (k_unfold; (try dsimp only)) | (k_end; wrow_close) | ((with_reducible show wpAny _ _ (call (Value.ref _) _) _ _ _); (first | (k_here; (try dsimp only [List.cons_append, List.nil_append]); (with_reducible show wpAny _ _ (call (Value.ref 59) [_, _, _]) _ _ _); k_dflt (refine' nag04_use (by k_asm) (by k_asm) (by k_asm) (by k_asm) (by exact rfl) (by k_asm) (by ktr_room) (by ktr_units) ?_; k_whole); intro _ _ _ _ _ _ _ _ _ _ _ _; (try k_sweep)) | (k_here; (try dsimp only [List.cons_append, List.nil_append]); (with_reducible show wpAny _ _ (call (Value.ref 121) [Value.ref _, Value.ref _]) _ _ _); k_dflt (refine' nl04_use (by k_asm) (by k_asm) (by k_asm) (by k_asm) (by exact rfl) (by k_asm) (by k_mem) (by k_mem) (by k_mem) (by k_mem) (by k_mem) (by k_mem) (by k_mem) (by k_mem) (by assumption) (by assumption) (by omega) (by omega) (by omega) (by omega) (by omega) (by omega) (by omega) (by omega) (by assumption) (by assumption) (by omega) (by omega) (by omega) (by omega) (by omega) (by omega) (by omega) (by omega) (by ktr_room) (by ktr_units) ?_; k_whole); intro _ _ _ _ _ _ _ _ _; (try k_sweep)) | (k_here; (try dsimp only [List.cons_append, List.nil_append]); (with_reducible show wpAny _ _ (call (Value.ref 114) [Value.ref _, Value.ref _]) _ _ _); k_dflt (refine' ls04_use (by k_asm) (by k_asm) (by k_asm) (by k_asm) (by exact rfl) (by k_asm) (by k_mem) (by k_mem) (by k_mem) (by k_mem) (by k_mem) (by k_mem) (by k_mem) (by k_mem) (by assumption) (by assumption) (by omega) (by omega) (by omega) (by omega) (by omega) (by omega) (by omega) (by omega) (by assumption) (by assumption) (by omega) (by omega) (by omega) (by omega) (by omega) (by omega) (by omega) (by omega) (by ktr_room) (by ktr_units) ?_; k_whole); intro _ _ _ _; (try k_sweep)) | (k_here; (try dsimp only [List.cons_append, List.nil_append]); (with_reducible show wpAny _ _ (call (Value.ref 124) [Value.str _ _]) _ _ _); k_dflt (refine' ws04_use (by k_asm) (by k_asm) (by k_asm) (by k_asm) (by k_asm) (by exact rfl) (by first | assumption | omega) (by ktr_room) (by ktr_units) ?_; k_whole); intro _ _ _ _ _ _ _ _ _ _ _ _ _ _ _ _ _ _ _ _; walk_at "L3"; (try k_sweep)) | (k_here; (try dsimp only [List.cons_append, List.nil_append]); (with_reducible show wpAny _ _ (call (Value.ref 86) [Value.ref _]) _ _ _); k_dflt (refine' lr04_use (by k_asm) (by k_asm) (by k_asm) (by k_asm) (by exact rfl) (by k_asm) (by k_mem) (by k_mem) (by k_mem) (by k_mem) (by assumption) (by omega) (by omega) (by omega) (by omega) (by ktr_room) (by ktr_units) ?_; k_whole); intro _ _ _ _ _; (try k_sweep)) | (k_here; (try dsimp only [List.cons_append, List.nil_append]); (with_reducible show wpAny _ _ (call (Value.ref 93) [Value.ref _, Value.int _ _]) _ _ _); k_dflt (refine' il04_use (by k_asm) (by k_asm) (by k_asm) (by k_asm) (by exact rfl) (by k_asm) (by k_mem) (by k_mem) (by k_mem) (by k_mem) (by assumption) (by omega) (by omega) (by omega) (by omega) (by assumption) (by omega) (by omega) (by omega) (by omega) (by omega) (by omega) (by ktr_room) (by ktr_units) ?_; k_whole); intro _ _ _ _ _; (try k_sweep)))) | walk1 | (dsimp only; walk1) | (leave1; walk_say "STEP leave1"; try dsimp only) | fail "no step"))
    rename Fr h₀ L _ m => kF
    rename News h₀ L _ _ => kN
    exact hret _ _ kF (stays_of N (fun p hp => (kN p (.tail _ (.tail _ (.tail _ (.tail _ hp))))).1) fun b o e hb => F7.keep b o (stG b o e hb)) e1
  case hturn =>
    subst hmr
    rintro i t' ⟨x8, dx8, nr8, ct8, cv8, tx8, t8, k81, k82, k83, k84, k85, tn8, tnt8, tb8, u8⟩ I oI h tk' hi ⟨e1, e2, e10, e3, e4, e5, e6⟩ hoff F7 N7
    dsimp only at e1 e2 e10 e3 e4 e5 e6
    dsimp only [mpK] at F7
    dsimp only [ledK, wsK, wsE] at N7
    simp only [List.cons_append, List.nil_append] at N7
    have e0 : (((st : Int) + 1) + (i : Int)).toNat = st + i + 1 := by omega
    have hik : st + i + 1 < ts.length := by omega
    have hlk : (ts.getD (st + i + 1) ⟨#[]⟩).length ≤ 100 := hlen _ (by rw [List.getD_eq_getElem?_getD, List.getElem?_eq_getElem hik]; exact List.getElem_mem _)
    obtain ⟨tk9, hvk0⟩ := strs_at hS hik
    have hvk : vs[(((st : Int) + 1) + (i : Int)).toNat]? = some (.str (ts.getD (st + i + 1) ⟨#[]⟩) tk9) := by rw [e0]; exact hvk0
    obtain ⟨g1, g2, g3, g4⟩ := wsOf_bd hlk
    have g5 : ∀ c ∈ (wsOf (ts.getD (st + i + 1) ⟨#[]⟩)).1, 0 ≤ c ∧ c ≤ 1000 := fun c hc => ⟨(g4 c hc).1, Int.le_trans (g4 c hc).2 (by decide)⟩
    have hl8 : tx8.length ≤ 100 := by
      rw [e1]
      exact hlen _ (by rw [List.getD_eq_getElem?_getD, List.getElem?_eq_getElem (by omega)]; exact List.getElem_mem _)
    obtain ⟨f1, f2, f3, f4⟩ := wsOf_bd hl8
    have f5 : ∀ c ∈ (wsOf tx8).1, 0 ≤ c ∧ c ≤ 1000 := fun c hc => ⟨(f4 c hc).1, Int.le_trans (f4 c hc).2 (by decide)⟩
    clear f4 g4 hvk0
    have hlk2 : (ts.getD (st + i + 1) ⟨#[]⟩).length ≤ 10000 := by omega
    (try k_fold)
    have hck := CH.keeps FG'.keep
    (repeat' ((fail_if_success (with_reducible show wpAny _ _ (pyIter _) _ _ _)); (fail_if_success (with_reducible show wpAny _ _ (exec (Stmt.Raise _ _ _) _) _ _ _)); (fail_if_success (with_reducible show wpAny _ _ (leaving _ _) _ _ _)); (fail_if_success (with_reducible show wpAny _ _ (call (Value.ref 135) _) _ _ _)); first | (k_unfold; (try dsimp only)) | (k_end; wrow_close) | ((with_reducible show wpAny _ _ (call (Value.ref _) _) _ _ _); (first | (k_here; (try dsimp only [List.cons_append, List.nil_append]); (with_reducible show wpAny _ _ (call (Value.ref 59) [_, _, _]) _ _ _); k_dflt (refine' nag04_use (by k_asm) (by k_asm) (by k_asm) (by k_asm) (by exact rfl) (by k_asm) (by ktr_room) (by ktr_units) ?_; k_whole); intro _ _ _ _ _ _ _ _ _ _ _ _; (try k_sweep)) | (k_here; (try dsimp only [List.cons_append, List.nil_append]); (with_reducible show wpAny _ _ (call (Value.ref 121) [Value.ref _, Value.ref _]) _ _ _); k_dflt (refine' nl04_use (by k_asm) (by k_asm) (by k_asm) (by k_asm) (by exact rfl) (by k_asm) (by k_mem) (by k_mem) (by k_mem) (by k_mem) (by k_mem) (by k_mem) (by k_mem) (by k_mem) (by assumption) (by assumption) (by omega) (by omega) (by omega) (by omega) (by omega) (by omega) (by omega) (by omega) (by assumption) (by assumption) (by omega) (by omega) (by omega) (by omega) (by omega) (by omega) (by omega) (by omega) (by ktr_room) (by ktr_units) ?_; k_whole); intro _ _ _ _ _ _ _ _ _; (try k_sweep)) | (k_here; (try dsimp only [List.cons_append, List.nil_append]); (with_reducible show wpAny _ _ (call (Value.ref 114) [Value.ref _, Value.ref _]) _ _ _); k_dflt (refine' ls04_use (by k_asm) (by k_asm) (by k_asm) (by k_asm) (by exact rfl) (by k_asm) (by k_mem) (by k_mem) (by k_mem) (by k_mem) (by k_mem) (by k_mem) (by k_mem) (by k_mem) (by assumption) (by assumption) (by omega) (by omega) (by omega) (by omega) (by omega) (by omega) (by omega) (by omega) (by assumption) (by assumption) (by omega) (by omega) (by omega) (by omega) (by omega) (by omega) (by omega) (by omega) (by ktr_room) (by ktr_units) ?_; k_whole); intro _ _ _ _; (try k_sweep)) | (k_here; (try dsimp only [List.cons_append, List.nil_append]); (with_reducible show wpAny _ _ (call (Value.ref 124) [Value.str _ _]) _ _ _); k_dflt (refine' ws04_use (by k_asm) (by k_asm) (by k_asm) (by k_asm) (by k_asm) (by exact rfl) (by first | assumption | omega) (by ktr_room) (by ktr_units) ?_; k_whole); intro _ _ _ _ _ _ _ _ _ _ _ _ _ _ _ _ _ _ _ _; walk_at "L3"; (try k_sweep)) | (k_here; (try dsimp only [List.cons_append, List.nil_append]); (with_reducible show wpAny _ _ (call (Value.ref 86) [Value.ref _]) _ _ _); k_dflt (refine' lr04_use (by k_asm) (by k_asm) (by k_asm) (by k_asm) (by exact rfl) (by k_asm) (by k_mem) (by k_mem) (by k_mem) (by k_mem) (by assumption) (by omega) (by omega) (by omega) (by omega) (by ktr_room) (by ktr_units) ?_; k_whole); intro _ _ _ _ _; (try k_sweep)) | (k_here; (try dsimp only [List.cons_append, List.nil_append]); (with_reducible show wpAny _ _ (call (Value.ref 93) [Value.ref _, Value.int _ _]) _ _ _); k_dflt (refine' il04_use (by k_asm) (by k_asm) (by k_asm) (by k_asm) (by exact rfl) (by k_asm) (by k_mem) (by k_mem) (by k_mem) (by k_mem) (by assumption) (by omega) (by omega) (by omega) (by omega) (by assumption) (by omega) (by omega) (by omega) (by omega) (by omega) (by omega) (by ktr_room) (by ktr_units) ?_; k_whole); intro _ _ _ _ _; (try k_sweep)))) | walk1 | (dsimp only; walk1) | (leave1; walk_say "STEP leave1"; try dsimp only) | fail "no step"))
    · rename Fr g L' _ _ => FZ
      rename News g L' _ _ => NZ
      rename lessV _ _ _ _ _ _ _ _ _ _ = true => ne9
      rename IntsAre _ (wsOf (ts.getD (st + i + 1) ⟨#[]⟩)).1 => hI9
      rename (_ < _ ∧ _ < _ ∧ _ < _) => l29
      obtain ⟨mz, FZ2, hmz⟩ : ∃ mz, Fr g L' _ mz ∧ mz = _ := ⟨_, FZ, rfl⟩
      refine' ⟨⟨_, _, _, _, _, ts.getD (st + i + 1) ⟨#[]⟩, _, _, _, _, _, _, _, _, _, mz⟩, _, _, _, rfl, FZ2, news_sub NZ (List.forall_mem_cons.mpr ⟨.head _, List.forall_mem_cons.mpr ⟨.tail _ (.head _), List.forall_mem_cons.mpr ⟨.tail _ (.tail _ (.head _)), List.forall_mem_cons.mpr ⟨.tail _ (.tail _ (.tail _ (.head _))), List.forall_mem_cons.mpr ⟨.tail _ (.tail _ (.tail _ (.tail _ (.tail _ (.tail _ (.tail _ (.tail _ (.head _)))))))), List.forall_mem_cons.mpr ⟨.tail _ (.tail _ (.tail _ (.tail _ (.tail _ (.tail _ (.tail _ (.tail _ (.tail _ (.head _))))))))), List.forall_mem_cons.mpr ⟨.tail _ (.tail _ (.tail _ (.tail _ (.tail _ (.tail _ (.tail _ (.tail _ (.tail _ (.tail _ (.head _)))))))))), List.forall_mem_nil _⟩⟩⟩⟩⟩⟩⟩), ?map9, ?off9, ⟨rfl, hI9, ?b0, l29.1, l29.2.1, l29.2.2, ?up9⟩⟩
      case map9 =>
        intro z hz
        simp only [mpK]
        by_cases h1 : z = Str.ofString "old"
        · simp only [hmz, h1, if_true]
        · cases h2 : storedK.contains z
          · obtain ⟨z1, z2⟩ := offK h2
            simp only [hmz, h1, hz, z1, z2, h2, if_false, Bool.false_eq_true]
          · simp only [h1, if_true, if_false]
      case off9 =>
        have hz2 := hoff (130, tabObj ps) (.tail _ (.tail _ (.tail _ (.tail _ (.head _)))))
        have hz3 := hoff (D, W.listOf vs.toArray ep) (.tail _ (.tail _ (.tail _ (.tail _ (.tail _ (.head _))))))
        refine List.forall_mem_cons.mpr ⟨?_, List.forall_mem_cons.mpr ⟨?_, List.forall_mem_cons.mpr ⟨?_, List.forall_mem_cons.mpr ⟨?_, List.forall_mem_cons.mpr ⟨hz2, List.forall_mem_cons.mpr ⟨hz3, List.forall_mem_nil _⟩⟩⟩⟩⟩⟩
        all_goals (apply neN; dsimp only; omega)
      case b0 => (dsimp only; omega)
      case up9 =>
        intro j hj
        by_cases h : j < i
        · exact e6 j h
        · rw [show j = i by omega]
          unfold lessS
          rw [← e1]
          exact ne9
    · rename Fr g L' _ _ => FZ
      rename News g L' _ _ => NZ
      rename lessV _ _ _ _ _ _ _ _ _ _ = false => ne9
      rename List.map WRow.val _ = _ => hW
      rename List WRow => rows
      simp only [List.cons_append, List.nil_append] at NZ
      obtain ⟨w1, w2⟩ := rows_bd hW
      have hrl := runs2_le f1 f2 g1 g2
      have w3 : ∀ r ∈ rows, 1 ≤ r.ts ∧ r.ts ≤ 1000 := fun r hr => ⟨(w2 r hr).1, Int.le_trans (w2 r hr).2 (Int.ofNat_le.mpr hrl)⟩
      have w4 : rows.length ≤ 1000 := Nat.le_trans w1 hrl
      have o1 := neN (Nat.ne_of_lt e10)
      have o2 := neN (Nat.ne_of_lt (Nat.lt_trans e10 e3))
      have o3 := neN (Nat.ne_of_lt (Nat.lt_trans (Nat.lt_trans e10 e3) e4))
      have o4 := neN (Nat.ne_of_lt (Nat.lt_trans (Nat.lt_trans (Nat.lt_trans e10 e3) e4) e5))
      rename (∀ (p : Addr × Obj), p ∈ _ → p.fst ≠ _) => off9
      have hD9 := neN (Ne.symm (off9 (130, tabObj ps) (by k_mem)))
      have hI9 := neN (Ne.symm (hoff (130, tabObj ps) (.tail _ (.tail _ (.tail _ (.tail _ (.head _)))))))
      have hrow : ∀ p ∈ rows.map WRow.ent, p.1 ≠ 130 := by
        intro p hp e
        have z1 := (NZ p (by repeat first | exact hp | apply List.Mem.tail)).1
        have z2 := (NZ (130, tabObj ps) (by k_mem)).1
        obtain ⟨r, hr, rfl⟩ := List.mem_map.mp hp
        rw [e, z2] at z1
        simp [tabObj] at z1
      have hfl := fw_len (rows.map fun r => numTx r.ts) (rows_sum w3 w4) (by rw [List.length_map]; exact w4)
      k_dflt (refine' fw04_use (ts := rows.map fun r => numTx r.ts) (objs := rows.map WRow.ent) ?B ?F ?X ?N ?T ?hk hck hf hG ?U ?hD (rows_in w3) ?hsub (by rw [List.length_map]; exact w4) (rows_sum w3 w4) ?hd ?hu ?_; (case B => k_asm); (case F => k_asm); (case X => k_asm); (case N => exact NZ); (case T => k_asm); (case hk => exact rfl); (case U => (intro ps'; k_upd)); (case hD => exact .inl ⟨_, .head _⟩); (case hsub => (intro p hp; repeat first | exact hp | apply List.Mem.tail)); (case hd => ktr_room); (case hu => ktr_units); k_whole)
      intro h7 gs7 tk7 ps7 t7 F8 N8 hf7 hG7
      clear FZ NZ
      (try dsimp only)
      (try k_fold)
      (repeat' ((fail_if_success (with_reducible show wpAny _ _ (pyIter _) _ _ _)); (fail_if_success (with_reducible show wpAny _ _ (exec (Stmt.Raise _ _ _) _) _ _ _)); (fail_if_success (with_reducible show wpAny _ _ (leaving _ _) _ _ _)); (fail_if_success (with_reducible show wpAny _ _ (call (Value.ref 135) _) _ _ _)); first | (k_unfold; (try dsimp only)) | (k_end; wrow_close) | ((with_reducible show wpAny _ _ (call (Value.ref _) _) _ _ _); (first | (k_here; (try dsimp only [List.cons_append, List.nil_append]); (with_reducible show wpAny _ _ (call (Value.ref 59) [_, _, _]) _ _ _); k_dflt (refine' nag04_use (by k_asm) (by k_asm) (by k_asm) (by k_asm) (by exact rfl) (by k_asm) (by ktr_room) (by ktr_units) ?_; k_whole); intro _ _ _ _ _ _ _ _ _ _ _ _; (try k_sweep)) | (k_here; (try dsimp only [List.cons_append, List.nil_append]); (with_reducible show wpAny _ _ (call (Value.ref 121) [Value.ref _, Value.ref _]) _ _ _); k_dflt (refine' nl04_use (by k_asm) (by k_asm) (by k_asm) (by k_asm) (by exact rfl) (by k_asm) (by k_mem) (by k_mem) (by k_mem) (by k_mem) (by k_mem) (by k_mem) (by k_mem) (by k_mem) (by assumption) (by assumption) (by omega) (by omega) (by omega) (by omega) (by omega) (by omega) (by omega) (by omega) (by assumption) (by assumption) (by omega) (by omega) (by omega) (by omega) (by omega) (by omega) (by omega) (by omega) (by ktr_room) (by ktr_units) ?_; k_whole); intro _ _ _ _ _ _ _ _ _; (try k_sweep)) | (k_here; (try dsimp only [List.cons_append, List.nil_append]); (with_reducible show wpAny _ _ (call (Value.ref 114) [Value.ref _, Value.ref _]) _ _ _); k_dflt (refine' ls04_use (by k_asm) (by k_asm) (by k_asm) (by k_asm) (by exact rfl) (by k_asm) (by k_mem) (by k_mem) (by k_mem) (by k_mem) (by k_mem) (by k_mem) (by k_mem) (by k_mem) (by assumption) (by assumption) (by omega) (by omega) (by omega) (by omega) (by omega) (by omega) (by omega) (by omega) (by assumption) (by assumption) (by omega) (by omega) (by omega) (by omega) (by omega) (by omega) (by omega) (by omega) (by ktr_room) (by ktr_units) ?_; k_whole); intro _ _ _ _; (try k_sweep)) | (k_here; (try dsimp only [List.cons_append, List.nil_append]); (with_reducible show wpAny _ _ (call (Value.ref 124) [Value.str _ _]) _ _ _); k_dflt (refine' ws04_use (by k_asm) (by k_asm) (by k_asm) (by k_asm) (by k_asm) (by exact rfl) (by first | assumption | omega) (by ktr_room) (by ktr_units) ?_; k_whole); intro _ _ _ _ _ _ _ _ _ _ _ _ _ _ _ _ _ _ _ _; walk_at "L3"; (try k_sweep)) | (k_here; (try dsimp only [List.cons_append, List.nil_append]); (with_reducible show wpAny _ _ (call (Value.ref 86) [Value.ref _]) _ _ _); k_dflt (refine' lr04_use (by k_asm) (by k_asm) (by k_asm) (by k_asm) (by exact rfl) (by k_asm) (by k_mem) (by k_mem) (by k_mem) (by k_mem) (by assumption) (by omega) (by omega) (by omega) (by omega) (by ktr_room) (by ktr_units) ?_; k_whole); intro _ _ _ _ _; (try k_sweep)) | (k_here; (try dsimp only [List.cons_append, List.nil_append]); (with_reducible show wpAny _ _ (call (Value.ref 93) [Value.ref _, Value.int _ _]) _ _ _); k_dflt (refine' il04_use (by k_asm) (by k_asm) (by k_asm) (by k_asm) (by exact rfl) (by k_asm) (by k_mem) (by k_mem) (by k_mem) (by k_mem) (by assumption) (by omega) (by omega) (by omega) (by omega) (by assumption) (by omega) (by omega) (by omega) (by omega) (by omega) (by omega) (by ktr_room) (by ktr_units) ?_; k_whole); intro _ _ _ _ _; (try k_sweep)))) | walk1 | (dsimp only; walk1) | (leave1; walk_say "STEP leave1"; try dsimp only) | fail "no step"))
      refine Raise_inst (C := 59) (nm := nm) (q := q) (N := 58) (bs := bs9) (hdct := true) (sn := sn) (sub := sub) (ab := ab) (col := col) (dd := dd) (k0 := k0) (k1 := k1) (k2 := k2) (k3 := k3) (k5 := k5) (newId := "Exception.__new__") rfl ?_
      (repeat' ((fail_if_success (with_reducible show wpAny _ _ (pyIter _) _ _ _)); (fail_if_success (with_reducible show wpAny _ _ (exec (Stmt.Raise _ _ _) _) _ _ _)); (fail_if_success (with_reducible show wpAny _ _ (leaving _ _) _ _ _)); (fail_if_success (with_reducible show wpAny _ _ (call (Value.ref 135) _) _ _ _)); first | (k_unfold; (try dsimp only)) | (k_end; wrow_close) | ((with_reducible show wpAny _ _ (call (Value.ref _) _) _ _ _); (first | (k_here; (try dsimp only [List.cons_append, List.nil_append]); (with_reducible show wpAny _ _ (call (Value.ref 59) [_, _, _]) _ _ _); k_dflt (refine' nag04_use (by k_asm) (by k_asm) (by k_asm) (by k_asm) (by exact rfl) (by k_asm) (by ktr_room) (by ktr_units) ?_; k_whole); intro _ _ _ _ _ _ _ _ _ _ _ _; (try k_sweep)) | (k_here; (try dsimp only [List.cons_append, List.nil_append]); (with_reducible show wpAny _ _ (call (Value.ref 121) [Value.ref _, Value.ref _]) _ _ _); k_dflt (refine' nl04_use (by k_asm) (by k_asm) (by k_asm) (by k_asm) (by exact rfl) (by k_asm) (by k_mem) (by k_mem) (by k_mem) (by k_mem) (by k_mem) (by k_mem) (by k_mem) (by k_mem) (by assumption) (by assumption) (by omega) (by omega) (by omega) (by omega) (by omega) (by omega) (by omega) (by omega) (by assumption) (by assumption) (by omega) (by omega) (by omega) (by omega) (by omega) (by omega) (by omega) (by omega) (by ktr_room) (by ktr_units) ?_; k_whole); intro _ _ _ _ _ _ _ _ _; (try k_sweep)) | (k_here; (try dsimp only [List.cons_append, List.nil_append]); (with_reducible show wpAny _ _ (call (Value.ref 114) [Value.ref _, Value.ref _]) _ _ _); k_dflt (refine' ls04_use (by k_asm) (by k_asm) (by k_asm) (by k_asm) (by exact rfl) (by k_asm) (by k_mem) (by k_mem) (by k_mem) (by k_mem) (by k_mem) (by k_mem) (by k_mem) (by k_mem) (by assumption) (by assumption) (by omega) (by omega) (by omega) (by omega) (by omega) (by omega) (by omega) (by omega) (by assumption) (by assumption) (by omega) (by omega) (by omega) (by omega) (by omega) (by omega) (by omega) (by omega) (by ktr_room) (by ktr_units) ?_; k_whole); intro _ _ _ _; (try k_sweep)) | (k_here; (try dsimp only [List.cons_append, List.nil_append]); (with_reducible show wpAny _ _ (call (Value.ref 124) [Value.str _ _]) _ _ _); k_dflt (refine' ws04_use (by k_asm) (by k_asm) (by k_asm) (by k_asm) (by k_asm) (by exact rfl) (by first | assumption | omega) (by ktr_room) (by ktr_units) ?_; k_whole); intro _ _ _ _ _ _ _ _ _ _ _ _ _ _ _ _ _ _ _ _; walk_at "L3"; (try k_sweep)) | (k_here; (try dsimp only [List.cons_append, List.nil_append]); (with_reducible show wpAny _ _ (call (Value.ref 86) [Value.ref _]) _ _ _); k_dflt (refine' lr04_use (by k_asm) (by k_asm) (by k_asm) (by k_asm) (by exact rfl) (by k_asm) (by k_mem) (by k_mem) (by k_mem) (by k_mem) (by assumption) (by omega) (by omega) (by omega) (by omega) (by ktr_room) (by ktr_units) ?_; k_whole); intro _ _ _ _ _; (try k_sweep)) | (k_here; (try dsimp only [List.cons_append, List.nil_append]); (with_reducible show wpAny _ _ (call (Value.ref 93) [Value.ref _, Value.int _ _]) _ _ _); k_dflt (refine' il04_use (by k_asm) (by k_asm) (by k_asm) (by k_asm) (by exact rfl) (by k_asm) (by k_mem) (by k_mem) (by k_mem) (by k_mem) (by assumption) (by omega) (by omega) (by omega) (by omega) (by assumption) (by omega) (by omega) (by omega) (by omega) (by omega) (by omega) (by ktr_room) (by ktr_units) ?_; k_whole); intro _ _ _ _ _; (try k_sweep)))) | walk1 | (dsimp only; walk1) | (leave1; walk_say "STEP leave1"; try dsimp only) | fail "no step"))
      all_goals rename Fr g L' _ _ => FY
      all_goals rename News g L' _ _ => NY
      all_goals rename_i x9 dx9 t9 od9 h9 _ hD9' lt9 l28 l39
      · exact (X'.keeps FY.keep) _ _ hC
      · exact ⟨_, _, NY.get (.head _), rfl, rfl, rfl⟩
      have l130 : (130 : Nat) < t9 := lt9 (130, tabObj ps7) (by k_mem)
      have lD : D < t9 := lt9 (D, W.listOf vs.toArray ep) (by k_mem)
      refine leaveP_first (C := 59) (dx := dx9) (own := [(dx9, od9), (130, tabObj ps7), (D, W.listOf vs.toArray ep)]) rfl rfl rfl B' FY NY (fun b o e hb => stG b o e hb) (.head _) ⟨rfl, rfl, _, rfl, rfl⟩ rfl rfl ?hown fun h' al => ?_
      case hown =>
        refine List.forall_mem_cons.mpr ⟨⟨.tail _ (.head _), Nat.ne_of_gt l39⟩, List.forall_mem_cons.mpr ⟨⟨by k_mem, Nat.ne_of_lt (Nat.lt_trans l130 l28)⟩, List.forall_mem_cons.mpr ⟨⟨by k_mem, Nat.ne_of_lt (Nat.lt_trans lD l28)⟩, List.forall_mem_nil _⟩⟩⟩
      have e12 : ((st : Int) + 1 + (i : Int) + 1) = ((st + i + 1 : Nat) : Int) + 1 := by omega
      rw [e12] at hD9'
      refine hexc x9 dx9 od9 ps7 h' _ gs7 (st + i + 1) i _ _ _ _ al hD9' hf7 hG7 ?hnew (Nat.ne_of_lt l39) rfl hik e6 ?hneq
      case hnew =>
        intro b o e
        by_cases hb : b ∈ [(130 : Nat), D]
        · rcases List.mem_cons.mp hb with rfl | hb
          · exact ⟨Nat.ne_of_lt (Nat.lt_trans l130 (Nat.lt_trans l28 l39)), Nat.ne_of_lt (Nat.lt_trans l130 l28)⟩
          · rw [List.mem_singleton.mp hb]
            exact ⟨Nat.ne_of_lt (Nat.lt_trans lD (Nat.lt_trans l28 l39)), Nat.ne_of_lt (Nat.lt_trans lD l28)⟩
        · have h1 := stG b o e hb
          refine ⟨fun q => ?_, fun q => ?_⟩
          · have h2 := (NY _ (.tail _ (.head _))).2.2
            rw [q] at h1
            exact absurd (h1.symm.trans h2) (by simp)
          · have h2 := (NY _ (.head _)).2.2
            rw [q] at h1
            exact absurd (h1.symm.trans h2) (by simp)
      case hneq =>
        unfold lessS
        rw [← e1]
        exact ne9

open PySem PySem.W PyProof.Rows


def colStep (sz c : Int) (k : Nat) : Int := if k = 32 then c + 1 else if k = 9 then (c.fdiv sz + 1) * sz else c
def colAt (sz : Int) (l : List Nat) : Int := l.foldl (colStep sz) 0
def colsOf (x : Str) : List Int := (List.range 7).map fun (i : Nat) => colAt (1 + (i : Int)) x.cps.toList
theorem colAt_snoc (sz : Int) (l : List Nat) (k : Nat) : colAt sz (l ++ [k]) = colStep sz (colAt sz l) k := by
  unfold colAt; rw [List.foldl_append]; rfl
theorem col_tab {sz c : Int} (h1 : 1 ≤ sz) (h2 : sz ≤ 7) (hc : 0 ≤ c) : 0 ≤ (c.fdiv sz + 1) * sz ∧ (c.fdiv sz + 1) * sz ≤ c + 7 := by
  have e := Int.mul_fdiv_add_fmod c sz
  have f1 := Int.fmod_nonneg_of_pos c (show 0 < sz by omega)
  have f2 := Int.fmod_lt_of_pos c (show 0 < sz by omega)
  have q : (c.fdiv sz + 1) * sz = sz * c.fdiv sz + sz := by rw [Int.add_mul, Int.one_mul, Int.mul_comm]
  omega
abbrev storedT : List Str := [Str.ofString "column", Str.ofString "letter"]
abbrev mpT (m0 : Str → Option Value) (u : Str → Option Value) (y : Str) : Option Value := if storedT.contains y then u y else m0 y
theorem offT {z : Str} (h : storedT.contains z = false) : z ≠ Str.ofString "column" ∧ z ≠ Str.ofString "letter" := by
  simp only [storedT, List.contains_cons, List.contains_nil, Bool.or_false, Bool.or_eq_false_iff, beq_eq_false_iff_ne, ne_eq] at h
  exact h
structure ST where
  ep : Nat
  vs : List Value
  u : Str → Option Value
theorem cols04 (w : World) (mean : ExcName → Option Value) (mg mb : Str → Option Value) :
  ∀ (dp un : Nat) (gd : Option (List Code)) (cn : Str) (cs : Scope) (a : Addr) (ccd : Value) (cl : List (Str × Addr)) (outer : List Env) (A₀ : Around) (base h₀ : Heap) (L : Addr) (m : Str → Option Value) (s : Shared) (x : Str) (t : Tok) (Q E : Value → Shared → Prop),
    Below A₀ base outer h₀ → Fr h₀ L s.heap m → (hd04.heap_39 w.params).In h₀ → Top topProg (looseW hd04.view_39 [Str.ofString "Whitespace"] ++ (recsOf hd04.view_39).map (·.name) ++ (litsOf hd04.view_39).map (·.1) ++ (clssOf hd04.view_39 (looseW hd04.view_39 [Str.ofString "Whitespace"])).map (·.name)) mean mg mb h₀ → cs.kind = .function →
    x.length ≤ 100 → dp + 10 < recursionLimit → un + 80 < cLine →
    (∀ (D ep : Nat) (vs : List Value) tk h', Fr h₀ L h' m → s.heap.StaysIn h' → News h₀ L h' [(D, W.listOf vs.toArray ep)] → IntsAre vs (colsOf x) → (∀ b o, s.heap.get? b = some o → b ≠ D) → Q (.ref D) { s with heap := h', toks := tk }) →
    wpAny (model Challenge.rw_dn0186_04.row.prog w) (ktrTop dp un gd cn cs L a ccd cl outer) (call (.ref 149) [.str x t]) Q E s := by
  k_fill
  intro dp un gd cn cs a ccd cl outer A₀ base h₀ L m s x t Q E B F X T hk hlen hd hu hret
  have N : News h₀ L s.heap [] := News.nil
  refine wpAny_call ?_
  (k_dflt (refine' code_defH ?k1zq ?k2zq ?k3zq ?k4zq ?k5zq ?kAzq ?kFzq ?kKzq ?k6zq ?k7zq ?k8zq ?k9zq ?kBzq ?_ ?c2zq ?c3zq ?c4zq ?c5zq; (case kAzq => exact rfl); (case kFzq => exact rfl); (case kKzq => assumption); (case k1zq => k_asm); (case k2zq => k_asm); (case k3zq => k_asm); (case k4zq => k_asm); (case k5zq => k_asm); (case k6zq => k_is); (case k7zq => k_is); (case k8zq => ktr_room); (case k9zq => exact BindsTo.of_eq rfl); (case c5zq => decide); (case kBzq => exact locs rfl); (case c2zq => exact rfl); (case c3zq => exact rfl); (case c4zq => exact rfl); k_whole))
  intro g L' hh1 stG hszL FG' F' N' B' X' T'
  (try dsimp only)
  (try k_fold)
  w_on
  (repeat' ((fail_if_success (with_reducible show wpAny _ _ (pyIter _) _ _ _)); (fail_if_success (with_reducible show wpAny _ _ (compareOp CmpOp.NotEq (Value.ref _) (Value.ref _)) _ _ _)); (fail_if_success (with_reducible show wpAny _ _ (compareOp CmpOp.Eq (Value.ref _) (Value.ref _)) _ _ _)); (fail_if_success (with_reducible show wpAny _ _ (exec (Stmt.While _ _ _ _) _) _ _ _)); (fail_if_success (with_reducible show LCg.CompSrc _ _ _ _ _ _ _ _ _ _ _ _ _ _)); first | (k_unfold; (try dsimp only)) | (k_end; wrow_close) | ((with_reducible show wpAny _ _ (call (Value.ref _) _) _ _ _); (first | (k_here; (try dsimp only [List.cons_append, List.nil_append]); (with_reducible show wpAny _ _ (call (Value.ref 59) [_, _, _]) _ _ _); k_dflt (refine' nag04_use (by k_asm) (by k_asm) (by k_asm) (by k_asm) (by exact rfl) (by k_asm) (by ktr_room) (by ktr_units) ?_; k_whole); intro _ _ _ _ _ _ _ _ _ _ _ _; (try k_sweep)) | (k_here; (try dsimp only [List.cons_append, List.nil_append]); (with_reducible show wpAny _ _ (call (Value.ref 121) [Value.ref _, Value.ref _]) _ _ _); k_dflt (refine' nl04_use (by k_asm) (by k_asm) (by k_asm) (by k_asm) (by exact rfl) (by k_asm) (by k_mem) (by k_mem) (by k_mem) (by k_mem) (by k_mem) (by k_mem) (by k_mem) (by k_mem) (by assumption) (by assumption) (by omega) (by omega) (by omega) (by omega) (by omega) (by omega) (by omega) (by omega) (by assumption) (by assumption) (by omega) (by omega) (by omega) (by omega) (by omega) (by omega) (by omega) (by omega) (by ktr_room) (by ktr_units) ?_; k_whole); intro _ _ _ _ _ _ _ _ _; (try k_sweep)) | (k_here; (try dsimp only [List.cons_append, List.nil_append]); (with_reducible show wpAny _ _ (call (Value.ref 114) [Value.ref _, Value.ref _]) _ _ _); k_dflt (refine' ls04_use (by k_asm) (by k_asm) (by k_asm) (by k_asm) (by exact rfl) (by k_asm) (by k_mem) (by k_mem) (by k_mem) (by k_mem) (by k_mem) (by k_mem) (by k_mem) (by k_mem) (by assumption) (by assumption) (by omega) (by omega) (by omega) (by omega) (by omega) (by omega) (by omega) (by omega) (by assumption) (by assumption) (by omega) (by omega) (by omega) (by omega) (by omega) (by omega) (by omega) (by omega) (by ktr_room) (by ktr_units) ?_; k_whole); intro _ _ _ _; (try k_sweep)) | (k_here; (try dsimp only [List.cons_append, List.nil_append]); (with_reducible show wpAny _ _ (call (Value.ref 124) [Value.str _ _]) _ _ _); k_dflt (refine' ws04_use (by k_asm) (by k_asm) (by k_asm) (by k_asm) (by k_asm) (by exact rfl) (by first | assumption | omega) (by ktr_room) (by ktr_units) ?_; k_whole); intro _ _ _ _ _ _ _ _ _ _ _ _ _ _ _ _ _ _ _ _; walk_at "L3"; (try k_sweep)) | (k_here; (try dsimp only [List.cons_append, List.nil_append]); (with_reducible show wpAny _ _ (call (Value.ref 86) [Value.ref _]) _ _ _); k_dflt (refine' lr04_use (by k_asm) (by k_asm) (by k_asm) (by k_asm) (by exact rfl) (by k_asm) (by k_mem) (by k_mem) (by k_mem) (by k_mem) (by assumption) (by omega) (by omega) (by omega) (by omega) (by ktr_room) (by ktr_units) ?_; k_whole); intro _ _ _ _ _; (try k_sweep)) | (k_here; (try dsimp only [List.cons_append, List.nil_append]); (with_reducible show wpAny _ _ (call (Value.ref 93) [Value.ref _, Value.int _ _]) _ _ _); k_dflt (refine' il04_use (by k_asm) (by k_asm) (by k_asm) (by k_asm) (by exact rfl) (by k_asm) (by k_mem) (by k_mem) (by k_mem) (by k_mem) (by assumption) (by omega) (by omega) (by omega) (by omega) (by assumption) (by omega) (by omega) (by omega) (by omega) (by omega) (by omega) (by ktr_room) (by ktr_units) ?_; k_whole); intro _ _ _ _ _; (try k_sweep)))) | walk1 | (dsimp only; walk1) | (leave1; walk_say "STEP leave1"; try dsimp only) | fail "no step"))
  rename Fr g L' _ _ => F5
  rename News g L' _ _ => N5
  rename IsRange _ _ _ _ _ _ _ _ => hR5
  obtain ⟨mr, hmr, F6⟩ : ∃ (mr : Str → Option Value), mr = _ ∧ Fr _ _ _ mr := ⟨_, rfl, F5⟩
  rename_i D _ _ _ _ _ _ _ _ _ _ _
  have hx0 : x.cps.toList.length ≤ 100 := by rw [Array.length_toList]; exact hlen
  refine' range_led (σ := ST) (n := 7) (fun c => mpT mr c.u) (fun c => [(D, W.listOf c.vs.toArray c.ep)]) (fun i c => IntsAre c.vs ((List.range i).map fun (j : Nat) => colAt (1 + (j : Int)) x.cps.toList)) (fun c => IntsAre c.vs (colsOf x)) ⟨0, [], mr⟩ rfl hR5 (small_one (by omega) (by omega) (by omega) (by omega)) ?hK F6 N5 (fun p hp => hp) ?hmap .nil ?hturn (fun _ h => h) ?hdone
  case hK => rw [rsizeAB]; rfl
  case hmap =>
    intro z hz
    simp only [mpT]
    split <;> rfl
  case hdone =>
    subst hmr
    rintro c9 u8 h9 tk' e1 F7 N7
    dsimp only [mpT] at F7
    (try k_fold)
    (repeat' ((fail_if_success (with_reducible show wpAny _ _ (pyIter _) _ _ _)); (fail_if_success (with_reducible show wpAny _ _ (compareOp CmpOp.NotEq (Value.ref _) (Value.ref _)) _ _ _)); (fail_if_success (with_reducible show wpAny _ _ (compareOp CmpOp.Eq (Value.ref _) (Value.ref _)) _ _ _)); (fail_if_success (with_reducible show wpAny _ _ (exec (Stmt.While _ _ _ _) _) _ _ _)); (fail_if_success (with_reducible show LCg.CompSrc _ _ _ _ _ _ _ _ _ _ _ _ _ _)); first | (k_unfold; (try dsimp only)) | (k_end; wrow_close) | ((with_reducible show wpAny _ _ (call (Value.ref _) _) _ _ _); (first | (k_here; (try dsimp only [List.cons_append, List.nil_append]); (with_reducible show wpAny _ _ (call (Value.ref 59) [_, _, _]) _ _ _); k_dflt (refine' nag04_use (by k_asm) (by k_asm) (by k_asm) (by k_asm) (by exact rfl) (by k_asm) (by ktr_room) (by ktr_units) ?_; k_whole); intro _ _ _ _ _ _ _ _ _ _ _ _; (try k_sweep)) | (k_here; (try dsimp only [List.cons_append, List.nil_append]); (with_reducible show wpAny _ _ (call (Value.ref 121) [Value.ref _, Value.ref _]) _ _ _); k_dflt (refine' nl04_use (by k_asm) (by k_asm) (by k_asm) (by k_asm) (by exact rfl) (by k_asm) (by k_mem) (by k_mem) (by k_mem) (by k_mem) (by k_mem) (by k_mem) (by k_mem) (by k_mem) (by assumption) (by assumption) (by omega) (by omega) (by omega) (by omega) (by omega) (by omega) (by omega) (by omega) (by assumption) (by assumption) (by omega) (by omega) (by omega) (by omega) (by omega) (by omega) (by omega) (by omega) (by ktr_room) (by ktr_units) ?_; k_whole); intro _ _ _ _ _ _ _ _ _; (try k_sweep)) | (k_here; (try dsimp only [List.cons_append, List.nil_append]); (with_reducible show wpAny _ _ (call (Value.ref 114) [Value.ref _, Value.ref _]) _ _ _); k_dflt (refine' ls04_use (by k_asm) (by k_asm) (by k_asm) (by k_asm) (by exact rfl) (by k_asm) (by k_mem) (by k_mem) (by k_mem) (by k_mem) (by k_mem) (by k_mem) (by k_mem) (by k_mem) (by assumption) (by assumption) (by omega) (by omega) (by omega) (by omega) (by omega) (by omega) (by omega) (by omega) (by assumption) (by assumption) (by omega) (by omega) (by omega) (by omega) (by omega) (by omega) (by omega) (by omega) (by ktr_room) (by ktr_units) ?_; k_whole); intro _ _ _ _; (try k_sweep)) | (k_here; (try dsimp only [List.cons_append, List.nil_append]); (with_reducible show wpAny _ _ (call (Value.ref 124) [Value.str _ _]) _ _ _); k_dflt (refine' ws04_use (by k_asm) (by k_asm) (by k_asm) (by k_asm) (by k_asm) (by exact rfl) (by first | assumption | omega) (by ktr_room) (by ktr_units) ?_; k_whole); intro _ _ _ _ _ _ _ _ _ _ _ _ _ _ _ _ _ _ _ _; walk_at "L3"; (try k_sweep)) | (k_here; (try dsimp only [List.cons_append, List.nil_append]); (with_reducible show wpAny _ _ (call (Value.ref 86) [Value.ref _]) _ _ _); k_dflt (refine' lr04_use (by k_asm) (by k_asm) (by k_asm) (by k_asm) (by exact rfl) (by k_asm) (by k_mem) (by k_mem) (by k_mem) (by k_mem) (by assumption) (by omega) (by omega) (by omega) (by omega) (by ktr_room) (by ktr_units) ?_; k_whole); intro _ _ _ _ _; (try k_sweep)) | (k_here; (try dsimp only [List.cons_append, List.nil_append]); (with_reducible show wpAny _ _ (call (Value.ref 93) [Value.ref _, Value.int _ _]) _ _ _); k_dflt (refine' il04_use (by k_asm) (by k_asm) (by k_asm) (by k_asm) (by exact rfl) (by k_asm) (by k_mem) (by k_mem) (by k_mem) (by k_mem) (by assumption) (by omega) (by omega) (by omega) (by omega) (by assumption) (by omega) (by omega) (by omega) (by omega) (by omega) (by omega) (by ktr_room) (by ktr_units) ?_; k_whole); intro _ _ _ _ _; (try k_sweep)))) | walk1 | (dsimp only; walk1) | (leave1; walk_say "STEP leave1"; try dsimp only) | fail "no step"))
    rename Fr h₀ L _ m => kF
    rename News h₀ L _ _ => kN
    refine hret D c9.ep c9.vs _ _ kF (fun b o e => F7.keep b o (stG b o e (by simp))) (news_sub kN fun p hp => hp) e1 (fun b o e q => ?_)
    have h1 := stG b o e (by simp)
    rw [q, (N7 _ (.head _)).2.2] at h1
    cases h1
  case hturn =>
    subst hmr
    rintro i t' ⟨ep, vs, u⟩ I oI h tk' hi e1 hoff F7 N7
    dsimp only at e1
    dsimp only [mpT] at F7
    simp only [List.cons_append, List.nil_append] at N7
    have hvl : vs.length ≤ 1000 := by rw [e1.length, List.length_map, List.length_range]; omega
    have hDI := neN (hoff _ (.head _))
    dsimp only at hDI
    (try k_fold)
    (repeat' ((fail_if_success (with_reducible show wpAny _ _ (pyIter _) _ _ _)); (fail_if_success (with_reducible show wpAny _ _ (compareOp CmpOp.NotEq (Value.ref _) (Value.ref _)) _ _ _)); (fail_if_success (with_reducible show wpAny _ _ (compareOp CmpOp.Eq (Value.ref _) (Value.ref _)) _ _ _)); (fail_if_success (with_reducible show wpAny _ _ (exec (Stmt.While _ _ _ _) _) _ _ _)); (fail_if_success (with_reducible show LCg.CompSrc _ _ _ _ _ _ _ _ _ _ _ _ _ _)); first | (k_unfold; (try dsimp only)) | (k_end; wrow_close) | ((with_reducible show wpAny _ _ (call (Value.ref _) _) _ _ _); (first | (k_here; (try dsimp only [List.cons_append, List.nil_append]); (with_reducible show wpAny _ _ (call (Value.ref 59) [_, _, _]) _ _ _); k_dflt (refine' nag04_use (by k_asm) (by k_asm) (by k_asm) (by k_asm) (by exact rfl) (by k_asm) (by ktr_room) (by ktr_units) ?_; k_whole); intro _ _ _ _ _ _ _ _ _ _ _ _; (try k_sweep)) | (k_here; (try dsimp only [List.cons_append, List.nil_append]); (with_reducible show wpAny _ _ (call (Value.ref 121) [Value.ref _, Value.ref _]) _ _ _); k_dflt (refine' nl04_use (by k_asm) (by k_asm) (by k_asm) (by k_asm) (by exact rfl) (by k_asm) (by k_mem) (by k_mem) (by k_mem) (by k_mem) (by k_mem) (by k_mem) (by k_mem) (by k_mem) (by assumption) (by assumption) (by omega) (by omega) (by omega) (by omega) (by omega) (by omega) (by omega) (by omega) (by assumption) (by assumption) (by omega) (by omega) (by omega) (by omega) (by omega) (by omega) (by omega) (by omega) (by ktr_room) (by ktr_units) ?_; k_whole); intro _ _ _ _ _ _ _ _ _; (try k_sweep)) | (k_here; (try dsimp only [List.cons_append, List.nil_append]); (with_reducible show wpAny _ _ (call (Value.ref 114) [Value.ref _, Value.ref _]) _ _ _); k_dflt (refine' ls04_use (by k_asm) (by k_asm) (by k_asm) (by k_asm) (by exact rfl) (by k_asm) (by k_mem) (by k_mem) (by k_mem) (by k_mem) (by k_mem) (by k_mem) (by k_mem) (by k_mem) (by assumption) (by assumption) (by omega) (by omega) (by omega) (by omega) (by omega) (by omega) (by omega) (by omega) (by assumption) (by assumption) (by omega) (by omega) (by omega) (by omega) (by omega) (by omega) (by omega) (by omega) (by ktr_room) (by ktr_units) ?_; k_whole); intro _ _ _ _; (try k_sweep)) | (k_here; (try dsimp only [List.cons_append, List.nil_append]); (with_reducible show wpAny _ _ (call (Value.ref 124) [Value.str _ _]) _ _ _); k_dflt (refine' ws04_use (by k_asm) (by k_asm) (by k_asm) (by k_asm) (by k_asm) (by exact rfl) (by first | assumption | omega) (by ktr_room) (by ktr_units) ?_; k_whole); intro _ _ _ _ _ _ _ _ _ _ _ _ _ _ _ _ _ _ _ _; walk_at "L3"; (try k_sweep)) | (k_here; (try dsimp only [List.cons_append, List.nil_append]); (with_reducible show wpAny _ _ (call (Value.ref 86) [Value.ref _]) _ _ _); k_dflt (refine' lr04_use (by k_asm) (by k_asm) (by k_asm) (by k_asm) (by exact rfl) (by k_asm) (by k_mem) (by k_mem) (by k_mem) (by k_mem) (by assumption) (by omega) (by omega) (by omega) (by omega) (by ktr_room) (by ktr_units) ?_; k_whole); intro _ _ _ _ _; (try k_sweep)) | (k_here; (try dsimp only [List.cons_append, List.nil_append]); (with_reducible show wpAny _ _ (call (Value.ref 93) [Value.ref _, Value.int _ _]) _ _ _); k_dflt (refine' il04_use (by k_asm) (by k_asm) (by k_asm) (by k_asm) (by exact rfl) (by k_asm) (by k_mem) (by k_mem) (by k_mem) (by k_mem) (by assumption) (by omega) (by omega) (by omega) (by omega) (by assumption) (by omega) (by omega) (by omega) (by omega) (by omega) (by omega) (by ktr_room) (by ktr_units) ?_; k_whole); intro _ _ _ _ _; (try k_sweep)))) | walk1 | (dsimp only; walk1) | (leave1; walk_say "STEP leave1"; try dsimp only) | fail "no step"))
    rename Fr g L' _ _ => F8
    rename News g L' _ _ => N8
    obtain ⟨mr2, hmr2, F9⟩ : ∃ (mr2 : Str → Option Value), mr2 = _ ∧ Fr _ _ _ (fun y => if y = Str.ofString "column" then _ else mr2 y) := ⟨_, rfl, F8⟩
    refine' text_led (σ := Int × Tok) (fun c y => if y = Str.ofString "column" then some (.int c.1 c.2) else mr2 y) (fun _ => [(D, W.listOf vs.toArray ep), (I, oI)]) (fun pre c => c.1 = colAt (1 + (i : Int)) pre ∧ 0 ≤ c.1 ∧ c.1 ≤ 8 * (pre.length : Int)) (fun c => c.1 = colAt (1 + (i : Int)) x.cps.toList) (0, _) rfl F9 N8 (fun p hp => hp) (fun z _ => rfl) ⟨rfl, by dsimp only; omega, by simp⟩ ?jturn (fun _ h => h.1) ?jdone
    case jdone =>
      subst hmr2
      rintro ⟨cc, tc⟩ u7 h7 tk7 e7 FA NA
      dsimp only at e7 FA
      (try k_fold)
      (repeat' ((fail_if_success (with_reducible show wpAny _ _ (pyIter _) _ _ _)); (fail_if_success (with_reducible show wpAny _ _ (compareOp CmpOp.NotEq (Value.ref _) (Value.ref _)) _ _ _)); (fail_if_success (with_reducible show wpAny _ _ (compareOp CmpOp.Eq (Value.ref _) (Value.ref _)) _ _ _)); (fail_if_success (with_reducible show wpAny _ _ (exec (Stmt.While _ _ _ _) _) _ _ _)); (fail_if_success (with_reducible show LCg.CompSrc _ _ _ _ _ _ _ _ _ _ _ _ _ _)); first | (k_unfold; (try dsimp only)) | (k_end; wrow_close) | ((with_reducible show wpAny _ _ (call (Value.ref _) _) _ _ _); (first | (k_here; (try dsimp only [List.cons_append, List.nil_append]); (with_reducible show wpAny _ _ (call (Value.ref 59) [_, _, _]) _ _ _); k_dflt (refine' nag04_use (by k_asm) (by k_asm) (by k_asm) (by k_asm) (by exact rfl) (by k_asm) (by ktr_room) (by ktr_units) ?_; k_whole); intro _ _ _ _ _ _ _ _ _ _ _ _; (try k_sweep)) | (k_here; (try dsimp only [List.cons_append, List.nil_append]); (with_reducible show wpAny _ _ (call (Value.ref 121) [Value.ref _, Value.ref _]) _ _ _); k_dflt (refine' nl04_use (by k_asm) (by k_asm) (by k_asm) (by k_asm) (by exact rfl) (by k_asm) (by k_mem) (by k_mem) (by k_mem) (by k_mem) (by k_mem) (by k_mem) (by k_mem) (by k_mem) (by assumption) (by assumption) (by omega) (by omega) (by omega) (by omega) (by omega) (by omega) (by omega) (by omega) (by assumption) (by assumption) (by omega) (by omega) (by omega) (by omega) (by omega) (by omega) (by omega) (by omega) (by ktr_room) (by ktr_units) ?_; k_whole); intro _ _ _ _ _ _ _ _ _; (try k_sweep)) | (k_here; (try dsimp only [List.cons_append, List.nil_append]); (with_reducible show wpAny _ _ (call (Value.ref 114) [Value.ref _, Value.ref _]) _ _ _); k_dflt (refine' ls04_use (by k_asm) (by k_asm) (by k_asm) (by k_asm) (by exact rfl) (by k_asm) (by k_mem) (by k_mem) (by k_mem) (by k_mem) (by k_mem) (by k_mem) (by k_mem) (by k_mem) (by assumption) (by assumption) (by omega) (by omega) (by omega) (by omega) (by omega) (by omega) (by omega) (by omega) (by assumption) (by assumption) (by omega) (by omega) (by omega) (by omega) (by omega) (by omega) (by omega) (by omega) (by ktr_room) (by ktr_units) ?_; k_whole); intro _ _ _ _; (try k_sweep)) | (k_here; (try dsimp only [List.cons_append, List.nil_append]); (with_reducible show wpAny _ _ (call (Value.ref 124) [Value.str _ _]) _ _ _); k_dflt (refine' ws04_use (by k_asm) (by k_asm) (by k_asm) (by k_asm) (by k_asm) (by exact rfl) (by first | assumption | omega) (by ktr_room) (by ktr_units) ?_; k_whole); intro _ _ _ _ _ _ _ _ _ _ _ _ _ _ _ _ _ _ _ _; walk_at "L3"; (try k_sweep)) | (k_here; (try dsimp only [List.cons_append, List.nil_append]); (with_reducible show wpAny _ _ (call (Value.ref 86) [Value.ref _]) _ _ _); k_dflt (refine' lr04_use (by k_asm) (by k_asm) (by k_asm) (by k_asm) (by exact rfl) (by k_asm) (by k_mem) (by k_mem) (by k_mem) (by k_mem) (by assumption) (by omega) (by omega) (by omega) (by omega) (by ktr_room) (by ktr_units) ?_; k_whole); intro _ _ _ _ _; (try k_sweep)) | (k_here; (try dsimp only [List.cons_append, List.nil_append]); (with_reducible show wpAny _ _ (call (Value.ref 93) [Value.ref _, Value.int _ _]) _ _ _); k_dflt (refine' il04_use (by k_asm) (by k_asm) (by k_asm) (by k_asm) (by exact rfl) (by k_asm) (by k_mem) (by k_mem) (by k_mem) (by k_mem) (by assumption) (by omega) (by omega) (by omega) (by omega) (by assumption) (by omega) (by omega) (by omega) (by omega) (by omega) (by omega) (by ktr_room) (by ktr_units) ?_; k_whole); intro _ _ _ _ _; (try k_sweep)))) | walk1 | (dsimp only; walk1) | (leave1; walk_say "STEP leave1"; try dsimp only) | fail "no step"))
      rename Fr g _ _ _ => FZ
      rename News g _ _ _ => NZ
      obtain ⟨mz, FZ2, hmz⟩ : ∃ mz, Fr g _ _ mz ∧ mz = _ := ⟨_, FZ, rfl⟩
      refine' ⟨⟨ep + 1, vs ++ [_], mz⟩, _, _, _, rfl, FZ2, NZ, ?map8, ?off8, ?inv8⟩
      case map8 =>
        intro z hz
        simp only [mpT]
        cases h2 : storedT.contains z
        · obtain ⟨z1, z2⟩ := offT h2
          simp only [hmz, hz, z1, z2, h2, if_false, Bool.false_eq_true]
        · simp only [if_true]
      case off8 => exact List.forall_mem_cons.mpr ⟨hDI, List.forall_mem_nil _⟩
      case inv8 =>
        show IntsAre _ _
        rw [List.range_succ, List.map_append, List.map_singleton, ← e7]
        exact IntsAre.append e1 (.cons _ _ .nil)
    case jturn =>
      subst hmr2
      rintro pre n post t7 ⟨cc, tc⟩ I7 oI7 h7 tk7 hpre ⟨e7, b7, c7⟩ hoff7 FA NA
      dsimp only at e7 b7 c7 FA NA
      simp only [List.cons_append, List.nil_append] at NA
      have hpl : pre.length + 1 ≤ 100 := by
        have q := congrArg List.length hpre
        rw [List.length_append, List.length_cons] at q
        omega
      have hct := col_tab (sz := 1 + (i : Int)) (c := cc) (by omega) (by omega) b7
      (try k_fold)
      (repeat' ((fail_if_success (with_reducible show wpAny _ _ (pyIter _) _ _ _)); (fail_if_success (with_reducible show wpAny _ _ (compareOp CmpOp.NotEq (Value.ref _) (Value.ref _)) _ _ _)); (fail_if_success (with_reducible show wpAny _ _ (compareOp CmpOp.Eq (Value.ref _) (Value.ref _)) _ _ _)); (fail_if_success (with_reducible show wpAny _ _ (exec (Stmt.While _ _ _ _) _) _ _ _)); (fail_if_success (with_reducible show LCg.CompSrc _ _ _ _ _ _ _ _ _ _ _ _ _ _)); first | (k_unfold; (try dsimp only)) | (k_end; wrow_close) | ((with_reducible show wpAny _ _ (call (Value.ref _) _) _ _ _); (first | (k_here; (try dsimp only [List.cons_append, List.nil_append]); (with_reducible show wpAny _ _ (call (Value.ref 59) [_, _, _]) _ _ _); k_dflt (refine' nag04_use (by k_asm) (by k_asm) (by k_asm) (by k_asm) (by exact rfl) (by k_asm) (by ktr_room) (by ktr_units) ?_; k_whole); intro _ _ _ _ _ _ _ _ _ _ _ _; (try k_sweep)) | (k_here; (try dsimp only [List.cons_append, List.nil_append]); (with_reducible show wpAny _ _ (call (Value.ref 121) [Value.ref _, Value.ref _]) _ _ _); k_dflt (refine' nl04_use (by k_asm) (by k_asm) (by k_asm) (by k_asm) (by exact rfl) (by k_asm) (by k_mem) (by k_mem) (by k_mem) (by k_mem) (by k_mem) (by k_mem) (by k_mem) (by k_mem) (by assumption) (by assumption) (by omega) (by omega) (by omega) (by omega) (by omega) (by omega) (by omega) (by omega) (by assumption) (by assumption) (by omega) (by omega) (by omega) (by omega) (by omega) (by omega) (by omega) (by omega) (by ktr_room) (by ktr_units) ?_; k_whole); intro _ _ _ _ _ _ _ _ _; (try k_sweep)) | (k_here; (try dsimp only [List.cons_append, List.nil_append]); (with_reducible show wpAny _ _ (call (Value.ref 114) [Value.ref _, Value.ref _]) _ _ _); k_dflt (refine' ls04_use (by k_asm) (by k_asm) (by k_asm) (by k_asm) (by exact rfl) (by k_asm) (by k_mem) (by k_mem) (by k_mem) (by k_mem) (by k_mem) (by k_mem) (by k_mem) (by k_mem) (by assumption) (by assumption) (by omega) (by omega) (by omega) (by omega) (by omega) (by omega) (by omega) (by omega) (by assumption) (by assumption) (by omega) (by omega) (by omega) (by omega) (by omega) (by omega) (by omega) (by omega) (by ktr_room) (by ktr_units) ?_; k_whole); intro _ _ _ _; (try k_sweep)) | (k_here; (try dsimp only [List.cons_append, List.nil_append]); (with_reducible show wpAny _ _ (call (Value.ref 124) [Value.str _ _]) _ _ _); k_dflt (refine' ws04_use (by k_asm) (by k_asm) (by k_asm) (by k_asm) (by k_asm) (by exact rfl) (by first | assumption | omega) (by ktr_room) (by ktr_units) ?_; k_whole); intro _ _ _ _ _ _ _ _ _ _ _ _ _ _ _ _ _ _ _ _; walk_at "L3"; (try k_sweep)) | (k_here; (try dsimp only [List.cons_append, List.nil_append]); (with_reducible show wpAny _ _ (call (Value.ref 86) [Value.ref _]) _ _ _); k_dflt (refine' lr04_use (by k_asm) (by k_asm) (by k_asm) (by k_asm) (by exact rfl) (by k_asm) (by k_mem) (by k_mem) (by k_mem) (by k_mem) (by assumption) (by omega) (by omega) (by omega) (by omega) (by ktr_room) (by ktr_units) ?_; k_whole); intro _ _ _ _ _; (try k_sweep)) | (k_here; (try dsimp only [List.cons_append, List.nil_append]); (with_reducible show wpAny _ _ (call (Value.ref 93) [Value.ref _, Value.int _ _]) _ _ _); k_dflt (refine' il04_use (by k_asm) (by k_asm) (by k_asm) (by k_asm) (by exact rfl) (by k_asm) (by k_mem) (by k_mem) (by k_mem) (by k_mem) (by assumption) (by omega) (by omega) (by omega) (by omega) (by assumption) (by omega) (by omega) (by omega) (by omega) (by omega) (by omega) (by ktr_room) (by ktr_units) ?_; k_whole); intro _ _ _ _ _; (try k_sweep)))) | walk1 | (dsimp only; walk1) | (leave1; walk_say "STEP leave1"; try dsimp only) | fail "no step"))
      · rename (_ == Str.ofString " ") = true => e9
        have hn := one_true ofSp e9
        rename Fr g _ _ _ => FZ
        rename News g _ _ _ => NZ
        refine' ⟨(cc + 1, ?t1), _, _, _, rfl, FZ, NZ, ?map1, hoff7, ?inv1⟩
        case map1 => (intro z hz; by_cases h1 : z = Str.ofString "column"; (subst h1; rfl); simp only [h1, hz, if_false])
        case inv1 =>
          refine ⟨?_, by dsimp only; omega, by dsimp only; rw [List.length_append, List.length_singleton]; omega⟩
          rw [colAt_snoc, hn, ← e7]; rfl
      · rename (_ == Str.ofString "	") = true => e9
        have hn := one_true ofTab e9
        rename Fr g _ _ _ => FZ
        rename News g _ _ _ => NZ
        refine' ⟨((cc.fdiv (1 + (i : Int)) + 1) * (1 + (i : Int)), ?t2), _, _, _, rfl, FZ, NZ, ?map2, hoff7, ?inv2⟩
        case map2 => (intro z hz; by_cases h1 : z = Str.ofString "column"; (subst h1; rfl); simp only [h1, hz, if_false])
        case inv2 =>
          refine ⟨?_, by dsimp only; omega, by dsimp only; rw [List.length_append, List.length_singleton]; omega⟩
          rw [colAt_snoc, hn, ← e7]; rfl
      · rename (_ == Str.ofString "	") = false => e9
        rename (_ == Str.ofString " ") = false => e8
        have hn := one_false ofTab e9
        have hn2 := one_false ofSp e8
        refine' ⟨(cc, tc), _, _, _, rfl, FA, NA, ?map3, hoff7, ?inv3⟩
        case map3 => (intro z hz; by_cases h1 : z = Str.ofString "column"; (subst h1; rfl); simp only [h1, hz, if_false])
        case inv3 =>
          refine ⟨?_, by dsimp only; omega, by dsimp only; rw [List.length_append, List.length_singleton]; omega⟩
          rw [colAt_snoc, ← e7]; unfold colStep; rw [if_neg hn2, if_neg hn]
theorem cols04_use {w : World} {mean : ExcName → Option Value} {mg mb : Str → Option Value} {dp un : Nat} {gd : Option (List Code)} {cn : Str} {cs : Scope} {a : Addr} {ccd : Value} {cl : List (Str × Addr)} {outer : List Env} {A₀ : Around} {base h₀ : Heap} {L : Addr} {m : Str → Option Value} {news : List (Addr × Obj)} {s : Shared} {x : Str} {t : Tok} {Q E : Value → Shared → Prop} (B : Below A₀ base outer h₀) (F : Fr h₀ L s.heap m) (X : (hd04.heap_39 w.params).In h₀) (T : Top topProg (looseW hd04.view_39 [Str.ofString "Whitespace"] ++ (recsOf hd04.view_39).map (·.name) ++ (litsOf hd04.view_39).map (·.1) ++ (clssOf hd04.view_39 (looseW hd04.view_39 [Str.ofString "Whitespace"])).map (·.name)) mean mg mb h₀) (hk : cs.kind = .function) (N : News h₀ L s.heap news) (hlen : x.length ≤ 100) (hd : dp + 10 < recursionLimit) (hu : un + 80 < cLine)
    (h : ∀ (D ep : Nat) (vs : List Value) tk h', Fr h₀ L h' m → News h₀ L h' ((D, W.listOf vs.toArray ep) :: news) → IntsAre vs (colsOf x) → (∀ p ∈ news, p.1 ≠ D) → (∀ b o, s.heap.get? b = some o → b ≠ D) → Q (.ref D) { s with heap := h', toks := tk }) :
    wpAny (model Challenge.rw_dn0186_04.row.prog w) (ktrTop dp un gd cn cs L a ccd cl outer) (call (.ref 149) [.str x t]) Q E s :=
  cols04 w mean mg mb dp un gd cn cs a ccd cl outer A₀ base h₀ L m s x t Q E B F X T hk hlen hd hu fun D ep vs tk h' F' st N' hI off => h D ep vs tk h' F' (fun p hp => (List.mem_cons.mp hp).elim (fun q => q ▸ N' _ (.head _)) fun hp => news_stays N st p hp) hI (fun p hp q => off _ _ (N p hp).1 q) off

open PySem PySem.W PyProof.Rows


theorem k04_ga (P : Params) : findIn (hd04.heap_39 P) (.ref 59) "__getattribute__" = some (some (.builtin "BaseException.__getattribute__")) := by kernel_rfl
theorem k04_gn (P : Params) : findIn (hd04.heap_39 P) (.ref 59) "__getattr__" = some none := by kernel_rfl
theorem k04_sub (P : Params) : subIn (hd04.heap_39 P) (.ref 59) (.type "BaseException") = some true := by kernel_rfl
theorem k04_lineno (P : Params) : findIn (hd04.heap_39 P) (.ref 59) (Str.ofString "lineno") = some none := by kernel_rfl
theorem k04_hd (P : Params) : hasDictIn (hd04.heap_39 P) 59 = true := by kernel_rfl
local macro_rules | `(tactic| walk_at "getAttr ref") => `(tactic| (k_here; (with_reducible show wpAny _ _ (getAttr (Value.ref _) _ _) _ _ _); k_dflt (refine' getE_led ?F ?X ?N (k04_ga _) (k04_gn _) (k04_sub _) ?hna (k04_hd _) ?hm ?hmd ?hc ?hd ?hdx ?hD ?hv ?hh ?_; (case F => k_asm); (case X => k_asm); (case N => k_asm); (case hna => first | exact k04_line _ | exact k04_msg _ | exact k04_lineno _); (case hm => k_mem); (case hc => assumption); (case hd => assumption); (case hdx => assumption); (case hmd => k_mem); (case hD => assumption); (case hv => rfl); (case hh => first | rfl | assumption); k_whole)))
open PySem PySem.W PyProof.Rows PySem.Calls PySem.Spec

abbrev xs4 (ns : List Int) : List Int := [0] ++ List.take 10 ns ++ [0]
def lnTx (x : Int) : Str := Txt.mul (Str.ofString " ") (x.fmod 4) ++ Txt.mul (Str.ofString "\t") ((x.fdiv 4).fmod 3) ++ Txt.mul (Str.ofString " ") ((x.fdiv 12).fmod 4) ++ Str.ofString "x"
def lines4 (ns : List Int) : List Str := (xs4 ns).map lnTx
def geC (x y : Str) : List Nat := (List.range 7).filter fun t => decide ((colsOf x).getD t 0 ≥ (colsOf y).getD t 0)
def p4 (ns : List Int) (k : Nat) : Bool := !(geC ((lines4 ns).getD (k - 1) ⟨#[]⟩) ((lines4 ns).getD k ⟨#[]⟩)).isEmpty
def gotK (ns : List Int) (t : Nat) : List Int := ((List.range (t + 1)).filter fun k => decide (1 ≤ k) && decide (k < (lines4 ns).length) && p4 ns k).map fun (k : Nat) => (k : Int) + 1
def ln48 (v : Nat) : Str := lnTx (v : Int)
theorem lnTx_mod (x : Int) : lnTx x = ln48 (x.fmod 48).toNat := by
  have h0 := Int.fmod_nonneg_of_pos x (by decide : (0 : Int) < 48)
  have e : ((x.fmod 48).toNat : Int) = x.fmod 48 := Int.toNat_of_nonneg h0
  unfold ln48 lnTx
  rw [e]
  have f1 : x.fmod 4 = (x.fmod 48).fmod 4 := by
    rw [Int.fmod_eq_emod_of_nonneg _ (by decide), Int.fmod_eq_emod_of_nonneg _ (by decide), Int.fmod_eq_emod_of_nonneg _ (by decide)]; omega
  have f2 : (x.fdiv 4).fmod 3 = ((x.fmod 48).fdiv 4).fmod 3 := by
    simp only [Int.fmod_eq_emod_of_nonneg _ (by decide : (0 : Int) ≤ 48), Int.fmod_eq_emod_of_nonneg _ (by decide : (0 : Int) ≤ 3), Int.fdiv_eq_ediv_of_nonneg _ (by decide : (0 : Int) ≤ 4)]; omega
  have f3 : (x.fdiv 12).fmod 4 = ((x.fmod 48).fdiv 12).fmod 4 := by
    simp only [Int.fmod_eq_emod_of_nonneg _ (by decide : (0 : Int) ≤ 48), Int.fmod_eq_emod_of_nonneg _ (by decide : (0 : Int) ≤ 4), Int.fdiv_eq_ediv_of_nonneg _ (by decide : (0 : Int) ≤ 12)]; omega
  rw [← f1, ← f2, ← f3]
theorem less48 : ∀ i, i < 48 → ∀ j, j < 48 → lessS (ln48 i) (ln48 j) = (geC (ln48 i) (ln48 j)).isEmpty := by decide +kernel
theorem less_ge (x y : Int) : lessS (lnTx x) (lnTx y) = (geC (lnTx x) (lnTx y)).isEmpty := by
  rw [lnTx_mod x, lnTx_mod y]
  have hb : ∀ z : Int, (z.fmod 48).toNat < 48 := fun z => by
    have := Int.fmod_lt_of_pos z (by decide : (0 : Int) < 48)
    omega
  exact less48 _ (hb x) _ (hb y)
theorem lines_len (ns : List Int) : 2 ≤ (lines4 ns).length ∧ (lines4 ns).length ≤ 12 := by
  simp only [lines4, xs4, List.length_map, List.length_append, List.length_cons, List.length_nil, List.length_take]; omega
theorem ln48_len : ∀ v, v < 48 → (ln48 v).length ≤ 9 := by decide +kernel
theorem lnTx_len (x : Int) : (lnTx x).length ≤ 9 := by
  rw [lnTx_mod]
  refine ln48_len _ ?_
  have := Int.fmod_lt_of_pos x (by decide : (0 : Int) < 48)
  omega
theorem lines_small {ns : List Int} : ∀ x ∈ lines4 ns, x.length ≤ 100 := by
  intro x hx
  obtain ⟨a, _, rfl⟩ := List.mem_map.mp hx
  exact Nat.le_trans (lnTx_len a) (by decide)
theorem lines_getD {ns : List Int} {k : Nat} (h : k < (lines4 ns).length) : (lines4 ns).getD k ⟨#[]⟩ = lnTx ((xs4 ns).getD k 0) := by
  unfold lines4 at h ⊢
  rw [List.length_map] at h
  rw [List.getD_eq_getElem?_getD, List.getD_eq_getElem?_getD, List.getElem?_map, List.getElem?_eq_getElem h]
  rfl
theorem less_p4 {ns : List Int} {k : Nat} (h : k + 1 < (lines4 ns).length) : lessS ((lines4 ns).getD k ⟨#[]⟩) ((lines4 ns).getD (k + 1) ⟨#[]⟩) = !(p4 ns (k + 1)) := by
  unfold p4
  rw [lines_getD h, lines_getD (show k + 1 - 1 < _ by omega), lines_getD (show k < _ by omega), less_ge, Bool.not_not]
  rfl
theorem gotK_zero (ns : List Int) : gotK ns 0 = [] := by simp [gotK]
theorem gotK_succ (ns : List Int) (t : Nat) : gotK ns (t + 1) = gotK ns t ++ if (decide (t + 1 < (lines4 ns).length) && p4 ns (t + 1)) = true then [(t : Int) + 2] else [] := by
  unfold gotK
  rw [List.range_succ (n := t + 1), List.filter_append, List.map_append]
  congr 1
  have h1 : decide (1 ≤ t + 1) = true := decide_eq_true (by omega)
  rw [List.filter_cons, h1, Bool.true_and]
  split
  · simp only [List.filter_nil, List.map_cons, List.map_nil]
    congr 1
  · rfl
theorem gotK_same {ns : List Int} {t : Nat} : ∀ d, (∀ k, t < k → k ≤ t + d → k < (lines4 ns).length → p4 ns k = false) → gotK ns (t + d) = gotK ns t
  | 0, _ => rfl
  | d + 1, h => by
    rw [← Nat.add_assoc, gotK_succ, gotK_same d fun k h1 h2 => h k h1 (by omega)]
    by_cases q : t + d + 1 < (lines4 ns).length
    · rw [h (t + d + 1) (by omega) (by omega) q]; simp
    · simp [q]
theorem gotK_nag {ns : List Int} {t j : Nat} (ht : t < j) (hj : j < (lines4 ns).length) (hp : p4 ns j = true) (hn : ∀ k, t < k → k < j → p4 ns k = false) : gotK ns j = gotK ns t ++ [(j : Int) + 1] := by
  obtain ⟨d, rfl⟩ : ∃ d, j = t + d + 1 := ⟨j - t - 1, by omega⟩
  rw [gotK_succ, gotK_same d fun k h1 h2 _ => hn k h1 (by omega), hp]
  have : decide (t + d + 1 < (lines4 ns).length) = true := decide_eq_true hj
  rw [this]
  simp only [Bool.and_self, if_true]
  congr 2
theorem gotK_len (ns : List Int) (t : Nat) : (gotK ns t).length ≤ t + 1 := by
  unfold gotK
  rw [List.length_map]
  have h := List.length_filter_le (fun k => decide (1 ≤ k) && decide (k < (lines4 ns).length) && p4 ns k) (List.range (t + 1))
  rw [List.length_range] at h
  exact h
theorem gotK_last {ns : List Int} {t : Nat} (h : (lines4 ns).length ≤ t + 1) : gotK ns t = gotK ns ((lines4 ns).length - 1) := by
  have := (lines_len ns).1
  obtain ⟨d, rfl⟩ : ∃ d, t = (lines4 ns).length - 1 + d := ⟨t - ((lines4 ns).length - 1), by omega⟩
  exact gotK_same d fun k h1 _ h3 => by omega

open PySem PySem.W PyProof.Rows


local macro_rules | `(tactic| walk_at "eval ListComp") => `(tactic| (k_here; (with_reducible show wpAny _ _ (eval (Expr.ListComp _ [{ target := _, iter := _, ifs := [_], is_async := _ }] _ _) _) _ _ _); k_dflt (refine LCt.ListComp_T (F₀ := by k_asm) (by with_unfolding_all rfl) (by decide) (by rfl) (by decide) (by rfl) ?_)))
local macro_rules | `(tactic| walk_at "eval ListComp") => `(tactic| (k_here; (with_reducible show wpAny _ _ (eval (Expr.ListComp _ [{ target := _, iter := _, ifs := [], is_async := _ }] _ _) _) _ _ _); k_dflt (refine LCg.ListComp_U (F₀ := by k_asm) (by with_unfolding_all rfl) (by decide) (by rfl) (by decide) (by rfl) ?_)))
theorem name_goesC {M : Model} {A : Around} {E : Value → Shared → Prop} {s : Shared} {env : Env} {h₀ : Heap} {L : Addr} {m : Str → Option Value} {news : List (Addr × Obj)} {n : Str} {pos : Pos} {Q : Unit → Shared → Prop} (F : Fr h₀ L s.heap m) (N : News h₀ L s.heap news) (hlo : env.locals = L) (hk : env.scope.kind = .function) (hl : env.kindOf n = some .local)
    (h : ∀ h' v, Fr h₀ L h' (fun x => if x = n then v else m x) → News h₀ L h' news → Q () { s with heap := h', toks := s.toks + 1 }) :
    wpAny M A (do bindName env n .none; unbindBehindTheSuite env n pos) Q E s := by
  subst hlo
  exact wpAny_nameGoes_keeps hl F.ns (by rw [hk]; rfl) fun h' v hn hs => h h' v (F.set hn hs) (N.set hs)
theorem Aloft.mono {h : Heap} {xs xs' : List Addr} {l : List Env} {C x dx : Addr} {fl : Value} {own : List (Addr × Obj)} {h' : Heap} (al : Aloft h xs l C x dx fl own h') (hs : ∀ y ∈ xs, y ∈ xs') : Aloft h xs' l C x dx fl own h' := by
  obtain ⟨⟨B, b1, b2⟩, b3⟩ := al
  exact ⟨⟨B, fun b o e hb => b1 b o e fun q => hb (hs _ q), b2⟩, fun b o e hb => b3 b o e fun q => hb (hs _ q)⟩
theorem k04_mlineno (P : Params) : findIn (hd04.heap_39 P) (.ref 59) (Str.ofString "get_lineno") = some (some (.ref 42)) := by kernel_rfl
theorem k04_t42 (P : Params) : typeIn (hd04.heap_39 P) (.ref 42) = some (.type "function") := by kernel_rfl
local macro_rules | `(tactic| walk_at "getMethod ref") => `(tactic| (k_here; (with_reducible show wpAny _ _ (getMethod (Value.ref _) _ _) _ _ _); k_dflt (refine' methE_led ?F ?X ?N (k04_ga _) (k04_gn _) ?hf ?ht ?hm ?hmd ?hc ?hd ?hdx ?hD ?hv ?_; (case F => k_asm); (case X => k_asm); (case N => k_asm); (case hf => exact k04_mlineno _); (case ht => exact k04_t42 _); (case hm => k_mem); (case hc => assumption); (case hd => assumption); (case hdx => assumption); (case hmd => k_mem); (case hD => assumption); (case hv => rfl); k_whole)))
theorem clm04_use {w : World} {mean : ExcName → Option Value} {mg mb : Str → Option Value} {dp un : Nat} {gd : Option (List Code)} {cn : Str} {cs : Scope} {a : Addr} {ccd : Value} {cl : List (Str × Addr)} {outer : List Env} {A₀ : Around} {base h₀ : Heap} {L : Addr} {m : Str → Option Value} {news : List (Addr × Obj)} {s : Shared} {D : Nat} {vs : List Value} {ep : Nat} {ts : List Str} {st : Nat} {tst : Tok} {ps : Array Value} {Q E : Value → Shared → Prop} (B : Below A₀ base outer h₀) (F : Fr h₀ L s.heap m) (X : (hd04.heap_39 w.params).In h₀) (T : Top topProg (looseW hd04.view_39 [Str.ofString "Whitespace"] ++ (recsOf hd04.view_39).map (·.name) ++ (litsOf hd04.view_39).map (·.1) ++ (clssOf hd04.view_39 (looseW hd04.view_39 [Str.ofString "Whitespace"])).map (·.name)) mean mg mb h₀) (hk : cs.kind = .function) (N : News h₀ L s.heap news) (m1 : (130, tabObj ps) ∈ news) (m2 : (D, W.listOf vs.toArray ep) ∈ news) (hS : StrsAre vs ts) (hz1 : st < ts.length) (hz2 : ts.length ≤ 1000) (hlen : ∀ x ∈ ts, x.length ≤ 100) (hD0 : D ≠ 130) (CH : CodeHd h₀ 134 130) (hf : TabForm ⟨80, 13, 80, 39⟩ ps) (hG : AllBare s.gens) (hd : dp + 40 < recursionLimit) (hu : un + 300 < cLine)
    (hret : ∀ tk h', Fr h₀ L h' m → News h₀ L h' news → (∀ k, st + k + 1 < ts.length → lessS (ts.getD (st + k) ⟨#[]⟩) (ts.getD (st + k + 1) ⟨#[]⟩) = true) → Q .none { s with heap := h', toks := tk })
    (hexc : ∀ (x dx : Nat) (od : Obj) (ps' : Array Value) (h' : Heap) (tk : Nat) (gs : Array GenState) (k i : Nat) (t1 t2 t3 : Tok) (msg : Str), Aloft s.heap [130, D, x] (envX cn cs L a ccd cl :: outer) 59 x dx .none [(dx, od), (130, tabObj ps'), (D, W.listOf vs.toArray ep)] h' →
      DictObj od (nagMap (.int ((k : Int) + 1) t1) (.str msg t2) (.str (ts.getD k ⟨#[]⟩) t3)) → TabForm ⟨80, 13, 80, 39⟩ ps' → AllBare gs → (∀ b o, s.heap.get? b = some o → b ≠ dx ∧ b ≠ x) → x ≠ dx → k = st + i + 1 → k < ts.length → (∀ j, j < i → lessS (ts.getD (st + j) ⟨#[]⟩) (ts.getD (st + j + 1) ⟨#[]⟩) = true) → lessS (ts.getD (st + i) ⟨#[]⟩) (ts.getD (st + i + 1) ⟨#[]⟩) = false →
      E (.ref x) { s with heap := h', gens := gs, toks := tk }) :
    wpAny (model Challenge.rw_dn0186_04.row.prog w) (ktrTop dp un gd cn cs L a ccd cl outer) (call (.ref 142) [.ref D, .int (st : Int) tst]) Q E s :=
  clm04 w mean mg mb dp un gd cn cs a ccd cl outer A₀ base h₀ L m s D vs ep ts st tst ps Q E B F X T hk (news_sub N (List.forall_mem_cons.mpr ⟨m1, List.forall_mem_cons.mpr ⟨m2, List.forall_mem_nil _⟩⟩)) hS hz1 hz2 hlen hD0 CH hf hG hd hu (fun tk h' F' st' he => hret tk h' F' (news_stays N st') he)
    fun x dx od ps' h' tk gs k i t1 t2 t3 msg al => hexc x dx od ps' h' tk gs k i t1 t2 t3 msg (al.mono fun y hy => (List.mem_cons.mp hy).elim (fun e => e ▸ .head _) fun hy => List.mem_singleton.mp hy ▸ .tail _ (.head _))
local macro_rules | `(tactic| walk_at "subscriptTail Name BinOp ref int") => `(tactic| walk_at "SUBV")
local macro_rules | `(tactic| walk_at "subscriptTail Subscript Name ref int") => `(tactic| walk_at "SUBI")
local macro_rules | `(tactic| walk_at "exec For Name Call cons nil") => `(tactic| (k_here; (with_reducible show wpAny _ _ (exec (Stmt.For (Expr.Name (Str.ofString "k") _) _ _ [] _) _) _ _ _); k_dflt (refine' For_G ?_ ?hs9; (case hs9 => (intro _; rfl)))))
theorem off1_mem {D : Addr} : ∀ {l : List (Addr × Obj)}, LCg.Off1 D l → ∀ p ∈ l, (p.1 : Nat) ≠ D
  | [], _, _, hp => nomatch hp
  | _ :: _, h, p, hp => by
    rcases List.mem_cons.mp hp with rfl | hp
    · exact h.1
    · exact off1_mem h.2 p hp
theorem fmod_bd {k : Int} (a : Int) (h : 0 < k) : 0 ≤ a.fmod k ∧ a.fmod k < k := ⟨Int.fmod_nonneg_of_pos a h, Int.fmod_lt_of_pos a h⟩
structure Col where
  D : Nat
  ep : Nat
  vs : List Value
abbrev Col.ent (c : Col) : Addr × Obj := (c.D, W.listOf c.vs.toArray c.ep)
def Mid1 (h₀ : Heap) (Z : Nat) (ns : List Int) (sA s' : Shared) : Prop :=
  ∃ (ll ep : Nat) (vl : List Value) (oC oK : Obj) (m' : Str → Option Value) (h' : Heap) (tk : Nat), s' = { sA with heap := h', toks := tk } ∧ Fr h₀ Z h' (fun y => if y = Str.ofString "lines" then some (.ref ll) else m' y) ∧ News h₀ Z h' [(ll, W.listOf vl.toArray ep), (Z + 1 + 1, oK), (Z + 1, oC), (130, tabObj #[])] ∧
    (∃ v, oC.data = .cell v) ∧ (∃ v, oK.data = .cell v) ∧ StrsAre vl (lines4 ns) ∧ Z + 1 + 1 < ll ∧ 130 < Z
def Mid2 (h₀ : Heap) (Z : Nat) (ns : List Int) (sA s' : Shared) : Prop :=
  ∃ (ll lc ep : Nat) (vl : List Value) (cols : List Col) (oC oK : Obj) (m' : Str → Option Value) (h' : Heap) (tk : Nat), s' = { sA with heap := h', toks := tk } ∧ Fr h₀ Z h' (fun y => if y = Str.ofString "lines" then some (.ref ll) else m' y) ∧ News h₀ Z h' ([(lc, LCg.lst (cols.map fun c => Value.ref c.D)), (ll, W.listOf vl.toArray ep), (Z + 1 + 1, oK), (Z + 1, oC), (130, tabObj #[])] ++ cols.map Col.ent) ∧
    oC.data = .cell (some (.ref lc)) ∧ (∃ v, oK.data = .cell v) ∧ StrsAre vl (lines4 ns) ∧ cols.length = (lines4 ns).length ∧ (∀ i c, cols[i]? = some c → IntsAre c.vs (colsOf ((lines4 ns).getD i ⟨#[]⟩))) ∧ Z + 1 + 1 < ll ∧ 130 < Z ∧ (∀ c ∈ cols, (@Ne Nat c.D (Z + 1 + 1)) ∧ (@Ne Nat c.D (Z + 1)) ∧ (@Ne Nat c.D 130) ∧ (@Ne Nat c.D ll)) ∧ lc ≠ ll ∧ lc ≠ Z + 1 + 1 ∧ lc ≠ Z + 1 ∧ lc ≠ 130
structure S4 where
  t : Nat
  tt : Tok
  vg : List Value
  eg : Nat
  ps : Array Value
  u : Str → Option Value
abbrev stored4 : List Str := [Str.ofString "end", Str.ofString "nag"]
abbrev mp4 (mr : Str → Option Value) (c : S4) (y : Str) : Option Value := if y = Str.ofString "start" then some (.int (c.t : Int) c.tt) else if stored4.contains y then c.u y else mr y
abbrev led4 (lG lw ew : Nat) (vw : List Value) (ll ep : Nat) (vl : List Value) (c : S4) : List (Addr × Obj) := [(lG, W.listOf c.vg.toArray c.eg), (lw, W.listOf vw.toArray ew), (ll, W.listOf vl.toArray ep), (130, tabObj c.ps)]
structure Inv4 (ns : List Int) (c : S4) : Prop where
  got : IntsAre c.vg (gotK ns c.t)
  le : c.t ≤ (lines4 ns).length
  tab : TabForm ⟨80, 13, 80, 39⟩ c.ps
theorem offB {z : Str} (h : stored4.contains z = false) : z ≠ Str.ofString "end" ∧ z ≠ Str.ofString "nag" := by
  simp only [stored4, List.contains_cons, List.contains_nil, Bool.or_false, Bool.or_eq_false_iff, beq_eq_false_iff_ne, ne_eq] at h
  exact h
def Mid4 (h₀ : Heap) (Z : Nat) (ns : List Int) (sA s' : Shared) : Prop :=
  ∃ (ll lw ep ew : Nat) (vl vw : List Value) (m' : Str → Option Value) (h' : Heap) (tk : Nat), s' = { sA with heap := h', toks := tk } ∧ Fr h₀ Z h' (fun y => if y = Str.ofString "want" then some (.ref lw) else if y = Str.ofString "lines" then some (.ref ll) else m' y) ∧ News h₀ Z h' [(lw, W.listOf vw.toArray ew), (ll, W.listOf vl.toArray ep), (130, tabObj #[])] ∧
    StrsAre vl (lines4 ns) ∧ IntsAre vw (gotK ns ((lines4 ns).length - 1)) ∧ 130 < ll ∧ 130 < lw ∧ lw ≠ ll
set_option maxHeartbeats 6000000 in
theorem t04 : PySem.Challenge.rw_dn0186_04.Holds := by
  refine hd04 ?_
  w_strict (
    k_fill
    intro w s₀ s₁ mg mb G Y fa o pm cd doc dV kV ho hd hcd hD hmg hg args vals as hpre hlay hrd hwl hlo
    have KX := kIn_of Y
    have X := (Ground.X G).1
    have V := (Ground.X G).2
    refine Ground.open G ?_
    intro T B D TE TW
    try (refine guard_noD D (by decide +kernel) ?_; clear D)
    have hT9 : TabsAt ((134, 130) :: []) _ := List.forall_mem_cons.mpr ⟨tab_of (x := Str.ofString "format_witnesses") (c := 134) (P := 130) T KX rfl (by kernel_rfl), fun _ h => nomatch h⟩
    clear hmg
    wrow_args hpre hlay hrd hwl hlo
    all_goals (
      first | refine callC_kw (enter_call ?_) | refine enter_call ?_
      w_top on
      refine kn_postT hT9 (fun _ => rfl) ?hpost ?_; (case hpost => (with_unfolding_all rfl))
      w_call any ho hd hcd hD T F
      clear hd
      kn_ghosts F T
      k_drop
      skip)
    (all_goals try k_fold)
    rename (List Int) => ns
    refine execs_cut 2 (Mid1 (ghostOf s₁.heap [(134, 130)]) s₁.heap.objs.size ns s₁) ?hA ?hB
    case hA =>
      (repeat' ((fail_if_success (with_reducible show wpAny _ _ (pyIter _) _ _ _)); (fail_if_success (with_reducible show wpAny _ _ (exec (Stmt.Try _ _ _ _ _) _) _ _ _)); (fail_if_success (with_reducible show wpAny _ _ (exec (Stmt.While _ _ _ _) _) _ _ _)); (fail_if_success (with_reducible show wpAny _ _ (call (Value.ref 142) _) _ _ _)); (fail_if_success (with_reducible show wpAny _ _ (compareOp CmpOp.Eq (Value.ref _) (Value.ref _)) _ _ _)); (fail_if_success (with_reducible show wpAny _ _ (compareOp CmpOp.NotEq (Value.ref _) (Value.ref _)) _ _ _)); (fail_if_success (with_reducible show CutEnd _ _ _)); (fail_if_success (with_reducible show CompH _ _ _ _ _ _ _ _ _ _ _ _ _ _ _)); (fail_if_success (with_reducible show LCg.CompSrc _ _ _ _ _ _ _ _ _ _ _ _ _ _)); (fail_if_success (with_reducible show LCt.CompSrcT _ _ _ _ _ _ _ _ _ _ _ _ _ _ _)); first | (k_unfold; (try dsimp only)) | (k_end; wrow_close) | ((with_reducible show wpAny _ _ (call (Value.ref _) _) _ _ _); (first | (k_here; (try dsimp only [List.cons_append, List.nil_append]); (with_reducible show wpAny _ _ (call (Value.ref 149) [Value.str _ _]) _ _ _); k_dflt (refine' cols04_use (by k_asm) (by k_asm) (by k_asm) (by k_asm) (by exact rfl) (by k_asm) (by first | assumption | omega) (by ktr_room) (by ktr_units) ?_; k_whole); intro _ _ _ _ _ _ _ _ _ _; (try k_sweep)) | (k_here; (try dsimp only [List.cons_append, List.nil_append]); (with_reducible show wpAny _ _ (call (Value.ref 59) [_, _, _]) _ _ _); k_dflt (refine' nag04_use (by k_asm) (by k_asm) (by k_asm) (by k_asm) (by exact rfl) (by k_asm) (by ktr_room) (by ktr_units) ?_; k_whole); intro _ _ _ _ _ _ _ _ _ _ _ _; (try k_sweep)) | (k_here; (try dsimp only [List.cons_append, List.nil_append]); (with_reducible show wpAny _ _ (call (Value.ref 121) [Value.ref _, Value.ref _]) _ _ _); k_dflt (refine' nl04_use (by k_asm) (by k_asm) (by k_asm) (by k_asm) (by exact rfl) (by k_asm) (by k_mem) (by k_mem) (by k_mem) (by k_mem) (by k_mem) (by k_mem) (by k_mem) (by k_mem) (by assumption) (by assumption) (by omega) (by omega) (by omega) (by omega) (by omega) (by omega) (by omega) (by omega) (by assumption) (by assumption) (by omega) (by omega) (by omega) (by omega) (by omega) (by omega) (by omega) (by omega) (by ktr_room) (by ktr_units) ?_; k_whole); intro _ _ _ _ _ _ _ _ _; (try k_sweep)) | (k_here; (try dsimp only [List.cons_append, List.nil_append]); (with_reducible show wpAny _ _ (call (Value.ref 114) [Value.ref _, Value.ref _]) _ _ _); k_dflt (refine' ls04_use (by k_asm) (by k_asm) (by k_asm) (by k_asm) (by exact rfl) (by k_asm) (by k_mem) (by k_mem) (by k_mem) (by k_mem) (by k_mem) (by k_mem) (by k_mem) (by k_mem) (by assumption) (by assumption) (by omega) (by omega) (by omega) (by omega) (by omega) (by omega) (by omega) (by omega) (by assumption) (by assumption) (by omega) (by omega) (by omega) (by omega) (by omega) (by omega) (by omega) (by omega) (by ktr_room) (by ktr_units) ?_; k_whole); intro _ _ _ _; (try k_sweep)) | (k_here; (try dsimp only [List.cons_append, List.nil_append]); (with_reducible show wpAny _ _ (call (Value.ref 124) [Value.str _ _]) _ _ _); k_dflt (refine' ws04_use (by k_asm) (by k_asm) (by k_asm) (by k_asm) (by k_asm) (by exact rfl) (by first | assumption | omega) (by ktr_room) (by ktr_units) ?_; k_whole); intro _ _ _ _ _ _ _ _ _ _ _ _ _ _ _ _ _ _ _ _; walk_at "L3"; (try k_sweep)) | (k_here; (try dsimp only [List.cons_append, List.nil_append]); (with_reducible show wpAny _ _ (call (Value.ref 86) [Value.ref _]) _ _ _); k_dflt (refine' lr04_use (by k_asm) (by k_asm) (by k_asm) (by k_asm) (by exact rfl) (by k_asm) (by k_mem) (by k_mem) (by k_mem) (by k_mem) (by assumption) (by omega) (by omega) (by omega) (by omega) (by ktr_room) (by ktr_units) ?_; k_whole); intro _ _ _ _ _; (try k_sweep)) | (k_here; (try dsimp only [List.cons_append, List.nil_append]); (with_reducible show wpAny _ _ (call (Value.ref 93) [Value.ref _, Value.int _ _]) _ _ _); k_dflt (refine' il04_use (by k_asm) (by k_asm) (by k_asm) (by k_asm) (by exact rfl) (by k_asm) (by k_mem) (by k_mem) (by k_mem) (by k_mem) (by assumption) (by omega) (by omega) (by omega) (by omega) (by assumption) (by omega) (by omega) (by omega) (by omega) (by omega) (by omega) (by ktr_room) (by ktr_units) ?_; k_whole); intro _ _ _ _ _; (try k_sweep)))) | walk1 | (dsimp only; walk1) | (leave1; walk_say "STEP leave1"; try dsimp only) | fail "no step"))
      rename Fr _ _ _ _ => F1
      rename News _ _ _ _ => N1
      rename IntsAre _ ([0] ++ List.take 10 _ ++ [0]) => hI1
      rename Obj.data _ = Data.cell (bindC _ _ _ (Str.ofString "columns")) => hdC
      rename Obj.data _ = Data.cell (bindC _ _ _ (Str.ofString "k")) => hdK
      rename_i D0 ws _ _
      obtain ⟨ll, oK, oC, mr, N2, dK, dC, F2, hI2, r1, r2, r3, r4⟩ : ∃ (ll : Nat) (oK oC : Obj) (mr : Str → Option Value), News (ghostOf s₁.heap [(134, 130)]) s₁.heap.objs.size _ [(ll, W.listOf #[] 0), (D0, W.listOf ws.toArray 0), (s₁.heap.objs.size + 1 + 1, oK), (s₁.heap.objs.size + 1, oC), (130, tabObj #[])] ∧ (∃ v, oK.data = .cell v) ∧ (∃ v, oC.data = .cell v) ∧ Fr (ghostOf s₁.heap [(134, 130)]) s₁.heap.objs.size _ (fun y => if y = Str.ofString "lines" then some (.ref ll) else mr y) ∧ IntsAre ws (xs4 ns) ∧ ll ≠ D0 ∧ s₁.heap.objs.size + 1 + 1 < ll ∧ s₁.heap.objs.size + 1 + 1 < D0 ∧ 130 < s₁.heap.objs.size := ⟨_, _, _, _, news_sub N1 (List.forall_mem_cons.mpr ⟨.tail _ (.tail _ (.tail _ (.tail _ (.tail _ (.head _))))), List.forall_mem_cons.mpr ⟨.head _, List.forall_mem_cons.mpr ⟨.tail _ (.tail _ (.tail _ (.tail _ (.tail _ (.tail _ (.head _)))))), List.forall_mem_cons.mpr ⟨.tail _ (.tail _ (.tail _ (.tail _ (.tail _ (.tail _ (.tail _ (.head _))))))), List.forall_mem_cons.mpr ⟨.tail _ (.tail _ (.tail _ (.tail _ (.tail _ (.tail _ (.tail _ (.tail _ (.head _)))))))), List.forall_mem_nil _⟩⟩⟩⟩⟩), ⟨_, hdK⟩, ⟨_, hdC⟩, F1, hI1, by omega, by omega, by omega, by omega⟩
      k_sweep
      have hxl : (xs4 ns).length ≤ 12 := by simp only [xs4, List.length_append, List.length_cons, List.length_nil, List.length_take]; omega
      have hwl : ws.length = (xs4 ns).length := hI2.length
      refine' list_led (σ := Nat × List Value) (vs := ws) (fun _ y => if y = Str.ofString "lines" then some (.ref ll) else mr y) (fun c => [(ll, W.listOf c.2.toArray c.1), (D0, W.listOf ws.toArray 0), (s₁.heap.objs.size + 1 + 1, oK), (s₁.heap.objs.size + 1, oC), (130, tabObj #[])]) (fun i c => i ≤ ws.length ∧ StrsAre c.2 ((List.range i).map fun (j : Nat) => lnTx ((xs4 ns).getD j 0))) (fun c => StrsAre c.2 (lines4 ns)) (0, []) rfl (.inr ⟨0, fun c => .tail _ (.head _)⟩) F2 N2 (fun p hp => hp) (fun z _ => rfl) ⟨Nat.zero_le _, .nil⟩ ?turn1 ?ends1 ?done1
      case ends1 =>
        rintro c ⟨_, h⟩
        rw [hwl, map_range (xs4 ns) (0 : Int) lnTx] at h
        exact h
      case done1 =>
        rintro ⟨ep, vl⟩ u h tk e1 F7 N7
        dsimp only at e1 F7 N7
        refine wpAny_execs_nil ?_
        have em : (fun y => if y = Str.ofString "x" then u y else if y = Str.ofString "lines" then some (.ref ll) else mr y) = fun y => if y = Str.ofString "lines" then some (.ref ll) else (if y = Str.ofString "x" then u y else mr y) := by
          funext y
          by_cases h1 : y = Str.ofString "lines"
          · subst h1
            rw [if_neg (by decide), if_pos rfl, if_pos rfl]
          · simp only [h1, if_false]
        rw [em] at F7
        exact ⟨rfl, ll, ep, vl, oC, oK, _, h, tk, rfl, F7, news_sub N7 (List.forall_mem_cons.mpr ⟨.head _, List.forall_mem_cons.mpr ⟨.tail _ (.tail _ (.head _)), List.forall_mem_cons.mpr ⟨.tail _ (.tail _ (.tail _ (.head _))), List.forall_mem_cons.mpr ⟨.tail _ (.tail _ (.tail _ (.tail _ (.head _)))), List.forall_mem_nil _⟩⟩⟩⟩), dC, dK, e1, r2, r4⟩
      case turn1 =>
        rintro i v ⟨ep, vl⟩ I oI h tk hv ⟨e0, e1⟩ hoff F7 N7
        dsimp only at e1 e0 F7 N7
        simp only [List.cons_append, List.nil_append] at N7
        have hv2 : ws.toArray[i]? = some v := by rw [List.getElem?_toArray]; exact hv
        obtain ⟨t, hl, hvt⟩ := ints_item hI2 hv2
        obtain ⟨a, ha, hvt2⟩ : ∃ (a : Int), a = (xs4 ns).getD i 0 ∧ v = .int a t := ⟨_, rfl, hvt⟩
        clear hvt
        subst hvt2
        have hvl : vl.length ≤ 1000 := by rw [e1.length, List.length_map, List.length_range]; omega
        have hm1 := fmod_bd (k := 4) a (by decide)
        have hm2 := fmod_bd (k := 3) (a.fdiv 4) (by decide)
        have hm3 := fmod_bd (k := 4) (a.fdiv 12) (by decide)
        have hn1 : (Txt.mul (Str.ofString " ") (a.fmod 4)).length ≤ 3 := by rw [ofSp]; exact mul_len1 (by omega)
        have hn2 : (Txt.mul (Str.ofString "\t") ((a.fdiv 4).fmod 3)).length ≤ 2 := by rw [ofTab]; exact mul_len1 (by omega)
        have hn3 : (Txt.mul (Str.ofString " ") ((a.fdiv 12).fmod 4)).length ≤ 3 := by rw [ofSp]; exact mul_len1 (by omega)
        have hn4 : (Txt.mul (Str.ofString " ") (a.fmod 4) ++ Txt.mul (Str.ofString "\t") ((a.fdiv 4).fmod 3)).length ≤ 5 := by rw [Str.length_append]; omega
        have hn5 : (Txt.mul (Str.ofString " ") (a.fmod 4) ++ Txt.mul (Str.ofString "\t") ((a.fdiv 4).fmod 3) ++ Txt.mul (Str.ofString " ") ((a.fdiv 12).fmod 4)).length ≤ 8 := by rw [Str.length_append]; omega
        have hLI := neN (Ne.symm (hoff _ (.head _)))
        dsimp only at hLI
        (try k_fold)
        (repeat' ((fail_if_success (with_reducible show wpAny _ _ (pyIter _) _ _ _)); (fail_if_success (with_reducible show wpAny _ _ (exec (Stmt.Try _ _ _ _ _) _) _ _ _)); (fail_if_success (with_reducible show wpAny _ _ (exec (Stmt.While _ _ _ _) _) _ _ _)); (fail_if_success (with_reducible show wpAny _ _ (call (Value.ref 142) _) _ _ _)); (fail_if_success (with_reducible show wpAny _ _ (compareOp CmpOp.Eq (Value.ref _) (Value.ref _)) _ _ _)); (fail_if_success (with_reducible show wpAny _ _ (compareOp CmpOp.NotEq (Value.ref _) (Value.ref _)) _ _ _)); (fail_if_success (with_reducible show CutEnd _ _ _)); (fail_if_success (with_reducible show CompH _ _ _ _ _ _ _ _ _ _ _ _ _ _ _)); (fail_if_success (with_reducible show LCg.CompSrc _ _ _ _ _ _ _ _ _ _ _ _ _ _)); (fail_if_success (with_reducible show LCt.CompSrcT _ _ _ _ _ _ _ _ _ _ _ _ _ _ _)); first | (k_unfold; (try dsimp only)) | (k_end; wrow_close) | ((with_reducible show wpAny _ _ (call (Value.ref _) _) _ _ _); (first | (k_here; (try dsimp only [List.cons_append, List.nil_append]); (with_reducible show wpAny _ _ (call (Value.ref 149) [Value.str _ _]) _ _ _); k_dflt (refine' cols04_use (by k_asm) (by k_asm) (by k_asm) (by k_asm) (by exact rfl) (by k_asm) (by first | assumption | omega) (by ktr_room) (by ktr_units) ?_; k_whole); intro _ _ _ _ _ _ _ _ _ _; (try k_sweep)) | (k_here; (try dsimp only [List.cons_append, List.nil_append]); (with_reducible show wpAny _ _ (call (Value.ref 59) [_, _, _]) _ _ _); k_dflt (refine' nag04_use (by k_asm) (by k_asm) (by k_asm) (by k_asm) (by exact rfl) (by k_asm) (by ktr_room) (by ktr_units) ?_; k_whole); intro _ _ _ _ _ _ _ _ _ _ _ _; (try k_sweep)) | (k_here; (try dsimp only [List.cons_append, List.nil_append]); (with_reducible show wpAny _ _ (call (Value.ref 121) [Value.ref _, Value.ref _]) _ _ _); k_dflt (refine' nl04_use (by k_asm) (by k_asm) (by k_asm) (by k_asm) (by exact rfl) (by k_asm) (by k_mem) (by k_mem) (by k_mem) (by k_mem) (by k_mem) (by k_mem) (by k_mem) (by k_mem) (by assumption) (by assumption) (by omega) (by omega) (by omega) (by omega) (by omega) (by omega) (by omega) (by omega) (by assumption) (by assumption) (by omega) (by omega) (by omega) (by omega) (by omega) (by omega) (by omega) (by omega) (by ktr_room) (by ktr_units) ?_; k_whole); intro _ _ _ _ _ _ _ _ _; (try k_sweep)) | (k_here; (try dsimp only [List.cons_append, List.nil_append]); (with_reducible show wpAny _ _ (call (Value.ref 114) [Value.ref _, Value.ref _]) _ _ _); k_dflt (refine' ls04_use (by k_asm) (by k_asm) (by k_asm) (by k_asm) (by exact rfl) (by k_asm) (by k_mem) (by k_mem) (by k_mem) (by k_mem) (by k_mem) (by k_mem) (by k_mem) (by k_mem) (by assumption) (by assumption) (by omega) (by omega) (by omega) (by omega) (by omega) (by omega) (by omega) (by omega) (by assumption) (by assumption) (by omega) (by omega) (by omega) (by omega) (by omega) (by omega) (by omega) (by omega) (by ktr_room) (by ktr_units) ?_; k_whole); intro _ _ _ _; (try k_sweep)) | (k_here; (try dsimp only [List.cons_append, List.nil_append]); (with_reducible show wpAny _ _ (call (Value.ref 124) [Value.str _ _]) _ _ _); k_dflt (refine' ws04_use (by k_asm) (by k_asm) (by k_asm) (by k_asm) (by k_asm) (by exact rfl) (by first | assumption | omega) (by ktr_room) (by ktr_units) ?_; k_whole); intro _ _ _ _ _ _ _ _ _ _ _ _ _ _ _ _ _ _ _ _; walk_at "L3"; (try k_sweep)) | (k_here; (try dsimp only [List.cons_append, List.nil_append]); (with_reducible show wpAny _ _ (call (Value.ref 86) [Value.ref _]) _ _ _); k_dflt (refine' lr04_use (by k_asm) (by k_asm) (by k_asm) (by k_asm) (by exact rfl) (by k_asm) (by k_mem) (by k_mem) (by k_mem) (by k_mem) (by assumption) (by omega) (by omega) (by omega) (by omega) (by ktr_room) (by ktr_units) ?_; k_whole); intro _ _ _ _ _; (try k_sweep)) | (k_here; (try dsimp only [List.cons_append, List.nil_append]); (with_reducible show wpAny _ _ (call (Value.ref 93) [Value.ref _, Value.int _ _]) _ _ _); k_dflt (refine' il04_use (by k_asm) (by k_asm) (by k_asm) (by k_asm) (by exact rfl) (by k_asm) (by k_mem) (by k_mem) (by k_mem) (by k_mem) (by assumption) (by omega) (by omega) (by omega) (by omega) (by assumption) (by omega) (by omega) (by omega) (by omega) (by omega) (by omega) (by ktr_room) (by ktr_units) ?_; k_whole); intro _ _ _ _ _; (try k_sweep)))) | walk1 | (dsimp only; walk1) | (leave1; walk_say "STEP leave1"; try dsimp only) | fail "no step"))
        rename Fr _ _ _ _ => FZ
        rename News _ _ _ _ => NZ
        refine' ⟨(ep + 1, vl ++ [_]), _, _, _, rfl, FZ, NZ, ?map9, ?off9, ⟨by omega, ?inv9⟩⟩
        case off9 => exact List.forall_mem_cons.mpr ⟨hoff (ll, W.listOf vl.toArray ep) (.head _), fun p hp => hoff p (.tail _ hp)⟩
        case map9 => (intro z hz; simp only [hz, if_false])
        case inv9 =>
          show StrsAre _ _
          rw [List.range_succ, List.map_append, List.map_singleton, ← ha]
          exact e1.append' (.cons _ _ .nil)
    case hB =>
      rintro s' ⟨ll, ep, vl, oC, oK, m3, h3, tk3, rfl, F1, N1, ⟨vC, dC⟩, ⟨vK, dK⟩, hSl, q1, q2⟩
      have hll := lines_len ns
      have hvl : vl.length = (lines4 ns).length := hSl.length
      dsimp only [List.drop]
      (try k_fold)
      refine execs_cut 1 (Mid2 (ghostOf s₁.heap [(134, 130)]) s₁.heap.objs.size ns s₁) ?hA2 ?hB2
      case hA2 =>
        (repeat' ((fail_if_success (with_reducible show wpAny _ _ (pyIter _) _ _ _)); (fail_if_success (with_reducible show wpAny _ _ (exec (Stmt.Try _ _ _ _ _) _) _ _ _)); (fail_if_success (with_reducible show wpAny _ _ (exec (Stmt.While _ _ _ _) _) _ _ _)); (fail_if_success (with_reducible show wpAny _ _ (call (Value.ref 142) _) _ _ _)); (fail_if_success (with_reducible show wpAny _ _ (compareOp CmpOp.Eq (Value.ref _) (Value.ref _)) _ _ _)); (fail_if_success (with_reducible show wpAny _ _ (compareOp CmpOp.NotEq (Value.ref _) (Value.ref _)) _ _ _)); (fail_if_success (with_reducible show CutEnd _ _ _)); (fail_if_success (with_reducible show CompH _ _ _ _ _ _ _ _ _ _ _ _ _ _ _)); (fail_if_success (with_reducible show LCg.CompSrc _ _ _ _ _ _ _ _ _ _ _ _ _ _)); (fail_if_success (with_reducible show LCt.CompSrcT _ _ _ _ _ _ _ _ _ _ _ _ _ _ _)); first | (k_unfold; (try dsimp only)) | (k_end; wrow_close) | ((with_reducible show wpAny _ _ (call (Value.ref _) _) _ _ _); (first | (k_here; (try dsimp only [List.cons_append, List.nil_append]); (with_reducible show wpAny _ _ (call (Value.ref 149) [Value.str _ _]) _ _ _); k_dflt (refine' cols04_use (by k_asm) (by k_asm) (by k_asm) (by k_asm) (by exact rfl) (by k_asm) (by first | assumption | omega) (by ktr_room) (by ktr_units) ?_; k_whole); intro _ _ _ _ _ _ _ _ _ _; (try k_sweep)) | (k_here; (try dsimp only [List.cons_append, List.nil_append]); (with_reducible show wpAny _ _ (call (Value.ref 59) [_, _, _]) _ _ _); k_dflt (refine' nag04_use (by k_asm) (by k_asm) (by k_asm) (by k_asm) (by exact rfl) (by k_asm) (by ktr_room) (by ktr_units) ?_; k_whole); intro _ _ _ _ _ _ _ _ _ _ _ _; (try k_sweep)) | (k_here; (try dsimp only [List.cons_append, List.nil_append]); (with_reducible show wpAny _ _ (call (Value.ref 121) [Value.ref _, Value.ref _]) _ _ _); k_dflt (refine' nl04_use (by k_asm) (by k_asm) (by k_asm) (by k_asm) (by exact rfl) (by k_asm) (by k_mem) (by k_mem) (by k_mem) (by k_mem) (by k_mem) (by k_mem) (by k_mem) (by k_mem) (by assumption) (by assumption) (by omega) (by omega) (by omega) (by omega) (by omega) (by omega) (by omega) (by omega) (by assumption) (by assumption) (by omega) (by omega) (by omega) (by omega) (by omega) (by omega) (by omega) (by omega) (by ktr_room) (by ktr_units) ?_; k_whole); intro _ _ _ _ _ _ _ _ _; (try k_sweep)) | (k_here; (try dsimp only [List.cons_append, List.nil_append]); (with_reducible show wpAny _ _ (call (Value.ref 114) [Value.ref _, Value.ref _]) _ _ _); k_dflt (refine' ls04_use (by k_asm) (by k_asm) (by k_asm) (by k_asm) (by exact rfl) (by k_asm) (by k_mem) (by k_mem) (by k_mem) (by k_mem) (by k_mem) (by k_mem) (by k_mem) (by k_mem) (by assumption) (by assumption) (by omega) (by omega) (by omega) (by omega) (by omega) (by omega) (by omega) (by omega) (by assumption) (by assumption) (by omega) (by omega) (by omega) (by omega) (by omega) (by omega) (by omega) (by omega) (by ktr_room) (by ktr_units) ?_; k_whole); intro _ _ _ _; (try k_sweep)) | (k_here; (try dsimp only [List.cons_append, List.nil_append]); (with_reducible show wpAny _ _ (call (Value.ref 124) [Value.str _ _]) _ _ _); k_dflt (refine' ws04_use (by k_asm) (by k_asm) (by k_asm) (by k_asm) (by k_asm) (by exact rfl) (by first | assumption | omega) (by ktr_room) (by ktr_units) ?_; k_whole); intro _ _ _ _ _ _ _ _ _ _ _ _ _ _ _ _ _ _ _ _; walk_at "L3"; (try k_sweep)) | (k_here; (try dsimp only [List.cons_append, List.nil_append]); (with_reducible show wpAny _ _ (call (Value.ref 86) [Value.ref _]) _ _ _); k_dflt (refine' lr04_use (by k_asm) (by k_asm) (by k_asm) (by k_asm) (by exact rfl) (by k_asm) (by k_mem) (by k_mem) (by k_mem) (by k_mem) (by assumption) (by omega) (by omega) (by omega) (by omega) (by ktr_room) (by ktr_units) ?_; k_whole); intro _ _ _ _ _; (try k_sweep)) | (k_here; (try dsimp only [List.cons_append, List.nil_append]); (with_reducible show wpAny _ _ (call (Value.ref 93) [Value.ref _, Value.int _ _]) _ _ _); k_dflt (refine' il04_use (by k_asm) (by k_asm) (by k_asm) (by k_asm) (by exact rfl) (by k_asm) (by k_mem) (by k_mem) (by k_mem) (by k_mem) (by assumption) (by omega) (by omega) (by omega) (by omega) (by assumption) (by omega) (by omega) (by omega) (by omega) (by omega) (by omega) (by ktr_room) (by ktr_units) ?_; k_whole); intro _ _ _ _ _; (try k_sweep)))) | walk1 | (dsimp only; walk1) | (leave1; walk_say "STEP leave1"; try dsimp only) | fail "no step"))
        rename Fr _ _ _ _ => F2
        rename News _ _ _ _ => N2
        refine' LCg.CompSrc.ledger rfl F2 N2 (.head _) ?hsz1 ?_
        case hsz1 => (rw [List.size_toArray, hvl, PySem.sizeLine_eq]; omega)
        intro g1
        obtain ⟨base, hbase⟩ : ∃ (base : List (Addr × Obj)), base = [(ll, W.listOf vl.toArray ep), (s₁.heap.objs.size + 1 + 1, oK), (s₁.heap.objs.size + 1, oC), (130, tabObj #[])] := ⟨_, rfl⟩
        have hS0 : ∀ c : List Col, LCg.SrcAt (ghostOf s₁.heap [(134, 130)]) ll vl.toArray (base ++ c.map Col.ent) := fun c => .inr ⟨_, by rw [hbase]; exact .head _, rfl, _, rfl⟩
        refine' comp_led (σ := List Col) (fun c => base ++ c.map Col.ent) (fun i ys c => (c.length = i ∧ (∀ j d, c[j]? = some d → IntsAre d.vs (colsOf ((lines4 ns).getD j ⟨#[]⟩))) ∧ ∀ d ∈ c, (@Ne Nat d.D (s₁.heap.objs.size + 1 + 1)) ∧ (@Ne Nat d.D (s₁.heap.objs.size + 1)) ∧ (@Ne Nat d.D 130) ∧ (@Ne Nat d.D ll)) ∧ ys = c.map fun d => Value.ref d.D) [] (by rw [hbase]; rfl) ⟨⟨rfl, by simp, by simp⟩, rfl⟩ ?turn2 ?fin2
        case turn2 =>
          rintro i v ys c I oI C oC' D m2 h tk E hi hP ⟨⟨e1, e2, e3⟩, rfl⟩ hC hx F3 N4 off ne
          rw [hbase] at N4
          simp only [List.cons_append, List.nil_append] at N4
          have hi2 : i < (lines4 ns).length := by rw [← hvl]; simpa using hi
          obtain ⟨t, et⟩ := strs_at hSl hi2
          have hv2 : v = .str ((lines4 ns).getD i ⟨#[]⟩) t := by
            have : vl[i]? = some v := by simpa using hP
            rw [et] at this
            exact (Option.some.inj this).symm
          subst hv2
          have hl9 : ((lines4 ns).getD i ⟨#[]⟩).length ≤ 100 := by
            rw [lines_getD hi2]; exact Nat.le_trans (lnTx_len _) (by decide)
          (repeat' ((fail_if_success (with_reducible show wpAny _ _ (pyIter _) _ _ _)); (fail_if_success (with_reducible show wpAny _ _ (exec (Stmt.Try _ _ _ _ _) _) _ _ _)); (fail_if_success (with_reducible show wpAny _ _ (exec (Stmt.While _ _ _ _) _) _ _ _)); (fail_if_success (with_reducible show wpAny _ _ (call (Value.ref 142) _) _ _ _)); (fail_if_success (with_reducible show wpAny _ _ (compareOp CmpOp.Eq (Value.ref _) (Value.ref _)) _ _ _)); (fail_if_success (with_reducible show wpAny _ _ (compareOp CmpOp.NotEq (Value.ref _) (Value.ref _)) _ _ _)); (fail_if_success (with_reducible show CutEnd _ _ _)); (fail_if_success (with_reducible show CompH _ _ _ _ _ _ _ _ _ _ _ _ _ _ _)); (fail_if_success (with_reducible show LCg.CompSrc _ _ _ _ _ _ _ _ _ _ _ _ _ _)); (fail_if_success (with_reducible show LCt.CompSrcT _ _ _ _ _ _ _ _ _ _ _ _ _ _ _)); first | (k_unfold; (try dsimp only)) | (k_end; wrow_close) | ((with_reducible show wpAny _ _ (call (Value.ref _) _) _ _ _); (first | (k_here; (try dsimp only [List.cons_append, List.nil_append]); (with_reducible show wpAny _ _ (call (Value.ref 149) [Value.str _ _]) _ _ _); k_dflt (refine' cols04_use (by k_asm) (by k_asm) (by k_asm) (by k_asm) (by exact rfl) (by k_asm) (by first | assumption | omega) (by ktr_room) (by ktr_units) ?_; k_whole); intro _ _ _ _ _ _ _ _ _ _; (try k_sweep)) | (k_here; (try dsimp only [List.cons_append, List.nil_append]); (with_reducible show wpAny _ _ (call (Value.ref 59) [_, _, _]) _ _ _); k_dflt (refine' nag04_use (by k_asm) (by k_asm) (by k_asm) (by k_asm) (by exact rfl) (by k_asm) (by ktr_room) (by ktr_units) ?_; k_whole); intro _ _ _ _ _ _ _ _ _ _ _ _; (try k_sweep)) | (k_here; (try dsimp only [List.cons_append, List.nil_append]); (with_reducible show wpAny _ _ (call (Value.ref 121) [Value.ref _, Value.ref _]) _ _ _); k_dflt (refine' nl04_use (by k_asm) (by k_asm) (by k_asm) (by k_asm) (by exact rfl) (by k_asm) (by k_mem) (by k_mem) (by k_mem) (by k_mem) (by k_mem) (by k_mem) (by k_mem) (by k_mem) (by assumption) (by assumption) (by omega) (by omega) (by omega) (by omega) (by omega) (by omega) (by omega) (by omega) (by assumption) (by assumption) (by omega) (by omega) (by omega) (by omega) (by omega) (by omega) (by omega) (by omega) (by ktr_room) (by ktr_units) ?_; k_whole); intro _ _ _ _ _ _ _ _ _; (try k_sweep)) | (k_here; (try dsimp only [List.cons_append, List.nil_append]); (with_reducible show wpAny _ _ (call (Value.ref 114) [Value.ref _, Value.ref _]) _ _ _); k_dflt (refine' ls04_use (by k_asm) (by k_asm) (by k_asm) (by k_asm) (by exact rfl) (by k_asm) (by k_mem) (by k_mem) (by k_mem) (by k_mem) (by k_mem) (by k_mem) (by k_mem) (by k_mem) (by assumption) (by assumption) (by omega) (by omega) (by omega) (by omega) (by omega) (by omega) (by omega) (by omega) (by assumption) (by assumption) (by omega) (by omega) (by omega) (by omega) (by omega) (by omega) (by omega) (by omega) (by ktr_room) (by ktr_units) ?_; k_whole); intro _ _ _ _; (try k_sweep)) | (k_here; (try dsimp only [List.cons_append, List.nil_append]); (with_reducible show wpAny _ _ (call (Value.ref 124) [Value.str _ _]) _ _ _); k_dflt (refine' ws04_use (by k_asm) (by k_asm) (by k_asm) (by k_asm) (by k_asm) (by exact rfl) (by first | assumption | omega) (by ktr_room) (by ktr_units) ?_; k_whole); intro _ _ _ _ _ _ _ _ _ _ _ _ _ _ _ _ _ _ _ _; walk_at "L3"; (try k_sweep)) | (k_here; (try dsimp only [List.cons_append, List.nil_append]); (with_reducible show wpAny _ _ (call (Value.ref 86) [Value.ref _]) _ _ _); k_dflt (refine' lr04_use (by k_asm) (by k_asm) (by k_asm) (by k_asm) (by exact rfl) (by k_asm) (by k_mem) (by k_mem) (by k_mem) (by k_mem) (by assumption) (by omega) (by omega) (by omega) (by omega) (by ktr_room) (by ktr_units) ?_; k_whole); intro _ _ _ _ _; (try k_sweep)) | (k_here; (try dsimp only [List.cons_append, List.nil_append]); (with_reducible show wpAny _ _ (call (Value.ref 93) [Value.ref _, Value.int _ _]) _ _ _); k_dflt (refine' il04_use (by k_asm) (by k_asm) (by k_asm) (by k_asm) (by exact rfl) (by k_asm) (by k_mem) (by k_mem) (by k_mem) (by k_mem) (by assumption) (by omega) (by omega) (by omega) (by omega) (by assumption) (by omega) (by omega) (by omega) (by omega) (by omega) (by omega) (by ktr_room) (by ktr_units) ?_; k_whole); intro _ _ _ _ _; (try k_sweep)))) | walk1 | (dsimp only; walk1) | (leave1; walk_say "STEP leave1"; try dsimp only) | fail "no step"))
          rename_i D9 ep9 vs9 _ _ F9 N9 hI9 off9 _
          refine' ⟨c ++ [⟨D9, ep9, vs9⟩], _, _, rfl, F9, ?N9, ?off9, hS0 _, ⟨⟨?len9, ?ok9, ?adr9⟩, ?ys9⟩⟩
          case N9 =>
            rw [hbase]
            simp only [List.map_append, List.map_cons, List.map_nil, List.cons_append, List.nil_append]
            refine fun p hp => N9 p ?_
            simp only [List.mem_cons, List.mem_append, List.not_mem_nil, or_false] at hp ⊢
            grind
          case off9 =>
            refine LCg.Off3.of fun p hp => ?_
            rcases List.mem_append.mp hp with hp | hp
            · exact off.mem p (List.mem_append.mpr (.inl hp))
            rw [List.map_append] at hp
            rcases List.mem_append.mp hp with hp | hp
            · exact off.mem p (List.mem_append.mpr (.inr hp))
            rw [List.mem_singleton.mp hp]
            exact ⟨Ne.symm (off9 (I, oI) (.head _)), Ne.symm (off9 (C, oC') (.tail _ (.head _))), Ne.symm (off9 (D, LCg.lst (c.map fun d => Value.ref d.D)) (.tail _ (.tail _ (.head _))))⟩
          case len9 => simp [e1]
          case ok9 =>
            intro j d hj
            by_cases q : j < c.length
            · rw [List.getElem?_append_left q] at hj
              exact e2 j d hj
            · rw [List.getElem?_append_right (by omega)] at hj
              have h0 : j - c.length = 0 := by
                rcases Nat.eq_zero_or_pos (j - c.length) with h0 | h0
                · exact h0
                · rw [List.getElem?_eq_none (by simp; omega)] at hj; cases hj
              rw [h0] at hj
              cases hj
              rw [show j = i by omega]
              exact hI9
          case adr9 =>
            intro d hd
            rcases List.mem_append.mp hd with hd | hd
            · exact e3 d hd
            · rw [List.mem_singleton.mp hd]
              exact ⟨Ne.symm (off9 (s₁.heap.objs.size + 1 + 1, oK) (by k_mem)), Ne.symm (off9 (s₁.heap.objs.size + 1, oC) (by k_mem)), Ne.symm (off9 (130, tabObj #[]) (by k_mem)), Ne.symm (off9 (ll, W.listOf vl.toArray ep) (by k_mem))⟩
          case ys9 => rw [List.map_append]; rfl
        case fin2 =>
          rintro ys c ⟨⟨e1, e2, e3⟩, rfl⟩ D2 h2 tk2 F4 N4 off2
          dsimp only
          have hoff2 : ∀ p ∈ base ++ c.map Col.ent, (p.1 : Nat) ≠ D2 := fun p hp => off1_mem off2 p hp
          clear off2
          have d1 := neN (Ne.symm (hoff2 (s₁.heap.objs.size + 1, oC) (by rw [hbase]; k_mem)))
          have d2 := neN (Ne.symm (hoff2 (s₁.heap.objs.size + 1 + 1, oK) (by rw [hbase]; k_mem)))
          have d3 := neN (Ne.symm (hoff2 (130, tabObj #[]) (by rw [hbase]; k_mem)))
          have d4 := neN (Ne.symm (hoff2 (ll, W.listOf vl.toArray ep) (by rw [hbase]; k_mem)))
          dsimp only at d1 d2 d3 d4
          have ht1 : ∀ p ∈ c.map Col.ent, p.1 ≠ s₁.heap.objs.size + 1 := fun p hp => by
            obtain ⟨d, hd, rfl⟩ := List.mem_map.mp hp
            exact (e3 d hd).2.1
          rw [hbase] at N4
          simp only [List.cons_append, List.nil_append] at N4
          (repeat' ((fail_if_success (with_reducible show wpAny _ _ (pyIter _) _ _ _)); (fail_if_success (with_reducible show wpAny _ _ (exec (Stmt.Try _ _ _ _ _) _) _ _ _)); (fail_if_success (with_reducible show wpAny _ _ (exec (Stmt.While _ _ _ _) _) _ _ _)); (fail_if_success (with_reducible show wpAny _ _ (call (Value.ref 142) _) _ _ _)); (fail_if_success (with_reducible show wpAny _ _ (compareOp CmpOp.Eq (Value.ref _) (Value.ref _)) _ _ _)); (fail_if_success (with_reducible show wpAny _ _ (compareOp CmpOp.NotEq (Value.ref _) (Value.ref _)) _ _ _)); (fail_if_success (with_reducible show CutEnd _ _ _)); (fail_if_success (with_reducible show CompH _ _ _ _ _ _ _ _ _ _ _ _ _ _ _)); (fail_if_success (with_reducible show LCg.CompSrc _ _ _ _ _ _ _ _ _ _ _ _ _ _)); (fail_if_success (with_reducible show LCt.CompSrcT _ _ _ _ _ _ _ _ _ _ _ _ _ _ _)); first | (k_unfold; (try dsimp only)) | (k_end; wrow_close) | ((with_reducible show wpAny _ _ (call (Value.ref _) _) _ _ _); (first | (k_here; (try dsimp only [List.cons_append, List.nil_append]); (with_reducible show wpAny _ _ (call (Value.ref 149) [Value.str _ _]) _ _ _); k_dflt (refine' cols04_use (by k_asm) (by k_asm) (by k_asm) (by k_asm) (by exact rfl) (by k_asm) (by first | assumption | omega) (by ktr_room) (by ktr_units) ?_; k_whole); intro _ _ _ _ _ _ _ _ _ _; (try k_sweep)) | (k_here; (try dsimp only [List.cons_append, List.nil_append]); (with_reducible show wpAny _ _ (call (Value.ref 59) [_, _, _]) _ _ _); k_dflt (refine' nag04_use (by k_asm) (by k_asm) (by k_asm) (by k_asm) (by exact rfl) (by k_asm) (by ktr_room) (by ktr_units) ?_; k_whole); intro _ _ _ _ _ _ _ _ _ _ _ _; (try k_sweep)) | (k_here; (try dsimp only [List.cons_append, List.nil_append]); (with_reducible show wpAny _ _ (call (Value.ref 121) [Value.ref _, Value.ref _]) _ _ _); k_dflt (refine' nl04_use (by k_asm) (by k_asm) (by k_asm) (by k_asm) (by exact rfl) (by k_asm) (by k_mem) (by k_mem) (by k_mem) (by k_mem) (by k_mem) (by k_mem) (by k_mem) (by k_mem) (by assumption) (by assumption) (by omega) (by omega) (by omega) (by omega) (by omega) (by omega) (by omega) (by omega) (by assumption) (by assumption) (by omega) (by omega) (by omega) (by omega) (by omega) (by omega) (by omega) (by omega) (by ktr_room) (by ktr_units) ?_; k_whole); intro _ _ _ _ _ _ _ _ _; (try k_sweep)) | (k_here; (try dsimp only [List.cons_append, List.nil_append]); (with_reducible show wpAny _ _ (call (Value.ref 114) [Value.ref _, Value.ref _]) _ _ _); k_dflt (refine' ls04_use (by k_asm) (by k_asm) (by k_asm) (by k_asm) (by exact rfl) (by k_asm) (by k_mem) (by k_mem) (by k_mem) (by k_mem) (by k_mem) (by k_mem) (by k_mem) (by k_mem) (by assumption) (by assumption) (by omega) (by omega) (by omega) (by omega) (by omega) (by omega) (by omega) (by omega) (by assumption) (by assumption) (by omega) (by omega) (by omega) (by omega) (by omega) (by omega) (by omega) (by omega) (by ktr_room) (by ktr_units) ?_; k_whole); intro _ _ _ _; (try k_sweep)) | (k_here; (try dsimp only [List.cons_append, List.nil_append]); (with_reducible show wpAny _ _ (call (Value.ref 124) [Value.str _ _]) _ _ _); k_dflt (refine' ws04_use (by k_asm) (by k_asm) (by k_asm) (by k_asm) (by k_asm) (by exact rfl) (by first | assumption | omega) (by ktr_room) (by ktr_units) ?_; k_whole); intro _ _ _ _ _ _ _ _ _ _ _ _ _ _ _ _ _ _ _ _; walk_at "L3"; (try k_sweep)) | (k_here; (try dsimp only [List.cons_append, List.nil_append]); (with_reducible show wpAny _ _ (call (Value.ref 86) [Value.ref _]) _ _ _); k_dflt (refine' lr04_use (by k_asm) (by k_asm) (by k_asm) (by k_asm) (by exact rfl) (by k_asm) (by k_mem) (by k_mem) (by k_mem) (by k_mem) (by assumption) (by omega) (by omega) (by omega) (by omega) (by ktr_room) (by ktr_units) ?_; k_whole); intro _ _ _ _ _; (try k_sweep)) | (k_here; (try dsimp only [List.cons_append, List.nil_append]); (with_reducible show wpAny _ _ (call (Value.ref 93) [Value.ref _, Value.int _ _]) _ _ _); k_dflt (refine' il04_use (by k_asm) (by k_asm) (by k_asm) (by k_asm) (by exact rfl) (by k_asm) (by k_mem) (by k_mem) (by k_mem) (by k_mem) (by assumption) (by omega) (by omega) (by omega) (by omega) (by assumption) (by omega) (by omega) (by omega) (by omega) (by omega) (by omega) (by ktr_room) (by ktr_units) ?_; k_whole); intro _ _ _ _ _; (try k_sweep)))) | walk1 | (dsimp only; walk1) | (leave1; walk_say "STEP leave1"; try dsimp only) | fail "no step"))
          rename Fr _ _ _ _ => FZ
          rename News _ _ _ _ => NZ
          refine wpAny_execs_nil ?_
          refine ⟨rfl, ll, D2, ep, vl, c, _, oK, m3, _, _, rfl, FZ, NZ, ?_, ⟨vK, dK⟩, hSl, by rw [e1, List.size_toArray, hvl], e2, q1, q2, e3, d4, d2, d1, d3⟩
          assumption
      case hB2 =>
        rintro s' ⟨ll, lc, ep, vl, cols, oC, oK, m3, h3, tk3, rfl, F1, N1, dC, ⟨vK, dK⟩, hSl, hcl, hci, q1, q2, q3, q4, q5, q6, q7⟩
        have hll := lines_len ns
        have hvl : vl.length = (lines4 ns).length := hSl.length
        have hvl2 : vl.length ≤ 1000000 := by omega
        dsimp only [List.drop]
        (try k_fold)
        refine execs_cut 2 (Mid4 (ghostOf s₁.heap [(134, 130)]) s₁.heap.objs.size ns s₁) ?hA3 ?hB3
        case hA3 =>
          simp only [List.cons_append, List.nil_append] at N1
          (repeat' ((fail_if_success (with_reducible show wpAny _ _ (pyIter _) _ _ _)); (fail_if_success (with_reducible show wpAny _ _ (exec (Stmt.Try _ _ _ _ _) _) _ _ _)); (fail_if_success (with_reducible show wpAny _ _ (exec (Stmt.While _ _ _ _) _) _ _ _)); (fail_if_success (with_reducible show wpAny _ _ (call (Value.ref 142) _) _ _ _)); (fail_if_success (with_reducible show wpAny _ _ (compareOp CmpOp.Eq (Value.ref _) (Value.ref _)) _ _ _)); (fail_if_success (with_reducible show wpAny _ _ (compareOp CmpOp.NotEq (Value.ref _) (Value.ref _)) _ _ _)); (fail_if_success (with_reducible show CutEnd _ _ _)); (fail_if_success (with_reducible show CompH _ _ _ _ _ _ _ _ _ _ _ _ _ _ _)); (fail_if_success (with_reducible show LCg.CompSrc _ _ _ _ _ _ _ _ _ _ _ _ _ _)); (fail_if_success (with_reducible show LCt.CompSrcT _ _ _ _ _ _ _ _ _ _ _ _ _ _ _)); first | (k_unfold; (try dsimp only)) | (k_end; wrow_close) | ((with_reducible show wpAny _ _ (call (Value.ref _) _) _ _ _); (first | (k_here; (try dsimp only [List.cons_append, List.nil_append]); (with_reducible show wpAny _ _ (call (Value.ref 149) [Value.str _ _]) _ _ _); k_dflt (refine' cols04_use (by k_asm) (by k_asm) (by k_asm) (by k_asm) (by exact rfl) (by k_asm) (by first | assumption | omega) (by ktr_room) (by ktr_units) ?_; k_whole); intro _ _ _ _ _ _ _ _ _ _; (try k_sweep)) | (k_here; (try dsimp only [List.cons_append, List.nil_append]); (with_reducible show wpAny _ _ (call (Value.ref 59) [_, _, _]) _ _ _); k_dflt (refine' nag04_use (by k_asm) (by k_asm) (by k_asm) (by k_asm) (by exact rfl) (by k_asm) (by ktr_room) (by ktr_units) ?_; k_whole); intro _ _ _ _ _ _ _ _ _ _ _ _; (try k_sweep)) | (k_here; (try dsimp only [List.cons_append, List.nil_append]); (with_reducible show wpAny _ _ (call (Value.ref 121) [Value.ref _, Value.ref _]) _ _ _); k_dflt (refine' nl04_use (by k_asm) (by k_asm) (by k_asm) (by k_asm) (by exact rfl) (by k_asm) (by k_mem) (by k_mem) (by k_mem) (by k_mem) (by k_mem) (by k_mem) (by k_mem) (by k_mem) (by assumption) (by assumption) (by omega) (by omega) (by omega) (by omega) (by omega) (by omega) (by omega) (by omega) (by assumption) (by assumption) (by omega) (by omega) (by omega) (by omega) (by omega) (by omega) (by omega) (by omega) (by ktr_room) (by ktr_units) ?_; k_whole); intro _ _ _ _ _ _ _ _ _; (try k_sweep)) | (k_here; (try dsimp only [List.cons_append, List.nil_append]); (with_reducible show wpAny _ _ (call (Value.ref 114) [Value.ref _, Value.ref _]) _ _ _); k_dflt (refine' ls04_use (by k_asm) (by k_asm) (by k_asm) (by k_asm) (by exact rfl) (by k_asm) (by k_mem) (by k_mem) (by k_mem) (by k_mem) (by k_mem) (by k_mem) (by k_mem) (by k_mem) (by assumption) (by assumption) (by omega) (by omega) (by omega) (by omega) (by omega) (by omega) (by omega) (by omega) (by assumption) (by assumption) (by omega) (by omega) (by omega) (by omega) (by omega) (by omega) (by omega) (by omega) (by ktr_room) (by ktr_units) ?_; k_whole); intro _ _ _ _; (try k_sweep)) | (k_here; (try dsimp only [List.cons_append, List.nil_append]); (with_reducible show wpAny _ _ (call (Value.ref 124) [Value.str _ _]) _ _ _); k_dflt (refine' ws04_use (by k_asm) (by k_asm) (by k_asm) (by k_asm) (by k_asm) (by exact rfl) (by first | assumption | omega) (by ktr_room) (by ktr_units) ?_; k_whole); intro _ _ _ _ _ _ _ _ _ _ _ _ _ _ _ _ _ _ _ _; walk_at "L3"; (try k_sweep)) | (k_here; (try dsimp only [List.cons_append, List.nil_append]); (with_reducible show wpAny _ _ (call (Value.ref 86) [Value.ref _]) _ _ _); k_dflt (refine' lr04_use (by k_asm) (by k_asm) (by k_asm) (by k_asm) (by exact rfl) (by k_asm) (by k_mem) (by k_mem) (by k_mem) (by k_mem) (by assumption) (by omega) (by omega) (by omega) (by omega) (by ktr_room) (by ktr_units) ?_; k_whole); intro _ _ _ _ _; (try k_sweep)) | (k_here; (try dsimp only [List.cons_append, List.nil_append]); (with_reducible show wpAny _ _ (call (Value.ref 93) [Value.ref _, Value.int _ _]) _ _ _); k_dflt (refine' il04_use (by k_asm) (by k_asm) (by k_asm) (by k_asm) (by exact rfl) (by k_asm) (by k_mem) (by k_mem) (by k_mem) (by k_mem) (by assumption) (by omega) (by omega) (by omega) (by omega) (by assumption) (by omega) (by omega) (by omega) (by omega) (by omega) (by omega) (by ktr_room) (by ktr_units) ?_; k_whole); intro _ _ _ _ _; (try k_sweep)))) | walk1 | (dsimp only; walk1) | (leave1; walk_say "STEP leave1"; try dsimp only) | fail "no step"))
          rename Fr _ _ _ _ => F5
          rename News _ _ _ _ => N5
          rename IsRange _ _ _ _ _ _ _ _ => hR5
          rename_i lw _ l1 _ _ _ _ _ _ _ _ _ _ _ _ _
          k_sweep
          have hAll : ∀ p ∈ cols.map Col.ent, p.1 < lw := allLt_mem l1.2.2.2.2.2
          have hne : ∀ p ∈ cols.map Col.ent, p.1 ≠ lw := fun p hp => Nat.ne_of_lt (hAll p hp)
          have ht1 : ∀ p ∈ cols.map Col.ent, p.1 ≠ s₁.heap.objs.size + 1 + 1 := fun p hp => by
            obtain ⟨d, hd, rfl⟩ := List.mem_map.mp hp
            exact (q3 d hd).1
          obtain ⟨mr, hmr, F6⟩ : ∃ (mr : Str → Option Value), mr = _ ∧ Fr _ _ _ mr := ⟨_, rfl, F5⟩
          clear F5
          refine' range_ledC (σ := Nat × List Value × Obj) (n := (lines4 ns).length - 1) (fun _ => mr) (fun c => (lw, W.listOf c.2.1.toArray c.1) :: (lc, LCg.lst (cols.map fun c => Value.ref c.D)) :: (ll, W.listOf vl.toArray ep) :: (s₁.heap.objs.size + 1 + 1, c.2.2) :: (s₁.heap.objs.size + 1, oC) :: (130, tabObj #[]) :: cols.map Col.ent) (fun i c => IntsAre c.2.1 (gotK ns i) ∧ ∃ v, c.2.2.data = .cell v) (fun c => IntsAre c.2.1 (gotK ns ((lines4 ns).length - 1))) (0, [], oK) rfl (by passes_own) hR5 (small_one (by omega) (by omega) (by omega) (by omega)) ?hK3 F6 N5 (fun p hp => hp) (fun z => rfl) ⟨by rw [gotK_zero]; exact .nil, _, dK⟩ ?turn3 (fun c h => h.1) ?done3
          case hK3 => rw [rsizeAB]; congr 1; omega
          case done3 =>
            subst hmr
            rintro ⟨ew, vw, oK'⟩ h tk e1 F7 N7
            dsimp only at e1 F7 N7
            refine wpAny_execs_nil ?_
            exact ⟨rfl, ll, lw, ep, ew, vl, vw, _, h, tk, rfl, F7, news_sub N7 (List.forall_mem_cons.mpr ⟨.head _, List.forall_mem_cons.mpr ⟨.tail _ (.tail _ (.head _)), List.forall_mem_cons.mpr ⟨.tail _ (.tail _ (.tail _ (.tail _ (.tail _ (.head _))))), List.forall_mem_nil _⟩⟩⟩), hSl, e1, by omega, by omega, by omega⟩
          case turn3 =>
            rintro i t ⟨ew, vw, oK'⟩ I oI h tk hi ⟨e1, vK', dK'⟩ hoff F7 N7
            dsimp only at e1 dK' F7 N7
            simp only [List.cons_append, List.nil_append] at N7
            have i1 : i < cols.length := by omega
            have i2 : i + 1 < cols.length := by omega
            obtain ⟨ca, hca⟩ : ∃ ca, cols[i]? = some ca := ⟨_, List.getElem?_eq_getElem i1⟩
            obtain ⟨cb, hcb⟩ : ∃ cb, cols[i + 1]? = some cb := ⟨_, List.getElem?_eq_getElem i2⟩
            have ma := List.mem_map_of_mem (f := Col.ent) (List.mem_of_getElem? hca)
            have mb' := List.mem_map_of_mem (f := Col.ent) (List.mem_of_getElem? hcb)
            have hIa := hci _ _ hca
            have hIb := hci _ _ hcb
            have hxa : (cols.map fun c => Value.ref c.D)[((1 : Int) + (i : Int) - 1).toNat]? = some (.ref ca.D) := by
              rw [show ((1 : Int) + (i : Int) - 1).toNat = i by omega, List.getElem?_map, hca]; rfl
            have hxb : (cols.map fun c => Value.ref c.D)[((1 : Int) + (i : Int)).toNat]? = some (.ref cb.D) := by
              rw [show ((1 : Int) + (i : Int)).toNat = i + 1 by omega, List.getElem?_map, hcb]; rfl
            have hc7 : ∀ x, (colsOf x).length = 7 := fun x => by unfold colsOf; rw [List.length_map, List.length_range]
            have hza := hc7 ((lines4 ns).getD i ⟨#[]⟩)
            have hzb := hc7 ((lines4 ns).getD (i + 1) ⟨#[]⟩)
            have na := neN (ht1 _ ma)
            have nb := neN (ht1 _ mb')
            have na2 := neN (hne _ ma)
            have nb2 := neN (hne _ mb')
            dsimp only at na nb na2 nb2
            have hoI : ∀ p ∈ cols.map Col.ent ++ [(I, oI)], p.1 ≠ s₁.heap.objs.size + 1 + 1 ∧ p.1 ≠ lw := fun p hp => by
              rcases List.mem_append.mp hp with hp | hp
              · exact ⟨ht1 p hp, hne p hp⟩
              · rw [List.mem_singleton.mp hp]
                exact ⟨Ne.symm (hoff (s₁.heap.objs.size + 1 + 1, oK') (.tail _ (.tail _ (.tail _ (.head _))))), Ne.symm (hoff _ (.head _))⟩
            have ht3 : ∀ p ∈ cols.map Col.ent ++ [(I, oI)], p.1 ≠ s₁.heap.objs.size + 1 + 1 := fun p hp => (hoI p hp).1
            have ht4 : ∀ p ∈ cols.map Col.ent ++ [(I, oI)], p.1 ≠ lw := fun p hp => (hoI p hp).2
            have mT : ∀ p ∈ cols.map Col.ent, p ∈ cols.map Col.ent ++ [(I, oI)] := fun p hp => List.mem_append.mpr (.inl hp)
            have N8 : News (ghostOf s₁.heap [(134, 130)]) s₁.heap.objs.size h ((cb.D, W.listOf cb.vs.toArray cb.ep) :: (ca.D, W.listOf ca.vs.toArray ca.ep) :: (lw, W.listOf vw.toArray ew) :: (lc, LCg.lst (cols.map fun c => Value.ref c.D)) :: (ll, W.listOf vl.toArray ep) :: (s₁.heap.objs.size + 1 + 1, oK') :: (s₁.heap.objs.size + 1, oC) :: (130, tabObj #[]) :: (cols.map Col.ent ++ [(I, oI)])) :=
              news_cons (news_cons N7 (.tail _ (.tail _ (.tail _ (.tail _ (.tail _ (.tail _ (mT _ ma)))))))) (.tail _ (.tail _ (.tail _ (.tail _ (.tail _ (.tail _ (.tail _ (mT _ mb'))))))))
            clear N7
            have hvw : vw.length ≤ 1000 := by
              have h1 := e1.length
              have h2 := gotK_len ns i
              omega
            subst hmr
            (try dsimp only at F7)
            (try k_fold)
            (repeat' ((fail_if_success (with_reducible show wpAny _ _ (pyIter _) _ _ _)); (fail_if_success (with_reducible show wpAny _ _ (exec (Stmt.Try _ _ _ _ _) _) _ _ _)); (fail_if_success (with_reducible show wpAny _ _ (exec (Stmt.While _ _ _ _) _) _ _ _)); (fail_if_success (with_reducible show wpAny _ _ (call (Value.ref 142) _) _ _ _)); (fail_if_success (with_reducible show wpAny _ _ (compareOp CmpOp.Eq (Value.ref _) (Value.ref _)) _ _ _)); (fail_if_success (with_reducible show wpAny _ _ (compareOp CmpOp.NotEq (Value.ref _) (Value.ref _)) _ _ _)); (fail_if_success (with_reducible show CutEnd _ _ _)); (fail_if_success (with_reducible show CompH _ _ _ _ _ _ _ _ _ _ _ _ _ _ _)); (fail_if_success (with_reducible show LCg.CompSrc _ _ _ _ _ _ _ _ _ _ _ _ _ _)); (fail_if_success (with_reducible show LCt.CompSrcT _ _ _ _ _ _ _ _ _ _ _ _ _ _ _)); first | (k_unfold; (try dsimp only)) | (k_end; wrow_close) | ((with_reducible show wpAny _ _ (call (Value.ref _) _) _ _ _); (first | (k_here; (try dsimp only [List.cons_append, List.nil_append]); (with_reducible show wpAny _ _ (call (Value.ref 149) [Value.str _ _]) _ _ _); k_dflt (refine' cols04_use (by k_asm) (by k_asm) (by k_asm) (by k_asm) (by exact rfl) (by k_asm) (by first | assumption | omega) (by ktr_room) (by ktr_units) ?_; k_whole); intro _ _ _ _ _ _ _ _ _ _; (try k_sweep)) | (k_here; (try dsimp only [List.cons_append, List.nil_append]); (with_reducible show wpAny _ _ (call (Value.ref 59) [_, _, _]) _ _ _); k_dflt (refine' nag04_use (by k_asm) (by k_asm) (by k_asm) (by k_asm) (by exact rfl) (by k_asm) (by ktr_room) (by ktr_units) ?_; k_whole); intro _ _ _ _ _ _ _ _ _ _ _ _; (try k_sweep)) | (k_here; (try dsimp only [List.cons_append, List.nil_append]); (with_reducible show wpAny _ _ (call (Value.ref 121) [Value.ref _, Value.ref _]) _ _ _); k_dflt (refine' nl04_use (by k_asm) (by k_asm) (by k_asm) (by k_asm) (by exact rfl) (by k_asm) (by k_mem) (by k_mem) (by k_mem) (by k_mem) (by k_mem) (by k_mem) (by k_mem) (by k_mem) (by assumption) (by assumption) (by omega) (by omega) (by omega) (by omega) (by omega) (by omega) (by omega) (by omega) (by assumption) (by assumption) (by omega) (by omega) (by omega) (by omega) (by omega) (by omega) (by omega) (by omega) (by ktr_room) (by ktr_units) ?_; k_whole); intro _ _ _ _ _ _ _ _ _; (try k_sweep)) | (k_here; (try dsimp only [List.cons_append, List.nil_append]); (with_reducible show wpAny _ _ (call (Value.ref 114) [Value.ref _, Value.ref _]) _ _ _); k_dflt (refine' ls04_use (by k_asm) (by k_asm) (by k_asm) (by k_asm) (by exact rfl) (by k_asm) (by k_mem) (by k_mem) (by k_mem) (by k_mem) (by k_mem) (by k_mem) (by k_mem) (by k_mem) (by assumption) (by assumption) (by omega) (by omega) (by omega) (by omega) (by omega) (by omega) (by omega) (by omega) (by assumption) (by assumption) (by omega) (by omega) (by omega) (by omega) (by omega) (by omega) (by omega) (by omega) (by ktr_room) (by ktr_units) ?_; k_whole); intro _ _ _ _; (try k_sweep)) | (k_here; (try dsimp only [List.cons_append, List.nil_append]); (with_reducible show wpAny _ _ (call (Value.ref 124) [Value.str _ _]) _ _ _); k_dflt (refine' ws04_use (by k_asm) (by k_asm) (by k_asm) (by k_asm) (by k_asm) (by exact rfl) (by first | assumption | omega) (by ktr_room) (by ktr_units) ?_; k_whole); intro _ _ _ _ _ _ _ _ _ _ _ _ _ _ _ _ _ _ _ _; walk_at "L3"; (try k_sweep)) | (k_here; (try dsimp only [List.cons_append, List.nil_append]); (with_reducible show wpAny _ _ (call (Value.ref 86) [Value.ref _]) _ _ _); k_dflt (refine' lr04_use (by k_asm) (by k_asm) (by k_asm) (by k_asm) (by exact rfl) (by k_asm) (by k_mem) (by k_mem) (by k_mem) (by k_mem) (by assumption) (by omega) (by omega) (by omega) (by omega) (by ktr_room) (by ktr_units) ?_; k_whole); intro _ _ _ _ _; (try k_sweep)) | (k_here; (try dsimp only [List.cons_append, List.nil_append]); (with_reducible show wpAny _ _ (call (Value.ref 93) [Value.ref _, Value.int _ _]) _ _ _); k_dflt (refine' il04_use (by k_asm) (by k_asm) (by k_asm) (by k_asm) (by exact rfl) (by k_asm) (by k_mem) (by k_mem) (by k_mem) (by k_mem) (by assumption) (by omega) (by omega) (by omega) (by omega) (by assumption) (by omega) (by omega) (by omega) (by omega) (by omega) (by omega) (by ktr_room) (by ktr_units) ?_; k_whole); intro _ _ _ _ _; (try k_sweep)))) | walk1 | (dsimp only; walk1) | (leave1; walk_say "STEP leave1"; try dsimp only) | fail "no step"))
            rename Fr _ _ _ _ => FA
            rename News _ _ _ _ => NA
            rename IsRange _ _ _ _ _ _ _ _ => hRA
            refine' LCt.CompSrcT.range rfl FA NA hRA (small_one (by omega) (by omega) (by omega) (by omega)) (show Builtin.Range.rangeSize 0 7 1 = ((7 : Nat) : Int) from rfl) ?_ ?_
            · rw [PySem.sizeLine_eq]; omega
            intro g4
            refine' comp_intsT (fun t => (t : Int)) (fun t => decide ((colsOf ((lines4 ns).getD i ⟨#[]⟩)).getD t 0 ≥ (colsOf ((lines4 ns).getD (i + 1) ⟨#[]⟩)).getD t 0)) trivial ?turn4 ?fin4
            case turn4 =>
              rintro j v ys4 I4 oI4 C oC4 D m2 h tk E hj ⟨t4, rfl⟩ hC hx FB NB off ne
              have e0 : ((0 : Int) + (j : Int)).toNat = j := by omega
              have e00 : ((0 : Int) + (j : Int)) = (j : Int) := by omega
              (repeat' ((fail_if_success (with_reducible show wpAny _ _ (pyIter _) _ _ _)); (fail_if_success (with_reducible show wpAny _ _ (exec (Stmt.Try _ _ _ _ _) _) _ _ _)); (fail_if_success (with_reducible show wpAny _ _ (exec (Stmt.While _ _ _ _) _) _ _ _)); (fail_if_success (with_reducible show wpAny _ _ (call (Value.ref 142) _) _ _ _)); (fail_if_success (with_reducible show wpAny _ _ (compareOp CmpOp.Eq (Value.ref _) (Value.ref _)) _ _ _)); (fail_if_success (with_reducible show wpAny _ _ (compareOp CmpOp.NotEq (Value.ref _) (Value.ref _)) _ _ _)); (fail_if_success (with_reducible show CutEnd _ _ _)); (fail_if_success (with_reducible show CompH _ _ _ _ _ _ _ _ _ _ _ _ _ _ _)); (fail_if_success (with_reducible show LCg.CompSrc _ _ _ _ _ _ _ _ _ _ _ _ _ _)); (fail_if_success (with_reducible show LCt.CompSrcT _ _ _ _ _ _ _ _ _ _ _ _ _ _ _)); first | (k_unfold; (try dsimp only)) | (k_end; wrow_close) | ((with_reducible show wpAny _ _ (call (Value.ref _) _) _ _ _); (first | (k_here; (try dsimp only [List.cons_append, List.nil_append]); (with_reducible show wpAny _ _ (call (Value.ref 149) [Value.str _ _]) _ _ _); k_dflt (refine' cols04_use (by k_asm) (by k_asm) (by k_asm) (by k_asm) (by exact rfl) (by k_asm) (by first | assumption | omega) (by ktr_room) (by ktr_units) ?_; k_whole); intro _ _ _ _ _ _ _ _ _ _; (try k_sweep)) | (k_here; (try dsimp only [List.cons_append, List.nil_append]); (with_reducible show wpAny _ _ (call (Value.ref 59) [_, _, _]) _ _ _); k_dflt (refine' nag04_use (by k_asm) (by k_asm) (by k_asm) (by k_asm) (by exact rfl) (by k_asm) (by ktr_room) (by ktr_units) ?_; k_whole); intro _ _ _ _ _ _ _ _ _ _ _ _; (try k_sweep)) | (k_here; (try dsimp only [List.cons_append, List.nil_append]); (with_reducible show wpAny _ _ (call (Value.ref 121) [Value.ref _, Value.ref _]) _ _ _); k_dflt (refine' nl04_use (by k_asm) (by k_asm) (by k_asm) (by k_asm) (by exact rfl) (by k_asm) (by k_mem) (by k_mem) (by k_mem) (by k_mem) (by k_mem) (by k_mem) (by k_mem) (by k_mem) (by assumption) (by assumption) (by omega) (by omega) (by omega) (by omega) (by omega) (by omega) (by omega) (by omega) (by assumption) (by assumption) (by omega) (by omega) (by omega) (by omega) (by omega) (by omega) (by omega) (by omega) (by ktr_room) (by ktr_units) ?_; k_whole); intro _ _ _ _ _ _ _ _ _; (try k_sweep)) | (k_here; (try dsimp only [List.cons_append, List.nil_append]); (with_reducible show wpAny _ _ (call (Value.ref 114) [Value.ref _, Value.ref _]) _ _ _); k_dflt (refine' ls04_use (by k_asm) (by k_asm) (by k_asm) (by k_asm) (by exact rfl) (by k_asm) (by k_mem) (by k_mem) (by k_mem) (by k_mem) (by k_mem) (by k_mem) (by k_mem) (by k_mem) (by assumption) (by assumption) (by omega) (by omega) (by omega) (by omega) (by omega) (by omega) (by omega) (by omega) (by assumption) (by assumption) (by omega) (by omega) (by omega) (by omega) (by omega) (by omega) (by omega) (by omega) (by ktr_room) (by ktr_units) ?_; k_whole); intro _ _ _ _; (try k_sweep)) | (k_here; (try dsimp only [List.cons_append, List.nil_append]); (with_reducible show wpAny _ _ (call (Value.ref 124) [Value.str _ _]) _ _ _); k_dflt (refine' ws04_use (by k_asm) (by k_asm) (by k_asm) (by k_asm) (by k_asm) (by exact rfl) (by first | assumption | omega) (by ktr_room) (by ktr_units) ?_; k_whole); intro _ _ _ _ _ _ _ _ _ _ _ _ _ _ _ _ _ _ _ _; walk_at "L3"; (try k_sweep)) | (k_here; (try dsimp only [List.cons_append, List.nil_append]); (with_reducible show wpAny _ _ (call (Value.ref 86) [Value.ref _]) _ _ _); k_dflt (refine' lr04_use (by k_asm) (by k_asm) (by k_asm) (by k_asm) (by exact rfl) (by k_asm) (by k_mem) (by k_mem) (by k_mem) (by k_mem) (by assumption) (by omega) (by omega) (by omega) (by omega) (by ktr_room) (by ktr_units) ?_; k_whole); intro _ _ _ _ _; (try k_sweep)) | (k_here; (try dsimp only [List.cons_append, List.nil_append]); (with_reducible show wpAny _ _ (call (Value.ref 93) [Value.ref _, Value.int _ _]) _ _ _); k_dflt (refine' il04_use (by k_asm) (by k_asm) (by k_asm) (by k_asm) (by exact rfl) (by k_asm) (by k_mem) (by k_mem) (by k_mem) (by k_mem) (by assumption) (by omega) (by omega) (by omega) (by omega) (by assumption) (by omega) (by omega) (by omega) (by omega) (by omega) (by omega) (by ktr_room) (by ktr_units) ?_; k_whole); intro _ _ _ _ _; (try k_sweep)))) | walk1 | (dsimp only; walk1) | (leave1; walk_say "STEP leave1"; try dsimp only) | fail "no step"))
              · rename (colsOf _).getD _ _ ≤ (colsOf _).getD _ _ => q9
                exact decide_eq_true (by rw [e0] at q9; exact q9)
              · exact cint FB NB e00
              · rename ¬((colsOf _).getD _ _ ≤ (colsOf _).getD _ _) => q9
                exact decide_eq_false (by rw [e0] at q9; exact q9)
              · exact ⟨_, _, rfl, FB, NB⟩
            case fin4 =>
              intro ysT hT
              clear FA NA hRA
              intro DT hTh tkT FB NB offT
              simp only [LCg.Off1] at offT
              have hT : IntsAre ysT ((geC ((lines4 ns).getD i ⟨#[]⟩) ((lines4 ns).getD (i + 1) ⟨#[]⟩)).map fun (t : Nat) => (t : Int)) := hT
              dsimp only
              (repeat' ((fail_if_success (with_reducible show wpAny _ _ (pyIter _) _ _ _)); (fail_if_success (with_reducible show wpAny _ _ (exec (Stmt.Try _ _ _ _ _) _) _ _ _)); (fail_if_success (with_reducible show wpAny _ _ (exec (Stmt.While _ _ _ _) _) _ _ _)); (fail_if_success (with_reducible show wpAny _ _ (call (Value.ref 142) _) _ _ _)); (fail_if_success (with_reducible show wpAny _ _ (compareOp CmpOp.Eq (Value.ref _) (Value.ref _)) _ _ _)); (fail_if_success (with_reducible show wpAny _ _ (compareOp CmpOp.NotEq (Value.ref _) (Value.ref _)) _ _ _)); (fail_if_success (with_reducible show CutEnd _ _ _)); (fail_if_success (with_reducible show CompH _ _ _ _ _ _ _ _ _ _ _ _ _ _ _)); (fail_if_success (with_reducible show LCg.CompSrc _ _ _ _ _ _ _ _ _ _ _ _ _ _)); (fail_if_success (with_reducible show LCt.CompSrcT _ _ _ _ _ _ _ _ _ _ _ _ _ _ _)); first | (k_unfold; (try dsimp only)) | (k_end; wrow_close) | ((with_reducible show wpAny _ _ (call (Value.ref _) _) _ _ _); (first | (k_here; (try dsimp only [List.cons_append, List.nil_append]); (with_reducible show wpAny _ _ (call (Value.ref 149) [Value.str _ _]) _ _ _); k_dflt (refine' cols04_use (by k_asm) (by k_asm) (by k_asm) (by k_asm) (by exact rfl) (by k_asm) (by first | assumption | omega) (by ktr_room) (by ktr_units) ?_; k_whole); intro _ _ _ _ _ _ _ _ _ _; (try k_sweep)) | (k_here; (try dsimp only [List.cons_append, List.nil_append]); (with_reducible show wpAny _ _ (call (Value.ref 59) [_, _, _]) _ _ _); k_dflt (refine' nag04_use (by k_asm) (by k_asm) (by k_asm) (by k_asm) (by exact rfl) (by k_asm) (by ktr_room) (by ktr_units) ?_; k_whole); intro _ _ _ _ _ _ _ _ _ _ _ _; (try k_sweep)) | (k_here; (try dsimp only [List.cons_append, List.nil_append]); (with_reducible show wpAny _ _ (call (Value.ref 121) [Value.ref _, Value.ref _]) _ _ _); k_dflt (refine' nl04_use (by k_asm) (by k_asm) (by k_asm) (by k_asm) (by exact rfl) (by k_asm) (by k_mem) (by k_mem) (by k_mem) (by k_mem) (by k_mem) (by k_mem) (by k_mem) (by k_mem) (by assumption) (by assumption) (by omega) (by omega) (by omega) (by omega) (by omega) (by omega) (by omega) (by omega) (by assumption) (by assumption) (by omega) (by omega) (by omega) (by omega) (by omega) (by omega) (by omega) (by omega) (by ktr_room) (by ktr_units) ?_; k_whole); intro _ _ _ _ _ _ _ _ _; (try k_sweep)) | (k_here; (try dsimp only [List.cons_append, List.nil_append]); (with_reducible show wpAny _ _ (call (Value.ref 114) [Value.ref _, Value.ref _]) _ _ _); k_dflt (refine' ls04_use (by k_asm) (by k_asm) (by k_asm) (by k_asm) (by exact rfl) (by k_asm) (by k_mem) (by k_mem) (by k_mem) (by k_mem) (by k_mem) (by k_mem) (by k_mem) (by k_mem) (by assumption) (by assumption) (by omega) (by omega) (by omega) (by omega) (by omega) (by omega) (by omega) (by omega) (by assumption) (by assumption) (by omega) (by omega) (by omega) (by omega) (by omega) (by omega) (by omega) (by omega) (by ktr_room) (by ktr_units) ?_; k_whole); intro _ _ _ _; (try k_sweep)) | (k_here; (try dsimp only [List.cons_append, List.nil_append]); (with_reducible show wpAny _ _ (call (Value.ref 124) [Value.str _ _]) _ _ _); k_dflt (refine' ws04_use (by k_asm) (by k_asm) (by k_asm) (by k_asm) (by k_asm) (by exact rfl) (by first | assumption | omega) (by ktr_room) (by ktr_units) ?_; k_whole); intro _ _ _ _ _ _ _ _ _ _ _ _ _ _ _ _ _ _ _ _; walk_at "L3"; (try k_sweep)) | (k_here; (try dsimp only [List.cons_append, List.nil_append]); (with_reducible show wpAny _ _ (call (Value.ref 86) [Value.ref _]) _ _ _); k_dflt (refine' lr04_use (by k_asm) (by k_asm) (by k_asm) (by k_asm) (by exact rfl) (by k_asm) (by k_mem) (by k_mem) (by k_mem) (by k_mem) (by assumption) (by omega) (by omega) (by omega) (by omega) (by ktr_room) (by ktr_units) ?_; k_whole); intro _ _ _ _ _; (try k_sweep)) | (k_here; (try dsimp only [List.cons_append, List.nil_append]); (with_reducible show wpAny _ _ (call (Value.ref 93) [Value.ref _, Value.int _ _]) _ _ _); k_dflt (refine' il04_use (by k_asm) (by k_asm) (by k_asm) (by k_asm) (by exact rfl) (by k_asm) (by k_mem) (by k_mem) (by k_mem) (by k_mem) (by assumption) (by omega) (by omega) (by omega) (by omega) (by assumption) (by omega) (by omega) (by omega) (by omega) (by omega) (by omega) (by ktr_room) (by ktr_units) ?_; k_whole); intro _ _ _ _ _; (try k_sweep)))) | walk1 | (dsimp only; walk1) | (leave1; walk_say "STEP leave1"; try dsimp only) | fail "no step"))
              refine ne_datB (d := .list (((geC ((lines4 ns).getD i ⟨#[]⟩) ((lines4 ns).getD (i + 1) ⟨#[]⟩)).map fun (t : Nat) => (t : Int)).map .int)) (e := .list []) (c := (geC ((lines4 ns).getD i ⟨#[]⟩) ((lines4 ns).getD (i + 1) ⟨#[]⟩)).isEmpty) (by k_asm) (.list (.tail _ (.head _)) (dat_ints hT)) (.list (.head _) .nil) (kok_ints 7 _) rfl (by ktr_units) ?hiff4 ?_
              case hiff4 => cases geC ((lines4 ns).getD i ⟨#[]⟩) ((lines4 ns).getD (i + 1) ⟨#[]⟩) <;> simp
              obtain ⟨pk, hpk⟩ : ∃ pk : Bool, pk = p4 ns (i + 1) := ⟨_, rfl⟩
              have hpk2 : (!(geC ((lines4 ns).getD i ⟨#[]⟩) ((lines4 ns).getD (i + 1) ⟨#[]⟩)).isEmpty) = pk := hpk.symm
              rw [hpk2]
              have hin1 : decide (i + 1 < (lines4 ns).length) = true := decide_eq_true (by omega)
              have hoff9 : ∀ (ew9 : Nat) (vw9 : List Value) (oK9 : Obj), ∀ p ∈ (lw, W.listOf vw9.toArray ew9) :: (lc, LCg.lst (cols.map fun c => Value.ref c.D)) :: (ll, W.listOf vl.toArray ep) :: (s₁.heap.objs.size + 1 + 1, oK9) :: (s₁.heap.objs.size + 1, oC) :: (130, tabObj #[]) :: cols.map Col.ent, p.1 ≠ I := by
                intro ew9 vw9 oK9 p hp
                rcases List.mem_cons.mp hp with rfl | hp
                · exact hoff (lw, W.listOf vw.toArray ew) (.head _)
                rcases List.mem_cons.mp hp with rfl | hp
                · exact hoff _ (.tail _ (.head _))
                rcases List.mem_cons.mp hp with rfl | hp
                · exact hoff _ (.tail _ (.tail _ (.head _)))
                rcases List.mem_cons.mp hp with rfl | hp
                · exact hoff (s₁.heap.objs.size + 1 + 1, oK') (.tail _ (.tail _ (.tail _ (.head _))))
                · exact hoff p (.tail _ (.tail _ (.tail _ (.tail _ hp))))
              have ek : (i : Int) + 2 = 1 + (i : Int) + 1 := by omega
              (repeat' ((fail_if_success (with_reducible show wpAny _ _ (pyIter _) _ _ _)); (fail_if_success (with_reducible show wpAny _ _ (exec (Stmt.Try _ _ _ _ _) _) _ _ _)); (fail_if_success (with_reducible show wpAny _ _ (exec (Stmt.While _ _ _ _) _) _ _ _)); (fail_if_success (with_reducible show wpAny _ _ (call (Value.ref 142) _) _ _ _)); (fail_if_success (with_reducible show wpAny _ _ (compareOp CmpOp.Eq (Value.ref _) (Value.ref _)) _ _ _)); (fail_if_success (with_reducible show wpAny _ _ (compareOp CmpOp.NotEq (Value.ref _) (Value.ref _)) _ _ _)); (fail_if_success (with_reducible show CutEnd _ _ _)); (fail_if_success (with_reducible show CompH _ _ _ _ _ _ _ _ _ _ _ _ _ _ _)); (fail_if_success (with_reducible show LCg.CompSrc _ _ _ _ _ _ _ _ _ _ _ _ _ _)); (fail_if_success (with_reducible show LCt.CompSrcT _ _ _ _ _ _ _ _ _ _ _ _ _ _ _)); first | (k_unfold; (try dsimp only)) | (k_end; wrow_close) | ((with_reducible show wpAny _ _ (call (Value.ref _) _) _ _ _); (first | (k_here; (try dsimp only [List.cons_append, List.nil_append]); (with_reducible show wpAny _ _ (call (Value.ref 149) [Value.str _ _]) _ _ _); k_dflt (refine' cols04_use (by k_asm) (by k_asm) (by k_asm) (by k_asm) (by exact rfl) (by k_asm) (by first | assumption | omega) (by ktr_room) (by ktr_units) ?_; k_whole); intro _ _ _ _ _ _ _ _ _ _; (try k_sweep)) | (k_here; (try dsimp only [List.cons_append, List.nil_append]); (with_reducible show wpAny _ _ (call (Value.ref 59) [_, _, _]) _ _ _); k_dflt (refine' nag04_use (by k_asm) (by k_asm) (by k_asm) (by k_asm) (by exact rfl) (by k_asm) (by ktr_room) (by ktr_units) ?_; k_whole); intro _ _ _ _ _ _ _ _ _ _ _ _; (try k_sweep)) | (k_here; (try dsimp only [List.cons_append, List.nil_append]); (with_reducible show wpAny _ _ (call (Value.ref 121) [Value.ref _, Value.ref _]) _ _ _); k_dflt (refine' nl04_use (by k_asm) (by k_asm) (by k_asm) (by k_asm) (by exact rfl) (by k_asm) (by k_mem) (by k_mem) (by k_mem) (by k_mem) (by k_mem) (by k_mem) (by k_mem) (by k_mem) (by assumption) (by assumption) (by omega) (by omega) (by omega) (by omega) (by omega) (by omega) (by omega) (by omega) (by assumption) (by assumption) (by omega) (by omega) (by omega) (by omega) (by omega) (by omega) (by omega) (by omega) (by ktr_room) (by ktr_units) ?_; k_whole); intro _ _ _ _ _ _ _ _ _; (try k_sweep)) | (k_here; (try dsimp only [List.cons_append, List.nil_append]); (with_reducible show wpAny _ _ (call (Value.ref 114) [Value.ref _, Value.ref _]) _ _ _); k_dflt (refine' ls04_use (by k_asm) (by k_asm) (by k_asm) (by k_asm) (by exact rfl) (by k_asm) (by k_mem) (by k_mem) (by k_mem) (by k_mem) (by k_mem) (by k_mem) (by k_mem) (by k_mem) (by assumption) (by assumption) (by omega) (by omega) (by omega) (by omega) (by omega) (by omega) (by omega) (by omega) (by assumption) (by assumption) (by omega) (by omega) (by omega) (by omega) (by omega) (by omega) (by omega) (by omega) (by ktr_room) (by ktr_units) ?_; k_whole); intro _ _ _ _; (try k_sweep)) | (k_here; (try dsimp only [List.cons_append, List.nil_append]); (with_reducible show wpAny _ _ (call (Value.ref 124) [Value.str _ _]) _ _ _); k_dflt (refine' ws04_use (by k_asm) (by k_asm) (by k_asm) (by k_asm) (by k_asm) (by exact rfl) (by first | assumption | omega) (by ktr_room) (by ktr_units) ?_; k_whole); intro _ _ _ _ _ _ _ _ _ _ _ _ _ _ _ _ _ _ _ _; walk_at "L3"; (try k_sweep)) | (k_here; (try dsimp only [List.cons_append, List.nil_append]); (with_reducible show wpAny _ _ (call (Value.ref 86) [Value.ref _]) _ _ _); k_dflt (refine' lr04_use (by k_asm) (by k_asm) (by k_asm) (by k_asm) (by exact rfl) (by k_asm) (by k_mem) (by k_mem) (by k_mem) (by k_mem) (by assumption) (by omega) (by omega) (by omega) (by omega) (by ktr_room) (by ktr_units) ?_; k_whole); intro _ _ _ _ _; (try k_sweep)) | (k_here; (try dsimp only [List.cons_append, List.nil_append]); (with_reducible show wpAny _ _ (call (Value.ref 93) [Value.ref _, Value.int _ _]) _ _ _); k_dflt (refine' il04_use (by k_asm) (by k_asm) (by k_asm) (by k_asm) (by exact rfl) (by k_asm) (by k_mem) (by k_mem) (by k_mem) (by k_mem) (by assumption) (by omega) (by omega) (by omega) (by omega) (by assumption) (by omega) (by omega) (by omega) (by omega) (by omega) (by omega) (by ktr_room) (by ktr_units) ?_; k_whole); intro _ _ _ _ _; (try k_sweep)))) | walk1 | (dsimp only; walk1) | (leave1; walk_say "STEP leave1"; try dsimp only) | fail "no step"))
              · rename pk = true => hp9
                rename Fr _ _ _ _ => FZ
                rename News _ _ _ _ => NZ
                refine' ⟨(ew + 1, vw ++ [_], _), _, _, _, rfl, FZ, fun p hp => NZ p (.tail _ (.tail _ (.tail _ (.tail _ hp)))), fun z => rfl, hoff9 _ _ _, ?g9, _, ?d9⟩
                case g9 =>
                  show IntsAre _ _
                  rw [gotK_succ, hin1, Bool.true_and, ← hpk, hp9, if_pos rfl, ek]
                  exact IntsAre.append e1 (.cons _ _ .nil)
                case d9 => assumption
              · rename pk = false => hp9
                rename Fr _ _ _ _ => FZ
                rename News _ _ _ _ => NZ
                refine' ⟨(ew, vw, _), _, _, _, rfl, FZ, fun p hp => NZ p (.tail _ (.tail _ (.tail _ (.tail _ hp)))), fun z => rfl, hoff9 _ _ _, ?g8, _, ?d8⟩
                case g8 =>
                  show IntsAre _ _
                  rw [gotK_succ, hin1, Bool.true_and, ← hpk, hp9, if_neg (by decide), List.append_nil]
                  exact e1
                case d8 => assumption
        case hB3 =>
          rintro s' ⟨ll, lw, ep, ew, vl, vw, m3, h3, tk3, rfl, F1, N1, hSl, hW, q1, q2, q3⟩
          have hll := lines_len ns
          have hvl : vl.length = (lines4 ns).length := hSl.length
          have hvl2 : vl.length ≤ 1000000 := by omega
          dsimp only [List.drop]
          (try k_fold)
          (repeat' ((fail_if_success (with_reducible show wpAny _ _ (pyIter _) _ _ _)); (fail_if_success (with_reducible show wpAny _ _ (exec (Stmt.Try _ _ _ _ _) _) _ _ _)); (fail_if_success (with_reducible show wpAny _ _ (exec (Stmt.While _ _ _ _) _) _ _ _)); (fail_if_success (with_reducible show wpAny _ _ (call (Value.ref 142) _) _ _ _)); (fail_if_success (with_reducible show wpAny _ _ (compareOp CmpOp.Eq (Value.ref _) (Value.ref _)) _ _ _)); (fail_if_success (with_reducible show wpAny _ _ (compareOp CmpOp.NotEq (Value.ref _) (Value.ref _)) _ _ _)); (fail_if_success (with_reducible show CutEnd _ _ _)); (fail_if_success (with_reducible show CompH _ _ _ _ _ _ _ _ _ _ _ _ _ _ _)); (fail_if_success (with_reducible show LCg.CompSrc _ _ _ _ _ _ _ _ _ _ _ _ _ _)); (fail_if_success (with_reducible show LCt.CompSrcT _ _ _ _ _ _ _ _ _ _ _ _ _ _ _)); first | (k_unfold; (try dsimp only)) | (k_end; wrow_close) | ((with_reducible show wpAny _ _ (call (Value.ref _) _) _ _ _); (first | (k_here; (try dsimp only [List.cons_append, List.nil_append]); (with_reducible show wpAny _ _ (call (Value.ref 149) [Value.str _ _]) _ _ _); k_dflt (refine' cols04_use (by k_asm) (by k_asm) (by k_asm) (by k_asm) (by exact rfl) (by k_asm) (by first | assumption | omega) (by ktr_room) (by ktr_units) ?_; k_whole); intro _ _ _ _ _ _ _ _ _ _; (try k_sweep)) | (k_here; (try dsimp only [List.cons_append, List.nil_append]); (with_reducible show wpAny _ _ (call (Value.ref 59) [_, _, _]) _ _ _); k_dflt (refine' nag04_use (by k_asm) (by k_asm) (by k_asm) (by k_asm) (by exact rfl) (by k_asm) (by ktr_room) (by ktr_units) ?_; k_whole); intro _ _ _ _ _ _ _ _ _ _ _ _; (try k_sweep)) | (k_here; (try dsimp only [List.cons_append, List.nil_append]); (with_reducible show wpAny _ _ (call (Value.ref 121) [Value.ref _, Value.ref _]) _ _ _); k_dflt (refine' nl04_use (by k_asm) (by k_asm) (by k_asm) (by k_asm) (by exact rfl) (by k_asm) (by k_mem) (by k_mem) (by k_mem) (by k_mem) (by k_mem) (by k_mem) (by k_mem) (by k_mem) (by assumption) (by assumption) (by omega) (by omega) (by omega) (by omega) (by omega) (by omega) (by omega) (by omega) (by assumption) (by assumption) (by omega) (by omega) (by omega) (by omega) (by omega) (by omega) (by omega) (by omega) (by ktr_room) (by ktr_units) ?_; k_whole); intro _ _ _ _ _ _ _ _ _; (try k_sweep)) | (k_here; (try dsimp only [List.cons_append, List.nil_append]); (with_reducible show wpAny _ _ (call (Value.ref 114) [Value.ref _, Value.ref _]) _ _ _); k_dflt (refine' ls04_use (by k_asm) (by k_asm) (by k_asm) (by k_asm) (by exact rfl) (by k_asm) (by k_mem) (by k_mem) (by k_mem) (by k_mem) (by k_mem) (by k_mem) (by k_mem) (by k_mem) (by assumption) (by assumption) (by omega) (by omega) (by omega) (by omega) (by omega) (by omega) (by omega) (by omega) (by assumption) (by assumption) (by omega) (by omega) (by omega) (by omega) (by omega) (by omega) (by omega) (by omega) (by ktr_room) (by ktr_units) ?_; k_whole); intro _ _ _ _; (try k_sweep)) | (k_here; (try dsimp only [List.cons_append, List.nil_append]); (with_reducible show wpAny _ _ (call (Value.ref 124) [Value.str _ _]) _ _ _); k_dflt (refine' ws04_use (by k_asm) (by k_asm) (by k_asm) (by k_asm) (by k_asm) (by exact rfl) (by first | assumption | omega) (by ktr_room) (by ktr_units) ?_; k_whole); intro _ _ _ _ _ _ _ _ _ _ _ _ _ _ _ _ _ _ _ _; walk_at "L3"; (try k_sweep)) | (k_here; (try dsimp only [List.cons_append, List.nil_append]); (with_reducible show wpAny _ _ (call (Value.ref 86) [Value.ref _]) _ _ _); k_dflt (refine' lr04_use (by k_asm) (by k_asm) (by k_asm) (by k_asm) (by exact rfl) (by k_asm) (by k_mem) (by k_mem) (by k_mem) (by k_mem) (by assumption) (by omega) (by omega) (by omega) (by omega) (by ktr_room) (by ktr_units) ?_; k_whole); intro _ _ _ _ _; (try k_sweep)) | (k_here; (try dsimp only [List.cons_append, List.nil_append]); (with_reducible show wpAny _ _ (call (Value.ref 93) [Value.ref _, Value.int _ _]) _ _ _); k_dflt (refine' il04_use (by k_asm) (by k_asm) (by k_asm) (by k_asm) (by exact rfl) (by k_asm) (by k_mem) (by k_mem) (by k_mem) (by k_mem) (by assumption) (by omega) (by omega) (by omega) (by omega) (by assumption) (by omega) (by omega) (by omega) (by omega) (by omega) (by omega) (by ktr_room) (by ktr_units) ?_; k_whole); intro _ _ _ _ _; (try k_sweep)))) | walk1 | (dsimp only; walk1) | (leave1; walk_say "STEP leave1"; try dsimp only) | fail "no step"))
          rename Fr _ _ _ _ => F9
          rename News _ _ _ _ => N9
          rename_i lG _ l19 _ _
          k_sweep
          obtain ⟨mr, tt0, hmr, F6⟩ : ∃ (mr : Str → Option Value) (tt0 : Tok), mr = _ ∧ Fr _ _ _ (fun y => if y = Str.ofString "start" then some (.int ((0 : Nat) : Int) tt0) else mr y) := ⟨_, _, rfl, F9⟩
          have N6 := news_sub (l' := led4 lG lw ew vw ll ep vl ⟨0, tt0, [], 0, #[], mr⟩) N9 (List.forall_mem_cons.mpr ⟨.head _, List.forall_mem_cons.mpr ⟨.tail _ (.head _), List.forall_mem_cons.mpr ⟨.tail _ (.tail _ (.head _)), List.forall_mem_cons.mpr ⟨.tail _ (.tail _ (.tail _ (.head _))), List.forall_mem_nil _⟩⟩⟩⟩)
          clear F9 N9
          have hG1 : AllBare s₁.gens := by rw [hg]; exact .of_eq rfl
          refine' while_G (σ := S4) (mp4 mr) (led4 lG lw ew vw ll ep vl) (Inv4 ns) (fun c => (lines4 ns).length - c.t) ⟨0, tt0, [], 0, #[], mr⟩ F6 N6 hG1 (fun p hp => hp) ?hmap ?hinit ?hturn ?hpass
          case hmap =>
            intro z
            simp only [mp4]
            split
            · rfl
            · split <;> rfl
          case hpass => passes_own
          case hinit => exact ⟨by rw [gotK_zero]; exact .nil, Nat.zero_le _, .inl rfl⟩
          case hturn =>
            subst hmr
            rintro ⟨t, tt, vg, eg, ps, u⟩ h tk gs hGs ⟨i1, i2, i3⟩ F7 N7
            dsimp only at i1 i2 i3
            dsimp only [mp4, led4] at F7 N7
            (try k_fold)
            (repeat' ((fail_if_success (with_reducible show wpAny _ _ (pyIter _) _ _ _)); (fail_if_success (with_reducible show wpAny _ _ (exec (Stmt.Try _ _ _ _ _) _) _ _ _)); (fail_if_success (with_reducible show wpAny _ _ (exec (Stmt.While _ _ _ _) _) _ _ _)); (fail_if_success (with_reducible show wpAny _ _ (call (Value.ref 142) _) _ _ _)); (fail_if_success (with_reducible show wpAny _ _ (compareOp CmpOp.Eq (Value.ref _) (Value.ref _)) _ _ _)); (fail_if_success (with_reducible show wpAny _ _ (compareOp CmpOp.NotEq (Value.ref _) (Value.ref _)) _ _ _)); (fail_if_success (with_reducible show CutEnd _ _ _)); (fail_if_success (with_reducible show CompH _ _ _ _ _ _ _ _ _ _ _ _ _ _ _)); (fail_if_success (with_reducible show LCg.CompSrc _ _ _ _ _ _ _ _ _ _ _ _ _ _)); (fail_if_success (with_reducible show LCt.CompSrcT _ _ _ _ _ _ _ _ _ _ _ _ _ _ _)); first | (k_unfold; (try dsimp only)) | (k_end; wrow_close) | ((with_reducible show wpAny _ _ (call (Value.ref _) _) _ _ _); (first | (k_here; (try dsimp only [List.cons_append, List.nil_append]); (with_reducible show wpAny _ _ (call (Value.ref 149) [Value.str _ _]) _ _ _); k_dflt (refine' cols04_use (by k_asm) (by k_asm) (by k_asm) (by k_asm) (by exact rfl) (by k_asm) (by first | assumption | omega) (by ktr_room) (by ktr_units) ?_; k_whole); intro _ _ _ _ _ _ _ _ _ _; (try k_sweep)) | (k_here; (try dsimp only [List.cons_append, List.nil_append]); (with_reducible show wpAny _ _ (call (Value.ref 59) [_, _, _]) _ _ _); k_dflt (refine' nag04_use (by k_asm) (by k_asm) (by k_asm) (by k_asm) (by exact rfl) (by k_asm) (by ktr_room) (by ktr_units) ?_; k_whole); intro _ _ _ _ _ _ _ _ _ _ _ _; (try k_sweep)) | (k_here; (try dsimp only [List.cons_append, List.nil_append]); (with_reducible show wpAny _ _ (call (Value.ref 121) [Value.ref _, Value.ref _]) _ _ _); k_dflt (refine' nl04_use (by k_asm) (by k_asm) (by k_asm) (by k_asm) (by exact rfl) (by k_asm) (by k_mem) (by k_mem) (by k_mem) (by k_mem) (by k_mem) (by k_mem) (by k_mem) (by k_mem) (by assumption) (by assumption) (by omega) (by omega) (by omega) (by omega) (by omega) (by omega) (by omega) (by omega) (by assumption) (by assumption) (by omega) (by omega) (by omega) (by omega) (by omega) (by omega) (by omega) (by omega) (by ktr_room) (by ktr_units) ?_; k_whole); intro _ _ _ _ _ _ _ _ _; (try k_sweep)) | (k_here; (try dsimp only [List.cons_append, List.nil_append]); (with_reducible show wpAny _ _ (call (Value.ref 114) [Value.ref _, Value.ref _]) _ _ _); k_dflt (refine' ls04_use (by k_asm) (by k_asm) (by k_asm) (by k_asm) (by exact rfl) (by k_asm) (by k_mem) (by k_mem) (by k_mem) (by k_mem) (by k_mem) (by k_mem) (by k_mem) (by k_mem) (by assumption) (by assumption) (by omega) (by omega) (by omega) (by omega) (by omega) (by omega) (by omega) (by omega) (by assumption) (by assumption) (by omega) (by omega) (by omega) (by omega) (by omega) (by omega) (by omega) (by omega) (by ktr_room) (by ktr_units) ?_; k_whole); intro _ _ _ _; (try k_sweep)) | (k_here; (try dsimp only [List.cons_append, List.nil_append]); (with_reducible show wpAny _ _ (call (Value.ref 124) [Value.str _ _]) _ _ _); k_dflt (refine' ws04_use (by k_asm) (by k_asm) (by k_asm) (by k_asm) (by k_asm) (by exact rfl) (by first | assumption | omega) (by ktr_room) (by ktr_units) ?_; k_whole); intro _ _ _ _ _ _ _ _ _ _ _ _ _ _ _ _ _ _ _ _; walk_at "L3"; (try k_sweep)) | (k_here; (try dsimp only [List.cons_append, List.nil_append]); (with_reducible show wpAny _ _ (call (Value.ref 86) [Value.ref _]) _ _ _); k_dflt (refine' lr04_use (by k_asm) (by k_asm) (by k_asm) (by k_asm) (by exact rfl) (by k_asm) (by k_mem) (by k_mem) (by k_mem) (by k_mem) (by assumption) (by omega) (by omega) (by omega) (by omega) (by ktr_room) (by ktr_units) ?_; k_whole); intro _ _ _ _ _; (try k_sweep)) | (k_here; (try dsimp only [List.cons_append, List.nil_append]); (with_reducible show wpAny _ _ (call (Value.ref 93) [Value.ref _, Value.int _ _]) _ _ _); k_dflt (refine' il04_use (by k_asm) (by k_asm) (by k_asm) (by k_asm) (by exact rfl) (by k_asm) (by k_mem) (by k_mem) (by k_mem) (by k_mem) (by assumption) (by omega) (by omega) (by omega) (by omega) (by assumption) (by omega) (by omega) (by omega) (by omega) (by omega) (by omega) (by ktr_room) (by ktr_units) ?_; k_whole); intro _ _ _ _ _; (try k_sweep)))) | walk1 | (dsimp only; walk1) | (leave1; walk_say "STEP leave1"; try dsimp only) | fail "no step"))
            · refine wpAny_Try_except ?_
              (repeat' ((fail_if_success (with_reducible show wpAny _ _ (pyIter _) _ _ _)); (fail_if_success (with_reducible show wpAny _ _ (exec (Stmt.Try _ _ _ _ _) _) _ _ _)); (fail_if_success (with_reducible show wpAny _ _ (exec (Stmt.While _ _ _ _) _) _ _ _)); (fail_if_success (with_reducible show wpAny _ _ (call (Value.ref 142) _) _ _ _)); (fail_if_success (with_reducible show wpAny _ _ (compareOp CmpOp.Eq (Value.ref _) (Value.ref _)) _ _ _)); (fail_if_success (with_reducible show wpAny _ _ (compareOp CmpOp.NotEq (Value.ref _) (Value.ref _)) _ _ _)); (fail_if_success (with_reducible show CutEnd _ _ _)); (fail_if_success (with_reducible show CompH _ _ _ _ _ _ _ _ _ _ _ _ _ _ _)); (fail_if_success (with_reducible show LCg.CompSrc _ _ _ _ _ _ _ _ _ _ _ _ _ _)); (fail_if_success (with_reducible show LCt.CompSrcT _ _ _ _ _ _ _ _ _ _ _ _ _ _ _)); first | (k_unfold; (try dsimp only)) | (k_end; wrow_close) | ((with_reducible show wpAny _ _ (call (Value.ref _) _) _ _ _); (first | (k_here; (try dsimp only [List.cons_append, List.nil_append]); (with_reducible show wpAny _ _ (call (Value.ref 149) [Value.str _ _]) _ _ _); k_dflt (refine' cols04_use (by k_asm) (by k_asm) (by k_asm) (by k_asm) (by exact rfl) (by k_asm) (by first | assumption | omega) (by ktr_room) (by ktr_units) ?_; k_whole); intro _ _ _ _ _ _ _ _ _ _; (try k_sweep)) | (k_here; (try dsimp only [List.cons_append, List.nil_append]); (with_reducible show wpAny _ _ (call (Value.ref 59) [_, _, _]) _ _ _); k_dflt (refine' nag04_use (by k_asm) (by k_asm) (by k_asm) (by k_asm) (by exact rfl) (by k_asm) (by ktr_room) (by ktr_units) ?_; k_whole); intro _ _ _ _ _ _ _ _ _ _ _ _; (try k_sweep)) | (k_here; (try dsimp only [List.cons_append, List.nil_append]); (with_reducible show wpAny _ _ (call (Value.ref 121) [Value.ref _, Value.ref _]) _ _ _); k_dflt (refine' nl04_use (by k_asm) (by k_asm) (by k_asm) (by k_asm) (by exact rfl) (by k_asm) (by k_mem) (by k_mem) (by k_mem) (by k_mem) (by k_mem) (by k_mem) (by k_mem) (by k_mem) (by assumption) (by assumption) (by omega) (by omega) (by omega) (by omega) (by omega) (by omega) (by omega) (by omega) (by assumption) (by assumption) (by omega) (by omega) (by omega) (by omega) (by omega) (by omega) (by omega) (by omega) (by ktr_room) (by ktr_units) ?_; k_whole); intro _ _ _ _ _ _ _ _ _; (try k_sweep)) | (k_here; (try dsimp only [List.cons_append, List.nil_append]); (with_reducible show wpAny _ _ (call (Value.ref 114) [Value.ref _, Value.ref _]) _ _ _); k_dflt (refine' ls04_use (by k_asm) (by k_asm) (by k_asm) (by k_asm) (by exact rfl) (by k_asm) (by k_mem) (by k_mem) (by k_mem) (by k_mem) (by k_mem) (by k_mem) (by k_mem) (by k_mem) (by assumption) (by assumption) (by omega) (by omega) (by omega) (by omega) (by omega) (by omega) (by omega) (by omega) (by assumption) (by assumption) (by omega) (by omega) (by omega) (by omega) (by omega) (by omega) (by omega) (by omega) (by ktr_room) (by ktr_units) ?_; k_whole); intro _ _ _ _; (try k_sweep)) | (k_here; (try dsimp only [List.cons_append, List.nil_append]); (with_reducible show wpAny _ _ (call (Value.ref 124) [Value.str _ _]) _ _ _); k_dflt (refine' ws04_use (by k_asm) (by k_asm) (by k_asm) (by k_asm) (by k_asm) (by exact rfl) (by first | assumption | omega) (by ktr_room) (by ktr_units) ?_; k_whole); intro _ _ _ _ _ _ _ _ _ _ _ _ _ _ _ _ _ _ _ _; walk_at "L3"; (try k_sweep)) | (k_here; (try dsimp only [List.cons_append, List.nil_append]); (with_reducible show wpAny _ _ (call (Value.ref 86) [Value.ref _]) _ _ _); k_dflt (refine' lr04_use (by k_asm) (by k_asm) (by k_asm) (by k_asm) (by exact rfl) (by k_asm) (by k_mem) (by k_mem) (by k_mem) (by k_mem) (by assumption) (by omega) (by omega) (by omega) (by omega) (by ktr_room) (by ktr_units) ?_; k_whole); intro _ _ _ _ _; (try k_sweep)) | (k_here; (try dsimp only [List.cons_append, List.nil_append]); (with_reducible show wpAny _ _ (call (Value.ref 93) [Value.ref _, Value.int _ _]) _ _ _); k_dflt (refine' il04_use (by k_asm) (by k_asm) (by k_asm) (by k_asm) (by exact rfl) (by k_asm) (by k_mem) (by k_mem) (by k_mem) (by k_mem) (by assumption) (by omega) (by omega) (by omega) (by omega) (by assumption) (by omega) (by omega) (by omega) (by omega) (by omega) (by omega) (by ktr_room) (by ktr_units) ?_; k_whole); intro _ _ _ _ _; (try k_sweep)))) | walk1 | (dsimp only; walk1) | (leave1; walk_say "STEP leave1"; try dsimp only) | fail "no step"))
              k_dflt (refine' clm04_use (ep := ep) (D := ll) (vs := vl) (st := t) (ts := lines4 ns) ?B ?F ?X ?T ?hk ?N ?m1 ?m2 hSl ?hz1 ?hz2 lines_small ?hD0 codeHd i3 hGs ?hd ?hu ?hret ?hexc; (case B => k_asm); (case F => k_asm); (case X => k_asm); (case N => k_asm); (case T => k_asm); (case hk => exact rfl); (case m1 => k_mem); (case m2 => k_mem); (case hd => ktr_room); (case hu => ktr_units); k_whole)
              case hz1 => omega
              case hz2 => omega
              case hD0 => omega
              case hret =>
                intro tk9 h9 F9 N9 he
                (try dsimp only)
                (repeat' ((fail_if_success (with_reducible show wpAny _ _ (pyIter _) _ _ _)); (fail_if_success (with_reducible show wpAny _ _ (exec (Stmt.Try _ _ _ _ _) _) _ _ _)); (fail_if_success (with_reducible show wpAny _ _ (exec (Stmt.While _ _ _ _) _) _ _ _)); (fail_if_success (with_reducible show wpAny _ _ (call (Value.ref 142) _) _ _ _)); (fail_if_success (with_reducible show wpAny _ _ (compareOp CmpOp.Eq (Value.ref _) (Value.ref _)) _ _ _)); (fail_if_success (with_reducible show wpAny _ _ (compareOp CmpOp.NotEq (Value.ref _) (Value.ref _)) _ _ _)); (fail_if_success (with_reducible show CutEnd _ _ _)); (fail_if_success (with_reducible show CompH _ _ _ _ _ _ _ _ _ _ _ _ _ _ _)); (fail_if_success (with_reducible show LCg.CompSrc _ _ _ _ _ _ _ _ _ _ _ _ _ _)); (fail_if_success (with_reducible show LCt.CompSrcT _ _ _ _ _ _ _ _ _ _ _ _ _ _ _)); first | (k_unfold; (try dsimp only)) | (k_end; wrow_close) | ((with_reducible show wpAny _ _ (call (Value.ref _) _) _ _ _); (first | (k_here; (try dsimp only [List.cons_append, List.nil_append]); (with_reducible show wpAny _ _ (call (Value.ref 149) [Value.str _ _]) _ _ _); k_dflt (refine' cols04_use (by k_asm) (by k_asm) (by k_asm) (by k_asm) (by exact rfl) (by k_asm) (by first | assumption | omega) (by ktr_room) (by ktr_units) ?_; k_whole); intro _ _ _ _ _ _ _ _ _ _; (try k_sweep)) | (k_here; (try dsimp only [List.cons_append, List.nil_append]); (with_reducible show wpAny _ _ (call (Value.ref 59) [_, _, _]) _ _ _); k_dflt (refine' nag04_use (by k_asm) (by k_asm) (by k_asm) (by k_asm) (by exact rfl) (by k_asm) (by ktr_room) (by ktr_units) ?_; k_whole); intro _ _ _ _ _ _ _ _ _ _ _ _; (try k_sweep)) | (k_here; (try dsimp only [List.cons_append, List.nil_append]); (with_reducible show wpAny _ _ (call (Value.ref 121) [Value.ref _, Value.ref _]) _ _ _); k_dflt (refine' nl04_use (by k_asm) (by k_asm) (by k_asm) (by k_asm) (by exact rfl) (by k_asm) (by k_mem) (by k_mem) (by k_mem) (by k_mem) (by k_mem) (by k_mem) (by k_mem) (by k_mem) (by assumption) (by assumption) (by omega) (by omega) (by omega) (by omega) (by omega) (by omega) (by omega) (by omega) (by assumption) (by assumption) (by omega) (by omega) (by omega) (by omega) (by omega) (by omega) (by omega) (by omega) (by ktr_room) (by ktr_units) ?_; k_whole); intro _ _ _ _ _ _ _ _ _; (try k_sweep)) | (k_here; (try dsimp only [List.cons_append, List.nil_append]); (with_reducible show wpAny _ _ (call (Value.ref 114) [Value.ref _, Value.ref _]) _ _ _); k_dflt (refine' ls04_use (by k_asm) (by k_asm) (by k_asm) (by k_asm) (by exact rfl) (by k_asm) (by k_mem) (by k_mem) (by k_mem) (by k_mem) (by k_mem) (by k_mem) (by k_mem) (by k_mem) (by assumption) (by assumption) (by omega) (by omega) (by omega) (by omega) (by omega) (by omega) (by omega) (by omega) (by assumption) (by assumption) (by omega) (by omega) (by omega) (by omega) (by omega) (by omega) (by omega) (by omega) (by ktr_room) (by ktr_units) ?_; k_whole); intro _ _ _ _; (try k_sweep)) | (k_here; (try dsimp only [List.cons_append, List.nil_append]); (with_reducible show wpAny _ _ (call (Value.ref 124) [Value.str _ _]) _ _ _); k_dflt (refine' ws04_use (by k_asm) (by k_asm) (by k_asm) (by k_asm) (by k_asm) (by exact rfl) (by first | assumption | omega) (by ktr_room) (by ktr_units) ?_; k_whole); intro _ _ _ _ _ _ _ _ _ _ _ _ _ _ _ _ _ _ _ _; walk_at "L3"; (try k_sweep)) | (k_here; (try dsimp only [List.cons_append, List.nil_append]); (with_reducible show wpAny _ _ (call (Value.ref 86) [Value.ref _]) _ _ _); k_dflt (refine' lr04_use (by k_asm) (by k_asm) (by k_asm) (by k_asm) (by exact rfl) (by k_asm) (by k_mem) (by k_mem) (by k_mem) (by k_mem) (by assumption) (by omega) (by omega) (by omega) (by omega) (by ktr_room) (by ktr_units) ?_; k_whole); intro _ _ _ _ _; (try k_sweep)) | (k_here; (try dsimp only [List.cons_append, List.nil_append]); (with_reducible show wpAny _ _ (call (Value.ref 93) [Value.ref _, Value.int _ _]) _ _ _); k_dflt (refine' il04_use (by k_asm) (by k_asm) (by k_asm) (by k_asm) (by exact rfl) (by k_asm) (by k_mem) (by k_mem) (by k_mem) (by k_mem) (by assumption) (by omega) (by omega) (by omega) (by omega) (by assumption) (by omega) (by omega) (by omega) (by omega) (by omega) (by omega) (by ktr_room) (by ktr_units) ?_; k_whole); intro _ _ _ _ _; (try k_sweep)))) | walk1 | (dsimp only; walk1) | (leave1; walk_say "STEP leave1"; try dsimp only) | fail "no step"))
                rename Fr _ _ _ _ => FZ
                rename News _ _ _ _ => NZ
                obtain ⟨mz, FZ2, hmz⟩ : ∃ mz, Fr (ghostOf s₁.heap [(134, 130)]) s₁.heap.objs.size _ mz ∧ mz = _ := ⟨_, FZ, rfl⟩
                have hsm : gotK ns vl.length = gotK ns t := by
                  have h1 := gotK_same (ns := ns) (t := t) (vl.length - t) fun k h1 h2 h3 => by
                    obtain ⟨d, rfl⟩ : ∃ d, k = t + d + 1 := ⟨k - t - 1, by omega⟩
                    have h4 := he d (by omega)
                    rw [less_p4 (show t + d + 1 < _ by omega)] at h4
                    simpa using h4
                  rw [show t + (vl.length - t) = vl.length by omega] at h1
                  exact h1
                refine ⟨⟨vl.length, ?tt9, vg, eg, ps, mz⟩, _, _, gs, _, rfl, hGs, FZ2, NZ, ?map9, ⟨by dsimp only; rw [hsm]; exact i1, by dsimp only; omega, i3⟩, by dsimp only; omega⟩
                case map9 =>
                  intro z
                  simp only [mp4]
                  by_cases h1 : z = Str.ofString "start"
                  · subst h1
                    rw [hmz]
                    rfl
                  · cases h2 : stored4.contains z
                    · obtain ⟨z1, z2⟩ := offB h2
                      simp only [hmz, mp4, h1, z1, z2, h2, if_false, Bool.false_eq_true]
                    · simp only [h1, if_false, if_true]
              case hexc =>
                intro x9 dx9 od9 ps9 h9 tk9 gs9 k9 i9 t1 t2 t3 msg al hD9 hf9 hG9 hnew nxd hk9 hkn hbef hne
                (try dsimp only)
                rename Fr _ _ _ _ => F8
                rename News _ _ _ _ => N8
                have hz9 : ∀ b o, (ghostOf s₁.heap [(134, 130)]).get? b = some o → b ≠ x9 := fun b o e => (hnew b o (F8.keep b o e)).2
                have hxl := fun p hp => (hnew _ _ (N8 p hp).1).2
                have hdl := fun p hp => (hnew _ _ (N8 p hp).1).1
                have w1 := neN (hxl _ (.head _))
                have w2 := neN (hxl _ (.tail _ (.head _)))
                have w3 := neN (hxl _ (.tail _ (.tail _ (.head _))))
                have w4 := neN (hxl _ (.tail _ (.tail _ (.tail _ (.head _)))))
                have y1 := neN (hdl _ (.head _))
                have y2 := neN (hdl _ (.tail _ (.head _)))
                have y3 := neN (hdl _ (.tail _ (.tail _ (.head _))))
                have y4 := neN (hdl _ (.tail _ (.tail _ (.tail _ (.head _)))))
                have u1 : (@Ne Nat lG 130) := Nat.ne_of_gt l19.2.2
                have u2 : (@Ne Nat lG ll) := Nat.ne_of_gt l19.2.1
                have u3 : (@Ne Nat lw 130) := Nat.ne_of_gt q2
                refine' catch_as (C := 59) (xs := [130, ll, x9]) (rest := [(lG, W.listOf vg.toArray eg), (lw, W.listOf vw.toArray ew)]) rfl rfl rfl rfl rfl (nk04 _) ?B ?XB ?TB F8 N8 ?hxs (.tail _ (.tail _ (.head _))) al ?hrest ?hown ?hev ?_
                case B => k_asm
                case XB => k_asm
                case TB => k_asm
                case hxs =>
                  refine List.forall_mem_cons.mpr ⟨⟨(N8 _ (.tail _ (.tail _ (.tail _ (.head _))))).2.2, (N8 _ (.tail _ (.tail _ (.tail _ (.head _))))).2.1⟩, List.forall_mem_cons.mpr ⟨⟨(N8 _ (.tail _ (.tail _ (.head _)))).2.2, (N8 _ (.tail _ (.tail _ (.head _)))).2.1⟩, List.forall_mem_cons.mpr ⟨⟨?_, ?_⟩, List.forall_mem_nil _⟩⟩⟩
                  · cases q : (ghostOf s₁.heap [(134, 130)]).get? x9 with
                    | none => rfl
                    | some o => exact absurd rfl (hz9 x9 o q)
                  · obtain ⟨oF, _, _, hF, _⟩ := F8.ns
                    exact Ne.symm (hnew _ _ hF).2
                case hrest =>
                  have key : ∀ a : Nat, a ≠ 130 → a ≠ ll → a ≠ x9 → a ∉ [(130 : Nat), ll, x9] := fun a h1 h2 h3 h => by
                    simp only [List.mem_cons, List.not_mem_nil, or_false] at h
                    rcases h with h | h | h
                    · exact h1 h
                    · exact h2 h
                    · exact h3 h
                  exact List.forall_mem_cons.mpr ⟨⟨.head _, key _ u1 u2 w1⟩, List.forall_mem_cons.mpr ⟨⟨.tail _ (.head _), key _ u3 q3 w2⟩, List.forall_mem_nil _⟩⟩
                case hown =>
                  refine List.forall_mem_cons.mpr ⟨fun b o e hb => (hnew b o e).1, List.forall_mem_cons.mpr ⟨fun b o e hb q => hb (q ▸ .head _), List.forall_mem_cons.mpr ⟨fun b o e hb q => hb (q ▸ .tail _ (.head _)), List.forall_mem_nil _⟩⟩⟩
                case hev =>
                  intro E' s5 g5 F5 X5 T5
                  (repeat' ((fail_if_success (with_reducible show wpAny _ _ (pyIter _) _ _ _)); (fail_if_success (with_reducible show wpAny _ _ (exec (Stmt.Try _ _ _ _ _) _) _ _ _)); (fail_if_success (with_reducible show wpAny _ _ (exec (Stmt.While _ _ _ _) _) _ _ _)); (fail_if_success (with_reducible show wpAny _ _ (call (Value.ref 142) _) _ _ _)); (fail_if_success (with_reducible show wpAny _ _ (compareOp CmpOp.Eq (Value.ref _) (Value.ref _)) _ _ _)); (fail_if_success (with_reducible show wpAny _ _ (compareOp CmpOp.NotEq (Value.ref _) (Value.ref _)) _ _ _)); (fail_if_success (with_reducible show CutEnd _ _ _)); (fail_if_success (with_reducible show CompH _ _ _ _ _ _ _ _ _ _ _ _ _ _ _)); (fail_if_success (with_reducible show LCg.CompSrc _ _ _ _ _ _ _ _ _ _ _ _ _ _)); (fail_if_success (with_reducible show LCt.CompSrcT _ _ _ _ _ _ _ _ _ _ _ _ _ _ _)); first | (k_unfold; (try dsimp only)) | (k_end; wrow_close) | ((with_reducible show wpAny _ _ (call (Value.ref _) _) _ _ _); (first | (k_here; (try dsimp only [List.cons_append, List.nil_append]); (with_reducible show wpAny _ _ (call (Value.ref 149) [Value.str _ _]) _ _ _); k_dflt (refine' cols04_use (by k_asm) (by k_asm) (by k_asm) (by k_asm) (by exact rfl) (by k_asm) (by first | assumption | omega) (by ktr_room) (by ktr_units) ?_; k_whole); intro _ _ _ _ _ _ _ _ _ _; (try k_sweep)) | (k_here; (try dsimp only [List.cons_append, List.nil_append]); (with_reducible show wpAny _ _ (call (Value.ref 59) [_, _, _]) _ _ _); k_dflt (refine' nag04_use (by k_asm) (by k_asm) (by k_asm) (by k_asm) (by exact rfl) (by k_asm) (by ktr_room) (by ktr_units) ?_; k_whole); intro _ _ _ _ _ _ _ _ _ _ _ _; (try k_sweep)) | (k_here; (try dsimp only [List.cons_append, List.nil_append]); (with_reducible show wpAny _ _ (call (Value.ref 121) [Value.ref _, Value.ref _]) _ _ _); k_dflt (refine' nl04_use (by k_asm) (by k_asm) (by k_asm) (by k_asm) (by exact rfl) (by k_asm) (by k_mem) (by k_mem) (by k_mem) (by k_mem) (by k_mem) (by k_mem) (by k_mem) (by k_mem) (by assumption) (by assumption) (by omega) (by omega) (by omega) (by omega) (by omega) (by omega) (by omega) (by omega) (by assumption) (by assumption) (by omega) (by omega) (by omega) (by omega) (by omega) (by omega) (by omega) (by omega) (by ktr_room) (by ktr_units) ?_; k_whole); intro _ _ _ _ _ _ _ _ _; (try k_sweep)) | (k_here; (try dsimp only [List.cons_append, List.nil_append]); (with_reducible show wpAny _ _ (call (Value.ref 114) [Value.ref _, Value.ref _]) _ _ _); k_dflt (refine' ls04_use (by k_asm) (by k_asm) (by k_asm) (by k_asm) (by exact rfl) (by k_asm) (by k_mem) (by k_mem) (by k_mem) (by k_mem) (by k_mem) (by k_mem) (by k_mem) (by k_mem) (by assumption) (by assumption) (by omega) (by omega) (by omega) (by omega) (by omega) (by omega) (by omega) (by omega) (by assumption) (by assumption) (by omega) (by omega) (by omega) (by omega) (by omega) (by omega) (by omega) (by omega) (by ktr_room) (by ktr_units) ?_; k_whole); intro _ _ _ _; (try k_sweep)) | (k_here; (try dsimp only [List.cons_append, List.nil_append]); (with_reducible show wpAny _ _ (call (Value.ref 124) [Value.str _ _]) _ _ _); k_dflt (refine' ws04_use (by k_asm) (by k_asm) (by k_asm) (by k_asm) (by k_asm) (by exact rfl) (by first | assumption | omega) (by ktr_room) (by ktr_units) ?_; k_whole); intro _ _ _ _ _ _ _ _ _ _ _ _ _ _ _ _ _ _ _ _; walk_at "L3"; (try k_sweep)) | (k_here; (try dsimp only [List.cons_append, List.nil_append]); (with_reducible show wpAny _ _ (call (Value.ref 86) [Value.ref _]) _ _ _); k_dflt (refine' lr04_use (by k_asm) (by k_asm) (by k_asm) (by k_asm) (by exact rfl) (by k_asm) (by k_mem) (by k_mem) (by k_mem) (by k_mem) (by assumption) (by omega) (by omega) (by omega) (by omega) (by ktr_room) (by ktr_units) ?_; k_whole); intro _ _ _ _ _; (try k_sweep)) | (k_here; (try dsimp only [List.cons_append, List.nil_append]); (with_reducible show wpAny _ _ (call (Value.ref 93) [Value.ref _, Value.int _ _]) _ _ _); k_dflt (refine' il04_use (by k_asm) (by k_asm) (by k_asm) (by k_asm) (by exact rfl) (by k_asm) (by k_mem) (by k_mem) (by k_mem) (by k_mem) (by assumption) (by omega) (by omega) (by omega) (by omega) (by assumption) (by omega) (by omega) (by omega) (by omega) (by omega) (by omega) (by ktr_room) (by ktr_units) ?_; k_whole); intro _ _ _ _ _; (try k_sweep)))) | walk1 | (dsimp only; walk1) | (leave1; walk_say "STEP leave1"; try dsimp only) | fail "no step"))
                intro h6 tk6 g' T9 ox6 oT6 vs7 ts7 KT hg' FA NA hp6 hd7 h17 hTx hdT h37 hne' B6 X6 T6
                have hg' := hg' rfl
                subst hg'
                obtain ⟨hc6, hdx6, _⟩ := id hp6
                have NB := news_sub (l' := [(x9, ox6), (dx9, od9), (lG, W.listOf vg.toArray eg), (lw, W.listOf vw.toArray ew), (ll, W.listOf vl.toArray ep), (130, tabObj ps9)]) NA (List.forall_mem_cons.mpr ⟨.head _, List.forall_mem_cons.mpr ⟨.tail _ (.tail _ (.head _)), List.forall_mem_cons.mpr ⟨.tail _ (.tail _ (.tail _ (.tail _ (.tail _ (.head _))))), List.forall_mem_cons.mpr ⟨.tail _ (.tail _ (.tail _ (.tail _ (.tail _ (.tail _ (.head _)))))), List.forall_mem_cons.mpr ⟨.tail _ (.tail _ (.tail _ (.tail _ (.head _)))), List.forall_mem_cons.mpr ⟨.tail _ (.tail _ (.tail _ (.head _))), List.forall_mem_nil _⟩⟩⟩⟩⟩⟩)
                clear NA F8 N8 B6 X6 T6 KT al
                have hvg : vg.length ≤ 1000 := by
                  have h1 := i1.length
                  have h2 := gotK_len ns t
                  omega
                dsimp only at w1 w2 w3 w4 y1 y2 y3 y4
                (try dsimp only)
                (try k_fold)
                (repeat' ((fail_if_success (with_reducible show wpAny _ _ (pyIter _) _ _ _)); (fail_if_success (with_reducible show wpAny _ _ (exec (Stmt.Try _ _ _ _ _) _) _ _ _)); (fail_if_success (with_reducible show wpAny _ _ (exec (Stmt.While _ _ _ _) _) _ _ _)); (fail_if_success (with_reducible show wpAny _ _ (call (Value.ref 142) _) _ _ _)); (fail_if_success (with_reducible show wpAny _ _ (compareOp CmpOp.Eq (Value.ref _) (Value.ref _)) _ _ _)); (fail_if_success (with_reducible show wpAny _ _ (compareOp CmpOp.NotEq (Value.ref _) (Value.ref _)) _ _ _)); (fail_if_success (with_reducible show CutEnd _ _ _)); (fail_if_success (with_reducible show CompH _ _ _ _ _ _ _ _ _ _ _ _ _ _ _)); (fail_if_success (with_reducible show LCg.CompSrc _ _ _ _ _ _ _ _ _ _ _ _ _ _)); (fail_if_success (with_reducible show LCt.CompSrcT _ _ _ _ _ _ _ _ _ _ _ _ _ _ _)); first | (k_unfold; (try dsimp only)) | (k_end; wrow_close) | ((with_reducible show wpAny _ _ (call (Value.ref _) _) _ _ _); (first | (k_here; (try dsimp only [List.cons_append, List.nil_append]); (with_reducible show wpAny _ _ (call (Value.ref 149) [Value.str _ _]) _ _ _); k_dflt (refine' cols04_use (by k_asm) (by k_asm) (by k_asm) (by k_asm) (by exact rfl) (by k_asm) (by first | assumption | omega) (by ktr_room) (by ktr_units) ?_; k_whole); intro _ _ _ _ _ _ _ _ _ _; (try k_sweep)) | (k_here; (try dsimp only [List.cons_append, List.nil_append]); (with_reducible show wpAny _ _ (call (Value.ref 59) [_, _, _]) _ _ _); k_dflt (refine' nag04_use (by k_asm) (by k_asm) (by k_asm) (by k_asm) (by exact rfl) (by k_asm) (by ktr_room) (by ktr_units) ?_; k_whole); intro _ _ _ _ _ _ _ _ _ _ _ _; (try k_sweep)) | (k_here; (try dsimp only [List.cons_append, List.nil_append]); (with_reducible show wpAny _ _ (call (Value.ref 121) [Value.ref _, Value.ref _]) _ _ _); k_dflt (refine' nl04_use (by k_asm) (by k_asm) (by k_asm) (by k_asm) (by exact rfl) (by k_asm) (by k_mem) (by k_mem) (by k_mem) (by k_mem) (by k_mem) (by k_mem) (by k_mem) (by k_mem) (by assumption) (by assumption) (by omega) (by omega) (by omega) (by omega) (by omega) (by omega) (by omega) (by omega) (by assumption) (by assumption) (by omega) (by omega) (by omega) (by omega) (by omega) (by omega) (by omega) (by omega) (by ktr_room) (by ktr_units) ?_; k_whole); intro _ _ _ _ _ _ _ _ _; (try k_sweep)) | (k_here; (try dsimp only [List.cons_append, List.nil_append]); (with_reducible show wpAny _ _ (call (Value.ref 114) [Value.ref _, Value.ref _]) _ _ _); k_dflt (refine' ls04_use (by k_asm) (by k_asm) (by k_asm) (by k_asm) (by exact rfl) (by k_asm) (by k_mem) (by k_mem) (by k_mem) (by k_mem) (by k_mem) (by k_mem) (by k_mem) (by k_mem) (by assumption) (by assumption) (by omega) (by omega) (by omega) (by omega) (by omega) (by omega) (by omega) (by omega) (by assumption) (by assumption) (by omega) (by omega) (by omega) (by omega) (by omega) (by omega) (by omega) (by omega) (by ktr_room) (by ktr_units) ?_; k_whole); intro _ _ _ _; (try k_sweep)) | (k_here; (try dsimp only [List.cons_append, List.nil_append]); (with_reducible show wpAny _ _ (call (Value.ref 124) [Value.str _ _]) _ _ _); k_dflt (refine' ws04_use (by k_asm) (by k_asm) (by k_asm) (by k_asm) (by k_asm) (by exact rfl) (by first | assumption | omega) (by ktr_room) (by ktr_units) ?_; k_whole); intro _ _ _ _ _ _ _ _ _ _ _ _ _ _ _ _ _ _ _ _; walk_at "L3"; (try k_sweep)) | (k_here; (try dsimp only [List.cons_append, List.nil_append]); (with_reducible show wpAny _ _ (call (Value.ref 86) [Value.ref _]) _ _ _); k_dflt (refine' lr04_use (by k_asm) (by k_asm) (by k_asm) (by k_asm) (by exact rfl) (by k_asm) (by k_mem) (by k_mem) (by k_mem) (by k_mem) (by assumption) (by omega) (by omega) (by omega) (by omega) (by ktr_room) (by ktr_units) ?_; k_whole); intro _ _ _ _ _; (try k_sweep)) | (k_here; (try dsimp only [List.cons_append, List.nil_append]); (with_reducible show wpAny _ _ (call (Value.ref 93) [Value.ref _, Value.int _ _]) _ _ _); k_dflt (refine' il04_use (by k_asm) (by k_asm) (by k_asm) (by k_asm) (by exact rfl) (by k_asm) (by k_mem) (by k_mem) (by k_mem) (by k_mem) (by assumption) (by omega) (by omega) (by omega) (by omega) (by assumption) (by omega) (by omega) (by omega) (by omega) (by omega) (by omega) (by ktr_room) (by ktr_units) ?_; k_whole); intro _ _ _ _ _; (try k_sweep)))) | walk1 | (dsimp only; walk1) | (leave1; walk_say "STEP leave1"; try dsimp only) | fail "no step"))
                rename Fr _ _ _ _ => F8
                rename News _ _ _ _ => N8
                refine name_goesC F8 N8 rfl rfl rfl fun h8 v8 FB NC => ?_
                clear F8 N8
                (try dsimp only)
                (try k_fold)
                (repeat' ((fail_if_success (with_reducible show wpAny _ _ (pyIter _) _ _ _)); (fail_if_success (with_reducible show wpAny _ _ (exec (Stmt.Try _ _ _ _ _) _) _ _ _)); (fail_if_success (with_reducible show wpAny _ _ (exec (Stmt.While _ _ _ _) _) _ _ _)); (fail_if_success (with_reducible show wpAny _ _ (call (Value.ref 142) _) _ _ _)); (fail_if_success (with_reducible show wpAny _ _ (compareOp CmpOp.Eq (Value.ref _) (Value.ref _)) _ _ _)); (fail_if_success (with_reducible show wpAny _ _ (compareOp CmpOp.NotEq (Value.ref _) (Value.ref _)) _ _ _)); (fail_if_success (with_reducible show CutEnd _ _ _)); (fail_if_success (with_reducible show CompH _ _ _ _ _ _ _ _ _ _ _ _ _ _ _)); (fail_if_success (with_reducible show LCg.CompSrc _ _ _ _ _ _ _ _ _ _ _ _ _ _)); (fail_if_success (with_reducible show LCt.CompSrcT _ _ _ _ _ _ _ _ _ _ _ _ _ _ _)); first | (k_unfold; (try dsimp only)) | (k_end; wrow_close) | ((with_reducible show wpAny _ _ (call (Value.ref _) _) _ _ _); (first | (k_here; (try dsimp only [List.cons_append, List.nil_append]); (with_reducible show wpAny _ _ (call (Value.ref 149) [Value.str _ _]) _ _ _); k_dflt (refine' cols04_use (by k_asm) (by k_asm) (by k_asm) (by k_asm) (by exact rfl) (by k_asm) (by first | assumption | omega) (by ktr_room) (by ktr_units) ?_; k_whole); intro _ _ _ _ _ _ _ _ _ _; (try k_sweep)) | (k_here; (try dsimp only [List.cons_append, List.nil_append]); (with_reducible show wpAny _ _ (call (Value.ref 59) [_, _, _]) _ _ _); k_dflt (refine' nag04_use (by k_asm) (by k_asm) (by k_asm) (by k_asm) (by exact rfl) (by k_asm) (by ktr_room) (by ktr_units) ?_; k_whole); intro _ _ _ _ _ _ _ _ _ _ _ _; (try k_sweep)) | (k_here; (try dsimp only [List.cons_append, List.nil_append]); (with_reducible show wpAny _ _ (call (Value.ref 121) [Value.ref _, Value.ref _]) _ _ _); k_dflt (refine' nl04_use (by k_asm) (by k_asm) (by k_asm) (by k_asm) (by exact rfl) (by k_asm) (by k_mem) (by k_mem) (by k_mem) (by k_mem) (by k_mem) (by k_mem) (by k_mem) (by k_mem) (by assumption) (by assumption) (by omega) (by omega) (by omega) (by omega) (by omega) (by omega) (by omega) (by omega) (by assumption) (by assumption) (by omega) (by omega) (by omega) (by omega) (by omega) (by omega) (by omega) (by omega) (by ktr_room) (by ktr_units) ?_; k_whole); intro _ _ _ _ _ _ _ _ _; (try k_sweep)) | (k_here; (try dsimp only [List.cons_append, List.nil_append]); (with_reducible show wpAny _ _ (call (Value.ref 114) [Value.ref _, Value.ref _]) _ _ _); k_dflt (refine' ls04_use (by k_asm) (by k_asm) (by k_asm) (by k_asm) (by exact rfl) (by k_asm) (by k_mem) (by k_mem) (by k_mem) (by k_mem) (by k_mem) (by k_mem) (by k_mem) (by k_mem) (by assumption) (by assumption) (by omega) (by omega) (by omega) (by omega) (by omega) (by omega) (by omega) (by omega) (by assumption) (by assumption) (by omega) (by omega) (by omega) (by omega) (by omega) (by omega) (by omega) (by omega) (by ktr_room) (by ktr_units) ?_; k_whole); intro _ _ _ _; (try k_sweep)) | (k_here; (try dsimp only [List.cons_append, List.nil_append]); (with_reducible show wpAny _ _ (call (Value.ref 124) [Value.str _ _]) _ _ _); k_dflt (refine' ws04_use (by k_asm) (by k_asm) (by k_asm) (by k_asm) (by k_asm) (by exact rfl) (by first | assumption | omega) (by ktr_room) (by ktr_units) ?_; k_whole); intro _ _ _ _ _ _ _ _ _ _ _ _ _ _ _ _ _ _ _ _; walk_at "L3"; (try k_sweep)) | (k_here; (try dsimp only [List.cons_append, List.nil_append]); (with_reducible show wpAny _ _ (call (Value.ref 86) [Value.ref _]) _ _ _); k_dflt (refine' lr04_use (by k_asm) (by k_asm) (by k_asm) (by k_asm) (by exact rfl) (by k_asm) (by k_mem) (by k_mem) (by k_mem) (by k_mem) (by assumption) (by omega) (by omega) (by omega) (by omega) (by ktr_room) (by ktr_units) ?_; k_whole); intro _ _ _ _ _; (try k_sweep)) | (k_here; (try dsimp only [List.cons_append, List.nil_append]); (with_reducible show wpAny _ _ (call (Value.ref 93) [Value.ref _, Value.int _ _]) _ _ _); k_dflt (refine' il04_use (by k_asm) (by k_asm) (by k_asm) (by k_asm) (by exact rfl) (by k_asm) (by k_mem) (by k_mem) (by k_mem) (by k_mem) (by assumption) (by omega) (by omega) (by omega) (by omega) (by assumption) (by omega) (by omega) (by omega) (by omega) (by omega) (by omega) (by ktr_room) (by ktr_units) ?_; k_whole); intro _ _ _ _ _; (try k_sweep)))) | walk1 | (dsimp only; walk1) | (leave1; walk_say "STEP leave1"; try dsimp only) | fail "no step"))
                rename Fr _ _ _ _ => FZ
                rename News _ _ _ _ => NZ
                obtain ⟨mz, FZ2, hmz⟩ : ∃ mz, Fr (ghostOf s₁.heap [(134, 130)]) s₁.heap.objs.size _ mz ∧ mz = _ := ⟨_, FZ, rfl⟩
                have hp9 : p4 ns k9 = true := by
                  rw [hk9] at hkn ⊢
                  rw [less_p4 (show t + i9 + 1 < _ by omega)] at hne
                  simpa using hne
                have hn9 : ∀ k, t < k → k < k9 → p4 ns k = false := fun k h1 h2 => by
                  obtain ⟨d, rfl⟩ : ∃ d, k = t + d + 1 := ⟨k - t - 1, by omega⟩
                  have h4 := hbef d (by omega)
                  rw [less_p4 (show t + d + 1 < _ by omega)] at h4
                  simpa using h4
                have hgk := gotK_nag (ns := ns) (t := t) (j := k9) (by omega) hkn hp9 hn9
                refine ⟨⟨k9, ?tt8, vg ++ [_], eg + 1, ps9, mz⟩, _, _, gs9, _, rfl, hG9, FZ2, news_sub NZ (List.forall_mem_cons.mpr ⟨.tail _ (.tail _ (.head _)), List.forall_mem_cons.mpr ⟨.tail _ (.tail _ (.tail _ (.head _))), List.forall_mem_cons.mpr ⟨.tail _ (.tail _ (.tail _ (.tail _ (.head _)))), List.forall_mem_cons.mpr ⟨.tail _ (.tail _ (.tail _ (.tail _ (.tail _ (.head _))))), List.forall_mem_nil _⟩⟩⟩⟩), ?map8, ⟨?got8, by dsimp only; omega, hf9⟩, by dsimp only; omega⟩
                case got8 =>
                  show IntsAre _ (gotK ns k9)
                  rw [hgk]
                  exact IntsAre.append i1 (.cons _ _ .nil)
                case map8 =>
                  intro z
                  simp only [mp4]
                  by_cases h1 : z = Str.ofString "start"
                  · subst h1
                    rw [hmz]
                    exact congrArg (fun v : Int => some (Value.int v _)) (show (k9 : Int) + 1 - 1 = (k9 : Int) by omega)
                  · cases h2 : stored4.contains z
                    · obtain ⟨z1, z2⟩ := offB h2
                      simp only [hmz, mp4, h1, z1, z2, h2, if_false, Bool.false_eq_true]
                    · simp only [h1, if_false, if_true]
            · have hlast := gotK_last (ns := ns) (t := t) (by omega)
              refine eq_datB (d := .list ((gotK ns t).map .int)) (e := .list ((gotK ns ((lines4 ns).length - 1)).map .int)) (c := true) (by k_asm) (.list (.head _) (dat_ints i1)) (.list (.tail _ (.head _)) (dat_ints hW)) (kok_ints 7 _) (kok_ints 7 _) (by ktr_units) ?hiff ?_
              case hiff =>
                rw [hlast]
                exact ⟨fun _ => rfl, fun _ => rfl⟩
              (repeat' ((fail_if_success (with_reducible show wpAny _ _ (pyIter _) _ _ _)); (fail_if_success (with_reducible show wpAny _ _ (exec (Stmt.Try _ _ _ _ _) _) _ _ _)); (fail_if_success (with_reducible show wpAny _ _ (exec (Stmt.While _ _ _ _) _) _ _ _)); (fail_if_success (with_reducible show wpAny _ _ (call (Value.ref 142) _) _ _ _)); (fail_if_success (with_reducible show wpAny _ _ (compareOp CmpOp.Eq (Value.ref _) (Value.ref _)) _ _ _)); (fail_if_success (with_reducible show wpAny _ _ (compareOp CmpOp.NotEq (Value.ref _) (Value.ref _)) _ _ _)); (fail_if_success (with_reducible show CutEnd _ _ _)); (fail_if_success (with_reducible show CompH _ _ _ _ _ _ _ _ _ _ _ _ _ _ _)); (fail_if_success (with_reducible show LCg.CompSrc _ _ _ _ _ _ _ _ _ _ _ _ _ _)); (fail_if_success (with_reducible show LCt.CompSrcT _ _ _ _ _ _ _ _ _ _ _ _ _ _ _)); first | (k_unfold; (try dsimp only)) | (k_end; wrow_close) | ((with_reducible show wpAny _ _ (call (Value.ref _) _) _ _ _); (first | (k_here; (try dsimp only [List.cons_append, List.nil_append]); (with_reducible show wpAny _ _ (call (Value.ref 149) [Value.str _ _]) _ _ _); k_dflt (refine' cols04_use (by k_asm) (by k_asm) (by k_asm) (by k_asm) (by exact rfl) (by k_asm) (by first | assumption | omega) (by ktr_room) (by ktr_units) ?_; k_whole); intro _ _ _ _ _ _ _ _ _ _; (try k_sweep)) | (k_here; (try dsimp only [List.cons_append, List.nil_append]); (with_reducible show wpAny _ _ (call (Value.ref 59) [_, _, _]) _ _ _); k_dflt (refine' nag04_use (by k_asm) (by k_asm) (by k_asm) (by k_asm) (by exact rfl) (by k_asm) (by ktr_room) (by ktr_units) ?_; k_whole); intro _ _ _ _ _ _ _ _ _ _ _ _; (try k_sweep)) | (k_here; (try dsimp only [List.cons_append, List.nil_append]); (with_reducible show wpAny _ _ (call (Value.ref 121) [Value.ref _, Value.ref _]) _ _ _); k_dflt (refine' nl04_use (by k_asm) (by k_asm) (by k_asm) (by k_asm) (by exact rfl) (by k_asm) (by k_mem) (by k_mem) (by k_mem) (by k_mem) (by k_mem) (by k_mem) (by k_mem) (by k_mem) (by assumption) (by assumption) (by omega) (by omega) (by omega) (by omega) (by omega) (by omega) (by omega) (by omega) (by assumption) (by assumption) (by omega) (by omega) (by omega) (by omega) (by omega) (by omega) (by omega) (by omega) (by ktr_room) (by ktr_units) ?_; k_whole); intro _ _ _ _ _ _ _ _ _; (try k_sweep)) | (k_here; (try dsimp only [List.cons_append, List.nil_append]); (with_reducible show wpAny _ _ (call (Value.ref 114) [Value.ref _, Value.ref _]) _ _ _); k_dflt (refine' ls04_use (by k_asm) (by k_asm) (by k_asm) (by k_asm) (by exact rfl) (by k_asm) (by k_mem) (by k_mem) (by k_mem) (by k_mem) (by k_mem) (by k_mem) (by k_mem) (by k_mem) (by assumption) (by assumption) (by omega) (by omega) (by omega) (by omega) (by omega) (by omega) (by omega) (by omega) (by assumption) (by assumption) (by omega) (by omega) (by omega) (by omega) (by omega) (by omega) (by omega) (by omega) (by ktr_room) (by ktr_units) ?_; k_whole); intro _ _ _ _; (try k_sweep)) | (k_here; (try dsimp only [List.cons_append, List.nil_append]); (with_reducible show wpAny _ _ (call (Value.ref 124) [Value.str _ _]) _ _ _); k_dflt (refine' ws04_use (by k_asm) (by k_asm) (by k_asm) (by k_asm) (by k_asm) (by exact rfl) (by first | assumption | omega) (by ktr_room) (by ktr_units) ?_; k_whole); intro _ _ _ _ _ _ _ _ _ _ _ _ _ _ _ _ _ _ _ _; walk_at "L3"; (try k_sweep)) | (k_here; (try dsimp only [List.cons_append, List.nil_append]); (with_reducible show wpAny _ _ (call (Value.ref 86) [Value.ref _]) _ _ _); k_dflt (refine' lr04_use (by k_asm) (by k_asm) (by k_asm) (by k_asm) (by exact rfl) (by k_asm) (by k_mem) (by k_mem) (by k_mem) (by k_mem) (by assumption) (by omega) (by omega) (by omega) (by omega) (by ktr_room) (by ktr_units) ?_; k_whole); intro _ _ _ _ _; (try k_sweep)) | (k_here; (try dsimp only [List.cons_append, List.nil_append]); (with_reducible show wpAny _ _ (call (Value.ref 93) [Value.ref _, Value.int _ _]) _ _ _); k_dflt (refine' il04_use (by k_asm) (by k_asm) (by k_asm) (by k_asm) (by exact rfl) (by k_asm) (by k_mem) (by k_mem) (by k_mem) (by k_mem) (by assumption) (by omega) (by omega) (by omega) (by omega) (by assumption) (by omega) (by omega) (by omega) (by omega) (by omega) (by omega) (by ktr_room) (by ktr_units) ?_; k_whole); intro _ _ _ _ _; (try k_sweep)))) | walk1 | (dsimp only; walk1) | (leave1; walk_say "STEP leave1"; try dsimp only) | fail "no step"))
              exact ⟨rfl, F7.keep, rfl, hGs, ⟨_, (N7 _ (.tail _ (.tail _ (.tail _ (.head _))))).1⟩, trivial⟩
    )

end
end Mine
theorem PySem.Challenge.cw_dn0186_04_holds : PySem.Challenge.rw_dn0186_04.Holds :=
  Mine.t04
