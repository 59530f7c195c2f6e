import PyProof.Rows.All
import Wide.All
import OpenK.AllK
import Wide.FinOn
import PySem.Challenge.RW_dn0186_02
open PySem PySem.W PyProof.Rows
set_option Elab.async false
set_option maxRecDepth 100000
set_option maxHeartbeats 8000000
set_option linter.unusedSimpArgs false
set_option linter.unusedVariables false
set_option compiler.extract_closed false
namespace Mine
open_top hd02 for PySem.Challenge.rw_dn0186_02

section
open PySem PySem.W PyProof.Rows PySem.Calls PySem.Spec


/-! Growth: a caller's facts behind a pure callee. -/
theorem fr_stays {h₀ h h' : Heap} {L : Addr} {m : Str → Option Value} (F : Fr h₀ L h m) (st : h.StaysIn h') : Fr h₀ L h' m :=
  ⟨F.ns.at' fun o e => st _ o e, fun b o e => st b o (F.keep b o e), F.above⟩
theorem news_stays {h₀ h h' : Heap} {L : Addr} {news : List (Addr × Obj)} (N : News h₀ L h news) (st : h.StaysIn h') : News h₀ L h' news :=
  fun p hp => ⟨st _ _ (N p hp).1, (N p hp).2⟩
theorem news_sub {h₀ h : Heap} {L : Addr} {l l' : List (Addr × Obj)} (N : News h₀ L h l) (hs : ∀ p ∈ l', p ∈ l) : News h₀ L h l' := fun p hp => N p (hs p hp)
theorem news_app {h₀ h : Heap} {L : Addr} {l l' : List (Addr × Obj)} (N : News h₀ L h l) (N' : News h₀ L h l') : News h₀ L h (l ++ l') :=
  fun p hp => (List.mem_append.mp hp).elim (N p) (N' p)
theorem allNe_of_lt {l : List (Addr × Obj)} {d a : Addr} (h : ∀ p ∈ l, p.1 < d) (hd : d ≤ a) : ∀ p ∈ l, p.1 ≠ a :=
  fun p hp => Nat.ne_of_lt (Nat.lt_of_lt_of_le (h p hp) hd)

section
variable {prog : Program} {w : World} {A A₀ : Around} {E : Value → Shared → Prop} {s : Shared} {K : Frag} {C L : Addr} {h₀ base : Heap} {m mg mb : Str → Option Value} {news : List (Addr × Obj)} {p : Program} {loose : List Str} {mean : ExcName → Option Value} {Q : Value → Shared → Prop}

/-- A class is called: the new object lies just behind the heap as it was. -/
theorem call_clsH {pos : List Value} {kw : List (Str × Value)} {fI : Addr} (F : Fr h₀ L s.heap m) (X₀ : K.In h₀) (hm : makesIn K C = true) (hi : findIn K (.ref C) "__init__" = some (some (.ref fI))) (hf : isFn K (.ref fI) = true)
    (h : ∀ x dx h', s.heap.StaysIn h' → s.heap.objs.size ≤ dx → dx < x → Fr h₀ L h' m → News h₀ L h' [(x, instObj C dx), (dx, dictOf [] 0)] →
      codeAny (model prog w) (A.under (.builtin "type.__call__" ⟨.ref C :: pos, kw⟩)) (.call (.ref fI) ⟨.ref x :: pos, kw⟩) (InitBack x fun r s' => match r with | .ok (.ret v) => Q v s' | .ok _ => False | .error e => E e s') { s with heap := h' }) :
    wpAny (model prog w) A (call (.ref C) pos kw) Q E s := by
  have X := X₀.keeps F.keep
  refine wpAny_call ?_
  obtain ⟨hh, g, d, t, os⟩ := s
  refine make_core (makes_of X hm) (looks_findIn X hi) (fun self => bind_fn X self (beq_iff_eq.mp hf)) (.inl rfl)
    (h _ hh.objs.size _ (fun b o e => Heap.get?_push_of_some _ (Heap.get?_push_of_some _ e)) (Nat.le_refl _) (Nat.lt_succ_self _) ((F.push _).push _) ?_)
  have := ((News.nil (h₀ := h₀) (h := hh) (L := L)).push F emptyDict).push (F.push _) (instObj C hh.objs.size)
  rwa [Heap.size_push] at this

/-- A def is called: all that the ledger does not name stands behind the callee's frame, as it was. -/
theorem code_defH {env : Env} {outer : List Env} {R : Result → Shared → Prop} {name qual : Str} {params : Arguments} {body : List Stmt} {scope : Scope} {dV kV doc pm cdv ct oc : Value} {an od : Option Addr} {osl : Array (Option Value)} {f : Addr} {args : Args} {binds : List (Str × Value)}
    (B : Below A₀ base outer h₀) (F : Fr h₀ L s.heap m) (X₀ : K.In h₀) (N : News h₀ L s.heap news) (T : Top p loose mean mg mb h₀) (hA : A.frames = some (env :: outer)) (hf : env.frame = some L) (hke : env.scope.kind = .function)
    (ho : K.lookup f = some ⟨oc, od, .func (fnOf name qual params body scope dV kV doc pm an cdv ct), osl⟩) (hcd : codeIn K cdv qual = true) (hroom : A.depth < recursionLimit)
    (hbind : BindsTo s (fnOf name qual params body scope dV kV doc pm an cdv ct) args binds) (hloc : ∀ y ∈ binds, scope.names.lookup y.1 = some .local)
    (h : ∀ g L' h₁, (∀ b o, s.heap.get? b = some o → b ∉ news.map (·.1) → g.get? b = some o) → s.heap.objs.size ≤ L' → Fr h₀ L g m → Fr g L' h₁ (fun y => binds.reverse.lookup y) → News g L' h₁ news → Below A base (env :: outer) g → K.In g → Top p loose mean mg mb g →
      wpAny (model prog w) (A.deeper (envOf qual scope L' f cdv)) (execs body (envOf qual scope L' f cdv))
        (fun fl s' => LeaveK h₀ L m g R (match fl with | .ret v => v | _ => .none) s')
        (fun e s' => wpAny (model prog w) (A.deeper (envOf qual scope L' f cdv)) (leaving (envOf qual scope L' f cdv) e) (fun _ s'' => R (.error e) s'') (fun e' s'' => R (.error e') s'') s')
        { s with heap := h₁, toks := s.toks + binds.length })
    (hco : scope.isCoroutine = false) (hgen : scope.isGenerator = false) (hk : scope.kind = .function)
    (hcell : ∀ x ∈ scope.names, x.2 ≠ .cell) : codeAny (model prog w) A (.call (.ref f) args) R s := by
  obtain ⟨FG, BG, st, lv⟩ := groundX (R := R) B F N hA hf hke
  refine codeAny_call_def (fd := fnOf name qual params body scope dV kV doc pm an cdv ct) (body := body) (binds := binds) hroom ((X₀.keeps F.keep) _ _ ho) rfl (T.nolimit.keeps F.keep) (codeRec_of (X₀.keeps F.keep) hcd) rfl hbind hcell hloc (fun h₁ hns hk₁ => ?_) hco hgen hk
  exact wpAny_mono (h _ s.heap.objs.size h₁ (fun b o e hb => hideAll_get _ e hb) (Nat.le_refl _) FG ⟨hns, fun b o e => hk₁ b o (of_hideAll _ e), Nat.le_of_eq (hideAll_size _ _)⟩
    (fun p hp => ⟨hk₁ _ _ (N p hp).1, Nat.ne_of_lt (Heap.lt_size (N p hp).1), hideAll_none _ (List.mem_map_of_mem hp)⟩) BG (X₀.keeps st) (T.keeps st)) (fun fl s' hl => lv _ _ hl) fun _ _ y => y
end

/-! Loops by an invariant over a state of one's own: the frame's map and the ledger are functions of it. -/
section
variable {prog : Program} {w : World} {A : Around} {E : Value → Shared → Prop} {s : Shared} {env : Env} {h₀ : Heap} {x : Str} {body : List Stmt} {Q : Flow → Shared → Prop}

/-- How a turn ends: it goes on with the next state, or breaks off with a state that Ex tells, or returns. -/
def TurnEnd {σ : Type} (h₀ : Heap) (L : Addr) (x : Str) (mp : σ → Str → Option Value) (led : σ → List (Addr × Obj)) (Inv Ex : σ → Prop) (I : Addr) (oI : Obj) (Q : Flow → Shared → Prop) (s₁ : Shared) (f : Flow) (s₂ : Shared) : Prop :=
  match f with
  | .ret v => Q (.ret v) s₂
  | .brk => ∃ (c : σ) (h' : Heap) (tk : Nat) (m' : Str → Option Value), s₂ = { s₁ with heap := h', toks := tk } ∧ Fr h₀ L h' m' ∧ News h₀ L h' (led c) ∧ (∀ z, z ≠ x → m' z = mp c z) ∧ Ex c
  | _ => ∃ (c : σ) (h' : Heap) (tk : Nat) (m' : Str → Option Value), s₂ = { s₁ with heap := h', toks := tk } ∧ Fr h₀ L h' m' ∧ News h₀ L h' (led c ++ [(I, oI)]) ∧ (∀ z, z ≠ x → m' z = mp c z) ∧ (∀ p ∈ led c, p.1 ≠ I) ∧ Inv c

theorem map_off {mp : Str → Option Value} {m₁ : Str → Option Value} {v : Value} (h : ∀ z, z ≠ x → m₁ z = mp z) : (fun y => if y = x then some v else m₁ y) = fun y => if y = x then some v else mp y := by
  funext y
  by_cases hy : y = x
  · simp [hy]
  · simp only [if_neg hy]; exact h y hy
theorem map_off' {mp : Str → Option Value} {m₁ : Str → Option Value} (h : ∀ z, z ≠ x → m₁ z = mp z) : m₁ = fun y => if y = x then m₁ y else mp y := by
  funext y
  by_cases hy : y = x
  · simp [hy]
  · simp only [if_neg hy]; exact h y hy

theorem loop_led {σ : Type} {I : Addr} {fp : List Addr} {n : Nat} {P : Nat → Value → Prop} {St : Nat → Heap → Prop} {m₀ : Str → Option Value}
    (mp : σ → Str → Option Value) (led : σ → List (Addr × Obj)) (Inv : Nat → σ → Prop) (Ex : σ → Prop) (c₀ : σ)
    (W : Walks prog w A I fp [I] n P St) (hit : ∀ i h, St i h → ∃ o, h.get? I = some o) (hfp : ∀ b ∈ fp, b = I ∨ (∃ o, h₀.get? b = some o) ∨ ∃ o, ∀ c, (b, o) ∈ led c)
    (hLf : env.locals ∉ fp) (hI0 : h₀.get? I = none) (hst : St 0 s.heap) (F : Fr h₀ env.locals s.heap m₀) (N : News h₀ env.locals s.heap (led c₀))
    (hoff : ∀ p ∈ led c₀, p.1 ≠ I) (hm : ∀ z, z ≠ x → m₀ z = mp c₀ z) (hi : Inv 0 c₀)
    (turn : ∀ i v c oI h tk, i < n → P i v → Inv i c → (∀ p ∈ led c, p.1 ≠ I) → Fr h₀ env.locals h (fun y => if y = x then some v else mp c y) → News h₀ env.locals h (led c ++ [(I, oI)]) →
      wpAny (model prog w) A (execs body env) (TurnEnd h₀ env.locals x mp led (Inv (i + 1)) Ex I oI Q { s with heap := h, toks := tk }) E { s with heap := h, toks := tk })
    (ends : ∀ c, Inv n c → Ex c)
    (done : ∀ c (u : Str → Option Value) h tk, Ex c → Fr h₀ env.locals h (fun y => if y = x then u y else mp c y) → News h₀ env.locals h (led c) → Q .next { s with heap := h, toks := tk }) :
    LoopAtV prog w A h₀ env x body Q E (.ref I) s := by
  have hIfp : I ∈ fp := W.sub I (.head _)
  let J : Nat → (Str → Option Value) → List (Addr × Obj) → Prop := fun i m nx => ∃ c, nx = led c ∧ (∀ z, z ≠ x → m z = mp c z) ∧ Inv i c
  refine ⟨I, fp, [I], n, P, St, m₀, led c₀, J, rfl, W, hLf, ?_, ?_, hst, F, N, ⟨c₀, rfl, hm, hi⟩, ?_, ?_⟩
  · intro b hb; rw [List.mem_singleton.mp hb]; exact hI0
  · intro p hp hb; exact hoff p hp (List.mem_singleton.mp hb)
  · rintro i v m₁ news₁ s₁ own ⟨h, tk, rfl⟩ hin hP ⟨c, rfl, hm₁, hinv⟩ hwr hown hget hall hst' F₁ N₁
    have hoff' : ∀ p ∈ led c, p.1 ≠ I := fun p hp e => hwr p hp (List.mem_singleton.mpr e)
    obtain ⟨oI, e⟩ := hit _ _ hst'
    have hIown : (I, oI) ∈ own := hall I hIfp hI0 oI e
    have N₂ : News h₀ env.locals h (led c ++ [(I, oI)]) := by
      intro p hp
      rcases List.mem_append.mp hp with hp | hp
      · exact N₁ p (List.mem_append.mpr (.inr hp))
      · rw [List.mem_singleton.mp hp]; exact N₁ _ (List.mem_append.mpr (.inl hIown))
    rw [map_off hm₁] at F₁
    refine wpAny_mono (turn i v c oI h tk hin hP hinv hoff' F₁ N₂) (fun f s₂ q => ?_) fun _ _ e => e
    have fin : (∃ (c : σ) (h' : Heap) (tk' : Nat) (m' : Str → Option Value), s₂ = { s with heap := h', toks := tk' } ∧ Fr h₀ env.locals h' m' ∧ News h₀ env.locals h' (led c ++ [(I, oI)]) ∧ (∀ z, z ≠ x → m' z = mp c z) ∧ (∀ p ∈ led c, p.1 ≠ I) ∧ Inv (i + 1) c) →
        LoopStepU h₀ env.locals [I] own (J (i + 1)) { s with heap := h, toks := tk } .next s₂ := by
      rintro ⟨c', h', tk', m', rfl, F', N', hm', hoff'', hinv'⟩
      refine ⟨rfl, h', tk', m', led c', rfl, F', ?_, fun p hp hq => hoff'' p hp (List.mem_singleton.mp hq), ⟨c', rfl, hm', hinv'⟩⟩
      intro p hp
      rcases List.mem_append.mp hp with hp | hp
      · have hp0 := (N₁ p (List.mem_append.mpr (.inl hp))).2.2
        have hpg := (N₁ p (List.mem_append.mpr (.inl hp))).1
        rcases hfp p.1 (hown p hp) with e1 | ⟨o, e1⟩ | ⟨o, e1⟩
        · obtain ⟨pa, po⟩ := p
          simp only at e1 hpg
          subst e1
          rw [e] at hpg
          cases hpg
          exact N' _ (List.mem_append.mpr (.inr (.head _)))
        · rw [e1] at hp0; cases hp0
        · have q1 := (N₂ _ (List.mem_append.mpr (.inl (e1 c)))).1
          obtain ⟨pa, po⟩ := p
          simp only at e1 hpg q1
          rw [q1] at hpg
          cases hpg
          exact N' _ (List.mem_append.mpr (.inl (e1 c')))
      · exact N' p (List.mem_append.mpr (.inl hp))
    cases f with
    | ret v => exact .ret q
    | brk =>
      obtain ⟨c', h', tk', m', rfl, F', N', hm', hex⟩ := q
      exact .brk (done c' m' h' tk' hex (by rw [← map_off' hm']; exact F') N')
    | next => exact .next (fin q)
    | cont => exact .cont (fin q)
  · rintro h' tk m' news' F' N' _ ⟨c, rfl, hm', hinv⟩
    exact done c m' h' tk (ends c hinv) (by rw [← map_off' hm']; exact F') N'

theorem led_push {h : Heap} {L : Addr} {news : List (Addr × Obj)} (N : News h₀ L h news) (o : Obj) : News h₀ L (h.push o) news := fun p hp => ⟨Heap.get?_push_of_some _ (N p hp).1, (N p hp).2⟩
theorem led_off {h : Heap} {L : Addr} {news : List (Addr × Obj)} (N : News h₀ L h news) : ∀ p ∈ news, p.1 ≠ h.objs.size := fun p hp e => absurd (Heap.lt_size (N p hp).1) (e ▸ Nat.lt_irrefl _)

theorem text_led {σ : Type} {xt : Str} {tx : Tok} {m₀ : Str → Option Value} {news : List (Addr × Obj)}
    (mp : σ → Str → Option Value) (led : σ → List (Addr × Obj)) (Inv : List Nat → σ → Prop) (Ex : σ → Prop) (c₀ : σ)
    (hh : A.handled = none) (F : Fr h₀ env.locals s.heap m₀) (N : News h₀ env.locals s.heap news) (hl : ∀ p ∈ led c₀, p ∈ news) (hm : ∀ z, z ≠ x → m₀ z = mp c₀ z) (hi : Inv [] c₀)
    (turn : ∀ pre n post t c I oI h tk, xt.cps.toList = pre ++ n :: post → Inv pre c → (∀ p ∈ led c, p.1 ≠ I) → Fr h₀ env.locals h (fun y => if y = x then some (.str ⟨#[n]⟩ t) else mp c y) → News h₀ env.locals h (led c ++ [(I, oI)]) →
      wpAny (model prog w) A (execs body env) (TurnEnd h₀ env.locals x mp led (Inv (pre ++ [n])) Ex I oI Q { s with heap := h, toks := tk }) E { s with heap := h, toks := tk })
    (ends : ∀ c, Inv xt.cps.toList c → Ex c)
    (done : ∀ c (u : Str → Option Value) h tk, Ex c → Fr h₀ env.locals h (fun y => if y = x then u y else mp c y) → News h₀ env.locals h (led c) → Q .next { s with heap := h, toks := tk }) :
    wpAny (model prog w) A (pyIter (.str xt tx)) (fun it s₂ => LoopAtV prog w A h₀ env x body Q E it s₂) E s := by
  have key : ∀ (o : Obj) (nm : String), Walks prog w A s.heap.objs.size [s.heap.objs.size] [s.heap.objs.size] xt.cps.size (SignAt xt) (fun i h => h.IsStrIter s.heap.objs.size nm xt tx i) → (s.heap.push o).IsStrIter s.heap.objs.size nm xt tx 0 →
      LoopAtV prog w A h₀ env x body Q E (.ref s.heap.objs.size) { s with heap := s.heap.push o } := by
    intro o nm W hst
    refine loop_led mp led (fun i c => Inv (xt.cps.toList.take i) c) Ex c₀ W (fun i h st => let ⟨o, ho, _⟩ := st; ⟨o, ho⟩) (fun b hb => .inl (List.mem_singleton.mp hb)) ?_ (next_is_new F) hst (F.push _) (led_push (news_sub N hl) _) (led_off (news_sub N hl)) hm (by simpa using hi) ?_ ?_ ?_
    · intro hm
      exact absurd F.ns.lt ((List.mem_singleton.mp hm) ▸ Nat.lt_irrefl _)
    · rintro i v c oI h tk hin ⟨n, u, hn, rfl⟩ hinv hoff F₁ N₁
      have hn' : xt.cps.toList[i]? = some n := by simpa using hn
      have hs : xt.cps.toList.take (i + 1) = xt.cps.toList.take i ++ [n] := by simp [List.take_add_one, hn']
      have e : xt.cps.toList = xt.cps.toList.take i ++ n :: xt.cps.toList.drop (i + 1) := by
        have ht := List.take_append_drop (i + 1) xt.cps.toList
        rw [hs, List.append_assoc] at ht
        exact ht.symm
      have := turn _ n _ u c _ oI h tk e hinv hoff F₁ N₁
      rw [← hs] at this
      exact this
    · intro c hc
      have hz : xt.cps.size = xt.cps.toList.length := by simp
      rw [hz, List.take_length] at hc
      exact ends c hc
    · intro c u h tk hex F' N'
      exact done c u h tk hex F' N'
  cases ha : xt.cps.all (· < 128)
  · exact wpAny_pyIter_wide ha (key _ _ (Walks.strWide hh _ xt tx) ⟨_, Heap.get?_push_size _ rfl, rfl, rfl⟩)
  · exact wpAny_pyIter_ascii ha (key _ _ (Walks.strAscii hh _ xt tx) ⟨_, Heap.get?_push_size _ rfl, rfl, rfl⟩)

/-- A list: one that stood before the frame, or one of the ledger that no turn changes. -/
theorem list_led {σ : Type} {l : Addr} {vs : List Value} {m₀ : Str → Option Value} {news : List (Addr × Obj)}
    (mp : σ → Str → Option Value) (led : σ → List (Addr × Obj)) (Inv : Nat → σ → Prop) (Ex : σ → Prop) (c₀ : σ)
    (hh : A.handled = none) (hl0 : h₀.IsList l vs.toArray ∨ ∃ n, ∀ c, (l, listOf vs.toArray n) ∈ led c) (F : Fr h₀ env.locals s.heap m₀) (N : News h₀ env.locals s.heap news) (hl : ∀ p ∈ led c₀, p ∈ news) (hm : ∀ z, z ≠ x → m₀ z = mp c₀ z) (hi : Inv 0 c₀)
    (turn : ∀ i v c I oI h tk, vs[i]? = some v → Inv i c → (∀ p ∈ led c, p.1 ≠ I) → Fr h₀ env.locals h (fun y => if y = x then some v else mp c y) → News h₀ env.locals h (led c ++ [(I, oI)]) →
      wpAny (model prog w) A (execs body env) (TurnEnd h₀ env.locals x mp led (Inv (i + 1)) Ex I oI Q { s with heap := h, toks := tk }) E { s with heap := h, toks := tk })
    (ends : ∀ c, Inv vs.length c → Ex c)
    (done : ∀ c (u : Str → Option Value) h tk, Ex c → Fr h₀ env.locals h (fun y => if y = x then u y else mp c y) → News h₀ env.locals h (led c) → Q .next { s with heap := h, toks := tk }) :
    wpAny (model prog w) A (pyIter (.ref l)) (fun it s₂ => LoopAtV prog w A h₀ env x body Q E it s₂) E s := by
  have N₀ := news_sub N hl
  have hls : s.heap.IsList l vs.toArray := by
    rcases hl0 with hl0 | ⟨n, hl0⟩
    · exact hl0.at fun o e => F.keep l o e
    · exact ⟨_, N₀.get (hl0 c₀), rfl, n, rfl⟩
  have hL : l ≠ env.locals := by
    rcases hl0 with hl0 | ⟨n, hl0⟩
    · obtain ⟨ol, hol, _⟩ := id hl0
      exact Nat.ne_of_lt (Nat.lt_of_lt_of_le (Heap.lt_size hol) F.above)
    · exact (N₀ _ (hl0 c₀)).2.1
  obtain ⟨ol, hol, _⟩ := id hls
  have hne : l ≠ s.heap.objs.size := Nat.ne_of_lt (Heap.lt_size hol)
  refine wpAny_pyIter_list hls ?_
  have W := Walks.list (prog := prog) (w := w) hh s.heap.objs.size l hne vs.toArray
  have hlen : vs.toArray.size = vs.length := by simp
  rw [hlen] at W
  refine loop_led mp led Inv Ex c₀ W (fun i h st => let ⟨⟨o, ho, _⟩, _⟩ := st; ⟨o, ho⟩) (fun b hb => ?_) ?_ (next_is_new F) ⟨⟨_, Heap.get?_push_size _ rfl, rfl, rfl⟩, hls.at fun o e => Heap.get?_push_of_some _ e⟩ (F.push _) (led_push N₀ _) (led_off N₀) hm hi ?_ ends done
  · rcases List.mem_cons.mp hb with e | hb
    · exact .inl e
    · rw [List.mem_singleton.mp hb]
      rcases hl0 with hl0 | ⟨n, hl0⟩
      · obtain ⟨ol, hol, _⟩ := id hl0
        exact .inr (.inl ⟨_, hol⟩)
      · exact .inr (.inr ⟨_, hl0⟩)
  · intro hm
    rcases List.mem_cons.mp hm with e | hm
    · exact absurd F.ns.lt (e ▸ Nat.lt_irrefl _)
    · exact hL (List.mem_singleton.mp hm).symm
  · intro i v c oI h tk hin hP hinv hoff F₁ N₁
    exact turn i v c _ oI h tk (by simpa using hP) hinv hoff F₁ N₁

theorem range_led {σ : Type} {r : Addr} {a₀ b₀ : Int} {t₀ u₀ v₀ : Tok} {n : Nat} {m₀ : Str → Option Value} {news : List (Addr × Obj)}
    (mp : σ → Str → Option Value) (led : σ → List (Addr × Obj)) (Inv : Nat → σ → Prop) (Ex : σ → Prop) (c₀ : σ)
    (hh : A.handled = none) (hr : IsRange s.heap r a₀ b₀ 1 t₀ u₀ v₀) (hsmall : Builtin.Range.small a₀ b₀ 1 = true) (hn : Builtin.Range.rangeSize a₀ b₀ 1 = (n : Int)) (F : Fr h₀ env.locals s.heap m₀) (N : News h₀ env.locals s.heap news) (hl : ∀ p ∈ led c₀, p ∈ news) (hm : ∀ z, z ≠ x → m₀ z = mp c₀ z) (hi : Inv 0 c₀)
    (turn : ∀ i t c I oI h tk, i < n → Inv i c → (∀ p ∈ led c, p.1 ≠ I) → Fr h₀ env.locals h (fun y => if y = x then some (.int (a₀ + (i : Int)) t) else mp c y) → News h₀ env.locals h (led c ++ [(I, oI)]) →
      wpAny (model prog w) A (execs body env) (TurnEnd h₀ env.locals x mp led (Inv (i + 1)) Ex I oI Q { s with heap := h, toks := tk }) E { s with heap := h, toks := tk })
    (ends : ∀ c, Inv n c → Ex c)
    (done : ∀ c (u : Str → Option Value) h tk, Ex c → Fr h₀ env.locals h (fun y => if y = x then u y else mp c y) → News h₀ env.locals h (led c) → Q .next { s with heap := h, toks := tk }) :
    wpAny (model prog w) A (pyIter (.ref r)) (fun it s₂ => LoopAtV prog w A h₀ env x body Q E it s₂) E s := by
  have N₀ := news_sub N hl
  refine wpAny_pyIter_range hr hsmall ?_
  have W : Walks prog w A s.heap.objs.size [s.heap.objs.size] [s.heap.objs.size] n (fun i v => i < n ∧ ∃ t, v = .int (a₀ + i * 1) t)
      (fun i h => IsRangeIter h s.heap.objs.size (a₀ + (i : Nat) * 1) ((n : Int) - (i : Nat)) 1) := (Walks.range hh _ a₀ 1 n).bound
  refine loop_led mp led Inv Ex c₀ W (fun i h st => ⟨_, st⟩) (fun b hb => .inl (List.mem_singleton.mp hb)) ?_ (next_is_new F) (by show IsRangeIter _ _ _ _ _; rw [hn]; simpa using Heap.get?_push_size _ rfl) (F.push _) (led_push N₀ _) (led_off N₀) hm hi ?_ ends done
  · intro hm
    exact absurd F.ns.lt ((List.mem_singleton.mp hm) ▸ Nat.lt_irrefl _)
  · rintro i v c oI h tk hin ⟨_, t, rfl⟩ hinv hoff F₁ N₁
    have e1 : a₀ + (i : Int) * 1 = a₀ + (i : Int) := by omega
    rw [e1] at F₁
    exact turn i t c _ oI h tk hin hinv hoff F₁ N₁

/-- How a while's turn ends. -/
def WEnd {σ : Type} (h₀ : Heap) (L : Addr) (mp : σ → Str → Option Value) (led : σ → List (Addr × Obj)) (Inv : σ → Prop) (μ : σ → Nat) (c : σ) (Q : Flow → Shared → Prop) (s₁ : Shared) (f : Flow) (s₂ : Shared) : Prop :=
  match f with
  | .ret v => Q (.ret v) s₂
  | .brk => Q .next s₂
  | _ => ∃ (c' : σ) (h' : Heap) (tk : Nat) (m' : Str → Option Value), s₂ = { s₁ with heap := h', toks := tk } ∧ Fr h₀ L h' m' ∧ News h₀ L h' (led c') ∧ (∀ z, m' z = mp c' z) ∧ Inv c' ∧ μ c' < μ c

theorem while_led {σ : Type} {L : Addr} {test : Expr} {pos : Pos} {m₀ : Str → Option Value} {news : List (Addr × Obj)}
    (mp : σ → Str → Option Value) (led : σ → List (Addr × Obj)) (Inv : σ → Prop) (μ : σ → Nat) (c₀ : σ)
    (F : Fr h₀ L s.heap m₀) (N : News h₀ L s.heap news) (hl : ∀ p ∈ led c₀, p ∈ news) (hm : ∀ z, m₀ z = mp c₀ z) (hi : Inv c₀)
    (turn : ∀ c h tk, Inv c → Fr h₀ L h (mp c) → News h₀ L h (led c) →
      wpAny (model prog w) A (isTrue test env (eval test env)) (fun b s₂ =>
        if b = true then wpAny (model prog w) A (execs body env) (WEnd h₀ L mp led Inv μ c Q s) E s₂ else Q .next s₂) E { s with heap := h, toks := tk })
    (hE : PassesOwn (model prog w) A env E := by passes_own) :
    wpAny (model prog w) A (exec (.While test body [] pos) env) Q E s := by
  have em : m₀ = mp c₀ := funext hm
  subst em
  refine While_inv2 (fun n m nx => ∃ c : σ, nx = led c ∧ m = mp c ∧ μ c = n ∧ Inv c) F (news_sub N hl) ⟨c₀, rfl, rfl, rfl, hi⟩ ?_ hE
  rintro n m₁ nx h tk F₁ N₁ ⟨c, rfl, rfl, rfl, hc⟩
  refine wpAny_mono (turn c h tk hc F₁ N₁) (fun b s₂ p => ?_) fun _ _ x => x
  cases b with
  | false => simpa using p
  | true =>
    simp only [if_true] at p ⊢
    refine wpAny_mono p (fun f s₃ q => ?_) fun _ _ x => x
    cases f with
    | ret v => exact q
    | brk => exact q
    | next =>
      obtain ⟨c', h', tk', m', rfl, F', N', hm', hi', hμ⟩ := q
      have em' : m' = mp c' := funext hm'
      subst em'
      exact ⟨h', tk', _, _, μ c', rfl, F', N', hμ, c', rfl, rfl, rfl, hi'⟩
    | cont =>
      obtain ⟨c', h', tk', m', rfl, F', N', hm', hi', hμ⟩ := q
      have em' : m' = mp c' := funext hm'
      subst em'
      exact ⟨h', tk', _, _, μ c', rfl, F', N', hμ, c', rfl, rfl, rfl, hi'⟩
end

end

section
open PySem PySem.W PyProof.Rows PySem.Calls PySem.Spec

theorem leN {a b : Nat} (h : a ≤ b) : a ≤ b := h
theorem tab_len {l : List Str} {k B : Nat} (h : ∀ y ∈ l, y.length ≤ B) : (l.getD k Str.empty).length ≤ B := by
  rw [List.getD_eq_getElem?_getD]
  cases e : l[k]? with
  | none => exact Nat.zero_le _
  | some y => exact h y (List.mem_of_getElem? e)
theorem add_fits {x y : Str} (hx : x.length ≤ 1000000) (hy : y.length ≤ 1000000) : x.length + y.length ≤ sizeLine := by
  have : (2000000 : Nat) ≤ sizeLine := by decide
  omega
theorem mul_len1 {c : Nat} {n : Int} {N : Nat} (hn : n ≤ (N : Int)) : (Txt.mul ⟨#[c]⟩ n).length ≤ N := len_mul_one rfl hn
theorem mul_len2 {x : Str} {n : Int} {N : Nat} (hx : x.length ≤ 1) (hn : n ≤ (N : Int)) : (Txt.mul x n).length ≤ 1 * N := len_mul_leN hx hn
theorem app_len {x y : Str} {a b : Nat} (hx : x.length ≤ a) (hy : y.length ≤ b) : (x ++ y).length ≤ a + b := by
  rw [Str.length_append]; omega
theorem len_le {x : Str} {a b : Nat} (h : x.length ≤ a) (hb : a ≤ b) : x.length ≤ b := Nat.le_trans h hb
abbrev tupO (items : Array Value) : Obj := { cls := .type "tuple", data := .seq items }
theorem noFill_tuple_mul : fillsNumberSlot (.type "tuple") "mul" = pure false :=
  PySem.fillsNumberSlot_seq (id := "tuple.__mul__") (r := some (.builtin "tuple.__rmul__")) F.slot_tuple_mul.lookup (by decide +kernel) F.slot_tuple_rmul.lookup (by decide +kernel)
theorem repeat_tuple : seqRepeat? (.type "tuple") = pure (some (.builtin "tuple.__mul__")) := by
  unfold seqRepeat?
  rw [PySem.seqSlot_of (T := "tuple") (name := "__mul__") (id := "tuple.__mul__") F.slot_tuple_mul.lookup (by decide +kernel), PySem.seqSlot_of (T := "tuple") (name := "__rmul__") (id := "tuple.__rmul__") F.slot_tuple_rmul.lookup (by decide +kernel)]
  rfl
theorem int_rmul_tuple (a : Int) (t : Tok) (l : Addr) (items : Array Value) :
    Meets (Builtin.«int.__rmul__» ⟨[.int a t, .ref l], []⟩) (fun _ R s => s.heap.get? l = some (tupO items) ∧ R (.ok (.ret Value.notImplemented)) s) :=
  .of_wp fun prog w A R s h => by obtain ⟨hp, g, d, tk, os⟩ := s; obtain ⟨hl, h⟩ := h; wp_walk; exact ⟨_, rfl, h⟩
theorem tuple_mul_one (l : Addr) (items : Array Value) (u : Tok) :
    Meets (Builtin.«tuple.__mul__» ⟨[.ref l, .int 1 u], []⟩) (fun _ R s => s.heap.get? l = some (tupO items) ∧ R (.ok (.ret (Value.ref l))) s) :=
  .of_wp fun prog w A R s h => by obtain ⟨hp, g, d, tk, os⟩ := s; obtain ⟨hl, h⟩ := h; wp_walk; exact ⟨_, rfl, h⟩
theorem tuple_mul_zero (l : Addr) (v : Value) (u : Tok) :
    Meets (Builtin.«tuple.__mul__» ⟨[.ref l, .int 0 u], []⟩) (fun _ R s => s.heap.get? l = some (tupO #[v]) ∧ R (.ok (.ret (Value.ref s.heap.objs.size))) { s with heap := s.heap.push (tupO #[]) }) :=
  .of_wp fun prog w A R s h => by obtain ⟨hp, g, d, tk, os⟩ := s; obtain ⟨hl, h⟩ := h; wp_walk; exact ⟨_, rfl, h⟩
theorem tuple_mul_two (l : Addr) (v : Value) (u : Tok) :
    Meets (Builtin.«tuple.__mul__» ⟨[.ref l, .int 2 u], []⟩) (fun _ R s => s.heap.get? l = some (tupO #[v]) ∧ R (.ok (.ret (Value.ref s.heap.objs.size))) { s with heap := s.heap.push (tupO #[v, v]) }) :=
  .of_wp fun prog w A R s h => by obtain ⟨hp, g, d, tk, os⟩ := s; obtain ⟨hl, h⟩ := h; wp_walk; exact ⟨_, rfl, h⟩

section
variable {prog : Program} {w : World} {A : Around} {E : Value → Shared → Prop} {s : Shared} {h₀ : Heap} {L l t b : Addr} {m : Str → Option Value} {news : List (Addr × Obj)} {v : Value} {vs ws : List Value} {x : Int} {u : Tok} {Q : Value → Shared → Prop}
theorem tup_mul1 (Fm : Fr h₀ L s.heap m) (N : News h₀ L s.heap news) (hm : (l, tupO #[v]) ∈ news) (h0 : 0 ≤ x) (h2 : x ≤ 2)
    (h : ∀ D h', Fr h₀ L h' m → News h₀ L h' ((D, tupO (List.replicate x.toNat v).toArray) :: news) → l ≤ D → Q (.ref D) { s with heap := h' }) : wpAny (model prog w) A (binaryOp .Mult (.ref l) (.int x u)) Q E s := by
  have ho := N.get hm
  refine wpAny_binaryOp_repeat_ref (T := "tuple") (U := "int") (by decide) ⟨_, ho, rfl⟩ (fun s' => typeIs_int s' x u) noFill_tuple_mul F.fills_int_mul F.slot_int_rmul repeat_tuple F.slot_int_index.lookup
    (call_meets F.slot_int_rmul (typeIs_int s x u) F.entry_int_rmul (F.args_int_rmul_2 _ _) (int_rmul_tuple x u l #[v]) ⟨ho, rfl, ⟨_, ho, rfl⟩, ?_⟩)
  have hx : x = 0 ∨ x = 1 ∨ x = 2 := by omega
  rcases hx with rfl | rfl | rfl
  · exact call_meets F.slot_tuple_mul ⟨_, ho, rfl⟩ F.entry_tuple_mul (F.args_tuple_mul_2 _ _) (tuple_mul_zero l v u) ⟨ho, h _ _ (Fm.push _) (News.push Fm N (tupO #[])) (Nat.le_of_lt (Heap.lt_size ho))⟩
  · exact call_meets F.slot_tuple_mul ⟨_, ho, rfl⟩ F.entry_tuple_mul (F.args_tuple_mul_2 _ _) (tuple_mul_one l #[v] u) ⟨ho, h _ _ Fm (fun p hp => (List.mem_cons.mp hp).elim (fun e => e ▸ N _ hm) (N p)) (Nat.le_refl _)⟩
  · exact call_meets F.slot_tuple_mul ⟨_, ho, rfl⟩ F.entry_tuple_mul (F.args_tuple_mul_2 _ _) (tuple_mul_two l v u) ⟨ho, h _ _ (Fm.push _) (News.push Fm N (tupO #[v, v])) (Nat.le_of_lt (Heap.lt_size ho))⟩
theorem tup_add (Fm : Fr h₀ L s.heap m) (N : News h₀ L s.heap news) (ha : (t, tupO vs.toArray) ∈ news) (hb : (b, tupO ws.toArray) ∈ news) (hv : vs ≠ []) (hz : vs.length + ws.length ≤ 16384)
    (h : ∀ D h', Fr h₀ L h' m → News h₀ L h' ((D, tupO (vs ++ ws).toArray) :: news) → t ≤ D → Q (.ref D) { s with heap := h' }) : wpAny (model prog w) A (binaryOp .Add (.ref t) (.ref b)) Q E s := by
  have h1 : IsTup s.heap t vs.toArray := ⟨_, N.get ha, rfl, 0, rfl⟩
  have h2 : IsTup s.heap b ws.toArray := ⟨_, N.get hb, rfl, 0, rfl⟩
  by_cases hw : ws = []
  · subst hw
    refine kde_addT1 Fm N h1 h2 (by simpa using hv) rfl (by simpa using hz) ?_
    have := h t s.heap Fm (fun p hp => (List.mem_cons.mp hp).elim (fun e => by rw [e, List.append_nil]; exact N _ ha) (N p)) (Nat.le_refl _)
    exact this
  · refine kde_addT Fm N h1 h2 (by simpa using hv) (by simpa using hw) (by simpa using hz) rfl fun D h' F' N' lt => ?_
    exact h D h' F' (by simpa using N') (Nat.le_of_lt (lt _ ha))
theorem len_ledL {n : Nat} (N : News h₀ L s.heap news) (hm : (l, listOf vs.toArray n) ∈ news) (hz : vs.length ≤ 1000000) (h : ∀ t k, Q (.int (vs.length : Int) t) { s with toks := k }) :
    wpAny (model prog w) A (call (.builtin "len") [.ref l]) Q E s := by
  refine len_list (items := vs.toArray) ⟨_, N.get hm, rfl, n, rfl⟩ (by rw [List.size_toArray]; omega) ?_
  rw [List.size_toArray]
  exact h _ _
theorem item_ledL {value slice : PySem.Expr} {n : Nat} {k : Int} (N : News h₀ L s.heap news) (hm : (l, listOf vs.toArray n) ∈ news) (h0 : 0 ≤ k) (hfit : k < 2 ^ 63) (hx : vs[k.toNat]? = some v) (h : Q v s)
    (hs : subscripted slice false (.ref l) (.int k u) = operate [.ref l, .int k u] (getItem (.ref l) (.int k u)) := by with_unfolding_all rfl) :
    wpAny (model prog w) A (subscriptTail value slice (.ref l) (.int k u)) Q E s :=
  tail_any (s := s) (Heap.IsList.typeIs ⟨_, N.get hm, rfl, n, rfl⟩) slot_list_getitem.lookup (wpAny_getItem_list ⟨_, N.get hm, rfl, n, rfl⟩ h0 hfit (by simpa using hx) h) hs
theorem ne_led_same {a b : Value} {d : Dat} (N : News h₀ L s.heap news) (Da : DatIn news a d) (Db : DatIn news b d) (hk : kqdOk 8 d = true) (hu : A.units + 64 < cLine) (h : Q (.bool false) s) : wpAny (model prog w) A (compareOp .NotEq a b) Q E s := by
  obtain ⟨as, ra⟩ := kqd_in N 8 Da hk
  obtain ⟨bs, rb⟩ := kqd_in N 8 Db hk
  have la := kqd_lay 8 d hk
  have e : PyData.eqv (kqdP d) (kqdP d) = true := (kqd_eqv 8 d d 8 hk hk).mpr rfl
  refine ne_dataH ra rb ?_ ?_ hu (by rw [e]; exact h)
  · unfold SeqAt.shaped; rw [la.1, Bool.true_and]; exact decide_eq_true (Nat.le_trans la.2 (by decide))
  · unfold SeqAt.shaped; rw [la.1, Bool.true_and]; exact decide_eq_true (Nat.le_trans la.2 (by decide))
end
theorem datAll_ints {news : List (Addr × Obj)} : ∀ {vs : List Value} {cs : List Int}, IntsAre vs cs → DatAll news vs (cs.map .int)
  | _, _, .nil => .nil
  | _, _, .cons _ _ r => .cons (.int _ _) (datAll_ints r)
section
variable {prog : Program} {w : World} {A : Around} {E : Value → Shared → Prop} {s : Shared} {h₀ : Heap} {L : Addr} {m : Str → Option Value} {news : List (Addr × Obj)}
theorem adjust_to (b n : Nat) (hb : b ≤ n) : Builtin.Slice.sliceAdjust none (some (b : Int)) 1 (n : Int) = ((0 : Int), (b : Int)) := by
  unfold Builtin.Slice.sliceAdjust
  have h1 : ¬ ((1 : Int) < 0) := by omega
  have h2 : ¬ ((b : Int) < 0) := by omega
  simp only [h1, h2, if_false]
  congr 1
  omega
theorem places_to (b : Nat) : Builtin.Slice.slicePlaces (0 : Int) (b : Int) 1 = b := by
  unfold Builtin.Slice.slicePlaces
  have h1 : (1 : Int) > 0 := by omega
  simp only [h1, if_true, Int.ediv_one]
  split <;> omega
theorem sliceApplied_to {sl : Addr} {b n : Nat} {u : Tok} {Q : Int × Int × Nat → Shared → Prop} (hs : s.heap.IsSliceOf sl .none (.int b u) .none) (hb : b ≤ n) (h : Q ((0 : Int), 1, b) s) :
    wpAny (model prog w) A (Builtin.Slice.sliceApplied (.ref sl) (pure (n : Int))) Q E s := by
  obtain ⟨os, hos, hcs, hds⟩ := id hs
  unfold Builtin.Slice.sliceApplied Builtin.Slice.sliceFields
  refine wpAny_bind (wpAny_bind (wpAny_field hos hds (x := .none) rfl (wpAny_bind (wpAny_field hos hds (x := .int b u) rfl (wpAny_bind (wpAny_field hos hds (x := .none) rfl (wpAny_pure ?_)))))))
  refine wpAny_bind (slicePart_none ?_)
  show wpAny _ _ (if ((1 : Int) == 0) = true then _ else _) _ _ s
  rw [if_neg (by decide)]
  refine wpAny_bind (slicePart_none (wpAny_bind (slicePart_int (wpAny_bind (wpAny_pure ?_)))))
  show wpAny _ _ (match Builtin.Slice.sliceAdjust none (some (b : Int)) 1 (n : Int) with | (lo, hi) => pure (lo, (1 : Int), Builtin.Slice.slicePlaces lo hi 1)) _ _ s
  rw [adjust_to b n hb]
  show wpAny _ _ (pure ((0 : Int), (1 : Int), Builtin.Slice.slicePlaces (0 : Int) (b : Int) 1)) _ _ s
  rw [places_to b]
  exact wpAny_pure h
theorem pick_to (xs : Array Value) (b : Nat) (hb : b ≤ xs.size) : ((List.range b).filterMap fun (k : Nat) => xs[((0 : Int) + (k : Int) * 1).toNat]?).toArray = (xs.toList.take b).toArray := by
  have e : (fun (k : Nat) => xs[((0 : Int) + (k : Int) * 1).toNat]?) = fun k => xs.toList[k]? := by
    funext k
    have : ((0 : Int) + (k : Int) * 1).toNat = k := by omega
    rw [this]; simp
  rw [e]
  congr 1
  have hb' : b ≤ xs.toList.length := by simpa using hb
  generalize xs.toList = l at hb'
  induction b with
  | zero => simp
  | succ b ih =>
    rw [List.range_succ, List.filterMap_append, ih (by omega) (by omega), List.take_add_one]
    congr 1
theorem getItem_tuple_to {t sl : Addr} {items : Array Value} {b : Nat} {u : Tok} {Q : Value → Shared → Prop} (ht : IsTup s.heap t items) (hs : s.heap.IsSliceOf sl .none (.int b u) .none) (hb : b < items.size)
    (h : Q (.ref s.heap.objs.size) { s with heap := s.heap.push { cls := .type "tuple", data := .seq (items.toList.take b).toArray } })
    (hsz : items.size ≤ sizeLine) : wpAny (model prog w) A (getItem (.ref t) (.ref sl)) Q E s := by
  have hdrop : sizeOk (.seq (items.toList.take b).toArray) := by
    show (items.toList.take b).toArray.size ≤ sizeLine
    rw [List.size_toArray, List.length_take, Array.length_toList]
    omega
  obtain ⟨os, hos, hcs, hds⟩ := id hs
  have hTs : s.TypeIs (.ref sl) "slice" := ⟨os, hos, hcs⟩
  unfold getItem
  try with_reducible refine wpAny_holding ?_
  first | refine wpAny_bind (wpAny_pure ?_) | skip
  refine wpAny_bind (wpAny_sequenceKey ht.typeIs (by decide) ?_)
  refine wpAny_bind (wpAny_callSpecial?_slot (name := Str.ofString "__getitem__") ht.typeIs slot_tuple_getitem
    (wpAny_call_entry slot_tuple_getitem ht.typeIs entry_tuple_getitem ?_ (args_tuple_getitem _ _)))
  show wpAny _ _ (Builtin.Tuple.tupleItemsOf (.ref t) >>= _) _ _ s
  refine wpAny_bind (tupleItemsOf_ ht ?_)
  refine wpAny_bind (wpAny_typeOf hTs ?_)
  rw [if_pos (by decide)]
  refine wpAny_bind (sliceApplied_to hs (Nat.le_of_lt hb) ?_)
  have hno : ¬ (((0 : Int) == 0 && (1 : Int) == 1 && b == items.size) = true) := by
    have : (b == items.size) = false := by rw [beq_eq_false_iff_ne]; omega
    rw [this]; simp
  show wpAny _ _ (if ((0 : Int) == 0 && (1 : Int) == 1 && b == items.size) = true then _ else _) _ _ s
  rw [if_neg hno, pick_to items b (Nat.le_of_lt hb)]
  first
    | exact wpAny_bind (m := Builtin.Tuple.tupleExact _) (wpAny_newObj_type (wpAny_pure ⟨_, rfl, wpAny_pure h⟩) hdrop)
    | exact wpAny_bind (m := Builtin.Tuple.tupleExact _) (wpAny_newObj_type (wpAny_bind (wpAny_pure (wpAny_pure ⟨_, rfl, wpAny_pure h⟩))) hdrop)
    | exact wpAny_bind (wpAny_bind (m := Builtin.Tuple.tupleExact _) (wpAny_newObj_type (wpAny_pure (wpAny_pure ⟨_, rfl, wpAny_pure h⟩)) hdrop))
    | exact wpAny_bind (wpAny_bind (m := Builtin.Tuple.tupleExact _) (wpAny_newObj_type (wpAny_pure ⟨_, rfl, wpAny_pure h⟩) hdrop))
theorem cut_led0 {value slice : PySem.Expr} {t : Addr} {vs : List Value} {n b : Nat} {u : Tok} {Q : Value → Shared → Prop} (Fm : Fr h₀ L s.heap m) (N : News h₀ L s.heap news) (hm : (t, ({ cls := .type "tuple", data := .seq vs.toArray n } : Obj)) ∈ news) (hb : b < vs.length) (hz : vs.length ≤ 10000)
    (h : ∀ D h', Fr h₀ L h' m → News h₀ L h' ((D, tupO (vs.take b).toArray) :: news) → (∀ p ∈ news, p.1 < D) → Q (.ref D) { s with heap := h' })
    {ops : List Value} (hs : subscripted slice false (.ref t) (.ref s.heap.objs.size) = operate ops (getItem (.ref t) (.ref s.heap.objs.size))) :
    wpAny (model prog w) A (subscriptTail value slice (.ref t) (.ref s.heap.objs.size)) Q E { s with heap := s.heap.push { cls := .type "slice", data := .fields #[.none, .int b u, .none] } } := by
  have F' := Fm.push ({ cls := .type "slice", data := .fields #[.none, .int b u, .none] } : Obj)
  have N' := led_push N ({ cls := .type "slice", data := .fields #[.none, .int b u, .none] } : Obj)
  have ht : IsTup (s.heap.push ({ cls := .type "slice", data := .fields #[.none, .int b u, .none] } : Obj)) t vs.toArray := ⟨_, N'.get hm, rfl, n, rfl⟩
  refine tail_any (T := "tuple") ht.typeIs slot_tuple_getitem.lookup (getItem_tuple_to ht ⟨_, Heap.get?_push_size _ rfl, rfl, rfl⟩ (by simpa using hb) ?_ (by rw [List.size_toArray]; exact Nat.le_trans hz (by decide))) hs
  exact h _ _ (F'.push _) (N'.push F' _) fun p hp => Heap.lt_size (N' p hp).1
/-- t[:x] of a tuple of the ledger, x within it. -/
theorem cut_led {value slice : PySem.Expr} {t : Addr} {vs : List Value} {n : Nat} {x : Int} {u : Tok} {Q : Value → Shared → Prop} (Fm : Fr h₀ L s.heap m) (N : News h₀ L s.heap news) (hm : (t, ({ cls := .type "tuple", data := .seq vs.toArray n } : Obj)) ∈ news) (hx : 0 ≤ x) (hb : x.toNat < vs.length) (hz : vs.length ≤ 10000)
    (h : ∀ D h', Fr h₀ L h' m → News h₀ L h' ((D, tupO (vs.take x.toNat).toArray) :: news) → (∀ p ∈ news, p.1 < D) → Q (.ref D) { s with heap := h' })
    {ops : List Value} (hs : subscripted slice false (.ref t) (.ref s.heap.objs.size) = operate ops (getItem (.ref t) (.ref s.heap.objs.size))) :
    wpAny (model prog w) A (subscriptTail value slice (.ref t) (.ref s.heap.objs.size)) Q E { s with heap := s.heap.push { cls := .type "slice", data := .fields #[.none, .int x u, .none] } } := by
  have e : ((x.toNat : Nat) : Int) = x := Int.toNat_of_nonneg hx
  have := cut_led0 (u := u) Fm N hm hb hz h hs (E := E) (A := A) (prog := prog) (w := w) (value := value)
  rw [e] at this
  exact this
end
theorem rsize (n : Nat) : Builtin.Range.rangeSize 0 (n : Int) 1 = (n : Int) := by
  unfold Builtin.Range.rangeSize
  simp
  intro h
  subst h
  rfl
/-- Data of bools, ints, texts, tuples and lists, at most n deep. -/
def dok : Nat → Dat → Bool
  | _, .none => true
  | _, .bool _ => true
  | _, .int _ => true
  | _, .str x => PyData.strOk x
  | n + 1, .tuple ds => ds.all (dok n)
  | n + 1, .list ds => ds.all (dok n)
  | _, _ => false
section
variable {h₀ h : Heap} {L : Addr} {news : List (Addr × Obj)}
mutual
theorem dok_in (N : News h₀ L h news) : ∀ {v : Value} {d : Dat} (n : Nat), DatIn news v d → dok n d = true → ∃ as, Reads h v (kqdP d) as
  | _, _, _, .none, _ => ⟨_, Reads.none⟩
  | _, _, _, .bool b, _ => ⟨_, Reads.bool b⟩
  | _, _, _, .int i t, _ => ⟨_, Reads.int i t⟩
  | _, _, _, .str x t, _ => ⟨_, Reads.str x t⟩
  | _, _, n, .bytes _ _, hk => by cases n <;> simp [dok] at hk
  | _, _, 0, .tuple _ _, hk => by simp [dok] at hk
  | _, _, 0, .list _ _, hk => by simp [dok] at hk
  | _, _, n + 1, .tuple hm r, hk => by
    obtain ⟨as, q⟩ := dok_all N n r (by simpa [dok] using hk)
    rw [kqdP]
    exact ⟨as, reads_tuple_at (N.get hm) rfl rfl (by simpa using q)⟩
  | _, _, n + 1, .list hm r, hk => by
    obtain ⟨as, q⟩ := dok_all N n r (by simpa [dok] using hk)
    rw [kqdP]
    exact ⟨_, reads_list_at (N.get hm) rfl rfl (by simpa [W.listOf] using q)⟩
theorem dok_all (N : News h₀ L h news) : ∀ {vs : List Value} {ds : List Dat} (n : Nat), DatAll news vs ds → (∀ d ∈ ds, dok n d = true) → ∃ as, ReadsAll h vs (kqdPs ds) as
  | _, _, _, .nil, _ => ⟨_, ReadsAll.nil⟩
  | _, _, n, .cons hd r, hk => by
    obtain ⟨as, q⟩ := dok_in N n hd (hk _ (.head _))
    obtain ⟨bs, p⟩ := dok_all N n r fun d hm => hk d (.tail _ hm)
    rw [kqdPs]
    exact ⟨_, ReadsAll.cons q p⟩
end
end
theorem dok_lay : ∀ (n : Nat) (d : Dat), dok n d = true → (kqdP d).canLay0 = true ∧ (kqdP d).depth ≤ n ∧ PyData.eqv (kqdP d) (kqdP d) = true := by
  have all : ∀ (n : Nat), (∀ d, dok n d = true → (kqdP d).canLay0 = true ∧ (kqdP d).depth ≤ n ∧ PyData.eqv (kqdP d) (kqdP d) = true) → ∀ ds : List Dat, (∀ d ∈ ds, dok n d = true) → PyData.canLayAll0 (kqdPs ds) = true ∧ PyData.depthAll (kqdPs ds) ≤ n ∧ PyData.eqvAll (kqdPs ds) (kqdPs ds) = true := by
    intro n ih ds
    induction ds with
    | nil => intro _; simp [kqdPs, PyData.canLayAll0, PyData.depthAll, PyData.eqvAll]
    | cons d ds hi =>
      intro h
      have h1 := ih d (h d (.head _))
      have h2 := hi fun e he => h e (.tail _ he)
      simp only [kqdPs, PyData.canLayAll0, PyData.depthAll, PyData.eqvAll, h1.1, h1.2.2, h2.1, h2.2.2, Bool.and_self, true_and, and_true]
      have a1 := h1.2.1
      have a2 := h2.2.1
      omega
  intro n
  induction n with
  | zero =>
    intro d h
    cases d <;> simp_all [dok, kqdP, PyData.canLay0, PyData.depth, PyData.eqv]
  | succ n ih =>
    intro d h
    cases d with
    | tuple ds =>
      have q := all n ih ds (by simpa [dok] using h)
      have q2 := q.2.1
      simp only [kqdP, PyData.canLay0, PyData.depth, PyData.eqv, q.1, q.2.2, true_and, and_true]
      omega
    | list ds =>
      have q := all n ih ds (by simpa [dok] using h)
      have q2 := q.2.1
      simp only [kqdP, PyData.canLay0, PyData.depth, PyData.eqv, q.1, q.2.2, true_and, and_true]
      omega
    | _ => simp_all [dok, kqdP, PyData.canLay0, PyData.depth, PyData.eqv]
section
variable {prog : Program} {w : World} {A : Around} {E : Value → Shared → Prop} {s : Shared} {h₀ : Heap} {L : Addr} {news : List (Addr × Obj)} {Q : Value → Shared → Prop}
theorem ne_dat {a b : Value} {d : Dat} (N : News h₀ L s.heap news) (Da : DatIn news a d) (Db : DatIn news b d) (hk : dok 8 d = true) (hu : A.units + 64 < cLine) (h : Q (.bool false) s) : wpAny (model prog w) A (compareOp .NotEq a b) Q E s := by
  obtain ⟨as, ra⟩ := dok_in N 8 Da hk
  obtain ⟨bs, rb⟩ := dok_in N 8 Db hk
  have la := dok_lay 8 d hk
  refine ne_dataH ra rb ?_ ?_ hu (by rw [la.2.2]; exact h)
  · unfold SeqAt.shaped; rw [la.1, Bool.true_and]; exact decide_eq_true (Nat.le_trans la.2.1 (by decide))
  · unfold SeqAt.shaped; rw [la.1, Bool.true_and]; exact decide_eq_true (Nat.le_trans la.2.1 (by decide))
theorem eq_dat {a b : Value} {d : Dat} (N : News h₀ L s.heap news) (Da : DatIn news a d) (Db : DatIn news b d) (hk : dok 8 d = true) (hu : A.units + 64 < cLine) (h : Q (.bool true) s) : wpAny (model prog w) A (compareOp .Eq a b) Q E s := by
  obtain ⟨as, ra⟩ := dok_in N 8 Da hk
  obtain ⟨bs, rb⟩ := dok_in N 8 Db hk
  have la := dok_lay 8 d hk
  refine eq_dataH ra rb ?_ ?_ hu (by rw [la.2.2]; exact h)
  · unfold SeqAt.shaped; rw [la.1, Bool.true_and]; exact decide_eq_true (Nat.le_trans la.2.1 (by decide))
  · unfold SeqAt.shaped; rw [la.1, Bool.true_and]; exact decide_eq_true (Nat.le_trans la.2.1 (by decide))
end
section
variable {prog : Program} {w : World} {A : Around} {E : Value → Shared → Prop} {s : Shared} {h₀ : Heap} {L : Addr} {m : Str → Option Value} {news : List (Addr × Obj)} {Q : Value → Shared → Prop}
theorem list_of_tup {t : Addr} {vs : List Value} {n : Nat} (Fm : Fr h₀ L s.heap m) (N : News h₀ L s.heap news) (hm : (t, ({ cls := .type "tuple", data := .seq vs.toArray n } : Obj)) ∈ news) (hz : vs.length ≤ 1000000)
    (h : ∀ D e h', Fr h₀ L h' m → News h₀ L h' ((D, W.listOf vs.toArray e) :: news) → (∀ p ∈ news, p.1 < D) → Q (.ref D) { s with heap := h' }) : wpAny (model prog w) A (call (.type "list") [.ref t]) Q E s := by
  refine call_list_seq (items := vs.toArray) t (.inr rfl) (N.get hm) rfl rfl (fun h' c' hk hg => ?_) (by rw [List.size_toArray]; exact Nat.le_trans hz (by decide))
  refine h _ c' h' (fr_stays Fm hk) (fun p hp => ?_) fun p hp => Heap.lt_size (N p hp).1
  rcases List.mem_cons.mp hp with rfl | hp
  · exact ⟨hg, Nat.ne_of_gt Fm.ns.lt, next_is_new Fm⟩
  · exact news_stays N hk p hp
theorem item_tupLed {value slice : PySem.Expr} {t : Addr} {l : List Value} {n : Nat} {k : Int} {u : Tok} {j : Nat} {x : Value} (N : News h₀ L s.heap news) (hm : (t, ({ cls := .type "tuple", data := .seq l.toArray n } : Obj)) ∈ news)
    (hlo : -(2 ^ 63) ≤ k) (hhi : k < 2 ^ 63) (hj : seqIndex? k l.length = some j) (hx : l[j]? = some x) (h : Q x s)
    {ops : List Value} (hs : subscripted slice false (.ref t) (.int k u) = operate ops (getItem (.ref t) (.int k u))) :
    wpAny (model prog w) A (subscriptTail value slice (.ref t) (.int k u)) Q E s := by
  have ht : IsTup s.heap t l.toArray := ⟨_, N.get hm, rfl, n, rfl⟩
  exact tail_any ht.typeIs slot_tuple_getitem.lookup (getItem_tuple ht hlo hhi (by simpa using hj) (by simpa using hx) h) hs
end
section
variable {prog : Program} {w : World} {A : Around} {E : Value → Shared → Prop} {s : Shared} {h₀ : Heap} {L : Addr} {m : Str → Option Value} {news : List (Addr × Obj)} {Q : Value → Shared → Prop}
theorem ints_at {vs : List Value} {ns : List Int} (hi : IntsAre vs ns) {k : Nat} (h : k < ns.length) : ∃ t, vs[k]? = some (.int (ns.getD k 0) t) := by
  have e : ns[k]? = some (ns.getD k 0) := by rw [List.getD_eq_getElem?_getD, List.getElem?_eq_getElem h]; rfl
  exact hi.get k _ e
theorem getItem_ints {l : Addr} {vs : List Value} {ns : List Int} {n : Nat} {k : Int} {u : Tok} (N : News h₀ L s.heap news) (hm : (l, W.listOf vs.toArray n) ∈ news) (hi : IntsAre vs ns) (h0 : 0 ≤ k) (h1 : k.toNat < ns.length) (hf : k < 2 ^ 63)
    (h : ∀ t, Q (.int (ns.getD k.toNat 0) t) s) : wpAny (model prog w) A (getItem (.ref l) (.int k u)) Q E s := by
  obtain ⟨t, e⟩ := ints_at hi h1
  exact wpAny_getItem_list (items := vs.toArray) ⟨_, N.get hm, rfl, n, rfl⟩ h0 hf (by simpa using e) (h t)
end

end

section
open PySem PySem.W PyProof.Rows PySem.Calls PySem.Spec

section
variable {prog : Program} {w : World} {A : Around} {E : Value → Shared → Prop} {s : Shared} {h₀ : Heap} {L : Addr} {m : Str → Option Value} {news : List (Addr × Obj)} {Q : Value → Shared → Prop}
theorem ints_last {vs : List Value} {ns : List Int} (hi : IntsAre vs ns) (h : ns ≠ []) : ∃ t, vs[vs.length - 1]? = some (.int (ns.getLastD 0) t) := by
  have hl := hi.length
  have hp : 0 < ns.length := List.length_pos_iff.mpr h
  obtain ⟨t, e⟩ := ints_at hi (k := vs.length - 1) (by omega)
  refine ⟨t, ?_⟩
  rw [e]
  congr 2
  rw [hl, List.getLastD_eq_getLast?, List.getLast?_eq_getElem?, List.getD_eq_getElem?_getD]
/-- l[-1] of a list of ints of the ledger. -/
theorem item_lastI {value slice : PySem.Expr} {l : Addr} {vs : List Value} {ns : List Int} {n : Nat} {k : Int} {u : Tok} (N : News h₀ L s.heap news) (hm : (l, W.listOf vs.toArray n) ∈ news) (hi : IntsAre vs ns) (hk : k = -1) (hne : ns ≠ []) (h : ∀ t, Q (.int (ns.getLastD 0) t) s)
    {ops : List Value} (hs : subscripted slice false (.ref l) (.int k u) = operate ops (getItem (.ref l) (.int k u))) :
    wpAny (model prog w) A (subscriptTail value slice (.ref l) (.int k u)) Q E s := by
  subst hk
  obtain ⟨t, e⟩ := ints_last hi hne
  have hp : 0 < vs.length := by rw [hi.length]; exact List.length_pos_iff.mpr hne
  refine tail_any (s := s) (Heap.IsList.typeIs ⟨_, N.get hm, rfl, n, rfl⟩) slot_list_getitem.lookup (wpAny_getItem_list_neg (items := vs.toArray) ⟨_, N.get hm, rfl, n, rfl⟩ (by omega) ?_ (by decide) ?_ (h t)) hs
  · rw [List.size_toArray]; omega
  · rw [List.size_toArray]
    have : (-1 + (vs.length : Int)).toNat = vs.length - 1 := by omega
    rw [this]; simpa using e
end

end

section
open PySem PySem.W PyProof.Rows PySem.Calls PySem.Spec

/-! A comprehension by an invariant over a state of one's own. -/
section
variable {prog : Program} {w : World} {A : Around} {h₀ : Heap} {L : Addr} {m : Str → Option Value} {env : Env}
def CTurn {σ : Type} (h₀ : Heap) (L : Addr) (m : Str → Option Value) (s : Shared) (I : Addr) (oI : Obj) (C : Addr) (oC : Obj) (D : Addr) (ys : List Value) (led : σ → List (Addr × Obj)) (S : List (Addr × Obj) → Prop) (Inv : List Value → σ → Prop) (y : Value) (s₂ : Shared) : Prop :=
  ∃ c' h' tk', s₂ = { s with heap := h', toks := tk' } ∧ Fr h₀ L h' m ∧ News h₀ L h' ((I, oI) :: (C, oC) :: (D, LCg.lst ys) :: led c') ∧ LCg.Off3 I C D (led c') ∧ S (led c') ∧ Inv (ys ++ [y]) c'
def CInt (h₀ : Heap) (L : Addr) (m : Str → Option Value) (s : Shared) (I : Addr) (oI : Obj) (C : Addr) (oC : Obj) (D : Addr) (ys : List Value) (news : List (Addr × Obj)) (k : Int) (y : Value) (s₂ : Shared) : Prop :=
  ∃ h' tk' t, s₂ = { s with heap := h', toks := tk' } ∧ Fr h₀ L h' m ∧ News h₀ L h' ((I, oI) :: (C, oC) :: (D, LCg.lst ys) :: news) ∧ y = .int k t
theorem cint {h₀ h' : Heap} {L I C D : Addr} {m : Str → Option Value} {s : Shared} {oI oC : Obj} {ys : List Value} {news : List (Addr × Obj)} {k k' : Int} {t : Tok} {tk : Nat} (F : Fr h₀ L h' m) (N : News h₀ L h' ((I, oI) :: (C, oC) :: (D, LCg.lst ys) :: news)) (e : k' = k) :
    CInt h₀ L m s I oI C oC D ys news k (.int k' t) { s with heap := h', toks := tk } := ⟨h', tk, t, rfl, F, N, by rw [e]⟩
theorem comp_led0 {σ : Type} {elt : Expr} {x : Str} {scope : Scope} {cl : List (Str × Addr)} {s : Shared} {S : List (Addr × Obj) → Prop} {P : Nat → Value → Prop} {Fin : List Value → List (Addr × Obj) → Prop} {n : Nat}
    (led : σ → List (Addr × Obj)) (Inv : Nat → List Value → σ → Prop)
    (turn : ∀ i v ys c I oI C oC D m₂ h tk (E' : Value → Shared → Prop), i < n → P i v → Inv i ys c → LCg.NsObj oC m₂ → m₂ x = some v → Fr h₀ L h m → News h₀ L h ((I, oI) :: (C, oC) :: (D, LCg.lst ys) :: led c) → LCg.Off3 I C D (led c) → ((@Ne Nat I C) ∧ (@Ne Nat I D) ∧ (@Ne Nat C D)) →
      wpAny (model prog w) A (eval elt (compEnvC scope cl C env)) (CTurn h₀ L m s I oI C oC D ys led S (Inv (i + 1))) E' { s with heap := h, toks := tk })
    (fin : ∀ ys c, Inv n ys c → Fin ys (led c)) :
    ∀ k i ys c, k + i = n → Inv i ys c → LCg.CompRest prog w A h₀ L m env elt x scope cl s S P Fin k i ys (led c)
  | 0, i, ys, c, hk, hi => by
    have : i = n := by omega
    subst this
    exact fin ys c hi
  | k + 1, i, ys, c, hk, hi => by
    refine LCg.CompRest.succ ?_
    intro v I oI C oC D m₂ h tk E' hP hC hx F N off ne
    refine wpAny_mono (turn i v ys c I oI C oC D m₂ h tk E' (by omega) hP hi hC hx F N off ne) (fun y s₂ q => ?_) fun _ _ e => e
    obtain ⟨c', h', tk', rfl, F', N', off', hS, hi'⟩ := q
    exact ⟨h', tk', led c', rfl, F', N', off', hS, comp_led0 led Inv turn fin k (i + 1) _ c' (by omega) hi'⟩
theorem comp_led {σ : Type} {elt : Expr} {x : Str} {scope : Scope} {cl : List (Str × Addr)} {s : Shared} {S : List (Addr × Obj) → Prop} {P : Nat → Value → Prop} {Fin : List Value → List (Addr × Obj) → Prop} {n : Nat} {news : List (Addr × Obj)}
    (led : σ → List (Addr × Obj)) (Inv : Nat → List Value → σ → Prop) (c₀ : σ) (hn : news = led c₀) (hi : Inv 0 [] c₀)
    (turn : ∀ i v ys c I oI C oC D m₂ h tk (E' : Value → Shared → Prop), i < n → P i v → Inv i ys c → LCg.NsObj oC m₂ → m₂ x = some v → Fr h₀ L h m → News h₀ L h ((I, oI) :: (C, oC) :: (D, LCg.lst ys) :: led c) → LCg.Off3 I C D (led c) → ((@Ne Nat I C) ∧ (@Ne Nat I D) ∧ (@Ne Nat C D)) →
      wpAny (model prog w) A (eval elt (compEnvC scope cl C env)) (CTurn h₀ L m s I oI C oC D ys led S (Inv (i + 1))) E' { s with heap := h, toks := tk })
    (fin : ∀ ys c, Inv n ys c → Fin ys (led c)) :
    LCg.CompRest prog w A h₀ L m env elt x scope cl s S P Fin n 0 [] news := by
  subst hn
  exact comp_led0 led Inv turn fin n 0 [] c₀ (by omega) hi
/-- The element makes nothing that is kept: ints told by a function of the turn's number. -/
theorem comp_ints {elt : Expr} {x : Str} {scope : Scope} {cl : List (Str × Addr)} {s : Shared} {S : List (Addr × Obj) → Prop} {P : Nat → Value → Prop} {Fin : List Value → List (Addr × Obj) → Prop} {n : Nat} {news : List (Addr × Obj)}
    (f : Nat → Int) (hS : S news)
    (turn : ∀ i v ys I oI C oC D m₂ h tk (E' : Value → Shared → Prop), i < n → P i v → LCg.NsObj oC m₂ → m₂ x = some v → Fr h₀ L h m → News h₀ L h ((I, oI) :: (C, oC) :: (D, LCg.lst ys) :: news) → LCg.Off3 I C D news → ((@Ne Nat I C) ∧ (@Ne Nat I D) ∧ (@Ne Nat C D)) →
      wpAny (model prog w) A (eval elt (compEnvC scope cl C env)) (CInt h₀ L m s I oI C oC D ys news (f i)) E' { s with heap := h, toks := tk })
    (fin : ∀ ys, IntsAre ys ((List.range n).map f) → Fin ys news) :
    LCg.CompRest prog w A h₀ L m env elt x scope cl s S P Fin n 0 [] news := by
  refine comp_led (σ := Unit) (fun _ => news) (fun i ys _ => IntsAre ys ((List.range i).map f)) () rfl .nil ?_ (fun ys _ h => fin ys h)
  intro i v ys c I oI C oC D m₂ h tk E' hi hP hinv hC hx F N off ne
  refine wpAny_mono (turn i v ys I oI C oC D m₂ h tk E' hi hP hC hx F N off ne) (fun y s₂ q => ?_) fun _ _ e => e
  obtain ⟨h', tk', t, rfl, F', N', rfl⟩ := q
  refine ⟨(), h', tk', rfl, F', N', off, hS, ?_⟩
  rw [List.range_succ, List.map_append]
  exact hinv.append (.cons _ _ .nil)
end
section
variable {prog : Program} {w : World} {A : Around} {E : Value → Shared → Prop} {s : Shared} {h₀ : Heap} {L D : Addr} {m : Str → Option Value} {news news' : List (Addr × Obj)} {n : Nat} {Q : Value → Shared → Prop}
theorem pop_ints {us : List Value} {R : List Int} {b : Int} (F : Fr h₀ L s.heap m) (N : News h₀ L s.heap news) (U : Upd D (W.listOf us.toArray n) (W.listOf us.dropLast.toArray (n + 1)) news news') (hi : IntsAre us (R ++ [b])) (hz : R.length ≤ 1000000)
    (h : ∀ h' t, Fr h₀ L h' m → News h₀ L h' news' → IntsAre us.dropLast R → Q (.int b t) { s with heap := h' }) : wpAny (model prog w) A (call (.builtin "list.pop") [.ref D]) Q E s := by
  have hl := hi.length
  rw [List.length_append, List.length_singleton] at hl
  refine kpa_pop F N U hi (by omega) (by rw [PySem.sizeLine_eq]; omega) fun h' t F' N' hI' => ?_
  have e1 : (R ++ [b]).getLastD 0 = b := by simp
  have e2 : (R ++ [b]).dropLast = R := by simp
  rw [e1]
  rw [e2] at hI'
  exact h h' t F' N' hI'
end
section
variable {prog : Program} {w : World} {A : Around} {E : Value → Shared → Prop} {s : Shared} {h₀ : Heap} {L a b l : Addr} {m : Str → Option Value} {news : List (Addr × Obj)} {n k : Nat} {vs ws : List Value} {ns ms : List Int} {Q : Value → Shared → Prop}
theorem addI_led (F : Fr h₀ L s.heap m) (N : News h₀ L s.heap news) (ha : (a, W.listOf vs.toArray n) ∈ news) (hb : (b, W.listOf ws.toArray k) ∈ news) (hi : IntsAre vs ns) (hj : IntsAre ws ms) (hz : ns.length + ms.length ≤ 1000000)
    (h : ∀ D h', Fr h₀ L h' m → News h₀ L h' ((D, W.listOf (vs ++ ws).toArray 0) :: news) → (∀ p ∈ news, p.1 < D) → IntsAre (vs ++ ws) (ns ++ ms) → Q (.ref D) { s with heap := h' }) : wpAny (model prog w) A (binaryOp .Add (.ref a) (.ref b)) Q E s :=
  add_lists_ints (hsz := by rw [PySem.sizeLine_eq]; omega) F N ⟨_, N.get ha, rfl, n, rfl⟩ ⟨_, N.get hb, rfl, k, rfl⟩ hi hj fun h' F' N' hk => h _ h' F' N' (fun p hp => Heap.lt_size (N p hp).1) hk
theorem maxI_led (hh : A.handled = none) (F : Fr h₀ L s.heap m) (N : News h₀ L s.heap news) (hl : (l, W.listOf vs.toArray n) ∈ news) (hi : IntsAre vs ns) (hne : ns ≠ [])
    (h : ∀ h' M (t : Tok) tk, Fr h₀ L h' m → News h₀ L h' news → M ∈ ns → (∀ a, a ∈ ns → a ≤ M) → Q (.int M t) { s with heap := h', toks := tk }) :
    wpAny (model prog w) A (call (.builtin "max") [.ref l]) Q E s :=
  max_list_N hh F N ⟨_, N.get hl, rfl, n, rfl⟩ hi (List.length_pos_iff.mpr hne) h
theorem countI_led {x : Int} {t : Tok} (N : News h₀ L s.heap news) (hl : (l, W.listOf vs.toArray n) ∈ news) (hi : IntsAre vs ns)
    (h : ∀ t' k, Q (.int (ns.count x : Nat) t') { s with toks := k }) : wpAny (model prog w) A (call (.builtin "list.count") [.ref l, .int x t]) Q E s :=
  count_list_ints ⟨_, N.get hl, rfl, n, rfl⟩ hi (h _ _)
end

end

section
open PySem PySem.W PyProof.Rows PySem.Calls PySem.Spec

theorem mulOk_of {x : Str} {n : Int} (hx : x.length ≤ 1000) (hn : n ≤ 1000) (hm : -1000 ≤ n) : MulOk x n := by
  refine ⟨?_, ?_, ?_⟩
  · have a : decide (n < -(2 ^ 63 : Int)) = false := decide_eq_false (by omega)
    have b : decide (n ≥ 2 ^ 63) = false := decide_eq_false (by omega)
    rw [a, b]; rfl
  · intro h1 _
    have : (1000 : Int) ≤ (2 ^ 63 - 1) / n := by
      refine (Int.le_ediv_iff_mul_le (by omega)).mpr ?_
      omega
    omega
  · intro h1 _
    have h2 : x.length * n.toNat ≤ 1000 * 1000 := Nat.mul_le_mul hx (by omega)
    unfold PySem.Builtin.Str.tooLong
    rw [PySem.sizeLine_eq]
    exact decide_eq_false (by omega)
section
variable {prog : Program} {w : World} {A : Around} {E : Value → Shared → Prop} {s : Shared} {h₀ : Heap} {L D : Addr} {m : Str → Option Value} {news : List (Addr × Obj)} {k : Nat} {Q : Value → Shared → Prop} {x : Str} {t u : Tok}
theorem mul_led {n : Int} (hx : x.length ≤ 1000) (hn : n ≤ 1000) (hm : -1000 ≤ n) (h : ∀ t' k, Q (.str (Txt.mul x n) t') { s with toks := k }) : wpAny (model prog w) A (binaryOp .Mult (.str x t) (.int n u)) Q E s := SB.mul (mulOk_of hx hn hm) h
theorem join_led {vs : List Value} {ys : List Str} (N : News h₀ L s.heap news) (hl : (D, W.listOf vs.toArray k) ∈ news) (hi : StrsAre vs ys) (hok : (ys.map (·.length)).sum + ys.length * x.length ≤ 16777216)
    (h : ∀ t' k, Q (.str (Txt.join x ys) t') { s with toks := k }) : wpAny (model prog w) A (call (.builtin "str.join") [.str x t, .ref D]) Q E s :=
  join_list (items := vs.toArray) ⟨_, N.get hl, rfl, k, rfl⟩ hi hok h
end
section
variable {prog : Program} {w : World} {A : Around} {h₀ : Heap} {L : Addr} {m : Str → Option Value} {env : Env}
def CStr (h₀ : Heap) (L : Addr) (m : Str → Option Value) (s : Shared) (I : Addr) (oI : Obj) (C : Addr) (oC : Obj) (D : Addr) (ys : List Value) (news : List (Addr × Obj)) (k : Str) (y : Value) (s₂ : Shared) : Prop :=
  ∃ h' tk' t, s₂ = { s with heap := h', toks := tk' } ∧ Fr h₀ L h' m ∧ News h₀ L h' ((I, oI) :: (C, oC) :: (D, LCg.lst ys) :: news) ∧ y = .str k t
theorem cstr {h₀ h' : Heap} {L I C D : Addr} {m : Str → Option Value} {s : Shared} {oI oC : Obj} {ys : List Value} {news : List (Addr × Obj)} {k k' : Str} {t : Tok} {tk : Nat} (F : Fr h₀ L h' m) (N : News h₀ L h' ((I, oI) :: (C, oC) :: (D, LCg.lst ys) :: news)) (e : k' = k) :
    CStr h₀ L m s I oI C oC D ys news k (.str k' t) { s with heap := h', toks := tk } := ⟨h', tk, t, rfl, F, N, by rw [e]⟩
/-- The element makes nothing that is kept: texts told by a function of the turn's number. -/
theorem comp_strs {elt : Expr} {x : Str} {scope : Scope} {cl : List (Str × Addr)} {s : Shared} {S : List (Addr × Obj) → Prop} {P : Nat → Value → Prop} {Fin : List Value → List (Addr × Obj) → Prop} {n : Nat} {news : List (Addr × Obj)}
    (f : Nat → Str) (hS : S news)
    (turn : ∀ i v ys I oI C oC D m₂ h tk (E' : Value → Shared → Prop), i < n → P i v → LCg.NsObj oC m₂ → m₂ x = some v → Fr h₀ L h m → News h₀ L h ((I, oI) :: (C, oC) :: (D, LCg.lst ys) :: news) → LCg.Off3 I C D news → ((@Ne Nat I C) ∧ (@Ne Nat I D) ∧ (@Ne Nat C D)) →
      wpAny (model prog w) A (eval elt (compEnvC scope cl C env)) (CStr h₀ L m s I oI C oC D ys news (f i)) E' { s with heap := h, toks := tk })
    (fin : ∀ ys, StrsAre ys ((List.range n).map f) → Fin ys news) :
    LCg.CompRest prog w A h₀ L m env elt x scope cl s S P Fin n 0 [] news := by
  refine comp_led (σ := Unit) (fun _ => news) (fun i ys _ => StrsAre ys ((List.range i).map f)) () rfl .nil ?_ (fun ys _ h => fin ys h)
  intro i v ys c I oI C oC D m₂ h tk E' hi hP hinv hC hx F N off ne
  refine wpAny_mono (turn i v ys I oI C oC D m₂ h tk E' hi hP hC hx F N off ne) (fun y s₂ q => ?_) fun _ _ e => e
  obtain ⟨h', tk', t, rfl, F', N', rfl⟩ := q
  refine ⟨(), h', tk', rfl, F', N', off, hS, ?_⟩
  rw [List.range_succ, List.map_append]
  exact hinv.append' (.cons _ _ .nil)
end
/-- What a place of a list of ints holds. -/
theorem ints_item {vs : List Value} {ns : List Int} (hi : IntsAre vs ns) {i : Nat} {v : Value} (h : vs.toArray[i]? = some v) : ∃ t, i < ns.length ∧ v = .int (ns.getD i 0) t := by
  have h' : vs[i]? = some v := by simpa using h
  have hl := (List.getElem?_eq_some_iff.mp h').1
  rw [hi.length] at hl
  obtain ⟨t, e⟩ := ints_at hi hl
  rw [h'] at e
  exact ⟨t, hl, Option.some.inj e⟩
theorem map_range {α β : Type} (l : List α) (d : α) (g : α → β) : (List.range l.length).map (fun i => g (l.getD i d)) = l.map g := by
  apply List.ext_getElem
  · simp
  · intro i h1 h2
    simp only [List.length_map] at h2
    simp [List.getD_eq_getElem?_getD, List.getElem?_eq_getElem h2]
section
variable {prog : Program} {w : World} {A : Around} {h₀ : Heap} {L : Addr} {m : Str → Option Value} {env : Env} {elt : Expr} {x : Str} {scope : Scope} {cl : List (Str × Addr)} {s : Shared} {S : List (Addr × Obj) → Prop} {Fin : List Value → List (Addr × Obj) → Prop} {news : List (Addr × Obj)} {vs : List Value} {ns : List Int}
theorem comp_mapI (hi : IntsAre vs ns) (f : Int → Int) (hS : S news)
    (turn : ∀ a t ys I oI C oC D m₂ h tk (E' : Value → Shared → Prop), a ∈ ns → LCg.NsObj oC m₂ → m₂ x = some (.int a t) → Fr h₀ L h m → News h₀ L h ((I, oI) :: (C, oC) :: (D, LCg.lst ys) :: news) → LCg.Off3 I C D news → ((@Ne Nat I C) ∧ (@Ne Nat I D) ∧ (@Ne Nat C D)) →
      wpAny (model prog w) A (eval elt (compEnvC scope cl C env)) (CInt h₀ L m s I oI C oC D ys news (f a)) E' { s with heap := h, toks := tk })
    (fin : ∀ ys, IntsAre ys (ns.map f) → Fin ys news) :
    LCg.CompRest prog w A h₀ L m env elt x scope cl s S (fun i v => vs.toArray[i]? = some v) Fin vs.toArray.size 0 [] news := by
  refine comp_ints (fun i => f (ns.getD i 0)) hS ?_ ?_
  · intro i v ys I oI C oC D m₂ h tk E' hin hP hC hx F N off ne
    obtain ⟨t, hl, rfl⟩ := ints_item hi hP
    refine turn _ t ys I oI C oC D m₂ h tk E' ?_ hC hx F N off ne
    rw [List.getD_eq_getElem?_getD, List.getElem?_eq_getElem hl]
    exact List.getElem_mem hl
  · intro ys h
    refine fin ys ?_
    rw [List.size_toArray, hi.length, map_range ns 0 f] at h
    exact h
theorem comp_mapS (hi : IntsAre vs ns) (f : Int → Str) (hS : S news)
    (turn : ∀ a t ys I oI C oC D m₂ h tk (E' : Value → Shared → Prop), a ∈ ns → LCg.NsObj oC m₂ → m₂ x = some (.int a t) → Fr h₀ L h m → News h₀ L h ((I, oI) :: (C, oC) :: (D, LCg.lst ys) :: news) → LCg.Off3 I C D news → ((@Ne Nat I C) ∧ (@Ne Nat I D) ∧ (@Ne Nat C D)) →
      wpAny (model prog w) A (eval elt (compEnvC scope cl C env)) (CStr h₀ L m s I oI C oC D ys news (f a)) E' { s with heap := h, toks := tk })
    (fin : ∀ ys, StrsAre ys (ns.map f) → Fin ys news) :
    LCg.CompRest prog w A h₀ L m env elt x scope cl s S (fun i v => vs.toArray[i]? = some v) Fin vs.toArray.size 0 [] news := by
  refine comp_strs (fun i => f (ns.getD i 0)) hS ?_ ?_
  · intro i v ys I oI C oC D m₂ h tk E' hin hP hC hx F N off ne
    obtain ⟨t, hl, rfl⟩ := ints_item hi hP
    refine turn _ t ys I oI C oC D m₂ h tk E' ?_ hC hx F N off ne
    rw [List.getD_eq_getElem?_getD, List.getElem?_eq_getElem hl]
    exact List.getElem_mem hl
  · intro ys h
    refine fin ys ?_
    rw [List.size_toArray, hi.length, map_range ns 0 f] at h
    exact h
end

end

section
open PySem PySem.W PyProof.Rows PySem.Calls PySem.Spec

section
variable {prog : Program} {w : World} {A : Around} {E : Value → Shared → Prop} {s : Shared} {h₀ : Heap} {L : Addr} {m : Str → Option Value} {news : List (Addr × Obj)} {Q : Value → Shared → Prop}
/-- A place of a tuple of ints that stood before the frame. -/
theorem item_tupB {value slice : PySem.Expr} {t : Addr} {vs : List Value} {ns : List Int} {k : Int} {u : Tok} (F : Fr h₀ L s.heap m) (ht : IsTup h₀ t vs.toArray) (hi : IntsAre vs ns) (h0 : 0 ≤ k) (h1 : k.toNat < ns.length) (hf : k < 2 ^ 63) (h : ∀ t', Q (.int (ns.getD k.toNat 0) t') s)
    {ops : List Value} (hs : subscripted slice false (.ref t) (.int k u) = operate ops (getItem (.ref t) (.int k u))) :
    wpAny (model prog w) A (subscriptTail value slice (.ref t) (.int k u)) Q E s := by
  have ht' : IsTup s.heap t vs.toArray := ht.keeps F.keep
  obtain ⟨t', e⟩ := ints_at hi h1
  have hl := hi.length
  refine tail_any ht'.typeIs slot_tuple_getitem.lookup (getItem_tuple (j := k.toNat) ht' (by omega) hf ?_ (by simpa using e) (h t')) hs
  rw [List.size_toArray]
  exact seqIndex_of h0 (by omega)
theorem len_tupB {t : Addr} {vs : List Value} {ns : List Int} (F : Fr h₀ L s.heap m) (ht : IsTup h₀ t vs.toArray) (hi : IntsAre vs ns) (hz : ns.length ≤ 1000000) (h : ∀ t' k, Q (.int (ns.length : Int) t') { s with toks := k }) :
    wpAny (model prog w) A (call (.builtin "len") [.ref t]) Q E s := by
  have ht' : IsTup s.heap t vs.toArray := ht.keeps F.keep
  have hl := hi.length
  refine len_tuple ht' (by rw [List.size_toArray]; omega) ?_
  rw [List.size_toArray, hl]
  exact h _ _
end
theorem and3N {a b c d : Nat} (h : a < b ∧ b < c ∧ c < d) : a < b ∧ b < c ∧ c < d := h
theorem datInt {news : List (Addr × Obj)} {i j : Int} {t : Tok} (h : i = j) : DatIn news (.int i t) (.int j) := h ▸ .int i t
theorem datInts {news : List (Addr × Obj)} {vs : List Value} {l m : List Int} (hi : IntsAre vs l) (e : l = m) : DatAll news vs (m.map .int) := e ▸ datAll_ints hi
theorem isnot_refute {a b c a' b' c' : Int} (h1 : a = a') (h2 : b = b') (h3 : c = c') (h : (decide (a = b + c) != (a' == b' + c')) = true) : False := by
  subst h1 h2 h3
  by_cases e : a = b + c
  · simp [e] at h
  · have : (a == b + c) = false := by rw [beq_eq_false_iff_ne]; exact e
    rw [this] at h
    simp [e] at h
theorem dok_ints {n : Nat} (l : List Int) : (l.map Dat.int).all (dok n) = true := by
  induction l with
  | nil => rfl
  | cons a r ih => rw [List.map_cons, List.all_cons, ih]; cases n <;> rfl

end

section
open PySem PySem.W PyProof.Rows PySem.Calls PySem.Spec

def pickL {α : Type} (l : List α) (lo hi st : Option Int) : List α :=
  (sliceRange (sliceBounds lo hi st l.length).1 (sliceBounds lo hi st l.length).2.1 (sliceBounds lo hi st l.length).2.2).filterMap (l[·]?)
theorem slicePick_list (vs : List Value) (lo hi st : Option Int) : slicePick vs.toArray lo hi st = (pickL vs lo hi st).toArray := by
  simp [slicePick, pickL]
theorem pickNums_list (ns : List Int) (lo hi st : Option Int) : pickNums ns lo hi st = pickL ns lo hi st := rfl
theorem filterMap_range {α : Type} (l : List α) (f : Nat → Nat) (n : Nat) (g : List α) (hg : g.length = n) (h : ∀ k, k < n → l[f k]? = g[k]?) : ((List.range n).map f).filterMap (l[·]?) = g := by
  subst hg
  rw [List.filterMap_map]
  have e : ∀ m, m ≤ g.length → (List.range m).filterMap ((l[·]?) ∘ f) = g.take m := by
    intro m
    induction m with
    | zero => simp
    | succ m ih =>
      intro hm
      rw [List.range_succ, List.filterMap_append, ih (by omega), List.take_add_one]
      congr 1
      have := h m (by omega)
      have h2 : g[m]? = some g[m] := List.getElem?_eq_getElem (by omega)
      simp [Function.comp, this, h2]
  rw [e g.length (Nat.le_refl _), List.take_length]
theorem pickL_to {α : Type} (l : List α) {k : Int} (h0 : 0 ≤ k) : pickL l none (some k) none = l.take k.toNat := by
  have e : sliceBounds none (some k) none l.length = ((0 : Int), max 0 (min k l.length), (1 : Int)) := by
    unfold sliceBounds
    have h1 : ¬ k < 0 := by omega
    simp [h1]
  unfold pickL
  rw [e]
  unfold sliceRange
  refine filterMap_range l _ _ _ ?_ ?_
  · rw [List.length_take]
    simp only [Int.sub_zero]
    have : (if (1 : Int) > 0 then (if (0 : Int) < max 0 (min k ↑l.length) then (max 0 (min k ↑l.length) + 1 - 1) / 1 else 0) else if (0 : Int) > max 0 (min k ↑l.length) then (0 - max 0 (min k ↑l.length) - 1 - 1) / -1 else 0) = max 0 (min k ↑l.length) := by
      rw [if_pos (by decide)]
      split <;> omega
    rw [this]
    omega
  · intro j hj
    have e2 : ((0 : Int) + 1 * (j : Int)).toNat = j := by omega
    rw [e2, List.getElem?_take]
    split
    · rfl
    · rename_i hn
      rw [List.getElem?_eq_none]
      rw [show (if (1 : Int) > 0 then (if (0 : Int) < max 0 (min k ↑l.length) then (max 0 (min k ↑l.length) - 0 + 1 - 1) / 1 else 0) else if (0 : Int) > max 0 (min k ↑l.length) then (0 - max 0 (min k ↑l.length) - 1 - 1) / -1 else 0) = max 0 (min k ↑l.length) by rw [if_pos (by decide)]; split <;> omega] at hj
      omega
theorem pickL_from {α : Type} (l : List α) {k : Int} (h0 : 0 ≤ k) : pickL l (some k) none none = l.drop k.toNat := by
  have e : sliceBounds (some k) none none l.length = (max 0 (min k l.length), (l.length : Int), (1 : Int)) := by
    unfold sliceBounds
    have h1 : ¬ k < 0 := by omega
    simp [h1]
  unfold pickL
  rw [e]
  unfold sliceRange
  have hc : (if (1 : Int) > 0 then (if max 0 (min k ↑l.length) < (l.length : Int) then ((l.length : Int) - max 0 (min k ↑l.length) + 1 - 1) / 1 else 0) else if max 0 (min k ↑l.length) > (l.length : Int) then (max 0 (min k ↑l.length) - (l.length : Int) - 1 - 1) / -1 else 0) = (l.length : Int) - max 0 (min k ↑l.length) := by
    rw [if_pos (by decide)]
    split <;> omega
  refine filterMap_range l _ _ _ ?_ ?_
  · rw [List.length_drop]
    simp only [hc]
    omega
  · intro j hj
    rw [List.getElem?_drop]
    simp only [hc] at hj
    have e2 : (max 0 (min k ↑l.length) + 1 * (j : Int)).toNat = k.toNat + j := by omega
    rw [e2]
theorem pickL_rev {α : Type} (l : List α) : pickL l none none (some (-1)) = l.reverse := by
  have e : sliceBounds none none (some (-1)) l.length = ((l.length : Int) - 1, (-1 : Int), (-1 : Int)) := by
    unfold sliceBounds
    simp
  unfold pickL
  rw [e]
  unfold sliceRange
  have hc : (if (-1 : Int) > 0 then (if (l.length : Int) - 1 < -1 then (-1 - ((l.length : Int) - 1) + -1 - 1) / -1 else 0) else if (l.length : Int) - 1 > -1 then ((l.length : Int) - 1 - -1 - -1 - 1) / (- -1) else 0) = (l.length : Int) := by
    rw [if_neg (by decide), show (- -1 : Int) = 1 from rfl, Int.ediv_one]
    split <;> omega
  refine filterMap_range l _ _ _ ?_ ?_
  · rw [List.length_reverse]
    simp only [hc]
    omega
  · intro j hj
    simp only [hc] at hj
    rw [List.getElem?_reverse (by omega)]
    have e2 : ((l.length : Int) - 1 + -1 * (j : Int)).toNat = l.length - 1 - j := by omega
    rw [e2]
mutual
def evens {α : Type} : List α → List α
  | [] => []
  | a :: r => a :: odds r
def odds {α : Type} : List α → List α
  | [] => []
  | _ :: r => evens r
end
theorem eo_len {α : Type} : ∀ l : List α, (evens l).length = (l.length + 1) / 2 ∧ (odds l).length = l.length / 2
  | [] => by simp [evens, odds]
  | a :: r => by
    have := eo_len r
    simp only [evens, odds, List.length_cons]
    omega
theorem eo_get {α : Type} : ∀ (l : List α) (k : Nat), (evens l)[k]? = l[2 * k]? ∧ (odds l)[k]? = l[2 * k + 1]?
  | [], k => by simp [evens, odds]
  | a :: r, k => by
    have h := eo_get r k
    refine ⟨?_, ?_⟩
    · cases k with
      | zero => simp [evens]
      | succ k =>
        have h2 := (eo_get r k).2
        simp only [evens, List.getElem?_cons_succ]
        rw [h2]
        have : 2 * (k + 1) = (2 * k + 1) + 1 := by omega
        rw [this, List.getElem?_cons_succ]
    · simp only [odds, List.getElem?_cons_succ]
      exact h.1
theorem eo_perm {α : Type} : ∀ l : List α, List.Perm (odds l ++ evens l) l
  | [] => by simp [evens, odds]
  | a :: r => by
    simp only [evens, odds]
    refine List.Perm.trans (List.perm_middle) (List.Perm.cons a ?_)
    exact List.Perm.trans List.perm_append_comm (eo_perm r)
theorem pickL_odds {α : Type} (l : List α) : pickL l (some 1) none (some 2) = odds l := by
  have e : sliceBounds (some 1) none (some 2) l.length = (max 0 (min 1 (l.length : Int)), (l.length : Int), (2 : Int)) := by
    unfold sliceBounds
    simp
  unfold pickL
  rw [e]
  unfold sliceRange
  have hc : (if (2 : Int) > 0 then (if max 0 (min 1 (l.length : Int)) < (l.length : Int) then ((l.length : Int) - max 0 (min 1 (l.length : Int)) + 2 - 1) / 2 else 0) else if max 0 (min 1 (l.length : Int)) > (l.length : Int) then (max 0 (min 1 (l.length : Int)) - (l.length : Int) - 2 - 1) / -2 else 0) = ((l.length / 2 : Nat) : Int) := by
    rw [if_pos (by decide)]
    split <;> omega
  refine filterMap_range l _ _ _ ?_ ?_
  · rw [(eo_len l).2]
    simp only [hc]
    omega
  · intro j hj
    simp only [hc] at hj
    have hj2 : j < l.length / 2 := by omega
    have e2 : (max 0 (min 1 (l.length : Int)) + 2 * (j : Int)).toNat = 2 * j + 1 := by omega
    rw [e2, (eo_get l j).2]
theorem pickL_evens {α : Type} (l : List α) : pickL l (some 0) none (some 2) = evens l := by
  have e : sliceBounds (some 0) none (some 2) l.length = ((0 : Int), (l.length : Int), (2 : Int)) := by
    unfold sliceBounds
    simp
    omega
  unfold pickL
  rw [e]
  unfold sliceRange
  have hc : (if (2 : Int) > 0 then (if (0 : Int) < (l.length : Int) then ((l.length : Int) - 0 + 2 - 1) / 2 else 0) else if (0 : Int) > (l.length : Int) then (0 - (l.length : Int) - 2 - 1) / -2 else 0) = (((l.length + 1) / 2 : Nat) : Int) := by
    rw [if_pos (by decide)]
    split <;> omega
  refine filterMap_range l _ _ _ ?_ ?_
  · rw [(eo_len l).1]
    simp only [hc]
    omega
  · intro j hj
    simp only [hc] at hj
    have e2 : ((0 : Int) + 2 * (j : Int)).toNat = 2 * j := by omega
    rw [e2, (eo_get l j).1]
section
variable {prog : Program} {w : World} {A : Around} {E : Value → Shared → Prop} {s : Shared} {h₀ : Heap} {L : Addr} {m : Str → Option Value} {news : List (Addr × Obj)} {Q : Value → Shared → Prop}
theorem slice_led {value slice : PySem.Expr} {l : Addr} {vs : List Value} {n : Nat} {vl vu vk : Value} {lo hi st : Option Int} {ops : List Value} (F : Fr h₀ L s.heap m) (N : News h₀ L s.heap news) (hm : (l, W.listOf vs.toArray n) ∈ news) (pl : IsPart vl lo) (pu : IsPart vu hi) (pk : IsPart vk st) (h0 : st ≠ some 0) (hz : vs.length ≤ 1000000)
    (h : ∀ D h', Fr h₀ L h' m → News h₀ L h' ((D, W.listOf (pickL vs lo hi st).toArray 0) :: news) → (∀ p ∈ news, p.1 < D) → Q (.ref D) { s with heap := h' })
    (hs : subscripted slice false (.ref l) (.ref s.heap.objs.size) = operate ops (getItem (.ref l) (.ref s.heap.objs.size)))
    (ht : ∀ r, letTemporaryGo value (.ref l) r = pure ()) :
    wpAny (model prog w) A (subscriptTail value slice (.ref l) (.ref s.heap.objs.size)) Q E { s with heap := s.heap.push { cls := .type "slice", data := .fields #[vl, vu, vk] } } := by
  refine slice_list3 (items := vs.toArray) F N ⟨_, N.get hm, rfl, n, rfl⟩ pl pu pk h0 ?_ hs ht (by rw [List.size_toArray, PySem.sizeLine_eq]; omega)
  intro h' F' N'
  rw [slicePick_list] at N'
  exact h _ h' F' N' fun p hp => Nat.lt_succ_of_lt (Heap.lt_size (N p hp).1)
theorem slice_ledI {value slice : PySem.Expr} {l : Addr} {vs : List Value} {ns : List Int} {n : Nat} {vl vu vk : Value} {lo hi st : Option Int} {ops : List Value} (F : Fr h₀ L s.heap m) (N : News h₀ L s.heap news) (hm : (l, W.listOf vs.toArray n) ∈ news) (hi' : IntsAre vs ns) (pl : IsPart vl lo) (pu : IsPart vu hi) (pk : IsPart vk st) (h0 : st ≠ some 0) (hz : ns.length ≤ 1000000)
    (h : ∀ D us h', Fr h₀ L h' m → News h₀ L h' ((D, W.listOf us.toArray 0) :: news) → (∀ p ∈ news, p.1 < D) → IntsAre us (pickL ns lo hi st) → Q (.ref D) { s with heap := h' })
    (hs : subscripted slice false (.ref l) (.ref s.heap.objs.size) = operate ops (getItem (.ref l) (.ref s.heap.objs.size)))
    (ht : ∀ r, letTemporaryGo value (.ref l) r = pure ()) :
    wpAny (model prog w) A (subscriptTail value slice (.ref l) (.ref s.heap.objs.size)) Q E { s with heap := s.heap.push { cls := .type "slice", data := .fields #[vl, vu, vk] } } := by
  refine slice_led F N hm pl pu pk h0 (by rw [hi'.length]; exact hz) (fun D h' F' N' l1 => h D _ h' F' N' l1 ?_) hs ht
  have := hi'.pick lo hi st
  rw [slicePick_list] at this
  exact this
end

end

section
open PySem PySem.W PyProof.Rows PySem.Calls PySem.Spec

theorem rep_flatV {α : Type} {k : Nat} {a : α} : (List.replicate k [a]).flatten = List.replicate k a := by
  induction k with
  | zero => rfl
  | succ k ih => simp [List.replicate_succ, ih]
theorem intsRep (k : Nat) (x : Int) (u : Tok) : IntsAre (List.replicate k (.int x u)) (List.replicate k x) := by
  induction k with
  | zero => exact .nil
  | succ k ih => exact .cons _ _ ih
section
variable {prog : Program} {w : World} {A : Around} {E : Value → Shared → Prop} {s : Shared} {h₀ : Heap} {L : Addr} {m : Str → Option Value} {news : List (Addr × Obj)} {Q : Value → Shared → Prop}
theorem len_tupL {t : Addr} {vs : List Value} {ns : List Int} {n : Nat} (N : News h₀ L s.heap news) (hm : (t, ({ cls := .type "tuple", data := .seq vs.toArray n } : Obj)) ∈ news) (hi : IntsAre vs ns) (hz : ns.length ≤ 1000000) (h : ∀ t' k, Q (.int (ns.length : Int) t') { s with toks := k }) :
    wpAny (model prog w) A (call (.builtin "len") [.ref t]) Q E s := by
  have hl := hi.length
  refine len_tuple (items := vs.toArray) ⟨_, N.get hm, rfl, n, rfl⟩ (by rw [List.size_toArray]; omega) ?_
  rw [List.size_toArray, hl]
  exact h _ _
/-- A place of a tuple of ints of the ledger. -/
theorem item_tupI {value slice : PySem.Expr} {t : Addr} {vs : List Value} {ns : List Int} {n : Nat} {k : Int} {u : Tok} (N : News h₀ L s.heap news) (hm : (t, ({ cls := .type "tuple", data := .seq vs.toArray n } : Obj)) ∈ news) (hi : IntsAre vs ns) (h0 : 0 ≤ k) (h1 : k.toNat < ns.length) (hf : k < 2 ^ 63) (h : ∀ t', Q (.int (ns.getD k.toNat 0) t') s)
    {ops : List Value} (hs : subscripted slice false (.ref t) (.int k u) = operate ops (getItem (.ref t) (.int k u))) :
    wpAny (model prog w) A (subscriptTail value slice (.ref t) (.int k u)) Q E s := by
  obtain ⟨t', e⟩ := ints_at hi h1
  have hl := hi.length
  exact item_tupLed N hm (by omega) hf (seqIndex_of h0 (by omega)) e (h t') hs
/-- [x] * k for a list of one int. -/
theorem rep_led {l : Addr} {x : Int} {u t : Tok} {n : Nat} {k : Int} (F : Fr h₀ L s.heap m) (N : News h₀ L s.heap news) (hm : (l, W.listOf #[.int x u] n) ∈ news) (h0 : 0 ≤ k) (h1 : k ≤ 256)
    (h : ∀ D us h', Fr h₀ L h' m → News h₀ L h' ((D, W.listOf us.toArray 0) :: news) → (∀ p ∈ news, p.1 < D) → IntsAre us (List.replicate k.toNat x) → Q (.ref D) { s with heap := h' }) :
    wpAny (model prog w) A (binaryOp .Mult (.ref l) (.int k t)) Q E s := by
  refine KMa.mul (vs := [.int x u]) F N ⟨_, N.get hm, rfl, n, rfl⟩ (by omega) (by omega) (by simp; omega) (rep_flatV (k := k.toNat)) fun D h' F' N' l1 => h D _ h' F' N' l1 (intsRep _ _ _)
end

end

section
open PySem PySem.W PyProof.Rows PySem.Calls PySem.Spec

/-! Loops whose turns may leave generators behind. -/
section
variable {prog : Program} {w : World} {A : Around} {E : Value → Shared → Prop} {s : Shared} {env : Env} {h₀ : Heap} {x : Str} {body : List Stmt}
def TurnG {σ : Type} (h₀ : Heap) (L : Addr) (x : Str) (mp : σ → Str → Option Value) (led : σ → List (Addr × Obj)) (Inv Ex : σ → Prop) (I : Addr) (oI : Obj) (Q : Flow → Shared → Prop) (s₁ : Shared) (f : Flow) (s₂ : Shared) : Prop :=
  match f with
  | .ret v => Q (.ret v) s₂
  | .brk => ∃ (c : σ) (h' : Heap) (tk : Nat) (gs : Array GenState) (m' : Str → Option Value), s₂ = { s₁ with heap := h', toks := tk, gens := gs } ∧ AllBare gs ∧ Fr h₀ L h' m' ∧ News h₀ L h' (led c) ∧ (∀ z, z ≠ x → m' z = mp c z) ∧ Ex c
  | _ => ∃ (c : σ) (h' : Heap) (tk : Nat) (gs : Array GenState) (m' : Str → Option Value), s₂ = { s₁ with heap := h', toks := tk, gens := gs } ∧ AllBare gs ∧ Fr h₀ L h' m' ∧ News h₀ L h' (led c ++ [(I, oI)]) ∧ (∀ z, z ≠ x → m' z = mp c z) ∧ (∀ p ∈ led c, p.1 ≠ I) ∧ Inv c
theorem forG {σ : Type} {R : Result → Shared → Prop} {px : Pos} {I : Addr} {fp : List Addr} {n : Nat} {P : Nat → Value → Prop} {St : Nat → Heap → Prop} {m₀ : Str → Option Value}
    (mp : σ → Str → Option Value) (led : σ → List (Addr × Obj)) (Inv : Nat → σ → Prop) (Ex : σ → Prop) (c₀ : σ)
    (W : Walks prog w A I fp [I] n P St) (hit : ∀ i h, St i h → ∃ o, h.get? I = some o) (hfp : ∀ b ∈ fp, b = I ∨ (∃ o, h₀.get? b = some o) ∨ ∃ o, ∀ c, (b, o) ∈ led c)
    (hx : env.kindOf x = some .local) (hp : (env.scope.kind == .class || (env.scope.kind == .module && env.locals != env.globals)) = false)
    (hLf : env.locals ∉ fp) (hI0 : h₀.get? I = none) (hst : St 0 s.heap) (F : Fr h₀ env.locals s.heap m₀) (N : News h₀ env.locals s.heap (led c₀)) (hG : AllBare s.gens)
    (hoff : ∀ p ∈ led c₀, p.1 ≠ I) (hm : ∀ z, z ≠ x → m₀ z = mp c₀ z) (hi : Inv 0 c₀)
    (turn : ∀ i v c oI h tk gs, i < n → P i v → Inv i c → AllBare gs → (∀ p ∈ led c, p.1 ≠ I) → Fr h₀ env.locals h (fun y => if y = x then some v else mp c y) → News h₀ env.locals h (led c ++ [(I, oI)]) →
      wpAny (model prog w) A (execs body env) (TurnG h₀ env.locals x mp led (Inv (i + 1)) Ex I oI (fun f s' => R (.ok f) s') { s with heap := h, toks := tk, gens := gs }) (notedBy (model prog w) A env fun e s' => R (.error e) s') { s with heap := h, toks := tk, gens := gs })
    (ends : ∀ c, Inv n c → Ex c)
    (done : ∀ c (u : Str → Option Value) h tk gs, Ex c → AllBare gs → Fr h₀ env.locals h (fun y => if y = x then u y else mp c y) → News h₀ env.locals h (led c) → R (.ok .next) { s with heap := h, toks := tk, gens := gs }) :
    codeAny (model prog w) A (.forLoop (.Name x px) (.ref I) body [] env) R s := by
  have hIfp : I ∈ fp := W.sub I (.head _)
  have hLI : env.locals ≠ I := fun e => hLf (e ▸ hIfp)
  refine codeAny_forLoop
    (fun k s' => ∃ h' tk gs m' c i, s' = { s with heap := h', toks := tk, gens := gs } ∧ AllBare gs ∧ St i h' ∧ Fr h₀ env.locals h' m' ∧ News h₀ env.locals h' (led c) ∧ (∀ p ∈ led c, p.1 ≠ I) ∧ (∀ z, z ≠ x → m' z = mp c z) ∧ Inv i c ∧ i ≤ n ∧ k = n + 1 - i) ?_ (n + 1)
    ⟨s.heap, s.toks, s.gens, m₀, c₀, 0, rfl, hG, hst, F, N, hoff, hm, hi, Nat.zero_le _, rfl⟩
  rintro k s' ⟨h', tk, gs, m', c, i, rfl, hG', hst', F', N', hoff', hm', hinv, hin, rfl⟩
  have old : ∀ b o, h₀.get? b = some o → b ∉ [I] := fun b o e hb => by rw [List.mem_singleton.mp hb, hI0] at e; cases e
  have next : ∀ h₁ : Heap, (∀ b o, b ∉ [I] → h'.get? b = some o → h₁.get? b = some o) → Fr h₀ env.locals h₁ m' ∧ News h₀ env.locals h₁ (led c) := fun h₁ hk₁ =>
    ⟨⟨F'.ns.at' fun o e => hk₁ _ o (fun q => hLI (List.mem_singleton.mp q)) e, fun b o e => hk₁ b o (old b o e) (F'.keep b o e), F'.above⟩, fun p hp => ⟨hk₁ _ _ (fun q => hoff' p hp (List.mem_singleton.mp q)) (N' p hp).1, (N' p hp).2⟩⟩
  by_cases hlt : i < n
  · refine W.item i _ _ _ hlt hst' fun v h₁ tk₁ hP hst₁ hk₁ => ?_
    obtain ⟨F₁, N₁⟩ := next h₁ hk₁
    refine wpAny_assign_Name (wpAny_storeName_local hx F₁.ns (fun h₂ hn₂ hs₂ => ?_) hp)
    have F₂ := F₁.set hn₂ hs₂
    have N₂ := N₁.set hs₂
    have hst₂ : St (i + 1) h₂ := W.frame _ _ _ hst₁ fun b hb o e => (hs₂.2 b fun q => hLf (q ▸ hb)).trans e
    obtain ⟨oI, hoI⟩ := hit _ _ hst₂
    have N₃ : News h₀ env.locals h₂ (led c ++ [(I, oI)]) := fun p hp => by
      rcases List.mem_append.mp hp with hp | hp
      · exact N₂ p hp
      · rw [List.mem_singleton.mp hp]; exact ⟨hoI, fun e => hLI e.symm, hI0⟩
    rw [map_off hm'] at F₂
    have fin : ∀ (s₃ : Shared), (∃ (c : σ) (h' : Heap) (tk : Nat) (gs' : Array GenState) (m' : Str → Option Value), s₃ = { s with heap := h', toks := tk, gens := gs' } ∧ AllBare gs' ∧ Fr h₀ env.locals h' m' ∧ News h₀ env.locals h' (led c ++ [(I, oI)]) ∧ (∀ z, z ≠ x → m' z = mp c z) ∧ (∀ p ∈ led c, p.1 ≠ I) ∧ Inv (i + 1) c) →
        ∃ k', k' < n + 1 - i ∧ ∃ h' tk gs m' c j, s₃ = { s with heap := h', toks := tk, gens := gs } ∧ AllBare gs ∧ St j h' ∧ Fr h₀ env.locals h' m' ∧ News h₀ env.locals h' (led c) ∧ (∀ p ∈ led c, p.1 ≠ I) ∧ (∀ z, z ≠ x → m' z = mp c z) ∧ Inv j c ∧ j ≤ n ∧ k' = n + 1 - j := by
      rintro s₃ ⟨c', h₃, tk₃, gs₃, m₃, rfl, hG₃, F₃, N₄, hm₃, hoff₃, hinv₃⟩
      refine ⟨n + 1 - (i + 1), by omega, h₃, tk₃, gs₃, m₃, c', i + 1, rfl, hG₃, ?_, F₃, (fun p hp => N₄ p (List.mem_append.mpr (.inl hp))), hoff₃, hm₃, hinv₃, hlt, rfl⟩
      refine W.frame _ _ _ hst₂ fun b hb o e => ?_
      rcases hfp b hb with rfl | ⟨o₀, e0⟩ | ⟨o₀, e0⟩
      · rw [hoI] at e; cases e
        exact (N₄ _ (List.mem_append.mpr (.inr (.head _)))).1
      · have := F₂.keep b o₀ e0
        rw [e] at this
        rw [Option.some.inj this]
        exact F₃.keep b o₀ e0
      · have := (N₂ _ (e0 c)).1
        rw [e] at this
        rw [Option.some.inj this]
        exact (N₄ _ (List.mem_append.mpr (.inl (e0 c')))).1
    refine wpAny_mono (turn i v c oI h₂ _ gs hlt hP hinv hG' hoff' F₂ N₃) (fun f s₃ q => ?_) fun _ _ e => e
    cases f with
    | ret v => exact q
    | brk =>
      obtain ⟨c', h₃, tk₃, gs₃, m₃, rfl, hG₃, F₃, N₄, hm₃, hex⟩ := q
      exact done c' m₃ h₃ tk₃ gs₃ hex hG₃ (by rw [← map_off' hm₃]; exact F₃) N₄
    | next => exact fin s₃ q
    | cont => exact fin s₃ q
  · have hin' : i = n := by omega
    subst hin'
    refine W.done _ _ _ hst' fun h₁ tk₁ hk₁ => wpAny_execs_nil ?_
    obtain ⟨F₁, N₁⟩ := next h₁ hk₁
    exact done c m' h₁ tk₁ gs (ends c hinv) hG' (by rw [← map_off' hm']; exact F₁) N₁
/-- What a for loop comes to behind its iterator. -/
def LoopG (prog : Program) (w : World) (A : Around) (env : Env) (x : Str) (px : Pos) (body : List Stmt) (Q : Flow → Shared → Prop) (E : Value → Shared → Prop) (it : Value) (s : Shared) : Prop :=
  codeAny (model prog w) A (.forLoop (.Name x px) it body [] env) (fun r s' => match r with | .ok f => Q f s' | .error e => cameBackBy (model prog w) A env E e s') s
theorem For_G {Q : Flow → Shared → Prop} {px pos : Pos} {iter : Expr}
    (h : wpAny (model prog w) A (eval iter env) (fun xv s₁ => wpAny (model prog w) A (pyIter xv) (fun it s₂ => LoopG prog w A env x px body Q E it s₂) E s₁) E s)
    (hs : ∀ x, foldedSetIterable iter env x = pure x := by intro _; rfl) :
    wpAny (model prog w) A (exec (.For (.Name x px) iter body [] pos) env) Q E s :=
  wpAny_For (wpAny_mono h (fun xv s₁ h₁ => wpAny_mono h₁ (fun it s₂ h₂ => h₂) fun _ _ e => e) fun _ _ e => e) hs
theorem range_ledG {σ : Type} {Q : Flow → Shared → Prop} {px : Pos} {r : Addr} {a₀ b₀ : Int} {t₀ u₀ v₀ : Tok} {n : Nat} {m₀ : Str → Option Value} {news : List (Addr × Obj)}
    (mp : σ → Str → Option Value) (led : σ → List (Addr × Obj)) (Inv : Nat → σ → Prop) (Ex : σ → Prop) (c₀ : σ)
    (hh : A.handled = none) (hx : env.kindOf x = some .local) (hp : (env.scope.kind == .class || (env.scope.kind == .module && env.locals != env.globals)) = false) (hE : PassesOwn (model prog w) A env E)
    (hr : IsRange s.heap r a₀ b₀ 1 t₀ u₀ v₀) (hsmall : Builtin.Range.small a₀ b₀ 1 = true) (hn : Builtin.Range.rangeSize a₀ b₀ 1 = (n : Int)) (F : Fr h₀ env.locals s.heap m₀) (N : News h₀ env.locals s.heap news) (hG : AllBare s.gens) (hl : ∀ p ∈ led c₀, p ∈ news) (hm : ∀ z, z ≠ x → m₀ z = mp c₀ z) (hi : Inv 0 c₀)
    (turn : ∀ i t c I oI h tk gs, i < n → Inv i c → AllBare gs → (∀ p ∈ led c, p.1 ≠ I) → Fr h₀ env.locals h (fun y => if y = x then some (.int (a₀ + (i : Int)) t) else mp c y) → News h₀ env.locals h (led c ++ [(I, oI)]) →
      wpAny (model prog w) A (execs body env) (TurnG h₀ env.locals x mp led (Inv (i + 1)) Ex I oI Q { s with heap := h, toks := tk, gens := gs }) E { s with heap := h, toks := tk, gens := gs })
    (ends : ∀ c, Inv n c → Ex c)
    (done : ∀ c (u : Str → Option Value) h tk gs, Ex c → AllBare gs → Fr h₀ env.locals h (fun y => if y = x then u y else mp c y) → News h₀ env.locals h (led c) → Q .next { s with heap := h, toks := tk, gens := gs }) :
    wpAny (model prog w) A (pyIter (.ref r)) (fun it s₂ => LoopG prog w A env x px body Q E it s₂) E s := by
  have N₀ := news_sub N hl
  refine wpAny_pyIter_range hr hsmall ?_
  have W : Walks prog w A s.heap.objs.size [s.heap.objs.size] [s.heap.objs.size] n (fun i v => i < n ∧ ∃ t, v = .int (a₀ + i * 1) t)
      (fun i h => IsRangeIter h s.heap.objs.size (a₀ + (i : Nat) * 1) ((n : Int) - (i : Nat)) 1) := (Walks.range hh _ a₀ 1 n).bound
  refine forG mp led Inv Ex c₀ W (fun i h st => ⟨_, st⟩) (fun b hb => .inl (List.mem_singleton.mp hb)) hx hp ?_ (next_is_new F) (by show IsRangeIter _ _ _ _ _; rw [hn]; simpa using Heap.get?_push_size _ rfl) (F.push _) (led_push N₀ _) hG (led_off N₀) hm hi ?_ ends ?_
  · intro hm
    exact absurd F.ns.lt ((List.mem_singleton.mp hm) ▸ Nat.lt_irrefl _)
  · rintro i v c oI h tk gs hin ⟨_, t, rfl⟩ hinv hGs hoff F₁ N₁
    have e1 : a₀ + (i : Int) * 1 = a₀ + (i : Int) := by omega
    rw [e1] at F₁
    exact wpAny_passesOwn hE (turn i t c _ oI h tk gs hin hinv hGs hoff F₁ N₁)
  · exact done
end

end

section
open PySem PySem.W PyProof.Rows PySem.Calls PySem.Spec

/-! A generator expression whose footprint is told by its user. -/
section
variable {prog : Program} {w : World} {A : Around} {E : Value → Shared → Prop} {s : Shared}
theorem genexp_X {env : Env} {elt iter : Expr} {x : Str} {px : Pos} {ifs : List Expr} {scope : Scope} {cl : List (Str × Addr)} {pos : Pos} {Q : Value → Shared → Prop}
    (hh : A.handled = none) (hco : scope.isCoroutine = false) (hclos : closureFor scope env = pure cl) (hcell : ∀ y ∈ scope.names, y.2 ≠ .cell) (h0 : scope.names.lookup (".0" : Str) = some NameKind.local)
    (hx : scope.names.lookup x = some .local) (hkind : scope.kind = .function) (hroom : A.depth < recursionLimit)
    (h : wpAny (model prog w) A (eval iter env) (fun xv s₁ => wpAny (model prog w) A (pyIter xv) (fun it s₂ => s₂.heap.NoLimit ∧
      wpAny (model prog w) A (genexprCode env pos (env.qual ++ "<genexpr>") scope) (fun code s₃ => wpAny (model prog w) A (builtinsFor env.globals env.builtins) (fun bi s₄ =>
        ∃ I fp wr n₀ P St₀ pz F, it = .ref I ∧ (∀ A' : Around, A'.handled = none → Walks prog w A' I fp wr n₀ P St₀) ∧ St₀ 0 s₄.heap ∧ (∀ b ∈ fp, b < s₄.heap.objs.size) ∧ s₄.heap.NoLimit ∧ cStatics ∉ wr ∧ cStatics ∈ fp ∧
          (∀ href : Heap, (∀ b o, s₄.heap.get? b = some o → href.get? b = some o) →
            QuietGenD prog w (genEnv scope cl s₄.heap.objs.size code bi env) x ifs elt fp wr P pz F href (A.depth + 1) (A.units + 8)) ∧
          (∀ a h₅ tk gs oa oC, gs.bare = true → s₄.heap.objs.size < a → h₅.objs.size = a + 1 → (∀ b o, s₄.heap.get? b = some o → h₅.get? b = some o) → h₅.get? a = some oa → h₅.get? s₄.heap.objs.size = some oC →
            WalksS prog w A.in4 a (a :: s₄.heap.objs.size :: fp) (s₄.heap.objs.size :: wr) (GenOnlyQ s₄.gens.size) (passing pz n₀ 0).length
              (fun j y => ∃ i, (passing pz n₀ 0)[j]? = some i ∧ F i y) (GenAt prog w A.in4 a s₄.gens.size s₄.heap.objs.size fp wr pz n₀ F) →
            GenAt prog w A.in4 a s₄.gens.size s₄.heap.objs.size fp wr pz n₀ F 0 { s₄ with gens := s₄.gens.push gs, toks := tk, heap := h₅ } →
            Q (.ref a) { s₄ with gens := s₄.gens.push gs, toks := tk, heap := h₅ })) E s₃) E s₂) E s₁) E s)
    (hs : ∀ x, genFold iter env x = pure x) :
    wpAny (model prog w) A (eval (.GeneratorExp elt [⟨.Name x px, iter, ifs, 0⟩] scope pos) env) Q E s := by
  refine wpAny_GeneratorExp_make hco hclos hcell h0 hkind hroom (wpAny_mono h (fun xv s₁ h₁ => wpAny_mono h₁ (fun it s₂ h₂ => ⟨h₂.1, wpAny_mono h₂.2 (fun code s₃ h₃ => wpAny_mono h₃ (fun bi s₄ h₄ => ?_)
    fun _ _ e => e) fun _ _ e => e⟩) fun _ _ e => e) fun _ _ e => e) hs
  obtain ⟨I, fp, wr, n₀, P, St₀, pz, F, rfl, W₀, hst, hfp, hl₄, hcw, hcf, hq, hQ⟩ := h₄
  have hclt : cStatics < s₄.heap.objs.size := let ⟨_, hn, _⟩ := hl₄; hn.lt
  intro h' hn' hs'
  have hsz : h'.objs.size = s₄.heap.objs.size + 1 := by rw [hs'.1, Heap.size_push]
  have keep' : ∀ b o, s₄.heap.get? b = some o → h'.get? b = some o := fun b o e => hs'.extBut b o (Nat.ne_of_lt (Heap.lt_size e)) (Heap.get?_push_of_some _ e)
  have hsub : ∀ b ∈ wr, b ∈ fp := fun b hb => (W₀ A hh).sub b hb
  have haC : h'.objs.size ≠ s₄.heap.objs.size := by rw [hsz]; exact Nat.succ_ne_self _
  have haf : h'.objs.size ∉ fp := fun hm => absurd (hfp _ hm) (Nat.not_lt.mpr (by rw [hsz]; exact Nat.le_succ _))
  have keep₅ : ∀ b o, s₄.heap.get? b = some o → (h'.push { cls := .type "generator", data := .fields #[.int s₄.gens.size 0, .str "<genexpr>" (s₄.toks + 1), .str (env.qual ++ "<genexpr>") (s₄.toks + 1 + 1)] }).get? b = some o :=
    fun b o e => Heap.get?_push_of_some _ (keep' b o e)
  obtain ⟨oC, _, _, hoC, _⟩ := id hn'
  refine hQ _ _ _ _ _ _ rfl (by omega) (by rw [Heap.size_push]) keep₅ (Heap.get?_push_size _ rfl) (Heap.get?_push_of_some _ hoC) (WalksS.genexpQ (A := A.in4) hh _ _ _ _ wr pz n₀ F haC haf hsub hroom hcf (Nat.ne_of_lt hclt) hcw) ?_
  refine GenAt.freshD (A := A.in4) (cenv := genEnv scope cl s₄.heap.objs.size code bi env) (m := fun y => if y = ".0" then some (.ref I) else none) hh
    W₀ pz F hx (by simp [genEnv, hkind]) hco
    (fun hm => Nat.lt_irrefl _ (hfp _ hm)) (hq _ keep₅) ⟨_, _, _, Heap.get?_push_size _ rfl, rfl, rfl, rfl⟩ (Array.getElem?_push_size ..) ((W₀ A hh).frame _ _ _ hst fun b _ o e => keep₅ b o e) (hn'.push _) (hl₄.keeps keep₅)
end

end

section
open PySem PySem.W PyProof.Rows PySem.Calls PySem.Spec

theorem isList_keeps {h h' : Heap} {a : Addr} {xs : Array Value} (x : h.IsList a xs) (k : ∀ b o, h.get? b = some o → h'.get? b = some o) : h'.IsList a xs := let ⟨o, e, r⟩ := x; ⟨o, k _ _ e, r⟩
theorem isTuple_keeps {h h' : Heap} {a : Addr} {xs : Array Value} (x : h.IsTuple a xs) (k : ∀ b o, h.get? b = some o → h'.get? b = some o) : h'.IsTuple a xs := let ⟨o, e, r⟩ := x; ⟨o, k _ _ e, r⟩
/-- The places of a base. -/
def fpG (g : Heap) : List Addr := (List.range g.objs.size).filter fun b => (g.get? b).isSome
theorem mem_fpG {g : Heap} {b : Addr} {o : Obj} (e : g.get? b = some o) : b ∈ fpG g := List.mem_filter.mpr ⟨List.mem_range.mpr (Heap.lt_size e), by rw [e]; rfl⟩
theorem of_fpG {g : Heap} {b : Addr} (h : b ∈ fpG g) : ∃ o, g.get? b = some o := by
  have := (List.mem_filter.mp h).2
  exact Option.isSome_iff_exists.mp this
/-- A generator that stands ready: it gives n values, told by Fv, whatever else the frame does meanwhile. -/
def GenReady (prog : Program) (w : World) (A : Around) (g : Heap) (a : Addr) (oa : Obj) (C : Addr) (oC : Obj) (I : Addr) (oI : Obj) (n : Nat) (Fv : Nat → Value → Prop) (gens : Array GenState) : Prop :=
  ∃ gi St, WalksS prog w A.in4 a (a :: C :: I :: fpG g) [C, I] (GenOnlyQ gi) n Fv St ∧ (∀ i s', St i s' → s'.TypeIs (.ref a) "generator") ∧
    ∀ s : Shared, s.gens = gens → s.heap.get? a = some oa → s.heap.get? C = some oC → s.heap.get? I = some oI → (∀ b o, g.get? b = some o → s.heap.get? b = some o) → St 0 s
theorem passing_all (n : Nat) : passing (fun _ => true) n 0 = List.range n := by
  unfold passing
  simp
theorem walksS_imp {prog : Program} {w : World} {A : Around} {I : Addr} {fp wr : List Addr} {G : Array GenState → Array GenState → Prop} {n n' : Nat} {P P' : Nat → Value → Prop} {St : Nat → Shared → Prop} (W : WalksS prog w A I fp wr G n P St) (hn : n = n') (h : ∀ i v, P i v → P' i v) : WalksS prog w A I fp wr G n' P' St := by
  subst hn
  exact W.imp h
section
variable {prog : Program} {w : World} {A : Around} {E : Value → Shared → Prop} {s : Shared} {g : Heap} {L c P : Addr} {ps : Array Value} {m mg mb : Str → Option Value} {p : Program} {loose : List Str} {mean : ExcName → Option Value}
def TabForm (pos : Pos) (ps : Array Value) : Prop := ps = #[] ∨ ∃ c' : Addr, ps = #[rawInt pos.line, rawInt pos.col, .ref c']
theorem tabForm_ok {pos : Pos} (h : TabForm pos ps) : TriplesOk ps.toList := by
  rcases h with rfl | ⟨c', rfl⟩
  · exact True.intro
  · simp [TriplesOk, rawInt]
/-- The code of a generator expression: made, or found. -/
theorem genexprCode_tab {env : Env} {pos : Pos} {qualname : Str} {scope : Scope} {Q : Value → Shared → Prop} (hc : env.code = .ref c) (C : CodeHd s.heap c P) (hP : s.heap.get? P = some (tabObj ps)) (hf : TabForm pos ps)
    (h : ∀ code h' tk ps', Heap.ExtBut P s.heap h' → s.heap.objs.size ≤ h'.objs.size → h'.get? P = some (tabObj ps') → TabForm pos ps' → Q code { s with heap := h', toks := tk }) :
    wpAny (model prog w) A (genexprCode env pos qualname scope) Q E s := by
  have hok := C.code hP (tabForm_ok hf)
  rcases hf with rfl | ⟨c', rfl⟩
  · refine wpAny_genexprCodeX hc hok (C.tab hP) rfl fun c' h' tk hx hge hlt _ _ ht _ => ?_
    exact h _ h' tk _ hx (Nat.le_trans hge (Nat.le_of_lt hlt)) ht.2 (.inr ⟨c', by simp⟩)
  · refine wpAny_genexprCode_hit hc hok (c' := .ref c') (by simp [codeAmong, rawInt]) ?_
    exact h _ s.heap s.toks _ (fun b o _ e => e) (Nat.le_refl _) hP (.inr ⟨c', rfl⟩)

/-- A generator expression over a list or tuple that stood before the frame; its table lies in the ledger. -/
theorem genexp_tab {env : Env} {elt iter : Expr} {x : Str} {px : Pos} {scope : Scope} {cl : List (Str × Addr)} {pos : Pos} {Q : Value → Shared → Prop} {D : Addr} {vs : List Value} {Fv : Nat → Value → Prop}
    (F : Fr g L s.heap m) (N : News g L s.heap [(P, tabObj ps)]) (CH : CodeHd g c P) (T : Top p loose mean mg mb g) (hf : TabForm pos ps) (hG : AllBare s.gens)
    (hcode : env.code = .ref c) (hgl : env.globals = mainGlobals)
    (hh : A.handled = none) (hco : scope.isCoroutine = false) (hclos : closureFor scope env = pure cl) (hcell : ∀ y ∈ scope.names, y.2 ≠ .cell) (h0 : scope.names.lookup (".0" : Str) = some NameKind.local)
    (hx : scope.names.lookup x = some .local) (hkind : scope.kind = .function) (hroom : A.depth < recursionLimit)
    (hD : g.IsList D vs.toArray ∨ g.IsTuple D vs.toArray)
    (hit : ∀ Q' : Value → Shared → Prop, Q' (.ref D) s → wpAny (model prog w) A (eval iter env) Q' E s)
    (hel : ∀ (C : Addr) (code : Value) (A' : Around) E' i v (u : Shared) m₂, A'.handled = none → A'.depth ≤ A.depth + 1 → A'.units ≤ A.units + 8 → vs[i]? = some v → Fr g C u.heap m₂ → m₂ x = some v → L < C →
      wpAny (model prog w) A' (eval elt (genEnv scope cl C code builtinsNs env)) (fun y s₃ => Fv i y ∧ Keeps u s₃) E' u)
    (hQ : ∀ a oa C oC I oI h₅ tk gs ps', AllBare gs → Fr g L h₅ m → News g L h₅ [(a, oa), (C, oC), (I, oI), (P, tabObj ps')] → TabForm pos ps' → s.heap.objs.size ≤ I → I < C → C < a → (∀ b o, b ≠ P → s.heap.get? b = some o → h₅.get? b = some o) →
      GenReady prog w A g a oa C oC I oI vs.length Fv gs → Q (.ref a) { s with gens := gs, toks := tk, heap := h₅ })
    (hs : ∀ x, genFold iter env x = pure x) :
    wpAny (model prog w) A (eval (.GeneratorExp elt [⟨.Name x px, iter, [], 0⟩] scope pos) env) Q E s := by
  refine genexp_X hh hco hclos hcell h0 hx hkind hroom (hit _ ?_) hs
  have hP := (N _ (.head _)).1
  have hPg := (N _ (.head _)).2.2
  have hPlt : P < s.heap.objs.size := Heap.lt_size hP
  have hDlt : D < g.objs.size := by
    rcases hD with ⟨_, e, _⟩ | ⟨_, e, _⟩
    · exact Heap.lt_size e
    · exact Heap.lt_size e
  have hDg : ∃ o, g.get? D = some o := by
    rcases hD with ⟨_, e, _⟩ | ⟨_, e, _⟩
    · exact ⟨_, e⟩
    · exact ⟨_, e⟩
  have hgs : g.objs.size < s.heap.objs.size := Nat.lt_of_le_of_lt F.above F.ns.lt
  have hIfr : ∀ o, g.get? s.heap.objs.size = some o → False := fun o e => absurd (Heap.lt_size e) (Nat.not_lt.mpr (Nat.le_of_lt hgs))
  have hDI : D ≠ s.heap.objs.size := Nat.ne_of_lt (Nat.lt_trans hDlt hgs)
  obtain ⟨mc, hcs, hcn⟩ := id T.nolimit
  obtain ⟨ocs, _, _, ecs, _⟩ := id hcs
  have rest : ∀ (oI : Obj) (St₀ : Nat → Heap → Prop), (∀ A' : Around, A'.handled = none → Walks prog w A' s.heap.objs.size [s.heap.objs.size, D] [s.heap.objs.size] vs.toArray.size (fun i v => vs.toArray[i]? = some v) St₀) → St₀ 0 (s.heap.push oI) → oI.isFreed = false →
      (s.heap.push oI).NoLimit ∧
        wpAny (model prog w) A (genexprCode env pos (env.qual ++ "<genexpr>") scope) (fun code s₃ => wpAny (model prog w) A (builtinsFor env.globals env.builtins) (fun bi s₄ =>
          ∃ I fp wr n₀ P St₀ pz F, Value.ref s.heap.objs.size = .ref I ∧ (∀ A' : Around, A'.handled = none → Walks prog w A' I fp wr n₀ P St₀) ∧ St₀ 0 s₄.heap ∧ (∀ b ∈ fp, b < s₄.heap.objs.size) ∧ s₄.heap.NoLimit ∧ cStatics ∉ wr ∧ cStatics ∈ fp ∧
          (∀ href : Heap, (∀ b o, s₄.heap.get? b = some o → href.get? b = some o) →
            QuietGenD prog w (genEnv scope cl s₄.heap.objs.size code bi env) x [] elt fp wr P pz F href (A.depth + 1) (A.units + 8)) ∧
          (∀ a h₅ tk gs oa oC, gs.bare = true → s₄.heap.objs.size < a → h₅.objs.size = a + 1 → (∀ b o, s₄.heap.get? b = some o → h₅.get? b = some o) → h₅.get? a = some oa → h₅.get? s₄.heap.objs.size = some oC →
            WalksS prog w A.in4 a (a :: s₄.heap.objs.size :: fp) (s₄.heap.objs.size :: wr) (GenOnlyQ s₄.gens.size) (passing pz n₀ 0).length
              (fun j y => ∃ i, (passing pz n₀ 0)[j]? = some i ∧ F i y) (GenAt prog w A.in4 a s₄.gens.size s₄.heap.objs.size fp wr pz n₀ F) →
            GenAt prog w A.in4 a s₄.gens.size s₄.heap.objs.size fp wr pz n₀ F 0 { s₄ with gens := s₄.gens.push gs, toks := tk, heap := h₅ } →
            Q (.ref a) { s₄ with gens := s₄.gens.push gs, toks := tk, heap := h₅ })) E s₃) E { s with heap := s.heap.push oI } := by
    intro oI St₀ W₀ hst hfr
    have F₁ := F.push oI
    refine ⟨T.nolimit.keeps F₁.keep, genexprCode_tab (ps := ps) hcode (CH.keeps F₁.keep) (Heap.get?_push_of_some _ hP) hf fun code h₃ tk₃ ps' hx₃ hsz hP₃ hf' => ?_⟩
    rw [hgl]
    obtain ⟨bm, ob, b1, b2, b3, b4, b5, b6⟩ := T.bmain
    have up : ∀ b o, b ≠ P → s.heap.get? b = some o → h₃.get? b = some o := fun b o hb e => hx₃ b o hb (Heap.get?_push_of_some _ e)
    have upg : ∀ b o, g.get? b = some o → h₃.get? b = some o := fun b o e => up b o (fun q => by rw [q, hPg] at e; cases e) (F.keep b o e)
    refine wpAny_builtinsFor (T.g.keeps upg) b1 b2 (upg _ _ b3) b4 b5 b6 ?_
    have hsz' : s.heap.objs.size < h₃.objs.size := by
      have : (s.heap.push oI).objs.size ≤ h₃.objs.size := hsz
      rw [Heap.size_push] at this
      exact this
    have hI₃ : h₃.get? s.heap.objs.size = some oI := hx₃ _ _ (Nat.ne_of_gt hPlt) (Heap.get?_push_size _ hfr)
    have W₁ : ∀ A' : Around, A'.handled = none → Walks prog w A' s.heap.objs.size (s.heap.objs.size :: fpG g) [s.heap.objs.size] vs.toArray.size (fun i v => vs.toArray[i]? = some v) St₀ := fun A' hA => (W₀ A' hA).mono_fp fun b hb => by
      rcases List.mem_cons.mp hb with rfl | hb
      · exact .head _
      · rw [List.mem_singleton.mp hb]
        exact .tail _ (let ⟨_, e⟩ := hDg; mem_fpG e)
    refine ⟨s.heap.objs.size, s.heap.objs.size :: fpG g, [s.heap.objs.size], vs.toArray.size, _, St₀, (fun _ => true), Fv, rfl, W₁, ?_, ?_, T.nolimit.keeps upg, ?_, .tail _ (mem_fpG ecs), fun href hhref => ?_, ?_⟩
    · refine (W₀ A hh).frame _ _ _ hst fun b hb o e => hx₃ b o ?_ e
      rintro rfl
      rcases List.mem_cons.mp hb with q | hb
      · exact absurd hPlt (q ▸ Nat.lt_irrefl _)
      · obtain ⟨o, e⟩ := hDg
        rw [← List.mem_singleton.mp hb, hPg] at e
        cases e
    · intro b hb
      rcases List.mem_cons.mp hb with rfl | hb
      · exact hsz'
      · obtain ⟨o, e⟩ := of_fpG hb
        exact Heap.lt_size (upg b o e)
    · intro hm
      rw [List.mem_singleton.mp hm] at ecs
      exact hIfr _ ecs
    · have inB : ∀ (t : Shared) m₂, t.heap.Ns h₃.objs.size m₂ → (∀ b ∈ s.heap.objs.size :: fpG g, b ∉ [s.heap.objs.size] → ∀ o, href.get? b = some o → t.heap.get? b = some o) → Fr g h₃.objs.size t.heap m₂ := fun t m₂ hn hkp =>
        ⟨hn, fun b o e => hkp b (.tail _ (mem_fpG e)) (fun hm => by rw [List.mem_singleton.mp hm] at e; exact hIfr _ e) o (hhref b o (upg b o e)), Nat.le_of_lt (Nat.lt_trans hgs hsz')⟩
      have hLC : L < h₃.objs.size := Nat.lt_trans F.ns.lt hsz'
      refine ⟨fun A' E' i v t m₂ hA hD hU hP hn hm hkp => ?_, fun A' E' i v t m₂ hA hD hU hP _ hn hm hkp => ?_⟩
      · exact wpAny_pure ⟨rfl, ⟨_, _, rfl, fun _ _ e => e⟩⟩
      · exact hel _ code A' E' i v t m₂ hA hD hU (by simpa using hP) (inB t m₂ hn hkp) hm hLC
    · intro a h₅ tk gs oa oC hb hCa hsz₅ hk₅ ea eC W at0
      have ePs : h₅.get? P = some (tabObj ps') := hk₅ _ _ hP₃
      have hLP : P ≠ L := (N _ (.head _)).2.1
      have F₅ : Fr g L h₅ m := ⟨F.ns.at' fun o e => hk₅ _ _ (up _ _ (Ne.symm hLP) e), fun b o e => hk₅ _ _ (upg b o e), F.above⟩
      have fr : ∀ b, s.heap.objs.size ≤ b → b ≠ L ∧ g.get? b = none := fun b hb => ⟨Nat.ne_of_gt (Nat.lt_of_lt_of_le F.ns.lt hb), Heap.get?_none_of_le (Nat.le_trans (Nat.le_of_lt hgs) hb)⟩
      have hCsz : s.heap.objs.size ≤ h₃.objs.size := Nat.le_of_lt hsz'
      refine hQ a oa h₃.objs.size oC s.heap.objs.size oI h₅ tk _ ps' (hG.push hb) F₅ ?_ hf' (Nat.le_refl _) hsz' hCa (fun b o hbP e => hk₅ b o (up b o hbP e)) ?_
      · intro q hq
        rcases List.mem_cons.mp hq with rfl | hq
        · exact ⟨ea, (fr a (Nat.le_trans hCsz (Nat.le_of_lt hCa))).1, (fr a (Nat.le_trans hCsz (Nat.le_of_lt hCa))).2⟩
        · rcases List.mem_cons.mp hq with rfl | hq
          · exact ⟨eC, (fr _ hCsz).1, (fr _ hCsz).2⟩
          · rcases List.mem_cons.mp hq with rfl | hq
            · exact ⟨hk₅ _ _ hI₃, (fr _ (Nat.le_refl _)).1, (fr _ (Nat.le_refl _)).2⟩
            · rw [List.mem_singleton.mp hq]
              exact ⟨ePs, hLP, hPg⟩
      · refine ⟨_, _, walksS_imp W ?_ ?_, fun i s' st => st.1.typeIs, ?_⟩
        · rw [passing_all, List.length_range, List.size_toArray]
        · rintro j y ⟨i, hij, hF⟩
          rw [passing_all] at hij
          obtain ⟨hl, e⟩ := List.getElem?_eq_some_iff.mp hij
          rw [List.getElem_range] at e
          rw [e]; exact hF
        · intro s9 hgs9 ea9 eC9 eI9 hk9
          obtain ⟨⟨o1, nm, qn, ho1, r1⟩, hl1, gs1, hgs1, hgo1⟩ := at0
          refine ⟨⟨o1, nm, qn, ?_, r1⟩, T.nolimit.keeps hk9, gs1, by rw [hgs9]; exact hgs1, fun s'' hal => hgo1 s'' fun b hb o e => hal b hb o ?_⟩
          · have : o1 = oa := by
              have h2 : h₅.get? a = some o1 := ho1
              rw [ea] at h2
              exact (Option.some.inj h2).symm
            rw [this]; exact ea9
          · have e' : h₅.get? b = some o := e
            rcases List.mem_cons.mp hb with rfl | hb
            · rw [eC] at e'; cases e'; exact eC9
            · rcases List.mem_cons.mp hb with rfl | hb
              · rw [hk₅ _ _ hI₃] at e'; cases e'; exact eI9
              · obtain ⟨o0, e0⟩ := of_fpG hb
                rw [hk₅ _ _ (upg _ _ e0)] at e'
                cases e'
                exact hk9 _ _ e0
  rcases hD with hl | ht
  · exact wpAny_pyIter_list (isList_keeps hl F.keep) (rest _ _ (fun A' hA => Walks.list hA _ _ hDI vs.toArray) ⟨⟨_, Heap.get?_push_size _ rfl, rfl, rfl⟩, isList_keeps (isList_keeps hl F.keep) (fun _ _ e => Heap.get?_push_of_some _ e)⟩ rfl)
  · exact wpAny_pyIter_tuple (isTuple_keeps ht F.keep) (rest _ _ (fun A' hA => Walks.tuple hA _ _ hDI vs.toArray) ⟨⟨_, Heap.get?_push_size _ rfl, rfl, rfl⟩, isTuple_keeps (isTuple_keeps ht F.keep) (fun _ _ e => Heap.get?_push_of_some _ e)⟩ rfl)
section
variable {a C I : Addr} {oa oC oI : Obj} {n : Nat} {Fv : Nat → Value → Prop} {news : List (Addr × Obj)} {Q : Value → Shared → Prop}
/-- sep.join of a generator that stands ready. -/
theorem join_ready {sep : Str} {t : Tok} (F : Fr g L s.heap m) (N : News g L s.heap ((a, oa) :: (C, oC) :: (I, oI) :: news)) (hoff : ∀ q ∈ news, q.1 ≠ C ∧ q.1 ≠ I) (hG : AllBare s.gens) (R : GenReady prog w A g a oa C oC I oI n Fv s.gens)
    (tx : Nat → Str) (htx : ∀ j v, Fv j v → ∃ u, v = .str (tx j) u) (hok : JoinOk sep ((List.range n).map tx) = true)
    (hQ : ∀ h' gs tk t', Fr g L h' m → News g L h' news → AllBare gs → (∀ b o, b ≠ C → b ≠ I → s.heap.get? b = some o → h'.get? b = some o) → Q (.str (Txt.join sep ((List.range n).map tx)) t') { s with heap := h', gens := gs, toks := tk })
    (hsz : n ≤ sizeLine) : wpAny (model prog w) A (call (.builtin "str.join") [.str sep t, .ref a]) Q E s := by
  obtain ⟨gi, St, W, hT, h0⟩ := R
  have W := W.in4_2
  have ea := N _ (.head _)
  have eC := N _ (.tail _ (.head _))
  have eI := N _ (.tail _ (.tail _ (.head _)))
  have hst := h0 s rfl ea.1 eC.1 eI.1 F.keep
  have hfp : ∀ b ∈ a :: C :: I :: fpG g, b < s.heap.objs.size := by
    intro b hb
    rcases List.mem_cons.mp hb with rfl | hb
    · exact Heap.lt_size ea.1
    · rcases List.mem_cons.mp hb with rfl | hb
      · exact Heap.lt_size eC.1
      · rcases List.mem_cons.mp hb with rfl | hb
        · exact Heap.lt_size eI.1
        · obtain ⟨o, e⟩ := of_fpG hb
          exact Heap.lt_size (F.keep _ _ e)
  refine SC.joinGen W hT hst hfp (.head _) (fun j v hv => let ⟨u, e⟩ := htx j v hv; ⟨_, u, e⟩) (fun s' lt hm hacc => ?_) hsz
  have hl : lt.map (·.1) = (List.range n).map tx := by
    apply List.ext_getElem?
    intro j
    have hsz : lt.length = n := by simpa [strValues] using hacc.1
    by_cases hj : j < n
    · have hj' : j < lt.length := hsz ▸ hj
      obtain ⟨u, hv⟩ := htx j _ (hacc.2 j (.str lt[j].1 lt[j].2) (by simp [strValues, List.getElem?_eq_getElem hj']))
      injection hv with h1 _
      simp [List.getElem?_eq_getElem hj', hj, h1]
    · rw [List.getElem?_eq_none (by simpa [hsz] using Nat.le_of_not_lt hj), List.getElem?_eq_none (by simpa using Nat.le_of_not_lt hj)]
  rw [hl]
  refine ⟨hok, fun t' k => ?_⟩
  have keep : ∀ b o, b ≠ C → b ≠ I → s.heap.get? b = some o → s'.heap.get? b = some o := fun b o h1 h2 e => hm.heap b o (by simp [h1, h2]) e
  have hgC : ∀ b o, g.get? b = some o → b ≠ C ∧ b ≠ I := fun b o e => ⟨fun q => (by rw [q, eC.2.2] at e; cases e), fun q => (by rw [q, eI.2.2] at e; cases e)⟩
  have := hQ s'.heap s'.gens k t' ⟨F.ns.at' fun o e => keep _ _ (Ne.symm eC.2.1) (Ne.symm eI.2.1) e, fun b o e => keep _ _ (hgC b o e).1 (hgC b o e).2 (F.keep b o e), F.above⟩
    (fun q hq => ⟨keep _ _ (hoff q hq).1 (hoff q hq).2 (N q (.tail _ (.tail _ (.tail _ hq)))).1, (N q (.tail _ (.tail _ (.tail _ hq)))).2⟩) (hm.gens.bare hG) keep
  have e : { s' with toks := k } = { s with heap := s'.heap, gens := s'.gens, toks := k } := by
    obtain ⟨h1, h2, h3, h4, h5⟩ := s'
    have d1 : h3 = s.drawn := hm.drawn
    have d2 : h5 = s.os := hm.os
    rw [d1, d2]
  rw [e]
  exact this
end
end

end

section
open PySem PySem.W PyProof.Rows PySem.Calls PySem.Spec

/-- A row: a list or tuple whose first is an int or a text; x is the text of it. -/
def FirstTx (h : Heap) (v : Value) (x : Str) : Prop :=
  ∃ a items f, v = .ref a ∧ (h.IsList a items ∨ h.IsTuple a items) ∧ items[0]? = some f ∧ ((∃ n t, f = .int n t ∧ x = (toString n : Str) ∧ n.natAbs.log2 < 1920) ∨ ∃ t, f = .str x t)
theorem FirstTx.keeps {h h' : Heap} {v : Value} {x : Str} (r : FirstTx h v x) (k : ∀ b o, (∃ xs n, o.data = .seq xs n) → h.get? b = some o → h'.get? b = some o) : FirstTx h' v x := by
  obtain ⟨a, items, f, rfl, hl, r⟩ := r
  refine ⟨a, items, f, rfl, ?_, r⟩
  rcases hl with ⟨o, e, c, n, d⟩ | ⟨o, e, c, n, d⟩
  · exact .inl ⟨o, k _ _ ⟨_, _, d⟩ e, c, n, d⟩
  · exact .inr ⟨o, k _ _ ⟨_, _, d⟩ e, c, n, d⟩
section
variable {prog : Program} {w : World} {A : Around} {E : Value → Shared → Prop} {s : Shared} {g : Heap} {L : Addr} {m mg mb : Str → Option Value} {Q : Value → Shared → Prop}
theorem getItem_first {value slice : PySem.Expr} {a : Addr} {items : Array Value} {f : Value} {u : Tok} (F : Fr g L s.heap m) (hl : g.IsList a items ∨ g.IsTuple a items) (hf : items[0]? = some f) (h : Q f s)
    {ops : List Value} (hs : subscripted slice false (.ref a) (.int 0 u) = operate ops (getItem (.ref a) (.int 0 u))) :
    wpAny (model prog w) A (subscriptTail value slice (.ref a) (.int 0 u)) Q E s := by
  rcases hl with hl | ht
  · have hl := isList_keeps hl F.keep
    exact tail_any hl.typeIs slot_list_getitem.lookup (wpAny_getItem_list hl (by decide) (by decide) (by simpa using hf) h) hs
  · have ht' : IsTup s.heap a items := isTuple_keeps ht F.keep
    have hsz : 0 < items.size := by
      rcases Nat.eq_zero_or_pos items.size with h0 | h0
      · rw [Array.getElem?_eq_none (by omega)] at hf; cases hf
      · exact h0
    exact tail_any ht'.typeIs slot_tuple_getitem.lookup (getItem_tuple ht' (by decide) (by decide) (j := 0) (seqIndex_of (by decide) (by omega)) hf h) hs
theorem str_first {f : Value} {x : Str} (hf : (∃ n t, f = .int n t ∧ x = (toString n : Str) ∧ n.natAbs.log2 < 1920) ∨ ∃ t, f = .str x t) (h : ∀ t tk, Q (.str x t) { s with toks := tk }) : wpAny (model prog w) A (call (.type "str") [f]) Q E s := by
  rcases hf with ⟨n, t, rfl, rfl, hn⟩ | ⟨t, rfl⟩
  · exact P.str_of_int hn (h _ _)
  · exact P.str_of_str (h _ s.toks)
/-- str(tup[0]) in a generator's frame. -/
theorem elt_first {env : Env} (hgl : env.globals = mainGlobals) (hg : g.Ns mainGlobals mg) (hmiss : mg (Str.ofString "str") = none) (hb : g.Ns builtinsNs mb) (hv : mb (Str.ofString "str") = some (.type "str")) {p1 p2 p3 p4 p5 : Pos} {cl : List (Str × Addr)} {scope : Scope}
    (hk : scope.kind = .function) (h1 : scope.names.lookup (Str.ofString "str") = some .globalImplicit) (h2 : scope.names.lookup (Str.ofString "tup") = some .local)
    {C : Addr} {code v : Value} {u : Shared} {m₂ : Str → Option Value} {x : Str} (F : Fr g C u.heap m₂) (hm : m₂ (Str.ofString "tup") = some v) (hx : FirstTx g v x) :
      wpAny (model prog w) A (eval (.Call (.Name (Str.ofString "str") p1) [.Subscript (.Name (Str.ofString "tup") p2) (.Constant (.int 0) 0 p3) p4] [] p5) (genEnv scope cl C code builtinsNs env)) (fun y s₃ => (∃ t, y = .str x t) ∧ Keeps u s₃) E u := by
  obtain ⟨a, items, f, rfl, hl, hf, hfx⟩ := hx
  refine Call_ (Calls.Name_function_global hk h1 (Calls.loadGlobal_builtin (env := genEnv scope cl C code builtinsNs env) (mg := mg) (by show u.heap.Ns env.globals mg; rw [hgl]; exact hg.keeps F.keep) hmiss (hb.keeps F.keep) hv ?_) (by decide))
  refine Pv.callWith_type1 (spliced_more ?_)
  refine Subscript_ (wpAny_Name (wpAny_loadName_local hk h2 F.ns hm ?_) (by decide))
  refine wpAny_Constant_int ?_
  refine getItem_first (s := { u with toks := u.toks + 1 }) F hl hf ?_ (by with_unfolding_all rfl)
  refine spliced_none ?_
  refine str_first hfx fun t tk => ⟨⟨t, rfl⟩, _, _, rfl, fun _ _ e => e⟩
theorem len_base {D : Addr} {vs : List Value} {n : Nat} (F : Fr g L s.heap m) (hD : g.IsList D vs.toArray ∨ g.IsTuple D vs.toArray) (hl : vs.length = n) (hz : n ≤ 1000000) (h : ∀ t tk, Q (.int (n : Int) t) { s with toks := tk }) : wpAny (model prog w) A (call (.builtin "len") [.ref D]) Q E s := by
  rcases hD with hD | hD
  · refine len_list (isList_keeps hD F.keep) (by rw [List.size_toArray]; omega) ?_
    rw [List.size_toArray, hl]; exact h _ _
  · refine PyProof.Rows.len_tuple (isTuple_keeps hD F.keep) (by rw [List.size_toArray]; omega) ?_
    rw [List.size_toArray, hl]; exact h _ _
theorem join_len (sep : Str) (ts : List Str) {B : Nat} (h : (ts.map (·.length)).sum + ts.length * sep.length ≤ B) : (Txt.join sep ts).length ≤ B := by rw [show Txt.join sep ts = Str.join sep ts from StrLaws.glued_eq_join sep ts]; exact Nat.le_trans (StrLaws.join_length_le sep ts) h
theorem map_getD (ts : List Str) (d : Str) {n : Nat} (h : n = ts.length) : (List.range n).map (fun i => ts.getD i d) = ts := by
  subst h
  have := map_range ts d (fun x => x)
  simpa using this
end

end

section
open PySem PySem.W PyProof.Rows PySem.Calls PySem.Spec

/-- The law's end: True; what stood before it stands, but the tables of codes, which may have grown; the generators are bare. -/
def EndTrue (tabs : List (Addr × Addr)) (s₁ : Shared) (r : Result) (s' : Shared) : Prop :=
  r = .ok (.ret (.bool true)) ∧ (∀ b o, (ghostOf s₁.heap tabs).get? b = some o → s'.heap.get? b = some o) ∧ s'.os = s₁.os ∧ AllBare s'.gens ∧ GrownAll tabs s'.heap
theorem kn_postT {M : Model} {A : Around} {cd : Code} {s s₁ : Shared} {cw : ClaimW} {cl : Str → Option Addr} {mean : ExcName → Option Value} {args : List WData} {tabs : List (Addr × Addr)} (hT : TabsAt tabs s₁.heap) (hr : ∀ x, cw.raises args x = false) (hp : cw.post args (.bool true) args = true)
    (h : codeAny M A cd (EndTrue tabs s₁) s) : codeAny M A cd (GoodWG cw cl mean args s₁) s :=
  codeAny_mono h fun r s' ⟨hr1, hk, hos, hg, hgr⟩ => by
    have keep : ∀ b o, b ∉ tabs.map (·.2) → s₁.heap.get? b = some o → s'.heap.get? b = some o := fun b o hb e => hk b o (ghost_ne e hb)
    have grown : ∀ b o, b ∈ tabs.map (·.2) → s₁.heap.get? b = some o → isCodeTable s₁.heap b ∧ o = tabObj #[] ∧ ∃ ps, s'.heap.get? b = some (tabObj ps) := fun b o hb e => by
      obtain ⟨q, hq, rfl⟩ := List.mem_map.mp hb
      have e2 := (hT q hq).2
      rw [e] at e2
      exact ⟨((hT q hq).1.tab (hT q hq).2).isCodeTable, Option.some.inj e2, hgr.get q hq⟩
    refine ⟨.inl ⟨.bool true, .bool true, [], hr1, hr, ReadsW.bool _, hp, fun _ => ⟨List.nodup_nil, fun a ha => by cases ha⟩⟩, ⟨fun b o e => ?_, fun b o e => ?_⟩, hos, hg⟩
    · by_cases hb : b ∈ tabs.map (·.2)
      · obtain ⟨ht, rfl, ps, hP⟩ := grown b o hb e
        exact .inr (.inl ⟨ht, rfl, #[], ps, rfl, by rw [Array.empty_append]; exact hP⟩)
      · exact .inl (keep b o hb e)
    · by_cases hb : b ∈ tabs.map (·.2)
      · obtain ⟨_, _, ps, hP⟩ := grown b o hb e
        exact ⟨_, hP⟩
      · exact ⟨o, keep b o hb e⟩

end

section
open PySem PySem.W PyProof.Rows

/-- The text of a number. -/
def numTx (n : Int) : Str := (toString n : Str)
def digTx (d : Int) : Str := ⟨#[48 + d.toNat]⟩
theorem str_ext' {a b : Str} (h : a.cps.toList = b.cps.toList) : a = b := by
  obtain ⟨a⟩ := a
  obtain ⟨b⟩ := b
  have : a = b := Array.ext' h
  rw [this]
theorem signs_num' (m : Nat) : (numTx (m : Int)).cps.toList = (Nat.toDigits 10 m).map Char.toNat := by
  unfold numTx
  show (Str.ofString (toString ((m : Nat) : Int))).cps.toList = _
  rw [PyProof.Rows.signs_ofString]
  show (Nat.repr m).toList.map Char.toNat = _
  rw [Nat.toList_repr]
theorem digitChar_code : ∀ d, d < 10 → (Nat.digitChar d).toNat = 48 + d := by decide
theorem numTx_small {n : Int} (h0 : 0 ≤ n) (h1 : n < 10) : numTx n = digTx n := by
  obtain ⟨m, rfl⟩ := Int.eq_ofNat_of_zero_le h0
  apply str_ext'
  rw [signs_num', Nat.toDigits_of_lt_base (by omega)]
  simp [digTx, digitChar_code m (by omega)]
theorem numTx_step {n : Int} (h : 10 ≤ n) : numTx n = numTx (n / 10) ++ digTx (n % 10) := by
  obtain ⟨m, rfl⟩ := Int.eq_ofNat_of_zero_le (by omega : 0 ≤ n)
  have e1 : ((m : Int) / 10) = ((m / 10 : Nat) : Int) := by omega
  have e2 : ((m : Int) % 10) = ((m % 10 : Nat) : Int) := by omega
  apply str_ext'
  rw [e1, e2, Str.cps_append, Array.toList_append, signs_num', signs_num', Nat.toDigits_of_base_le (by decide) (by omega), List.map_append]
  simp [digTx, digitChar_code (m % 10) (by omega)]; omega
theorem numTx_neg {n : Int} (h : 0 < n) : numTx (-n) = Str.ofString "-" ++ numTx n := by
  obtain ⟨m, rfl⟩ := Int.eq_ofNat_of_zero_le (by omega : 0 ≤ n)
  obtain ⟨k, rfl⟩ : ∃ k, m = k + 1 := ⟨m - 1, by omega⟩
  apply str_ext'
  rw [Str.cps_append, Array.toList_append]
  unfold numTx
  show (Str.ofString (toString (-((k + 1 : Nat) : Int)))).cps.toList = (Str.ofString "-").cps.toList ++ (Str.ofString (toString ((k + 1 : Nat) : Int))).cps.toList
  rw [PyProof.Rows.signs_ofString, PyProof.Rows.signs_ofString, PyProof.Rows.signs_ofString]
  show (("-" ++ (k + 1).repr : String)).toList.map Char.toNat = _
  rw [String.toList_append, List.map_append]
  rfl
theorem item_dig {i : Int} (h0 : 0 ≤ i) (h1 : i < 10) : Txt.item (Str.ofString "0123456789") i = digTx i := by
  have : i = 0 ∨ i = 1 ∨ i = 2 ∨ i = 3 ∨ i = 4 ∨ i = 5 ∨ i = 6 ∨ i = 7 ∨ i = 8 ∨ i = 9 := by omega
  rcases this with rfl | rfl | rfl | rfl | rfl | rfl | rfl | rfl | rfl | rfl <;> decide +kernel
theorem numTx_len (k : Nat) : ∀ {n : Int}, 0 ≤ n → n < 10 ^ (k + 1) → (numTx n).length ≤ k + 1 := by
  induction k with
  | zero =>
    intro n h0 h1
    rw [numTx_small h0 (by simpa using h1)]
    exact Nat.le_refl _
  | succ k ih =>
    intro n h0 h1
    by_cases h : n < 10
    · rw [numTx_small h0 h]
      show 1 ≤ _
      omega
    · rw [numTx_step (by omega), Str.length_append]
      have h2 : n / 10 < 10 ^ (k + 1) := by
        refine Int.ediv_lt_of_lt_mul (by decide) ?_
        rw [← Int.pow_succ]; exact h1
      have := ih (n := n / 10) (by omega) h2
      show (numTx (n / 10)).length + 1 ≤ _
      omega
/-- What a number's text is made of, from behind. -/
def restTx (v : Int) : Str := if v = 0 then ⟨#[]⟩ else numTx v
theorem rest_step {v : Int} (h : 0 < v) : restTx v = restTx (v / 10) ++ digTx (v % 10) := by
  unfold restTx
  rw [if_neg (by omega)]
  by_cases h1 : v < 10
  · rw [if_pos (by omega), numTx_small (by omega) h1, show v % 10 = v from by omega]
    apply str_ext'
    rw [Str.cps_append]
    simp
  · rw [if_neg (by omega), numTx_step (by omega)]
theorem rest_first {v : Int} (h : 0 ≤ v) : numTx v = restTx (v / 10) ++ digTx (v % 10) := by
  by_cases h0 : v = 0
  · subst h0
    rw [numTx_small (by decide) (by decide)]
    apply str_ext'
    rw [Str.cps_append]
    simp [restTx]
  · rw [← rest_step (by omega)]
    unfold restTx
    rw [if_neg h0]

end

section
open PySem PySem.W PyProof.Rows PySem.Calls PySem.Spec
open PySem.Sem (wp)

/-! A block of statements cut in two, with a word between. -/
section
variable {M : Model} {A : Around} {E : Value → Shared → Prop} {s : Shared} {env : Env} {Q : Flow → Shared → Prop}
theorem wp_execs_app {Γ : PySem.Ctx} {b : List Stmt} {Q : Flow → Pos → Shared → Prop} {E : Value → Pos → Shared → Prop} : ∀ (a : List Stmt) (p : Pos) (s : Shared),
    wp M Γ (execs a env) (fun f p' s' => match f with | .next => wp M Γ (execs b env) Q E p' s' | f => Q f p' s') E p s → wp M Γ (execs (a ++ b) env) Q E p s
  | [], _, _, h => h
  | st :: a, p, s, h => by
    rw [List.cons_append, execs_cons, Sem.wp_bind']
    rw [execs_cons, Sem.wp_bind'] at h
    refine Sem.wp_mono M Γ _ (fun f p' s' h' => ?_) (fun _ _ _ h' => h') _ _ h
    cases f with
    | next => exact wp_execs_app a p' s' h'
    | _ => exact h'
def CutEnd (Mid : Shared → Prop) (f : Flow) (s' : Shared) : Prop := f = .next ∧ Mid s'
theorem execs_cut (n : Nat) {l : List Stmt} (Mid : Shared → Prop) (h1 : wpAny M A (execs (l.take n) env) (CutEnd Mid) E s) (h2 : ∀ s', Mid s' → wpAny M A (execs (l.drop n) env) Q E s') : wpAny M A (execs l env) Q E s := by
  intro Γ p hΓ
  rw [← List.take_append_drop n l]
  refine wp_execs_app _ _ _ (Sem.wp_mono M Γ _ (fun f p' s' h' => ?_) (fun _ _ _ h' => h') _ _ (h1 Γ p hΓ))
  obtain ⟨rfl, h'⟩ := h'
  exact h2 s' h' Γ p' hΓ
end
theorem news_cons {h₀ h : Heap} {L : Addr} {news : List (Addr × Obj)} {p : Addr × Obj} (N : News h₀ L h news) (hp : p ∈ news) : News h₀ L h (p :: news) := fun q hq => (List.mem_cons.mp hq).elim (fun e => e ▸ N p hp) (N q)
theorem neN {a b : Nat} (h : a ≠ b) : a ≠ b := h
theorem ltN {a b : Nat} (h : a < b) : a < b := h
/-- A row of the ledger and the text of its first. -/
def RowIn (news : List (Addr × Obj)) (v : Value) (x : Str) : Prop :=
  ∃ (a : Addr) (items : Array Value) (f : Value), v = .ref a ∧ ((∃ n, (a, listOf items n) ∈ news) ∨ ∃ n, (a, ({ cls := .type "tuple", data := .seq items n } : Obj)) ∈ news) ∧ items[0]? = some f ∧ ((∃ n t, f = .int n t ∧ x = (toString n : Str) ∧ n.natAbs.log2 < 1920) ∨ ∃ t, f = .str x t)
theorem RowIn.mono {l l' : List (Addr × Obj)} {v : Value} {x : Str} (r : RowIn l v x) (h : ∀ p ∈ l, p ∈ l') : RowIn l' v x := by
  obtain ⟨a, items, f, e, hl, r⟩ := r
  refine ⟨a, items, f, e, ?_, r⟩
  rcases hl with ⟨n, hl⟩ | ⟨n, hl⟩
  · exact .inl ⟨n, h _ hl⟩
  · exact .inr ⟨n, h _ hl⟩
theorem RowIn.first {h₀ h : Heap} {L : Addr} {news : List (Addr × Obj)} {v : Value} {x : Str} (N : News h₀ L h news) (r : RowIn news v x) : FirstTx h v x := by
  obtain ⟨a, items, f, e, hl, r⟩ := r
  refine ⟨a, items, f, e, ?_, r⟩
  rcases hl with ⟨n, hl⟩ | ⟨n, hl⟩
  · exact .inl ⟨_, N.get hl, rfl, n, rfl⟩
  · exact .inr ⟨_, N.get hl, rfl, n, rfl⟩
def RowsIn (news : List (Addr × Obj)) (vs : List Value) (ts : List Str) : Prop := vs.length = ts.length ∧ ∀ i v, vs[i]? = some v → RowIn news v (ts.getD i ⟨#[]⟩)
theorem RowsIn.mono {l l' : List (Addr × Obj)} {vs : List Value} {ts : List Str} (r : RowsIn l vs ts) (h : ∀ p ∈ l, p ∈ l') : RowsIn l' vs ts := ⟨r.1, fun i v e => (r.2 i v e).mono h⟩
theorem RowsIn.snoc {l : List (Addr × Obj)} {vs : List Value} {ts : List Str} {v : Value} {x : Str} (r : RowsIn l vs ts) (q : RowIn l v x) : RowsIn l (vs ++ [v]) (ts ++ [x]) := by
  refine ⟨by simp [r.1], fun i w e => ?_⟩
  by_cases h : i < vs.length
  · rw [List.getElem?_append_left h] at e
    have := r.2 i w e
    rw [List.getD_eq_getElem?_getD, List.getElem?_append_left (by rw [← r.1]; exact h), ← List.getD_eq_getElem?_getD]
    exact this
  · rw [List.getElem?_append_right (by omega)] at e
    have h0 : i - vs.length = 0 := by
      rcases Nat.eq_zero_or_pos (i - vs.length) with h0 | h0
      · exact h0
      · rw [List.getElem?_eq_none (by simp; omega)] at e; cases e
    rw [h0] at e
    cases e
    rw [List.getD_eq_getElem?_getD, List.getElem?_append_right (by rw [← r.1]; omega), ← r.1, h0]
    exact q
theorem pickL_all {α : Type} (l : List α) : pickL l none none none = l := by
  have e : sliceBounds none none none l.length = sliceBounds (some 0) none none l.length := by
    unfold sliceBounds
    simp
    omega
  have h2 := pickL_from l (k := (0 : Int)) (by omega)
  unfold pickL at h2 ⊢
  rw [e, h2]
  simp
theorem datAll_snoc {l : List (Addr × Obj)} : ∀ {vs : List Value} {ds : List Dat} {v : Value} {d : Dat}, DatAll l vs ds → DatIn l v d → DatAll l (vs ++ [v]) (ds ++ [d])
  | _, _, _, _, .nil, q => .cons q .nil
  | _, _, _, _, .cons a b, q => .cons a (datAll_snoc b q)

end

section
open PySem PySem.W PyProof.Rows PySem.Calls PySem.Spec

/-! t[:] of a tuple is the tuple. -/
section
variable {prog : Program} {w : World} {A : Around} {E : Value → Shared → Prop} {s : Shared} {h₀ : Heap} {L : Addr} {m : Str → Option Value} {news : List (Addr × Obj)}
theorem adjust_all (n : Nat) : Builtin.Slice.sliceAdjust none none 1 (n : Int) = ((0 : Int), (n : Int)) := by
  unfold Builtin.Slice.sliceAdjust
  have h1 : ¬ ((1 : Int) < 0) := by omega
  simp only [h1, if_false]
theorem sliceApplied_all {sl : Addr} {n : Nat} {Q : Int × Int × Nat → Shared → Prop} (hs : s.heap.IsSliceOf sl .none .none .none) (h : Q ((0 : Int), 1, n) s) :
    wpAny (model prog w) A (Builtin.Slice.sliceApplied (.ref sl) (pure (n : Int))) Q E s := by
  obtain ⟨os, hos, hcs, hds⟩ := id hs
  unfold Builtin.Slice.sliceApplied Builtin.Slice.sliceFields
  refine wpAny_bind (wpAny_bind (wpAny_field hos hds (x := .none) rfl (wpAny_bind (wpAny_field hos hds (x := .none) rfl (wpAny_bind (wpAny_field hos hds (x := .none) rfl (wpAny_pure ?_)))))))
  refine wpAny_bind (slicePart_none ?_)
  show wpAny _ _ (if ((1 : Int) == 0) = true then _ else _) _ _ s
  rw [if_neg (by decide)]
  refine wpAny_bind (slicePart_none (wpAny_bind (slicePart_none (wpAny_bind (wpAny_pure ?_)))))
  show wpAny _ _ (match Builtin.Slice.sliceAdjust none none 1 (n : Int) with | (lo, hi) => pure (lo, (1 : Int), Builtin.Slice.slicePlaces lo hi 1)) _ _ s
  rw [adjust_all n]
  show wpAny _ _ (pure ((0 : Int), (1 : Int), Builtin.Slice.slicePlaces (0 : Int) (n : Int) 1)) _ _ s
  rw [places_to n]
  exact wpAny_pure h
theorem getItem_tuple_all {t sl : Addr} {items : Array Value} {Q : Value → Shared → Prop} (ht : IsTup s.heap t items) (hs : s.heap.IsSliceOf sl .none .none .none) (h : Q (.ref t) s) : wpAny (model prog w) A (getItem (.ref t) (.ref sl)) Q E s := by
  obtain ⟨os, hos, hcs, hds⟩ := id hs
  have hTs : s.TypeIs (.ref sl) "slice" := ⟨os, hos, hcs⟩
  unfold getItem
  try with_reducible refine wpAny_holding ?_
  first | refine wpAny_bind (wpAny_pure ?_) | skip
  refine wpAny_bind (wpAny_sequenceKey ht.typeIs (by decide) ?_)
  refine wpAny_bind (wpAny_callSpecial?_slot (name := Str.ofString "__getitem__") ht.typeIs slot_tuple_getitem
    (wpAny_call_entry slot_tuple_getitem ht.typeIs entry_tuple_getitem ?_ (args_tuple_getitem _ _)))
  show wpAny _ _ (Builtin.Tuple.tupleItemsOf (.ref t) >>= _) _ _ s
  refine wpAny_bind (tupleItemsOf_ ht ?_)
  refine wpAny_bind (wpAny_typeOf hTs ?_)
  rw [if_pos (by decide)]
  refine wpAny_bind (sliceApplied_all hs ?_)
  have hyes : ((0 : Int) == 0 && (1 : Int) == 1 && items.size == items.size) = true := by simp
  show wpAny _ _ (if ((0 : Int) == 0 && (1 : Int) == 1 && items.size == items.size) = true then _ else _) _ _ s
  rw [if_pos hyes]
  refine wpAny_bind (m := Builtin.Tuple.tupleIsExact (.ref t)) (wpAny_bind (wpAny_typeOf ht.typeIs (wpAny_pure ?_)))
  rw [if_pos (by decide)]
  refine wpAny_bind (wpAny_rule ?_)
  first
    | exact wpAny_pure ⟨_, rfl, wpAny_pure h⟩
    | exact wpAny_bind (wpAny_pure (wpAny_pure ⟨_, rfl, wpAny_pure h⟩))
theorem whole_led {value slice : PySem.Expr} {t : Addr} {vs : List Value} {n : Nat} {Q : Value → Shared → Prop} (Fm : Fr h₀ L s.heap m) (N : News h₀ L s.heap news) (hm : (t, ({ cls := .type "tuple", data := .seq vs.toArray n } : Obj)) ∈ news)
    (h : ∀ h', Fr h₀ L h' m → News h₀ L h' news → Q (.ref t) { s with heap := h' })
    {ops : List Value} (hs : subscripted slice false (.ref t) (.ref s.heap.objs.size) = operate ops (getItem (.ref t) (.ref s.heap.objs.size))) :
    wpAny (model prog w) A (subscriptTail value slice (.ref t) (.ref s.heap.objs.size)) Q E { s with heap := s.heap.push { cls := .type "slice", data := .fields #[.none, .none, .none] } } := by
  have F' := Fm.push ({ cls := .type "slice", data := .fields #[.none, .none, .none] } : Obj)
  have N' := led_push N ({ cls := .type "slice", data := .fields #[.none, .none, .none] } : Obj)
  have ht : IsTup (s.heap.push ({ cls := .type "slice", data := .fields #[.none, .none, .none] } : Obj)) t vs.toArray := ⟨_, N'.get hm, rfl, n, rfl⟩
  exact tail_any (T := "tuple") ht.typeIs slot_tuple_getitem.lookup (getItem_tuple_all ht ⟨_, Heap.get?_push_size _ rfl, rfl, rfl⟩ (h _ F' N')) hs
/-- l[:] of a list of the ledger. -/
theorem copy_led {value slice : PySem.Expr} {l : Addr} {vs : List Value} {n : Nat} {ops : List Value} {Q : Value → Shared → Prop} (F : Fr h₀ L s.heap m) (N : News h₀ L s.heap news) (hm : (l, W.listOf vs.toArray n) ∈ news) (hz : vs.length ≤ 1000000)
    (h : ∀ D h', Fr h₀ L h' m → News h₀ L h' ((D, W.listOf vs.toArray 0) :: news) → (∀ p ∈ news, p.1 < D) → Q (.ref D) { s with heap := h' })
    (hs : subscripted slice false (.ref l) (.ref s.heap.objs.size) = operate ops (getItem (.ref l) (.ref s.heap.objs.size)))
    (ht : ∀ r, letTemporaryGo value (.ref l) r = pure ()) :
    wpAny (model prog w) A (subscriptTail value slice (.ref l) (.ref s.heap.objs.size)) Q E { s with heap := s.heap.push { cls := .type "slice", data := .fields #[.none, .none, .none] } } := by
  refine slice_led F N hm .none .none .none (by simp) hz (fun D h' F' N' l1 => ?_) hs ht
  rw [pickL_all] at N'
  exact h D h' F' N' l1
theorem append_led {D : Addr} {vs : List Value} {n : Nat} {x : Value} {news' : List (Addr × Obj)} {Q : Value → Shared → Prop} (F : Fr h₀ L s.heap m) (N : News h₀ L s.heap news) (U : Upd D (W.listOf vs.toArray n) (W.listOf (vs ++ [x]).toArray (n + 1)) news news') (hz : vs.length ≤ 1000000)
    (h : ∀ h', Fr h₀ L h' m → News h₀ L h' news' → Q .none { s with heap := h' }) : wpAny (model prog w) A (call (.builtin "list.append") [.ref D, x]) Q E s := by
  refine append_K (its := vs.toArray) (n := n) (news' := news') F N ?_ h (by rw [List.size_toArray, PySem.sizeLine_eq]; omega)
  rw [List.push_toArray]
  exact U
end

end

section
open PySem PySem.W PyProof.Rows PySem.Calls PySem.Spec

/-! An own exception class with an own __init__ is called. -/
abbrev mroE : List Value := [.type "Exception", .type "BaseException", .type "object"]
section
variable {prog : Program} {w : World} {A : Around} {R : Result → Shared → Prop} {h : Heap} {g : Array GenState} {d : Drawn} {t : Nat} {os : OsState}
variable {nm q : Str} {C N : Addr} {bs : List Value} {hdct : Bool} {sn : List Str} {sub : List Value} {ab : Bool} {col : Option Bool} {dd : Option Addr} {k0 k1 k2 k3 k5 : Option Value}
abbrev excNew (C : Addr) (t : Addr) : Obj := { cls := .ref C, data := .fields #[.ref t, .none, .none, .none, .bool false, .none] }
theorem exc_core {rest : List Value} {fI : Addr} (hC : h.get? C = some (excClassObj nm q C N bs mroE hdct sn sub ab col dd k0 k1 k2 k3 k5 "Exception.__new__"))
    (hi : Looks (model prog w) h (typeLookup (.ref C) "__init__") (some (.ref fI))) (hb : ∀ self, Looks (model prog w) h (bindSpecial (.ref fI) self) (.ref fI, [self])) (hrest : rest.length ≤ sizeLine)
    (hq : codeAny (model prog w) (A.under (.builtin "type.__call__" ⟨.ref C :: rest, []⟩)) (.call (.ref fI) ⟨.ref (h.objs.size + 1) :: rest, []⟩) (InitBack (h.objs.size + 1) R) ⟨(h.push (tupO rest.toArray)).push (excNew C h.objs.size), g, d, t, os⟩) :
    codeAny (model prog w) A (.call (.ref C) ⟨rest, []⟩) R ⟨h, g, d, t, os⟩ := by
  have F := PySem.F.excBase_Exception
  have f1 := tc_lookup
  have f2 := tc_bind (.ref C)
  have hT : (⟨h, g, d, t, os⟩ : Shared).TypeIs (.ref C) "type" := ⟨_, hC, rfl⟩
  refine codeAny_of_tree ?_
  show wpAny _ _ (callAny (.ref C) _) _ _ _
  repeat (any_goals (first | assumption | with_reducible refine wpAny_loadPart_at hC ?_ | wp_step))
  refine ⟨rfl, ?_⟩
  refine codeAny_call_builtin_at (Code.quiet_builtin _ (by decide +kernel)) entry_typeCall (wpAny_check_type_call_sub hC ?_)
  repeat (first | with_reducible refine wpAny_loadPart_at hC ?_ | with_reducible refine wpAny_madeBy_exc hC ?_ | wp_step)
  refine codeAny_call_builtin_code (Code.quiet_builtin _ F.quiet) (wpAny_check_new_sub F hC ?_)
  refine codeAny_exc_new_sub F hC ?_ hrest
  show wpAny _ _ _ _ _ _
  have k : ∀ b o, h.get? b = some o → ((h.push (tupO rest.toArray)).push (excNew C h.objs.size)).get? b = some o := fun b o e => Heap.get?_push_of_some _ (Heap.get?_push_of_some _ e)
  have hC₁ := k _ _ hC
  have hget : ((h.push (tupO rest.toArray)).push (excNew C h.objs.size)).get? (h.objs.size + 1) = some (excNew C h.objs.size) := by heap_get
  have hcC : (Value.ref C :: mroE).contains (.ref C) = true := by simp
  unfold isInstance
  repeat (first | with_reducible refine wpAny_loadPart_at hget ?_ | (with_reducible refine wpAny_isSubtype_exc hC₁ ?_; rw [hcC]) | wp_step)
  show wpAny _ _ (isSubtype (.ref C) (.ref C)) _ _ ⟨(h.push (tupO rest.toArray)).push (excNew C h.objs.size), g, d, t, os⟩
  refine wpAny_isSubtype_exc hC₁ ?_
  rw [hcC]
  have t1 : Looks (model prog w) ((h.push (tupO rest.toArray)).push (excNew C h.objs.size)) (typeOf (.ref (h.objs.size + 1))) (.ref C) := (Looks.ld hget).andThen .now
  have i1 := hi.keeps k
  have b1 := (hb (.ref (h.objs.size + 1))).keeps k
  simp only [Bool.not_true, Bool.false_eq_true, if_false]
  unfold callSpecial? specialOf
  repeat (first | with_reducible refine wpAny_call ?_ | lk)
  refine codeAny_mono hq fun r s' z => ?_
  rcases r with e | (v | _ | _ | _) <;> first | exact z | exact z.elim | skip
  obtain ⟨rfl, z⟩ := z
  exact wpAny_pure (wpAny_pure z)
end

end

section
open PySem PySem.W PyProof.Rows PySem.Calls PySem.Spec

/-! An exception in flight of which more than its class is told: P holds of its object all the way. -/
def KeepP (P : Obj → Prop) : Prop := ∀ (o : Obj) (v : Value), P o → P (o.mapFields (·.setIfInBounds 1 v))
def TrP (P : Obj → Prop) (h base : Heap) (e : Addr) (fl : Value) : Prop :=
  ∃ (oe : Obj) (vs : Array Value) (T : Addr) (oT : Obj) (ts : Array Value), h.get? e = some oe ∧ P oe ∧ oe.data = .fields vs ∧ vs[1]? = some (.ref T) ∧ base.get? T = none ∧ T ≠ e ∧ h.get? T = some oT ∧ oT.data = .fields ts ∧ ts[3]? = some fl
def FlyP (P : Obj → Prop) (base : Heap) (l : List Env) (e : Addr) (fl : Value) (h : Heap) : Prop :=
  base.StaysIn h ∧ base.get? e = none ∧ h.FunFrames base l ∧ TrP P h base e fl
section
variable {M : Model} {A : Around} {E : Value → Shared → Prop} {s : Shared} {P : Obj → Prop} {base : Heap} {env : Env} {outer : List Env} {L e : Addr} {Q : Unit → Shared → Prop}
theorem entryP {oe : Obj} {vs : Array Value} {head : Value} {hadNext : Bool} (hP : KeepP P)
    (hfr : A.frames = some (env :: outer)) (hl : s.heap.FunFrames base (env :: outer)) (hf : env.frame = some L)
    (he : s.heap.get? e = some oe) (hp : P oe) (hkb : base.StaysIn s.heap) (hen : base.get? e = none) (hd : oe.data = .fields vs) (hsz : 1 < vs.size)
    (h : ∀ h', FlyP P base (env :: outer) e (rawInt L) h' → s.heap.UpToSlots h' → Q () { s with heap := h' }) :
    wpAny M A (do let a ← frameOf env; let pl ← entryPlaceOf L hadNext; let b ← EntryCells.newEntry head a .none (rawInt L) .none pl; setField (.ref e) 1 b) Q E s := by
  have offFrames : e ∉ (env :: outer).filterMap (·.frame) := fun hm => by
    obtain ⟨_, o, ho, hnf⟩ := hl.mem hm
    rw [he] at ho
    cases ho
    exact hnf vs hd
  refine wpAny_bind (wpAny_frameOf_fun hfr hl hf fun h₁ hs₁ => ?_)
  refine wpAny_bind (wpAny_entryPlaceOf fun pl hpl => ?_)
  unfold EntryCells.newEntry newFields
  refine wpAny_bind (wpAny_newObj_type ?_ (hpl.sizeOk5 _ _ _ _ _))
  have he₁ : h₁.get? e = some oe := (hs₁.2.1 e offFrames).trans he
  have kb₁ : base.StaysIn h₁ := fun b o hbo => (hs₁.2.1 b fun hm => by rw [(hl.mem hm).1] at hbo; cases hbo).trans (hkb b o hbo)
  generalize hto : ({ cls := .type "traceback", dict := none, data := .fields ([head, .ref L, .none, rawInt L, .none] ++ (if pl.isEmpty then List.replicate 6 Value.none else pl)).toArray } : Obj) = to
  have he₂ := Heap.get?_push_of_some (h := h₁) to he₁
  refine wpAny_setField he₂ hd hsz (h _ ?_ ?_)
  · have hTe : h₁.objs.size ≠ e := Nat.ne_of_gt (Heap.lt_size he₁)
    have hd₃ := Obj.data_mapFields hd (·.setIfInBounds 1 (Value.ref h₁.objs.size))
    have he₃ := Heap.get?_update_self (Obj.mapFields (·.setIfInBounds 1 (Value.ref h₁.objs.size))) he₂ (Obj.isFreed_of_fields hd₃)
    have other : ∀ b o, b ≠ e → h₁.get? b = some o → ((h₁.push to).update e (Obj.mapFields (·.setIfInBounds 1 (Value.ref h₁.objs.size)))).get? b = some o := fun b o hbe hb => by
      rw [Heap.get?_update_other _ _ (Ne.symm hbe)]
      exact Heap.get?_push_of_some _ hb
    refine ⟨fun b o hbo => other b o (fun q => by rw [q, hen] at hbo; cases hbo) (kb₁ b o hbo), hen, hl.of_keeps fun b o hb hnf => ?_, ?_⟩
    · obtain ⟨sl, hs⟩ := hs₁.2.2 b o hb
      exact ⟨_, other b _ (fun q => by rw [q, he] at hb; cases hb; exact hnf vs hd) hs, rfl⟩
    · subst hto
      refine ⟨_, _, h₁.objs.size, _, _, he₃, hP _ _ hp, hd₃, by simp [hsz], kb₁.fresh, hTe, (Heap.get?_update_other _ _ (Ne.symm hTe)).trans (Heap.get?_push_size h₁ rfl), rfl, ?_⟩
      first
        | (simp; done)
        | (rcases hpl with rfl | ⟨_, _, _, _, _, _, _, rfl⟩ <;> simp)
  · intro b o hb hnf
    obtain ⟨sl, hs⟩ := hs₁.2.2 b o hb
    refine ⟨sl, ?_⟩
    have hbe : b ≠ e := fun q => by rw [q, he] at hb; cases hb; exact hnf vs hd
    rw [Heap.get?_update_other _ _ (Ne.symm hbe)]
    exact Heap.get?_push_of_some _ hs
theorem noteFirstP {oe : Obj} {vs : Array Value} (hP : KeepP P) (hfr : A.frames = some (env :: outer)) (hl : s.heap.FunFrames base (env :: outer)) (hf : env.frame = some L)
    (he : s.heap.get? e = some oe) (hp : P oe) (hkb : base.StaysIn s.heap) (hen : base.get? e = none) (hd : oe.data = .fields vs) (h1 : vs[1]? = some .none)
    (h : ∀ h', FlyP P base (env :: outer) e (rawInt L) h' → s.heap.UpToSlots h' → Q () { s with heap := h' }) : wpAny M A (noteFrame (.ref e) env) Q E s := by
  unfold noteFrame
  simp only [hf]
  refine wpAny_bind (wpAny_field he hd h1 ?_)
  rw [if_neg (by decide)]
  exact entryP hP hfr hl hf he hp hkb hen hd (Array.getElem?_eq_some_iff.mp h1).1 h
theorem noteOnP (hP : KeepP P) (hfr : A.frames = some (env :: outer)) (hf : env.frame = some L) (x : FlyP P base (env :: outer) e .none s.heap)
    (h : ∀ h', FlyP P base (env :: outer) e (rawInt L) h' → s.heap.UpToSlots h' → Q () { s with heap := h' }) : wpAny M A (noteFrame (.ref e) env) Q E s := by
  obtain ⟨hkb, hen, hl, oe, vs, T, oT, ts, he, hp, hd, h1, hnT, hTe, hT, hdT, h3⟩ := x
  unfold noteFrame
  simp only [hf]
  refine wpAny_bind (wpAny_field he hd h1 ?_)
  rw [if_pos (show (Value.ref T != Value.none) = true from by simp)]
  refine wpAny_bind (wpAny_field hT hdT h3 ?_)
  rw [if_neg (show ¬ ((Value.none == rawInt L) = true) from by simp [rawInt])]
  refine wpAny_bind (wpAny_setField hT hdT (Array.getElem?_eq_some_iff.mp h3).1 ?_)
  have other : ∀ b, b ≠ T → (s.heap.update T (Obj.mapFields (·.setIfInBounds 3 Value.none))).get? b = s.heap.get? b := fun b hb => Heap.get?_update_other _ _ (Ne.symm hb)
  have offT : ∀ b o, s.heap.get? b = some o → (∀ vs, o.data ≠ .fields vs) → b ≠ T := fun b o hb hnf q => by rw [q, hT] at hb; cases hb; exact hnf ts hdT
  refine entryP hP hfr (hl.of_keeps fun b o hb hnf => ⟨o, (other b (offT b o hb hnf)).trans hb, rfl⟩) hf ((other e (Ne.symm hTe)).trans he) hp
    (fun b o hbo => (other b fun q => by rw [q, hnT] at hbo; cases hbo).trans (hkb b o hbo)) hen hd (Array.getElem?_eq_some_iff.mp h1).1
    fun h' x1 x2 => h h' x1 fun b o hb hnf => x2 b o ((other b (offT b o hb hnf)).trans hb) hnf
theorem noteAgainP (hf : env.frame = some L) {l : List Env} (x : FlyP P base l e (rawInt L) s.heap) (h : Q () s) : wpAny M A (noteFrame (.ref e) env) Q E s := by
  obtain ⟨hkb, hen, hl, oe, vs, T, oT, ts, he, hp, hd, h1, hnT, hTe, hT, hdT, h3⟩ := x
  unfold noteFrame
  simp only [hf]
  refine wpAny_bind (wpAny_field he hd h1 ?_)
  rw [if_pos (show (Value.ref T != Value.none) = true from by simp)]
  refine wpAny_bind (wpAny_field hT hdT h3 ?_)
  rw [if_pos (show (rawInt L == rawInt L) = true from by simp)]
  exact wpAny_pure h
theorem landP {l : List Env} {fl : Value} (x : FlyP P base l e fl s.heap)
    (h : ∀ h', FlyP P base l e .none h' → (∀ b o, s.heap.get? b = some o → (∀ vs, o.data ≠ .fields vs) → h'.get? b = some o) → Q () { s with heap := h' }) : wpAny M A (setFlight (.ref e) none) Q E s := by
  obtain ⟨hkb, hen, hl, oe, vs, T, oT, ts, he, hp, hd, h1, hnT, hTe, hT, hdT, h3⟩ := x
  have hsz3 : 3 < ts.size := (Array.getElem?_eq_some_iff.mp h3).1
  have other : ∀ b, b ≠ T → (s.heap.update T (Obj.mapFields (·.setIfInBounds 3 ((none : Option Addr).elim Value.none fun f => rawInt f)))).get? b = s.heap.get? b :=
    fun b hb => Heap.get?_update_other _ _ (Ne.symm hb)
  have offT : ∀ b o, s.heap.get? b = some o → (∀ vs, o.data ≠ .fields vs) → b ≠ T := fun b o hb hnf q => by rw [q, hT] at hb; cases hb; exact hnf ts hdT
  unfold setFlight
  refine wpAny_bind (wpAny_field he hd h1 ?_)
  rw [if_pos (show (Value.ref T != Value.none) = true from by simp)]
  refine wpAny_setField hT hdT hsz3 (h _ ⟨fun b o hbo => (other b fun q => by rw [q, hnT] at hbo; cases hbo).trans (hkb b o hbo), hen,
    hl.of_keeps fun b o hb hnf => ⟨o, (other b (offT b o hb hnf)).trans hb, rfl⟩, oe, vs, T, _, _, (other e (Ne.symm hTe)).trans he, hp, hd, h1, hnT, hTe, Heap.get?_update_self _ hT (Obj.isFreed_of_fields (Obj.data_mapFields hdT _)), Obj.data_mapFields hdT _, by simp [hsz3]⟩ fun b o hb hnf => (other b (offT b o hb hnf)).trans hb)
theorem upTo_of {h h' : Heap} (k : ∀ b o, h.get? b = some o → (∀ vs, o.data ≠ .fields vs) → h'.get? b = some o) : h.UpToSlots h' := fun b o hb hn => ⟨o.slots, k b o hb hn⟩
theorem FlyP.tail {fl : Value} {h : Heap} (x : FlyP P base (env :: outer) e fl h) : FlyP P base outer e fl h := by
  obtain ⟨k1, k2, ⟨_, _, k3⟩, k4⟩ := x
  exact ⟨k1, k2, k3, k4⟩
theorem leaveFirstP {oe : Obj} {vs : Array Value} (hP : KeepP P) (hfr : A.frames = some (env :: outer)) (hl : s.heap.FunFrames base (env :: outer)) (hf : env.frame = some L)
    (he : s.heap.get? e = some oe) (hp : P oe) (hkb : base.StaysIn s.heap) (hen : base.get? e = none) (hd : oe.data = .fields vs) (h1 : vs[1]? = some .none)
    (h : ∀ h', FlyP P base outer e .none h' → s.heap.UpToSlots h' → Q () { s with heap := h' }) : wpAny M A (leaving env (.ref e)) Q E s := by
  unfold leaving
  refine wpAny_bind (noteFirstP hP hfr hl hf he hp hkb hen hd h1 fun h₁ x₁ u₁ => ?_)
  exact landP x₁ fun h₂ x₂ u₂ => h h₂ x₂.tail (u₁.trans (upTo_of u₂))
theorem leaveOnP (hP : KeepP P) (hfr : A.frames = some (env :: outer)) (hf : env.frame = some L) (x : FlyP P base (env :: outer) e .none s.heap)
    (h : ∀ h', FlyP P base outer e .none h' → s.heap.UpToSlots h' → Q () { s with heap := h' }) : wpAny M A (leaving env (.ref e)) Q E s := by
  unfold leaving
  refine wpAny_bind (noteOnP hP hfr hf x fun h₁ x₁ u₁ => ?_)
  exact landP x₁ fun h₂ x₂ u₂ => h h₂ x₂.tail (u₁.trans (upTo_of u₂))
theorem leaveHeldP (hf : env.frame = some L) (x : FlyP P base (env :: outer) e (rawInt L) s.heap)
    (h : ∀ h', FlyP P base outer e .none h' → s.heap.UpToSlots h' → Q () { s with heap := h' }) : wpAny M A (leaving env (.ref e)) Q E s := by
  unfold leaving
  refine wpAny_bind (noteAgainP hf x ?_)
  exact landP x fun h₂ x₂ u₂ => h h₂ x₂.tail (upTo_of u₂)
end

end

section
open PySem PySem.W PyProof.Rows PySem.Calls PySem.Spec

section
variable {M : Model} {A : Around} {E : Value → Shared → Prop} {s : Shared} {env : Env} {P : Obj → Prop} {base : Heap} {outer : List Env} {L e : Addr}
variable {nm q : Str} {C N : Addr} {bs : List Value} {hdct : Bool} {sn : List Str} {sub : List Value} {ab : Bool} {col : Option Bool} {dd : Option Addr} {k0 k1 k2 k3 k5 : Option Value} {newId : String}
/-- An exception that stands ready and was never raised. -/
def Ready (C : Addr) (h : Heap) (e : Addr) : Prop := ∃ oe vs, h.get? e = some oe ∧ oe.cls = .ref C ∧ oe.data = .fields vs ∧ vs[1]? = some .none
theorem raise_inst {x : Sem Value} {Q : Flow → Shared → Prop} (hh : A.handled = none)
    (h : wpAny M A x (fun v s₁ => ∃ e, v = .ref e ∧ s₁.heap.get? C = some (excClassObj nm q C N bs mroE hdct sn sub ab col dd k0 k1 k2 k3 k5 newId) ∧ Ready C s₁.heap e ∧ E (.ref e) s₁) E s) :
    wpAny M A (raiseStmt env (some x) none) Q E s := by
  have hcB : (Value.ref C :: mroE).contains (.type "BaseException") = true := by simp
  unfold raiseStmt
  refine wpAny_bind (wpAny_mono h (fun v s₁ h₁ => ?_) fun _ _ x => x)
  obtain ⟨e, rfl, hC, ⟨oe, vs, he, hcl, hd, hv1⟩, hE⟩ := h₁
  obtain ⟨hp, g, d, tk, os⟩ := s₁
  obtain ⟨oc, od, oda, osl⟩ := oe
  dsimp only at hcl hd
  subst hcl hd
  repeat (first | with_reducible refine wpAny_loadPart_at he ?_ | with_reducible refine wpAny_loadPart_at hC ?_ | (with_reducible refine wpAny_isSubtype_exc hC ?_; rw [hcB]) | wp_step)
  rw [hv1]
  refine wpAny_pure ?_
  rw [if_neg (by decide)]
  exact wpAny_pure (wpAny_raiseNew_none hh hE)
theorem Raise_inst {ex : Expr} {pos : Pos} {Q : Flow → Shared → Prop} (hh : A.handled = none)
    (h : wpAny M A (eval ex env) (fun v s₁ => ∃ e, v = .ref e ∧ s₁.heap.get? C = some (excClassObj nm q C N bs mroE hdct sn sub ab col dd k0 k1 k2 k3 k5 newId) ∧ Ready C s₁.heap e ∧ E (.ref e) s₁) E s) :
    wpAny M A (exec (.Raise (some ex) none pos) env) Q E s := by
  rw [arm_exec_Raise]
  refine wpAny_bind (wpAny_standAt ?_)
  refine raise_inst hh (nm := nm) (q := q) (N := N) (bs := bs) (hdct := hdct) (sn := sn) (sub := sub) (ab := ab) (col := col) (dd := dd) (k0 := k0) (k1 := k1) (k2 := k2) (k3 := k3) (k5 := k5) (newId := newId) (C := C) ?_
  exact wpAny_bind (wpAny_mono h (fun v s₁ h₁ => wpAny_bind (wpAny_standAt (wpAny_pure h₁))) fun _ _ y => y)
theorem flyP_set {l : List Env} {fl : Value} {fr : Option Addr} {Q : Unit → Shared → Prop} (x : FlyP P base l e fl s.heap)
    (h : ∀ h', FlyP P base l e (fr.elim .none fun f => rawInt f) h' → (∀ b o, s.heap.get? b = some o → (∀ vs, o.data ≠ .fields vs) → h'.get? b = some o) → Q () { s with heap := h' }) : wpAny M A (setFlight (.ref e) fr) Q E s := by
  obtain ⟨hkb, hen, hl, oe, vs, T, oT, ts, he, hp, hd, h1, hnT, hTe, hT, hdT, h3⟩ := x
  have hsz3 : 3 < ts.size := (Array.getElem?_eq_some_iff.mp h3).1
  have other : ∀ b, b ≠ T → (s.heap.update T (Obj.mapFields (·.setIfInBounds 3 (fr.elim Value.none fun f => rawInt f)))).get? b = s.heap.get? b :=
    fun b hb => Heap.get?_update_other _ _ (Ne.symm hb)
  have offT : ∀ b o, s.heap.get? b = some o → (∀ vs, o.data ≠ .fields vs) → b ≠ T := fun b o hb hnf q => by rw [q, hT] at hb; cases hb; exact hnf ts hdT
  unfold setFlight
  refine wpAny_bind (wpAny_field he hd h1 ?_)
  rw [if_pos (show (Value.ref T != Value.none) = true from by simp)]
  refine wpAny_setField hT hdT hsz3 (h _ ⟨fun b o hbo => (other b fun q => by rw [q, hnT] at hbo; cases hbo).trans (hkb b o hbo), hen,
    hl.of_keeps fun b o hb hnf => ⟨o, (other b (offT b o hb hnf)).trans hb, rfl⟩, oe, vs, T, _, _, (other e (Ne.symm hTe)).trans he, hp, hd, h1, hnT, hTe, Heap.get?_update_self _ hT (Obj.isFreed_of_fields (Obj.data_mapFields hdT _)), Obj.data_mapFields hdT _, by simp [hsz3]⟩ fun b o hb hnf => (other b (offT b o hb hnf)).trans hb)
theorem passOnP {α : Type} {what : String} {l : List Env} {fl : Value} {Q : α → Shared → Prop} (hf : env.frame = some L) (x : FlyP P base l e fl s.heap)
    (h : ∀ h', FlyP P base l e (rawInt L) h' → (∀ b o, s.heap.get? b = some o → (∀ vs, o.data ≠ .fields vs) → h'.get? b = some o) → E (.ref e) { s with heap := h' }) : wpAny M A (PySem.passOn what (.ref e) env : Sem α) Q E s := by
  obtain ⟨hkb, hen, hl, oe, vs, T, oT, ts, he, hp, hd, h1, r⟩ := id x
  unfold PySem.passOn
  refine wpAny_bind (wpAny_field he hd h1 ?_)
  rw [if_neg (show ¬ ((Value.ref T == Value.none) = true) from by simp)]
  refine wpAny_bind ?_
  rw [hf]
  exact flyP_set x fun h' x' u => wpAny_throw (h h' x' u)
theorem Raise_bare {pos : Pos} {l : List Env} {fl : Value} {Q : Flow → Shared → Prop} (hh : A.handled = some (.ref e)) (hf : env.frame = some L) (x : FlyP P base l e fl s.heap)
    (h : ∀ h', FlyP P base l e (rawInt L) h' → (∀ b o, s.heap.get? b = some o → (∀ vs, o.data ≠ .fields vs) → h'.get? b = some o) → E (.ref e) { s with heap := h' }) : wpAny M A (exec (.Raise none none pos) env) Q E s := by
  obtain ⟨hkb, hen, hl, oe, vs, T, oT, ts, he, hp, hd, h1, r⟩ := id x
  rw [arm_exec_Raise]
  refine wpAny_bind (wpAny_standAt ?_)
  show wpAny M A (raiseStmt env none none) Q E s
  unfold raiseStmt
  refine wpAny_bind (wpAny_handled ?_)
  rw [hh]
  refine wpAny_bind (wpAny_rule (wpAny_bind (wpAny_field he hd h1 ?_)))
  rw [if_neg (show ¬ ((Value.ref T == Value.none) = true) from by simp)]
  refine wpAny_bind ?_
  rw [hf]
  exact flyP_set x fun h' x' u => wpAny_throw (h h' x' u)
end

end

section
open PySem PySem.W PyProof.Rows PySem.Calls PySem.Spec

section
variable {prog : Program} {w : World} {A : Around} {E : Value → Shared → Prop} {s : Shared} {K : Frag} {x C : Addr} {ox : Obj} {od : Option Obj} {name : Str} {expr : Bool} {Q : Value → Shared → Prop}
theorem bga_kind : builtinKind "BaseException.__getattribute__" = some .slot := by decide +kernel
theorem bga_split : splitId "BaseException.__getattribute__" = some ("BaseException", "__getattribute__") := by decide +kernel
theorem bga_plain : plainId "BaseException.__getattribute__" = true := by decide +kernel
theorem getE_value {v : Value} (X : K.In s.heap) (I : InstAt s.heap x ox C od) (hga : findIn K (.ref C) "__getattribute__" = some (some (.builtin "BaseException.__getattribute__"))) (hgn : findIn K (.ref C) "__getattr__" = some none)
    (hsub : subIn K (.ref C) (.type "BaseException") = some true) (hf : findObj K C od name = some (.value v)) (hh : handedIn v = true) (h : Q v { s with toks := s.toks + 1 }) : wpAny (model prog w) A (getAttr (.ref x) name expr) Q E s := by
  obtain ⟨hp, g, d, t, os⟩ := s
  have L0 := I.type (M := model prog w)
  have L1 := looks_findIn (M := model prog w) X hga
  have L2 := looks_findIn (M := model prog w) X hgn
  have L3 : Looks (model prog w) hp (isInstance (.ref x) (.type "BaseException")) true := L0.andThen (looks_subIn X hsub)
  have L4 := looks_find (M := model prog w) X I hf
  unfold getAttr getAttrBy
  refine wpAny_bind (wpAny_mkText (wpAny_holding (wpAny_bind (L0.at (wpAny_bind (L1.at ?_))))))
  show wpAny _ _ (getAttrByItsOwn _ _ _ _ _ _) _ _ _
  unfold getAttrByItsOwn hookBefore
  refine wpAny_bind (L2.at ?_)
  refine wpAny_bind (wpAny_attempt ?_)
  refine wpAny_holding ?_
  have e0 : callGetattribute (.ref x) (.str name t) (.builtin "BaseException.__getattribute__") expr = boundAndCalled (.builtin "BaseException.__getattribute__") (.ref x) (.str name t) := by
    unfold callGetattribute
    rw [if_neg (by cases expr <;> simp [onTheHeap])]
  show wpAny _ _ (callGetattribute (.ref x) (.str name t) (.builtin "BaseException.__getattribute__") expr) _ _ _
  rw [e0]
  unfold boundAndCalled
  rw [PySem.F.attr_Exception.ga.bind]
  refine wpAny_bind (wpAny_pure ?_)
  refine wpAny_call (codeAny_call_builtin PySem.F.attr_Exception.ga.plain PySem.F.entry_bexc_ga (@check_slot (model prog w) _ _ _ "BaseException.__getattribute__" "BaseException" "__getattribute__" (.ref x) [.str name t] [] _ bga_kind bga_split L3 (PySem.F.args_bexc_ga (.ref x) (.str name t)) ?_))
  refine wpAny_bind (wpAny_pure ?_)
  refine wpAny_bind (wpAny_pure ?_)
  refine wpAny_bind (L0.at (wpAny_bind (L4.at ?_)))
  refine wpAny_pure ?_
  show wpAny _ _ (handedOut v) _ _ _
  rw [handedOut_of hh]
  exact wpAny_pure h
end

end

section
open PySem PySem.W PyProof.Rows PySem.Calls PySem.Spec Builtin Builtin.ObjectAttr

/-- A dict object that holds the names of m. -/
def DictObj (o : Obj) (m : Str → Option Value) : Prop := ∃ es ep, o.data = .dict es ep ∧ StrKeys es ∧ UniqKeys es ∧ ∀ name, nsFind es name = m name
theorem DictObj.ns1 {h : Heap} {a : Addr} {o : Obj} {m : Str → Option Value} (x : DictObj o m) (e : h.get? a = some o) : h.Ns1 a m := let ⟨es, ep, hd, r⟩ := x; ⟨o, es, ep, e, hd, r⟩
theorem dictObj_of {h : Heap} {a : Addr} {m : Str → Option Value} (x : h.Ns1 a m) : ∃ o, h.get? a = some o ∧ DictObj o m := let ⟨o, es, ep, e, hd, r⟩ := x; ⟨o, e, es, ep, hd, r⟩
theorem lookIn_dictObj {o : Obj} {m : Str → Option Value} {name : Str} {v : Value} (x : DictObj o m) (hv : m name = some v) : lookIn name o = some (some v) := by
  obtain ⟨es, ep, hd, _, _, hf⟩ := x
  have h1 := hf name
  rw [hv] at h1
  unfold lookIn
  rw [hd]
  dsimp only
  unfold nsFind findBy at h1
  rw [← Array.find?_toList] at h1
  cases q : es.toList.find? (·.key.isStr name) with
  | none => rw [q] at h1; cases h1
  | some en => rw [q] at h1; simp only [Option.map_some] at h1; show some (some en.val) = some (some v); rw [h1]
section
variable {prog : Program} {w : World} {A : Around} {E : Value → Shared → Prop} {h : Heap} {g : Array GenState} {d : Drawn} {t : Nat} {os : OsState}
variable {nm q : Str} {C N x : Addr} {bs : List Value} {sn : List Str} {sub : List Value} {ab : Bool} {col : Option Bool} {dd : Option Addr} {k0 k1 k2 k3 k5 : Option Value} {newId : String}
  {mN : Str → Option Value} {name : Str} {v : Value}
/-- The first store: the dict is made. -/
theorem store_first {o : Obj} {Q : Unit → Shared → Prop}
    (hC : h.get? C = some (excClassObj nm q C N bs mroE true sn sub ab col dd k0 k1 k2 k3 k5 newId)) (hn : h.Ns N mN) (hns : mN "__setattr__" = none) (hna : mN name = none)
    (hB : typeLookup (.type "Exception") name = pure none) (hx : h.get? x = some o) (hc : o.cls = .ref C) (hnc : ∀ c, o.data ≠ .cls c) (hdn : o.dict = none)
    (hq : ∀ h' tk' od, h'.get? x = some { o with dict := some h.objs.size } → h'.get? h.objs.size = some od → DictObj od (fun y => if y = name then some v else none) → (∀ b ob, b ≠ x → h.get? b = some ob → h'.get? b = some ob) → Q () ⟨h', g, d, tk', os⟩) :
    wpAny (model prog w) A (setAttr (.ref x) name v) Q E ⟨h, g, d, t, os⟩ := by
  have SF := PySem.F.store_Exception
  have f3 := SF.slot.bind (.ref x)
  have hpass := SF.passes (.ref x)
  unfold setAttr callSpecial? specialOf
  repeat (any_goals (first | assumption | (with_reducible refine wpAny_loadPart_at hx ?_; rw [hc]) | (with_reducible refine wpAny_typeLookup_exc hC hn SF.mro SF.slot.lookup ?_; rw [hns]) | wp_step))
  refine codeAny_call_builtin SF.slot.plain SF.entry (wpAny_check_sa SF hC hx hc ?_)
  unfold Builtin.«object.__setattr__»
  repeat (first | rw [refuse_eq] | (rw [refuseLoop_ref, hpass]) | (with_reducible refine wpAny_loadPart_at hx ?_; rw [hc]) | with_reducible refine wpAny_mroOf_exc hC ?_ | (with_reducible refine wpAny_typeLookup_exc hC hn SF.mro hB ?_; rw [hna]) | wp_step)
  rw [hdn, if_neg (by simp [typeHasDict])]
  split
  · rename_i hcd
    cases hcd
  split
  · rename_i c hcd
    exact absurd hcd (hnc c)
  · have hx₁ : (h.push { cls := .type "dict", data := .dict #[] }).get? x = some o := Heap.get?_push_of_some _ hx
    have hxs : x ≠ h.objs.size := Nat.ne_of_lt (Heap.lt_size hx)
    refine wpAny_bind (wpAny_alloc' ?_)
    refine wpAny_bind (wpAny_update' hx₁ ?_)
    refine wpAny_pure ?_
    have hgd : ((h.push { cls := .type "dict", data := .dict #[] }).update x fun o => { cls := o.cls, dict := some h.objs.size, data := o.data, slots := o.slots }).get? h.objs.size
        = some { cls := .type "dict", data := .dict #[] } :=
      (Heap.get?_update_ne _ _ _ _ hxs.symm).trans (Heap.get?_push_at rfl rfl)
    have hnd : ((h.push { cls := .type "dict", data := .dict #[] }).update x fun o => { cls := o.cls, dict := some h.objs.size, data := o.data, slots := o.slots }).Ns h.objs.size (fun _ => none) :=
      ⟨_, #[], _, hgd, rfl, fun e he => absurd he (by simp), fun _ => rfl⟩
    show wpAny _ _ (storeInDict h.objs.size (.str name _) name v) _ _ _
    unfold storeInDict newKeyGuard
    refine wpAny_bind (wpAny_pure (wpAny_bind (wpAny_nsSet1 (Heap.Ns1.of_empty hnd) fun h' hn' hs => ?_)))
    obtain ⟨oD, esD, epD, hoD, hdD, hcD⟩ := hn'.count (Within.cons name v Within.nil)
    refine wpAny_bind (wpAny_lookBehind hoD (by rw [hdD]; exact pastItsLine_dict (Nat.le_trans hcD (by rw [List.length_cons, List.length_nil, sizeLine_eq]; omega))) ?_)
    obtain ⟨od, hod, hDO⟩ := dictObj_of hn'
    have hx' : h'.get? x = some { o with dict := some h.objs.size } := by
      refine (hs.2 x hxs).trans (Heap.get?_update_self _ hx₁ ?_)
      have hfr := (Heap.get?_some_iff.mp hx).2
      obtain ⟨oc, od, odt, osl⟩ := o
      cases odt <;> first | rfl | exact hfr
    have fin := fun tk' => hq h' tk' od hx' hod hDO fun b ob hbx hb => (hs.2 b (Nat.ne_of_lt (Heap.lt_size hb))).trans ((Heap.get?_update_ne _ _ _ _ hbx).trans (Heap.get?_push_of_some _ hb))
    repeat (any_goals (first | assumption | wp_step))
    exact fin _
/-- A later store. -/
theorem store_more {o od : Obj} {dx : Addr} {mA : Str → Option Value} {ns : List Str} {Q : Unit → Shared → Prop}
    (hC : h.get? C = some (excClassObj nm q C N bs mroE true sn sub ab col dd k0 k1 k2 k3 k5 newId)) (hn : h.Ns N mN) (hns : mN "__setattr__" = none) (hna : mN name = none)
    (hB : typeLookup (.type "Exception") name = pure none) (hxC : x ≠ C) (hx : h.get? x = some o) (hc : o.cls = .ref C) (hnc : ∀ c, o.data ≠ .cls c) (hdx : o.dict = some dx) (hne : dx ≠ x) (hod : h.get? dx = some od) (hD : DictObj od mA) (hw : Within mA ns) (hsz : ns.length ≤ 1000)
    (hq : ∀ h' tk' od', h'.get? dx = some od' → DictObj od' (fun y => if y = name then some v else mA y) → (∀ b ob, b ≠ dx → h.get? b = some ob → h'.get? b = some ob) → Q () ⟨h', g, d, tk', os⟩) :
    wpAny (model prog w) A (setAttr (.ref x) name v) Q E ⟨h, g, d, t, os⟩ := by
  refine store_attr PySem.F.store_Exception hC hn hns hna hB hxC ⟨o, hx, hc, hnc, .inr ⟨dx, hdx, hne, hD.ns1 hod⟩⟩ (fun h' tk' I' hk hsame => ?_) hw (by rw [sizeLine_eq]; omega)
  obtain ⟨o₁, hx₁, e1, e2, e3, e4⟩ := hsame o hx
  have ho : o₁ = o := by
    obtain ⟨a1, a2, a3, a4⟩ := o₁
    obtain ⟨b1, b2, b3, b4⟩ := o
    simp only at e1 e2 e3 hdx
    have := e4 dx hdx
    simp only at this
    subst e1 e2 e3
    rw [hdx, this]
  subst ho
  obtain ⟨o₂, hx₂, _, _, hd₂⟩ := I'
  rw [hx₁] at hx₂
  cases hx₂
  rcases hd₂ with ⟨hdn, _⟩ | ⟨d₂, hd₂, _, hN₂⟩
  · rw [hdx] at hdn; cases hdn
  · rw [hdx] at hd₂
    cases hd₂
    obtain ⟨od', hod', hDO⟩ := dictObj_of hN₂
    refine hq h' tk' od' hod' hDO fun b ob hb hg => ?_
    by_cases hbx : b = x
    · subst hbx
      rw [hx] at hg
      cases hg
      exact hx₁
    · exact hk b ob hbx (fun o₀ dx' e0 e1 => by rw [hx] at e0; cases e0; rw [hdx] at e1; cases e1; exact hb) hg
end

end

section
open PySem PySem.W PyProof.Rows PySem.Calls PySem.Spec

/-- An own exception class right under Exception with an own __init__, as the text's top has left it. -/
structure NagK (K : Frag) (C N fI : Addr) : Prop where
  obj : ∃ nm q bs sn sub ab col dd k0 k1 k2 k3 k5, K.lookup C = some (excClassObj nm q C N bs mroE true sn sub ab col dd k0 k1 k2 k3 k5 "Exception.__new__")
  nsok : nsOkIn K N = true
  noSet : nsIn K N "__setattr__" = some none
  init : findIn K (.ref C) "__init__" = some (some (.ref fI))
  fn : typeIn K (.ref fI) = some (.type "function")
section
variable {prog : Program} {w : World} {A : Around} {E : Value → Shared → Prop} {s : Shared} {K : Frag} {C Nn fI L x : Addr} {h₀ : Heap} {m : Str → Option Value} {news : List (Addr × Obj)}
theorem call_excH {pos : List Value} {Q : Value → Shared → Prop} (F : Fr h₀ L s.heap m) (X₀ : K.In h₀) (NK : NagK K C Nn fI) (hz : pos.length ≤ 1000)
    (h : ∀ x t h', s.heap.StaysIn h' → s.heap.objs.size ≤ t → t < x → Fr h₀ L h' m → News h₀ L h' [(x, excNew C t), (t, tupO pos.toArray)] →
      codeAny (model prog w) (A.under (.builtin "type.__call__" ⟨.ref C :: pos, []⟩)) (.call (.ref fI) ⟨.ref x :: pos, []⟩) (InitBack x fun r s' => match r with | .ok (.ret v) => Q v s' | .ok _ => False | .error e => E e s') { s with heap := h' }) :
    wpAny (model prog w) A (call (.ref C) pos []) Q E s := by
  have X := X₀.keeps F.keep
  obtain ⟨⟨nm, q, bs, sn, sub, ab, col, dd, k0, k1, k2, k3, k5, hC⟩, _, _, hi, hf⟩ := NK
  refine wpAny_call ?_
  obtain ⟨hh, g, d, t, os⟩ := s
  refine exc_core (X _ _ hC) (looks_findIn X hi) (fun self => bind_fn X self hf) (by rw [PySem.sizeLine_eq]; omega)
    (h _ hh.objs.size _ (fun b o e => Heap.get?_push_of_some _ (Heap.get?_push_of_some _ e)) (Nat.le_refl _) (Nat.lt_succ_self _) ((F.push _).push _) ?_)
  have := ((News.nil (h₀ := h₀) (h := hh) (L := L)).push F (tupO pos.toArray)).push (F.push _) (excNew C hh.objs.size)
  rwa [Heap.size_push] at this
theorem setE_first {name : Str} {v : Value} {o : Obj} {vs : Array Value} {news' : Addr → List (Addr × Obj)} {Q : Unit → Shared → Prop} (F : Fr h₀ L s.heap m) (X₀ : K.In h₀) (N : News h₀ L s.heap news) (NK : NagK K C Nn fI)
    (hn : nsIn K Nn name = some none) (hB : typeLookup (.type "Exception") name = pure none) (hc : o.cls = .ref C) (hd : o.data = .fields vs) (hdn : o.dict = none) (U : ∀ dx, Upd x o { o with dict := some dx } news (news' dx))
    (h : ∀ dx od h' tk, Fr h₀ L h' m → News h₀ L h' ((dx, od) :: news' dx) → (∀ p ∈ news, p.1 < dx) → DictObj od (fun y => if y = name then some v else none) → Q () { s with heap := h', toks := tk }) :
    wpAny (model prog w) A (setAttr (.ref x) name v) Q E s := by
  have X := X₀.keeps F.keep
  obtain ⟨⟨nm, q, bs, sn, sub, ab, col, dd, k0, k1, k2, k3, k5, hC⟩, hok, hns, _, _⟩ := NK
  obtain ⟨hh, g, d, t, os⟩ := s
  have hmem : (x, o) ∈ news := by
    obtain ⟨pre, post, rfl, _, _, _⟩ := (U 0).split
    exact List.mem_append.mpr (.inr (.head _))
  have hx := N.get hmem
  refine store_first (X _ _ hC) (.of_isNs (isNs_of_in X hok)) (nsMap_none_of_in X hok hns) (nsMap_none_of_in X hok hn) hB hx hc (fun c q => by rw [hd] at q; cases q) hdn fun h' tk' od hx' hod hDO hk => ?_
  have hsL : L ≠ x := fun q => (N _ hmem).2.1 q.symm
  have F' : Fr h₀ L h' m := ⟨F.ns.at' fun o e => hk _ o hsL e, fun b o e => hk b o (fun q => by rw [q, (N _ hmem).2.2] at e; cases e) (F.keep b o e), F.above⟩
  refine h _ od h' tk' F' ?_ (fun p hp => Heap.lt_size (N p hp).1) hDO
  obtain ⟨pre, post, e1, e2, a, b⟩ := (U hh.objs.size).split
  intro p hp
  rcases List.mem_cons.mp hp with rfl | hp
  · refine ⟨hod, Nat.ne_of_gt F.ns.lt, ?_⟩
    exact next_is_new F
  · rw [e2] at hp
    rcases List.mem_append.mp hp with hp | hp
    · have z := N p (by rw [e1]; exact List.mem_append.mpr (.inl hp))
      exact ⟨hk _ _ (a p hp) z.1, z.2⟩
    · rcases List.mem_cons.mp hp with rfl | hp
      · exact ⟨hx', (N _ hmem).2⟩
      · have z := N p (by rw [e1]; exact List.mem_append.mpr (.inr (.tail _ hp)))
        exact ⟨hk _ _ (b p hp) z.1, z.2⟩
theorem setE_more {name : Str} {v : Value} {o od : Obj} {dx : Addr} {vs : Array Value} {mA : Str → Option Value} {ns : List Str} {news' : Obj → List (Addr × Obj)} {Q : Unit → Shared → Prop} (F : Fr h₀ L s.heap m) (X₀ : K.In h₀) (N : News h₀ L s.heap news) (NK : NagK K C Nn fI)
    (hn : nsIn K Nn name = some none) (hB : typeLookup (.type "Exception") name = pure none) (hm : (x, o) ∈ news) (hc : o.cls = .ref C) (hd : o.data = .fields vs) (hdx : o.dict = some dx) (hne : dx ≠ x) (hD : DictObj od mA) (hw : Within mA ns) (hsz : ns.length ≤ 1000) (U : ∀ od', Upd dx od od' news (news' od'))
    (h : ∀ od' h' tk, Fr h₀ L h' m → News h₀ L h' (news' od') → DictObj od' (fun y => if y = name then some v else mA y) → Q () { s with heap := h', toks := tk }) :
    wpAny (model prog w) A (setAttr (.ref x) name v) Q E s := by
  have X := X₀.keeps F.keep
  obtain ⟨⟨nm, q, bs, sn, sub, ab, col, dd, k0, k1, k2, k3, k5, hC⟩, hok, hns, _, _⟩ := NK
  obtain ⟨hh, g, d, t, os⟩ := s
  have hmem : (dx, od) ∈ news := by
    obtain ⟨pre, post, rfl, _, _, _⟩ := (U od).split
    exact List.mem_append.mpr (.inr (.head _))
  have hx := N.get hm
  have hxC : x ≠ C := fun q => by
    have := (N _ hm).2.2
    rw [q, X₀ _ _ hC] at this
    cases this
  refine store_more (X _ _ hC) (.of_isNs (isNs_of_in X hok)) (nsMap_none_of_in X hok hns) (nsMap_none_of_in X hok hn) hB hxC hx hc (fun c q => by rw [hd] at q; cases q) hdx hne (N.get hmem) hD hw hsz fun h' tk' od' hod' hDO hk => ?_
  have hsL : L ≠ dx := fun q => (N _ hmem).2.1 q.symm
  have F' : Fr h₀ L h' m := ⟨F.ns.at' fun o e => hk _ o hsL e, fun b o e => hk b o (fun q => by rw [q, (N _ hmem).2.2] at e; cases e) (F.keep b o e), F.above⟩
  refine h od' h' tk' F' ?_ hDO
  obtain ⟨pre, post, e1, e2, a, b⟩ := (U od').split
  intro p hp
  rw [e2] at hp
  rcases List.mem_append.mp hp with hp | hp
  · have z := N p (by rw [e1]; exact List.mem_append.mpr (.inl hp))
    exact ⟨hk _ _ (a p hp) z.1, z.2⟩
  · rcases List.mem_cons.mp hp with rfl | hp
    · exact ⟨hod', (N _ hmem).2⟩
    · have z := N p (by rw [e1]; exact List.mem_append.mpr (.inr (.tail _ hp)))
      exact ⟨hk _ _ (b p hp) z.1, z.2⟩
/-- An attribute of an exception of the ledger. -/
theorem getE_led {name : Str} {v : Value} {o od : Obj} {dx : Addr} {vs : Array Value} {mA : Str → Option Value} {expr : Bool} {Q : Value → Shared → Prop} (F : Fr h₀ L s.heap m) (X₀ : K.In h₀) (N : News h₀ L s.heap news)
    (hga : findIn K (.ref C) "__getattribute__" = some (some (.builtin "BaseException.__getattribute__"))) (hgn : findIn K (.ref C) "__getattr__" = some none) (hsub : subIn K (.ref C) (.type "BaseException") = some true) (hna : findIn K (.ref C) name = some none) (hhd : hasDictIn K C = true)
    (hm : (x, o) ∈ news) (hmd : (dx, od) ∈ news) (hc : o.cls = .ref C) (hd : o.data = .fields vs) (hdx : o.dict = some dx) (hD : DictObj od mA) (hv : mA name = some v) (hh : handedIn v = true) (h : Q v { s with toks := s.toks + 1 }) :
    wpAny (model prog w) A (getAttr (.ref x) name expr) Q E s := by
  have X := X₀.keeps F.keep
  refine getE_value (ox := o) (od := some od) X ⟨N.get hm, hc, by unfold notCls; rw [hd], by rw [hdx]; exact N.get hmd⟩ hga hgn hsub (findObj_own hhd hna rfl (lookIn_dictObj hD hv)) hh h
end

end

section
open PySem PySem.W PyProof.Rows PySem.Calls PySem.Spec

/-! An own exception goes up through frames that catch it and raise it on. -/
abbrev frs (l : List Env) : List Addr := l.filterMap (·.frame)
def IsNag (C dx : Addr) (o : Obj) : Prop := o.cls = .ref C ∧ o.dict = some dx ∧ ∃ vs, o.data = .fields vs ∧ vs[2]? = some .none
theorem isNag_keep {C dx : Addr} : KeepP (IsNag C dx) := by
  rintro ⟨oc, od, dt, sl⟩ v ⟨h1, h2, vs, h3, h4⟩
  simp only at h1 h2 h3
  subst h1 h2 h3
  exact ⟨rfl, rfl, _, rfl, by rw [Array.getElem?_setIfInBounds_ne (by decide)]; exact h4⟩
structure Aloft (h : Heap) (xs : List Addr) (l : List Env) (C x dx : Addr) (fl : Value) (own : List (Addr × Obj)) (h' : Heap) : Prop where
  ex : ∃ B, (∀ b o, h.get? b = some o → b ∉ xs → b ∉ frs l → B.get? b = some o) ∧ (∀ p ∈ own, B.get? p.1 = some p.2) ∧ FlyP (IsNag C dx) B l x fl h'
  slots : ∀ b o, h.get? b = some o → b ∉ xs → (∀ vs, o.data ≠ .fields vs) → ∃ sl, h'.get? b = some { o with slots := sl }
theorem frs_mem {env : Env} {outer : List Env} {L b : Addr} (hf : env.frame = some L) (hm : b ∈ frs (env :: outer)) : b = L ∨ b ∈ frs outer := by
  unfold frs at hm
  rw [List.filterMap_cons, hf] at hm
  exact List.mem_cons.mp hm
theorem frs_sub {env : Env} {outer : List Env} {b : Addr} (hm : b ∈ frs outer) : b ∈ frs (env :: outer) := by
  obtain ⟨e, he, hf⟩ := List.mem_filterMap.mp hm
  exact List.mem_filterMap.mpr ⟨e, .tail _ he, hf⟩
section
variable {M : Model} {A A₀ A₁ : Around} {E : Value → Shared → Prop} {s : Shared} {base g g₀ G G₀ : Heap} {env : Env} {outer : List Env} {L x dx T C : Addr} {m : Str → Option Value} {news own : List (Addr × Obj)} {xs : List Addr} {ox oT : Obj} {vs ts : Array Value}
theorem off_frs (K : Below A₀ base outer g) (F : Fr g L G m) (hf : env.frame = some L) {b : Addr} (hg : g.get? b = none) (hL : b ≠ L) : b ∉ frs (env :: outer) := fun hm => by
  rcases frs_mem hf hm with z | z
  · exact hL z
  · obtain ⟨_, o, ho, _⟩ := K.frames.mem z
    rw [hg] at ho; cases ho
theorem in_frs (F : Fr g L G m) (hf : env.frame = some L) {b : Addr} {o : Obj} (hg : g.get? b = some o) (hn : b ∉ frs outer) : b ∉ frs (env :: outer) := fun hm => by
  rcases frs_mem hf hm with z | z
  · rw [z, kts_self F] at hg; cases hg
  · exact hn z
theorem frs_in {l : List Env} {b : Addr} {e : Env} (he : e ∈ l) (hf : e.frame = some b) : b ∈ frs l := List.mem_filterMap.mpr ⟨e, he, hf⟩
/-- What stands in a hidden heap: all but the exception, its traceback and the frames. -/
theorem hid_frames (hke : env.scope.kind = .function) (K : Below A₀ base outer g) (F : Fr g L G m) (hf : env.frame = some L) (ys : List Addr) : G.FunFrames (hideAll G (ys ++ frs (env :: outer))) (env :: outer) :=
  funFrames_hide (pushX K F hf hke).frames fun e he b hb => List.mem_append.mpr (.inr (frs_in he hb))
theorem hid_keep (F : Fr g L G m) (hf : env.frame = some L) {ys : List Addr} (hy : ∀ y ∈ ys, g.get? y = none) {b : Addr} {o : Obj} (hg : g.get? b = some o) (hn : b ∉ frs outer) : (hideAll G (ys ++ frs (env :: outer))).get? b = some o :=
  hideAll_get _ (F.keep _ _ hg) fun hm => (List.mem_append.mp hm).elim (fun z => by rw [hy b z] at hg; cases hg) (in_frs F hf hg hn)
theorem hid_own (K : Below A₀ base outer g) (F : Fr g L G m) (hf : env.frame = some L) (N : News g L G news) {ys : List Addr} {p : Addr × Obj} (hp : p ∈ news) (hy : p.1 ∉ ys) : (hideAll G (ys ++ frs (env :: outer))).get? p.1 = some p.2 :=
  hideAll_get _ (N p hp).1 fun hm => (List.mem_append.mp hm).elim hy (off_frs K F hf (N p hp).2.2 (N p hp).2.1)
theorem hid_none {G : Heap} {ys zs : List Addr} {y : Addr} (hy : y ∈ ys) : (hideAll G (ys ++ zs)).get? y = none := hideAll_none _ (List.mem_append.mpr (.inl hy))
theorem aloft_of {fl : Value} {ys : List Addr} {h' : Heap} (K : Below A₀ base outer g) (F : Fr g L G m) (hf : env.frame = some L) (N : News g L G news) (hy : ∀ y ∈ ys, g.get? y = none) (hown : ∀ p ∈ own, p ∈ news ∧ p.1 ∉ ys)
    (stG : ∀ b o, G₀.get? b = some o → b ∉ xs → g₀.get? b = some o) (T0 : KtsTurn (frs outer) g₀ g) (fly : FlyP (IsNag C dx) (hideAll G (ys ++ frs (env :: outer))) outer x fl h')
    (up : ∀ b o, b ≠ L → G.get? b = some o → (∀ vs, o.data ≠ .fields vs) → ∃ sl, h'.get? b = some { o with slots := sl }) : Aloft G₀ xs outer C x dx fl own h' := by
  refine ⟨⟨_, fun b o e hb hn => hid_keep F hf hy (T0.other b o (stG b o e hb) hn) hn, fun p hp => hid_own K F hf N (hown p hp).1 (hown p hp).2, fly⟩, fun b o e hb hnf => ?_⟩
  obtain ⟨s1, h1⟩ := T0.up (stG b o e hb)
  obtain ⟨s2, h2⟩ := up b _ (fun q => by rw [q, kts_self F] at h1; cases h1) (F.keep _ _ h1) hnf
  exact ⟨s2, h2⟩
theorem leaveP_first {Q : Unit → Shared → Prop} (hA : A.frames = some (env :: outer)) (hf : env.frame = some L) (hke : env.scope.kind = .function) (K : Below A₀ base outer g) (F : Fr g L s.heap m) (N : News g L s.heap news)
    (stG : ∀ b o, G₀.get? b = some o → b ∉ xs → g.get? b = some o) (hx : (x, ox) ∈ news) (hp : IsNag C dx ox) (hd : ox.data = .fields vs) (h1 : vs[1]? = some .none) (hown : ∀ p ∈ own, p ∈ news ∧ p.1 ≠ x)
    (h : ∀ h', Aloft G₀ xs outer C x dx .none own h' → Q () { s with heap := h' }) : wpAny M A (leaving env (.ref x)) Q E s := by
  refine leaveFirstP (base := hideAll s.heap ([x] ++ frs (env :: outer))) isNag_keep hA (hid_frames hke K F hf _) hf (N.get hx) hp (fun b o e => of_hideAll _ e) (hid_none (.head _)) hd h1 fun h' fly up => h h' ?_
  exact aloft_of K F hf N (fun y hy => by rw [List.mem_singleton.mp hy]; exact (N _ hx).2.2) (fun p hp => ⟨(hown p hp).1, fun q => (hown p hp).2 (List.mem_singleton.mp q)⟩) stG .refl fly fun b o _ e hn => up b o e hn
end
section
variable {M : Model} {A A₁ : Around} {E : Value → Shared → Prop} {s : Shared} {B : Heap} {env : Env} {outer : List Env} {L x : Addr} {P : Obj → Prop}
theorem funFrames_same {h h' : Heap} {m' : Str → Option Value} (hn : h'.Ns L m') (hs : Heap.SameBut L h h') : ∀ {l : List Env}, h.FunFrames B l → h'.FunFrames B l
  | [], _ => trivial
  | env :: r, ⟨hk, ⟨L1, o, hf, hb, ho, hd⟩, hr⟩ => by
    refine ⟨hk, ?_, funFrames_same hn hs hr⟩
    by_cases q : L1 = L
    · subst q
      obtain ⟨oL, es, ep, hoL, hLd, _⟩ := hn
      exact ⟨L1, oL, hf, hb, hoL, fun vs e => by rw [hLd] at e; cases e⟩
    · exact ⟨L1, o, hf, hb, (hs.2 L1 q).trans ho, hd⟩
theorem fly_same {l : List Env} {fl : Value} {h h' : Heap} {m' : Str → Option Value} (fly : FlyP P B l x fl h) (hL : L ∈ frs l) (hn : h'.Ns L m') (hs : Heap.SameBut L h h') : FlyP P B l x fl h' := by
  obtain ⟨k1, k2, k3, oe, vs, T, oT, ts, he, hp, hd, h1, hnT, hTe, hT, hdT, h3⟩ := fly
  obtain ⟨hBL, oL, hoL, hfL⟩ := k3.mem hL
  have off : ∀ b o, h.get? b = some o → (∃ vs, o.data = .fields vs) → b ≠ L := fun b o e ⟨vs, hv⟩ q => by
    rw [q, hoL] at e; cases e; exact hfL _ hv
  exact ⟨fun b o e => (hs.2 b fun q => by rw [q, hBL] at e; cases e).trans (k1 b o e), k2, funFrames_same hn hs k3, oe, vs, T, oT, ts, (hs.2 x (off _ _ he ⟨_, hd⟩)).trans he, hp, hd, h1, hnT, hTe, (hs.2 T (off _ _ hT ⟨_, hdT⟩)).trans hT, hdT, h3⟩
theorem suite_raised {n : Str} {pos : Pos} {m : Str → Option Value} (hf : env.frame = some L) (hlo : env.locals = L) (hk : env.kindOf n = some .local) (hsc : (env.scope.kind == .class || (env.scope.kind == .module && env.locals != env.globals)) = false)
    (fly : FlyP P B (env :: outer) x (rawInt L) s.heap) (hns : s.heap.Ns L m)
    (h : ∀ h' tk, FlyP P B (env :: outer) x (rawInt L) h' → (∀ b o, b ≠ L → s.heap.get? b = some o → (∀ vs, o.data ≠ .fields vs) → h'.get? b = some o) → E (.ref x) { s with heap := h', toks := tk }) :
    AsSuiteRaised M A env n pos (notedBy M A env (cameBackBy M A₁ env E)) (.ref x) s := by
  subst hlo
  refine noteAgainP hf fly ?_
  refine wpAny_nameGoes hk hns hsc fun h' m' hn' hs' => ?_
  have fly1 := fly_same fly (frs_in (.head _) hf) hn' hs'
  refine passOnP (s := { s with heap := h', toks := s.toks + 1 }) hf fly1 fun h2 fly2 k2 => ?_
  refine noteAgainP (s := { s with heap := h2, toks := s.toks + 1 }) hf fly2 ?_
  obtain ⟨_, _, _, oe, vs, T, _, _, he, _, hd, h1, _⟩ := id fly2
  refine wpAny_bind (wpAny_field he hd h1 ?_)
  rw [if_neg (show ¬ ((Value.ref T == Value.none) = true) from by simp), hf]
  refine flyP_set (s := { s with heap := h2, toks := s.toks + 1 }) fly2 fun h3 fly3 k3 => ?_
  exact h h3 _ fly3 fun b o hb e hn => k3 b o (k2 b o ((hs'.2 b hb).trans e) hn) hn
end
section
variable {M : Model} {A A₀ A₁ : Around} {E : Value → Shared → Prop} {s : Shared} {base g g₀ G G₀ : Heap} {env : Env} {outer : List Env} {L x dx T C : Addr} {m : Str → Option Value} {news own : List (Addr × Obj)} {xs : List Addr} {ox oT : Obj} {vs ts : Array Value}
/-- A bare raise in the suite of a handler, up to the frame's own leaving. -/
theorem raise_out {n : Str} {pos rp : Pos} {Q : Flow → Shared → Prop} (hh : A.handled = some (.ref x)) (hf : env.frame = some L) (hlo : env.locals = L) (hke : env.scope.kind = .function) (hk : env.kindOf n = some .local)
    (K : Below A₀ base outer g) (F : Fr g L s.heap m) (N : News g L s.heap news) (stG : ∀ b o, G₀.get? b = some o → b ∉ xs → g₀.get? b = some o) (T0 : KtsTurn (frs outer) g₀ g)
    (hx : (x, ox) ∈ news) (hp : IsNag C dx ox) (hd : ox.data = .fields vs) (h1 : vs[1]? = some (.ref T)) (hT : (T, oT) ∈ news) (hTx : T ≠ x) (hdT : oT.data = .fields ts) (h3 : ts[3]? = some .none) (hown : ∀ p ∈ own, p ∈ news ∧ p.1 ≠ x ∧ p.1 ≠ T)
    (h : ∀ h' tk, (∀ {Q2 : Unit → Shared → Prop} {E2 : Value → Shared → Prop}, (∀ h'', Aloft G₀ xs outer C x dx .none own h'' → Q2 () { s with heap := h'', toks := tk }) → wpAny M A₁ (leaving env (.ref x)) Q2 E2 { s with heap := h', toks := tk }) → E (.ref x) { s with heap := h', toks := tk }) :
    wpAny M A (exec (.Raise none none rp) env) Q (AsSuiteRaised M A env n pos (notedBy M A env (cameBackBy M A₁ env E))) s := by
  have fly0 : FlyP (IsNag C dx) (hideAll s.heap ([x, T] ++ frs (env :: outer))) (env :: outer) x .none s.heap :=
    ⟨fun b o e => of_hideAll _ e, hid_none (.head _), hid_frames hke K F hf _, ox, vs, T, oT, ts, N.get hx, hp, hd, h1, hid_none (.tail _ (.head _)), hTx, N.get hT, hdT, h3⟩
  have hsc : (env.scope.kind == .class || (env.scope.kind == .module && env.locals != env.globals)) = false := by rw [hke]; rfl
  refine Raise_bare hh hf fly0 fun h1' fly1 k1 => ?_
  refine suite_raised (s := { s with heap := h1' }) hf hlo hk hsc fly1 ((upTo_of k1).ns F.ns) fun h2 tk fly2 k2 => h h2 tk fun q => ?_
  refine leaveHeldP (s := { s with heap := h2, toks := tk }) hf fly2 fun h3' fly3 up3 => q h3' ?_
  refine aloft_of K F hf N (fun y hy => ?_) (fun p hp' => ⟨(hown p hp').1, fun z => ?_⟩) stG T0 fly3 fun b o hb e hn => up3 b o (k2 b o hb (k1 b o e hn) hn) hn
  · rcases List.mem_cons.mp hy with rfl | hy
    · exact (N _ hx).2.2
    · rw [List.mem_singleton.mp hy]; exact (N _ hT).2.2
  · rcases List.mem_cons.mp z with z | z
    · exact (hown p hp').2.1 z
    · exact (hown p hp').2.2 (List.mem_singleton.mp z)
theorem ground_at {h₅ B : Heap} (K : Below A₀ base outer g) (F : Fr g L G m) (hf : env.frame = some L) (hxs : ∀ y ∈ xs, g.get? y = none ∧ y ≠ L) (hBG : ∀ b o, G.get? b = some o → b ∉ xs → b ∉ frs (env :: outer) → B.get? b = some o) (hBh : B.StaysIn h₅)
    (hsm : ∀ b o, G.get? b = some o → b ∉ xs → (∀ vs, o.data ≠ .fields vs) → ∃ sl, h₅.get? b = some { o with slots := sl }) :
    KtsTurn (frs outer) g (ktsHeap h₅ (frs outer) g) ∧ Fr (ktsHeap h₅ (frs outer) g) L h₅ m ∧ Below A₀ base outer (ktsHeap h₅ (frs outer) g) := by
  have offx : ∀ b o, g.get? b = some o → b ∉ xs := fun b o e hm => by rw [(hxs b hm).1] at e; cases e
  obtain ⟨T, S⟩ := kts_turn_at (h := h₅) (fs := frs outer) (g := g)
    (fun b hb => by
      obtain ⟨_, o, ho, _⟩ := K.frames.mem hb
      exact ⟨o, ho⟩)
    (fun b o e nm => hBh b o (hBG b o (F.keep b o e) (offx b o e) (in_frs F hf e nm)))
    (fun b o e hm => by
      obtain ⟨_, o', ho', hd⟩ := K.frames.mem hm
      rw [e] at ho'
      cases ho'
      exact hsm b o (F.keep b o e) (offx b o e) hd)
  have hns : h₅.Ns L m := by
    obtain ⟨oL, es, ep, hL, hLd, hLk, hLf⟩ := F.ns
    obtain ⟨sl, e⟩ := hsm L oL hL (fun hm => (hxs L hm).2 rfl) (fun vs q => by rw [hLd] at q; cases q)
    exact ⟨_, es, ep, e, hLd, hLk, hLf⟩
  refine ⟨T, ⟨hns, S, by rw [T.size]; exact F.above⟩, ⟨K.stack, fun b o e => T.other b o (K.stays b o e) (fun hm => by
    rw [(K.frames.mem hm).1] at e
    cases e), K.frames.of_keeps fun b o e _ => ?_⟩⟩
  obtain ⟨sl, hs⟩ := T.up e
  exact ⟨_, hs, rfl⟩
end
section
variable {prog : Program} {w : World} {A A₀ : Around} {E : Value → Shared → Prop} {s : Shared} {base g G : Heap} {env : Env} {outer : List Env} {L x dx C Nn fI : Addr} {m : Str → Option Value} {news own rest : List (Addr × Obj)} {xs : List Addr} {KF : Frag}
  {p : Program} {loose : List Str} {mean : ExcName → Option Value} {mg mb : Str → Option Value}
/-- An own exception is caught under a name. -/
theorem catch_as {t : Expr} {n : Str} {b₀ : Stmt} {suite : List Stmt} {pos : Pos} {hs : List ExceptHandler} {Q : Flow → Shared → Prop} (hA : A.frames = some (env :: outer)) (hf : env.frame = some L) (hlo : env.locals = L) (hke : env.scope.kind = .function) (hk : env.kindOf n = some .local)
    (NK : NagK KF C Nn fI) (K : Below A₀ base outer g) (XB : KF.In base) (TB : Top p loose mean mg mb base) (F : Fr g L G m) (N : News g L G news) (hxs : ∀ y ∈ xs, g.get? y = none ∧ y ≠ L) (hx : x ∈ xs)
    (al : Aloft G xs (env :: outer) C x dx .none own s.heap) (hrest : ∀ p ∈ rest, p ∈ news ∧ p.1 ∉ xs) (hown : ∀ p ∈ own, ∀ b o, G.get? b = some o → b ∉ xs → b ≠ p.1)
    (hev : ∀ (E' : Value → Shared → Prop) (s5 : Shared) (g5 : Heap), Fr g5 L s5.heap m → KF.In g5 → Top p loose mean mg mb g5 → wpAny (model prog w) (A.mark (some (.ref x))) (eval t env) (fun c s₁ => c = .ref C ∧ s₁ = s5) E' s5)
    (h : ∀ h' tk g' (T : Addr) (ox oT : Obj) (vs ts : Array Value), KtsTurn (frs outer) g g' → (frs outer = [] → g' = g) → Fr g' L h' (fun y => if y = n then some (.ref x) else m y) → News g' L h' ((x, ox) :: (T, oT) :: (own ++ rest)) →
      IsNag C dx ox → ox.data = .fields vs → vs[1]? = some (.ref T) → T ≠ x → oT.data = .fields ts → ts[3]? = some .none → (∀ p ∈ own ++ rest, p.1 ≠ T ∧ p.1 ≠ x) → Below A₀ base outer g' → KF.In g' → Top p loose mean mg mb g' →
      wpAny (model prog w) (A.mark (some (.ref x))) (execs (b₀ :: suite) env) (fun f s₄ => wpAny (model prog w) A (do bindName env n .none; unbindBehindTheSuite env n pos) (fun _ s₅ => Q f s₅) E s₄)
        (AsSuiteRaised (model prog w) (A.mark (some (.ref x))) env n pos (notedBy (model prog w) (A.mark (some (.ref x))) env (cameBackBy (model prog w) A env E))) { s with heap := h', toks := tk }) :
    wpAny (model prog w) A (noteFrame (.ref x) env) (fun _ s₂ => wpAny (model prog w) A (setFlight (.ref x) none) (fun _ s₃ =>
        wpAny (model prog w) A (handleBy (.ref x) env (.ExceptHandler (some t) (some n) (b₀ :: suite) pos :: hs)) Q E s₃) E s₂) E s := by
  subst hlo
  obtain ⟨⟨B, hBG, hBown, fly⟩, slots⟩ := al
  have offx : ∀ b o, g.get? b = some o → b ∉ xs := fun b o e hm => by rw [(hxs b hm).1] at e; cases e
  refine noteOnP isNag_keep hA hf fly fun h4 fly4 up4 => ?_
  refine landP (s := { s with heap := h4 }) fly4 fun h5 fly5 k5 => ?_
  have up5 : ∀ b o, G.get? b = some o → b ∉ xs → (∀ vs, o.data ≠ .fields vs) → ∃ sl, h5.get? b = some { o with slots := sl } := fun b o e hb hn => by
    obtain ⟨s1, e1⟩ := slots b o e hb hn
    obtain ⟨s2, e2⟩ := up4 b _ e1 hn
    exact ⟨s2, k5 b _ e2 hn⟩
  obtain ⟨T5, F5, B5⟩ := ground_at K F hf hxs hBG fly5.1 up5
  refine wpAny_handleBy_cons (codeAny_handlers_test (wpAny_mono (hev _ { s with heap := h5 } _ F5 (XB.keeps B5.stays) (TB.keeps B5.stays)) (fun c s₁ hc => ?_) fun _ _ y => y)) (by intro q; cases q)
  obtain ⟨rfl, rfl⟩ := hc
  obtain ⟨⟨nm, q, bs, sn, sub, ab, col, dd, k0, k1, k2, k3, k5', hC⟩, _, _, _, _⟩ := NK
  obtain ⟨_, _, _, oe5, _, _, _, _, he5, hp5, _⟩ := id fly5
  have hC5 := fly5.1 _ _ (hBG _ _ (F.keep _ _ (K.stays _ _ (XB _ _ hC))) (offx _ _ (K.stays _ _ (XB _ _ hC))) (in_frs F hf (K.stays _ _ (XB _ _ hC)) fun hm => by
    have := XB _ _ hC
    rw [(K.frames.mem hm).1] at this
    cases this))
  obtain ⟨hh, gg, d, tk, os⟩ := s
  refine wpAny_excMatches_sub_self hC5 he5 hp5.1 (by simp) (codeAny_handlers_suite_as ?_)
  refine landP (s := ⟨h5, gg, d, tk, os⟩) fly5 fun h6 fly6 k6 => ?_
  have up6 : ∀ b o, G.get? b = some o → b ∉ xs → (∀ vs, o.data ≠ .fields vs) → ∃ sl, h6.get? b = some { o with slots := sl } := fun b o e hb hn => by
    obtain ⟨s1, e1⟩ := up5 b o e hb hn
    exact ⟨s1, k6 b _ e1 hn⟩
  obtain ⟨T6, F6, B6⟩ := ground_at K F hf hxs hBG fly6.1 up6
  obtain ⟨b1, b2, b3, ox, vs, T, oT, ts, he, hp, hd, h1, hnT, hTe, hT, hdT, h3⟩ := id fly6
  have hGL : ∃ oL, G.get? env.locals = some oL := let ⟨oL, _, _, hL, _⟩ := F.ns; ⟨oL, hL⟩
  have Tf : T ∉ frs (env :: outer) := fun hm => by
    obtain ⟨_, o, ho, hnf⟩ := b3.mem hm
    rw [hT] at ho; cases ho
    exact hnf _ hdT
  have gT : g.get? T = none := by
    cases q : g.get? T with
    | none => rfl
    | some o => have := hBG T o (F.keep _ _ q) (offx _ _ q) Tf; rw [hnT] at this; cases this
  have gown : ∀ p ∈ own, g.get? p.1 = none ∧ p.1 ≠ env.locals := fun p hp => by
    refine ⟨?_, fun e => ?_⟩
    · cases q : g.get? p.1 with
      | none => rfl
      | some o => exact absurd rfl (hown p hp p.1 o (F.keep _ _ q) (offx _ _ q))
    · obtain ⟨oL, hL⟩ := hGL
      exact hown p hp _ _ hL (fun hm => (hxs _ hm).2 rfl) e.symm
  have Brest : ∀ p ∈ rest, B.get? p.1 = some p.2 := fun p hp => hBG _ _ (N p (hrest p hp).1).1 (hrest p hp).2 (off_frs K F hf (N p (hrest p hp).1).2.2 (N p (hrest p hp).1).2.1)
  have Ball : ∀ p ∈ own ++ rest, B.get? p.1 = some p.2 := fun p hp => (List.mem_append.mp hp).elim (hBown p) (Brest p)
  have N6 : News (ktsHeap h6 (frs outer) g) env.locals h6 ((x, ox) :: (T, oT) :: (own ++ rest)) := by
    intro p hp'
    rcases List.mem_cons.mp hp' with rfl | hp'
    · exact ⟨he, (hxs x hx).2, T6.none_ _ (hxs x hx).1⟩
    · rcases List.mem_cons.mp hp' with rfl | hp'
      · exact ⟨hT, fun q => Tf (by have q' : T = env.locals := q; rw [q']; exact frs_in (.head _) hf), T6.none_ _ gT⟩
      · refine ⟨b1 _ _ (Ball p hp'), ?_⟩
        rcases List.mem_append.mp hp' with hp' | hp'
        · exact ⟨(gown p hp').2, T6.none_ _ (gown p hp').1⟩
        · exact ⟨(N p (hrest p hp').1).2.1, T6.none_ _ (N p (hrest p hp').1).2.2⟩
  have hsc : (env.scope.kind == .class || (env.scope.kind == .module && env.locals != env.globals)) = false := by rw [hke]; rfl
  refine wpAny_storeName_local hk F6.ns (fun h7 hn7 hs7 => ?_) hsc
  exact h h7 _ _ T ox oT vs ts T6 (fun e => by rw [e]; rfl) (F6.set hn7 hs7) (N6.set hs7) hp hd h1 hTe hdT h3 (fun p hp' => ⟨fun e => (by have := Ball p hp'; rw [e, hnT] at this; cases this), fun e => (by have := Ball p hp'; rw [e, b2] at this; cases this)⟩) B6 (XB.keeps B6.stays) (TB.keeps B6.stays)
end

end

section
open PySem PySem.W PyProof.Rows PySem.Calls PySem.Spec

theorem canon_bga : (Manifest.canonical "BaseException.__getattribute__" != "object.__getattribute__") = false := by decide +kernel
theorem lookIn_dictNone {o : Obj} {m : Str → Option Value} {name : Str} (x : DictObj o m) (hv : m name = none) : lookIn name o = some none := by
  obtain ⟨es, ep, hd, hk, _, hf⟩ := x
  have h1 := hf name
  rw [hv] at h1
  unfold lookIn
  rw [hd]
  dsimp only
  unfold nsFind findBy at h1
  rw [← Array.find?_toList] at h1
  cases q : es.toList.find? (·.key.isStr name) with
  | none =>
    have hr : (es.toList.any fun x => x.refKey) = false := by
      rw [List.any_eq_false]
      intro e he
      obtain ⟨a, b, c⟩ := hk e (by simpa using he)
      simp_all [DictEntry.refKey]
    show (if (es.toList.any fun x => x.refKey) = true then none else some none) = some none
    rw [hr]; rfl
  | some en => rw [q] at h1; cases h1
section
variable {prog : Program} {w : World} {A : Around} {E : Value → Shared → Prop} {s : Shared} {K : Frag} {x C : Addr} {ox : Obj} {od : Option Obj} {name : Str} {pl : Sem Bool} {Q : Value × List Value → Shared → Prop}
theorem methodE_fn {f : Addr} (X : K.In s.heap) (I : InstAt s.heap x ox C od) (hga : findIn K (.ref C) "__getattribute__" = some (some (.builtin "BaseException.__getattribute__"))) (hk : findIn K (.ref C) "__getattr__" = some none)
    (hf : findIn K (.ref C) name = some (some (.ref f))) (ht : typeIn K (.ref f) = some (.type "function")) (hs : shadowIn od name = some false) (h : Q (.ref f, [.ref x]) s) :
    wpAny (model prog w) A (getMethod (.ref x) name pl) Q E s := by
  unfold getMethod specialOf
  refine wpAny_bind (wpAny_bind (I.type.here ((looks_findIn X hga).here ?_)))
  dsimp only
  rw [canon_bga, if_neg (by decide)]
  refine wpAny_bind (wpAny_bind (I.type.here ((looks_findIn X hk).here ?_)))
  refine wpAny_bind (wpAny_bind (I.type.here ((looks_findIn X hf).here (wpAny_bind ((looks_typeIn X ht).here ?_)))))
  rw [if_neg (by decide +kernel)]
  refine wpAny_bind (wpAny_loadPart I.at_ ?_)
  have hd := I.dict
  cases e : ox.dict with
  | none => exact wpAny_bind (wpAny_rule (wpAny_pure h))
  | some dx =>
    cases od with
    | none => rw [e] at hd; exact hd.elim
    | some o =>
      rw [e] at hd
      obtain ⟨r, a, b⟩ := Option.map_eq_some_iff.mp hs
      refine wpAny_bind (wpAny_bind (wpAny_loadPart hd ?_))
      rw [nsLook_of a]
      refine wpAny_pure ?_
      rw [b]
      exact wpAny_bind (wpAny_rule (wpAny_pure h))
end
section
variable {prog : Program} {w : World} {A : Around} {E : Value → Shared → Prop} {s : Shared} {K : Frag} {C x dx f : Addr} {L : Addr} {h₀ : Heap} {m : Str → Option Value} {news : List (Addr × Obj)} {name : Str} {pl : Sem Bool} {Q : Value × List Value → Shared → Prop}
/-- A method of an exception of the ledger. -/
theorem methE_led {o od : Obj} {vs : Array Value} {mA : Str → Option Value} (F : Fr h₀ L s.heap m) (X₀ : K.In h₀) (N : News h₀ L s.heap news)
    (hga : findIn K (.ref C) "__getattribute__" = some (some (.builtin "BaseException.__getattribute__"))) (hk : findIn K (.ref C) "__getattr__" = some none) (hf : findIn K (.ref C) name = some (some (.ref f))) (ht : typeIn K (.ref f) = some (.type "function"))
    (hm : (x, o) ∈ news) (hmd : (dx, od) ∈ news) (hc : o.cls = .ref C) (hd : o.data = .fields vs) (hdx : o.dict = some dx) (hD : DictObj od mA) (hv : mA name = none) (h : Q (.ref f, [.ref x]) s) :
    wpAny (model prog w) A (getMethod (.ref x) name pl) Q E s :=
  methodE_fn (ox := o) (od := some od) (X₀.keeps F.keep) ⟨N.get hm, hc, by unfold notCls; rw [hd], by rw [hdx]; exact N.get hmd⟩ hga hk hf ht (by show Option.map (fun x => x.isSome) (lookIn name od) = some false; rw [lookIn_dictNone hD hv]; rfl) h
end

end

section
open PySem PySem.W PyProof.Rows PySem.Calls PySem.Spec

/-! A generator expression one of whose elements raises. -/
/-- An exception of a built-in class, just made and raised: no traceback yet, no context. -/
def Raised (cls : String) (e : Value) (s₂ s₃ : Shared) : Prop :=
  ∃ (h' : Heap) (tk : Nat) (x : Addr) (oe : Obj) (vs : Array Value), e = .ref x ∧ s₃ = { s₂ with heap := h', toks := tk } ∧ (∀ b o, s₂.heap.get? b = some o → h'.get? b = some o) ∧ s₂.heap.get? x = none ∧
    h'.get? x = some oe ∧ oe.cls = .type cls ∧ oe.data = .fields vs ∧ vs[1]? = some .none ∧ vs[2]? = some .none
abbrev allT : Nat → Bool := fun _ => true
section
variable {prog : Program} {w : World} {A : Around}
structure LoudGen (prog : Program) (w : World) (cenv : Env) (x : Str) (elt : Expr) (fp wr : List Addr) (P : Nat → Value → Prop) (nb : Nat) (F : Nat → Value → Prop) (cls : String) (href : Heap) (D U : Nat) : Prop where
  good : ∀ (A' : Around) E' i v (s₂ : Shared) m₂, A'.handled = none → A'.depth ≤ D → A'.units ≤ U → i < nb → P i v → s₂.heap.Ns cenv.locals m₂ → m₂ x = some v → (∀ b ∈ fp, b ∉ wr → ∀ o, href.get? b = some o → s₂.heap.get? b = some o) →
    wpAny (model prog w) A' (eval elt cenv) (fun y s₃ => F i y ∧ Keeps s₂ s₃) E' s₂
  boom : ∀ (A' : Around) (Q' E' : Value → Shared → Prop) v (s₂ : Shared) m₂, A'.handled = none → A'.depth ≤ D → A'.units ≤ U → P nb v → s₂.heap.Ns cenv.locals m₂ → m₂ x = some v → (∀ b ∈ fp, b ∉ wr → ∀ o, href.get? b = some o → s₂.heap.get? b = some o) →
    (∀ e s₃, Raised cls e s₂ s₃ → E' e s₃) → wpAny (model prog w) A' (eval elt cenv) Q' E' s₂
/-- How a raising generator's run ends: what the leaving of its frame says holds between the raise's state and the last. -/
def BoomEnd (C : Addr) (wr : List Addr) (cls : String) (Left : Value → Shared → Shared → Prop) : GenEnd := fun n s₀ r s₁ => ∃ e s₂ s₃, r = .error e ∧ n = 0 ∧ GenSince C wr s₀ s₂ ∧ Raised cls e s₂ s₃ ∧ Left e s₃ s₁
def genProtoK (C : Addr) (fp wr : List Addr) (nb : Nat) (F : Nat → Value → Prop) (K : Heap → Prop) : Protocol := fun m s₀ v s kap =>
  (∃ i, (passing allT nb 0)[(passing allT nb 0).length - 1 - m]? = some i ∧ F i v) ∧ GenSince C wr s₀ s ∧
    ∀ s'' : Shared, (∀ b ∈ C :: fp, ∀ o, s.heap.get? b = some o → s''.heap.get? b = some o) → K s''.heap → kap (.send .none) s''
theorem seg_boomLoop {elt iter : Expr} {x : Str} {px : Pos} {scope : Scope} {pos : Pos} {I : Addr} {fp wr : List Addr} {n₀ nb : Nat} {P : Nat → Value → Prop} {St₀ : Nat → Heap → Prop} {cenv : Env} {cls : String} {Left : Value → Shared → Shared → Prop} {K : Heap → Prop}
    (hK : ∀ h h' : Heap, K h → (∀ b o, b ≠ cenv.locals → b ∉ wr → h.get? b = some o → h'.get? b = some o) → K h') (hh : A.handled = none) (W₀ : ∀ A' : Around, A'.handled = none → Walks prog w A' I fp wr n₀ P St₀) (F : Nat → Value → Prop) (href : Heap) (hnb : nb < n₀)
    (hx : cenv.kindOf x = some .local) (hp : (cenv.scope.kind == .class || (cenv.scope.kind == .module && cenv.locals != cenv.globals)) = false)
    (hco : cenv.scope.isCoroutine = false) (hCf : cenv.locals ∉ fp) (hq : LoudGen prog w cenv x elt fp wr P nb F cls href (A.depth + 1) (A.units + 3))
    (hleft : ∀ (e : Value) (s₂ s₃ : Shared), Raised cls e s₂ s₃ → K s₃.heap → (∃ m₃, s₃.heap.Ns cenv.locals m₃) → ∀ (Q' : Unit → Shared → Prop) (E' : Value → Shared → Prop), (∀ s₄, Left e s₃ s₄ → Q' () s₄) →
      wpAny (model prog w) (A.over (.compLoop (.GeneratorExp elt [⟨.Name x px, iter, [], 0⟩] scope pos) 0 (.ref I) .none cenv) []) (leaving cenv e) Q' E' s₃) :
    ∀ (k i : Nat) (s₀ s : Shared) (m : Str → Option Value), nb - i = k → i ≤ nb → St₀ i s.heap → s.heap.Ns cenv.locals m → K s.heap → GenSince cenv.locals wr s₀ s →
      (∀ b ∈ fp, b ∉ wr → ∀ o, href.get? b = some o → s.heap.get? b = some o) →
      Seg (model prog w) A (BoomEnd cenv.locals wr cls Left) (genProtoK cenv.locals fp wr nb F K) (passing allT nb i).length s₀
        (.compLoop (.GeneratorExp elt [⟨.Name x px, iter, [], 0⟩] scope pos) 0 (.ref I) .none cenv)
        ((model prog w).den (.compLoop (.GeneratorExp elt [⟨.Name x px, iter, [], 0⟩] scope pos) 0 (.ref I) .none cenv)) [] s := by
  have hh' : (A.over (.compLoop (.GeneratorExp elt [⟨.Name x px, iter, [], 0⟩] scope pos) 0 (.ref I) .none cenv) []).handled = none := hh
  have hdep' : (A.over (.compLoop (.GeneratorExp elt [⟨.Name x px, iter, [], 0⟩] scope pos) 0 (.ref I) .none cenv) []).depth ≤ A.depth + 1 := Nat.le_of_eq rfl
  have huni' : (A.over (.compLoop (.GeneratorExp elt [⟨.Name x px, iter, [], 0⟩] scope pos) 0 (.ref I) .none cenv) []).units ≤ A.units + 3 := Nat.le_of_eq rfl
  have hCw : cenv.locals ∉ wr := fun h => hCf ((W₀ A hh).sub _ h)
  intro k
  induction k with
  | zero =>
    intro i s₀ s m hk hi hst hn hKs hsince hkp
    have hin : i = nb := by omega
    subst hin
    show Seg _ A _ _ _ s₀ _ ((compTurn (.GeneratorExp elt [⟨.Name x px, iter, [], 0⟩] scope pos) 0 (.ref I) .none cenv).onRaise (leaving cenv)) [] s
    rw [compTurn_gen, Sem.onRaise_eq_wrap]
    refine seg_bind_wrap (wpAny_standAt ?_)
    refine seg_bind_wrap ((W₀ _ hh').item i s _ _ hnb hst fun v h₁ tk₁ hPv hst₁ hk₁ => ?_)
    refine seg_bind_wrap (wpAny_of_eq (rfl : letOwnedTupleGo (.Name x px) (.ref I) v = pure ()) ?_)
    refine seg_bind_wrap (wpAny_assign_Name (wpAny_storeName_local hx (hn.at' fun o e => hk₁ _ o hCw e) (fun h₂ hn₂ hs₂ => ?_) hp))
    have up₂ : ∀ b o, b ≠ cenv.locals → b ∉ wr → s.heap.get? b = some o → h₂.get? b = some o := fun b o hbC hbw e => hs₂.extBut b o hbC (hk₁ b o hbw e)
    have hkp₂ : ∀ b ∈ fp, b ∉ wr → ∀ o, href.get? b = some o → h₂.get? b = some o := fun b hb hbw o e => up₂ b o (fun h => hCf (h ▸ hb)) hbw (hkp b hb hbw o e)
    refine seg_bind_wrap (m := forIn ([] : List Expr) true _) (wpAny_of_eq (a := true) rfl ?_)
    simp only [if_true]
    rw [Sem.bind_eq_wrap', Sem.bind_eq_wrap', Sem.wrap_wrap, Sem.wrap_wrap]
    refine seg_wrap (hq.boom _ _ _ v _ _ hh' hdep' huni' hPv hn₂ (by simp) hkp₂ fun e s₃ hr => ?_)
    show Seg _ A _ _ _ s₀ _ ((leaving cenv e) >>= fun _ => Sem.raise e) [] s₃
    have hK3 : K s₃.heap := by
      obtain ⟨h3, tk3, x3, oe3, vs3, rfl, rfl, hk3, _⟩ := id hr
      exact hK _ _ (hK _ _ hKs up₂) fun b o _ _ e => hk3 b o e
    have hN3 : ∃ m₃, s₃.heap.Ns cenv.locals m₃ := by
      obtain ⟨h3, tk3, x3, oe3, vs3, rfl, rfl, hk3, _⟩ := id hr
      exact ⟨_, hn₂.keeps hk3⟩
    refine seg_bind (hleft e _ _ hr hK3 hN3 _ _ fun s₄ hl => ?_)
    exact seg_end (.error e) ⟨e, _, s₃, rfl, by rw [passing_end]; rfl, hsince.step fun b o hbC hbw e => up₂ b o hbC hbw e, hr, hl⟩
  | succ k ih =>
    intro i s₀ s m hk hi hst hn hKs hsince hkp
    have hlt : i < nb := by omega
    show Seg _ A _ _ _ s₀ _ ((compTurn (.GeneratorExp elt [⟨.Name x px, iter, [], 0⟩] scope pos) 0 (.ref I) .none cenv).onRaise (leaving cenv)) [] s
    rw [compTurn_gen, Sem.onRaise_eq_wrap]
    refine seg_bind_wrap (wpAny_standAt ?_)
    refine seg_bind_wrap ((W₀ _ hh').item i s _ _ (Nat.lt_trans hlt hnb) hst fun v h₁ tk₁ hPv hst₁ hk₁ => ?_)
    refine seg_bind_wrap (wpAny_of_eq (rfl : letOwnedTupleGo (.Name x px) (.ref I) v = pure ()) ?_)
    refine seg_bind_wrap (wpAny_assign_Name (wpAny_storeName_local hx (hn.at' fun o e => hk₁ _ o hCw e) (fun h₂ hn₂ hs₂ => ?_) hp))
    have up₂ : ∀ b o, b ≠ cenv.locals → b ∉ wr → s.heap.get? b = some o → h₂.get? b = some o := fun b o hbC hbw e => hs₂.extBut b o hbC (hk₁ b o hbw e)
    have hst₂ : St₀ (i + 1) h₂ := (W₀ A hh).frame _ _ _ hst₁ fun b hb o e => hs₂.extBut b o (fun h => hCf (h ▸ hb)) e
    have hkp₂ : ∀ b ∈ fp, b ∉ wr → ∀ o, href.get? b = some o → h₂.get? b = some o := fun b hb hbw o e => up₂ b o (fun h => hCf (h ▸ hb)) hbw (hkp b hb hbw o e)
    refine seg_bind_wrap (m := forIn ([] : List Expr) true _) (wpAny_of_eq (a := true) rfl ?_)
    rw [passing_true hlt rfl, List.length_cons]
    simp only [if_true]
    have hy : ∀ v, yieldOut cenv v = yieldValue v := fun v => by simp only [yieldOut, hco, Bool.false_eq_true, if_false]
    simp only [hy]
    rw [Sem.bind_eq_wrap', Sem.bind_eq_wrap', Sem.wrap_wrap, Sem.wrap_wrap]
    refine seg_wrap (wpAny_mono (hq.good _ _ i v _ _ hh' hdep' huni' hlt hPv hn₂ (by simp) hkp₂) (fun y s₄ h₄ => ?_) fun _ _ e => e)
    obtain ⟨hFy, h₄, tk₄, rfl, hk₄⟩ := h₄
    refine seg_at (seg_yield rfl rfl rfl ⟨⟨i, passing_here hlt rfl, hFy⟩, hsince.step fun b o hbC hbw e => hk₄ b o (up₂ b o hbC hbw e), fun s'' hal hKs'' => ?_⟩)
    exact seg_again rfl (ih (i + 1) s'' s'' _ (by omega) hlt ((W₀ A hh).frame _ _ _ hst₂ fun b hb o e => hal b (List.mem_cons_of_mem _ hb) o (hk₄ b o e))
      ((hn₂.keeps hk₄).at' fun o e => hal _ (List.mem_cons_self ..) o e) hKs'' (GenSince.refl _ _ _) fun b hb hbw o e => hal b (List.mem_cons_of_mem _ hb) o (hk₄ b o (hkp₂ b hb hbw o e)))
end
section
variable {prog : Program} {w : World} {A : Around} {E : Value → Shared → Prop} {s : Shared}
theorem made_false {a : Addr} {g : Nat} {Q : Bool → Shared → Prop} (hg : s.heap.IsGen a g) (h : Q false s) : wpAny (model prog w) A (Builtin.Generator.madeByALambda (.ref a)) Q E s := by
  obtain ⟨o, nm, qn, ho, hc, hd, hsl⟩ := hg
  unfold Builtin.Generator.madeByALambda
  refine wpAny_bind (wpAny_load ho (wpAny_pure ?_))
  rw [hd]
  simpa using h
theorem boom_next {a C : Addr} {wr : List Addr} {g n : Nat} {gs : GenState} {Y : Protocol} {Q : Option Value → Shared → Prop} {cls : String} {Left : Value → Shared → Shared → Prop}
    (hl : s.heap.NoLimit) (hroom : A.depth < recursionLimit)
    (hg : s.heap.IsGen a g) (hgs : s.gens[g]? = some gs) (hsub : isSubtype (.type cls) (.type "StopIteration") = pure false)
    (hgo : gs.Goes (model prog w) A.in1 (BoomEnd C wr cls Left) Y n (.send .none) (s.setGen g .running))
    (hY : ∀ v s₁ gs', gs'.bare = true → Y (n - 1) (s.setGen g .running) v s₁ (fun r' s'' => match n with
        | 0 => False
        | m + 1 => gs'.Goes (model prog w) A.in1 (BoomEnd C wr cls Left) Y m r' s'') → Q (some v) (s₁.setGen g gs'))
    (hX : ∀ e s₂ s₃ s₁, n = 0 → GenSince C wr (s.setGen g .running) s₂ → Raised cls e s₂ s₃ → Left e s₃ s₁ → s₁.heap.IsGen a g ∧ s₁.TypeIs e cls ∧ E e (s₁.setGen g .finished)) :
    wpAny (model prog w) A (pyNext (.ref a)) Q E s := by
  unfold pyNext
  refine wpAny_bind (wpAny_attempt (wpAny_callSpecial?_slot (name := Str.ofString "__next__") hg.typeIs slot_gen_next
    (wpAny_call_entry slot_gen_next hg.typeIs entry_gen_next ?_ (args_gen_next _))))
  show wpAny _ A.in1 (Builtin.Generator.genWake (.ref a) (.send .none)) _ _ s
  unfold Builtin.Generator.genWake
  refine wpAny_bind (wpAny_holding (wpAny_genNumber hg (wpAny_bind (wpAny_genState hgs ?_))))
  cases gs with
  | running => exact hgo.elim
  | finished => exact hgo.elim
  | _ =>
    refine wpAny_bind (wpAny_roomToWake hl hroom ?_)
    show wpAny _ A.in1 (.resume g (.send .none) [] _) _ _ s
    refine wpAny_resumeQ hgs hgo (fun x s₁ hx => ?_) (fun v s₁ gs' hb hv => ?_)
    · obtain ⟨e, s₂, s₃, rfl, hn, h1, h2, h3⟩ := hx
      obtain ⟨k1, k2, k3⟩ := hX e s₂ s₃ s₁ hn h1 h2 h3
      show wpAny _ A.in1 (Builtin.Generator.genLeft (.ref a) e) _ _ _
      unfold Builtin.Generator.genLeft
      refine wpAny_bind (made_false k1 ?_)
      refine wpAny_bind (wpAny_isInstance (T := cls) (b := false) k2 hsub ?_)
      show wpAny _ A.in1 (Builtin.Generator.genEscaped e) _ _ _
      unfold Builtin.Generator.genEscaped
      refine wpAny_bind (wpAny_isInstance (T := cls) (b := false) k2 hsub ?_)
      refine wpAny_throw ?_
      show wpAny _ A (isInstance e (.type "StopIteration") >>= _) _ _ _
      refine wpAny_bind (wpAny_isInstance (T := cls) (b := false) k2 hsub ?_)
      exact wpAny_throw k3
    · exact wpAny_pure ⟨v, rfl, wpAny_pure (hY v s₁ gs' hb hv)⟩
end
/-- A walk that ends by a raise. -/
structure WalksB (prog : Program) (w : World) (A : Around) (I : Addr) (fp wr : List Addr) (G : Array GenState → Array GenState → Prop) (n : Nat) (P : Nat → Value → Prop) (St : Nat → Shared → Prop) (BE : Value → Shared → Shared → Prop) : Prop where
  sub : ∀ b ∈ wr, b ∈ fp
  grefl : ∀ a, G a a
  gtrans : ∀ a b c, G a b → G b c → G a c
  frame : ∀ i (s : Shared) h' tk (S : Addr), S ∉ fp → St i s → s.toks ≤ tk → (∀ b o, b ≠ S → s.heap.get? b = some o → h'.get? b = some o) → St i { s with heap := h', toks := tk }
  item : ∀ i (s : Shared) (Q : Option Value → Shared → Prop) (E : Value → Shared → Prop), i < n → St i s →
    (∀ v s', P i v → St (i + 1) s' → Moved wr G s s' → Q (some v) s') → wpAny (model prog w) A (pyNext (.ref I)) Q E s
  boom : ∀ (s : Shared) (Q : Option Value → Shared → Prop) (E : Value → Shared → Prop), St n s → (∀ e s', BE e s s' → E e s') → wpAny (model prog w) A (pyNext (.ref I)) Q E s
  self : ∀ i (s : Shared) (Q : Value → Shared → Prop) (E : Value → Shared → Prop), St i s → Q (.ref I) s → wpAny (model prog w) A (pyIter (.ref I)) Q E s
section
variable {prog : Program} {w : World} {A : Around} {E : Value → Shared → Prop} {s : Shared} {I : Addr} {fp wr : List Addr} {G : Array GenState → Array GenState → Prop} {n : Nat} {P : Nat → Value → Prop} {St : Nat → Shared → Prop} {BE : Value → Shared → Shared → Prop} {R : Result → Shared → Prop}
theorem extend_boom (W : WalksB prog w A.in1 I fp wr G n P St BE) (hn : n ≤ sizeLine) (S : Addr) (hSf : S ∉ fp) (res : Value) :
    ∀ (k i : Nat) (s : Shared) (acc : Array Value) (c : Nat), n - i = k → i ≤ n → St i s → s.heap.get? S = some { cls := .type "list", dict := none, data := .seq acc c, slots := #[] } → ItemsOf P acc i →
    (∀ e s' s'', Moved (S :: wr) G s s' → St n s' → BE e s' s'' → R (.error e) s'') →
    codeAny (model prog w) A (.builtin "list.extend.loop" ⟨[.ref S, .ref I, res], []⟩) R s := by
  have hSw : S ∉ wr := fun h => hSf (W.sub _ h)
  have hsub : ∀ b ∈ wr, b ∈ S :: wr := fun b hb => List.mem_cons_of_mem _ hb
  intro k
  induction k with
  | zero =>
    intro i s acc c hk hi hst hS hacc hR
    have hin : i = n := by omega
    subst hin
    refine codeAny_builtin F.entry_extend_loop ?_
    rw [Around.under_plainId F.plain_extend_loop _]
    show wpAny _ A.in1 (pyNext (.ref I) >>= _) _ _ s
    refine wpAny_bind (W.boom s _ _ hst fun e s' hb => ?_)
    exact hR e s s' (Moved.refl W.grefl) hst hb
  | succ k ih =>
    intro i s acc c hk hi hst hS hacc hR
    have hlt : i < n := by omega
    refine codeAny_builtin F.entry_extend_loop ?_
    rw [Around.under_plainId F.plain_extend_loop _]
    show wpAny _ A.in1 (pyNext (.ref I) >>= _) _ _ s
    refine wpAny_bind (W.item i s _ _ hlt hst fun v s' hP hst' hm => ?_)
    have hS' := hm.heap S _ hSw hS
    show wpAny _ A.in1 (updateSeq S (·.push v) >>= _) _ _ _
    refine wpAny_bind ?_
    refine wpAny_updateSeq hS' rfl (wpAny_pure ⟨plainId_quiet F.plain_extend_loop _, ih (i + 1) _ (acc.push v) _ (by omega) hlt (W.frame _ s' _ s'.toks S hSf hst' (Nat.le_refl _) fun b o hb e => ?_) (Heap.get?_update_self _ hS' rfl) (hacc.push hP) fun e s'' s3 hm'' hst'' hbe => ?_⟩)
      (by rw [hacc.1]; omega) (by show (acc.push v).size ≤ sizeLine + 1; rw [Array.size_push, hacc.1]; omega)
    · exact (Heap.get?_update_other _ _ (Ne.symm hb)).trans e
    · refine hR e s'' s3 (Moved.trans W.gtrans ((hm.mono hsub).then_heap (by first | exact Nat.le_refl _ | exact Nat.le_succ _ | omega) fun b o hb e => ?_) hm'') hst'' hbe
      exact (Heap.get?_update_other _ _ (fun h : S = b => hb (by rw [h]; exact List.mem_cons_self))).trans e
theorem collect_boom {Q : List Value → Shared → Prop} (W : WalksB prog w A.in1 I fp wr G n P St BE) (hT : ∀ i s, St i s → s.TypeIs (.ref I) "generator") (hst : St 0 s) (hfp : ∀ b ∈ fp, b < s.heap.objs.size) (hI : I ∈ fp)
    (hX : ∀ e s' s'', Moved wr G s s' → St n s' → BE e s' s'' → E e s'') (hn : n ≤ sizeLine) : wpAny (model prog w) A (collect (.ref I)) Q E s := by
  have hSf : s.heap.objs.size ∉ fp := fun hm => Nat.lt_irrefl _ (hfp _ hm)
  have hSI : s.heap.objs.size ≠ I := fun e => hSf (e ▸ hI)
  unfold collect
  refine wpAny_bind (wpAny_runValue (codeAny_builtin F.entry_proto_collect ?_))
  rw [Around.under_plainId F.plain_proto_collect _]
  show wpAny _ A.in1 (newList [] >>= fun l => again (.builtin "list.__iadd__" ⟨[l, .ref I], []⟩)) _ _ s
  refine wpAny_bind (wpAny_newObj_type ?_)
  refine wpAny_pure ⟨plainId_quiet F.plain_list_iadd _, codeAny_builtin F.entry_list_iadd ?_⟩
  rw [Around.under_plainId F.plain_list_iadd _]
  have hst₁ := W.frame 0 s (s.heap.push { cls := .type "list", data := .seq ([] : List Value).toArray }) s.toks _ hSf hst (Nat.le_refl _) fun b o _ e => Heap.get?_push_of_some _ e
  show wpAny _ A.in1 (Builtin.List.listExtendWith (.ref s.heap.objs.size) (.ref I) (.ref s.heap.objs.size)) _ _ _
  unfold Builtin.List.listExtendWith
  refine wpAny_bind (wpAny_typeOf (hT 0 _ hst₁) ?_)
  have h1 : Builtin.List.listSameRef (.ref s.heap.objs.size) (.ref I) = false := by simp [Builtin.List.listSameRef, hSI]
  have h2 : (Value.type "generator" == Value.type "list") = false := by decide
  have h3 : (Value.type "generator" == Value.type "tuple") = false := by decide
  simp only [h1, h2, h3, Bool.or_false, Bool.false_eq_true, if_false]
  refine wpAny_bind (W.self 0 _ _ _ hst₁ ?_)
  refine wpAny_bind (wpAny_holding ?_)
  unfold Builtin.List.listLengthHint
  refine wpAny_bind (wpAny_specialOf (hT 0 _ hst₁) F.gen_no_len ?_)
  show wpAny _ A.in1 (specialOf (Value.ref I) (Str.ofString "__length_hint__") >>= _) _ _ _
  refine wpAny_bind (wpAny_specialOf (hT 0 _ hst₁) F.gen_no_hint ?_)
  refine wpAny_pure ?_
  show wpAny _ A.in1 (rule "list.extend.makes-room" >>= fun _ => Builtin.List.listTouch (.ref s.heap.objs.size) >>= fun _ =>
    again (.builtin "list.extend.loop" ⟨[.ref s.heap.objs.size, .ref I, .ref s.heap.objs.size], []⟩)) _ _ _
  refine wpAny_bind (wpAny_rule ?_)
  have hS₁ : (s.heap.push { cls := .type "list", data := .seq ([] : List Value).toArray }).get? s.heap.objs.size = some { cls := .type "list", data := .seq ([] : List Value).toArray } := Heap.get?_push_size _ rfl
  refine wpAny_bind ?_
  show wpAny _ A.in1 (updateSeq s.heap.objs.size (·.push .none) >>= fun _ => updateSeq s.heap.objs.size (·.pop)) _ _ _
  refine wpAny_bind (wpAny_updateSeq hS₁ rfl ?_)
  have hS₂ := Heap.get?_update_self (Obj.mapSeq (·.push Value.none)) hS₁ rfl
  refine wpAny_updateSeq hS₂ rfl ?_
  have hS₃ := Heap.get?_update_self (Obj.mapSeq (·.pop)) hS₂ rfl
  have oth : ∀ b o, b ≠ s.heap.objs.size → (s.heap.push { cls := .type "list", data := .seq ([] : List Value).toArray }).get? b = some o →
      (((s.heap.push { cls := .type "list", data := .seq ([] : List Value).toArray }).update s.heap.objs.size (Obj.mapSeq (·.push Value.none))).update s.heap.objs.size (Obj.mapSeq (·.pop))).get? b = some o :=
    fun b o hb e => (Heap.get?_update_other _ _ (Ne.symm hb)).trans ((Heap.get?_update_other _ _ (Ne.symm hb)).trans e)
  refine wpAny_pure ⟨plainId_quiet F.plain_extend_loop _, extend_boom W hn _ hSf _ n 0 _ _ _ rfl (Nat.zero_le _)
    (W.frame 0 ({ s with heap := s.heap.push { cls := .type "list", data := .seq ([] : List Value).toArray } } : Shared) _ s.toks _ hSf hst₁ (Nat.le_refl _) fun b o hb e => oth b o hb e) hS₃ (ItemsOf.nil P) fun e s' s'' hm hst' hbe => ?_⟩
  exact hX e s' s'' (Moved.drop_new (o := { cls := .type "list", data := .seq ([] : List Value).toArray }) (tk := s.toks) (Moved.trans W.gtrans ((Moved.refl W.grefl).then_heap (by first | exact Nat.le_refl _ | exact Nat.le_succ _ | omega) fun b o hb e => oth b o (fun h => hb (h ▸ List.mem_cons_self)) e) hm) (Nat.le_refl _)) hst' hbe
theorem WalksB.of_in1 (W : WalksB prog w A.in1 I fp wr G n P St BE) : WalksB prog w A I fp wr G n P St BE where
  sub := W.sub
  grefl := W.grefl
  gtrans := W.gtrans
  frame := W.frame
  item := fun i s Q E hi st hQ => wpAny_of_in1 (W.item i s Q E hi st hQ)
  boom := fun s Q E st hQ => wpAny_of_in1 (W.boom s Q E st hQ)
  self := fun i s Q E st hQ => wpAny_of_in1 (W.self i s Q E st hQ)
theorem join_boom {x : Str} {t : Tok} {Q : Value → Shared → Prop} (W : WalksB prog w A.in1.in1 I fp wr G n P St BE) (hT : ∀ i s, St i s → s.TypeIs (.ref I) "generator") (hst : St 0 s) (hfp : ∀ b ∈ fp, b < s.heap.objs.size) (hI : I ∈ fp)
    (hX : ∀ e s' s'', Moved wr G s s' → St n s' → BE e s' s'' → E e s'') (hn : n ≤ sizeLine) :
    wpAny (model prog w) A (call (.builtin "str.join") [.str x t, .ref I]) Q E s := by
  refine wpAny_call (codeAny_call_builtin F.slot_str_join.plain F.entry_str_join (F.slot_str_join.check _ _ _ _ _ _ _ _ (typeIs_str _ _ _) (F.args_str_join_2 _ _) ?_))
  rw [join_tree_other]
  refine wpAny_bind (wpAny_typeOf (hT 0 s hst) ?_)
  show wpAny _ A.in1 ((pyIter (.ref I)).tryCatch _ >>= fun it => collect it >>= fun items => joinTail x items) _ _ s
  refine wpAny_bind (wpAny_tryCatch (W.of_in1.self 0 s _ _ hst ?_))
  exact wpAny_bind (collect_boom W hT hst hfp hI (fun e s' s'' hm hs' hb => hX e s' s'' hm hs' hb) hn)
end
def GenBoomAt (prog : Program) (w : World) (A : Around) (a : Addr) (g : Nat) (C : Addr) (fp wr : List Addr) (nb : Nat) (F : Nat → Value → Prop) (cls : String) (Left : Value → Shared → Shared → Prop) (K : Heap → Prop) (j : Nat) (s : Shared) : Prop :=
  s.heap.IsGen a g ∧ s.heap.NoLimit ∧ ∃ gs, s.gens[g]? = some gs ∧ ∀ s'' : Shared, (∀ b ∈ C :: fp, ∀ o, s.heap.get? b = some o → s''.heap.get? b = some o) → K s''.heap →
    gs.Goes (model prog w) A.in1 (BoomEnd C wr cls Left) (genProtoK C fp wr nb F K) ((passing allT nb 0).length - j) (.send .none) s''
def BoomG (g : Nat) (C : Addr) (wr : List Addr) (cls : String) (Left : Value → Shared → Shared → Prop) (e : Value) (s s'' : Shared) : Prop :=
  ∃ s₂ s₃ s₁, GenSince C wr (s.setGen g .running) s₂ ∧ Raised cls e s₂ s₃ ∧ Left e s₃ s₁ ∧ s'' = s₁.setGen g .finished
section
variable {prog : Program} {w : World} {A : Around}
theorem WalksB.genexp (a : Addr) (g : Nat) (C : Addr) (fp wr : List Addr) (nb : Nat) (F : Nat → Value → Prop) (cls : String) (Left : Value → Shared → Shared → Prop) (haC : a ≠ C) (haf : a ∉ fp) (hsub : ∀ b ∈ wr, b ∈ fp)
    (hroom : A.depth < recursionLimit) (hcs : cStatics ∈ fp) (hcC : cStatics ≠ C) (hcw : cStatics ∉ wr) (hst : isSubtype (.type cls) (.type "StopIteration") = pure false) (K : Heap → Prop) (fx : List Addr)
    (hK : ∀ h h' : Heap, K h → (∀ b o, b ≠ C → b ∉ wr → h.get? b = some o → h'.get? b = some o) → K h') (hKS : ∀ (h h' : Heap) (S : Addr), S ∉ fx ++ fp → K h → (∀ b o, b ≠ S → h.get? b = some o → h'.get? b = some o) → K h')
    (hL : ∀ e s₂ s₃ s₁, Raised cls e s₂ s₃ → Left e s₃ s₁ → s₂.heap.IsGen a g → s₁.heap.IsGen a g ∧ s₁.TypeIs e cls) :
    WalksB prog w A a (a :: C :: (fx ++ fp)) (C :: wr) (GenOnlyQ g) (passing allT nb 0).length (fun j y => ∃ i, (passing allT nb 0)[j]? = some i ∧ F i y) (fun j s => GenBoomAt prog w A a g C fp wr nb F cls Left K j s ∧ K s.heap) (BoomG g C wr cls Left) where
  sub := fun b hb => by
    rcases List.mem_cons.mp hb with rfl | hb
    · simp
    · exact List.mem_cons_of_mem _ (List.mem_cons_of_mem _ (List.mem_append.mpr (.inr (hsub b hb))))
  grefl := fun _ => .inl rfl
  gtrans := fun _ _ _ x y => x.trans y
  frame := fun j s h' tk S hS st _ hk => by
    obtain ⟨⟨s1, s2, gs, hgs, hgo⟩, hKs⟩ := st
    have kp : ∀ b ∈ a :: C :: fp, ∀ o, s.heap.get? b = some o → h'.get? b = some o := fun b hb o e => hk b o (fun q => hS (by
      rw [← q]
      rcases List.mem_cons.mp hb with rfl | hb
      · exact .head _
      rcases List.mem_cons.mp hb with rfl | hb
      · exact .tail _ (.head _)
      · exact .tail _ (.tail _ (List.mem_append.mpr (.inr hb))))) e
    exact ⟨⟨(let ⟨o, nm, qn, ho, r⟩ := s1; ⟨o, nm, qn, kp a (.head _) o ho, r⟩),
      (let ⟨mc, hns, hnn⟩ := s2; ⟨mc, hns.at' fun o e => kp cStatics (.tail _ (.tail _ hcs)) o e, hnn⟩),
      gs, hgs, fun s'' hal => hgo s'' fun b hb o e => hal b hb o (kp b (.tail _ hb) o e)⟩, hKS _ _ S (fun q => hS (.tail _ (.tail _ q))) hKs hk⟩
  item := fun j s Q E hj st hQ => by
    obtain ⟨⟨hg, hl, gs, hgs, hgo⟩, hKs⟩ := st
    obtain ⟨m, hm⟩ : ∃ m, (passing allT nb 0).length - j = m + 1 := ⟨(passing allT nb 0).length - j - 1, by omega⟩
    rw [hm] at hgo
    refine wpAny_with_toks (Nat.le_refl s.toks) ?_
    refine boom_next hl hroom hg hgs hst (hgo _ (fun _ _ _ e => e) hKs) (fun v s₁ gs' hb hv => ?_) (fun _ _ _ _ hn => absurd hn (Nat.succ_ne_zero m))
    obtain ⟨⟨i, hi, hF⟩, ⟨h₁, tk₁, rfl, hk₁⟩, hkap⟩ := hv
    have hidx : (passing allT nb 0).length - 1 - (m + 1 - 1) = j := by omega
    rw [hidx] at hi
    have haw : a ∉ wr := fun h => haf (hsub a h)
    intro htk
    have hK1 : K h₁ := hK _ _ hKs fun b o h1 h2 e => hk₁ b o h1 h2 e
    refine hQ v _ ⟨i, hi, hF⟩ ⟨⟨let ⟨o, nm, qn, ho, r⟩ := hg; ⟨o, nm, qn, hk₁ a o haC haw ho, r⟩, (let ⟨mc, hns, hnn⟩ := hl; ⟨mc, hns.at' fun o e => hk₁ cStatics o hcC hcw e, hnn⟩), gs', setGen_self (gs := .running) (setGen_self hgs), fun s'' hal hKs'' => ?_⟩, hK1⟩
      ⟨fun b o hb e => hk₁ b o (fun h => hb (h ▸ List.mem_cons_self ..)) (fun h => hb (List.mem_cons_of_mem _ h)) e, GenOnlyQ.of ((GenOnly.setGen s g .running).trans (GenOnly.setGen _ g gs')) (setGen_self (gs := .running) (setGen_self hgs)) hb, rfl, rfl, htk⟩
    have e : (passing allT nb 0).length - (j + 1) = m := by omega
    rw [e]
    exact hkap s'' hal hKs''
  boom := fun s Q E st hQ => by
    obtain ⟨⟨hg, hl, gs, hgs, hgo⟩, hKs⟩ := st
    rw [Nat.sub_self] at hgo
    have haw : a ∉ wr := fun h => haf (hsub a h)
    refine boom_next hl hroom hg hgs hst (hgo _ (fun _ _ _ e => e) hKs) (fun v s₁ gs' hb hv => ?_) (fun e s₂ s₃ s₁ _ h1 h2 h3 => ?_)
    · obtain ⟨_, ⟨h₁, tk₁, rfl, hk₁⟩, hkap⟩ := hv
      exact False.elim (hkap _ (fun _ _ _ e => e) (hK _ _ hKs fun b o h1 h2 e => hk₁ b o h1 h2 e))
    · have hg2 : s₂.heap.IsGen a g := by
        obtain ⟨h₁, tk₁, rfl, hk₁⟩ := h1
        obtain ⟨o, nm, qn, ho, r⟩ := hg
        exact ⟨o, nm, qn, hk₁ a o haC haw ho, r⟩
      obtain ⟨k1, k2⟩ := hL e s₂ s₃ s₁ h2 h3 hg2
      exact ⟨k1, k2, hQ e _ ⟨s₂, s₃, s₁, h1, h2, h3, rfl⟩⟩
  self := fun _ _ _ _ st hQ => wpAny_pyIter_gen st.1.1 hQ
theorem seg_boomStart {elt iter : Expr} {x : Str} {px : Pos} {scope : Scope} {pos : Pos} {I : Addr} {fp wr : List Addr} {n₀ nb : Nat} {P : Nat → Value → Prop} {St₀ : Nat → Heap → Prop} {cenv : Env} {cls : String} {Left : Value → Shared → Shared → Prop} {K : Heap → Prop}
    (hK : ∀ h h' : Heap, K h → (∀ b o, b ≠ cenv.locals → b ∉ wr → h.get? b = some o → h'.get? b = some o) → K h') (hh : A.handled = none) (W₀ : ∀ A' : Around, A'.handled = none → Walks prog w A' I fp wr n₀ P St₀) (F : Nat → Value → Prop) (href : Heap) (hnb : nb < n₀)
    (hx : cenv.kindOf x = some .local) (hp : (cenv.scope.kind == .class || (cenv.scope.kind == .module && cenv.locals != cenv.globals)) = false)
    (hco : cenv.scope.isCoroutine = false) (hCf : cenv.locals ∉ fp) (hq : LoudGen prog w cenv x elt fp wr P nb F cls href (A.depth + 1) (A.units + 3))
    (hleft : ∀ (e : Value) (s₂ s₃ : Shared), Raised cls e s₂ s₃ → K s₃.heap → (∃ m₃, s₃.heap.Ns cenv.locals m₃) → ∀ (Q' : Unit → Shared → Prop) (E' : Value → Shared → Prop), (∀ s₄, Left e s₃ s₄ → Q' () s₄) →
      wpAny (model prog w) (A.over (.compLoop (.GeneratorExp elt [⟨.Name x px, iter, [], 0⟩] scope pos) 0 (.ref I) .none cenv) []) (leaving cenv e) Q' E' s₃)
    (s₀ s : Shared) (m : Str → Option Value) (hst : St₀ 0 s.heap) (hn : s.heap.Ns cenv.locals m) (hKs : K s.heap) (hsince : GenSince cenv.locals wr s₀ s)
    (hkp : ∀ b ∈ fp, b ∉ wr → ∀ o, href.get? b = some o → s.heap.get? b = some o) :
    Seg (model prog w) A (BoomEnd cenv.locals wr cls Left) (genProtoK cenv.locals fp wr nb F K) (passing allT nb 0).length s₀
      (.compStart (.GeneratorExp elt [⟨.Name x px, iter, [], 0⟩] scope pos) 0 (.ref I) .none cenv)
      ((model prog w).den (.compStart (.GeneratorExp elt [⟨.Name x px, iter, [], 0⟩] scope pos) 0 (.ref I) .none cenv)) [] s := by
  have hh' : (A.over (.compStart (.GeneratorExp elt [⟨.Name x px, iter, [], 0⟩] scope pos) 0 (.ref I) .none cenv) []).handled = none := hh
  have loop := seg_boomLoop (iter := iter) (px := px) (scope := scope) (pos := pos) hK hh W₀ F href hnb hx hp hco hCf hq hleft nb 0 s₀ s m (Nat.sub_zero _) (Nat.zero_le _) hst hn hKs hsince hkp
  show Seg _ A _ _ _ s₀ _ ((compStart (.GeneratorExp elt [⟨.Name x px, iter, [], 0⟩] scope pos) 0 (.ref I) .none cenv).onRaise (leaving cenv)) [] s
  unfold compStart
  rw [Sem.onRaise_eq_wrap]
  show Seg _ A _ _ _ s₀ _ ((ask >>= _).wrap _ _ _ _) [] s
  refine seg_bind_wrap (wpAny_askSetting ?_)
  split
  · exact seg_again rfl loop
  · first
      | exact seg_bind_wrap (wpAny_rule (seg_bind_wrap (wpAny_standAt (seg_bind_wrap ((W₀ _ hh').self 0 s _ _ hst (seg_again rfl loop))))))
      | (refine seg_bind_wrap (wpAny_rule ?_); show Seg _ A _ _ _ s₀ _ ((standAt iter.pos >>= _).wrap _ _ _ _) [] s; exact seg_bind_wrap (wpAny_standAt (seg_bind_wrap ((W₀ _ hh').self 0 s _ _ hst (seg_again rfl loop)))))
theorem GenBoomAt.fresh {elt iter : Expr} {x : Str} {px : Pos} {scope : Scope} {pos : Pos} {I a : Addr} {g : Nat} {fp wr : List Addr} {n₀ nb : Nat} {P : Nat → Value → Prop} {St₀ : Nat → Heap → Prop} {cenv : Env} {cls : String} {Left : Value → Shared → Shared → Prop} {K : Heap → Prop}
    (hK : ∀ h h' : Heap, K h → (∀ b o, b ≠ cenv.locals → b ∉ wr → h.get? b = some o → h'.get? b = some o) → K h') (hh : A.handled = none) (W₀ : ∀ A' : Around, A'.handled = none → Walks prog w A' I fp wr n₀ P St₀) (F : Nat → Value → Prop) (hnb : nb < n₀)
    (hx : cenv.kindOf x = some .local) (hp : (cenv.scope.kind == .class || (cenv.scope.kind == .module && cenv.locals != cenv.globals)) = false)
    (hco : cenv.scope.isCoroutine = false) (hCf : cenv.locals ∉ fp) {s : Shared} {m : Str → Option Value} (hq : LoudGen prog w cenv x elt fp wr P nb F cls s.heap (A.depth + 1) (A.units + 4))
    (hleft : ∀ (e : Value) (s₂ s₃ : Shared), Raised cls e s₂ s₃ → K s₃.heap → (∃ m₃, s₃.heap.Ns cenv.locals m₃) → ∀ (Q' : Unit → Shared → Prop) (E' : Value → Shared → Prop), (∀ s₄, Left e s₃ s₄ → Q' () s₄) →
      wpAny (model prog w) (A.in1.over (.compLoop (.GeneratorExp elt [⟨.Name x px, iter, [], 0⟩] scope pos) 0 (.ref I) .none cenv) []) (leaving cenv e) Q' E' s₃)
    (hg : s.heap.IsGen a g) (hgs : s.gens[g]? = some (.fresh (.compStart (.GeneratorExp elt [⟨.Name x px, iter, [], 0⟩] scope pos) 0 (.ref I) .none cenv)))
    (hst : St₀ 0 s.heap) (hn : s.heap.Ns cenv.locals m) (hl : s.heap.NoLimit) : GenBoomAt prog w A a g cenv.locals fp wr nb F cls Left K 0 s :=
  ⟨hg, hl, _, hgs, fun s'' hal hKs => ⟨rfl, seg_boomStart (A := A.in1) hK hh W₀ F s.heap hnb hx hp hco hCf hq hleft s'' s'' m ((W₀ A hh).frame _ _ _ hst fun b hb o e => hal b (List.mem_cons_of_mem _ hb) o e)
    (hn.at' fun o e => hal _ (List.mem_cons_self ..) o e) hKs (GenSince.refl _ _ _) fun b hb _ o e => hal b (List.mem_cons_of_mem _ hb) o e⟩⟩
end

end

section
open PySem PySem.W PyProof.Rows PySem.Calls PySem.Spec

/-! The frame of a raising generator is left. -/
/-- The frames of a list of calls stand. -/
def Stand (l : List Env) (h : Heap) : Prop := ∀ env ∈ l, env.scope.kind ≠ .module ∧ ∃ L o, env.frame = some L ∧ h.get? L = some o ∧ ∀ vs, o.data ≠ .fields vs
theorem stand_keep {l : List Env} {h h' : Heap} (x : Stand l h) (k : ∀ b ∈ frs l, ∀ o, h.get? b = some o → h'.get? b = some o) : Stand l h' := fun env he => by
  obtain ⟨h1, L, o, hf, ho, hn⟩ := x env he
  exact ⟨h1, L, o, hf, k L (frs_in he hf) o ho, hn⟩
theorem stand_fun {h B : Heap} : ∀ {l : List Env}, Stand l h → (∀ b ∈ frs l, B.get? b = none) → h.FunFrames B l
  | [], _, _ => trivial
  | env :: r, x, hb => by
    obtain ⟨h1, L, o, hf, ho, hn⟩ := x env (.head _)
    exact ⟨h1, ⟨L, o, hf, hb L (frs_in (.head _) hf), ho, hn⟩, stand_fun (fun e he => x e (.tail _ he)) fun b hm => hb b (frs_sub hm)⟩
theorem stand_of {h B : Heap} : ∀ {l : List Env}, h.FunFrames B l → Stand l h
  | [], _ => fun _ he => nomatch he
  | env :: r, ⟨h1, ⟨L, o, hf, _, ho, hn⟩, hr⟩ => fun e he => by
    rcases List.mem_cons.mp he with rfl | he
    · exact ⟨h1, L, o, hf, ho, hn⟩
    · exact stand_of hr e he
def PX (cls : String) (o : Obj) : Prop := o.cls = .type cls ∧ ∃ vs, o.data = .fields vs ∧ vs[2]? = some .none
theorem px_keep {cls : String} : KeepP (PX cls) := by
  rintro ⟨oc, od, dt, sl⟩ v ⟨h1, vs, h3, h4⟩
  simp only at h1 h3
  subst h1 h3
  exact ⟨rfl, _, rfl, by rw [Array.getElem?_setIfInBounds_ne (by decide)]; exact h4⟩
/-- What holds behind the leaving of the frame in which it was raised. -/
def LeftF (cls : String) (cenv : Env) (outer : List Env) (e : Value) (s₃ s₄ : Shared) : Prop :=
  ∃ (x : Addr) (h' : Heap), e = .ref x ∧ s₄ = { s₃ with heap := h' } ∧ FlyP (PX cls) (hideAll s₃.heap ([x] ++ frs (cenv :: outer))) outer x .none h' ∧ s₃.heap.UpToSlots h'
theorem leave_loud {M : Model} {A : Around} {cls : String} {cenv : Env} {outer : List Env} {C : Addr} {e : Value} {s₂ s₃ : Shared} (hA : A.frames = some (cenv :: outer)) (hf : cenv.frame = some C) (hke : cenv.scope.kind = .function)
    (hr : Raised cls e s₂ s₃) (hns : ∃ m, s₃.heap.Ns C m) (hK : Stand outer s₃.heap) {Q' : Unit → Shared → Prop} {E' : Value → Shared → Prop} (h : ∀ s₄, LeftF cls cenv outer e s₃ s₄ → Q' () s₄) : wpAny M A (leaving cenv e) Q' E' s₃ := by
  obtain ⟨h3, tk, x, oe, vs, rfl, rfl, hk, hx0, hx, hc, hd, h1, h2⟩ := hr
  obtain ⟨m, oC, es, ep, hoC, hCd, _⟩ := hns
  have hst : Stand (cenv :: outer) h3 := fun env he => by
    rcases List.mem_cons.mp he with rfl | he
    · exact ⟨by rw [hke]; decide, C, oC, hf, hoC, fun vs e => by rw [hCd] at e; cases e⟩
    · exact hK env he
  refine leaveFirstP (base := hideAll h3 ([x] ++ frs (cenv :: outer))) px_keep hA (stand_fun hst fun b hb => hideAll_none _ (List.mem_append.mpr (.inr hb))) hf hx ⟨hc, vs, hd, h2⟩ (fun b o e => of_hideAll _ e) (hid_none (.head _)) hd h1 fun h' fly up => h _ ⟨x, h', rfl, rfl, fly, up⟩
/-- All but the exception and the frames stands as it stood. -/
theorem LeftF.keep {cls : String} {cenv : Env} {outer : List Env} {x : Addr} {s₃ s₄ : Shared} (l : LeftF cls cenv outer (.ref x) s₃ s₄) {b : Addr} {o : Obj} (hb : s₃.heap.get? b = some o) (h1 : b ≠ x) (h2 : b ∉ frs (cenv :: outer)) : s₄.heap.get? b = some o := by
  obtain ⟨y, h', e, rfl, fly, _⟩ := l
  cases e
  exact fly.1 b o (hideAll_get _ hb fun hm => (List.mem_append.mp hm).elim (fun z => h1 (List.mem_singleton.mp z)) h2)
theorem LeftF.type {cls : String} {cenv : Env} {outer : List Env} {e : Value} {s₃ s₄ : Shared} (l : LeftF cls cenv outer e s₃ s₄) : s₄.TypeIs e cls := by
  obtain ⟨x, h', rfl, rfl, ⟨_, _, _, oe, vs, T, _, _, he, hp, _⟩, _⟩ := l
  exact ⟨oe, he, hp.1⟩

end

section
open PySem PySem.W PyProof.Rows PySem.Calls PySem.Spec

theorem over_frames {A : Around} {elt iter : Expr} {x : Str} {px : Pos} {scope : Scope} {pos : Pos} {it : Value} {cenv : Env} {l : List Env} (h : A.frames = some l) : (A.in4.in1.over (.compLoop (.GeneratorExp elt [⟨.Name x px, iter, [], 0⟩] scope pos) 0 it .none cenv) []).frames = some (cenv :: l) := by
  have e : (A.in4.in1.over (.compLoop (.GeneratorExp elt [⟨.Name x px, iter, [], 0⟩] scope pos) 0 it .none cenv) []).frames = pushEnvs [cenv] (pushEnvs [] A.frames) := rfl
  rw [e, h]
  rfl
/-! A generator expression that raises at its element nb, made; its footprint is told by its user. -/
section
variable {prog : Program} {w : World} {A : Around} {E : Value → Shared → Prop} {s : Shared}
theorem genexp_B {env : Env} {elt iter : Expr} {x : Str} {px : Pos} {scope : Scope} {cl : List (Str × Addr)} {pos : Pos} {Q : Value → Shared → Prop} {cls : String} {outer : List Env}
    (hh : A.handled = none) (hco : scope.isCoroutine = false) (hclos : closureFor scope env = pure cl) (hcell : ∀ y ∈ scope.names, y.2 ≠ .cell) (h0 : scope.names.lookup (".0" : Str) = some NameKind.local)
    (hx : scope.names.lookup x = some .local) (hkind : scope.kind = .function) (hroom : A.depth < recursionLimit) (hfr : A.frames = some outer) (hsub : isSubtype (.type cls) (.type "StopIteration") = pure false)
    (h : wpAny (model prog w) A (eval iter env) (fun xv s₁ => wpAny (model prog w) A (pyIter xv) (fun it s₂ => s₂.heap.NoLimit ∧
      wpAny (model prog w) A (genexprCode env pos (env.qual ++ "<genexpr>") scope) (fun code s₃ => wpAny (model prog w) A (builtinsFor env.globals env.builtins) (fun bi s₄ =>
        ∃ I fp wr n₀ nb P St₀ F, it = .ref I ∧ nb < n₀ ∧ (∀ A' : Around, A'.handled = none → Walks prog w A' I fp wr n₀ P St₀) ∧ St₀ 0 s₄.heap ∧ (∀ b ∈ fp, b < s₄.heap.objs.size) ∧ s₄.heap.NoLimit ∧ cStatics ∉ wr ∧ cStatics ∈ fp ∧
          Stand outer s₄.heap ∧ (∀ b ∈ frs outer, b ∉ wr ∧ b < s₄.heap.objs.size) ∧
          (∀ href : Heap, (∀ b o, s₄.heap.get? b = some o → href.get? b = some o) →
            LoudGen prog w (genEnv scope cl s₄.heap.objs.size code bi env) x elt fp wr P nb F cls href (A.depth + 1) (A.units + 8)) ∧
          (∀ a h₅ tk gs oa oC, gs.bare = true → s₄.heap.objs.size < a → h₅.objs.size = a + 1 → (∀ b o, s₄.heap.get? b = some o → h₅.get? b = some o) → h₅.get? a = some oa → h₅.get? s₄.heap.objs.size = some oC →
            WalksB prog w A.in4 a (a :: s₄.heap.objs.size :: (frs outer ++ fp)) (s₄.heap.objs.size :: wr) (GenOnlyQ s₄.gens.size) (passing allT nb 0).length
              (fun j y => ∃ i, (passing allT nb 0)[j]? = some i ∧ F i y) (fun j s => GenBoomAt prog w A.in4 a s₄.gens.size s₄.heap.objs.size fp wr nb F cls (LeftF cls (genEnv scope cl s₄.heap.objs.size code bi env) outer) (Stand outer) j s ∧ Stand outer s.heap)
              (BoomG s₄.gens.size s₄.heap.objs.size wr cls (LeftF cls (genEnv scope cl s₄.heap.objs.size code bi env) outer)) →
            GenBoomAt prog w A.in4 a s₄.gens.size s₄.heap.objs.size fp wr nb F cls (LeftF cls (genEnv scope cl s₄.heap.objs.size code bi env) outer) (Stand outer) 0 { s₄ with gens := s₄.gens.push gs, toks := tk, heap := h₅ } →
            Stand outer h₅ →
            Q (.ref a) { s₄ with gens := s₄.gens.push gs, toks := tk, heap := h₅ })) E s₃) E s₂) E s₁) E s)
    (hs : ∀ x, genFold iter env x = pure x) :
    wpAny (model prog w) A (eval (.GeneratorExp elt [⟨.Name x px, iter, [], 0⟩] scope pos) env) Q E s := by
  refine wpAny_GeneratorExp_make hco hclos hcell h0 hkind hroom (wpAny_mono h (fun xv s₁ h₁ => wpAny_mono h₁ (fun it s₂ h₂ => ⟨h₂.1, wpAny_mono h₂.2 (fun code s₃ h₃ => wpAny_mono h₃ (fun bi s₄ h₄ => ?_)
    fun _ _ e => e) fun _ _ e => e⟩) fun _ _ e => e) fun _ _ e => e) hs
  obtain ⟨I, fp, wr, n₀, nb, P, St₀, F, rfl, hnb, W₀, hst, hfp, hl₄, hcw, hcf, hst4, hfrw, hq, hQ⟩ := h₄
  have hclt : cStatics < s₄.heap.objs.size := let ⟨_, hn, _⟩ := hl₄; hn.lt
  intro h' hn' hs'
  have hsz : h'.objs.size = s₄.heap.objs.size + 1 := by rw [hs'.1, Heap.size_push]
  have keep' : ∀ b o, s₄.heap.get? b = some o → h'.get? b = some o := fun b o e => hs'.extBut b o (Nat.ne_of_lt (Heap.lt_size e)) (Heap.get?_push_of_some _ e)
  have hsubw : ∀ b ∈ wr, b ∈ fp := fun b hb => (W₀ A hh).sub b hb
  have haC : h'.objs.size ≠ s₄.heap.objs.size := by rw [hsz]; exact Nat.succ_ne_self _
  have haf : h'.objs.size ∉ fp := fun hm => absurd (hfp _ hm) (Nat.not_lt.mpr (by rw [hsz]; exact Nat.le_succ _))
  have keep₅ : ∀ b o, s₄.heap.get? b = some o → (h'.push { cls := .type "generator", data := .fields #[.int s₄.gens.size 0, .str "<genexpr>" (s₄.toks + 1), .str (env.qual ++ "<genexpr>") (s₄.toks + 1 + 1)] }).get? b = some o :=
    fun b o e => Heap.get?_push_of_some _ (keep' b o e)
  obtain ⟨oC, _, _, hoC, _⟩ := id hn'
  have hKst : ∀ h h' : Heap, Stand outer h → (∀ b o, b ≠ s₄.heap.objs.size → b ∉ wr → h.get? b = some o → h'.get? b = some o) → Stand outer h' := fun h h' x k =>
    stand_keep x fun b hb o e => k b o (Nat.ne_of_lt (hfrw b hb).2) (hfrw b hb).1 e
  refine hQ _ _ _ _ _ _ rfl (by omega) (by rw [Heap.size_push]) keep₅ (Heap.get?_push_size _ rfl) (Heap.get?_push_of_some _ hoC)
    (WalksB.genexp (A := A.in4) _ _ _ _ wr nb F cls _ haC haf hsubw hroom hcf (Nat.ne_of_lt hclt) hcw hsub (Stand outer) (frs outer) hKst
      (fun h h' S hS x k => stand_keep x fun b hb o e => k b o (fun q => hS (List.mem_append.mpr (.inl (q ▸ hb)))) e) ?hL) ?_ (stand_keep hst4 fun b _ o e => keep₅ b o e)
  case hL =>
    intro e s₂ s₃ s₁ hr hl hg
    refine ⟨?_, hl.type⟩
    obtain ⟨h3, tk, y, oe, vs, rfl, rfl, hk, hx0, hy, _⟩ := hr
    obtain ⟨o, nm, qn, ho, r⟩ := hg
    refine ⟨o, nm, qn, hl.keep (hk _ _ ho) (fun q => by rw [q, hx0] at ho; cases ho) (fun hm => ?_), r⟩
    rcases frs_mem (L := s₄.heap.objs.size) rfl hm with q | q
    · exact haC q
    · exact absurd (hfrw _ q).2 (Nat.not_lt.mpr (by rw [hsz]; exact Nat.le_succ _))
  refine GenBoomAt.fresh (A := A.in4) (cenv := genEnv scope cl s₄.heap.objs.size code bi env) (m := fun y => if y = ".0" then some (.ref I) else none) hKst hh
    W₀ F hnb hx (by simp [genEnv, hkind]) hco
    (fun hm => Nat.lt_irrefl _ (hfp _ hm)) (hq _ keep₅) ?hleft ⟨_, _, _, Heap.get?_push_size _ rfl, rfl, rfl, rfl⟩ (Array.getElem?_push_size ..) ((W₀ A hh).frame _ _ _ hst fun b _ o e => keep₅ b o e) (hn'.push _) (hl₄.keeps keep₅)
  case hleft =>
    intro e s₂ s₃ hr hK hN Q' E' hq'
    exact leave_loud (over_frames hfr) rfl hkind hr hN hK hq'
end

end

section
open PySem PySem.W PyProof.Rows PySem.Calls PySem.Spec

theorem walksB_imp {prog : Program} {w : World} {A : Around} {I : Addr} {fp wr : List Addr} {G : Array GenState → Array GenState → Prop} {n n' : Nat} {P P' : Nat → Value → Prop} {St : Nat → Shared → Prop} {BE : Value → Shared → Shared → Prop} (W : WalksB prog w A I fp wr G n P St BE) (hn : n = n') (h : ∀ i v, P i v → P' i v) : WalksB prog w A I fp wr G n' P' St BE := by
  subst hn
  exact ⟨W.sub, W.grefl, W.gtrans, W.frame, fun i s Q E hi st hQ => W.item i s Q E hi st fun v s' hP => hQ v s' (h i v hP), W.boom, W.self⟩
/-- A generator that stands ready: it gives nb values and then raises. -/
def GenLoud (prog : Program) (w : World) (A : Around) (g : Heap) (a : Addr) (oa : Obj) (C : Addr) (oC : Obj) (I : Addr) (oI : Obj) (nb : Nat) (Fv : Nat → Value → Prop) (cls : String) (outer : List Env) (gens : Array GenState) : Prop :=
  ∃ (gi : Nat) (St : Nat → Shared → Prop) (code : Value) (scope : Scope) (cl : List (Str × Addr)) (env : Env), WalksB prog w A.in4 a (a :: C :: (frs outer ++ (I :: fpG g))) [C, I] (GenOnlyQ gi) nb Fv St (BoomG gi C [I] cls (LeftF cls (genEnv scope cl C code builtinsNs env) outer)) ∧ (∀ i s', St i s' → s'.TypeIs (.ref a) "generator") ∧
    ∀ s : Shared, s.gens = gens → s.heap.get? a = some oa → s.heap.get? C = some oC → s.heap.get? I = some oI → (∀ b o, g.get? b = some o → s.heap.get? b = some o) → Stand outer s.heap → St 0 s
section
variable {prog : Program} {w : World} {A : Around} {E : Value → Shared → Prop} {s : Shared} {g : Heap} {L c P : Addr} {ps : Array Value} {m mg mb : Str → Option Value} {p : Program} {loose : List Str} {mean : ExcName → Option Value}
/-- As genexp_tab, for a generator whose element nb raises. -/
theorem genexp_tabB {env : Env} {elt iter : Expr} {x : Str} {px : Pos} {scope : Scope} {cl : List (Str × Addr)} {pos : Pos} {Q : Value → Shared → Prop} {D : Addr} {vs : List Value} {Fv : Nat → Value → Prop} {nb : Nat} {cls : String} {outer : List Env}
    (hnb : nb < vs.length) (hfr : A.frames = some outer) (hsub : isSubtype (.type cls) (.type "StopIteration") = pure false) (hSt : Stand outer s.heap) (hPf : P ∉ frs outer)
    (F : Fr g L s.heap m) (N : News g L s.heap [(P, tabObj ps)]) (CH : CodeHd g c P) (T : Top p loose mean mg mb g) (hf : TabForm pos ps) (hG : AllBare s.gens)
    (hcode : env.code = .ref c) (hgl : env.globals = mainGlobals)
    (hh : A.handled = none) (hco : scope.isCoroutine = false) (hclos : closureFor scope env = pure cl) (hcell : ∀ y ∈ scope.names, y.2 ≠ .cell) (h0 : scope.names.lookup (".0" : Str) = some NameKind.local)
    (hx : scope.names.lookup x = some .local) (hkind : scope.kind = .function) (hroom : A.depth < recursionLimit)
    (hD : g.IsList D vs.toArray ∨ g.IsTuple D vs.toArray)
    (hit : ∀ Q' : Value → Shared → Prop, Q' (.ref D) s → wpAny (model prog w) A (eval iter env) Q' E s)
    (hel : ∀ (C : Addr) (code : Value) (A' : Around) E' i v (u : Shared) m₂, A'.handled = none → A'.depth ≤ A.depth + 1 → A'.units ≤ A.units + 8 → i < nb → vs[i]? = some v → Fr g C u.heap m₂ → m₂ x = some v → L < C →
      wpAny (model prog w) A' (eval elt (genEnv scope cl C code builtinsNs env)) (fun y s₃ => Fv i y ∧ Keeps u s₃) E' u)
    (hbm : ∀ (C : Addr) (code : Value) (A' : Around) (Q' E' : Value → Shared → Prop) v (u : Shared) m₂, A'.handled = none → A'.depth ≤ A.depth + 1 → A'.units ≤ A.units + 8 → vs[nb]? = some v → Fr g C u.heap m₂ → m₂ x = some v → L < C →
      (∀ e s₃, Raised cls e u s₃ → E' e s₃) → wpAny (model prog w) A' (eval elt (genEnv scope cl C code builtinsNs env)) Q' E' u)
    (hQ : ∀ a oa C oC I oI h₅ tk gs ps', AllBare gs → Fr g L h₅ m → News g L h₅ [(a, oa), (C, oC), (I, oI), (P, tabObj ps')] → TabForm pos ps' → s.heap.objs.size ≤ I → I < C → C < a → (∀ b o, b ≠ P → s.heap.get? b = some o → h₅.get? b = some o) →
      GenLoud prog w A g a oa C oC I oI nb Fv cls outer gs → Q (.ref a) { s with gens := gs, toks := tk, heap := h₅ })
    (hs : ∀ x, genFold iter env x = pure x) :
    wpAny (model prog w) A (eval (.GeneratorExp elt [⟨.Name x px, iter, [], 0⟩] scope pos) env) Q E s := by
  refine genexp_B hh hco hclos hcell h0 hx hkind hroom hfr hsub (hit _ ?_) hs
  have hP := (N _ (.head _)).1
  have hPg := (N _ (.head _)).2.2
  have hPlt : P < s.heap.objs.size := Heap.lt_size hP
  have hDlt : D < g.objs.size := by
    rcases hD with ⟨_, e, _⟩ | ⟨_, e, _⟩
    · exact Heap.lt_size e
    · exact Heap.lt_size e
  have hDg : ∃ o, g.get? D = some o := by
    rcases hD with ⟨_, e, _⟩ | ⟨_, e, _⟩
    · exact ⟨_, e⟩
    · exact ⟨_, e⟩
  have hgs : g.objs.size < s.heap.objs.size := Nat.lt_of_le_of_lt F.above F.ns.lt
  have hIfr : ∀ o, g.get? s.heap.objs.size = some o → False := fun o e => absurd (Heap.lt_size e) (Nat.not_lt.mpr (Nat.le_of_lt hgs))
  have hDI : D ≠ s.heap.objs.size := Nat.ne_of_lt (Nat.lt_trans hDlt hgs)
  obtain ⟨mc, hcs, hcn⟩ := id T.nolimit
  obtain ⟨ocs, _, _, ecs, _⟩ := id hcs
  have rest : ∀ (oI : Obj) (St₀ : Nat → Heap → Prop), (∀ A' : Around, A'.handled = none → Walks prog w A' s.heap.objs.size [s.heap.objs.size, D] [s.heap.objs.size] vs.toArray.size (fun i v => vs.toArray[i]? = some v) St₀) → St₀ 0 (s.heap.push oI) → oI.isFreed = false →
      (s.heap.push oI).NoLimit ∧
        wpAny (model prog w) A (genexprCode env pos (env.qual ++ "<genexpr>") scope) (fun code s₃ => wpAny (model prog w) A (builtinsFor env.globals env.builtins) (fun bi s₄ =>
          ∃ I fp wr n₀ nb' P St₀ F, Value.ref s.heap.objs.size = .ref I ∧ nb' < n₀ ∧ (∀ A' : Around, A'.handled = none → Walks prog w A' I fp wr n₀ P St₀) ∧ St₀ 0 s₄.heap ∧ (∀ b ∈ fp, b < s₄.heap.objs.size) ∧ s₄.heap.NoLimit ∧ cStatics ∉ wr ∧ cStatics ∈ fp ∧
          Stand outer s₄.heap ∧ (∀ b ∈ frs outer, b ∉ wr ∧ b < s₄.heap.objs.size) ∧
          (∀ href : Heap, (∀ b o, s₄.heap.get? b = some o → href.get? b = some o) →
            LoudGen prog w (genEnv scope cl s₄.heap.objs.size code bi env) x elt fp wr P nb' F cls href (A.depth + 1) (A.units + 8)) ∧
          (∀ a h₅ tk gs oa oC, gs.bare = true → s₄.heap.objs.size < a → h₅.objs.size = a + 1 → (∀ b o, s₄.heap.get? b = some o → h₅.get? b = some o) → h₅.get? a = some oa → h₅.get? s₄.heap.objs.size = some oC →
            WalksB prog w A.in4 a (a :: s₄.heap.objs.size :: (frs outer ++ fp)) (s₄.heap.objs.size :: wr) (GenOnlyQ s₄.gens.size) (passing allT nb' 0).length
              (fun j y => ∃ i, (passing allT nb' 0)[j]? = some i ∧ F i y) (fun j s => GenBoomAt prog w A.in4 a s₄.gens.size s₄.heap.objs.size fp wr nb' F cls (LeftF cls (genEnv scope cl s₄.heap.objs.size code bi env) outer) (Stand outer) j s ∧ Stand outer s.heap)
              (BoomG s₄.gens.size s₄.heap.objs.size wr cls (LeftF cls (genEnv scope cl s₄.heap.objs.size code bi env) outer)) →
            GenBoomAt prog w A.in4 a s₄.gens.size s₄.heap.objs.size fp wr nb' F cls (LeftF cls (genEnv scope cl s₄.heap.objs.size code bi env) outer) (Stand outer) 0 { s₄ with gens := s₄.gens.push gs, toks := tk, heap := h₅ } →
            Stand outer h₅ →
            Q (.ref a) { s₄ with gens := s₄.gens.push gs, toks := tk, heap := h₅ })) E s₃) E { s with heap := s.heap.push oI } := by
    intro oI St₀ W₀ hst hfr
    have F₁ := F.push oI
    refine ⟨T.nolimit.keeps F₁.keep, genexprCode_tab (ps := ps) hcode (CH.keeps F₁.keep) (Heap.get?_push_of_some _ hP) hf fun code h₃ tk₃ ps' hx₃ hsz hP₃ hf' => ?_⟩
    rw [hgl]
    obtain ⟨bm, ob, b1, b2, b3, b4, b5, b6⟩ := T.bmain
    have up : ∀ b o, b ≠ P → s.heap.get? b = some o → h₃.get? b = some o := fun b o hb e => hx₃ b o hb (Heap.get?_push_of_some _ e)
    have upg : ∀ b o, g.get? b = some o → h₃.get? b = some o := fun b o e => up b o (fun q => by rw [q, hPg] at e; cases e) (F.keep b o e)
    refine wpAny_builtinsFor (T.g.keeps upg) b1 b2 (upg _ _ b3) b4 b5 b6 ?_
    have hsz' : s.heap.objs.size < h₃.objs.size := by
      have : (s.heap.push oI).objs.size ≤ h₃.objs.size := hsz
      rw [Heap.size_push] at this
      exact this
    have hI₃ : h₃.get? s.heap.objs.size = some oI := hx₃ _ _ (Nat.ne_of_gt hPlt) (Heap.get?_push_size _ hfr)
    have W₁ : ∀ A' : Around, A'.handled = none → Walks prog w A' s.heap.objs.size (s.heap.objs.size :: fpG g) [s.heap.objs.size] vs.toArray.size (fun i v => vs.toArray[i]? = some v) St₀ := fun A' hA => (W₀ A' hA).mono_fp fun b hb => by
      rcases List.mem_cons.mp hb with rfl | hb
      · exact .head _
      · rw [List.mem_singleton.mp hb]
        exact .tail _ (let ⟨_, e⟩ := hDg; mem_fpG e)
    have hnb' : nb < vs.toArray.size := by simpa using hnb
    refine ⟨s.heap.objs.size, s.heap.objs.size :: fpG g, [s.heap.objs.size], vs.toArray.size, nb, _, St₀, Fv, rfl, hnb', W₁, ?_, ?_, T.nolimit.keeps upg, ?_, .tail _ (mem_fpG ecs), stand_keep hSt fun b hb o e => up b o (fun q => hPf (q ▸ hb)) e, fun b hb => ?_, fun href hhref => ?_, ?_⟩
    · refine (W₀ A hh).frame _ _ _ hst fun b hb o e => hx₃ b o ?_ e
      rintro rfl
      rcases List.mem_cons.mp hb with q | hb
      · exact absurd hPlt (q ▸ Nat.lt_irrefl _)
      · obtain ⟨o, e⟩ := hDg
        rw [← List.mem_singleton.mp hb, hPg] at e
        cases e
    · intro b hb
      rcases List.mem_cons.mp hb with rfl | hb
      · exact hsz'
      · obtain ⟨o, e⟩ := of_fpG hb
        exact Heap.lt_size (upg b o e)
    · intro hm
      rw [List.mem_singleton.mp hm] at ecs
      exact hIfr _ ecs
    · obtain ⟨env1, he1, hf1⟩ := List.mem_filterMap.mp hb
      obtain ⟨_, L1, o1, hf2, ho1, _⟩ := hSt env1 he1
      rw [hf1] at hf2
      cases hf2
      have hlt := Heap.lt_size ho1
      exact ⟨fun hm => Nat.ne_of_lt hlt (List.mem_singleton.mp hm), Nat.lt_trans hlt hsz'⟩
    · have inB : ∀ (t : Shared) m₂, t.heap.Ns h₃.objs.size m₂ → (∀ b ∈ s.heap.objs.size :: fpG g, b ∉ [s.heap.objs.size] → ∀ o, href.get? b = some o → t.heap.get? b = some o) → Fr g h₃.objs.size t.heap m₂ := fun t m₂ hn hkp =>
        ⟨hn, fun b o e => hkp b (.tail _ (mem_fpG e)) (fun hm => by rw [List.mem_singleton.mp hm] at e; exact hIfr _ e) o (hhref b o (upg b o e)), Nat.le_of_lt (Nat.lt_trans hgs hsz')⟩
      have hLC : L < h₃.objs.size := Nat.lt_trans F.ns.lt hsz'
      refine ⟨fun A' E' i v t m₂ hA hD hU hi hP hn hm hkp => ?_, fun A' Q' E' v t m₂ hA hD hU hP hn hm hkp hr => ?_⟩
      · exact hel _ code A' E' i v t m₂ hA hD hU hi (by simpa using hP) (inB t m₂ hn hkp) hm hLC
      · exact hbm _ code A' Q' E' v t m₂ hA hD hU (by simpa using hP) (inB t m₂ hn hkp) hm hLC hr
    · intro a h₅ tk gs oa oC hb hCa hsz₅ hk₅ ea eC W at0 hSt₅
      have ePs : h₅.get? P = some (tabObj ps') := hk₅ _ _ hP₃
      have hLP : P ≠ L := (N _ (.head _)).2.1
      have F₅ : Fr g L h₅ m := ⟨F.ns.at' fun o e => hk₅ _ _ (up _ _ (Ne.symm hLP) e), fun b o e => hk₅ _ _ (upg b o e), F.above⟩
      have fr : ∀ b, s.heap.objs.size ≤ b → b ≠ L ∧ g.get? b = none := fun b hb => ⟨Nat.ne_of_gt (Nat.lt_of_lt_of_le F.ns.lt hb), Heap.get?_none_of_le (Nat.le_trans (Nat.le_of_lt hgs) hb)⟩
      have hCsz : s.heap.objs.size ≤ h₃.objs.size := Nat.le_of_lt hsz'
      refine hQ a oa h₃.objs.size oC s.heap.objs.size oI h₅ tk _ ps' (hG.push hb) F₅ ?_ hf' (Nat.le_refl _) hsz' hCa (fun b o hbP e => hk₅ b o (up b o hbP e)) ?_
      · intro q hq
        rcases List.mem_cons.mp hq with rfl | hq
        · exact ⟨ea, (fr a (Nat.le_trans hCsz (Nat.le_of_lt hCa))).1, (fr a (Nat.le_trans hCsz (Nat.le_of_lt hCa))).2⟩
        · rcases List.mem_cons.mp hq with rfl | hq
          · exact ⟨eC, (fr _ hCsz).1, (fr _ hCsz).2⟩
          · rcases List.mem_cons.mp hq with rfl | hq
            · exact ⟨hk₅ _ _ hI₃, (fr _ (Nat.le_refl _)).1, (fr _ (Nat.le_refl _)).2⟩
            · rw [List.mem_singleton.mp hq]
              exact ⟨ePs, hLP, hPg⟩
      · refine ⟨_, _, code, scope, cl, env, walksB_imp W ?_ ?_, fun i s' st => st.1.1.typeIs, ?_⟩
        · rw [passing_all, List.length_range]
        · rintro j y ⟨i, hij, hF⟩
          rw [passing_all] at hij
          obtain ⟨hl, e⟩ := List.getElem?_eq_some_iff.mp hij
          rw [List.getElem_range] at e
          rw [e]; exact hF
        · intro s9 hgs9 ea9 eC9 eI9 hk9 hst9
          obtain ⟨⟨o1, nm, qn, ho1, r1⟩, hl1, gs1, hgs1, hgo1⟩ := at0
          refine ⟨⟨⟨o1, nm, qn, ?_, r1⟩, T.nolimit.keeps hk9, gs1, by rw [hgs9]; exact hgs1, fun s'' hal hK'' => hgo1 s'' (fun b hb o e => hal b hb o ?_) hK''⟩, hst9⟩
          · have : o1 = oa := by
              have h2 : h₅.get? a = some o1 := ho1
              rw [ea] at h2
              exact (Option.some.inj h2).symm
            rw [this]; exact ea9
          · have e' : h₅.get? b = some o := e
            rcases List.mem_cons.mp hb with rfl | hb
            · rw [eC] at e'; cases e'; exact eC9
            · rcases List.mem_cons.mp hb with rfl | hb
              · rw [hk₅ _ _ hI₃] at e'; cases e'; exact eI9
              · obtain ⟨o0, e0⟩ := of_fpG hb
                rw [hk₅ _ _ (upg _ _ e0)] at e'
                cases e'
                exact hk9 _ _ e0
  rcases hD with hl | ht
  · exact wpAny_pyIter_list (isList_keeps hl F.keep) (rest _ _ (fun A' hA => Walks.list hA _ _ hDI vs.toArray) ⟨⟨_, Heap.get?_push_size _ rfl, rfl, rfl⟩, isList_keeps (isList_keeps hl F.keep) (fun _ _ e => Heap.get?_push_of_some _ e)⟩ rfl)
  · exact wpAny_pyIter_tuple (isTuple_keeps ht F.keep) (rest _ _ (fun A' hA => Walks.tuple hA _ _ hDI vs.toArray) ⟨⟨_, Heap.get?_push_size _ rfl, rfl, rfl⟩, isTuple_keeps (isTuple_keeps ht F.keep) (fun _ _ e => Heap.get?_push_of_some _ e)⟩ rfl)
end

end

section
open PySem PySem.W PyProof.Rows PySem.Calls PySem.Spec

section
variable {prog : Program} {w : World} {A : Around} {E : Value → Shared → Prop} {s : Shared} {g : Heap} {L : Addr} {m : Str → Option Value} {a C I : Addr} {oa oC oI : Obj} {nb : Nat} {Fv : Nat → Value → Prop} {cls : String} {outer : List Env} {news : List (Addr × Obj)} {Q : Value → Shared → Prop}
/-- sep.join of a generator that will raise. -/
theorem join_loud {sep : Str} {t : Tok} (F : Fr g L s.heap m) (N : News g L s.heap ((a, oa) :: (C, oC) :: (I, oI) :: news)) (hG : AllBare s.gens) (R : GenLoud prog w A g a oa C oC I oI nb Fv cls outer s.gens) (hSt : Stand outer s.heap)
    (hX : ∀ (x : Addr) (B h' : Heap) (gs : Array GenState) (tk : Nat), FlyP (PX cls) B outer x .none h' → (∀ b o, s.heap.get? b = some o → b ≠ C → b ≠ I → b ∉ frs outer → B.get? b = some o) →
      (∀ b o, s.heap.get? b = some o → b ≠ C → b ≠ I → (∀ vs, o.data ≠ .fields vs) → ∃ sl, h'.get? b = some { o with slots := sl }) → AllBare gs → (∀ b o, s.heap.get? b = some o → b ≠ C → b ≠ I → b ≠ x) →
      E (.ref x) { s with heap := h', gens := gs, toks := tk })
    (hsz : nb ≤ sizeLine) : wpAny (model prog w) A (call (.builtin "str.join") [.str sep t, .ref a]) Q E s := by
  obtain ⟨gi, St, code, scope, cl, env, W, hT, h0⟩ := R
  have W2 : WalksB prog w A.in1.in1 _ _ _ _ _ _ _ _ := (show WalksB prog w A.in1.in1.in1.in1 _ _ _ _ _ _ _ _ from W).of_in1.of_in1
  have ea := N _ (.head _)
  have eC := N _ (.tail _ (.head _))
  have eI := N _ (.tail _ (.tail _ (.head _)))
  have hst := h0 s rfl ea.1 eC.1 eI.1 F.keep hSt
  have hfp : ∀ b ∈ a :: C :: (frs outer ++ (I :: fpG g)), b < s.heap.objs.size := by
    intro b hb
    rcases List.mem_cons.mp hb with rfl | hb
    · exact Heap.lt_size ea.1
    rcases List.mem_cons.mp hb with rfl | hb
    · exact Heap.lt_size eC.1
    rcases List.mem_append.mp hb with hb | hb
    · obtain ⟨env1, he1, hf1⟩ := List.mem_filterMap.mp hb
      obtain ⟨_, L1, o1, hf2, ho1, _⟩ := hSt env1 he1
      rw [hf1] at hf2
      cases hf2
      exact Heap.lt_size ho1
    rcases List.mem_cons.mp hb with rfl | hb
    · exact Heap.lt_size eI.1
    · obtain ⟨o, e⟩ := of_fpG hb
      exact Heap.lt_size (F.keep _ _ e)
  refine join_boom W2 hT hst hfp (.head _) (fun e s' s'' hm _ hb => ?_) hsz
  obtain ⟨s₂, s₃, s₁, ⟨h2, tk2, rfl, hk2⟩, ⟨h3, tk3, x, oe, vs, rfl, rfl, hk3, hx2, hx3, hrest⟩, hl, rfl⟩ := hb
  have keep2 : ∀ b o, b ≠ C → b ≠ I → s.heap.get? b = some o → h2.get? b = some o := fun b o h1 h2 e => hk2 b o h1 (fun q => h2 (List.mem_singleton.mp q)) (hm.heap b o (by simp [h1, h2]) e)
  have hxs : ∀ b o, s.heap.get? b = some o → b ≠ C → b ≠ I → b ≠ x := fun b o e h1 h2 q => by
    have := keep2 b o h1 h2 e
    rw [q, hx2] at this
    cases this
  obtain ⟨y, h', ey, rfl, fly, up⟩ := hl
  cases ey
  have hB : AllBare ((s'.setGen gi .running).gens.setIfInBounds gi .finished) := by
    have e0 : (s'.setGen gi .running).gens.setIfInBounds gi .finished = s'.gens.setIfInBounds gi .finished := by
      show (s'.gens.setIfInBounds gi .running).setIfInBounds gi .finished = _
      rw [Array.setIfInBounds_setIfInBounds]
    rw [e0]
    intro z hz
    rcases Array.mem_or_eq_of_mem_setIfInBounds hz with hz | rfl
    · exact hm.gens.bare hG z hz
    · rfl
  have := hX x _ h' _ tk3 fly (fun b o e h1 h2 hn => hideAll_get _ (hk3 _ _ (keep2 b o h1 h2 e)) fun hm' => (List.mem_append.mp hm').elim (fun z => hxs b o e h1 h2 (List.mem_singleton.mp z)) fun z => (frs_mem (L := C) rfl z).elim h1 hn)
    (fun b o e h1 h2 hn => up b o (hk3 _ _ (keep2 b o h1 h2 e)) hn) hB hxs
  have e1 : s'.drawn = s.drawn := hm.drawn
  have e2 : s'.os = s.os := hm.os
  rw [← e1, ← e2] at this
  exact this
end

end

section
open PySem PySem.W PyProof.Rows PySem.Calls PySem.Spec

section
variable {prog : Program} {w : World} {A : Around} {E : Value → Shared → Prop} {s : Shared} {Q : Value → Shared → Prop}
theorem list_out {l : Addr} {items : Array Value} {k : Int} {t : Tok} (hh : A.handled = none) (hl : s.heap.IsList l items)
    (h0 : 0 ≤ k) (hfit : k < 2 ^ 63) (hx : items[k.toNat]? = none) (h : ∀ h' tk e, Heap.NewExc s.heap h' e "IndexError" → E (.ref e) { s with heap := h', toks := tk }) : wpAny (model prog w) A (getItem (.ref l) (.int k t)) Q E s := by
  obtain ⟨o, ho, hc, ne, hd⟩ := id hl
  unfold getItem
  try with_reducible refine wpAny_holding ?_
  first | refine wpAny_bind (wpAny_pure ?_) | skip
  refine wpAny_bind (wpAny_sequenceKey hl.typeIs (by decide) ?_)
  refine wpAny_bind (wpAny_callSpecial?_slot (name := Str.ofString "__getitem__") hl.typeIs slot_list_getitem
    (wpAny_call_entry slot_list_getitem hl.typeIs entry_list_getitem ?_ (args_list_getitem _ _)))
  show wpAny _ _ (Builtin.List.listSubscript? (.int k t) >>= _) _ _ s
  refine wpAny_bind (wpAny_listSubscript_int (fitsIndex_of h0 hfit) ?_)
  clear hfit
  obtain ⟨j, rfl⟩ := Int.eq_ofNat_of_zero_le h0
  have hx' : items[j]? = none := hx
  show wpAny _ _ ((seqItemAt l j >>= fun r => pure (r.map (j, ·))) >>= _) _ _ s
  refine wpAny_bind (wpAny_bind (wpAny_seqItemAt ho hd (wpAny_pure ?_)))
  rw [hx']
  dsimp only [Option.map]
  exact wpAny_bind (wpAny_rule (wpAny_bind (wpAny_raiseErrorWords plainExc_IndexError hh h)))
theorem raised_of {cls : String} {h' : Heap} {tk : Nat} {e : Addr} (x : Heap.NewExc s.heap h' e cls) : Raised cls (.ref e) s { s with heap := h', toks := tk } := by
  obtain ⟨k, n, ob, t, ho, hc, hd⟩ := x
  exact ⟨h', tk, e, ob, _, rfl, rfl, k, n, ho, hc, hd, rfl, rfl⟩
theorem tuple_out {t : Addr} {items : Array Value} {k : Int} {u : Tok} (hh : A.handled = none) (ht : IsTup s.heap t items)
    (hlo : -(2 ^ 63) ≤ k) (hhi : k < 2 ^ 63) (hj : (seqIndex? k items.size).bind (items[·]?) = none) (h : ∀ h' tk e, Heap.NewExc s.heap h' e "IndexError" → E (.ref e) { s with heap := h', toks := tk }) : wpAny (model prog w) A (getItem (.ref t) (.int k u)) Q E s := by
  unfold getItem
  try with_reducible refine wpAny_holding ?_
  first | refine wpAny_bind (wpAny_pure ?_) | skip
  refine wpAny_bind (wpAny_sequenceKey ht.typeIs (by decide) ?_)
  refine wpAny_bind (wpAny_callSpecial?_slot (name := Str.ofString "__getitem__") ht.typeIs slot_tuple_getitem
    (wpAny_call_entry slot_tuple_getitem ht.typeIs entry_tuple_getitem ?_ (args_tuple_getitem _ _)))
  show wpAny _ _ (Builtin.Tuple.tupleItemsOf (.ref t) >>= _) _ _ s
  refine wpAny_bind (tupleItemsOf_ ht ?_)
  refine wpAny_bind (wpAny_typeOf (typeIs_int s k u) ?_)
  rw [if_neg (by decide)]
  refine wpAny_bind (wpAny_specialOf (T := "int") (typeIs_int s k u) int_index ?_)
  rw [if_neg (by simp)]
  refine wpAny_bind (wpAny_of_eq (a := k) rfl ?_)
  rw [if_neg (by simp only [Bool.or_eq_true, decide_eq_true_eq]; omega)]
  simp only [hj]
  first
    | exact wpAny_bind (wpAny_rule (wpAny_raiseErrorWords plainExc_IndexError hh h))
    | exact wpAny_bind (wpAny_rule (wpAny_bind (wpAny_raiseErrorWords plainExc_IndexError hh h)))
    | exact wpAny_raiseErrorWords plainExc_IndexError hh h
    | exact wpAny_bind (wpAny_raiseErrorWords plainExc_IndexError hh h)
theorem int_noget : typeLookup (.type "int") "__getitem__" = pure none := by rw [typeLookup_type, builtinLookup_eq_fast]; kernel_rfl
theorem int_sub {v k : Int} {t u : Tok} (hh : A.handled = none) (h : ∀ h' tk e, Heap.NewExc s.heap h' e "TypeError" → E (.ref e) { s with heap := h', toks := tk }) : wpAny (model prog w) A (getItem (.int v t) (.int k u)) Q E s := by
  unfold getItem
  try with_reducible refine wpAny_holding ?_
  first | refine wpAny_bind (wpAny_pure ?_) | skip
  simp only [callSpecial?]
  refine wpAny_bind (wpAny_bind (wpAny_specialOf (T := "int") (typeIs_int s v t) int_noget ?_))
  refine wpAny_pure ?_
  dsimp only
  refine wpAny_bind (wpAny_of_eq (a := false) (by rfl) ?_)
  rw [if_neg (by decide)]
  refine wpAny_bind (wpAny_of_eq (a := "int") ?e1 ?_)
  case e1 => first | rfl | kernel_rfl | (unfold PySem.typeNameOf; rfl) | (unfold PySem.typeNameOf; kernel_rfl)
  exact wpAny_raiseErrorMade plainExc_TypeError hh h (by decide)
theorem str_out {x : Str} {t u : Tok} {i : Int} (hh : A.handled = none) (hr : (decide (i < -(2 ^ 63 : Int)) || decide (i ≥ 2 ^ 63)) = false) (hc : (seqIndex? i x.length).bind (x.cps[·]?) = none)
    (h : ∀ h' tk e, Heap.NewExc s.heap h' e "IndexError" → E (.ref e) { s with heap := h', toks := tk }) : wpAny (model prog w) A (getItem (.str x t) (.int i u)) Q E s := by
  refine getItem_slot (typeIs_str s x t) (by decide) slot_str_getitem (wpAny_call_entry slot_str_getitem (typeIs_str s x t) entry_str_getitem ?_ (args_str_getitem _ _))
  show wpAny _ _ (if (decide (i < -(2 ^ 63 : Int)) || decide (i ≥ 2 ^ 63)) = true then _ else
          match (seqIndex? i x.length).bind (x.cps[·]?) with
          | some c => retStr ⟨#[c]⟩
          | none => _) _ _ s
  rw [hr, hc]
  first
    | exact wpAny_bind (wpAny_rule (wpAny_raiseErrorWords plainExc_IndexError hh h))
    | exact wpAny_bind (wpAny_rule (wpAny_bind (wpAny_raiseErrorWords plainExc_IndexError hh h)))
    | exact wpAny_raiseErrorWords plainExc_IndexError hh h
    | exact wpAny_bind (wpAny_raiseErrorWords plainExc_IndexError hh h)
end

end

section
open PySem PySem.W PyProof.Rows PySem.Calls PySem.Spec

section
variable {prog : Program} {w : World} {A : Around} {E : Value → Shared → Prop} {s : Shared} {Q : Value → Shared → Prop}
theorem str_in {x : Str} {t u : Tok} {i : Int} {c : Nat} (hr : (decide (i < -(2 ^ 63 : Int)) || decide (i ≥ 2 ^ 63)) = false) (hc : (seqIndex? i x.length).bind (x.cps[·]?) = some c)
    (h : ∀ t tk, Q (.str ⟨#[c]⟩ t) { s with toks := tk }) : wpAny (model prog w) A (getItem (.str x t) (.int i u)) Q E s := by
  refine getItem_slot (typeIs_str s x t) (by decide) slot_str_getitem (wpAny_call_entry slot_str_getitem (typeIs_str s x t) entry_str_getitem ?_ (args_str_getitem _ _))
  show wpAny _ _ (if (decide (i < -(2 ^ 63 : Int)) || decide (i ≥ 2 ^ 63)) = true then _ else
          match (seqIndex? i x.length).bind (x.cps[·]?) with
          | some c => retStr ⟨#[c]⟩
          | none => _) _ _ s
  rw [hr, hc]
  refine wpAny_bind ?_
  refine wpAny_mkStr ?_ ?_
  · first | exact wpAny_pure (h _ _) | exact wpAny_pure ⟨_, rfl, fun x => nomatch x, h _ _⟩ | exact wpAny_pure ⟨_, rfl, h _ _, fun x => nomatch x⟩ | exact wpAny_pure ⟨_, rfl, h _ _⟩ | skip
  · show (1 : Nat) ≤ sizeLine
    rw [PySem.sizeLine_eq]; omega
theorem tail_none {value slice : Expr} {o i : Value} {ops : List Value} {T : String} {Q : Value → Shared → Prop} (hT : s.TypeIs o T)
    (hl : typeLookup (.type T) "__getitem__" = pure none) (hg : wpAny (model prog w) A (getItem o i) Q E s)
    (hs : subscripted slice false o i = operate ops (getItem o i)) : wpAny (model prog w) A (subscriptTail value slice o i) Q E s := by
  unfold subscriptTail
  refine wpAny_bind ?_
  rw [getitemInPython_of_ne hT.not_modules]
  refine wpAny_bind (wpAny_specialOf hT hl ?_)
  have fin : wpAny (model prog w) A (subscripted slice false o i) (fun r s₃ => wpAny (model prog w) A (letTemporaryGo value o r >>= fun _ => pure r) Q E s₃) E s := by
    rw [hs]
    exact wpAny_operating (wpAny_mono hg (fun r s₃ h₃ => wpAny_bind (wpAny_letTemporaryGo (wpAny_pure h₃))) fun _ _ x => x)
  first
    | exact wpAny_pure (wpAny_bind fin)
    | exact wpAny_bind (wpAny_pure (wpAny_bind fin))
    | exact wpAny_bind fin
/-- A row with a first; x is the text of it. -/
def GoodAt (prog : Program) (w : World) (h : Heap) (v : Value) (x : Str) : Prop :=
  FirstTx h v x ∨ (∃ y t c, v = .str y t ∧ y.cps[0]? = some c ∧ x = ⟨#[c]⟩) ∨ ∃ d kvs n t, v = .ref d ∧ h.DictOf (intKind prog w) d kvs ∧ valueAt kvs 0 = some (.int n t) ∧ x = (toString n : Str) ∧ n.natAbs.log2 < 1920
/-- A row without a first. -/
def BadAt (prog : Program) (w : World) (h : Heap) (v : Value) (cls : String) : Prop :=
  (∃ a, v = .ref a ∧ (h.IsList a #[] ∨ h.IsTuple a #[]) ∧ cls = "IndexError") ∨ (∃ t, v = .str (Str.ofString "") t ∧ cls = "IndexError") ∨ (∃ n t, v = .int n t ∧ cls = "TypeError") ∨
    ∃ d kvs, v = .ref d ∧ (d == sysModules) = false ∧ h.DictOf (intKind prog w) d kvs ∧ valueAt kvs 0 = none ∧ cls = "KeyError"
theorem GoodAt.keeps {h h' : Heap} {v : Value} {x : Str} (r : GoodAt prog w h v x) (k : ∀ b o, (∀ ks, o.data ≠ .fields ks) → h.get? b = some o → h'.get? b = some o) : GoodAt prog w h' v x := by
  rcases r with r | r | ⟨d, kvs, n, t, rfl, hd, r⟩
  · exact .inl (r.keeps fun b o ⟨xs, n, hx⟩ e => k b o (fun ks q => by rw [hx] at q; cases q) e)
  · exact .inr (.inl r)
  · obtain ⟨o, es, ep, ho, hc, hda, r2⟩ := hd
    exact .inr (.inr ⟨d, kvs, n, t, rfl, ⟨o, es, ep, k _ _ (fun ks q => by rw [hda] at q; cases q) ho, hc, hda, r2⟩, r⟩)
theorem BadAt.keeps {h h' : Heap} {v : Value} {x : String} (r : BadAt prog w h v x) (k : ∀ b o, (∀ ks, o.data ≠ .fields ks) → h.get? b = some o → h'.get? b = some o) : BadAt prog w h' v x := by
  rcases r with ⟨a, rfl, hl, r⟩ | r | r | ⟨d, kvs, rfl, hs, hd, r⟩
  · refine .inl ⟨a, rfl, ?_, r⟩
    rcases hl with ⟨o, e, c, n, d⟩ | ⟨o, e, c, n, d⟩
    · exact .inl ⟨o, k _ _ (fun ks q => by rw [d] at q; cases q) e, c, n, d⟩
    · exact .inr ⟨o, k _ _ (fun ks q => by rw [d] at q; cases q) e, c, n, d⟩
  · exact .inr (.inl r)
  · exact .inr (.inr (.inl r))
  · obtain ⟨o, es, ep, ho, hc, hda, r2⟩ := hd
    exact .inr (.inr (.inr ⟨d, kvs, rfl, hs, ⟨o, es, ep, k _ _ (fun ks q => by rw [hda] at q; cases q) ho, hc, hda, r2⟩, r⟩))
end
section
variable {prog : Program} {w : World} {A : Around} {E : Value → Shared → Prop} {s : Shared} {g : Heap} {L : Addr} {m mg mb : Str → Option Value} {Q : Value → Shared → Prop}
theorem elt_good {env : Env} (hgl : env.globals = mainGlobals) (hg : g.Ns mainGlobals mg) (hmiss : mg (Str.ofString "str") = none) (hb : g.Ns builtinsNs mb) (hv : mb (Str.ofString "str") = some (.type "str")) {p1 p2 p3 p4 p5 : Pos} {cl : List (Str × Addr)} {scope : Scope}
    (hk : scope.kind = .function) (h1 : scope.names.lookup (Str.ofString "str") = some .globalImplicit) (h2 : scope.names.lookup (Str.ofString "tup") = some .local)
    {C : Addr} {code v : Value} {u : Shared} {m₂ : Str → Option Value} {x : Str} (F : Fr g C u.heap m₂) (hm : m₂ (Str.ofString "tup") = some v) (hx : GoodAt prog w g v x) :
      wpAny (model prog w) A (eval (.Call (.Name (Str.ofString "str") p1) [.Subscript (.Name (Str.ofString "tup") p2) (.Constant (.int 0) 0 p3) p4] [] p5) (genEnv scope cl C code builtinsNs env)) (fun y s₃ => (∃ t, y = .str x t) ∧ Keeps u s₃) E u := by
  rcases hx with hx | ⟨y, t, c, rfl, hy, rfl⟩ | ⟨d, kvs, n, t, rfl, hd, hva, rfl, hn⟩
  · exact elt_first hgl hg hmiss hb hv hk h1 h2 F hm hx
  · refine Call_ (Calls.Name_function_global hk h1 (Calls.loadGlobal_builtin (env := genEnv scope cl C code builtinsNs env) (mg := mg) (by show u.heap.Ns env.globals mg; rw [hgl]; exact hg.keeps F.keep) hmiss (hb.keeps F.keep) hv ?_) (by decide))
    refine Pv.callWith_type1 (spliced_more ?_)
    refine Subscript_ (wpAny_Name (wpAny_loadName_local hk h2 F.ns hm ?_) (by decide))
    refine wpAny_Constant_int ?_
    refine tail_any (s := { u with toks := u.toks + 1 }) (typeIs_str _ y t) slot_str_getitem.lookup (str_in (c := c) (by decide) ?_ fun t2 tk2 => ?_) (by with_unfolding_all rfl)
    · have hsz : 0 < y.cps.size := by
        rcases Nat.eq_zero_or_pos y.cps.size with h0 | h0
        · rw [Array.getElem?_eq_none (by omega)] at hy; cases hy
        · exact h0
      rw [show seqIndex? 0 y.length = some 0 from seqIndex_of (by decide) (by show (0 : Int) < ((y.cps.size : Nat) : Int); omega)]
      exact hy
    refine spliced_none ?_
    exact str_first (.inr ⟨_, rfl⟩) fun t tk => ⟨⟨t, rfl⟩, _, _, rfl, fun _ _ e => e⟩
  · refine Call_ (Calls.Name_function_global hk h1 (Calls.loadGlobal_builtin (env := genEnv scope cl C code builtinsNs env) (mg := mg) (by show u.heap.Ns env.globals mg; rw [hgl]; exact hg.keeps F.keep) hmiss (hb.keeps F.keep) hv ?_) (by decide))
    refine Pv.callWith_type1 (spliced_more ?_)
    refine Subscript_ (wpAny_Name (wpAny_loadName_local hk h2 F.ns hm ?_) (by decide))
    refine wpAny_Constant_int ?_
    have hd' : u.heap.DictOf (intKind prog w) d kvs := hd.keep F.keep
    refine tail_any (s := { u with toks := u.toks + 1 }) (hd'.typeIs (s := { u with toks := u.toks + 1 })) slot_dict_getitem.lookup (wpAny_getItem_of (intKind_is prog w 0 _) (hd'.mapOf) hva ?_) (by with_unfolding_all rfl)
    refine spliced_none ?_
    exact str_first (.inl ⟨n, t, rfl, rfl, hn⟩) fun t tk => ⟨⟨t, rfl⟩, _, _, rfl, fun _ _ e => e⟩
theorem elt_bad {env : Env} (hh : A.handled = none) (hgl : env.globals = mainGlobals) (hg : g.Ns mainGlobals mg) (hmiss : mg (Str.ofString "str") = none) (hb : g.Ns builtinsNs mb) (hv : mb (Str.ofString "str") = some (.type "str")) {p1 p2 p3 p4 p5 : Pos} {cl : List (Str × Addr)} {scope : Scope}
    (hk : scope.kind = .function) (h1 : scope.names.lookup (Str.ofString "str") = some .globalImplicit) (h2 : scope.names.lookup (Str.ofString "tup") = some .local)
    {C : Addr} {code v : Value} {u : Shared} {m₂ : Str → Option Value} {cls : String} (F : Fr g C u.heap m₂) (hm : m₂ (Str.ofString "tup") = some v) (hx : BadAt prog w g v cls) (h : ∀ e s₃, Raised cls e u s₃ → E e s₃) :
      wpAny (model prog w) A (eval (.Call (.Name (Str.ofString "str") p1) [.Subscript (.Name (Str.ofString "tup") p2) (.Constant (.int 0) 0 p3) p4] [] p5) (genEnv scope cl C code builtinsNs env)) Q E u := by
  refine Call_ (Calls.Name_function_global hk h1 (Calls.loadGlobal_builtin (env := genEnv scope cl C code builtinsNs env) (mg := mg) (by show u.heap.Ns env.globals mg; rw [hgl]; exact hg.keeps F.keep) hmiss (hb.keeps F.keep) hv ?_) (by decide))
  refine Pv.callWith_type1 (spliced_more ?_)
  refine Subscript_ (wpAny_Name (wpAny_loadName_local hk h2 F.ns hm ?_) (by decide))
  refine wpAny_Constant_int ?_
  have up : ∀ h' tk e, Heap.NewExc u.heap h' e cls → E (.ref e) { u with heap := h', toks := tk } := fun h' tk e x => h _ _ (raised_of x)
  rcases hx with ⟨a, rfl, hl, rfl⟩ | ⟨t, rfl, rfl⟩ | ⟨n, t, rfl, rfl⟩ | ⟨d, kvs, rfl, hsm, hd, hva, rfl⟩
  · rcases hl with hl | ht
    · have hl' := isList_keeps hl F.keep
      exact tail_any (s := { u with toks := u.toks + 1 }) hl'.typeIs slot_list_getitem.lookup (list_out hh hl' (by decide) (by decide) rfl up) (by with_unfolding_all rfl)
    · have ht' : IsTup u.heap a #[] := isTuple_keeps ht F.keep
      exact tail_any (s := { u with toks := u.toks + 1 }) (IsTup.typeIs (s := { u with toks := u.toks + 1 }) ht') slot_tuple_getitem.lookup (tuple_out hh ht' (by decide) (by decide) rfl up) (by with_unfolding_all rfl)
  · exact tail_any (s := { u with toks := u.toks + 1 }) (typeIs_str _ _ t) slot_str_getitem.lookup (str_out hh (by decide) (by decide) up) (by with_unfolding_all rfl)
  · exact tail_none (s := { u with toks := u.toks + 1 }) (typeIs_int _ n t) int_noget (int_sub hh up) (by with_unfolding_all rfl)
  · have hd' : u.heap.DictOf (intKind prog w) d kvs := hd.keep F.keep
    exact tail_any (s := { u with toks := u.toks + 1 }) (hd'.typeIs (s := { u with toks := u.toks + 1 })) slot_dict_getitem.lookup (wpAny_getItem_missing_of (intKind_is prog w 0 _) hsm hh hd'.mapOf hva fun h' e x => up h' _ e x) (by with_unfolding_all rfl)
end

end

section
open PySem PySem.W PyProof.Rows PySem.Calls PySem.Spec

/-- The end of a call that caught: the caller's frame may bear other slots. -/
def LeaveT (h₀ : Heap) (L : Addr) (m : Str → Option Value) (g : Heap) (R : Result → Shared → Prop) (v : Value) (s' : Shared) : Prop :=
  ∃ g' L' m' news', KtsTurn [L] g g' ∧ Fr g' L' s'.heap m' ∧ News g' L' s'.heap news' ∧ (Fr h₀ L s'.heap m → News h₀ L s'.heap news' → R (.ok (.ret v)) s')
theorem leaveT_ {h₀ g g' : Heap} {L L' : Addr} {m m' : Str → Option Value} {news' : List (Addr × Obj)} {R : Result → Shared → Prop} {v : Value} {s' : Shared} (T : KtsTurn [L] g g') (F' : Fr g' L' s'.heap m') (N' : News g' L' s'.heap news')
    (k : Fr h₀ L s'.heap m → News h₀ L s'.heap news' → R (.ok (.ret v)) s') : LeaveT h₀ L m g R v s' := ⟨g', L', m', news', T, F', N', k⟩
section
variable {prog : Program} {w : World} {A A₀ : Around} {s : Shared} {K : Frag} {L : Addr} {h₀ base : Heap} {m mg mb : Str → Option Value} {news : List (Addr × Obj)} {p : Program} {loose : List Str} {mean : ExcName → Option Value}
/-- A def that may catch is called from the lowest frame: as code_defH. -/
theorem code_defT {env : Env} {R : Result → Shared → Prop} {name qual : Str} {params : Arguments} {body : List Stmt} {scope : Scope} {dV kV doc pm cdv ct oc : Value} {an od : Option Addr} {osl : Array (Option Value)} {f : Addr} {args : Args} {binds : List (Str × Value)}
    (B : Below A₀ base [] h₀) (F : Fr h₀ L s.heap m) (X₀ : K.In h₀) (N : News h₀ L s.heap news) (T : Top p loose mean mg mb h₀) (hA : A.frames = some [env]) (hf : env.frame = some L) (hke : env.scope.kind = .function)
    (ho : K.lookup f = some ⟨oc, od, .func (fnOf name qual params body scope dV kV doc pm an cdv ct), osl⟩) (hcd : codeIn K cdv qual = true) (hroom : A.depth < recursionLimit)
    (hbind : BindsTo s (fnOf name qual params body scope dV kV doc pm an cdv ct) args binds) (hloc : ∀ y ∈ binds, scope.names.lookup y.1 = some .local)
    (h : ∀ g L' h₁, (∀ b o, s.heap.get? b = some o → b ∉ news.map (·.1) → g.get? b = some o) → s.heap.objs.size ≤ L' → Fr h₀ L g m → Fr g L' h₁ (fun y => binds.reverse.lookup y) → News g L' h₁ news → Below A base [env] g → K.In g → Top p loose mean mg mb g →
      wpAny (model prog w) (A.deeper (envOf qual scope L' f cdv)) (execs body (envOf qual scope L' f cdv))
        (fun fl s' => LeaveT h₀ L m g R (match fl with | .ret v => v | _ => .none) s')
        (fun e s' => wpAny (model prog w) (A.deeper (envOf qual scope L' f cdv)) (leaving (envOf qual scope L' f cdv) e) (fun _ s'' => R (.error e) s'') (fun e' s'' => R (.error e') s'') s')
        { s with heap := h₁, toks := s.toks + binds.length })
    (hco : scope.isCoroutine = false) (hgen : scope.isGenerator = false) (hk : scope.kind = .function)
    (hcell : ∀ x ∈ scope.names, x.2 ≠ .cell) : codeAny (model prog w) A (.call (.ref f) args) R s := by
  obtain ⟨FG, BG, st, _⟩ := groundX (R := R) B F N hA hf hke
  refine codeAny_call_def (fd := fnOf name qual params body scope dV kV doc pm an cdv ct) (body := body) (binds := binds) hroom ((X₀.keeps F.keep) _ _ ho) rfl (T.nolimit.keeps F.keep) (codeRec_of (X₀.keeps F.keep) hcd) rfl hbind hcell hloc (fun h₁ hns hk₁ => ?_) hco hgen hk
  refine wpAny_mono (h _ s.heap.objs.size h₁ (fun b o e hb => hideAll_get _ e hb) (Nat.le_refl _) FG ⟨hns, fun b o e => hk₁ b o (of_hideAll _ e), Nat.le_of_eq (hideAll_size _ _)⟩
    (fun p hp => ⟨hk₁ _ _ (N p hp).1, Nat.ne_of_lt (Heap.lt_size (N p hp).1), hideAll_none _ (List.mem_map_of_mem hp)⟩) BG (X₀.keeps st) (T.keeps st)) (fun fl s' hl => ?_) fun _ _ y => y
  obtain ⟨g', L', m', news', T', F', N', k⟩ := hl
  obtain ⟨oL, es, ep, hL, hLd, hLk, hLf⟩ := FG.ns
  obtain ⟨sl, hs⟩ := T'.up hL
  have nL : h₀.get? L = none := kts_self F
  have up : ∀ b o, h₀.get? b = some o → g'.get? b = some o := fun b o e => T'.other b o (FG.keep b o e) fun q => by
    rw [List.mem_singleton.mp q, nL] at e
    cases e
  refine k ⟨⟨_, es, ep, F'.keep _ _ hs, hLd, hLk, hLf⟩, fun b o e => F'.keep b o (up b o e), F.above⟩ fun p hp => ⟨(N' p hp).1, fun q => ?_, ?_⟩
  · have := (N' p hp).2.2
    rw [q, hs] at this
    cases this
  · cases q : h₀.get? p.1 with
    | none => rfl
    | some o =>
      have := (N' p hp).2.2
      rw [up _ _ q] at this
      cases this
end
section
variable {prog : Program} {w : World} {A A₀ : Around} {E : Value → Shared → Prop} {s : Shared} {base g G B : Heap} {outer : List Env} {L x a : Addr} {m mg mb : Str → Option Value} {xs : List Addr} {KF : Frag} {p : Program} {loose : List Str} {mean : ExcName → Option Value} {cls : String} {cn : Str} {cs : Scope} {ccd : Value} {Q : Flow → Shared → Prop}
/-- What a frame that catches a built-in exception stands on: the exception lies in h with its class, B is what stays. -/
structure Landed (base : Heap) (A₀ : Around) (outer : List Env) (env : Env) (cls : String) (g B G : Heap) (L x : Addr) (m : Str → Option Value) (xs : List Addr) (h : Heap) : Prop where
  fly : FlyP (PX cls) B (env :: outer) x .none h
  hBG : ∀ b o, G.get? b = some o → b ∉ xs → b ∉ frs (env :: outer) → B.get? b = some o
  slots : ∀ b o, G.get? b = some o → b ∉ xs → (∀ vs, o.data ≠ .fields vs) → ∃ sl, h.get? b = some { o with slots := sl }
  ground : KtsTurn (frs outer) g (ktsHeap h (frs outer) g) ∧ Fr (ktsHeap h (frs outer) g) L h m ∧ Below A₀ base outer (ktsHeap h (frs outer) g)
theorem land_px {env : Env} {hs : List ExceptHandler} (hA : A.frames = some (env :: outer)) (hf : env.frame = some L) (K : Below A₀ base outer g) (F : Fr g L G m) (hxs : ∀ y ∈ xs, g.get? y = none ∧ y ≠ L)
    (fly : FlyP (PX cls) B (env :: outer) x .none s.heap) (hBG : ∀ b o, G.get? b = some o → b ∉ xs → b ∉ frs (env :: outer) → B.get? b = some o) (slots : ∀ b o, G.get? b = some o → b ∉ xs → (∀ vs, o.data ≠ .fields vs) → ∃ sl, s.heap.get? b = some { o with slots := sl })
    (h : ∀ h', Landed base A₀ outer env cls g B G L x m xs h' → wpAny (model prog w) A (handleBy (.ref x) env hs) Q E { s with heap := h' }) :
    wpAny (model prog w) A (noteFrame (.ref x) env) (fun _ s₂ => wpAny (model prog w) A (setFlight (.ref x) none) (fun _ s₃ => wpAny (model prog w) A (handleBy (.ref x) env hs) Q E s₃) E s₂) E s := by
  refine noteOnP px_keep hA hf fly fun h4 fly4 up4 => ?_
  refine landP (s := { s with heap := h4 }) fly4 fun h5 fly5 k5 => ?_
  have up5 : ∀ b o, G.get? b = some o → b ∉ xs → (∀ vs, o.data ≠ .fields vs) → ∃ sl, h5.get? b = some { o with slots := sl } := fun b o e hb hn => by
    obtain ⟨s1, e1⟩ := slots b o e hb hn
    obtain ⟨s2, e2⟩ := up4 b _ e1 hn
    exact ⟨s2, k5 b _ e2 hn⟩
  exact h h5 ⟨fly5, hBG, up5, ground_at K F hf hxs hBG fly5.1 up5⟩
theorem px_type {h : Heap} {l : List Env} {fl : Value} (fly : FlyP (PX cls) B l x fl h) (hh : s.heap = h) : s.TypeIs (.ref x) cls := by
  obtain ⟨_, _, _, oe, vs, T, oT, ts, he, hp, hd, _⟩ := fly
  subst hh
  exact ⟨oe, he, hp.1⟩
/-- A clause that does not fit. -/
theorem miss_px {T : String} {n : Str} {np : Pos} {b₀ : Stmt} {suite : List Stmt} {pos : Pos} {rest : List ExceptHandler} (LD : Landed base A₀ outer (envOf cn cs L a ccd) cls g B G L x m xs s.heap) (XB : KF.In base) (TB : Top p loose mean mg mb base)
    (ex : nsIn KF mainGlobals n = some none) (hv : bootBuiltins n = some (.type T)) (hn' : n ≠ "__name__")
    (hexc : isSubtype (.type T) (.type "BaseException") = pure true) (hnt : isSubtype (.type ((Manifest.find? T).elim "type" fun y => y.metatype)) (.type "tuple") = pure false) (hsub : isSubtype (.type cls) (.type T) = pure false)
    (hk : cs.kind = .function) (hx : (envOf cn cs L a ccd).kindOf n = some .globalImplicit) (hd : (n == ("__debug__" : Str)) = false)
    (h : wpAny (model prog w) A (handleBy (.ref x) (envOf cn cs L a ccd) rest) Q E s) :
    wpAny (model prog w) A (handleBy (.ref x) (envOf cn cs L a ccd) (.ExceptHandler (some (.Name n np)) none (b₀ :: suite) pos :: rest)) Q E s := by
  obtain ⟨T5, F5, B5⟩ := LD.ground
  refine wpAny_handleBy_builtin (X := cls) (T := T) (b := false) hexc hnt hsub (name_B F5 (XB.keeps B5.stays) (topRead_of (TB.keeps B5.stays)) ex hv hn' ⟨rfl, px_type LD.fly rfl, ?_⟩ hk hx hd)
  rw [if_neg (by decide)]
  exact h
/-- A clause that fits. -/
theorem fit_px {T : String} {n : Str} {np : Pos} {b₀ : Stmt} {suite : List Stmt} {pos : Pos} {rest : List ExceptHandler} (LD : Landed base A₀ outer (envOf cn cs L a ccd) cls g B G L x m xs s.heap) (K : Below A₀ base outer g) (F : Fr g L G m) (hxs : ∀ y ∈ xs, g.get? y = none ∧ y ≠ L) (XB : KF.In base) (TB : Top p loose mean mg mb base)
    (ex : nsIn KF mainGlobals n = some none) (hv : bootBuiltins n = some (.type T)) (hn' : n ≠ "__name__")
    (hexc : isSubtype (.type T) (.type "BaseException") = pure true) (hnt : isSubtype (.type ((Manifest.find? T).elim "type" fun y => y.metatype)) (.type "tuple") = pure false) (hsub : isSubtype (.type cls) (.type T) = pure true)
    (hk : cs.kind = .function) (hx : (envOf cn cs L a ccd).kindOf n = some .globalImplicit) (hd : (n == ("__debug__" : Str)) = false)
    (h : ∀ h' g', KtsTurn (frs outer) g g' → Fr g' L h' m → Below A₀ base outer g' → KF.In g' → Top p loose mean mg mb g' → (∀ b o, B.get? b = some o → h'.get? b = some o) →
      wpAny (model prog w) (A.mark (some (.ref x))) (execs (b₀ :: suite) (envOf cn cs L a ccd)) Q (notedBy (model prog w) (A.mark (some (.ref x))) (envOf cn cs L a ccd) (cameBackBy (model prog w) A (envOf cn cs L a ccd) E)) { s with heap := h' }) :
    wpAny (model prog w) A (handleBy (.ref x) (envOf cn cs L a ccd) (.ExceptHandler (some (.Name n np)) none (b₀ :: suite) pos :: rest)) Q E s := by
  obtain ⟨T5, F5, B5⟩ := LD.ground
  refine wpAny_handleBy_builtin (X := cls) (T := T) (b := true) hexc hnt hsub (name_B F5 (XB.keeps B5.stays) (topRead_of (TB.keeps B5.stays)) ex hv hn' ⟨rfl, px_type LD.fly rfl, ?_⟩ hk hx hd)
  rw [if_pos (by decide)]
  refine landP LD.fly fun h6 fly6 k6 => ?_
  have up6 : ∀ b o, G.get? b = some o → b ∉ xs → (∀ vs, o.data ≠ .fields vs) → ∃ sl, h6.get? b = some { o with slots := sl } := fun b o e hb hn => by
    obtain ⟨s1, e1⟩ := LD.slots b o e hb hn
    exact ⟨s1, k6 b _ e1 hn⟩
  obtain ⟨T6, F6, B6⟩ := ground_at (env := envOf cn cs L a ccd) K F rfl hxs LD.hBG fly6.1 up6
  exact h h6 _ T6 F6 B6 (XB.keeps B6.stays) (TB.keeps B6.stays) fly6.1
end

end

section
open PySem PySem.W PyProof.Rows

structure WS where
  ca : Nat
  cv : List Value
  ep : Nat
  ci : List Int
  b : Int
  n : Int
  nt : Int
  tb : Tok
  tn : Tok
  tnt : Tok
def bump (ci : List Int) (b : Nat) : List Int :=
  let c := ci ++ List.replicate (b + 1 - ci.length) 0
  c.set b (c.getD b 0 + 1)
def scanStep (q : List Int × Nat × Nat × Nat) (k : Nat) : List Int × Nat × Nat × Nat :=
  if k = 32 then (q.1, q.2.1 + 1, q.2.2.1 + 1, q.2.2.2) else (bump q.1 q.2.1, 0, q.2.2.1 + 1, q.2.2.2 + 1)
def scan (l : List Nat) : List Int × Nat × Nat × Nat := l.foldl scanStep ([], 0, 0, 0)
def isSp (k : Nat) : Bool := k == 32 || k == 9
def WSat (pre : List Nat) (c : WS) : Prop := IntsAre c.cv c.ci ∧ c.ci = (scan pre).1 ∧ c.b = ((scan pre).2.1 : Int) ∧ c.n = ((scan pre).2.2.1 : Int) ∧ c.nt = ((scan pre).2.2.2 : Int)
theorem ofSp : Str.ofString " " = (⟨#[32]⟩ : Str) := by rfl
theorem ofTab : Str.ofString "\t" = (⟨#[9]⟩ : Str) := by rfl
theorem one_true {n k : Nat} {y : Str} (e : y = (⟨#[k]⟩ : Str)) (h : ((⟨#[n]⟩ : Str) == y) = true) : n = k := by
  have := eq_of_beq h
  rw [e] at this
  injection this with q
  simpa using q
theorem one_false {n k : Nat} {y : Str} (e : y = (⟨#[k]⟩ : Str)) (h : ((⟨#[n]⟩ : Str) == y) = false) : n ≠ k := by
  intro q
  subst q e
  simp at h
theorem rep_flat {k : Nat} {a : Int} : (List.replicate k [a]).flatten = List.replicate k a := by
  induction k with
  | zero => rfl
  | succ k ih => simp [List.replicate_succ, ih]
theorem scan_snoc (pre : List Nat) (n : Nat) : scan (pre ++ [n]) = scanStep (scan pre) n := by simp [scan]
theorem bump_length (ci : List Int) (b : Nat) : (bump ci b).length = max ci.length (b + 1) := by
  simp only [bump, List.length_set, List.length_append, List.length_replicate]
  omega
theorem bump_ge {ci : List Int} {b : Int} (h0 : 0 ≤ b) (h : (ci.length : Int) ≤ b) :
    (ci ++ (List.replicate (b - ↑ci.length + 1).toNat [(0 : Int)]).flatten).set b.toNat ((ci ++ (List.replicate (b - ↑ci.length + 1).toNat [(0 : Int)]).flatten).getD b.toNat 0 + 1) = bump ci b.toNat := by
  have e : (b - (ci.length : Int) + 1).toNat = b.toNat + 1 - ci.length := by omega
  rw [rep_flat, e]
  rfl
theorem bump_lt {ci : List Int} {b : Int} (h0 : 0 ≤ b) (h : ¬ (ci.length : Int) ≤ b) : ci.set b.toNat (ci.getD b.toNat 0 + 1) = bump ci b.toNat := by
  have e : b.toNat + 1 - ci.length = 0 := by
    by_cases h0 : 0 ≤ b <;> omega
  simp only [bump, e, List.replicate_zero, List.append_nil]
theorem takeWhile_stop {p : Nat → Bool} {pre post : List Nat} {n : Nat} (h : ∀ k ∈ pre, p k = true) (hn : p n = false) : (pre ++ n :: post).takeWhile p = pre := by
  induction pre with
  | nil => simp [hn]
  | cons a r ih => simp [h a (.head _), ih fun k hk => h k (.tail _ hk)]
theorem takeWhile_all {p : Nat → Bool} {l : List Nat} (h : ∀ k ∈ l, p k = true) : l.takeWhile p = l := by
  induction l with
  | nil => rfl
  | cons a r ih => simp [h a (.head _), ih fun k hk => h k (.tail _ hk)]
abbrev tupOf (vs : Array Value) : Obj := { cls := .type "tuple", data := .seq vs }
abbrev wsEnt (w : World) (ws : Str) (t : Tok) (n nt : Int) (tn tnt : Tok) (nr : Nat) (b : Bool) (k1 k2 k3 k4 k5 : Tok) : List DictEntry :=
  [⟨PyData.keyHash w.params (Str.ofString "raw"), .str (Str.ofString "raw") k1, .str ws t⟩, ⟨PyData.keyHash w.params (Str.ofString "n"), .str (Str.ofString "n") k2, .int n tn⟩, ⟨PyData.keyHash w.params (Str.ofString "nt"), .str (Str.ofString "nt") k3, .int nt tnt⟩,
   ⟨PyData.keyHash w.params (Str.ofString "norm"), .str (Str.ofString "norm") k4, .ref nr⟩, ⟨PyData.keyHash w.params (Str.ofString "is_simple"), .str (Str.ofString "is_simple") k5, .bool b⟩]
def wsOf (ws : Str) : List Int × Nat × Nat × Nat := scan (ws.cps.toList.takeWhile isSp)
theorem tuple_led {prog : Program} {w : World} {A : Around} {E : Value → Shared → Prop} {s : Shared} {h₀ : Heap} {L l : Addr} {m : Str → Option Value} {news : List (Addr × Obj)} {vs : List Value} {n : Nat} {Q : Value → Shared → Prop}
    (F : Fr h₀ L s.heap m) (N : News h₀ L s.heap news) (hm : (l, listOf vs.toArray n) ∈ news) (hz : vs.length ≤ 1000000)
    (h : ∀ D h', Fr h₀ L h' m → News h₀ L h' ((D, tupOf vs.toArray) :: news) → (∀ p ∈ news, p.1 < D) → Q (.ref D) { s with heap := h' }) :
    wpAny (model prog w) A (call (.type "tuple") [.ref l]) Q E s := by
  refine call_tuple_list (items := vs.toArray) ⟨_, N.get hm, rfl, n, rfl⟩ (fun h' hk => ?_) (by rw [List.size_toArray]; exact Nat.le_trans hz (by decide))
  have F' := fr_stays F hk
  have N' := news_stays N hk
  exact h _ _ (F'.push _) (N'.push F' _) fun p hp => Heap.lt_size (N' p hp).1

end

section
open PySem PySem.W PyProof.Rows
local macro_rules | `(tactic| walk_at "GO") => `(tactic| repeat' ((fail_if_success (with_reducible show wpAny _ _ (pyIter _) _ _ _)); (fail_if_success (with_reducible show wpAny _ _ (compareOp CmpOp.NotEq (Value.ref _) (Value.ref _)) _ _ _)); (fail_if_success (with_reducible show wpAny _ _ (compareOp CmpOp.Eq (Value.ref _) (Value.ref _)) _ _ _)); (fail_if_success (with_reducible show wpAny _ _ (exec (Stmt.While _ _ _ _) _) _ _ _)); (fail_if_success (with_reducible show LCg.CompSrc _ _ _ _ _ _ _ _ _ _ _ _ _ _)); first | (k_unfold; (try dsimp only)) | (k_end; wrow_close) | walk1 | (dsimp only; walk1) | (leave1; walk_say "STEP leave1"; try dsimp only) | fail "no step"))
local macro_rules | `(tactic| walk_at "DAT") => `(tactic| first | exact DatIn.int _ _ | exact DatIn.bool _ | exact DatIn.str _ _ | (refine' DatIn.tuple ?m9 ?r9; (case m9 => k_mem); (case r9 => walk_at "DATS")) | (refine' DatIn.list ?m9 ?r9; (case m9 => k_mem); (case r9 => walk_at "DATS")))
local macro_rules | `(tactic| walk_at "DATS") => `(tactic| first | exact DatAll.nil | exact datAll_ints (by assumption) | (refine' DatAll.cons ?x9 ?y9; (case x9 => walk_at "DAT"); (case y9 => walk_at "DATS")))
local macro_rules | `(tactic| walk_at "ITER") => `(tactic| (k_here; (rename Fr _ _ _ _ => lF'); (with_unfolding_all refine' For_invVF lF' ?k1 ?k2 ?_; (case k1 => exact rfl); (case k2 => exact rfl); k_whole)))
local macro_rules | `(tactic| walk_at "exec For Name Subscript cons nil") => `(tactic| walk_at "ITER")
local macro_rules | `(tactic| walk_at "exec For Name BinOp cons nil") => `(tactic| walk_at "ITER")
local macro_rules | `(tactic| walk_at "exec For Name List cons nil") => `(tactic| walk_at "ITER")
local macro_rules | `(tactic| walk_at "exec For Name Call cons nil") => `(tactic| walk_at "ITER")
local macro_rules | `(tactic| walk_at "exec For Name Name cons nil") => `(tactic| walk_at "ITER")
local macro_rules | `(tactic| walk_at "subscriptTail Attribute Name Constant ref int") => `(tactic| (k_here; (with_reducible show wpAny _ _ (subscriptTail _ _ (Value.ref _) (Value.int _ _)) _ _ _); k_dflt (refine' item_tupLed (n := _) ?N ?hm ?lo ?hi ?hj ?hx ?_ ?hs; (case N => k_asm); (case hm => k_mem); (case lo => decide); (case hi => decide); (case hj => exact rfl); (case hx => exact rfl); (case hs => with_unfolding_all rfl); k_whole)))
local macro_rules | `(tactic| walk_at "subscriptTail Name UnaryOp ref int") => `(tactic| (k_here; (with_reducible show wpAny _ _ (subscriptTail _ _ (Value.ref _) (Value.int _ _)) _ _ _); k_dflt (refine' item_lastI (n := _) ?N ?hm ?hi ?hk ?hne ?_ ?hs; (case N => k_asm); (case hm => k_mem); (case hi => assumption); (case hk => rfl); (case hne => assumption); (case hs => with_unfolding_all rfl); k_whole); intro _))
local macro_rules | `(tactic| walk_at "call type:list") => `(tactic| (k_here; (with_reducible show wpAny _ _ (call (Value.type _) [Value.ref _]) _ _ _); k_dflt (refine' list_of_tup (n := _) ?F ?N ?hm ?hz ?_; (case F => k_asm); (case N => k_asm); (case hm => k_mem); (case hz => ((have hq9 := IntsAre.length (by assumption)); omega)); k_whole); intro D' e' h' F' N' l1; (try k_lt l1); (try k_sweep)))
local macro_rules | `(tactic| walk_at "LB") => `(tactic| first | assumption | (with_reducible refine' app_len ?x9 ?y9; (case x9 => walk_at "LB"); (case y9 => walk_at "LB")) | exact (tab_len (B := 64) (by decide)) | (refine (?_ : _ ≤ 64); exact Nat.le_of_ble_eq_true rfl))
local macro_rules | `(tactic| walk_at "LEN") => `(tactic| first | omega | decide | exact Nat.le_trans (tab_len (B := 64) (by decide)) (by decide) | ((refine' len_le ?p9 ?q9); (case p9 => walk_at "LB"); (case q9 => first | decide | omega)))
local macro_rules | `(tactic| walk_at "binaryOp Add str str") => `(tactic| (k_here; (with_reducible show wpAny _ _ (binaryOp Operator.Add (Value.str _ _) (Value.str _ _)) _ _ _); (refine add_str ?_ (add_fits ?h1 ?h2)); (case h1 => walk_at "LEN"); (case h2 => walk_at "LEN"); intro _ _))
local macro_rules | `(tactic| walk_at "call type:tuple") => `(tactic| (k_here; (with_reducible show wpAny _ _ (call (Value.type _) [Value.ref _]) _ _ _); k_dflt (refine' tuple_led ?k1 ?k2 ?k3 ?k4 ?_; (case k1 => k_asm); (case k2 => k_asm); (case k3 => k_mem); (case k4 => first | (refine' Nat.le_trans (Nat.le_of_eq (IntsAre.length ?hi9)) ?lq9; (case hi9 => assumption); (case lq9 => ((try simp only [List.length_set, List.length_append, List.length_cons, List.length_nil, List.length_map, List.length_range]); omega))) | ((simp only [List.length_cons, List.length_nil, List.length_set]); omega)); k_whole); intro D' h' F' N' l1; (try k_lt l1); (try k_sweep)))
local macro_rules | `(tactic| walk_at "eval ListComp") => `(tactic| (k_here; k_dflt (refine LCg.ListComp_U (F₀ := by k_asm) (by with_unfolding_all rfl) (by decide) (by rfl) (by decide) (by rfl) ?_)))
local macro_rules | `(tactic| walk_at "exec Assign cons ListComp") => `(tactic| (k_here; k_dflt (refine LCg.Assign_ListComp_U (F₀ := by k_asm) (by rfl) (by with_unfolding_all rfl) (by with_unfolding_all rfl) (by decide) (by rfl) (by decide) (by rfl) (by rfl) (by rfl) ?_)))
local macro_rules | `(tactic| walk_at "call builtin:str.split") => `(tactic| (k_here; (with_reducible show wpAny _ _ (call (Value.builtin "str.split") [Value.str _ _, Value.str _ _]) _ _ _); k_dflt (refine' KSpl.split1 ?kF ?kN ?ky ?_ ?ks; (case kF => k_asm); (case kN => k_asm); (case ky => decide); (case ks => (rw [PySem.sizeLine_eq]; (first | omega | (refine Nat.le_trans (Nat.add_le_add_right (PySem.Txt.slice_le _ _ _) 2) ?_; omega)))); k_whole); intro D' l' h' k' e' a' F' N' l1; (try k_lt l1); (try k_sweep)))
local macro_rules | `(tactic| walk_at "INTS") => `(tactic| first | assumption | exact IntsAre.nil | (refine' IntsAre.cons _ _ ?i9; walk_at "INTS"))
local macro_rules | `(tactic| walk_at "ILEN") => `(tactic| ((try simp only [List.length_append, List.length_cons, List.length_nil, List.length_map, List.length_range, List.length_set, List.length_replicate]); omega))
local macro_rules | `(tactic| walk_at "binaryOp Add ref ref") => `(tactic| (k_here; (with_reducible show wpAny _ _ (binaryOp Operator.Add (Value.ref _) (Value.ref _)) _ _ _); k_dflt (refine' addI_led ?F ?N ?a ?b ?i ?j ?z ?_; (case F => k_asm); (case N => k_asm); (case a => k_mem); (case b => k_mem); (case i => walk_at "INTS"); (case j => walk_at "INTS"); (case z => walk_at "ILEN"); k_whole); intro D' h' F' N' l1 hI'; (try k_lt l1); (try k_sweep)))
local macro_rules | `(tactic| walk_at "call builtin:max") => `(tactic| (k_here; (with_reducible show wpAny _ _ (call (Value.builtin "max") [Value.ref _]) _ _ _); k_dflt (refine' maxI_led ?hh ?F ?N ?a ?i ?z ?_; (case hh => exact rfl); (case F => k_asm); (case N => k_asm); (case a => k_mem); (case i => walk_at "INTS"); (case z => simp); k_whole); intro h' M' t' tk' F' N' hM' hU'; (try k_sweep)))
local macro_rules | `(tactic| walk_at "call builtin:list.count") => `(tactic| (k_here; (with_reducible show wpAny _ _ (call (Value.builtin "list.count") [Value.ref _, Value.int _ _]) _ _ _); k_dflt (refine' countI_led ?N ?a ?i ?_; (case N => k_asm); (case a => k_mem); (case i => walk_at "INTS"); k_whole); intro _ _))
local macro_rules | `(tactic| walk_at "binaryOp Mult str int") => `(tactic| (k_here; (with_reducible show wpAny _ _ (binaryOp Operator.Mult (Value.str _ _) (Value.int _ _)) _ _ _); k_dflt (refine' mul_led ?h1 ?h2 ?h3 ?_; (case h1 => first | decide | omega | ((refine' len_le ?p9 ?q9); (case p9 => walk_at "LB"); (case q9 => first | decide | omega))); (case h2 => ((try k_fmods); omega)); (case h3 => ((try k_fmods); omega)); k_whole); intro _ _))
local macro_rules | `(tactic| walk_at "call builtin:str.join") => `(tactic| (k_here; (with_reducible show wpAny _ _ (call (Value.builtin "str.join") [Value.str _ _, Value.ref _]) _ _ _); k_dflt (refine' join_led ?N ?a ?i ?z ?_; (case N => k_asm); (case a => k_mem); (case i => assumption); (case z => assumption); k_whole); intro _ _))
local macro_rules | `(tactic| walk_at "IDX") => `(tactic| first | omega | ((simp only [List.length_append, List.length_cons, List.length_nil, List.length_map, List.length_range, List.length_set, List.length_replicate]); omega))
local macro_rules | `(tactic| walk_at "SUBI") => `(tactic| (k_here; (with_reducible show wpAny _ _ (subscriptTail _ _ (Value.ref _) (Value.int _ _)) _ _ _); k_dflt (refine' ksa_sub ?k1 ?k2 ?k3 ?k4 ?k5 ?k6 ?_ ?k7; (case k1 => k_asm); (case k2 => k_mem); (case k3 => with_reducible assumption); (case k4 => walk_at "IDX"); (case k5 => walk_at "IDX"); (case k6 => walk_at "IDX"); (case k7 => with_unfolding_all rfl); k_whole); intro _))
local macro_rules | `(tactic| walk_at "subscriptTail Name Name ref int") => `(tactic| walk_at "SUBI")
local macro_rules | `(tactic| walk_at "subscriptTail Name BinOp ref int") => `(tactic| walk_at "SUBI")
local macro_rules | `(tactic| walk_at "getItem ref int") => `(tactic| (k_here; (with_reducible show wpAny _ _ (getItem (Value.ref _) (Value.int _ _)) _ _ _); k_dflt (refine' ksa_get ?k1 ?k2 ?k3 ?k4 ?k5 ?k6 ?_; (case k1 => k_asm); (case k2 => k_mem); (case k3 => with_reducible assumption); (case k4 => walk_at "IDX"); (case k5 => walk_at "IDX"); (case k6 => walk_at "IDX"); k_whole); intro _))
local macro_rules | `(tactic| walk_at "setItem ref int") => `(tactic| (k_here; (with_reducible show wpAny _ _ (setItem (Value.ref _) (Value.int _ _) (Value.int _ _)) _ _ _); k_dflt (refine' ksa_set ?k1 ?k2 ?k3 ?k4 ?k5 ?k6 ?k7 ?_; (case k1 => k_asm); (case k2 => k_asm); (case k3 => k_upd); (case k4 => with_reducible assumption); (case k5 => walk_at "IDX"); (case k6 => walk_at "IDX"); (case k7 => walk_at "IDX"); k_whole); intro h' F' N' hi' hl' hs'; clear hs'; (try k_sweep)))
local macro_rules | `(tactic| walk_at "DATE") => `(tactic| first | (with_reducible exact DatIn.int _ _) | exact datInt (by assumption) | exact datInt (by decide) | (refine' DatIn.tuple ?m9 ?r9; (case m9 => k_mem); (case r9 => walk_at "DATES")))
local macro_rules | `(tactic| walk_at "DATES") => `(tactic| first | exact DatAll.nil | exact datInts (by assumption) (by assumption) | exact datAll_ints (by assumption) | (refine' DatAll.cons ?x9 ?y9; (case x9 => walk_at "DATE"); (case y9 => walk_at "DATES")))
local macro_rules | `(tactic| walk_at "subscriptTail Name Slice ref ref") => `(tactic| (k_here; (with_reducible show wpAny _ _ (subscriptTail _ _ (Value.ref _) (Value.ref _)) _ _ _); k_dflt (refine' slice_ledI ?F ?N ?hm ?hi ?pl ?pu ?pk ?h0 ?hz ?_ ?hs ?ht; (case F => k_asm); (case N => k_asm); (case hm => k_mem); (case hi => assumption); (case pl => first | exact IsPart.none | exact IsPart.int _ _); (case pu => first | exact IsPart.none | exact IsPart.int _ _); (case pk => first | exact IsPart.none | exact IsPart.int _ _); (case h0 => simp); (case hz => walk_at "ILEN"); (case hs => with_unfolding_all rfl); (case ht => (intro _; with_unfolding_all rfl)); k_whole); intro D' us' h' F' N' l1 hI'; (try k_lt l1); (try k_sweep); (first | rw [pickL_to _ (by omega)] at hI' | rw [pickL_from _ (by omega)] at hI' | rw [pickL_rev] at hI' | rw [pickL_odds] at hI' | rw [pickL_evens] at hI' | skip)))
open PySem PySem.W PyProof.Rows


def kd (x : Int) : Int := x.fmod 8
def hv (x : Int) : Int := (x.fdiv 8).fmod 1000 - 300
abbrev tupB (vs : Array Value) (n : Nat) : Obj := { cls := .type "tuple", data := .seq vs n }
/-- o, at a, is the row of x. -/
def RowObj (prog : Program) (w : World) (x : Int) (a : Addr) (o : Obj) : Prop :=
  (kd x = 0 ∧ ∃ t1 t2 t3 n, o = tupB #[.int (hv x) t1, .int 1 t2, .int 2 t3] n) ∨ (kd x = 1 ∧ ∃ t n, o = W.listOf #[.int (hv x) t] n) ∨ (kd x = 3 ∧ ∃ t1 t2 n, o = tupB #[.str (Str.ofString "eight") t1, .int (hv x) t2] n) ∨
  (kd x = 4 ∧ (a == sysModules) = false ∧ ∃ t1 t2, o.IsDictOf (intKind prog w) [(0, .int (hv x) t1), (1, .int 7 t2)]) ∨ (kd x = 5 ∧ (hv x).fmod 3 = 0 ∧ ∃ n, o = tupB #[] n) ∨ (kd x = 5 ∧ (hv x).fmod 3 = 1 ∧ ∃ n, o = W.listOf #[] n) ∨
  (kd x = 7 ∧ (a == sysModules) = false ∧ ∃ t, o.IsDictOf (intKind prog w) [(1, .int (hv x) t)])
def RowV (x : Int) (v : Value) : Prop :=
  (kd x = 2 ∧ ∃ t, v = .str (Str.ofString "tab") t) ∨ (kd x = 6 ∧ ∃ t, v = .int (hv x) t) ∨ (kd x = 5 ∧ (hv x).fmod 3 = 2 ∧ ∃ t, v = .str (Str.ofString "") t)
/-- v is the row of x, its object is one of objs. -/
def RowAt (prog : Program) (w : World) (objs : List (Addr × Obj)) (x : Int) (v : Value) : Prop := RowV x v ∨ ∃ a o, v = .ref a ∧ (a, o) ∈ objs ∧ RowObj prog w x a o
theorem RowAt.mono {prog : Program} {w : World} {l l' : List (Addr × Obj)} {x : Int} {v : Value} (r : RowAt prog w l x v) (h : ∀ p ∈ l, p ∈ l') : RowAt prog w l' x v := by
  rcases r with r | ⟨a, o, e, hm, r⟩
  · exact .inl r
  · exact .inr ⟨a, o, e, h _ hm, r⟩
theorem kd_lt (x : Int) : 0 ≤ kd x ∧ kd x < 8 := ⟨Int.fmod_nonneg_of_pos _ (by decide), Int.fmod_lt_of_pos _ (by decide)⟩
theorem hv_bd (x : Int) : -300 ≤ hv x ∧ hv x < 700 := by
  have h1 : 0 ≤ (x.fdiv 8).fmod 1000 := Int.fmod_nonneg_of_pos _ (by decide)
  have h2 : (x.fdiv 8).fmod 1000 < 1000 := Int.fmod_lt_of_pos _ (by decide)
  unfold hv
  omega
theorem gone {h g : Heap} {R : Addr} (st : ∀ b o, h.get? b = some o → g.get? b = some o) (e : g.get? R = none) : h.get? R = none := by
  cases q : h.get? R with
  | none => rfl
  | some o2 =>
    have := st _ _ q
    rw [e] at this
    cases this
theorem row02 (w : World) (mean : ExcName → Option Value) (mg mb : Str → Option Value) :
  ∀ (dp un : Nat) (gd : Option (List Code)) (cn : Str) (cs : Scope) (a : Addr) (ccd : Value) (cl : List (Str × Addr)) (outer : List Env) (A₀ : Around) (base h₀ : Heap) (L : Addr) (m : Str → Option Value) (s : Shared) (v : Int) (tv : Tok)
    (Q E : Value → Shared → Prop),
    Below A₀ base outer h₀ → Fr h₀ L s.heap m → (hd02.heap_39 w.params).In h₀ → Top topProg (looseW hd02.view_39 [] ++ (recsOf hd02.view_39).map (·.name) ++ (litsOf hd02.view_39).map (·.1) ++ (clssOf hd02.view_39 (looseW hd02.view_39 [])).map (·.name)) mean mg mb h₀ → cs.kind = .function →
     dp + 10 < recursionLimit → un + 80 < cLine →
    (∀ h' tk y own, Fr h₀ L h' m → News h₀ L h' own → RowAt Challenge.rw_dn0186_02.row.prog w own v y → s.heap.StaysIn h' → (∀ p ∈ own, s.heap.get? p.1 = none) → Q y { s with heap := h', toks := tk }) →
    wpAny (model Challenge.rw_dn0186_02.row.prog w) (ktrTop dp un gd cn cs L a ccd cl outer) (call (.ref 28) [.int v tv]) Q E s := by
  k_fill
  intro dp un gd cn cs a ccd cl outer A₀ base h₀ L m s v tv Q E B F X T hk  hd hu hret
  refine wpAny_call ?_
  k_dflt (refine' code_defH ?k1 ?k2 ?k3 ?k4 ?k5 ?kA ?kF ?kK ?k6 ?k7 ?k8 ?k9 ?kB ?_ ?c2 ?c3 ?c4 ?c5; (case kA => exact rfl); (case kF => exact rfl); (case kK => assumption); (case k1 => k_asm); (case k2 => k_asm); (case k3 => k_asm); (case k4 => exact News.nil); (case k5 => k_asm); (case k6 => k_is); (case k7 => k_is); (case k8 => ktr_room); (case k9 => exact BindsTo.of_eq rfl); (case c5 => decide); (case kB => exact locs rfl); (case c2 => exact rfl); (case c3 => exact rfl); (case c4 => exact rfl); k_whole)
  intro g L' h' stG hszL FG' F' N' B' X' T'
  (try dsimp only)
  (try k_fold)
  w_on
  walk_at "GO"
  all_goals (
    rename Fr h₀ L _ m => kF
    rename News h₀ L _ _ => kN
    rename Fr g L' _ _ => Fz
    rename News g L' _ _ => Nz
    refine hret _ _ _ _ kF kN ?_ (fun b o e => Fz.keep b o (stG b o e (by simp))) (fun p hp => gone (fun b o e => stG b o e (by simp)) (Nz p hp).2.2))
  · exact .inr ⟨_, _, rfl, .head _, .inl ⟨by assumption, _, _, _, _, rfl⟩⟩
  · exact .inr ⟨_, _, rfl, .head _, .inr (.inl ⟨by assumption, _, _, rfl⟩)⟩
  · exact .inl (.inl ⟨by assumption, _, rfl⟩)
  · exact .inr ⟨_, _, rfl, .head _, .inr (.inr (.inl ⟨by assumption, _, _, _, rfl⟩))⟩
  · exact .inr ⟨_, _, rfl, .head _, .inr (.inr (.inr (.inl ⟨by assumption, by assumption, _, _, by assumption⟩)))⟩
  · exact .inr ⟨_, _, rfl, by k_mem, .inr (.inr (.inr (.inr (.inl ⟨by assumption, by assumption, _, rfl⟩))))⟩
  · exact .inr ⟨_, _, rfl, by k_mem, .inr (.inr (.inr (.inr (.inr (.inl ⟨by assumption, by assumption, _, rfl⟩)))))⟩
  · exact .inl (.inr (.inr ⟨by assumption, by assumption, _, rfl⟩))
  · exact .inl (.inr (.inl ⟨by assumption, _, rfl⟩))
  · exact .inr ⟨_, _, rfl, .head _, .inr (.inr (.inr (.inr (.inr (.inr ⟨by (have := kd_lt v; unfold kd at this ⊢; omega), by assumption, _, by assumption⟩)))))⟩

open PySem PySem.W PyProof.Rows


def fwTx (ts : List Str) : Str := (if 1 < ts.length then (Str.ofString "at tab size" ++ Str.ofString "s") else Str.ofString "at tab size") ++ Str.ofString " " ++ Txt.join (Str.ofString ", ") ts
local macro_rules | `(tactic| walk_at "call builtin:len") => `(tactic| (k_here; (with_reducible show wpAny _ _ (call (Value.builtin "len") [Value.ref _]) _ _ _); k_dflt (refine' len_base ?F ?t ?i ?z ?_; (case F => k_asm); (case t => assumption); (case i => assumption); (case z => omega); k_whole); intro _ _))
local macro_rules | `(tactic| walk_at "call builtin:str.join") => `(tactic| (k_here; dsimp only [List.cons_append, List.nil_append]; (with_reducible show wpAny _ _ (call (Value.builtin "str.join") [Value.str _ _, Value.ref _]) _ _ _); k_dflt (refine' join_ready ?F ?N ?o ?G ?R _ ?h1 ?h2 ?_ ?h3; (case F => k_asm); (case N => k_asm); (case G => assumption); (case R => assumption); (case o => assumption); (case h2 => assumption); (case h1 => exact fun _ _ h => h); (case h3 => assumption); k_whole); intro h' gs' tk' t' F' N' hG' hk'))
theorem fw02 (w : World) (mean : ExcName → Option Value) (mg mb : Str → Option Value) :
  ∀ (dp un : Nat) (gd : Option (List Code)) (cn : Str) (cs : Scope) (a : Addr) (ccd : Value) (cl : List (Str × Addr)) (outer : List Env) (A₀ : Around) (base h₀ : Heap) (L : Addr) (m : Str → Option Value) (s : Shared) (D : Addr) (ps : Array Value) (vs : List Value) (ts : List Str)
    (Q E : Value → Shared → Prop),
    Below A₀ base outer h₀ → Fr h₀ L s.heap m → (hd02.heap_39 w.params).In h₀ → News h₀ L s.heap [(16, tabObj ps)] → Top topProg (looseW hd02.view_39 [] ++ (recsOf hd02.view_39).map (·.name) ++ (litsOf hd02.view_39).map (·.1) ++ (clssOf hd02.view_39 (looseW hd02.view_39 [])).map (·.name)) mean mg mb h₀ → cs.kind = .function → CodeHd h₀ 20 16 →
    TabForm ⟨3, 13, 3, 39⟩ ps → AllBare s.gens → (s.heap.IsList D vs.toArray ∨ s.heap.IsTuple D vs.toArray) → vs.length = ts.length → (∀ i v, vs[i]? = some v → GoodAt Challenge.rw_dn0186_02.row.prog w s.heap v (ts.getD i ⟨#[]⟩)) → ts.length ≤ 1000 → (ts.map (·.length)).sum ≤ 100000 → dp + 10 < recursionLimit → un + 80 < cLine →
    (∀ h' gs tk ps' t, Fr h₀ L h' m → News h₀ L h' [(16, tabObj ps')] → TabForm ⟨3, 13, 3, 39⟩ ps' → AllBare gs → (∀ b o, b ≠ 16 → s.heap.get? b = some o → h'.get? b = some o) → Q (.str (fwTx ts) t) { s with heap := h', gens := gs, toks := tk }) →
    wpAny (model Challenge.rw_dn0186_02.row.prog w) (ktrTop dp un gd cn cs L a ccd cl outer) (call (.ref 21) [.ref D]) Q E s := by
  k_fill
  intro dp un gd cn cs a ccd cl outer A₀ base h₀ L m s D ps vs ts Q E B F X N T hk CH hf hG hD hlen hrow htl hts hd hu hret
  refine wpAny_call ?_
  k_dflt (refine' code_defH ?k1 ?k2 ?k3 ?k4 ?k5 ?kA ?kF ?kK ?k6 ?k7 ?k8 ?k9 ?kB ?_ ?c2 ?c3 ?c4 ?c5; (case kA => exact rfl); (case kF => exact rfl); (case kK => assumption); (case k1 => k_asm); (case k2 => k_asm); (case k3 => k_asm); (case k4 => k_asm); (case k5 => k_asm); (case k6 => k_is); (case k7 => k_is); (case k8 => ktr_room); (case k9 => exact BindsTo.of_eq rfl); (case c5 => decide); (case kB => exact locs rfl); (case c2 => exact rfl); (case c3 => exact rfl); (case c4 => exact rfl); k_whole)
  intro g L' h' stG hszL FG' F' N' B' X' T'
  have hP := (N _ (.head _)).1
  have kg : ∀ b o, (∃ xs n, o.data = .seq xs n) → s.heap.get? b = some o → g.get? b = some o := fun b o ⟨xs, n, hx⟩ e => stG b o e fun q => by
    rw [List.map_cons, List.map_nil, List.mem_singleton] at q
    subst q
    rw [hP] at e
    cases e
    cases hx
  have kf : ∀ b o, (∀ ks, o.data ≠ .fields ks) → s.heap.get? b = some o → g.get? b = some o := fun b o hx e => stG b o e fun q => by
    rw [List.map_cons, List.map_nil, List.mem_singleton] at q
    subst q
    rw [hP] at e
    cases e
    exact hx _ rfl
  have hDg : g.IsList D vs.toArray ∨ g.IsTuple D vs.toArray := by
    rcases hD with ⟨o, e, c, n, d⟩ | ⟨o, e, c, n, d⟩
    · exact .inl ⟨o, kg _ _ ⟨_, _, d⟩ e, c, n, d⟩
    · exact .inr ⟨o, kg _ _ ⟨_, _, d⟩ e, c, n, d⟩
  (try dsimp only)
  (try k_fold)
  w_on
  walk_at "GO"
  refine genexp_tab (D := D) (vs := vs) (c := 20) (cl := []) (Fv := fun i y => ∃ t, y = .str (ts.getD i ⟨#[]⟩) t) F' N' (CH.keeps FG'.keep) T' hf hG rfl rfl rfl rfl (by with_unfolding_all rfl) (by decide) rfl rfl rfl (by ktr_room) hDg ?hit ?hel ?hQ (by intro _; rfl)
  case hit =>
    intro Q' hq
    refine ld F' rfl hq
  case hel =>
    intro C code A' E' i v u m₂ hA hD hU hi hF hm hLC
    exact elt_good rfl T'.g (mg_none_of X' T'.g (by kernel_rfl)) T'.b ((T'.builtins _ (by decide)).trans (by boot_fact)) rfl rfl rfl hF hm ((hrow i v hi).keeps kf)
  case hQ =>
    intro a9 oa C9 oC I9 oI h₅ tk5 gs5 ps5 hG5 F5 N5 hf5 l1 l2 l3 hk5 R5
    have hjl : (Txt.join (Str.ofString ", ") ts).length ≤ 102000 := join_len _ _ (by have : (Str.ofString ", ").length = 2 := by decide
                                                                                     rw [this]; omega)
    have hmp : (List.range vs.length).map (fun i => ts.getD i ⟨#[]⟩) = ts := map_getD ts _ hlen
    have hjo : JoinOk (Str.ofString ", ") ((List.range vs.length).map fun i => ts.getD i ⟨#[]⟩) = true := by
      rw [hmp]
      refine joinOk_of ?_
      have : (Str.ofString ", ").length = 2 := by decide
      rw [this]; omega
    have hvn : vs.length ≤ sizeLine := by rw [PySem.sizeLine_eq]; omega
    have h16 : (16 : Nat) < s.heap.objs.size := Heap.lt_size hP
    have hsI : s.heap.objs.size ≤ h'.objs.size := Nat.le_trans hszL (Nat.le_of_lt F'.ns.lt)
    have ho9 : ∀ q ∈ [((16 : Addr), tabObj ps5)], q.1 ≠ C9 ∧ q.1 ≠ I9 := fun q hq => by
      rw [List.mem_singleton.mp hq]
      have hI : (16 : Nat) < I9 := Nat.lt_of_lt_of_le h16 (Nat.le_trans hsI l1)
      exact ⟨Nat.ne_of_lt (Nat.lt_trans hI l2), Nat.ne_of_lt hI⟩
    walk_at "GO"
    all_goals rw [hmp]
    all_goals walk_at "GO"
    · rename 1 < (ts.length : Int) => h1
      rename Fr h₀ L _ m => kF
      rename News h₀ L _ _ => kN
      rename Fr g L' _ _ => Fz
      have e : fwTx ts = Str.ofString "at tab size" ++ Str.ofString "s" ++ Str.ofString " " ++ Txt.join (Str.ofString ", ") ts := by unfold fwTx; rw [if_pos (by omega)]
      refine Eq.mp (congrArg (fun x => Q (Value.str x _) _) e) (hret _ _ _ _ _ kF kN hf5 (by assumption) fun b o hb e => Fz.keep b o (stG b o e (by simpa using hb)))
    · rename ¬ 1 < (ts.length : Int) => h1
      rename Fr h₀ L _ m => kF
      rename News h₀ L _ _ => kN
      rename Fr g L' _ _ => Fz
      have e : fwTx ts = Str.ofString "at tab size" ++ Str.ofString " " ++ Txt.join (Str.ofString ", ") ts := by unfold fwTx; rw [if_neg (by omega)]
      refine Eq.mp (congrArg (fun x => Q (Value.str x _) _) e) (hret _ _ _ _ _ kF kN hf5 (by assumption) fun b o hb e => Fz.keep b o (stG b o e (by simpa using hb)))
local macro_rules | `(tactic| walk_at "call builtin:len") => `(tactic| (k_here; (with_reducible show wpAny _ _ (call (Value.builtin "len") [Value.ref _]) _ _ _); k_dflt (refine' len_base (n := _) ?F ?t rfl ?z ?_; (case F => k_asm); (case t => assumption); (case z => omega); k_whole); intro _ _))
theorem fwx02 (w : World) (mean : ExcName → Option Value) (mg mb : Str → Option Value) :
  ∀ (dp un : Nat) (gd : Option (List Code)) (cn : Str) (cs : Scope) (a : Addr) (ccd : Value) (cl : List (Str × Addr)) (outer : List Env) (A₀ : Around) (base h₀ : Heap) (L : Addr) (m : Str → Option Value) (s : Shared) (D : Addr) (ps : Array Value) (vs : List Value) (ts : List Str) (nb : Nat) (cls : String)
    (Q E : Value → Shared → Prop),
    Below A₀ base outer h₀ → Fr h₀ L s.heap m → (hd02.heap_39 w.params).In h₀ → News h₀ L s.heap [(16, tabObj ps)] → Top topProg (looseW hd02.view_39 [] ++ (recsOf hd02.view_39).map (·.name) ++ (litsOf hd02.view_39).map (·.1) ++ (clssOf hd02.view_39 (looseW hd02.view_39 [])).map (·.name)) mean mg mb h₀ → cs.kind = .function → CodeHd h₀ 20 16 →
    TabForm ⟨3, 13, 3, 39⟩ ps → AllBare s.gens → (s.heap.IsList D vs.toArray ∨ s.heap.IsTuple D vs.toArray) → vs.length ≤ 1000 → nb < vs.length → (∀ i v, i < nb → vs[i]? = some v → GoodAt Challenge.rw_dn0186_02.row.prog w s.heap v (ts.getD i ⟨#[]⟩)) → (∀ v, vs[nb]? = some v → BadAt Challenge.rw_dn0186_02.row.prog w s.heap v cls) → isSubtype (.type cls) (.type "StopIteration") = pure false → dp + 10 < recursionLimit → un + 80 < cLine →
    (∀ (x : Addr) (B h' : Heap) (gs : Array GenState) (tk : Nat) (ps' : Array Value), FlyP (PX cls) B (envOf cn cs L a ccd :: outer) x .none h' → (∀ b o, b ≠ 16 → s.heap.get? b = some o → b ∉ frs (envOf cn cs L a ccd :: outer) → B.get? b = some o) →
      (∀ b o, b ≠ 16 → s.heap.get? b = some o → (∀ vs, o.data ≠ .fields vs) → ∃ sl, h'.get? b = some { o with slots := sl }) → B.get? 16 = some (tabObj ps') → TabForm ⟨3, 13, 3, 39⟩ ps' → AllBare gs → E (.ref x) { s with heap := h', gens := gs, toks := tk }) →
    wpAny (model Challenge.rw_dn0186_02.row.prog w) (ktrTop dp un gd cn cs L a ccd cl outer) (call (.ref 21) [.ref D]) Q E s := by
  k_fill
  intro dp un gd cn cs a ccd cl outer A₀ base h₀ L m s D ps vs ts nb cls Q E B F X N T hk CH hf hG hD hvl hnb hrow hbad hsub hd hu hret
  refine wpAny_call ?_
  k_dflt (refine' code_defH ?k1 ?k2 ?k3 ?k4 ?k5 ?kA ?kF ?kK ?k6 ?k7 ?k8 ?k9 ?kB ?_ ?c2 ?c3 ?c4 ?c5; (case kA => exact rfl); (case kF => exact rfl); (case kK => assumption); (case k1 => k_asm); (case k2 => k_asm); (case k3 => k_asm); (case k4 => k_asm); (case k5 => k_asm); (case k6 => k_is); (case k7 => k_is); (case k8 => ktr_room); (case k9 => exact BindsTo.of_eq rfl); (case c5 => decide); (case kB => exact locs rfl); (case c2 => exact rfl); (case c3 => exact rfl); (case c4 => exact rfl); k_whole)
  intro g L' h' stG hszL FG' F' N' B' X' T'
  have hP := (N _ (.head _)).1
  have kg : ∀ b o, (∃ xs n, o.data = .seq xs n) → s.heap.get? b = some o → g.get? b = some o := fun b o ⟨xs, n, hx⟩ e => stG b o e fun q => by
    rw [List.map_cons, List.map_nil, List.mem_singleton] at q
    subst q
    rw [hP] at e
    cases e
    cases hx
  have kf : ∀ b o, (∀ ks, o.data ≠ .fields ks) → s.heap.get? b = some o → g.get? b = some o := fun b o hx e => stG b o e fun q => by
    rw [List.map_cons, List.map_nil, List.mem_singleton] at q
    subst q
    rw [hP] at e
    cases e
    exact hx _ rfl
  have hDg : g.IsList D vs.toArray ∨ g.IsTuple D vs.toArray := by
    rcases hD with ⟨o, e, c, n, d⟩ | ⟨o, e, c, n, d⟩
    · exact .inl ⟨o, kg _ _ ⟨_, _, d⟩ e, c, n, d⟩
    · exact .inr ⟨o, kg _ _ ⟨_, _, d⟩ e, c, n, d⟩
  (try dsimp only)
  (try k_fold)
  w_on
  walk_at "GO"
  refine genexp_tabB (D := D) (vs := vs) (c := 20) (cl := []) (nb := nb) (cls := cls) (Fv := fun i y => ∃ t, y = .str (ts.getD i ⟨#[]⟩) t) hnb (Around.frames_deeper B'.stack) hsub ?hst ?hoff F' N' (CH.keeps FG'.keep) T' hf hG rfl rfl rfl rfl (by with_unfolding_all rfl) (by decide) rfl rfl rfl (by ktr_room) hDg ?hit ?hel ?hbm ?hQ (by intro _; rfl)
  case hst => exact stand_of (pushX B' F' rfl rfl).frames
  case hoff => exact off_frs B' F' rfl (N' _ (.head _)).2.2 (N' _ (.head _)).2.1
  case hit =>
    intro Q' hq
    refine ld F' rfl hq
  case hel =>
    intro C code A' E' i v u m₂ hA hD hU hi hv hF hm hLC
    exact elt_good rfl T'.g (mg_none_of X' T'.g (by kernel_rfl)) T'.b ((T'.builtins _ (by decide)).trans (by boot_fact)) rfl rfl rfl hF hm ((hrow i v hi hv).keeps kf)
  case hbm =>
    intro C code A' Q' E' v u m₂ hA hD hU hv hF hm hLC hE
    exact elt_bad hA rfl T'.g (mg_none_of X' T'.g (by kernel_rfl)) T'.b ((T'.builtins _ (by decide)).trans (by boot_fact)) rfl rfl rfl hF hm ((hbad v hv).keeps kf) hE
  case hQ =>
    intro a9 oa C9 oC I9 oI h₅ tk5 gs5 ps5 hG5 F5 N5 hf5 l1 l2 l3 hk5 R5
    have hvn : nb ≤ sizeLine := by rw [PySem.sizeLine_eq]; omega
    have h16 : (16 : Nat) < s.heap.objs.size := Heap.lt_size hP
    have hsI : s.heap.objs.size ≤ h'.objs.size := Nat.le_trans hszL (Nat.le_of_lt F'.ns.lt)
    walk_at "GO"
    all_goals (
      rename Fr g L' _ _ => Fz
      rename News g L' _ ((a9, oa) :: _) => Nz
      dsimp only [List.cons_append, List.nil_append]
      k_dflt (refine join_loud Fz Nz (by assumption) (by assumption) (stand_of (pushX (by assumption) Fz rfl rfl).frames) ?_ (by assumption))
      intro x9 B9 h9 gs9 tk9 fly9 hB9 hs9 hG9 hx9
      refine leaveOnP px_keep (Around.frames_deeper B'.stack) rfl fly9 fun h2 fly2 up2 => ?_
      have lt9 : ∀ b o, s.heap.get? b = some o → b ≠ C9 ∧ b ≠ I9 ∧ b ≠ L' := fun b o e => by
        have h1 : b < s.heap.objs.size := Heap.lt_size e
        have hI : b < I9 := Nat.lt_of_lt_of_le h1 (Nat.le_trans hsI l1)
        exact ⟨Nat.ne_of_lt (Nat.lt_trans hI l2), Nat.ne_of_lt hI, Nat.ne_of_lt (Nat.lt_of_lt_of_le h1 hszL)⟩
      have stZ : ∀ b o, b ≠ 16 → s.heap.get? b = some o → _ := fun b o hb e => Fz.keep b o (stG b o e (by simpa using hb))
      refine hret _ _ _ _ _ ps5 fly2 (fun b o hb e hn => hB9 b o (stZ b o hb e) (lt9 b o e).1 (lt9 b o e).2.1 fun hm => (frs_mem (L := L') rfl hm).elim (lt9 b o e).2.2 hn) (fun b o hb e hf => ?_) (hB9 _ _ (Nz _ (.tail _ (.tail _ (.tail _ (.head _))))).1 (lt9 _ _ hP).1 (lt9 _ _ hP).2.1 (off_frs B' Fz rfl (Nz _ (.tail _ (.tail _ (.tail _ (.head _))))).2.2 (Nz _ (.tail _ (.tail _ (.tail _ (.head _))))).2.1)) hf5 hG9
      obtain ⟨s1, e1⟩ := hs9 b o (stZ b o hb e) (lt9 b o e).1 (lt9 b o e).2.1 hf
      obtain ⟨s2, e2⟩ := up2 b _ e1 hf
      exact ⟨s2, e2⟩)

open PySem PySem.W PyProof.Rows


local macro_rules | `(tactic| walk_at "GOT") => `(tactic| repeat' ((fail_if_success (with_reducible show wpAny _ _ (pyIter _) _ _ _)); (fail_if_success (with_reducible show wpAny _ _ (exec (Stmt.Try _ _ _ _ _) _) _ _ _)); (fail_if_success (with_reducible show wpAny _ _ (call (Value.ref 21) _) _ _ _)); first | (k_unfold; (try dsimp only)) | (k_end; wrow_close) | walk1 | (dsimp only; walk1) | (leave1; walk_say "STEP leave1"; try dsimp only) | fail "no step"))
/-- What _law_ask answers for these rows. -/
def AskOut (prog : Program) (w : World) (h : Heap) (vs : List Value) (t1 t2 : Str) : Prop :=
  (∃ ts : List Str, vs.length = ts.length ∧ (∀ i v, vs[i]? = some v → GoodAt prog w h v (ts.getD i ⟨#[]⟩)) ∧ (ts.map (·.length)).sum ≤ 100000 ∧ t1 = Str.ofString "" ∧ t2 = fwTx ts) ∨
  ∃ (ts : List Str) (nb : Nat) (cls : String), nb < vs.length ∧ (∀ i v, i < nb → vs[i]? = some v → GoodAt prog w h v (ts.getD i ⟨#[]⟩)) ∧ (∀ v, vs[nb]? = some v → BadAt prog w h v cls) ∧
    ((cls = "IndexError" ∧ t1 = Str.ofString "index") ∨ (cls = "KeyError" ∧ t1 = Str.ofString "key") ∨ (cls = "TypeError" ∧ t1 = Str.ofString "type")) ∧ t2 = Str.ofString ""
theorem fresh_of {h g : Heap} {R P : Addr} {o' : Obj} (st : ∀ b o, h.get? b = some o → b ∉ [(P, o')].map (·.1) → g.get? b = some o) (e : g.get? R = none) (hn : R ≠ P) : h.get? R = none := by
  cases q : h.get? R with
  | none => rfl
  | some o2 =>
    have := st _ _ q (by simpa using hn)
    rw [e] at this
    cases this
theorem none_back {fs : List Addr} {g g' : Heap} {b : Addr} (T : KtsTurn fs g g') (e : g'.get? b = none) : g.get? b = none := by
  cases q : g.get? b with
  | none => rfl
  | some o =>
    obtain ⟨_, z⟩ := T.up q
    rw [e] at z
    cases z
theorem ask02 (w : World) (mean : ExcName → Option Value) (mg mb : Str → Option Value) :
  ∀ (dp un : Nat) (gd : Option (List Code)) (cn : Str) (cs : Scope) (a : Addr) (ccd : Value) (cl : List (Str × Addr)) (A₀ : Around) (base h₀ : Heap) (L : Addr) (m : Str → Option Value) (s : Shared) (D : Addr) (ps : Array Value) (vs : List Value) (t1 t2 : Str)
    (Q E : Value → Shared → Prop),
    Below A₀ base [] h₀ → (hd02.heap_39 w.params).In base → Top topProg (looseW hd02.view_39 [] ++ (recsOf hd02.view_39).map (·.name) ++ (litsOf hd02.view_39).map (·.1) ++ (clssOf hd02.view_39 (looseW hd02.view_39 [])).map (·.name)) mean mg mb base → Fr h₀ L s.heap m → (hd02.heap_39 w.params).In h₀ → News h₀ L s.heap [(16, tabObj ps)] → Top topProg (looseW hd02.view_39 [] ++ (recsOf hd02.view_39).map (·.name) ++ (litsOf hd02.view_39).map (·.1) ++ (clssOf hd02.view_39 (looseW hd02.view_39 [])).map (·.name)) mean mg mb h₀ → cs.kind = .function → CodeHd h₀ 20 16 →
    TabForm ⟨3, 13, 3, 39⟩ ps → AllBare s.gens → (s.heap.IsList D vs.toArray ∨ s.heap.IsTuple D vs.toArray) → vs.length ≤ 1000 → AskOut Challenge.rw_dn0186_02.row.prog w s.heap vs t1 t2 → dp + 20 < recursionLimit → un + 160 < cLine →
    (∀ h' gs tk ps' R n u1 u2, Fr h₀ L h' m → News h₀ L h' [(R, { cls := .type "tuple", data := .seq #[.str t1 u1, .str t2 u2] n }), (16, tabObj ps')] → TabForm ⟨3, 13, 3, 39⟩ ps' → AllBare gs → s.heap.get? R = none → (∀ b o, b ≠ 16 → b ≠ L → s.heap.get? b = some o → h'.get? b = some o) → Q (.ref R) { s with heap := h', gens := gs, toks := tk }) →
    wpAny (model Challenge.rw_dn0186_02.row.prog w) (ktrTop dp un gd cn cs L a ccd cl []) (call (.ref 42) [.ref D]) Q E s := by
  k_fill
  intro dp un gd cn cs a ccd cl A₀ base h₀ L m s D ps vs t1 t2 Q E B XB TB F X N T hk CH hf hG hD hvl hout hd hu hret
  refine wpAny_call ?_
  k_dflt (refine' code_defT ?k1 ?k2 ?k3 ?k4 ?k5 ?kA ?kF ?kK ?k6 ?k7 ?k8 ?k9 ?kB ?_ ?c2 ?c3 ?c4 ?c5; (case kA => exact rfl); (case kF => exact rfl); (case kK => assumption); (case k1 => k_asm); (case k2 => k_asm); (case k3 => exact X); (case k4 => k_asm); (case k5 => exact T); (case k6 => k_is); (case k7 => k_is); (case k8 => ktr_room); (case k9 => exact BindsTo.of_eq rfl); (case c5 => decide); (case kB => exact locs rfl); (case c2 => exact rfl); (case c3 => exact rfl); (case c4 => exact rfl); k_whole)
  intro g L' h' stG hszL FG' F' N' B' X' T'
  have hP := (N _ (.head _)).1
  have kf : ∀ b o, (∀ ks, o.data ≠ .fields ks) → s.heap.get? b = some o → g.get? b = some o := fun b o hx e => stG b o e fun q => by
    rw [List.map_cons, List.map_nil, List.mem_singleton] at q
    subst q
    rw [hP] at e
    cases e
    exact hx _ rfl
  have kh : ∀ b o, (∀ ks, o.data ≠ .fields ks) → s.heap.get? b = some o → h'.get? b = some o := fun b o hx e => F'.keep b o (kf b o hx e)
  have hDh : h'.IsList D vs.toArray ∨ h'.IsTuple D vs.toArray := by
    rcases hD with ⟨o, e, c, n, d⟩ | ⟨o, e, c, n, d⟩
    · exact .inl ⟨o, kh _ _ (fun ks q => by rw [d] at q; cases q) e, c, n, d⟩
    · exact .inr ⟨o, kh _ _ (fun ks q => by rw [d] at q; cases q) e, c, n, d⟩
  (try dsimp only)
  (try k_fold)
  w_on
  walk_at "GOT"
  refine wpAny_Try_except ?_
  walk_at "GOT"
  rcases hout with ⟨ts, hlen, hrow, hts, rfl, rfl⟩ | ⟨ts, nb, cls, hnb, hrow, hbad, hcls, rfl⟩
  · k_dflt (refine fw02 w mean mg mb _ _ _ _ _ _ _ _ _ _ _ _ _ _ _ D ps vs ts _ _ B' F' X' N' T' rfl (CH.keeps FG'.keep) hf hG hDh hlen (fun i v e => (hrow i v e).keeps kh) (by omega) hts (by ktr_room) (by ktr_units) ?_)
    intro h2 gs2 tk2 ps2 t2 F2 N2 hf2 hG2 st2
    walk_at "GOT"
    rename Fr g L' _ _ => Fz
    rename News g L' _ _ => Nz
    refine leaveT_ .refl Fz (news_sub Nz (l' := [_, _]) (List.forall_mem_cons.mpr ⟨.head _, List.forall_mem_cons.mpr ⟨.tail _ (.head _), List.forall_mem_nil _⟩⟩)) fun kF kN => ?_
    exact hret _ _ _ _ _ _ _ _ kF kN hf2 hG2 (fresh_of stG (Nz _ (.head _)).2.2 (neN (by omega))) fun b o hb hL e => Fz.keep b o (stG b o e (by simpa using hb))
  · have hsub : isSubtype (.type cls) (.type "StopIteration") = pure false := by
      rcases hcls with ⟨rfl, _⟩ | ⟨rfl, _⟩ | ⟨rfl, _⟩
      · rw [isSubtype_type]; kernel_rfl
      · rw [isSubtype_type]; kernel_rfl
      · rw [isSubtype_type]; kernel_rfl
    k_dflt (refine fwx02 w mean mg mb _ _ _ _ _ _ _ _ _ _ _ _ _ _ _ D ps vs ts nb cls _ _ B' F' X' N' T' rfl (CH.keeps FG'.keep) hf hG hDh hvl hnb (fun i v hi e => (hrow i v hi e).keeps kh) (fun v e => (hbad v e).keeps kh) hsub (by ktr_room) (by ktr_units) ?_)
    intro x B5 h5 gs5 tk5 ps5 fly hB hs hB16 hf5 hG5
    refine land_px (xs := [16]) (Around.frames_deeper B'.stack) rfl B' F' (fun y hy => by rw [List.mem_singleton.mp hy]; exact ⟨(N' _ (.head _)).2.2, (N' _ (.head _)).2.1⟩) fly (fun b o e hb hn => hB b o (fun q => hb (by rw [q]; exact .head _)) e hn) (fun b o e hb hn => hs b o (fun q => hb (by rw [q]; exact .head _)) e hn) ?_
    intro h6 LD
    rcases hcls with ⟨rfl, rfl⟩ | ⟨rfl, rfl⟩ | ⟨rfl, rfl⟩
    · refine' fit_px (T := "IndexError") LD B' F' (fun y hy => by rw [List.mem_singleton.mp hy]; exact ⟨(N' _ (.head _)).2.2, (N' _ (.head _)).2.1⟩) XB TB (by kernel_rfl) (by boot_fact) (by decide) (by rw [isSubtype_type]; kernel_rfl) (by rw [isSubtype_type]; kernel_rfl) (by rw [isSubtype_type]; kernel_rfl) rfl rfl (by decide) ?_
      intro h7 g7 T7 F7 B7 X7 TT7 k7
      have N7 : News g7 L' h7 [(16, tabObj ps5)] := fun p hp => by
        rw [List.mem_singleton.mp hp]
        exact ⟨k7 _ _ hB16, (N' _ (.head _)).2.1, T7.none_ _ (N' _ (.head _)).2.2⟩
      clear LD fly
      walk_at "GOT"
      rename Fr g7 L' _ _ => Fz
      rename News g7 L' _ _ => Nz
      refine leaveT_ T7 Fz (news_sub Nz (l' := [_, _]) (List.forall_mem_cons.mpr ⟨.head _, List.forall_mem_cons.mpr ⟨.tail _ (.head _), List.forall_mem_nil _⟩⟩)) fun kF kN => ?_
      refine hret _ _ _ _ _ _ _ _ kF kN hf5 hG5 (fresh_of stG ?_ (neN (by omega))) fun b o hb hL e => Fz.keep b o (T7.other b o (stG b o e (by simpa using hb)) fun hm => hL (List.mem_singleton.mp hm))
      exact none_back T7 (Nz _ (.head _)).2.2
    · refine' miss_px (T := "IndexError") LD XB TB (by kernel_rfl) (by boot_fact) (by decide) (by rw [isSubtype_type]; kernel_rfl) (by rw [isSubtype_type]; kernel_rfl) (by rw [isSubtype_type]; kernel_rfl) rfl rfl (by decide) ?_
      refine' fit_px (T := "KeyError") LD B' F' (fun y hy => by rw [List.mem_singleton.mp hy]; exact ⟨(N' _ (.head _)).2.2, (N' _ (.head _)).2.1⟩) XB TB (by kernel_rfl) (by boot_fact) (by decide) (by rw [isSubtype_type]; kernel_rfl) (by rw [isSubtype_type]; kernel_rfl) (by rw [isSubtype_type]; kernel_rfl) rfl rfl (by decide) ?_
      intro h7 g7 T7 F7 B7 X7 TT7 k7
      have N7 : News g7 L' h7 [(16, tabObj ps5)] := fun p hp => by
        rw [List.mem_singleton.mp hp]
        exact ⟨k7 _ _ hB16, (N' _ (.head _)).2.1, T7.none_ _ (N' _ (.head _)).2.2⟩
      clear LD fly
      walk_at "GOT"
      rename Fr g7 L' _ _ => Fz
      rename News g7 L' _ _ => Nz
      refine leaveT_ T7 Fz (news_sub Nz (l' := [_, _]) (List.forall_mem_cons.mpr ⟨.head _, List.forall_mem_cons.mpr ⟨.tail _ (.head _), List.forall_mem_nil _⟩⟩)) fun kF kN => ?_
      refine hret _ _ _ _ _ _ _ _ kF kN hf5 hG5 (fresh_of stG ?_ (neN (by omega))) fun b o hb hL e => Fz.keep b o (T7.other b o (stG b o e (by simpa using hb)) fun hm => hL (List.mem_singleton.mp hm))
      exact none_back T7 (Nz _ (.head _)).2.2
    · refine' miss_px (T := "IndexError") LD XB TB (by kernel_rfl) (by boot_fact) (by decide) (by rw [isSubtype_type]; kernel_rfl) (by rw [isSubtype_type]; kernel_rfl) (by rw [isSubtype_type]; kernel_rfl) rfl rfl (by decide) ?_
      refine' miss_px (T := "KeyError") LD XB TB (by kernel_rfl) (by boot_fact) (by decide) (by rw [isSubtype_type]; kernel_rfl) (by rw [isSubtype_type]; kernel_rfl) (by rw [isSubtype_type]; kernel_rfl) rfl rfl (by decide) ?_
      refine' fit_px (T := "TypeError") LD B' F' (fun y hy => by rw [List.mem_singleton.mp hy]; exact ⟨(N' _ (.head _)).2.2, (N' _ (.head _)).2.1⟩) XB TB (by kernel_rfl) (by boot_fact) (by decide) (by rw [isSubtype_type]; kernel_rfl) (by rw [isSubtype_type]; kernel_rfl) (by rw [isSubtype_type]; kernel_rfl) rfl rfl (by decide) ?_
      intro h7 g7 T7 F7 B7 X7 TT7 k7
      have N7 : News g7 L' h7 [(16, tabObj ps5)] := fun p hp => by
        rw [List.mem_singleton.mp hp]
        exact ⟨k7 _ _ hB16, (N' _ (.head _)).2.1, T7.none_ _ (N' _ (.head _)).2.2⟩
      clear LD fly
      walk_at "GOT"
      rename Fr g7 L' _ _ => Fz
      rename News g7 L' _ _ => Nz
      refine leaveT_ T7 Fz (news_sub Nz (l' := [_, _]) (List.forall_mem_cons.mpr ⟨.head _, List.forall_mem_cons.mpr ⟨.tail _ (.head _), List.forall_mem_nil _⟩⟩)) fun kF kN => ?_
      refine hret _ _ _ _ _ _ _ _ kF kN hf5 hG5 (fresh_of stG ?_ (neN (by omega))) fun b o hb hL e => Fz.keep b o (T7.other b o (stG b o e (by simpa using hb)) fun hm => hL (List.mem_singleton.mp hm))
      exact none_back T7 (Nz _ (.head _)).2.2

open PySem PySem.W PyProof.Rows PySem.Calls PySem.Spec

section
variable {prog prog' : Program} {w w' : World} {A : Around} {E : Value → Shared → Prop} {s : Shared} {Q : Value → Shared → Prop} {objs : List (Addr × Obj)} {x : Int} {v v' : Value}
theorem pairs_any {es : List DictEntry} {kvs : List (Int × Value)} (h : Pairs (intKind prog w) es kvs) : Pairs (intKind prog' w') es kvs := by
  induction h with
  | nil => exact .nil
  | cons h1 h2 _ ih => exact .cons h1 h2 ih
theorem dict_any {o : Obj} {kvs : List (Int × Value)} (h : o.IsDictOf (intKind prog w) kvs) : o.IsDictOf (intKind prog' w') kvs := by
  obtain ⟨es, ep, h1, h2, h3, h4, h5⟩ := h
  exact ⟨es, ep, h1, h2, h3, pairs_any h4, h5⟩
theorem eq_dicts {a b : Addr} {oa ob : Obj} {ka kb : List (Int × Value)} (ha : (a == sysModules) = false) (hb : (b == sysModules) = false) (ea : s.heap.get? a = some oa) (eb : s.heap.get? b = some ob) (da : oa.IsDictOf (intKind prog w) ka) (db : ob.IsDictOf (intKind prog w) kb)
    (hu : A.units < cLine) (hl : ka.length = kb.length) (hits : SeqAt.RcAt A s (.ref a) (.ref b) true = SeqAt.RcAt A s (.ref a) (.ref b) true → KeqHits A.in1 s kb ka true) : SeqAt.RcAt A s (.ref a) (.ref b) true := by
  intro prog2 w2 E2 Q2 hq
  refine (show wpAny _ _ (compareOp .Eq (.ref a) (.ref b)) Q2 E2 s from keq_eq (knd := intKind prog2 w2) ha hb (Heap.dictOf_iff.mpr ⟨oa, ea, dict_any da⟩) (Heap.dictOf_iff.mpr ⟨ob, eb, dict_any db⟩) hu (fun _ => hits rfl) ?_)
  rw [hl, beq_self_eq_true, Bool.true_and]
  exact hq
theorem eq_int (n : Int) (t u : Tok) : SeqAt.EqAt A s (.int n t) (.int n u) true := by
  have := SeqAt.EqAt.int_int (A := A) (s := s) n t n u
  rwa [beq_self_eq_true] at this
theorem eq_str (n : Str) (t u : Tok) : SeqAt.EqAt A s (.str n t) (.str n u) true := by
  have := SeqAt.EqAt.str_str (A := A) (s := s) n t n u
  rwa [show (n == n) = true by simp] at this
theorem eqAt_row (N : ∀ p ∈ objs, s.heap.get? p.1 = some p.2) (hu : A.units + 8 < cLine) (r : RowAt prog w objs x v) (r' : RowAt prog w objs x v') : SeqAt.EqAt A s v v' true := by
  have hu0 : A.units < cLine := by omega
  rcases r with r | ⟨a, o, rfl, hm, r⟩
  · rcases r' with r' | ⟨a', o', rfl, hm', r'⟩
    · unfold RowV at r r'
      rcases r with ⟨h1, t, rfl⟩ | ⟨h1, t, rfl⟩ | ⟨h1, h2, t, rfl⟩ <;> rcases r' with ⟨h1', t', rfl⟩ | ⟨h1', t', rfl⟩ | ⟨h1', h2', t', rfl⟩ <;> first | (exfalso; omega) | exact eq_str _ _ _ | exact eq_int _ _ _
    · exfalso
      unfold RowV at r
      unfold RowObj at r'
      omega
  · rcases r' with r' | ⟨a', o', rfl, hm', r'⟩
    · exfalso
      unfold RowV at r'
      unfold RowObj at r
      omega
    · have e := N _ hm
      have e' := N _ hm'
      dsimp only at e e'
      by_cases q : a = a'
      · subst q
        exact SeqAt.EqAt.same _
      refine SeqAt.EqAt.of_refs q ?_
      unfold RowObj at r r'
      rcases r with ⟨h1, t1, t2, t3, n, rfl⟩ | ⟨h1, t, n, rfl⟩ | ⟨h1, t1, t2, n, rfl⟩ | ⟨h1, hs, t1, t2, hd⟩ | ⟨h1, h2, n, rfl⟩ | ⟨h1, h2, n, rfl⟩ | ⟨h1, hs, t1, hd⟩ <;>
        rcases r' with ⟨h1', t1', t2', t3', n', rfl⟩ | ⟨h1', t', n', rfl⟩ | ⟨h1', t1', t2', n', rfl⟩ | ⟨h1', hs', t1', t2', hd'⟩ | ⟨h1', h2', n', rfl⟩ | ⟨h1', h2', n', rfl⟩ | ⟨h1', hs', t1', hd'⟩ <;>
        first | (exfalso; omega) | skip
      · exact SeqAt.RcAt.tuples (e := fun _ => true) ⟨_, e, rfl, _, rfl⟩ ⟨_, e', rfl, _, rfl⟩ hu0 fun j g1 g2 => by
          match j, g1 with
          | 0, _ => exact eq_int _ _ _
          | 1, _ => exact eq_int _ _ _
          | 2, _ => exact eq_int _ _ _
      · exact SeqAt.RcAt.lists (e := fun _ => true) ⟨_, e, rfl, _, rfl⟩ ⟨_, e', rfl, _, rfl⟩ rfl hu0 fun j g1 g2 => by
          match j, g1 with
          | 0, _ => exact eq_int _ _ _
      · exact SeqAt.RcAt.tuples (e := fun _ => true) ⟨_, e, rfl, _, rfl⟩ ⟨_, e', rfl, _, rfl⟩ hu0 fun j g1 g2 => by
          match j, g1 with
          | 0, _ => exact eq_str _ _ _
          | 1, _ => exact eq_int _ _ _
      · exact eq_dicts hs hs' e e' hd hd' hu0 rfl fun _ => .hit (e := true) (b := true) rfl (eq_int _ _ _) (.hit (e := true) (b := true) rfl (eq_int _ _ _) .nil)
      · exact SeqAt.RcAt.tuples (e := fun _ => true) ⟨_, e, rfl, _, rfl⟩ ⟨_, e', rfl, _, rfl⟩ hu0 fun j g1 g2 => absurd g1 (Nat.not_lt_zero _)
      · exact SeqAt.RcAt.lists (e := fun _ => true) ⟨_, e, rfl, _, rfl⟩ ⟨_, e', rfl, _, rfl⟩ rfl hu0 fun j g1 g2 => absurd g1 (Nat.not_lt_zero _)
      · exact eq_dicts hs hs' e e' hd hd' hu0 rfl fun _ => .hit (e := true) (b := true) rfl (eq_int _ _ _) .nil
def RowsAt (prog : Program) (w : World) (objs : List (Addr × Obj)) (xs : List Int) (vs : List Value) : Prop := vs.length = xs.length ∧ ∀ i v, vs[i]? = some v → RowAt prog w objs (xs.getD i 0) v
theorem RowsAt.mono {l l' : List (Addr × Obj)} {xs : List Int} {vs : List Value} (r : RowsAt prog w l xs vs) (h : ∀ p ∈ l, p ∈ l') : RowsAt prog w l' xs vs := ⟨r.1, fun i v e => (r.2 i v e).mono h⟩
theorem rows_ne {a b : Addr} {vs us : List Value} {xs : List Int} (N : ∀ p ∈ objs, s.heap.get? p.1 = some p.2) (hl : s.heap.IsList a vs.toArray) (hb : s.heap.IsList b us.toArray) (hv : RowsAt prog w objs xs vs) (hus : RowsAt prog w objs xs us) (hu : A.units + 64 < cLine)
    (h : Q (.bool false) s) : wpAny (model prog w) A (compareOp .NotEq (.ref a) (.ref b)) Q E s := by
  have hsz : vs.toArray.size = us.toArray.size := by simp [hv.1, hus.1]
  refine (show wpAny _ _ (richCompare .NotEq (.ref a) (.ref b)) Q E s from SeqAt.RcNeAt.lists (e := fun _ => true) hl hb hsz (by omega) (fun j g1 g2 => ?_) prog w E Q ?_)
  · have k1 : vs[j]? = some vs.toArray[j] := by simp at g1 ⊢
    have k2 : us[j]? = some us.toArray[j] := by simp at g2 ⊢
    exact eqAt_row N (by simp; omega) (hv.2 _ _ k1) (hus.2 _ _ k2)
  · rw [show (List.range vs.toArray.size).all (fun _ => true) = true from List.all_eq_true.mpr fun _ _ => rfl]
    exact h
theorem ne_nil {a b : Addr} {vs : List Value} (hl : s.heap.IsList a vs.toArray) (hb : s.heap.IsList b #[]) (hu : A.units + 64 < cLine) (h : Q (.bool (!vs.isEmpty)) s) : wpAny (model prog w) A (compareOp .NotEq (.ref a) (.ref b)) Q E s := by
  cases vs with
  | nil =>
    refine (show wpAny _ _ (richCompare .NotEq (.ref a) (.ref b)) Q E s from SeqAt.RcNeAt.lists (e := fun _ => true) hl hb rfl (by omega) (fun j g1 g2 => absurd g1 (Nat.not_lt_zero _)) prog w E Q ?_)
    simpa using h
  | cons y r =>
    refine (show wpAny _ _ (richCompare .NotEq (.ref a) (.ref b)) Q E s from SeqAt.RcNeAt.lists_lengths hl hb (by simp) (by omega) prog w E Q ?_)
    simpa using h
end

open PySem PySem.W PyProof.Rows PySem.Calls PySem.Spec

def wd (x : Int) : Str := if kd x = 2 then Str.ofString "t" else if kd x = 3 then Str.ofString "eight" else numTx (hv x)
def isG (x : Int) : Bool := decide (kd x < 5)
def en (x : Int) : Str := if kd x = 5 then Str.ofString "index" else if kd x = 6 then Str.ofString "type" else Str.ofString "key"
def clsX (x : Int) : String := if kd x = 5 then "IndexError" else if kd x = 6 then "TypeError" else "KeyError"
def ask1 (l : List Int) : Str := match l.find? (fun x => !isG x) with | none => Str.ofString "" | some x => en x
def ask2 (l : List Int) : Str := match l.find? (fun x => !isG x) with | none => fwTx (l.map wd) | some _ => Str.ofString ""
section
variable {prog : Program} {w : World} {h : Heap} {objs : List (Addr × Obj)} {x : Int} {v : Value}
theorem numTx_lenH (x : Int) : (numTx (hv x)).length ≤ 4 := by
  have hb := hv_bd x
  by_cases h0 : 0 ≤ hv x
  · exact Nat.le_trans (numTx_len 2 h0 (by omega)) (by decide)
  · have e := numTx_neg (n := -hv x) (by omega)
    rw [Int.neg_neg] at e
    rw [e, Str.length_append]
    have h1 := numTx_len 2 (n := -hv x) (by omega) (by omega)
    have h2 : (Str.ofString "-").length = 1 := by decide
    omega
theorem wd_len (x : Int) : (wd x).length ≤ 5 := by
  have h := numTx_lenH x
  unfold wd
  split
  · exact Nat.le_of_ble_eq_true rfl
  · split
    · exact Nat.le_of_ble_eq_true rfl
    · omega
theorem small_log {n : Int} (h1 : -300 ≤ n) (h2 : n < 700) : n.natAbs.log2 < 1920 := by
  have h : n.natAbs < 2 ^ 10 := by omega
  rcases Nat.eq_zero_or_pos n.natAbs with z | z
  · rw [z]; decide
  · have := (Nat.log2_lt (by omega)).mpr h
    omega
theorem good_of (N : ∀ p ∈ objs, h.get? p.1 = some p.2) (r : RowAt prog w objs x v) (hg : isG x = true) : GoodAt prog w h v (wd x) := by
  have hk : kd x < 5 := of_decide_eq_true hg
  have hb := hv_bd x
  have hs := small_log hb.1 hb.2
  rcases r with r | ⟨a, o, rfl, hm, r⟩
  · rcases r with ⟨h1, t, rfl⟩ | ⟨h1, t, rfl⟩ | ⟨h1, h2, t, rfl⟩
    · refine .inr (.inl ⟨_, t, 116, rfl, by decide, ?_⟩)
      unfold wd
      rw [if_pos h1]
      decide
    · omega
    · omega
  · have e := N _ hm
    dsimp only at e
    have ew : kd x ≠ 2 → kd x ≠ 3 → wd x = (toString (hv x) : Str) := fun h2 h3 => by unfold wd; rw [if_neg h2, if_neg h3]; rfl
    rcases r with ⟨h1, t1, t2, t3, n, rfl⟩ | ⟨h1, t, n, rfl⟩ | ⟨h1, t1, t2, n, rfl⟩ | ⟨h1, hs', t1, t2, hd⟩ | ⟨h1, h2, n, rfl⟩ | ⟨h1, h2, n, rfl⟩ | ⟨h1, hs', t1, hd⟩
    · exact .inl ⟨a, _, _, rfl, .inr ⟨_, e, rfl, _, rfl⟩, rfl, .inl ⟨_, _, rfl, ew (by omega) (by omega), hs⟩⟩
    · exact .inl ⟨a, _, _, rfl, .inl ⟨_, e, rfl, _, rfl⟩, rfl, .inl ⟨_, _, rfl, ew (by omega) (by omega), hs⟩⟩
    · refine .inl ⟨a, _, _, rfl, .inr ⟨_, e, rfl, _, rfl⟩, rfl, .inr ⟨t1, ?_⟩⟩
      unfold wd
      rw [if_neg (by omega), if_pos h1]
      rfl
    · exact .inr (.inr ⟨a, _, hv x, t1, rfl, Heap.dictOf_iff.mpr ⟨o, e, hd⟩, rfl, ew (by omega) (by omega), hs⟩)
    · omega
    · omega
    · omega
theorem bad_of (N : ∀ p ∈ objs, h.get? p.1 = some p.2) (r : RowAt prog w objs x v) (hg : isG x = false) : BadAt prog w h v (clsX x) := by
  have hk : ¬ kd x < 5 := of_decide_eq_false hg
  unfold clsX
  rcases r with r | ⟨a, o, rfl, hm, r⟩
  · rcases r with ⟨h1, t, rfl⟩ | ⟨h1, t, rfl⟩ | ⟨h1, h2, t, rfl⟩
    · omega
    · rw [if_neg (by omega), if_pos h1]
      exact .inr (.inr (.inl ⟨_, _, rfl, rfl⟩))
    · rw [if_pos h1]
      exact .inr (.inl ⟨_, rfl, rfl⟩)
  · have e := N _ hm
    dsimp only at e
    rcases r with ⟨h1, t1, t2, t3, n, rfl⟩ | ⟨h1, t, n, rfl⟩ | ⟨h1, t1, t2, n, rfl⟩ | ⟨h1, hs', t1, t2, hd⟩ | ⟨h1, h2, n, rfl⟩ | ⟨h1, h2, n, rfl⟩ | ⟨h1, hs', t1, hd⟩
    · omega
    · omega
    · omega
    · omega
    · rw [if_pos h1]
      exact .inl ⟨a, rfl, .inr ⟨_, e, rfl, _, rfl⟩, rfl⟩
    · rw [if_pos h1]
      exact .inl ⟨a, rfl, .inl ⟨_, e, rfl, _, rfl⟩, rfl⟩
    · rw [if_neg (by omega), if_neg (by omega)]
      exact .inr (.inr (.inr ⟨a, _, rfl, hs', Heap.dictOf_iff.mpr ⟨o, e, hd⟩, rfl, rfl⟩))
theorem getD_at {α : Type} {l : List α} {d : α} {i : Nat} (h : i < l.length) : l.getD i d = l[i] := by rw [List.getD_eq_getElem?_getD, List.getElem?_eq_getElem h]; rfl
theorem getD_map {l : List Int} {i : Nat} (h : i < l.length) : (l.map wd).getD i ⟨#[]⟩ = wd (l.getD i 0) := by
  rw [getD_at (by simpa using h : i < (l.map wd).length), getD_at h, List.getElem_map]
theorem sum_wd (l : List Int) : ((l.map wd).map (·.length)).sum ≤ 5 * l.length := by
  induction l with
  | nil => simp
  | cons a t ih =>
    have := wd_len a
    simp only [List.map_cons, List.sum_cons, List.length_cons]
    omega
theorem askOut_of {l : List Int} {vs : List Value} (N : ∀ p ∈ objs, h.get? p.1 = some p.2) (r : RowsAt prog w objs l vs) (hl : l.length ≤ 1000) : AskOut prog w h vs (ask1 l) (ask2 l) := by
  unfold ask1 ask2
  cases q : l.find? (fun x => !isG x) with
  | none =>
    have hq := List.find?_eq_none.mp q
    refine .inl ⟨l.map wd, by rw [List.length_map]; exact r.1, fun i v e => ?_, by have := sum_wd l; omega, rfl, rfl⟩
    have hi : i < l.length := by have := (List.getElem?_eq_some_iff.mp e).1; rw [r.1] at this; exact this
    rw [getD_map hi]
    refine good_of N (r.2 i v e) ?_
    have := hq l[i] (List.getElem_mem hi)
    rw [getD_at hi]
    simpa using this
  | some x =>
    obtain ⟨hx, nb, hnb, rfl, hlt⟩ := List.find?_eq_some_iff_getElem.mp q
    have hgx : isG l[nb] = false := by simpa using hx
    refine .inr ⟨l.map wd, nb, clsX l[nb], by rw [r.1]; exact hnb, fun i v hi e => ?_, fun v e => ?_, ?_, rfl⟩
    · rw [getD_map (by omega)]
      refine good_of N (r.2 i v e) ?_
      have := hlt i hi
      rw [getD_at (by omega)]
      simpa using this
    · have := bad_of N (r.2 nb v e) (by rw [getD_at hnb]; exact hgx)
      rwa [getD_at hnb] at this
    · have hk : ¬ kd l[nb] < 5 := of_decide_eq_false hgx
      have hk2 := kd_lt l[nb]
      dsimp only
      unfold clsX en
      by_cases h5 : kd l[nb] = 5
      · rw [if_pos h5, if_pos h5]; exact .inl ⟨rfl, rfl⟩
      · by_cases h6 : kd l[nb] = 6
        · rw [if_neg h5, if_neg h5, if_pos h6, if_pos h6]; exact .inr (.inr ⟨rfl, rfl⟩)
        · rw [if_neg h5, if_neg h5, if_neg h6, if_neg h6]; exact .inr (.inl ⟨rfl, rfl⟩)
end

open PySem PySem.W PyProof.Rows


section
variable {prog : Program} {w : World} {A : Around} {E : Value → Shared → Prop} {s : Shared} {Q : Value → Shared → Prop}
theorem item_digL {value slice : PySem.Expr} {i : Int} {t u : Tok} (h0 : 0 ≤ i) (h1 : i < 10) (h : Q (.str (digTx i) s.toks) { s with toks := s.toks + 1 })
    (hs : subscripted slice false (.str (Str.ofString "0123456789") t) (.int i u) = operate [.str (Str.ofString "0123456789") t, .int i u] (getItem (.str (Str.ofString "0123456789") t) (.int i u)))
    (ht : ∀ r, letTemporaryGo value (.str (Str.ofString "0123456789") t) r = pure ()) :
    wpAny (model prog w) A (subscriptTail value slice (.str (Str.ofString "0123456789") t) (.int i u)) Q E s := by
  have hl : ((Str.ofString "0123456789").length : Int) = 10 := by decide +kernel
  refine item_str (by unfold fitsSsize; simp; omega) (by omega) (by omega) (fun _ => ?_) hs ht
  rw [item_dig h0 h1]
  exact h
end
theorem nil_app (x : Str) : Str.ofString "" ++ x = x := by
  rw [show Str.ofString "" = (⟨#[]⟩ : Str) from by decide +kernel]
  apply str_ext'
  rw [Str.cps_append]
  simp
theorem fdm (v k : Int) (hk : 0 ≤ k) : (v.fdiv k).fmod 10 = v / k % 10 := by rw [Int.fdiv_eq_ediv_of_nonneg v hk, Int.fmod_eq_emod_of_nonneg _ (by decide)]
theorem itd (v k : Int) (hk : 0 ≤ k) : Txt.item (Str.ofString "0123456789") ((v.fdiv k).fmod 10) = digTx (v / k % 10) := by rw [fdm v k hk, item_dig (by omega) (by omega)]
theorem dig1 {v : Int} (h0 : 0 ≤ v) (h : ¬ 10 ≤ v) : numTx v = Str.ofString "" ++ Txt.item (Str.ofString "0123456789") ((v.fdiv 1).fmod 10) := by
  rw [itd v 1 (by decide), nil_app, numTx_small h0 (by omega)]
  congr 1
  omega
theorem dig2 {v : Int} (h0 : 10 ≤ v) (h : ¬ 100 ≤ v) : numTx v = Str.ofString "" ++ Txt.item (Str.ofString "0123456789") ((v.fdiv 10).fmod 10) ++ Txt.item (Str.ofString "0123456789") ((v.fdiv 1).fmod 10) := by
  rw [itd v 1 (by decide), itd v 10 (by decide), nil_app, numTx_step h0, numTx_small (n := v / 10) (by omega) (by omega)]
  congr 2 <;> omega
theorem dig3 {v : Int} (h0 : 100 ≤ v) (h : v < 1000) : numTx v = Str.ofString "" ++ Txt.item (Str.ofString "0123456789") ((v.fdiv 100).fmod 10) ++ Txt.item (Str.ofString "0123456789") ((v.fdiv 10).fmod 10) ++ Txt.item (Str.ofString "0123456789") ((v.fdiv 1).fmod 10) := by
  rw [itd v 1 (by decide), itd v 10 (by decide), itd v 100 (by decide), nil_app, numTx_step (n := v) (by omega), numTx_step (n := v / 10) (by omega), numTx_small (n := v / 10 / 10) (by omega) (by omega)]
  congr 2
  · congr 2
    omega
  · omega
local macro_rules | `(tactic| walk_at "GOD") => `(tactic| repeat' ((fail_if_success (with_reducible show wpAny _ _ (call (Value.ref 35) _) _ _ _)); (fail_if_success (with_reducible show wpAny _ _ (pyIter _) _ _ _)); first | (k_unfold; (try dsimp only)) | (k_end; wrow_close) | walk1 | (dsimp only; walk1) | (leave1; walk_say "STEP leave1"; try dsimp only) | fail "no step"))
theorem dgp02 (w : World) (mean : ExcName → Option Value) (mg mb : Str → Option Value) :
  ∀ (dp un : Nat) (gd : Option (List Code)) (cn : Str) (cs : Scope) (a : Addr) (ccd : Value) (cl : List (Str × Addr)) (outer : List Env) (A₀ : Around) (base h₀ : Heap) (L : Addr) (m : Str → Option Value) (s : Shared) (v : Int) (tv : Tok)
    (Q E : Value → Shared → Prop),
    Below A₀ base outer h₀ → Fr h₀ L s.heap m → (hd02.heap_39 w.params).In h₀ → Top topProg (looseW hd02.view_39 [] ++ (recsOf hd02.view_39).map (·.name) ++ (litsOf hd02.view_39).map (·.1) ++ (clssOf hd02.view_39 (looseW hd02.view_39 [])).map (·.name)) mean mg mb h₀ → cs.kind = .function →
    0 ≤ v → v < 1000 → dp + 10 < recursionLimit → un + 80 < cLine →
    (∀ h' tk t, Fr h₀ L h' m → s.heap.StaysIn h' → Q (.str (numTx v) t) { s with heap := h', toks := tk }) →
    wpAny (model Challenge.rw_dn0186_02.row.prog w) (ktrTop dp un gd cn cs L a ccd cl outer) (call (.ref 35) [.int v tv]) Q E s := by
  k_fill
  intro dp un gd cn cs a ccd cl outer A₀ base h₀ L m s v tv Q E B F X T hk hv1 hv2 hd hu hret
  refine wpAny_call ?_
  k_dflt (refine' code_defH ?k1 ?k2 ?k3 ?k4 ?k5 ?kA ?kF ?kK ?k6 ?k7 ?k8 ?k9 ?kB ?_ ?c2 ?c3 ?c4 ?c5; (case kA => exact rfl); (case kF => exact rfl); (case kK => assumption); (case k1 => k_asm); (case k2 => k_asm); (case k3 => k_asm); (case k4 => exact News.nil); (case k5 => k_asm); (case k6 => k_is); (case k7 => k_is); (case k8 => ktr_room); (case k9 => exact BindsTo.of_eq rfl); (case c5 => decide); (case kB => exact locs rfl); (case c2 => exact rfl); (case c3 => exact rfl); (case c4 => exact rfl); k_whole)
  intro g L' h' stG hszL FG' F' N' B' X' T'
  (try dsimp only)
  (try k_fold)
  w_on
  walk_at "GO"
  k_steps
  all_goals (
    rename Fr h₀ L _ m => kF
    rename Fr g L' _ _ => Fz)
  · rename 100 ≤ v => q1
    exact Eq.mp (congrArg (fun x => Q (Value.str x _) _) (dig3 q1 hv2)) (hret _ _ _ kF fun b o e => Fz.keep b o (stG b o e (by simp)))
  · rename ¬ 100 ≤ v => q1
    rename 10 ≤ v => q2
    exact Eq.mp (congrArg (fun x => Q (Value.str x _) _) (dig2 q2 q1)) (hret _ _ _ kF fun b o e => Fz.keep b o (stG b o e (by simp)))
  · rename ¬ 10 ≤ v => q2
    exact Eq.mp (congrArg (fun x => Q (Value.str x _) _) (dig1 hv1 q2)) (hret _ _ _ kF fun b o e => Fz.keep b o (stG b o e (by simp)))
  · rename ¬ 10 ≤ v => q2
    exact Eq.mp (congrArg (fun x => Q (Value.str x _) _) (dig1 hv1 q2)) (hret _ _ _ kF fun b o e => Fz.keep b o (stG b o e (by simp)))
theorem dg02 (w : World) (mean : ExcName → Option Value) (mg mb : Str → Option Value) :
  ∀ (dp un : Nat) (gd : Option (List Code)) (cn : Str) (cs : Scope) (a : Addr) (ccd : Value) (cl : List (Str × Addr)) (outer : List Env) (A₀ : Around) (base h₀ : Heap) (L : Addr) (m : Str → Option Value) (s : Shared) (v : Int) (tv : Tok)
    (Q E : Value → Shared → Prop),
    Below A₀ base outer h₀ → Fr h₀ L s.heap m → (hd02.heap_39 w.params).In h₀ → Top topProg (looseW hd02.view_39 [] ++ (recsOf hd02.view_39).map (·.name) ++ (litsOf hd02.view_39).map (·.1) ++ (clssOf hd02.view_39 (looseW hd02.view_39 [])).map (·.name)) mean mg mb h₀ → cs.kind = .function →
    -1000 < v → v < 1000 → dp + 20 < recursionLimit → un + 160 < cLine →
    (∀ h' tk t, Fr h₀ L h' m → s.heap.StaysIn h' → Q (.str (numTx v) t) { s with heap := h', toks := tk }) →
    wpAny (model Challenge.rw_dn0186_02.row.prog w) (ktrTop dp un gd cn cs L a ccd cl outer) (call (.ref 35) [.int v tv]) Q E s := by
  k_fill
  intro dp un gd cn cs a ccd cl outer A₀ base h₀ L m s v tv Q E B F X T hk hv1 hv2 hd hu hret
  by_cases h00 : 0 ≤ v
  · exact dgp02 w mean mg mb dp un gd cn cs a ccd cl outer A₀ base h₀ L m s v tv Q E B F X T hk h00 hv2 (by omega) (by omega) hret
  refine wpAny_call ?_
  k_dflt (refine' code_defH ?k1 ?k2 ?k3 ?k4 ?k5 ?kA ?kF ?kK ?k6 ?k7 ?k8 ?k9 ?kB ?_ ?c2 ?c3 ?c4 ?c5; (case kA => exact rfl); (case kF => exact rfl); (case kK => assumption); (case k1 => k_asm); (case k2 => k_asm); (case k3 => k_asm); (case k4 => exact News.nil); (case k5 => k_asm); (case k6 => k_is); (case k7 => k_is); (case k8 => ktr_room); (case k9 => exact BindsTo.of_eq rfl); (case c5 => decide); (case kB => exact locs rfl); (case c2 => exact rfl); (case c3 => exact rfl); (case c4 => exact rfl); k_whole)
  intro g L' h' stG hszL FG' F' N' B' X' T'
  (try dsimp only)
  (try k_fold)
  w_on
  walk_at "GOD"
  · rename Fr g L' _ _ => F1
    k_dflt (refine dgp02 w mean mg mb _ _ _ _ _ _ _ _ _ _ _ _ _ _ _ _ _ _ _ B' F1 X' T' rfl (by omega) (by omega) (by ktr_room) (by ktr_units) ?_)
    intro h2 tk2 t2 F2 st2
    rename News g L' _ _ => Nz
    have N2 := news_stays Nz st2
    clear Nz
    have hl9 : (numTx (-v)).length ≤ 3 := numTx_len 2 (by omega) (by omega)
    walk_at "GOD"
    rename Fr h₀ L _ m => kF
    rename Fr g L' _ _ => Fz
    have e9 : numTx v = Str.ofString "-" ++ numTx (-v) := by
      have := numTx_neg (n := -v) (by omega)
      rwa [Int.neg_neg] at this
    exact Eq.mp (congrArg (fun x => Q (Value.str x _) _) e9) (hret _ _ _ kF fun b o e => Fz.keep b o (stG b o e (by simp)))
  all_goals omega

open PySem PySem.W PyProof.Rows PySem.Calls PySem.Spec

abbrev cs2 : Str := Str.ofString ", "
def goods (l : List Int) : List Int := l.filter isG
def bads (l : List Int) : List Int := l.filter (fun x => !isG x)
def ers (l : List Int) : List Str := (bads l).map en
def txO (l : List Int) : Str := Txt.join cs2 ((goods l).map wd)
def tuO (l : List Int) : Str := Txt.join cs2 ((goods l).reverse.map wd)
def hdO (l : List Int) : Str := if 1 < (goods l).length then Str.ofString "at tab sizes " else Str.ofString "at tab size "
theorem sjoin_snoc2 (sep w : Str) : ∀ (ts : List Str), ts ≠ [] → Str.join sep (ts ++ [w]) = Str.join sep ts ++ sep ++ w
  | [], h => absurd rfl h
  | [x], _ => rfl
  | x :: y :: r, _ => by
    have ih := sjoin_snoc2 sep w (y :: r) (by simp)
    show x ++ sep ++ Str.join sep ((y :: r) ++ [w]) = x ++ sep ++ Str.join sep (y :: r) ++ sep ++ w
    rw [ih]
    simp only [Str.append_assoc]
theorem tj (sep : Str) (l : List Str) : Txt.join sep l = Str.join sep l := StrLaws.glued_eq_join sep l
theorem join_snoc2 (sep w : Str) {ts : List Str} (h : ts ≠ []) : Txt.join sep (ts ++ [w]) = Txt.join sep ts ++ sep ++ w := by
  rw [tj, tj]
  exact sjoin_snoc2 sep w ts h
theorem join_cons2 (sep w : Str) {ts : List Str} (h : ts ≠ []) : Txt.join sep (w :: ts) = w ++ (sep ++ Txt.join sep ts) := by
  rw [tj, tj]
  cases ts with
  | nil => exact absurd rfl h
  | cons a r =>
    show w ++ sep ++ Str.join sep (a :: r) = _
    rw [Str.append_assoc]
theorem join_nil2 (sep : Str) : Txt.join sep [] = ⟨#[]⟩ := by rw [tj]; rfl
theorem emp_app (x : Str) : (⟨#[]⟩ : Str) ++ x = x := by
  apply str_ext'
  rw [Str.cps_append]
  simp
theorem app_emp (x : Str) : x ++ (⟨#[]⟩ : Str) = x := by
  apply str_ext'
  rw [Str.cps_append]
  simp
theorem fw_many2 {ts : List Str} (h : 1 < ts.length) : fwTx ts = Str.ofString "at tab sizes " ++ Txt.join cs2 ts := by
  unfold fwTx
  rw [if_pos h]
  congr 1
theorem fw_one2 {ts : List Str} (h : ¬ 1 < ts.length) : fwTx ts = Str.ofString "at tab size " ++ Txt.join cs2 ts := by
  unfold fwTx
  rw [if_neg h]
  congr 1
theorem goods_snoc (l : List Int) (x : Int) : goods (l ++ [x]) = if isG x then goods l ++ [x] else goods l := by
  unfold goods
  rw [List.filter_append]
  cases h : isG x <;> simp [h]
theorem bads_snoc (l : List Int) (x : Int) : bads (l ++ [x]) = if isG x then bads l else bads l ++ [x] := by
  unfold bads
  rw [List.filter_append]
  cases h : isG x <;> simp [h]
theorem ers_good {l : List Int} {x : Int} (h : isG x = true) : ers (l ++ [x]) = ers l := by unfold ers; rw [bads_snoc, if_pos h]
theorem ers_bad {l : List Int} {x : Int} (h : isG x = false) : ers (l ++ [x]) = ers l ++ [en x] := by unfold ers; rw [bads_snoc, if_neg (by rw [h]; decide), List.map_append]; rfl
theorem txO_bad {l : List Int} {x : Int} (h : isG x = false) : txO (l ++ [x]) = txO l := by unfold txO; rw [goods_snoc, if_neg (by rw [h]; decide)]
theorem tuO_bad {l : List Int} {x : Int} (h : isG x = false) : tuO (l ++ [x]) = tuO l := by unfold tuO; rw [goods_snoc, if_neg (by rw [h]; decide)]
theorem hdO_bad {l : List Int} {x : Int} (h : isG x = false) : hdO (l ++ [x]) = hdO l := by unfold hdO; rw [show goods (l ++ [x]) = goods l from by rw [goods_snoc, if_neg (by rw [h]; decide)]]
theorem txO_more {l : List Int} {x : Int} (h : isG x = true) (hn : goods l ≠ []) : txO (l ++ [x]) = txO l ++ cs2 ++ wd x := by
  unfold txO
  rw [goods_snoc, if_pos h, List.map_append]
  exact join_snoc2 _ _ (by simpa using hn)
theorem txO_first {l : List Int} {x : Int} (h : isG x = true) (hn : goods l = []) : txO (l ++ [x]) = txO l ++ wd x := by
  unfold txO
  rw [goods_snoc, if_pos h, hn]
  rw [show Txt.join cs2 (List.map wd []) = ⟨#[]⟩ from join_nil2 _, emp_app]
  rw [tj]; rfl
theorem tuO_more {l : List Int} {x : Int} (h : isG x = true) (hn : goods l ≠ []) : tuO (l ++ [x]) = wd x ++ (cs2 ++ tuO l) := by
  unfold tuO
  rw [goods_snoc, if_pos h, List.reverse_append]
  exact join_cons2 _ _ (by simpa using hn)
theorem tuO_first {l : List Int} {x : Int} (h : isG x = true) (hn : goods l = []) : tuO (l ++ [x]) = wd x ++ tuO l := by
  unfold tuO
  rw [goods_snoc, if_pos h, hn]
  rw [show Txt.join cs2 (List.map wd (List.reverse [])) = ⟨#[]⟩ from join_nil2 _, app_emp]
  rw [tj]; rfl
theorem hdO_more {l : List Int} {x : Int} (h : isG x = true) (hn : goods l ≠ []) : hdO (l ++ [x]) = Str.ofString "at tab sizes " := by
  unfold hdO
  rw [goods_snoc, if_pos h, if_pos]
  cases hg : goods l with
  | nil => exact absurd hg hn
  | cons a r => simp
theorem hdO_first {l : List Int} {x : Int} (h : isG x = true) (hn : goods l = []) : hdO (l ++ [x]) = hdO l := by
  unfold hdO
  rw [goods_snoc, if_pos h, hn]
  rfl
theorem all_good {l : List Int} (h : bads l = []) : goods l = l ∧ l.find? (fun x => !isG x) = none := by
  have h1 : ∀ x ∈ l, ¬ (!isG x) = true := List.filter_eq_nil_iff.mp h
  exact ⟨List.filter_eq_self.mpr fun x hx => by simpa using h1 x hx, List.find?_eq_none.mpr h1⟩
theorem fw_of {l : List Int} {ts : List Str} (h : ts.length = (goods l).length) : fwTx ts = hdO l ++ Txt.join cs2 ts := by
  unfold hdO
  by_cases h1 : 1 < ts.length
  · rw [if_pos (by omega), fw_many2 h1]
  · rw [if_neg (by omega), fw_one2 h1]
theorem bads_ers {l : List Int} : ers l = [] ↔ bads l = [] := by unfold ers; exact List.map_eq_nil_iff
theorem want_good {l : List Int} (h : ers l = []) : ask1 l = Str.ofString "" ∧ ask2 l = hdO l ++ txO l := by
  obtain ⟨hg, hf⟩ := all_good (bads_ers.mp h)
  unfold ask1 ask2 txO
  rw [hf, hg]
  exact ⟨rfl, fw_of (by rw [List.length_map, hg])⟩
theorem bads_rev (l : List Int) : bads l.reverse = (bads l).reverse := by unfold bads; exact List.filter_reverse
theorem back_good {l : List Int} (h : ers l = []) : ask1 l.reverse = Str.ofString "" ∧ ask2 l.reverse = hdO l ++ tuO l := by
  have hb := bads_ers.mp h
  obtain ⟨hg, _⟩ := all_good hb
  obtain ⟨_, hf⟩ := all_good (l := l.reverse) (by rw [bads_rev, hb]; rfl)
  unfold ask1 ask2 tuO
  rw [hf, hg]
  exact ⟨rfl, fw_of (by rw [List.length_map, List.length_reverse, hg])⟩
theorem want_bad {l : List Int} (h : ers l ≠ []) : ask1 l = (ers l).getD 0 ⟨#[]⟩ ∧ ask2 l = Str.ofString "" := by
  have e : (bads l).head? = l.find? (fun x => !isG x) := List.head?_filter
  unfold ask1 ask2 ers
  rw [← e]
  cases q : bads l with
  | nil => exact absurd (bads_ers.mpr q) h
  | cons a r => exact ⟨rfl, rfl⟩
theorem back_bad {l : List Int} (h : ers l ≠ []) : ask1 l.reverse = (ers l).getD ((ers l).length - 1) ⟨#[]⟩ ∧ ask2 l.reverse = Str.ofString "" := by
  have e : (bads l.reverse).head? = l.reverse.find? (fun x => !isG x) := List.head?_filter
  rw [bads_rev, List.head?_reverse] at e
  unfold ask1 ask2 ers
  rw [← e]
  cases q : bads l with
  | nil => exact absurd (bads_ers.mpr q) h
  | cons a r =>
    refine ⟨?_, ?_⟩
    · rw [List.getLast?_eq_getElem?, List.getElem?_eq_getElem (by simp)]
      dsimp only
      rw [getD_at (by simp), List.getElem_map]
      congr 1
      simp
    · rw [List.getLast?_eq_getElem?, List.getElem?_eq_getElem (by simp)]
theorem end_good (l : List Int) : ask1 (goods l) = Str.ofString "" ∧ ask2 (goods l) = hdO l ++ txO l := by
  have hb : bads (goods l) = [] := List.filter_eq_nil_iff.mpr fun x hx => by
    have := (List.mem_filter.mp hx).2
    simp [this]
  obtain ⟨hg, hf⟩ := all_good hb
  unfold ask1 ask2 txO
  rw [hf]
  exact ⟨rfl, fw_of (by rw [List.length_map])⟩
theorem jlen (l : List Str) (h : ∀ t ∈ l, t.length ≤ 5) : (Txt.join cs2 l).length ≤ 7 * l.length := by
  refine join_len _ _ ?_
  have h2 : cs2.length = 2 := by decide
  rw [h2]
  induction l with
  | nil => simp
  | cons a t ih =>
    have h1 := h a (.head _)
    have h3 := ih fun x hx => h x (.tail _ hx)
    simp only [List.map_cons, List.sum_cons, List.length_cons]
    omega
theorem txO_len (l : List Int) : (txO l).length ≤ 7 * l.length := by
  refine Nat.le_trans (jlen _ fun t ht => ?_) (by rw [List.length_map]; exact Nat.mul_le_mul_left _ (List.length_filter_le _ _))
  obtain ⟨x, _, rfl⟩ := List.mem_map.mp ht
  exact wd_len x
theorem tuO_len (l : List Int) : (tuO l).length ≤ 7 * l.length := by
  refine Nat.le_trans (jlen _ fun t ht => ?_) (by rw [List.length_map, List.length_reverse]; exact Nat.mul_le_mul_left _ (List.length_filter_le _ _))
  obtain ⟨x, _, rfl⟩ := List.mem_map.mp ht
  exact wd_len x
theorem hdO_len (l : List Int) : (hdO l).length ≤ 13 := by
  unfold hdO
  split <;> exact Nat.le_of_ble_eq_true rfl

open PySem PySem.W PyProof.Rows


theorem news_swapL {h₀ h h' : Heap} {L P : Addr} {o o' : Obj} {l l' : List (Addr × Obj)} (N : News h₀ L h l) (U : Upd P o o' l l') (N' : News h₀ L h' [(P, o')]) (st : ∀ b o, b ≠ P → b ≠ L → h.get? b = some o → h'.get? b = some o) : News h₀ L h' l' := by
  obtain ⟨pre, post, rfl, rfl, a, b⟩ := U.split
  intro p hp
  rcases List.mem_append.mp hp with hp | hp
  · have := N p (List.mem_append.mpr (.inl hp))
    exact ⟨st _ _ (a p hp) this.2.1 this.1, this.2⟩
  · rcases List.mem_cons.mp hp with rfl | hp
    · exact N' _ (.head _)
    · have := N p (List.mem_append.mpr (.inr (.tail _ hp)))
      exact ⟨st _ _ (b p hp) this.2.1 this.1, this.2⟩
theorem upd_mem {P : Addr} {o o' : Obj} {l l' : List (Addr × Obj)} (U : Upd P o o' l l') : (P, o) ∈ l := by
  obtain ⟨pre, post, rfl, rfl, a, b⟩ := U.split
  exact List.mem_append.mpr (.inr (.head _))
theorem allLt_mem {l : List (Addr × Obj)} {D : Addr} (h : AllLt D l) : ∀ p ∈ l, p.1 < D := by
  induction l with
  | nil => intro p hp; cases hp
  | cons a t ih =>
    intro p hp
    rcases List.mem_cons.mp hp with rfl | hp
    · exact h.1
    · exact ih h.2 p hp
theorem ne_same {x y : Str} (h : x = y) (q : (x != y) = true) : False := by
  subst h
  simp at q
theorem apart {h₀ h : Heap} {L : Addr} {own news : List (Addr × Obj)} (N : News h₀ L h news) (f : ∀ p ∈ own, h.get? p.1 = none) : ∀ p ∈ own, ∀ q ∈ news, p.1 ≠ q.1 := fun p hp q hq e => by
  have h1 := f p hp
  rw [e, (N q hq).1] at h1
  cases h1
theorem row02_use {w : World} {mean : ExcName → Option Value} {mg mb : Str → Option Value} {dp un : Nat} {gd : Option (List Code)} {cn : Str} {cs : Scope} {a : Addr} {ccd : Value} {cl : List (Str × Addr)} {A₀ : Around} {base h₀ : Heap} {L : Addr} {m : Str → Option Value} {s : Shared} {news : List (Addr × Obj)} {Q E : Value → Shared → Prop} {outer : List Env} {x : Int} {tx : Tok}
    (B : Below A₀ base outer h₀) (F : Fr h₀ L s.heap m) (X : (hd02.heap_39 w.params).In h₀) (N : News h₀ L s.heap news) (T : Top topProg (looseW hd02.view_39 [] ++ (recsOf hd02.view_39).map (·.name) ++ (litsOf hd02.view_39).map (·.1) ++ (clssOf hd02.view_39 (looseW hd02.view_39 [])).map (·.name)) mean mg mb h₀) (hk : cs.kind = .function) (hd : dp + 10 < recursionLimit) (hu : un + 80 < cLine)
    (h : ∀ h' tk y own, Fr h₀ L h' m → News h₀ L h' (news ++ own) → RowAt Challenge.rw_dn0186_02.row.prog w own x y → (∀ p ∈ own, ∀ q ∈ news, p.1 ≠ q.1) → Q y { s with heap := h', toks := tk }) :
    wpAny (model Challenge.rw_dn0186_02.row.prog w) (ktrTop dp un gd cn cs L a ccd cl outer) (call (.ref 28) [.int x tx]) Q E s :=
  row02 w mean mg mb dp un gd cn cs a ccd cl outer A₀ base h₀ L m s x tx Q E B F X T hk hd hu fun h' tk y own F' N' r st fr =>
    h h' tk y own F' (fun p hp => (List.mem_append.mp hp).elim (fun hp => news_stays N st p hp) (N' p)) r (apart N fr)
theorem dg02_use {w : World} {mean : ExcName → Option Value} {mg mb : Str → Option Value} {dp un : Nat} {gd : Option (List Code)} {cn : Str} {cs : Scope} {a : Addr} {ccd : Value} {cl : List (Str × Addr)} {A₀ : Around} {base h₀ : Heap} {L : Addr} {m : Str → Option Value} {s : Shared} {news : List (Addr × Obj)} {Q E : Value → Shared → Prop} {outer : List Env} {v : Int} {tv : Tok}
    (B : Below A₀ base outer h₀) (F : Fr h₀ L s.heap m) (X : (hd02.heap_39 w.params).In h₀) (N : News h₀ L s.heap news) (T : Top topProg (looseW hd02.view_39 [] ++ (recsOf hd02.view_39).map (·.name) ++ (litsOf hd02.view_39).map (·.1) ++ (clssOf hd02.view_39 (looseW hd02.view_39 [])).map (·.name)) mean mg mb h₀) (hk : cs.kind = .function) (hv1 : -1000 < v) (hv2 : v < 1000) (hd : dp + 20 < recursionLimit) (hu : un + 160 < cLine)
    (h : ∀ h' tk t, Fr h₀ L h' m → News h₀ L h' news → Q (.str (numTx v) t) { s with heap := h', toks := tk }) :
    wpAny (model Challenge.rw_dn0186_02.row.prog w) (ktrTop dp un gd cn cs L a ccd cl outer) (call (.ref 35) [.int v tv]) Q E s :=
  dg02 w mean mg mb dp un gd cn cs a ccd cl outer A₀ base h₀ L m s v tv Q E B F X T hk hv1 hv2 hd hu fun h' tk t F' st => h h' tk t F' (news_stays N st)
theorem ask02_use {w : World} {mean : ExcName → Option Value} {mg mb : Str → Option Value} {dp un : Nat} {gd : Option (List Code)} {cn : Str} {cs : Scope} {a : Addr} {ccd : Value} {cl : List (Str × Addr)} {A₀ : Around} {base h₀ : Heap} {L : Addr} {m : Str → Option Value} {s : Shared} {news : List (Addr × Obj)} {Q E : Value → Shared → Prop} {D : Addr} {ps : Array Value} {vs : List Value} {l : List Int} {objs : List (Addr × Obj)} {news' : Array Value → List (Addr × Obj)}
    (B : Below A₀ base [] h₀) (XB : (hd02.heap_39 w.params).In base) (TB : Top topProg (looseW hd02.view_39 [] ++ (recsOf hd02.view_39).map (·.name) ++ (litsOf hd02.view_39).map (·.1) ++ (clssOf hd02.view_39 (looseW hd02.view_39 [])).map (·.name)) mean mg mb base) (F : Fr h₀ L s.heap m) (X : (hd02.heap_39 w.params).In h₀) (N : News h₀ L s.heap news) (T : Top topProg (looseW hd02.view_39 [] ++ (recsOf hd02.view_39).map (·.name) ++ (litsOf hd02.view_39).map (·.1) ++ (clssOf hd02.view_39 (looseW hd02.view_39 [])).map (·.name)) mean mg mb h₀) (hk : cs.kind = .function) (CH : CodeHd h₀ 20 16)
    (hf : TabForm ⟨3, 13, 3, 39⟩ ps) (hG : AllBare s.gens) (U : ∀ ps', Upd 16 (tabObj ps) (tabObj ps') news (news' ps')) (hD : ∃ n, (D, W.listOf vs.toArray n) ∈ news) (hR : RowsAt Challenge.rw_dn0186_02.row.prog w objs l vs) (hsub : ∀ p ∈ objs, p ∈ news) (hl : l.length ≤ 1000) (hd : dp + 20 < recursionLimit) (hu : un + 160 < cLine)
    (h : ∀ h' gs tk ps' R n u1 u2, Fr h₀ L h' m → News h₀ L h' ((R, { cls := .type "tuple", data := .seq #[.str (ask1 l) u1, .str (ask2 l) u2] n }) :: news' ps') → TabForm ⟨3, 13, 3, 39⟩ ps' → AllBare gs → (@Ne Nat 16 R) → Q (.ref R) { s with heap := h', gens := gs, toks := tk }) :
    wpAny (model Challenge.rw_dn0186_02.row.prog w) (ktrTop dp un gd cn cs L a ccd cl []) (call (.ref 42) [.ref D]) Q E s := by
  obtain ⟨n0, hD⟩ := hD
  refine ask02 w mean mg mb dp un gd cn cs a ccd cl A₀ base h₀ L m s D ps vs (ask1 l) (ask2 l) Q E B XB TB F X (news_sub N fun p hp => by rw [List.mem_singleton.mp hp]; exact upd_mem (U ps)) T hk CH hf hG (.inl ⟨_, (N _ hD).1, rfl, n0, rfl⟩) (by rw [hR.1]; exact hl)
    (askOut_of (fun p hp => (N p (hsub p hp)).1) hR hl) hd hu fun h' gs tk ps' R n u1 u2 F' N' hf' hG' fr st => h h' gs tk ps' R n u1 u2 F' ?_ hf' hG' ?_
  · intro p hp
    rcases List.mem_cons.mp hp with rfl | hp
    · exact N' _ (.head _)
    · exact news_swapL N (U ps') (news_sub N' (List.forall_mem_cons.mpr ⟨.tail _ (.head _), List.forall_mem_nil _⟩)) st p hp
  · intro e
    have h1 := (N _ (upd_mem (U ps))).1
    dsimp only at h1
    rw [e, fr] at h1
    cases h1

open PySem PySem.W PyProof.Rows


theorem rows_snoc {prog : Program} {w : World} {c own : List (Addr × Obj)} {l : List Int} {ys : List Value} {x : Int} {y : Value} (r : RowsAt prog w c l ys) (q : RowAt prog w own x y) : RowsAt prog w (c ++ own) (l ++ [x]) (ys ++ [y]) := by
  refine ⟨by simp [r.1], fun i v e => ?_⟩
  by_cases h : i < l.length
  · rw [List.getElem?_append_left (by rw [r.1]; exact h)] at e
    rw [getD_at (by simp; omega), List.getElem_append_left h, ← getD_at (d := 0) h]
    exact (r.2 i v e).mono fun p hp => List.mem_append_left _ hp
  · rw [List.getElem?_append_right (by rw [r.1]; omega)] at e
    have hi : i = l.length := by
      have := (List.getElem?_eq_some_iff.mp e).1
      rw [r.1] at this
      simp at this
      omega
    subst hi
    rw [r.1] at e
    simp at e
    subst e
    rw [getD_at (by simp)]
    simp
    exact q.mono fun p hp => List.mem_append_right _ hp
theorem take_snoc {l : List Int} {i : Nat} (h : i < l.length) : l.take (i + 1) = l.take i ++ [l.getD i 0] := by
  rw [getD_at h, List.take_append_getElem h]
structure St02 where
  ps : Array Value
  rs : List Value
  gs : List Value
  es : List Value
  n1 : Nat
  n2 : Nat
  n3 : Nat
  objs : List (Addr × Obj)
  text : Str
  turned : Str
  head : Str
  t1 : Tok
  t2 : Tok
  t3 : Tok
  u : Str → Option Value
abbrev stored02 : List Str := [Str.ofString "x", Str.ofString "kind", Str.ofString "word", Str.ofString "want", Str.ofString "back"]
abbrev mp02 (mr : Str → Option Value) (c : St02) (y : Str) : Option Value := if y = Str.ofString "head" then some (.str c.head c.t3) else if y = Str.ofString "turned" then some (.str c.turned c.t2) else if y = Str.ofString "text" then some (.str c.text c.t1) else if stored02.contains y then c.u y else mr y
abbrev led02 (R Gd Er Kp Xs : Addr) (ks ws : List Value) (c : St02) : List (Addr × Obj) := (16, tabObj c.ps) :: (R, W.listOf c.rs.toArray c.n1) :: (Gd, W.listOf c.gs.toArray c.n2) :: (Er, W.listOf c.es.toArray c.n3) :: (Kp, LCg.lst ks) :: (Xs, W.listOf ws.toArray 0) :: c.objs
structure Ok02 (w : World) (xs0 : List Int) (R Gd Er : Addr) (ks : List Value) (n : Nat) (c : St02) : Prop where
  tab : TabForm ⟨3, 13, 3, 39⟩ c.ps
  rows : RowsAt Challenge.rw_dn0186_02.row.prog w c.objs (xs0.take n) c.rs
  good : RowsAt Challenge.rw_dn0186_02.row.prog w c.objs (goods (xs0.take n)) c.gs
  errs : StrsAre c.es (ers (xs0.take n))
  kept : RowsAt Challenge.rw_dn0186_02.row.prog w c.objs xs0 ks
  tx : c.text = txO (xs0.take n)
  tu : c.turned = tuO (xs0.take n)
  hd : c.head = hdO (xs0.take n)
  off : ∀ p ∈ c.objs, p.1 ≠ 16 ∧ p.1 ≠ R ∧ p.1 ≠ Gd ∧ p.1 ≠ Er
def Mid02 (w : World) (h₀ : Heap) (L : Addr) (mr : Str → Option Value) (R Gd Er Kp Xs : Addr) (ks ws : List Value) (xs0 : List Int) (I : Addr) (oI : Obj) (i : Nat) (t : Tok) (s s' : Shared) : Prop :=
  ∃ (c : St02) (h : Heap) (tk : Nat) (m' : Str → Option Value), s' = { s with heap := h, toks := tk } ∧ Fr h₀ L h m' ∧ News h₀ L h (led02 R Gd Er Kp Xs ks ws c ++ [(I, oI)]) ∧ (∀ z, m' z = if z = Str.ofString "k" then some (.int (0 + (i : Int)) t) else mp02 mr c z) ∧ (∀ p ∈ led02 R Gd Er Kp Xs ks ws c, p.1 ≠ I) ∧ Ok02 w xs0 R Gd Er ks i c
theorem cut02 (w : World) {M : Model} {A : Around} {E : Value → Shared → Prop} {s : Shared} {env : Env} {Q : Flow → Shared → Prop} {l : List Stmt} {h₀ : Heap} {L : Addr} {mr : Str → Option Value} {R Gd Er Kp Xs : Addr} {ks ws : List Value} {I : Addr} {oI : Obj} {i : Nat} {t : Tok} {c : St02} (xs0 : List Int)
    (hoff : ∀ p ∈ led02 R Gd Er Kp Xs ks ws c, p.1 ≠ I) (F3 : Fr h₀ L s.heap (fun y => if y = Str.ofString "k" then some (.int (0 + (i : Int)) t) else mp02 mr c y)) (N3 : News h₀ L s.heap (led02 R Gd Er Kp Xs ks ws c ++ [(I, oI)]))
    (h1 : wpAny M A (execs (l.take 1) env) (CutEnd (Mid02 w h₀ L mr R Gd Er Kp Xs ks ws xs0 I oI i t s)) E s) (h2 : ∀ s', Mid02 w h₀ L mr R Gd Er Kp Xs ks ws xs0 I oI i t s s' → wpAny M A (execs (l.drop 1) env) Q E s') : wpAny M A (execs l env) Q E s := execs_cut 1 _ h1 h2
theorem led_app02 {R Gd Er Kp Xs I : Addr} {oI : Obj} {ks ws : List Value} {c : St02} {l : List (Addr × Obj)} (h : ∀ p ∈ (16, tabObj c.ps) :: (R, W.listOf c.rs.toArray c.n1) :: (Gd, W.listOf c.gs.toArray c.n2) :: (Er, W.listOf c.es.toArray c.n3) :: (Kp, LCg.lst ks) :: (Xs, W.listOf ws.toArray 0) :: (I, oI) :: c.objs, p ∈ l) : ∀ p ∈ led02 R Gd Er Kp Xs ks ws c ++ [(I, oI)], p ∈ l := by
  intro p hp
  simp only [led02, List.mem_append, List.mem_cons, List.not_mem_nil, or_false] at hp
  refine h p ?_
  simp only [List.mem_cons]
  rcases hp with (h | h | h | h | h | h | h) | h <;> simp [h]
theorem tail_ne {c own news : List (Addr × Obj)} {R : Addr} {o : Obj} (h1 : ∀ p ∈ c, p.1 ≠ R) (ap : ∀ p ∈ own, ∀ q ∈ news, p.1 ≠ q.1) (hm : (R, o) ∈ news) : ∀ p ∈ c ++ own, p.1 ≠ R := fun p hp => (List.mem_append.mp hp).elim (h1 p) fun hp => ap p hp _ hm
theorem pick3 {X : Int} {a b c : Tok} (h : 5 ≤ X.fmod 8) : ∃ t, [Value.str (Str.ofString "index") a, .str (Str.ofString "type") b, .str (Str.ofString "key") c][(X.fmod 8 - 5).toNat]? = some (.str (en X) t) := by
  have hk := kd_lt X
  unfold kd at hk
  rcases (by omega : X.fmod 8 = 5 ∨ X.fmod 8 = 6 ∨ X.fmod 8 = 7) with e | e | e
  · unfold en kd; rw [e]; exact ⟨_, rfl⟩
  · unfold en kd; rw [e]; exact ⟨_, rfl⟩
  · unfold en kd; rw [e]; exact ⟨_, rfl⟩
theorem take_i {xs0 : List Int} {i : Nat} {X : Int} (h0 : 0 < i) (hi : i - 1 < xs0.length) (hX : X = xs0.getD (i - 1) 0) : xs0.take i = xs0.take (i - 1) ++ [X] := by
  have := take_snoc hi
  rw [← hX, show i - 1 + 1 = i by omega] at this
  exact this
theorem strs_snoc {vs : List Value} {l : List Str} {x : Str} {t : Tok} (h : StrsAre vs l) : StrsAre (vs ++ [.str x t]) (l ++ [x]) := by
  induction h with
  | nil => exact .cons _ _ .nil
  | cons a b h ih => exact .cons _ _ ih
theorem ok_bad {w : World} {xs0 : List Int} {R Gd Er : Addr} {ks : List Value} {i : Nat} {c : St02} {X : Int} {y9 : Value} {own9 : List (Addr × Obj)} (hc : Ok02 w xs0 R Gd Er ks (i - 1) c) (h0 : 0 < i) (hi : i - 1 < xs0.length) (hX : X = xs0.getD (i - 1) 0) (hg : isG X = false)
    (r9 : RowAt Challenge.rw_dn0186_02.row.prog w own9 X y9) (ap : ∀ p ∈ own9, p.1 ≠ 16 ∧ p.1 ≠ R ∧ p.1 ≠ Gd ∧ p.1 ≠ Er) (t : Tok) (n1 n3 : Nat) (u : Str → Option Value) :
    Ok02 w xs0 R Gd Er ks i { c with rs := c.rs ++ [y9], es := c.es ++ [.str (en X) t], objs := c.objs ++ own9, n1 := n1, n3 := n3, u := u } := by
  have e := take_i h0 hi hX
  refine ⟨hc.tab, ?_, ?_, ?_, hc.kept.mono fun p hp => List.mem_append_left _ hp, ?_, ?_, ?_, fun p hp => (List.mem_append.mp hp).elim (hc.off p) (ap p)⟩
  · rw [e]; exact rows_snoc hc.rows r9
  · rw [e, goods_snoc, if_neg (by rw [hg]; decide)]; exact hc.good.mono fun p hp => List.mem_append_left _ hp
  · rw [e, ers_bad hg]; exact strs_snoc hc.errs
  · rw [e, txO_bad hg]; exact hc.tx
  · rw [e, tuO_bad hg]; exact hc.tu
  · rw [e, hdO_bad hg]; exact hc.hd
theorem ok_good {w : World} {xs0 : List Int} {R Gd Er : Addr} {ks : List Value} {i : Nat} {c : St02} {X : Int} {y9 vk : Value} {own9 : List (Addr × Obj)} {text turned head : Str} (hc : Ok02 w xs0 R Gd Er ks (i - 1) c) (h0 : 0 < i) (hi : i - 1 < xs0.length) (hX : X = xs0.getD (i - 1) 0) (hg : isG X = true)
    (r9 : RowAt Challenge.rw_dn0186_02.row.prog w own9 X y9) (rk : RowAt Challenge.rw_dn0186_02.row.prog w c.objs X vk) (ap : ∀ p ∈ own9, p.1 ≠ 16 ∧ p.1 ≠ R ∧ p.1 ≠ Gd ∧ p.1 ≠ Er) (t1 t2 t3 : Tok) (n1 n2 : Nat) (u : Str → Option Value)
    (htx : text = txO (xs0.take (i - 1) ++ [X])) (htu : turned = tuO (xs0.take (i - 1) ++ [X])) (hhd : head = hdO (xs0.take (i - 1) ++ [X])) :
    Ok02 w xs0 R Gd Er ks i { c with rs := c.rs ++ [y9], gs := c.gs ++ [vk], objs := c.objs ++ own9, n1 := n1, n2 := n2, text := text, turned := turned, head := head, t1 := t1, t2 := t2, t3 := t3, u := u } := by
  have e := take_i h0 hi hX
  refine ⟨hc.tab, ?_, ?_, ?_, hc.kept.mono fun p hp => List.mem_append_left _ hp, ?_, ?_, ?_, fun p hp => (List.mem_append.mp hp).elim (hc.off p) (ap p)⟩
  · rw [e]; exact rows_snoc hc.rows r9
  · rw [e, goods_snoc, if_pos hg]
    have := rows_snoc hc.good (own := c.objs) rk
    exact ⟨this.1, fun i v e => (this.2 i v e).mono fun p hp => List.mem_append_left _ ((List.mem_append.mp hp).elim id id)⟩
  · rw [e, ers_good hg]; exact hc.errs
  · rw [e]; exact htx
  · rw [e]; exact htu
  · rw [e]; exact hhd
def MidW (h₀ : Heap) (L : Addr) (m : Str → Option Value) (news : List (Addr × Obj)) (wt : Str) (s s' : Shared) : Prop :=
  ∃ (h : Heap) (tk : Nat) (m' : Str → Option Value) (tw : Tok), s' = { s with heap := h, toks := tk } ∧ Fr h₀ L h m' ∧ News h₀ L h news ∧ ∀ z, m' z = if z = Str.ofString "word" then some (.str wt tw) else m z
theorem cutW (wt : Str) {M : Model} {A : Around} {E : Value → Shared → Prop} {s : Shared} {env : Env} {Q : Flow → Shared → Prop} {l : List Stmt} {h₀ : Heap} {L : Addr} {m : Str → Option Value} {news : List (Addr × Obj)} (F : Fr h₀ L s.heap m) (N : News h₀ L s.heap news)
    (h1 : wpAny M A (execs (l.take 2) env) (CutEnd (MidW h₀ L m news wt s)) E s) (h2 : ∀ s', MidW h₀ L m news wt s s' → wpAny M A (execs (l.drop 2) env) Q E s') : wpAny M A (execs l env) Q E s := execs_cut 2 _ h1 h2
def MidB (h₀ : Heap) (L : Addr) (m : Str → Option Value) (news : List (Addr × Obj)) (l : List Int) (s s' : Shared) : Prop :=
  ∃ (h : Heap) (tk : Nat) (m' : Str → Option Value) (W9 B9 : Addr) (n1 n2 : Nat) (a1 a2 b1 b2 : Str) (u1 u2 u3 u4 : Tok), s' = { s with heap := h, toks := tk } ∧ Fr h₀ L h m' ∧ News h₀ L h ((W9, { cls := .type "tuple", data := .seq #[.str a1 u1, .str a2 u2] n1 }) :: (B9, { cls := .type "tuple", data := .seq #[.str b1 u3, .str b2 u4] n2 }) :: news) ∧
    (∀ z, m' z = if z = Str.ofString "want" then some (.ref W9) else if z = Str.ofString "back" then some (.ref B9) else m z) ∧ W9 ≠ 16 ∧ B9 ≠ 16 ∧ ask1 l = a1 ∧ ask2 l = a2 ∧ ask1 l.reverse = b1 ∧ ask2 l.reverse = b2
theorem cutB02 (l0 : List Int) {M : Model} {A : Around} {E : Value → Shared → Prop} {s : Shared} {env : Env} {Q : Flow → Shared → Prop} {l : List Stmt} {h₀ : Heap} {L : Addr} {m : Str → Option Value} {news : List (Addr × Obj)} (F : Fr h₀ L s.heap m) (N : News h₀ L s.heap news)
    (h1 : wpAny M A (execs (l.take 3) env) (CutEnd (MidB h₀ L m news l0 s)) E s) (h2 : ∀ s', MidB h₀ L m news l0 s s' → wpAny M A (execs (l.drop 3) env) Q E s') : wpAny M A (execs l env) Q E s := execs_cut 3 _ h1 h2
theorem isl9 {h₀ h : Heap} {L l : Addr} {news : List (Addr × Obj)} {vs : List Value} {n : Nat} (N : News h₀ L h news) (hm : (l, W.listOf vs.toArray n) ∈ news) : h.IsList l vs.toArray := ⟨_, (N _ hm).1, rfl, n, rfl⟩
theorem isl0 {h₀ h : Heap} {L l : Addr} {news : List (Addr × Obj)} {n : Nat} (N : News h₀ L h news) (hm : (l, W.listOf #[] n) ∈ news) : h.IsList l #[] := ⟨_, (N _ hm).1, rfl, n, rfl⟩
theorem gs_ne {prog : Program} {w : World} {objs : List (Addr × Obj)} {l : List Int} {vs : List Value} (r : RowsAt prog w objs l vs) (h : vs.isEmpty = false) : l ≠ [] := by
  rintro rfl
  rw [List.isEmpty_iff_length_eq_zero.mpr r.1] at h
  cases h
theorem gs_nil {prog : Program} {w : World} {objs : List (Addr × Obj)} {l : List Int} {vs : List Value} (r : RowsAt prog w objs l vs) (h : vs.isEmpty = true) : l = [] := by
  have := List.isEmpty_iff_length_eq_zero.mp h
  exact List.length_eq_zero_iff.mp (r.1.symm.trans this)
theorem es_ne {l : List Str} {vs : List Value} (r : StrsAre vs l) (h : vs.isEmpty = false) : l ≠ [] := by
  rintro rfl
  rw [List.isEmpty_iff_length_eq_zero.mpr r.length] at h
  cases h
theorem es_nil {l : List Str} {vs : List Value} (r : StrsAre vs l) (h : vs.isEmpty = true) : l = [] := by
  have := List.isEmpty_iff_length_eq_zero.mp h
  exact List.length_eq_zero_iff.mp (r.length.symm.trans this)
theorem strs_nth {l : List Str} {vs : List Value} (r : StrsAre vs l) {i : Nat} (hi : i < l.length) : ∃ t, vs[i]? = some (.str (l.getD i ⟨#[]⟩) t) :=
  r.get i _ (by rw [List.getD_eq_getElem?_getD, List.getElem?_eq_getElem hi]; rfl)
theorem item_lastS {prog : Program} {w : World} {A : Around} {E : Value → Shared → Prop} {s : Shared} {Q : Value → Shared → Prop} {h₀ : Heap} {L : Addr} {news : List (Addr × Obj)} {value slice : PySem.Expr} {l : Addr} {vs : List Value} {ns : List Str} {n : Nat} {k : Int} {u : Tok} (N : News h₀ L s.heap news) (hm : (l, W.listOf vs.toArray n) ∈ news) (hi : StrsAre vs ns) (hk : k = -1) (hne : ns ≠ []) (h : ∀ t, Q (.str (ns.getD (ns.length - 1) ⟨#[]⟩) t) s)
    {ops : List Value} (hs : subscripted slice false (.ref l) (.int k u) = operate ops (getItem (.ref l) (.int k u))) :
    wpAny (model prog w) A (subscriptTail value slice (.ref l) (.int k u)) Q E s := by
  subst hk
  have hp' : 0 < ns.length := List.length_pos_iff.mpr hne
  obtain ⟨t, e⟩ := strs_nth hi (i := ns.length - 1) (by omega)
  have hp : 0 < vs.length := by rw [hi.length]; exact hp'
  refine tail_any (s := s) (Heap.IsList.typeIs ⟨_, N.get hm, rfl, n, rfl⟩) slot_list_getitem.lookup (wpAny_getItem_list_neg (items := vs.toArray) ⟨_, N.get hm, rfl, n, rfl⟩ (by omega) ?_ (by decide) ?_ (h t)) hs
  · rw [List.size_toArray]; omega
  · rw [List.size_toArray]
    have : (-1 + (vs.length : Int)).toNat = vs.length - 1 := by omega
    rw [this, hi.length]; simpa using e
theorem ne_tup2 {prog : Program} {w : World} {A : Around} {E : Value → Shared → Prop} {s : Shared} {Q : Value → Shared → Prop} {h₀ : Heap} {L : Addr} {news : List (Addr × Obj)} {a b : Addr} {x y : Str} {t1 t2 t3 t4 : Tok} {n n' : Nat} (N : News h₀ L s.heap news) (ha : (a, ({ cls := .type "tuple", data := .seq #[.str x t1, .str y t2] n } : Obj)) ∈ news) (hb : (b, ({ cls := .type "tuple", data := .seq #[.str x t3, .str y t4] n' } : Obj)) ∈ news) (hu : A.units + 64 < cLine) (h : Q (.bool false) s) : wpAny (model prog w) A (compareOp .NotEq (.ref a) (.ref b)) Q E s :=
  (show wpAny _ _ (richCompare .NotEq (.ref a) (.ref b)) Q E s from SeqAt.RcNeAt.tuples (e := fun _ => true) ⟨_, (N _ ha).1, rfl, _, rfl⟩ ⟨_, (N _ hb).1, rfl, _, rfl⟩ (by omega) (fun j g1 g2 => by
    match j, g1 with
    | 0, _ => exact eq_str _ _ _
    | 1, _ => exact eq_str _ _ _) prog w E Q h)
theorem eq_tup2 {prog : Program} {w : World} {A : Around} {E : Value → Shared → Prop} {s : Shared} {Q : Value → Shared → Prop} {h₀ : Heap} {L : Addr} {news : List (Addr × Obj)} {a b : Addr} {x y x' y' : Str} {t1 t2 t3 t4 : Tok} {n n' : Nat} (N : News h₀ L s.heap news) (ha : (a, ({ cls := .type "tuple", data := .seq #[.str x t1, .str y t2] n } : Obj)) ∈ news) (hb : (b, ({ cls := .type "tuple", data := .seq #[.str x' t3, .str y' t4] n' } : Obj)) ∈ news) (hx : x = x') (hy : y = y') (hu : A.units + 64 < cLine) (h : Q (.bool true) s) : wpAny (model prog w) A (compareOp .Eq (.ref a) (.ref b)) Q E s := by
  subst hx
  subst hy
  exact (show wpAny _ _ (richCompare .Eq (.ref a) (.ref b)) Q E s from SeqAt.RcAt.tuples (e := fun _ => true) ⟨_, (N _ ha).1, rfl, _, rfl⟩ ⟨_, (N _ hb).1, rfl, _, rfl⟩ (by omega) (fun j g1 g2 => by
    match j, g1 with
    | 0, _ => exact eq_str _ _ _
    | 1, _ => exact eq_str _ _ _) prog w E Q h)
theorem objs_get {h₀ h : Heap} {L : Addr} {news objs : List (Addr × Obj)} (N : News h₀ L h news) (hs : ∀ p ∈ objs, p ∈ news) : ∀ p ∈ objs, h.get? p.1 = some p.2 := fun p hp => (N p (hs p hp)).1
theorem rows_takeI {prog : Program} {w : World} {objs : List (Addr × Obj)} {l : List Int} {vs : List Value} {i : Nat} (r : RowsAt prog w objs l vs) : RowsAt prog w objs (l.take i) (vs.take ((0 : Int) + (i : Int)).toNat) := by
  have e : ((0 : Int) + (i : Int)).toNat = i := by omega
  rw [e]
  refine ⟨by rw [List.length_take, List.length_take, r.1], fun j v q => ?_⟩
  have hj := (List.getElem?_eq_some_iff.mp q).1
  rw [List.length_take, r.1] at hj
  rw [List.getElem?_take_of_lt (by omega)] at q
  have := r.2 j v q
  rw [getD_at (by rw [List.length_take]; omega), List.getElem_take, ← getD_at (d := 0) (by omega)]
  exact this
theorem rows_rev {prog : Program} {w : World} {objs : List (Addr × Obj)} {l : List Int} {vs : List Value} (r : RowsAt prog w objs l vs) : RowsAt prog w objs l.reverse vs.reverse := by
  refine ⟨by rw [List.length_reverse, List.length_reverse, r.1], fun j v q => ?_⟩
  have hj := (List.getElem?_eq_some_iff.mp q).1
  rw [List.length_reverse] at hj
  rw [List.getElem?_reverse hj] at q
  have := r.2 _ v q
  rw [r.1] at this hj
  rw [getD_at (by rw [List.length_reverse]; exact hj), List.getElem_reverse, ← getD_at (d := 0) (by omega)]
  exact this
theorem ok_ps {w : World} {xs0 : List Int} {R Gd Er : Addr} {ks : List Value} {n : Nat} {c : St02} {ps : Array Value} {u : Str → Option Value} (hc : Ok02 w xs0 R Gd Er ks n c) (hf : TabForm ⟨3, 13, 3, 39⟩ ps) : Ok02 w xs0 R Gd Er ks n { c with ps := ps, u := u } := ⟨hf, hc.rows, hc.good, hc.errs, hc.kept, hc.tx, hc.tu, hc.hd, hc.off⟩
theorem off_stored02 {z : Str} (h : stored02.contains z = false) : z ≠ Str.ofString "x" ∧ z ≠ Str.ofString "kind" ∧ z ≠ Str.ofString "word" ∧ z ≠ Str.ofString "want" ∧ z ≠ Str.ofString "back" := by
  simp only [stored02, List.contains_cons, List.contains_nil, Bool.or_false, Bool.or_eq_false_iff, beq_eq_false_iff_ne, ne_eq] at h
  exact h
theorem wd_2 {X : Int} (h : X.fmod 8 = 2) : wd X = Str.ofString "t" := by unfold wd kd; rw [if_pos h]
theorem wd_3 {X : Int} (h : X.fmod 8 = 3) : wd X = Str.ofString "eight" := by unfold wd kd; rw [if_neg (by omega), if_pos h]
theorem wd_0 {X : Int} (h : X.fmod 8 ≠ 2) (h2 : X.fmod 8 ≠ 3) : wd X = numTx ((X.fdiv 8).fmod 1000 - 300) := by unfold wd kd; rw [if_neg h, if_neg h2]; rfl
theorem em_tx : Str.ofString "" = txO [] := by decide +kernel
theorem em_tu : Str.ofString "" = tuO [] := by decide +kernel
theorem em_hd : Str.ofString "at tab size " = hdO [] := by decide +kernel
theorem led_un02 {R Gd Er Kp Xs I : Addr} {oI : Obj} {ks ws : List Value} {c : St02} : ∀ p ∈ (16, tabObj c.ps) :: (R, W.listOf c.rs.toArray c.n1) :: (Gd, W.listOf c.gs.toArray c.n2) :: (Er, W.listOf c.es.toArray c.n3) :: (Kp, LCg.lst ks) :: (Xs, W.listOf ws.toArray 0) :: (I, oI) :: c.objs, p ∈ led02 R Gd Er Kp Xs ks ws c ++ [(I, oI)] := by
  intro p hp
  simp only [led02, List.mem_append, List.mem_cons, List.not_mem_nil, or_false] at hp ⊢
  rcases hp with h | h | h | h | h | h | h | h <;> simp [h]
theorem off02 {R Gd Er Kp Xs I : Addr} {ks ws : List Value} {c c' : St02} (h : ∀ p ∈ led02 R Gd Er Kp Xs ks ws c, p.1 ≠ I) {own : List (Addr × Obj)} (e : c'.objs = c.objs ++ own) (ho : ∀ p ∈ own, p.1 ≠ I) : ∀ p ∈ led02 R Gd Er Kp Xs ks ws c', p.1 ≠ I := by
  intro p hp
  simp only [led02, List.mem_cons, e, List.mem_append] at hp
  rcases hp with rfl | rfl | rfl | rfl | rfl | rfl | hp | hp
  · exact h (16, tabObj c.ps) (.head _)
  · exact h (R, W.listOf c.rs.toArray c.n1) (.tail _ (.head _))
  · exact h (Gd, W.listOf c.gs.toArray c.n2) (.tail _ (.tail _ (.head _)))
  · exact h (Er, W.listOf c.es.toArray c.n3) (.tail _ (.tail _ (.tail _ (.head _))))
  · exact h (Kp, LCg.lst ks) (.tail _ (.tail _ (.tail _ (.tail _ (.head _)))))
  · exact h (Xs, W.listOf ws.toArray 0) (.tail _ (.tail _ (.tail _ (.tail _ (.tail _ (.head _))))))
  · exact h _ (.tail _ (.tail _ (.tail _ (.tail _ (.tail _ (.tail _ hp))))))
  · exact ho _ hp
local macro_rules | `(tactic| k_all) => `(tactic| first | with_reducible assumption | exact tail_ne (by assumption) (by assumption) (by k_mem))
local macro_rules | `(tactic| walk_at "MAP02") => `(tactic| (intro z; simp only [mp02]; by_cases hz : z = Str.ofString "k"; (subst hz; rfl); by_cases e1 : z = Str.ofString "head"; (subst e1; rfl); by_cases e2 : z = Str.ofString "turned"; (subst e2; rfl); by_cases e3 : z = Str.ofString "text"; (subst e3; rfl); (cases e : stored02.contains z; (obtain ⟨z1, z2, z3, z4, z5⟩ := off_stored02 e; simp only [z1, z2, z3, z4, z5, e1, e2, e3, hz, e, if_false, Bool.false_eq_true]); (simp only [e1, e2, e3, hz, if_false, if_true]; rfl))))
local macro_rules | `(tactic| walk_at "MAP02E") => `(tactic| (intro z hz; simp only [mp02]; by_cases e1 : z = Str.ofString "head"; (subst e1; rfl); by_cases e2 : z = Str.ofString "turned"; (subst e2; rfl); by_cases e3 : z = Str.ofString "text"; (subst e3; rfl); (cases e : stored02.contains z; (obtain ⟨z1, z2, z3, z4, z5⟩ := off_stored02 e; simp only [z1, z2, z3, z4, z5, e1, e2, e3, hz, e, if_false, Bool.false_eq_true]); (simp only [e1, e2, e3, hz, if_false, if_true]; rfl))))
local macro_rules | `(tactic| walk_at "MAPW") => `(tactic| (intro z; by_cases e1 : z = Str.ofString "word"; (subst e1; rfl); (simp only [e1, if_false])))
local macro_rules | `(tactic| walk_at "MAPB") => `(tactic| (intro z; by_cases e1 : z = Str.ofString "want"; (subst e1; rfl); by_cases e2 : z = Str.ofString "back"; (subst e2; rfl); (simp only [e1, e2, if_false])))
local macro_rules | `(tactic| walk_at "SUBL") => `(tactic| (dsimp only; (iterate 7 (refine' List.forall_mem_cons.mpr ⟨?m9, ?_⟩; (case m9 => k_mem))); intro p hp; (repeat (first | exact hp | refine List.Mem.tail _ ?_))))
local macro_rules | `(tactic| walk_at "GOC") => `(tactic| repeat' ((fail_if_success (with_reducible show wpAny _ _ (execs (Stmt.Assign [Expr.Name (Str.ofString "x") _] _ _ :: _) _) _ _ _)); first | (k_unfold; (try dsimp only)) | (k_end; wrow_close) | walk1 | (dsimp only; walk1) | (leave1; walk_say "STEP leave1"; try dsimp only) | fail "no step"))
local macro_rules | `(tactic| walk_at "exec For Name Call cons nil") => `(tactic| (k_here; k_dflt (refine' For_G ?_ ?hs9; (case hs9 => (intro _; rfl)))))
local macro_rules | `(tactic| walk_at "call ref") => `(tactic| (k_here; (try dsimp only [List.cons_append, List.nil_append]); (with_reducible show wpAny _ _ (call (Value.ref 28) [Value.int _ _]) _ _ _); k_dflt (refine' row02_use ?B ?F ?X ?N ?T ?hk ?hd ?hu ?_; (case B => k_asm); (case F => k_asm); (case X => k_asm); (case N => k_asm); (case T => k_asm); (case hk => exact rfl); (case hd => ktr_room); (case hu => ktr_units); k_whole); intro h' tk' y' own' F' N' r' ap'; (try simp only [List.cons_append, List.nil_append] at N'); (try k_sweep)))
local macro_rules | `(tactic| walk_at "call ref") => `(tactic| (k_here; (with_reducible show wpAny _ _ (call (Value.ref 35) [Value.int _ _]) _ _ _); k_dflt (refine' dg02_use ?B ?F ?X ?N ?T ?hk ?h1 ?h2 ?hd ?hu ?_; (case B => k_asm); (case F => k_asm); (case X => k_asm); (case N => k_asm); (case T => k_asm); (case hk => exact rfl); (case h1 => first | assumption | omega); (case h2 => first | assumption | omega); (case hd => ktr_room); (case hu => ktr_units); k_whole); intro h' tk' t' F' N'; (try k_sweep)))
local macro_rules | `(tactic| walk_at "SUBV") => `(tactic| (k_here; (with_reducible show wpAny _ _ (subscriptTail _ _ (Value.ref _) (Value.int _ _)) _ _ _); k_dflt (refine' item_ledL (n := _) ?N ?hm ?h0 ?hf ?hx ?_ ?hs; (case N => k_asm); (case hm => k_mem); (case h0 => omega); (case hf => omega); (case hx => with_reducible assumption); (case hs => with_unfolding_all rfl); k_whole)))
local macro_rules | `(tactic| walk_at "subscriptTail Name BinOp ref int") => `(tactic| walk_at "SUBV")
local macro_rules | `(tactic| walk_at "subscriptTail Name Constant ref int") => `(tactic| walk_at "SUBV")
local macro_rules | `(tactic| walk_at "subscriptTail Name UnaryOp ref int") => `(tactic| (k_here; (with_reducible show wpAny _ _ (subscriptTail _ _ (Value.ref _) (Value.int _ _)) _ _ _); k_dflt (refine' item_lastS (n := _) ?N ?hm ?hi ?hk ?hne ?_ ?hs; (case N => k_asm); (case hm => k_mem); (case hi => assumption); (case hk => rfl); (case hne => assumption); (case hs => with_unfolding_all rfl); k_whole); intro _))
local macro_rules | `(tactic| walk_at "STIF") => `(tactic| repeat ((with_reducible show wpAny _ _ (execs (Stmt.If _ _ _ _ :: _) _) _ _ _); walk1))
local macro_rules | `(tactic| walk_at "GOB") => `(tactic| repeat' ((fail_if_success (with_reducible show wpAny _ _ (subscriptTail (Expr.Name (Str.ofString "_") _) _ _ _) _ _ _)); (fail_if_success (with_reducible show wpAny _ _ (execs (Stmt.Assign [Expr.Name (Str.ofString "word") _] _ _ :: _) _) _ _ _)); first | (k_unfold; (try dsimp only)) | (k_end; wrow_close) | walk1 | (dsimp only; walk1) | (leave1; walk_say "STEP leave1"; try dsimp only) | fail "no step"))
local macro_rules | `(tactic| walk_at "SUBR") => `(tactic| (intro p hp; (repeat (first | exact hp | refine List.Mem.tail _ ?_))))
local macro_rules | `(tactic| walk_at "call ref") => `(tactic| (k_here; (with_reducible show wpAny _ _ (call (Value.ref 42) [Value.ref _]) _ _ _); k_dflt (refine' ask02_use ?B ?XB ?TB ?F ?X ?N ?T ?hk ?CH ?hf ?hG ?U ?hD ?hR ?hsub ?hl ?hd ?hu ?_; (case B => k_asm); (case F => k_asm); (case XB => k_asm); (case TB => k_asm); (case X => k_asm); (case N => k_asm); (case T => k_asm); (case hk => exact rfl); (case CH => assumption); (case hf => assumption); (case hG => assumption); (case U => (intro ps'; k_upd)); (case hD => exact ⟨_, by k_mem⟩); (case hR => assumption); (case hsub => walk_at "SUBR"); (case hl => omega); (case hd => ktr_room); (case hu => ktr_units); k_whole); intro h' gs' tk' ps' R' n' u1' u2' F' N' hf' hG' ap'; (try dsimp only at N'); (try k_sweep)))
local macro_rules | `(tactic| walk_at "subscriptTail Name Slice ref ref") => `(tactic| (k_here; (with_reducible show wpAny _ _ (subscriptTail _ _ (Value.ref _) (Value.ref _)) _ _ _); k_dflt (refine' slice_led ?F ?N ?hm ?pl ?pu ?pk ?h0 ?hz ?_ ?hs ?ht; (case F => k_asm); (case N => k_asm); (case hm => k_mem); (case pl => first | exact IsPart.none | exact IsPart.int _ _); (case pu => first | exact IsPart.none | exact IsPart.int _ _); (case pk => first | exact IsPart.none | exact IsPart.int _ _); (case h0 => simp); (case hz => omega); (case hs => with_unfolding_all rfl); (case ht => (intro _; with_unfolding_all rfl)); k_whole); intro D' h' F' N' l1; (first | rw [pickL_to _ (by omega)] at N' | rw [pickL_rev] at N' | skip); (try k_lt l1); (try k_sweep)))
local macro_rules | `(tactic| walk_at "call builtin:list.append") => `(tactic| (k_here; dsimp only [List.cons_append, List.nil_append]; (with_reducible show wpAny _ _ (call (Value.builtin "list.append") [Value.ref _, _]) _ _ _); k_dflt (refine' append_led ?F ?N ?U ?hz ?_; (case F => k_asm); (case N => k_asm); (case U => k_upd); (case hz => omega); k_whole); intro h' F' N'; (try k_sweep)))
local macro_rules | `(tactic| walk_at "GOA") => `(tactic| repeat' ((fail_if_success (with_reducible show wpAny _ _ (subscriptTail (Expr.Name (Str.ofString "_") _) _ _ _) _ _ _)); (fail_if_success (with_reducible show wpAny _ _ (execs (Stmt.If (Expr.Compare (Expr.Name (Str.ofString "kind") _) _ _ _) _ _ _ :: _) _) _ _ _)); (fail_if_success (with_reducible show wpAny _ _ (compareOp CmpOp.NotEq (Value.ref _) (Value.ref _)) _ _ _)); first | (k_unfold; (try dsimp only)) | (k_end; wrow_close) | walk1 | (dsimp only; walk1) | (leave1; walk_say "STEP leave1"; try dsimp only) | fail "no step"))
theorem t02 : PySem.Challenge.rw_dn0186_02.Holds := by
  refine hd02 ?_
  w_strict (
    k_fill
    intro w s₀ s₁ mg mb G Y fa o pm cd doc dV kV ho hd hcd hD hmg hg args vals as hpre hlay hrd hwl hlo
    have KX := kIn_of Y
    have X := (Ground.X G).1
    have V := (Ground.X G).2
    refine Ground.open G ?_
    intro T B D TE TW
    try (refine guard_noD D (by decide +kernel) ?_; clear D)
    have hT9 : TabsAt ((20, 16) :: []) _ := List.forall_mem_cons.mpr ⟨tab_of (x := Str.ofString "format_witnesses") (c := 20) (P := 16) T KX rfl (by kernel_rfl), fun _ h => nomatch h⟩
    clear hmg
    wrow_args hpre hlay hrd hwl hlo
    all_goals (
      first | refine callC_kw (enter_call ?_) | refine enter_call ?_
      w_top on
      refine kn_postT hT9 (fun _ => rfl) ?hpost ?_; (case hpost => (with_unfolding_all rfl))
      w_call any ho hd hcd hD T F
      clear hd
      kn_ghosts F T
      k_drop
      skip)
    (all_goals try k_fold)
    walk_at "GO"
    rename Fr _ _ _ _ => F1
    rename News _ _ _ _ => N1
    rename IntsAre _ (List.take 14 _) => hI1
    rename (List Int) => ns
    rename (List.take 14 ns).length = _ => hlen14
    rename 16 < (_ : Nat) => l16
    have hlen9 : (List.take 14 ns).length ≤ 14 := by rw [hlen14]; omega
    have hwl1 := IntsAre.length hI1
    refine' LCg.CompSrc.ledger rfl F1 N1 (.head _) ?hsz1 ?_
    case hsz1 => rw [PySem.sizeLine_eq, List.size_toArray]; omega
    intro gA
    rename_i Xs ws _ _ _
    refine' comp_led (σ := List (Addr × Obj)) (fun c => [(Xs, _), (16, _)] ++ c) (fun i ys c => RowsAt Challenge.rw_dn0186_02.row.prog w c (List.take i (List.take 14 ns)) ys ∧ ∀ p ∈ c, p.1 ≠ Xs ∧ p.1 ≠ 16) [] rfl ⟨⟨by simp, fun i v e => by simp at e⟩, fun p hp => nomatch hp⟩ ?turn1 ?fin1
    case turn1 =>
      rintro i v ys c I oI C oC D m2 h tk E hi hv ⟨inv, hap⟩ hC hx F3 N4 off ne
      have hi' : i < (List.take 14 ns).length := by rw [List.size_toArray] at hi; omega
      obtain ⟨tv, hv2⟩ := ints_at hI1 hi'
      have hvv : v = .int ((List.take 14 ns).getD i 0) tv := by
        have e : ws[i]? = some v := by simpa using hv
        rw [hv2] at e
        exact (Option.some.inj e).symm
      subst hvv
      walk_at "GO"
      rename_i h9 tk9 y9 own9 F9 N9 r9 ap9
      refine ⟨c ++ own9, h9, tk9, rfl, F9, N9, LCg.Off3.of fun p hp => ?_, .inr ⟨_, .head _, rfl, _, rfl⟩, ?_, ?_⟩
      · rcases List.mem_append.mp hp with hp | hp
        · exact off.mem p (List.mem_append.mpr (.inl hp))
        rcases List.mem_append.mp hp with hp | hp
        · exact off.mem p (List.mem_append.mpr (.inr hp))
        · exact ⟨ap9 p hp (I, oI) (.head _), ap9 p hp (C, oC) (.tail _ (.head _)), ap9 p hp (D, LCg.lst ys) (.tail _ (.tail _ (.head _)))⟩
      · rw [take_snoc hi']
        exact rows_snoc inv r9
      · intro p hp
        rcases List.mem_append.mp hp with hp | hp
        · exact hap p hp
        · exact ⟨ap9 p hp (Xs, _) (.tail _ (.tail _ (.tail _ (.head _)))), ap9 p hp (16, _) (.tail _ (.tail _ (.tail _ (.tail _ (.head _)))))⟩
    case fin1 =>
      rintro ys c0 ⟨inv0, hap0⟩ D2 h2 tk2 F4 N4 off2
      have hD16 : (16 : Nat) ≠ D2 := off2.2.1
      dsimp only
      have iv0 : RowsAt Challenge.rw_dn0186_02.row.prog w c0 (List.take 14 ns) ys := by
        rw [List.size_toArray, hwl1, List.take_length] at inv0
        exact inv0
      simp only [List.cons_append, List.nil_append] at N4
      clear F1 N1 inv0
      walk_at "GO"
      rename Fr _ _ _ _ => F5
      rename News _ _ _ _ => N5
      rename IsRange _ _ _ _ _ _ _ _ => hr5
      obtain ⟨mr, hmr, F6⟩ : ∃ mr : Str → Option Value, mr = _ ∧ Fr _ _ _ (fun y => if y = Str.ofString "head" then _ else if y = Str.ofString "turned" then _ else if y = Str.ofString "text" then _ else mr y) := ⟨_, rfl, F5⟩
      clear F5
      k_sweep
      rename_i R _ lR _ Gd _ lG _ Er _ lE _ _ _ _ _ _ _ _ _ _ _ _
      have hG1 : AllBare s₁.gens := by rw [hg]; exact .of_eq rfl
      have hn1 : Builtin.Range.rangeSize 0 (((List.take 14 ns).length : Int) + 1) 1 = (((List.take 14 ns).length + 1 : Nat) : Int) := rsize ((List.take 14 ns).length + 1)
      rename IntsAre ws _ => hXI
      obtain ⟨xs0, hxs0⟩ : ∃ xs0, xs0 = List.take 14 ns := ⟨_, rfl⟩
      rw [← hxs0] at hXI iv0 hn1 hlen9 hwl1 hr5
      refine' range_ledG (σ := St02) (mp02 mr) (led02 R Gd Er D2 Xs ys ws) (fun i c => Ok02 w xs0 R Gd Er ys (i - 1) c) (fun c => Ok02 w xs0 R Gd Er ys xs0.length c) ⟨#[], [], [], [], 0, 0, 0, c0, Str.ofString "", Str.ofString "", Str.ofString "at tab size ", _, _, _, mr⟩ rfl rfl rfl (by passes_own) hr5 (small_one (by omega) (by omega) (by omega) (by omega)) hn1 F6 N5 hG1 ?hsub ?hmap ?hinit ?hturn ?hends ?hdone
      case hsub => intro p hp; simp only [led02, List.mem_cons] at hp ⊢; rcases hp with h | h | h | h | h | h | h <;> simp [h]
      case hmap =>
        intro z hz
        simp only [mp02]
        split
        · rfl
        · split
          · rfl
          · split
            · rfl
            · split <;> rfl
      case hinit =>
        refine ⟨.inl rfl, ⟨rfl, fun i v e => nomatch e⟩, ⟨rfl, fun i v e => nomatch e⟩, .nil, iv0, ?_, ?_, ?_, fun p hp => ?_⟩
        · exact em_tx
        · exact em_tu
        · exact em_hd
        · have h1 := allLt_mem lR.2.2.2 p hp
          have h2 : p.1 < Gd := Nat.lt_trans h1 lG.1
          exact ⟨(hap0 p hp).2, Nat.ne_of_lt h1, Nat.ne_of_lt h2, Nat.ne_of_lt (Nat.lt_trans h2 lE.1)⟩
      case hends => intro c hc; exact hc
      case hturn =>
        intro i t c I oI h tk gs hi hc hGs hoff F3 N3
        refine cut02 w xs0 hoff F3 N3 ?hA ?hB
        case hA =>
          have N5 := news_sub N3 led_un02
          have q1 := neN (hoff _ (.head _))
          have q2 := neN (hoff _ (.tail _ (.head _)))
          have q3 := neN (hoff _ (.tail _ (.tail _ (.head _))))
          have q4 := neN (hoff _ (.tail _ (.tail _ (.tail _ (.head _)))))
          have q6 : ∀ p ∈ c.objs, p.1 ≠ R := fun p hp => (hc.off p hp).2.1
          have q7 : ∀ p ∈ c.objs, p.1 ≠ Gd := fun p hp => (hc.off p hp).2.2.1
          have q8 : ∀ p ∈ c.objs, p.1 ≠ Er := fun p hp => (hc.off p hp).2.2.2
          have q9 : ∀ p ∈ c.objs, p.1 ≠ I := fun p hp => hoff p (.tail _ (.tail _ (.tail _ (.tail _ (.tail _ (.tail _ hp))))))
          dsimp only at q1 q2 q3 q4
          have hRl : c.rs.length ≤ 14 := by have := hc.rows.1; rw [this, List.length_take]; omega
          have hTk : (xs0.take (i - 1)).length ≤ 14 := by rw [List.length_take]; omega
          have hGl : c.gs.length ≤ 14 := Nat.le_trans (Nat.le_of_eq hc.good.1) (Nat.le_trans (List.length_filter_le _ _) hTk)
          have hEl : c.es.length ≤ 14 := Nat.le_trans (Nat.le_of_eq hc.errs.length) (Nat.le_trans (by unfold ers; rw [List.length_map]; exact List.length_filter_le _ _) hTk)
          have hTl : c.text.length ≤ 98 := by have := txO_len (xs0.take (i - 1)); rw [← hc.tx] at this; omega
          have hUl : c.turned.length ≤ 98 := by have := tuO_len (xs0.take (i - 1)); rw [← hc.tu] at this; omega
          subst hmr
          dsimp only [mp02] at F3
          clear N3 F6
          dsimp only [List.take]
          (try k_fold)
          walk_at "GOC"
          · rename (0 : Int) < 0 + (i : Int) => hi0
            have hi1 : i - 1 < xs0.length := by omega
            have hxe : ((0 : Int) + (i : Int) - 1).toNat = i - 1 := by omega
            obtain ⟨X, hX⟩ : ∃ X, X = xs0.getD (i - 1) 0 := ⟨_, rfl⟩
            obtain ⟨tx, hx2⟩ := ints_at hXI hi1
            rw [← hX, ← hxe] at hx2
            have hkl : i - 1 < ys.length := by rw [hc.kept.1]; exact hi1
            have hx3 : ys[((0 : Int) + (i : Int) - 1).toNat]? = some ys[i - 1] := by rw [hxe]; exact List.getElem?_eq_getElem hkl
            obtain ⟨vk, hvk⟩ : ∃ vk, vk = ys[i - 1] := ⟨_, rfl⟩
            have hrk := hc.kept.2 _ _ (List.getElem?_eq_getElem hkl)
            rw [← hX, ← hvk] at hrk
            rw [← hvk] at hx3
            walk_at "GOA"
            rename_i y9 own9 r9 ap9 h9 F9 N9
            have hvb : -300 ≤ (X.fdiv 8).fmod 1000 - 300 ∧ (X.fdiv 8).fmod 1000 - 300 < 700 := hv_bd X
            have hap9 : ∀ p ∈ own9, p.1 ≠ 16 ∧ p.1 ≠ R ∧ p.1 ≠ Gd ∧ p.1 ≠ Er := fun p hp => ⟨ap9 p hp _ (.head _), ap9 p hp _ (.tail _ (.head _)), ap9 p hp _ (.tail _ (.tail _ (.head _))), ap9 p hp _ (.tail _ (.tail _ (.tail _ (.head _))))⟩
            have hapI : ∀ p ∈ own9, p.1 ≠ I := fun p hp => ap9 p hp _ (.tail _ (.tail _ (.tail _ (.tail _ (.tail _ (.tail _ (.head _)))))))
            walk_at "STIF"
            walk_at "GOB"
            · rename 5 ≤ X.fmod 8 => hk5
              rename News _ _ _ ((_, W.listOf #[_, _, _] _) :: _) => N7
              obtain ⟨t8, ht8⟩ := pick3 hk5
              refine item_ledL (n := _) N7 (.head _) (by omega) (by have := kd_lt X; unfold kd at this; omega) ht8 ?_ (by with_unfolding_all rfl)
              walk_at "GOA"
              rename Fr _ _ _ _ => Fz
              rename News _ _ _ _ => Nz
              refine' ⟨rfl, { c with rs := c.rs ++ [y9], es := c.es ++ [.str (en X) t8], objs := c.objs ++ own9, n1 := _, n3 := _, u := _ }, _, _, _, rfl, Fz, news_sub Nz (led_app02 ?hs1), ?hm1, off02 hoff rfl hapI, ok_bad hc (by omega) hi1 hX (decide_eq_false (by unfold kd; omega)) r9 hap9 _ _ _ _⟩
              case hs1 => walk_at "SUBL"
              case hm1 => walk_at "MAP02"
            · rename ¬ 5 ≤ X.fmod 8 => hk5
              have hwl5 := wd_len X
              have hgX : isG X = true := decide_eq_true (by unfold kd; omega)
              refine cutW (wd X) F9 N9 ?hW1 ?hW2
              case hW1 =>
                dsimp only [List.take]
                (try k_fold)
                walk_at "GOA"
                walk_at "STIF"
                walk_at "GOA"
                · rename X.fmod 8 = 2 => hk2
                  rename Fr _ _ _ _ => Fz
                  rename News _ _ _ _ => Nz
                  rw [← wd_2 hk2] at Fz
                  refine' ⟨rfl, _, _, _, _, rfl, Fz, Nz, ?hmw1⟩
                  case hmw1 => walk_at "MAPW"
                walk_at "STIF"
                walk_at "GOA"
                · rename X.fmod 8 = 3 => hk3
                  rename Fr _ _ _ _ => Fz
                  rename News _ _ _ _ => Nz
                  rw [← wd_3 hk3] at Fz
                  refine' ⟨rfl, _, _, _, _, rfl, Fz, Nz, ?hmw2⟩
                  case hmw2 => walk_at "MAPW"
                · rename ¬ X.fmod 8 = 3 => hk3
                  rename Fr _ _ _ _ => Fz
                  rename News _ _ _ _ => Nz
                  rw [← wd_0 (by assumption) hk3] at Fz
                  refine' ⟨rfl, _, _, _, _, rfl, Fz, Nz, ?hmw3⟩
                  case hmw3 => walk_at "MAPW"
              case hW2 =>
                rintro s' ⟨h3, tk3, m3, tw, rfl, F4, N4, hm3⟩
                obtain rfl : m3 = _ := funext hm3
                clear F9 N9 hm3
                dsimp only [List.drop]
                (try k_fold)
                walk_at "GOA"
                rename News _ _ _ _ => N7
                refine' ne_nil (vs := c.gs) (isl9 (n := _) N7 ?g1) (isl0 (n := _) N7 ?g2) ?un9 ?_; (case un9 => ktr_units)
                case g1 => k_mem
                case g2 => k_mem
                cases hgs : c.gs.isEmpty
                · have hgn := gs_ne hc.good hgs
                  walk_at "GOA"
                  rename Fr _ _ _ _ => Fz
                  rename News _ _ _ _ => Nz
                  refine' ⟨rfl, { c with rs := c.rs ++ [y9], gs := c.gs ++ [vk], objs := c.objs ++ own9, n1 := _, n2 := _, text := _, turned := _, head := _, t1 := _, t2 := _, t3 := _, u := _ }, _, _, _, rfl, Fz, news_sub Nz (led_app02 ?hs2), ?hm2, off02 hoff rfl hapI, ok_good hc (by omega) hi1 hX hgX r9 hrk hap9 _ _ _ _ _ _ ?htx2 ?htu2 ?hhd2⟩
                  case hs2 => walk_at "SUBL"
                  case hm2 => walk_at "MAP02"
                  case htx2 => (rw [txO_more hgX hgn, hc.tx])
                  case htu2 => (rw [tuO_more hgX hgn, hc.tu])
                  case hhd2 => (rw [hdO_more hgX hgn])
                · have hgn := gs_nil hc.good hgs
                  walk_at "GOA"
                  rename Fr _ _ _ _ => Fz
                  rename News _ _ _ _ => Nz
                  refine' ⟨rfl, { c with rs := c.rs ++ [y9], gs := c.gs ++ [vk], objs := c.objs ++ own9, n1 := _, n2 := _, text := _, turned := _, head := _, t1 := _, t2 := _, t3 := _, u := _ }, _, _, _, rfl, Fz, news_sub Nz (led_app02 ?hs3), ?hm3, off02 hoff rfl hapI, ok_good hc (by omega) hi1 hX hgX r9 hrk hap9 _ _ _ _ _ _ ?htx3 ?htu3 ?hhd3⟩
                  case hs3 => walk_at "SUBL"
                  case hm3 => walk_at "MAP02"
                  case htx3 => (rw [txO_first hgX hgn, hc.tx])
                  case htu3 => (rw [tuO_first hgX hgn, hc.tu])
                  case hhd3 => (rw [hdO_first hgX hgn, hc.hd])
          · have hi0 : i = 0 := by omega
            refine ⟨rfl, c, h, _, _, rfl, F3, news_sub N5 (led_app02 fun p hp => hp), fun z => rfl, hoff, ?_⟩
            subst hi0
            exact hc
        case hB =>
          rintro s' ⟨c2, h2, tk2, m2, rfl, F4, N4, hm2, hoff2, hok⟩
          clear F3 N3 hoff hc F6
          have N5 := news_sub N4 led_un02
          have q1 := neN (hoff2 _ (.head _))
          have q2 := neN (hoff2 _ (.tail _ (.head _)))
          have q3 := neN (hoff2 _ (.tail _ (.tail _ (.head _))))
          have q4 := neN (hoff2 _ (.tail _ (.tail _ (.tail _ (.head _)))))
          have q5 : ∀ p ∈ c2.objs, p.1 ≠ 16 := fun p hp => (hok.off p hp).1
          dsimp only at q1 q2 q3 q4
          have hle : i ≤ xs0.length := by omega
          have hRl : c2.rs.length ≤ 14 := by have := hok.rows.1; rw [this, List.length_take]; omega
          have hKl : ys.length ≤ 14 := by have := hok.kept.1; omega
          have hTk : (xs0.take i).length ≤ 14 := by rw [List.length_take]; omega
          have hEe := hok.errs.length
          have hEl : c2.es.length ≤ 14 := Nat.le_trans (Nat.le_of_eq hEe) (Nat.le_trans (by unfold ers; rw [List.length_map]; exact List.length_filter_le _ _) hTk)
          have hTl : c2.text.length ≤ 98 := by have := txO_len (xs0.take i); rw [← hok.tx] at this; omega
          have hUl : c2.turned.length ≤ 98 := by have := tuO_len (xs0.take i); rw [← hok.tu] at this; omega
          have hHl : c2.head.length ≤ 13 := by have := hdO_len (xs0.take i); rw [← hok.hd] at this; omega
          obtain rfl : m2 = _ := funext hm2
          subst hmr
          dsimp only [mp02] at F4
          clear N4 hm2
          refine cutB02 (xs0.take i) F4 N5 ?hB1 ?hB2
          case hB1 =>
            dsimp only [List.take]
            (try k_fold)
            walk_at "GOA"
            rename News _ _ _ _ => N7
            refine' ne_nil (vs := c2.es) (isl9 (n := _) N7 ?g3) (isl0 (n := _) N7 ?g4) ?un9 ?_; (case un9 => ktr_units)
            case g3 => k_mem
            case g4 => k_mem
            cases hes : c2.es.isEmpty
            · have hen := es_ne hok.errs hes
              obtain ⟨te, hx0⟩ := strs_nth hok.errs (i := ((0 : Int)).toNat) (by have := List.length_pos_iff.mpr hen; omega)
              have hSA := hok.errs
              walk_at "GOA"
              (try dsimp only [List.take])
              (try k_fold)
              walk_at "GOA"
              rename Fr _ _ _ _ => Fz
              rename News _ _ _ _ => Nz
              refine' ⟨rfl, _, _, _, _, _, _, _, _, _, _, _, _, _, _, _, rfl, Fz, news_sub Nz (List.forall_mem_cons.mpr ⟨.tail _ (.head _), List.forall_mem_cons.mpr ⟨.head _, ?hs4⟩⟩), ?hm4, neN (by omega), neN (by omega), ?e1, ?e2, ?e3, ?e4⟩
              case hs4 => walk_at "SUBR"
              case hm4 => walk_at "MAPB"
              case e1 => exact (want_bad hen).1
              case e2 => exact (want_bad hen).2
              case e3 => exact (back_bad hen).1
              case e4 => exact (back_bad hen).2
            · have hen := es_nil hok.errs hes
              walk_at "GOA"
              (try dsimp only [List.take])
              (try k_fold)
              walk_at "GOA"
              rename Fr _ _ _ _ => Fz
              rename News _ _ _ _ => Nz
              refine' ⟨rfl, _, _, _, _, _, _, _, _, _, _, _, _, _, _, _, rfl, Fz, news_sub Nz (List.forall_mem_cons.mpr ⟨.tail _ (.tail _ (.head _)), List.forall_mem_cons.mpr ⟨.tail _ (.head _), ?hs5⟩⟩), ?hm5, neN (by omega), neN (by omega), ?e5, ?e6, ?e7, ?e8⟩
              case hs5 => walk_at "SUBR"
              case hm5 => walk_at "MAPB"
              case e5 => exact (want_good hen).1
              case e6 => exact (want_good hen).2.trans (by rw [← hok.hd, ← hok.tx])
              case e7 => exact (back_good hen).1
              case e8 => exact (back_good hen).2.trans (by rw [← hok.hd, ← hok.tu])
          case hB2 =>
            rintro s' ⟨h3, tk3, m3, W9, B9, n1, n2, a1, a2, b1, b2, u1, u2, u3, u4, rfl, F7, N7, hm3, hW, hB, rfl, rfl, rfl, rfl⟩
            obtain rfl : m3 = _ := funext hm3
            replace hW := neN hW
            replace hB := neN hB
            have hrw := hok.rows
            have hkp := hok.kept
            have hf0 := hok.tab
            clear F4 N5 hm3
            dsimp only [List.drop]
            (try k_fold)
            have hrr := rows_rev hrw
            have hTr : (xs0.take i).reverse.length ≤ 14 := by rw [List.length_reverse]; exact hTk
            walk_at "GOA"
            rename News _ _ _ _ => Nz
            refine' ne_tup2 Nz ?a1 ?a2 ?a3 ?_
            case a1 => k_mem
            case a2 => k_mem
            case a3 => ktr_units
            walk_at "GOA"
            rename News _ _ _ _ => N8
            refine' rows_ne (objs_get N8 ?b0) (isl9 (n := _) N8 ?b1) (isl9 (n := _) N8 ?b2) hrw (rows_takeI hkp) ?b3 ?_
            case b0 => walk_at "SUBR"
            case b1 => k_mem
            case b2 => k_mem
            case b3 => ktr_units
            walk_at "GOA"
            rename News _ _ _ _ => Nz
            refine' ne_tup2 Nz ?a4 ?a5 ?a6 ?_
            case a4 => k_mem
            case a5 => k_mem
            case a6 => ktr_units
            walk_at "GOA"
            rename Fr _ _ _ _ => Fy
            rename News _ _ _ _ => Ny
            rename TabForm _ _ => hf9
            rename AllBare _ => hG9
            refine' ⟨{ c2 with ps := _, u := _ }, _, _, _, _, rfl, hG9, Fy, news_sub Ny (led_app02 ?hs6), ?hm6, ?of6, ?ok6⟩
            case hs6 => walk_at "SUBL"
            case hm6 => walk_at "MAP02E"
            case ok6 => exact ok_ps hok hf9
            case of6 => exact off02 (own := []) hoff2 (List.append_nil _).symm (fun p hp => nomatch hp)
      case hdone =>
        intro c u h tk gs hc hGs F3 N3
        have q5 : ∀ p ∈ c.objs, p.1 ≠ 16 := fun p hp => (hc.off p hp).1
        obtain ⟨hE1, hE2⟩ := end_good (xs0.take xs0.length)
        have hgd := hc.good
        have hf0 := hc.tab
        have hTk : (xs0.take xs0.length).length ≤ 14 := by rw [List.length_take]; omega
        have hGk : (goods (xs0.take xs0.length)).length ≤ 14 := Nat.le_trans (List.length_filter_le _ _) hTk
        have hTl : c.text.length ≤ 98 := by have := txO_len (xs0.take xs0.length); rw [← hc.tx] at this; omega
        have hHl : c.head.length ≤ 13 := by have := hdO_len (xs0.take xs0.length); rw [← hc.hd] at this; omega
        subst hmr
        dsimp only [mp02, led02] at F3 N3
        (try k_fold)
        walk_at "GO"
        rename News _ _ _ _ => Nz
        refine' eq_tup2 Nz ?a7 ?a8 (hE1) (hE2.trans (by rw [← hc.hd, ← hc.tx])) ?a9 ?_
        case a7 => k_mem
        case a8 => k_mem
        case a9 => ktr_units
        walk_at "GO"
        rename Fr _ _ _ _ => Fy
        rename News _ _ _ _ => Ny
        rename AllBare _ => hG9
        exact ⟨rfl, Fy.keep, rfl, hG9, ⟨_, (Ny _ (.tail _ (.tail _ (.head _)))).1⟩, trivial⟩
    )

end
end Mine
theorem PySem.Challenge.cw_dn0186_02_holds : PySem.Challenge.rw_dn0186_02.Holds :=
  Mine.t02
