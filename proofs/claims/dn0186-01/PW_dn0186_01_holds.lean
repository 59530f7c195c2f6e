import PyProof.Rows.All
import Wide.All
import OpenK.AllK
import Wide.FinOn
import PySem.Challenge.RW_dn0186_01
open PySem PySem.W PyProof.Rows
set_option Elab.async false
set_option maxRecDepth 100000
set_option maxHeartbeats 8000000
set_option linter.unusedSimpArgs false
set_option linter.unusedVariables false
namespace Mine
open_top hd01 for PySem.Challenge.rw_dn0186_01

section
open PySem PySem.W PyProof.Rows PySem.Calls PySem.Spec


/-! Growth: a caller's facts behind a pure callee. -/
theorem fr_stays {h₀ h h' : Heap} {L : Addr} {m : Str → Option Value} (F : Fr h₀ L h m) (st : h.StaysIn h') : Fr h₀ L h' m :=
  ⟨F.ns.at' fun o e => st _ o e, fun b o e => st b o (F.keep b o e), F.above⟩
theorem news_stays {h₀ h h' : Heap} {L : Addr} {news : List (Addr × Obj)} (N : News h₀ L h news) (st : h.StaysIn h') : News h₀ L h' news :=
  fun p hp => ⟨st _ _ (N p hp).1, (N p hp).2⟩
theorem news_sub {h₀ h : Heap} {L : Addr} {l l' : List (Addr × Obj)} (N : News h₀ L h l) (hs : ∀ p ∈ l', p ∈ l) : News h₀ L h l' := fun p hp => N p (hs p hp)
theorem news_app {h₀ h : Heap} {L : Addr} {l l' : List (Addr × Obj)} (N : News h₀ L h l) (N' : News h₀ L h l') : News h₀ L h (l ++ l') :=
  fun p hp => (List.mem_append.mp hp).elim (N p) (N' p)
theorem allNe_of_lt {l : List (Addr × Obj)} {d a : Addr} (h : ∀ p ∈ l, p.1 < d) (hd : d ≤ a) : ∀ p ∈ l, p.1 ≠ a :=
  fun p hp => Nat.ne_of_lt (Nat.lt_of_lt_of_le (h p hp) hd)

section
variable {prog : Program} {w : World} {A A₀ : Around} {E : Value → Shared → Prop} {s : Shared} {K : Frag} {C L : Addr} {h₀ base : Heap} {m mg mb : Str → Option Value} {news : List (Addr × Obj)} {p : Program} {loose : List Str} {mean : ExcName → Option Value} {Q : Value → Shared → Prop}

/-- A class is called: the new object lies just behind the heap as it was. -/
theorem call_clsH {pos : List Value} {kw : List (Str × Value)} {fI : Addr} (F : Fr h₀ L s.heap m) (X₀ : K.In h₀) (hm : makesIn K C = true) (hi : findIn K (.ref C) "__init__" = some (some (.ref fI))) (hf : isFn K (.ref fI) = true)
    (h : ∀ x dx h', s.heap.StaysIn h' → s.heap.objs.size ≤ dx → dx < x → Fr h₀ L h' m → News h₀ L h' [(x, instObj C dx), (dx, dictOf [] 0)] →
      codeAny (model prog w) (A.under (.builtin "type.__call__" ⟨.ref C :: pos, kw⟩)) (.call (.ref fI) ⟨.ref x :: pos, kw⟩) (InitBack x fun r s' => match r with | .ok (.ret v) => Q v s' | .ok _ => False | .error e => E e s') { s with heap := h' }) :
    wpAny (model prog w) A (call (.ref C) pos kw) Q E s := by
  have X := X₀.keeps F.keep
  refine wpAny_call ?_
  obtain ⟨hh, g, d, t, os⟩ := s
  refine make_core (makes_of X hm) (looks_findIn X hi) (fun self => bind_fn X self (beq_iff_eq.mp hf)) (.inl rfl)
    (h _ hh.objs.size _ (fun b o e => Heap.get?_push_of_some _ (Heap.get?_push_of_some _ e)) (Nat.le_refl _) (Nat.lt_succ_self _) ((F.push _).push _) ?_)
  have := ((News.nil (h₀ := h₀) (h := hh) (L := L)).push F emptyDict).push (F.push _) (instObj C hh.objs.size)
  rwa [Heap.size_push] at this

/-- A def is called: all that the ledger does not name stands behind the callee's frame, as it was. -/
theorem code_defH {env : Env} {outer : List Env} {R : Result → Shared → Prop} {name qual : Str} {params : Arguments} {body : List Stmt} {scope : Scope} {dV kV doc pm cdv ct oc : Value} {an od : Option Addr} {osl : Array (Option Value)} {f : Addr} {args : Args} {binds : List (Str × Value)}
    (B : Below A₀ base outer h₀) (F : Fr h₀ L s.heap m) (X₀ : K.In h₀) (N : News h₀ L s.heap news) (T : Top p loose mean mg mb h₀) (hA : A.frames = some (env :: outer)) (hf : env.frame = some L) (hke : env.scope.kind = .function)
    (ho : K.lookup f = some ⟨oc, od, .func (fnOf name qual params body scope dV kV doc pm an cdv ct), osl⟩) (hcd : codeIn K cdv qual = true) (hroom : A.depth < recursionLimit)
    (hbind : BindsTo s (fnOf name qual params body scope dV kV doc pm an cdv ct) args binds) (hloc : ∀ y ∈ binds, scope.names.lookup y.1 = some .local)
    (h : ∀ g L' h₁, (∀ b o, s.heap.get? b = some o → b ∉ news.map (·.1) → g.get? b = some o) → s.heap.objs.size ≤ L' → Fr h₀ L g m → Fr g L' h₁ (fun y => binds.reverse.lookup y) → News g L' h₁ news → Below A base (env :: outer) g → K.In g → Top p loose mean mg mb g →
      wpAny (model prog w) (A.deeper (envOf qual scope L' f cdv)) (execs body (envOf qual scope L' f cdv))
        (fun fl s' => LeaveK h₀ L m g R (match fl with | .ret v => v | _ => .none) s')
        (fun e s' => wpAny (model prog w) (A.deeper (envOf qual scope L' f cdv)) (leaving (envOf qual scope L' f cdv) e) (fun _ s'' => R (.error e) s'') (fun e' s'' => R (.error e') s'') s')
        { s with heap := h₁, toks := s.toks + binds.length })
    (hco : scope.isCoroutine = false) (hgen : scope.isGenerator = false) (hk : scope.kind = .function)
    (hcell : ∀ x ∈ scope.names, x.2 ≠ .cell) : codeAny (model prog w) A (.call (.ref f) args) R s := by
  obtain ⟨FG, BG, st, lv⟩ := groundX (R := R) B F N hA hf hke
  refine codeAny_call_def (fd := fnOf name qual params body scope dV kV doc pm an cdv ct) (body := body) (binds := binds) hroom ((X₀.keeps F.keep) _ _ ho) rfl (T.nolimit.keeps F.keep) (codeRec_of (X₀.keeps F.keep) hcd) rfl hbind hcell hloc (fun h₁ hns hk₁ => ?_) hco hgen hk
  exact wpAny_mono (h _ s.heap.objs.size h₁ (fun b o e hb => hideAll_get _ e hb) (Nat.le_refl _) FG ⟨hns, fun b o e => hk₁ b o (of_hideAll _ e), Nat.le_of_eq (hideAll_size _ _)⟩
    (fun p hp => ⟨hk₁ _ _ (N p hp).1, Nat.ne_of_lt (Heap.lt_size (N p hp).1), hideAll_none _ (List.mem_map_of_mem hp)⟩) BG (X₀.keeps st) (T.keeps st)) (fun fl s' hl => lv _ _ hl) fun _ _ y => y
end

/-! Loops by an invariant over a state of one's own: the frame's map and the ledger are functions of it. -/
section
variable {prog : Program} {w : World} {A : Around} {E : Value → Shared → Prop} {s : Shared} {env : Env} {h₀ : Heap} {x : Str} {body : List Stmt} {Q : Flow → Shared → Prop}

/-- How a turn ends: it goes on with the next state, or breaks off with a state that Ex tells, or returns. -/
def TurnEnd {σ : Type} (h₀ : Heap) (L : Addr) (x : Str) (mp : σ → Str → Option Value) (led : σ → List (Addr × Obj)) (Inv Ex : σ → Prop) (I : Addr) (oI : Obj) (Q : Flow → Shared → Prop) (s₁ : Shared) (f : Flow) (s₂ : Shared) : Prop :=
  match f with
  | .ret v => Q (.ret v) s₂
  | .brk => ∃ (c : σ) (h' : Heap) (tk : Nat) (m' : Str → Option Value), s₂ = { s₁ with heap := h', toks := tk } ∧ Fr h₀ L h' m' ∧ News h₀ L h' (led c) ∧ (∀ z, z ≠ x → m' z = mp c z) ∧ Ex c
  | _ => ∃ (c : σ) (h' : Heap) (tk : Nat) (m' : Str → Option Value), s₂ = { s₁ with heap := h', toks := tk } ∧ Fr h₀ L h' m' ∧ News h₀ L h' (led c ++ [(I, oI)]) ∧ (∀ z, z ≠ x → m' z = mp c z) ∧ (∀ p ∈ led c, p.1 ≠ I) ∧ Inv c

theorem map_off {mp : Str → Option Value} {m₁ : Str → Option Value} {v : Value} (h : ∀ z, z ≠ x → m₁ z = mp z) : (fun y => if y = x then some v else m₁ y) = fun y => if y = x then some v else mp y := by
  funext y
  by_cases hy : y = x
  · simp [hy]
  · simp only [if_neg hy]; exact h y hy
theorem map_off' {mp : Str → Option Value} {m₁ : Str → Option Value} (h : ∀ z, z ≠ x → m₁ z = mp z) : m₁ = fun y => if y = x then m₁ y else mp y := by
  funext y
  by_cases hy : y = x
  · simp [hy]
  · simp only [if_neg hy]; exact h y hy

theorem loop_led {σ : Type} {I : Addr} {fp : List Addr} {n : Nat} {P : Nat → Value → Prop} {St : Nat → Heap → Prop} {m₀ : Str → Option Value}
    (mp : σ → Str → Option Value) (led : σ → List (Addr × Obj)) (Inv : Nat → σ → Prop) (Ex : σ → Prop) (c₀ : σ)
    (W : Walks prog w A I fp [I] n P St) (hit : ∀ i h, St i h → ∃ o, h.get? I = some o) (hfp : ∀ b ∈ fp, b = I ∨ (∃ o, h₀.get? b = some o) ∨ ∃ o, ∀ c, (b, o) ∈ led c)
    (hLf : env.locals ∉ fp) (hI0 : h₀.get? I = none) (hst : St 0 s.heap) (F : Fr h₀ env.locals s.heap m₀) (N : News h₀ env.locals s.heap (led c₀))
    (hoff : ∀ p ∈ led c₀, p.1 ≠ I) (hm : ∀ z, z ≠ x → m₀ z = mp c₀ z) (hi : Inv 0 c₀)
    (turn : ∀ i v c oI h tk, i < n → P i v → Inv i c → (∀ p ∈ led c, p.1 ≠ I) → Fr h₀ env.locals h (fun y => if y = x then some v else mp c y) → News h₀ env.locals h (led c ++ [(I, oI)]) →
      wpAny (model prog w) A (execs body env) (TurnEnd h₀ env.locals x mp led (Inv (i + 1)) Ex I oI Q { s with heap := h, toks := tk }) E { s with heap := h, toks := tk })
    (ends : ∀ c, Inv n c → Ex c)
    (done : ∀ c (u : Str → Option Value) h tk, Ex c → Fr h₀ env.locals h (fun y => if y = x then u y else mp c y) → News h₀ env.locals h (led c) → Q .next { s with heap := h, toks := tk }) :
    LoopAtV prog w A h₀ env x body Q E (.ref I) s := by
  have hIfp : I ∈ fp := W.sub I (.head _)
  let J : Nat → (Str → Option Value) → List (Addr × Obj) → Prop := fun i m nx => ∃ c, nx = led c ∧ (∀ z, z ≠ x → m z = mp c z) ∧ Inv i c
  refine ⟨I, fp, [I], n, P, St, m₀, led c₀, J, rfl, W, hLf, ?_, ?_, hst, F, N, ⟨c₀, rfl, hm, hi⟩, ?_, ?_⟩
  · intro b hb; rw [List.mem_singleton.mp hb]; exact hI0
  · intro p hp hb; exact hoff p hp (List.mem_singleton.mp hb)
  · rintro i v m₁ news₁ s₁ own ⟨h, tk, rfl⟩ hin hP ⟨c, rfl, hm₁, hinv⟩ hwr hown hget hall hst' F₁ N₁
    have hoff' : ∀ p ∈ led c, p.1 ≠ I := fun p hp e => hwr p hp (List.mem_singleton.mpr e)
    obtain ⟨oI, e⟩ := hit _ _ hst'
    have hIown : (I, oI) ∈ own := hall I hIfp hI0 oI e
    have N₂ : News h₀ env.locals h (led c ++ [(I, oI)]) := by
      intro p hp
      rcases List.mem_append.mp hp with hp | hp
      · exact N₁ p (List.mem_append.mpr (.inr hp))
      · rw [List.mem_singleton.mp hp]; exact N₁ _ (List.mem_append.mpr (.inl hIown))
    rw [map_off hm₁] at F₁
    refine wpAny_mono (turn i v c oI h tk hin hP hinv hoff' F₁ N₂) (fun f s₂ q => ?_) fun _ _ e => e
    have fin : (∃ (c : σ) (h' : Heap) (tk' : Nat) (m' : Str → Option Value), s₂ = { s with heap := h', toks := tk' } ∧ Fr h₀ env.locals h' m' ∧ News h₀ env.locals h' (led c ++ [(I, oI)]) ∧ (∀ z, z ≠ x → m' z = mp c z) ∧ (∀ p ∈ led c, p.1 ≠ I) ∧ Inv (i + 1) c) →
        LoopStepU h₀ env.locals [I] own (J (i + 1)) { s with heap := h, toks := tk } .next s₂ := by
      rintro ⟨c', h', tk', m', rfl, F', N', hm', hoff'', hinv'⟩
      refine ⟨rfl, h', tk', m', led c', rfl, F', ?_, fun p hp hq => hoff'' p hp (List.mem_singleton.mp hq), ⟨c', rfl, hm', hinv'⟩⟩
      intro p hp
      rcases List.mem_append.mp hp with hp | hp
      · have hp0 := (N₁ p (List.mem_append.mpr (.inl hp))).2.2
        have hpg := (N₁ p (List.mem_append.mpr (.inl hp))).1
        rcases hfp p.1 (hown p hp) with e1 | ⟨o, e1⟩ | ⟨o, e1⟩
        · obtain ⟨pa, po⟩ := p
          simp only at e1 hpg
          subst e1
          rw [e] at hpg
          cases hpg
          exact N' _ (List.mem_append.mpr (.inr (.head _)))
        · rw [e1] at hp0; cases hp0
        · have q1 := (N₂ _ (List.mem_append.mpr (.inl (e1 c)))).1
          obtain ⟨pa, po⟩ := p
          simp only at e1 hpg q1
          rw [q1] at hpg
          cases hpg
          exact N' _ (List.mem_append.mpr (.inl (e1 c')))
      · exact N' p (List.mem_append.mpr (.inl hp))
    cases f with
    | ret v => exact .ret q
    | brk =>
      obtain ⟨c', h', tk', m', rfl, F', N', hm', hex⟩ := q
      exact .brk (done c' m' h' tk' hex (by rw [← map_off' hm']; exact F') N')
    | next => exact .next (fin q)
    | cont => exact .cont (fin q)
  · rintro h' tk m' news' F' N' _ ⟨c, rfl, hm', hinv⟩
    exact done c m' h' tk (ends c hinv) (by rw [← map_off' hm']; exact F') N'

theorem led_push {h : Heap} {L : Addr} {news : List (Addr × Obj)} (N : News h₀ L h news) (o : Obj) : News h₀ L (h.push o) news := fun p hp => ⟨Heap.get?_push_of_some _ (N p hp).1, (N p hp).2⟩
theorem led_off {h : Heap} {L : Addr} {news : List (Addr × Obj)} (N : News h₀ L h news) : ∀ p ∈ news, p.1 ≠ h.objs.size := fun p hp e => absurd (Heap.lt_size (N p hp).1) (e ▸ Nat.lt_irrefl _)

theorem text_led {σ : Type} {xt : Str} {tx : Tok} {m₀ : Str → Option Value} {news : List (Addr × Obj)}
    (mp : σ → Str → Option Value) (led : σ → List (Addr × Obj)) (Inv : List Nat → σ → Prop) (Ex : σ → Prop) (c₀ : σ)
    (hh : A.handled = none) (F : Fr h₀ env.locals s.heap m₀) (N : News h₀ env.locals s.heap news) (hl : ∀ p ∈ led c₀, p ∈ news) (hm : ∀ z, z ≠ x → m₀ z = mp c₀ z) (hi : Inv [] c₀)
    (turn : ∀ pre n post t c I oI h tk, xt.cps.toList = pre ++ n :: post → Inv pre c → (∀ p ∈ led c, p.1 ≠ I) → Fr h₀ env.locals h (fun y => if y = x then some (.str ⟨#[n]⟩ t) else mp c y) → News h₀ env.locals h (led c ++ [(I, oI)]) →
      wpAny (model prog w) A (execs body env) (TurnEnd h₀ env.locals x mp led (Inv (pre ++ [n])) Ex I oI Q { s with heap := h, toks := tk }) E { s with heap := h, toks := tk })
    (ends : ∀ c, Inv xt.cps.toList c → Ex c)
    (done : ∀ c (u : Str → Option Value) h tk, Ex c → Fr h₀ env.locals h (fun y => if y = x then u y else mp c y) → News h₀ env.locals h (led c) → Q .next { s with heap := h, toks := tk }) :
    wpAny (model prog w) A (pyIter (.str xt tx)) (fun it s₂ => LoopAtV prog w A h₀ env x body Q E it s₂) E s := by
  have key : ∀ (o : Obj) (nm : String), Walks prog w A s.heap.objs.size [s.heap.objs.size] [s.heap.objs.size] xt.cps.size (SignAt xt) (fun i h => h.IsStrIter s.heap.objs.size nm xt tx i) → (s.heap.push o).IsStrIter s.heap.objs.size nm xt tx 0 →
      LoopAtV prog w A h₀ env x body Q E (.ref s.heap.objs.size) { s with heap := s.heap.push o } := by
    intro o nm W hst
    refine loop_led mp led (fun i c => Inv (xt.cps.toList.take i) c) Ex c₀ W (fun i h st => let ⟨o, ho, _⟩ := st; ⟨o, ho⟩) (fun b hb => .inl (List.mem_singleton.mp hb)) ?_ (next_is_new F) hst (F.push _) (led_push (news_sub N hl) _) (led_off (news_sub N hl)) hm (by simpa using hi) ?_ ?_ ?_
    · intro hm
      exact absurd F.ns.lt ((List.mem_singleton.mp hm) ▸ Nat.lt_irrefl _)
    · rintro i v c oI h tk hin ⟨n, u, hn, rfl⟩ hinv hoff F₁ N₁
      have hn' : xt.cps.toList[i]? = some n := by simpa using hn
      have hs : xt.cps.toList.take (i + 1) = xt.cps.toList.take i ++ [n] := by simp [List.take_add_one, hn']
      have e : xt.cps.toList = xt.cps.toList.take i ++ n :: xt.cps.toList.drop (i + 1) := by
        have ht := List.take_append_drop (i + 1) xt.cps.toList
        rw [hs, List.append_assoc] at ht
        exact ht.symm
      have := turn _ n _ u c _ oI h tk e hinv hoff F₁ N₁
      rw [← hs] at this
      exact this
    · intro c hc
      have hz : xt.cps.size = xt.cps.toList.length := by simp
      rw [hz, List.take_length] at hc
      exact ends c hc
    · intro c u h tk hex F' N'
      exact done c u h tk hex F' N'
  cases ha : xt.cps.all (· < 128)
  · exact wpAny_pyIter_wide ha (key _ _ (Walks.strWide hh _ xt tx) ⟨_, Heap.get?_push_size _ rfl, rfl, rfl⟩)
  · exact wpAny_pyIter_ascii ha (key _ _ (Walks.strAscii hh _ xt tx) ⟨_, Heap.get?_push_size _ rfl, rfl, rfl⟩)

/-- A list: one that stood before the frame, or one of the ledger that no turn changes. -/
theorem list_led {σ : Type} {l : Addr} {vs : List Value} {m₀ : Str → Option Value} {news : List (Addr × Obj)}
    (mp : σ → Str → Option Value) (led : σ → List (Addr × Obj)) (Inv : Nat → σ → Prop) (Ex : σ → Prop) (c₀ : σ)
    (hh : A.handled = none) (hl0 : h₀.IsList l vs.toArray ∨ ∃ n, ∀ c, (l, listOf vs.toArray n) ∈ led c) (F : Fr h₀ env.locals s.heap m₀) (N : News h₀ env.locals s.heap news) (hl : ∀ p ∈ led c₀, p ∈ news) (hm : ∀ z, z ≠ x → m₀ z = mp c₀ z) (hi : Inv 0 c₀)
    (turn : ∀ i v c I oI h tk, vs[i]? = some v → Inv i c → (∀ p ∈ led c, p.1 ≠ I) → Fr h₀ env.locals h (fun y => if y = x then some v else mp c y) → News h₀ env.locals h (led c ++ [(I, oI)]) →
      wpAny (model prog w) A (execs body env) (TurnEnd h₀ env.locals x mp led (Inv (i + 1)) Ex I oI Q { s with heap := h, toks := tk }) E { s with heap := h, toks := tk })
    (ends : ∀ c, Inv vs.length c → Ex c)
    (done : ∀ c (u : Str → Option Value) h tk, Ex c → Fr h₀ env.locals h (fun y => if y = x then u y else mp c y) → News h₀ env.locals h (led c) → Q .next { s with heap := h, toks := tk }) :
    wpAny (model prog w) A (pyIter (.ref l)) (fun it s₂ => LoopAtV prog w A h₀ env x body Q E it s₂) E s := by
  have N₀ := news_sub N hl
  have hls : s.heap.IsList l vs.toArray := by
    rcases hl0 with hl0 | ⟨n, hl0⟩
    · exact hl0.at fun o e => F.keep l o e
    · exact ⟨_, N₀.get (hl0 c₀), rfl, n, rfl⟩
  have hL : l ≠ env.locals := by
    rcases hl0 with hl0 | ⟨n, hl0⟩
    · obtain ⟨ol, hol, _⟩ := id hl0
      exact Nat.ne_of_lt (Nat.lt_of_lt_of_le (Heap.lt_size hol) F.above)
    · exact (N₀ _ (hl0 c₀)).2.1
  obtain ⟨ol, hol, _⟩ := id hls
  have hne : l ≠ s.heap.objs.size := Nat.ne_of_lt (Heap.lt_size hol)
  refine wpAny_pyIter_list hls ?_
  have W := Walks.list (prog := prog) (w := w) hh s.heap.objs.size l hne vs.toArray
  have hlen : vs.toArray.size = vs.length := by simp
  rw [hlen] at W
  refine loop_led mp led Inv Ex c₀ W (fun i h st => let ⟨⟨o, ho, _⟩, _⟩ := st; ⟨o, ho⟩) (fun b hb => ?_) ?_ (next_is_new F) ⟨⟨_, Heap.get?_push_size _ rfl, rfl, rfl⟩, hls.at fun o e => Heap.get?_push_of_some _ e⟩ (F.push _) (led_push N₀ _) (led_off N₀) hm hi ?_ ends done
  · rcases List.mem_cons.mp hb with e | hb
    · exact .inl e
    · rw [List.mem_singleton.mp hb]
      rcases hl0 with hl0 | ⟨n, hl0⟩
      · obtain ⟨ol, hol, _⟩ := id hl0
        exact .inr (.inl ⟨_, hol⟩)
      · exact .inr (.inr ⟨_, hl0⟩)
  · intro hm
    rcases List.mem_cons.mp hm with e | hm
    · exact absurd F.ns.lt (e ▸ Nat.lt_irrefl _)
    · exact hL (List.mem_singleton.mp hm).symm
  · intro i v c oI h tk hin hP hinv hoff F₁ N₁
    exact turn i v c _ oI h tk (by simpa using hP) hinv hoff F₁ N₁

theorem range_led {σ : Type} {r : Addr} {a₀ b₀ : Int} {t₀ u₀ v₀ : Tok} {n : Nat} {m₀ : Str → Option Value} {news : List (Addr × Obj)}
    (mp : σ → Str → Option Value) (led : σ → List (Addr × Obj)) (Inv : Nat → σ → Prop) (Ex : σ → Prop) (c₀ : σ)
    (hh : A.handled = none) (hr : IsRange s.heap r a₀ b₀ 1 t₀ u₀ v₀) (hsmall : Builtin.Range.small a₀ b₀ 1 = true) (hn : Builtin.Range.rangeSize a₀ b₀ 1 = (n : Int)) (F : Fr h₀ env.locals s.heap m₀) (N : News h₀ env.locals s.heap news) (hl : ∀ p ∈ led c₀, p ∈ news) (hm : ∀ z, z ≠ x → m₀ z = mp c₀ z) (hi : Inv 0 c₀)
    (turn : ∀ i t c I oI h tk, i < n → Inv i c → (∀ p ∈ led c, p.1 ≠ I) → Fr h₀ env.locals h (fun y => if y = x then some (.int (a₀ + (i : Int)) t) else mp c y) → News h₀ env.locals h (led c ++ [(I, oI)]) →
      wpAny (model prog w) A (execs body env) (TurnEnd h₀ env.locals x mp led (Inv (i + 1)) Ex I oI Q { s with heap := h, toks := tk }) E { s with heap := h, toks := tk })
    (ends : ∀ c, Inv n c → Ex c)
    (done : ∀ c (u : Str → Option Value) h tk, Ex c → Fr h₀ env.locals h (fun y => if y = x then u y else mp c y) → News h₀ env.locals h (led c) → Q .next { s with heap := h, toks := tk }) :
    wpAny (model prog w) A (pyIter (.ref r)) (fun it s₂ => LoopAtV prog w A h₀ env x body Q E it s₂) E s := by
  have N₀ := news_sub N hl
  refine wpAny_pyIter_range hr hsmall ?_
  have W : Walks prog w A s.heap.objs.size [s.heap.objs.size] [s.heap.objs.size] n (fun i v => i < n ∧ ∃ t, v = .int (a₀ + i * 1) t)
      (fun i h => IsRangeIter h s.heap.objs.size (a₀ + (i : Nat) * 1) ((n : Int) - (i : Nat)) 1) := (Walks.range hh _ a₀ 1 n).bound
  refine loop_led mp led Inv Ex c₀ W (fun i h st => ⟨_, st⟩) (fun b hb => .inl (List.mem_singleton.mp hb)) ?_ (next_is_new F) (by show IsRangeIter _ _ _ _ _; rw [hn]; simpa using Heap.get?_push_size _ rfl) (F.push _) (led_push N₀ _) (led_off N₀) hm hi ?_ ends done
  · intro hm
    exact absurd F.ns.lt ((List.mem_singleton.mp hm) ▸ Nat.lt_irrefl _)
  · rintro i v c oI h tk hin ⟨_, t, rfl⟩ hinv hoff F₁ N₁
    have e1 : a₀ + (i : Int) * 1 = a₀ + (i : Int) := by omega
    rw [e1] at F₁
    exact turn i t c _ oI h tk hin hinv hoff F₁ N₁

/-- How a while's turn ends. -/
def WEnd {σ : Type} (h₀ : Heap) (L : Addr) (mp : σ → Str → Option Value) (led : σ → List (Addr × Obj)) (Inv : σ → Prop) (μ : σ → Nat) (c : σ) (Q : Flow → Shared → Prop) (s₁ : Shared) (f : Flow) (s₂ : Shared) : Prop :=
  match f with
  | .ret v => Q (.ret v) s₂
  | .brk => Q .next s₂
  | _ => ∃ (c' : σ) (h' : Heap) (tk : Nat) (m' : Str → Option Value), s₂ = { s₁ with heap := h', toks := tk } ∧ Fr h₀ L h' m' ∧ News h₀ L h' (led c') ∧ (∀ z, m' z = mp c' z) ∧ Inv c' ∧ μ c' < μ c

theorem while_led {σ : Type} {L : Addr} {test : Expr} {pos : Pos} {m₀ : Str → Option Value} {news : List (Addr × Obj)}
    (mp : σ → Str → Option Value) (led : σ → List (Addr × Obj)) (Inv : σ → Prop) (μ : σ → Nat) (c₀ : σ)
    (F : Fr h₀ L s.heap m₀) (N : News h₀ L s.heap news) (hl : ∀ p ∈ led c₀, p ∈ news) (hm : ∀ z, m₀ z = mp c₀ z) (hi : Inv c₀)
    (turn : ∀ c h tk, Inv c → Fr h₀ L h (mp c) → News h₀ L h (led c) →
      wpAny (model prog w) A (isTrue test env (eval test env)) (fun b s₂ =>
        if b = true then wpAny (model prog w) A (execs body env) (WEnd h₀ L mp led Inv μ c Q s) E s₂ else Q .next s₂) E { s with heap := h, toks := tk })
    (hE : PassesOwn (model prog w) A env E := by passes_own) :
    wpAny (model prog w) A (exec (.While test body [] pos) env) Q E s := by
  have em : m₀ = mp c₀ := funext hm
  subst em
  refine While_inv2 (fun n m nx => ∃ c : σ, nx = led c ∧ m = mp c ∧ μ c = n ∧ Inv c) F (news_sub N hl) ⟨c₀, rfl, rfl, rfl, hi⟩ ?_ hE
  rintro n m₁ nx h tk F₁ N₁ ⟨c, rfl, rfl, rfl, hc⟩
  refine wpAny_mono (turn c h tk hc F₁ N₁) (fun b s₂ p => ?_) fun _ _ x => x
  cases b with
  | false => simpa using p
  | true =>
    simp only [if_true] at p ⊢
    refine wpAny_mono p (fun f s₃ q => ?_) fun _ _ x => x
    cases f with
    | ret v => exact q
    | brk => exact q
    | next =>
      obtain ⟨c', h', tk', m', rfl, F', N', hm', hi', hμ⟩ := q
      have em' : m' = mp c' := funext hm'
      subst em'
      exact ⟨h', tk', _, _, μ c', rfl, F', N', hμ, c', rfl, rfl, rfl, hi'⟩
    | cont =>
      obtain ⟨c', h', tk', m', rfl, F', N', hm', hi', hμ⟩ := q
      have em' : m' = mp c' := funext hm'
      subst em'
      exact ⟨h', tk', _, _, μ c', rfl, F', N', hμ, c', rfl, rfl, rfl, hi'⟩
end

end

section
open PySem PySem.W PyProof.Rows PySem.Calls PySem.Spec

theorem leN {a b : Nat} (h : a ≤ b) : a ≤ b := h
theorem tab_len {l : List Str} {k B : Nat} (h : ∀ y ∈ l, y.length ≤ B) : (l.getD k Str.empty).length ≤ B := by
  rw [List.getD_eq_getElem?_getD]
  cases e : l[k]? with
  | none => exact Nat.zero_le _
  | some y => exact h y (List.mem_of_getElem? e)
theorem add_fits {x y : Str} (hx : x.length ≤ 1000000) (hy : y.length ≤ 1000000) : x.length + y.length ≤ sizeLine := by
  have : (2000000 : Nat) ≤ sizeLine := by decide
  omega
theorem mul_len1 {c : Nat} {n : Int} {N : Nat} (hn : n ≤ (N : Int)) : (Txt.mul ⟨#[c]⟩ n).length ≤ N := len_mul_one rfl hn
theorem mul_len2 {x : Str} {n : Int} {N : Nat} (hx : x.length ≤ 1) (hn : n ≤ (N : Int)) : (Txt.mul x n).length ≤ 1 * N := len_mul_leN hx hn
theorem app_len {x y : Str} {a b : Nat} (hx : x.length ≤ a) (hy : y.length ≤ b) : (x ++ y).length ≤ a + b := by
  rw [Str.length_append]; omega
theorem len_le {x : Str} {a b : Nat} (h : x.length ≤ a) (hb : a ≤ b) : x.length ≤ b := Nat.le_trans h hb
abbrev tupO (items : Array Value) : Obj := { cls := .type "tuple", data := .seq items }
theorem noFill_tuple_mul : fillsNumberSlot (.type "tuple") "mul" = pure false :=
  PySem.fillsNumberSlot_seq (id := "tuple.__mul__") (r := some (.builtin "tuple.__rmul__")) F.slot_tuple_mul.lookup (by decide +kernel) F.slot_tuple_rmul.lookup (by decide +kernel)
theorem repeat_tuple : seqRepeat? (.type "tuple") = pure (some (.builtin "tuple.__mul__")) := by
  unfold seqRepeat?
  rw [PySem.seqSlot_of (T := "tuple") (name := "__mul__") (id := "tuple.__mul__") F.slot_tuple_mul.lookup (by decide +kernel), PySem.seqSlot_of (T := "tuple") (name := "__rmul__") (id := "tuple.__rmul__") F.slot_tuple_rmul.lookup (by decide +kernel)]
  rfl
theorem int_rmul_tuple (a : Int) (t : Tok) (l : Addr) (items : Array Value) :
    Meets (Builtin.«int.__rmul__» ⟨[.int a t, .ref l], []⟩) (fun _ R s => s.heap.get? l = some (tupO items) ∧ R (.ok (.ret Value.notImplemented)) s) :=
  .of_wp fun prog w A R s h => by obtain ⟨hp, g, d, tk, os⟩ := s; obtain ⟨hl, h⟩ := h; wp_walk; exact ⟨_, rfl, h⟩
theorem tuple_mul_one (l : Addr) (items : Array Value) (u : Tok) :
    Meets (Builtin.«tuple.__mul__» ⟨[.ref l, .int 1 u], []⟩) (fun _ R s => s.heap.get? l = some (tupO items) ∧ R (.ok (.ret (Value.ref l))) s) :=
  .of_wp fun prog w A R s h => by obtain ⟨hp, g, d, tk, os⟩ := s; obtain ⟨hl, h⟩ := h; wp_walk; exact ⟨_, rfl, h⟩
theorem tuple_mul_zero (l : Addr) (v : Value) (u : Tok) :
    Meets (Builtin.«tuple.__mul__» ⟨[.ref l, .int 0 u], []⟩) (fun _ R s => s.heap.get? l = some (tupO #[v]) ∧ R (.ok (.ret (Value.ref s.heap.objs.size))) { s with heap := s.heap.push (tupO #[]) }) :=
  .of_wp fun prog w A R s h => by obtain ⟨hp, g, d, tk, os⟩ := s; obtain ⟨hl, h⟩ := h; wp_walk; exact ⟨_, rfl, h⟩
theorem tuple_mul_two (l : Addr) (v : Value) (u : Tok) :
    Meets (Builtin.«tuple.__mul__» ⟨[.ref l, .int 2 u], []⟩) (fun _ R s => s.heap.get? l = some (tupO #[v]) ∧ R (.ok (.ret (Value.ref s.heap.objs.size))) { s with heap := s.heap.push (tupO #[v, v]) }) :=
  .of_wp fun prog w A R s h => by obtain ⟨hp, g, d, tk, os⟩ := s; obtain ⟨hl, h⟩ := h; wp_walk; exact ⟨_, rfl, h⟩

section
variable {prog : Program} {w : World} {A : Around} {E : Value → Shared → Prop} {s : Shared} {h₀ : Heap} {L l t b : Addr} {m : Str → Option Value} {news : List (Addr × Obj)} {v : Value} {vs ws : List Value} {x : Int} {u : Tok} {Q : Value → Shared → Prop}
theorem tup_mul1 (Fm : Fr h₀ L s.heap m) (N : News h₀ L s.heap news) (hm : (l, tupO #[v]) ∈ news) (h0 : 0 ≤ x) (h2 : x ≤ 2)
    (h : ∀ D h', Fr h₀ L h' m → News h₀ L h' ((D, tupO (List.replicate x.toNat v).toArray) :: news) → l ≤ D → Q (.ref D) { s with heap := h' }) : wpAny (model prog w) A (binaryOp .Mult (.ref l) (.int x u)) Q E s := by
  have ho := N.get hm
  refine wpAny_binaryOp_repeat_ref (T := "tuple") (U := "int") (by decide) ⟨_, ho, rfl⟩ (fun s' => typeIs_int s' x u) noFill_tuple_mul F.fills_int_mul F.slot_int_rmul repeat_tuple F.slot_int_index.lookup
    (call_meets F.slot_int_rmul (typeIs_int s x u) F.entry_int_rmul (F.args_int_rmul_2 _ _) (int_rmul_tuple x u l #[v]) ⟨ho, rfl, ⟨_, ho, rfl⟩, ?_⟩)
  have hx : x = 0 ∨ x = 1 ∨ x = 2 := by omega
  rcases hx with rfl | rfl | rfl
  · exact call_meets F.slot_tuple_mul ⟨_, ho, rfl⟩ F.entry_tuple_mul (F.args_tuple_mul_2 _ _) (tuple_mul_zero l v u) ⟨ho, h _ _ (Fm.push _) (News.push Fm N (tupO #[])) (Nat.le_of_lt (Heap.lt_size ho))⟩
  · exact call_meets F.slot_tuple_mul ⟨_, ho, rfl⟩ F.entry_tuple_mul (F.args_tuple_mul_2 _ _) (tuple_mul_one l #[v] u) ⟨ho, h _ _ Fm (fun p hp => (List.mem_cons.mp hp).elim (fun e => e ▸ N _ hm) (N p)) (Nat.le_refl _)⟩
  · exact call_meets F.slot_tuple_mul ⟨_, ho, rfl⟩ F.entry_tuple_mul (F.args_tuple_mul_2 _ _) (tuple_mul_two l v u) ⟨ho, h _ _ (Fm.push _) (News.push Fm N (tupO #[v, v])) (Nat.le_of_lt (Heap.lt_size ho))⟩
theorem tup_add (Fm : Fr h₀ L s.heap m) (N : News h₀ L s.heap news) (ha : (t, tupO vs.toArray) ∈ news) (hb : (b, tupO ws.toArray) ∈ news) (hv : vs ≠ []) (hz : vs.length + ws.length ≤ 16384)
    (h : ∀ D h', Fr h₀ L h' m → News h₀ L h' ((D, tupO (vs ++ ws).toArray) :: news) → t ≤ D → Q (.ref D) { s with heap := h' }) : wpAny (model prog w) A (binaryOp .Add (.ref t) (.ref b)) Q E s := by
  have h1 : IsTup s.heap t vs.toArray := ⟨_, N.get ha, rfl, 0, rfl⟩
  have h2 : IsTup s.heap b ws.toArray := ⟨_, N.get hb, rfl, 0, rfl⟩
  by_cases hw : ws = []
  · subst hw
    refine kde_addT1 Fm N h1 h2 (by simpa using hv) rfl (by simpa using hz) ?_
    have := h t s.heap Fm (fun p hp => (List.mem_cons.mp hp).elim (fun e => by rw [e, List.append_nil]; exact N _ ha) (N p)) (Nat.le_refl _)
    exact this
  · refine kde_addT Fm N h1 h2 (by simpa using hv) (by simpa using hw) (by simpa using hz) rfl fun D h' F' N' lt => ?_
    exact h D h' F' (by simpa using N') (Nat.le_of_lt (lt _ ha))
theorem len_ledL {n : Nat} (N : News h₀ L s.heap news) (hm : (l, listOf vs.toArray n) ∈ news) (hz : vs.length ≤ 1000000) (h : ∀ t k, Q (.int (vs.length : Int) t) { s with toks := k }) :
    wpAny (model prog w) A (call (.builtin "len") [.ref l]) Q E s := by
  refine len_list (items := vs.toArray) ⟨_, N.get hm, rfl, n, rfl⟩ (by rw [List.size_toArray]; omega) ?_
  rw [List.size_toArray]
  exact h _ _
theorem item_ledL {value slice : PySem.Expr} {n : Nat} {k : Int} (N : News h₀ L s.heap news) (hm : (l, listOf vs.toArray n) ∈ news) (h0 : 0 ≤ k) (hfit : k < 2 ^ 63) (hx : vs[k.toNat]? = some v) (h : Q v s)
    (hs : subscripted slice false (.ref l) (.int k u) = operate [.ref l, .int k u] (getItem (.ref l) (.int k u)) := by with_unfolding_all rfl) :
    wpAny (model prog w) A (subscriptTail value slice (.ref l) (.int k u)) Q E s :=
  tail_any (s := s) (Heap.IsList.typeIs ⟨_, N.get hm, rfl, n, rfl⟩) slot_list_getitem.lookup (wpAny_getItem_list ⟨_, N.get hm, rfl, n, rfl⟩ h0 hfit (by simpa using hx) h) hs
theorem ne_led_same {a b : Value} {d : Dat} (N : News h₀ L s.heap news) (Da : DatIn news a d) (Db : DatIn news b d) (hk : kqdOk 8 d = true) (hu : A.units + 64 < cLine) (h : Q (.bool false) s) : wpAny (model prog w) A (compareOp .NotEq a b) Q E s := by
  obtain ⟨as, ra⟩ := kqd_in N 8 Da hk
  obtain ⟨bs, rb⟩ := kqd_in N 8 Db hk
  have la := kqd_lay 8 d hk
  have e : PyData.eqv (kqdP d) (kqdP d) = true := (kqd_eqv 8 d d 8 hk hk).mpr rfl
  refine ne_dataH ra rb ?_ ?_ hu (by rw [e]; exact h)
  · unfold SeqAt.shaped; rw [la.1, Bool.true_and]; exact decide_eq_true (Nat.le_trans la.2 (by decide))
  · unfold SeqAt.shaped; rw [la.1, Bool.true_and]; exact decide_eq_true (Nat.le_trans la.2 (by decide))
end
theorem datAll_ints {news : List (Addr × Obj)} : ∀ {vs : List Value} {cs : List Int}, IntsAre vs cs → DatAll news vs (cs.map .int)
  | _, _, .nil => .nil
  | _, _, .cons _ _ r => .cons (.int _ _) (datAll_ints r)
section
variable {prog : Program} {w : World} {A : Around} {E : Value → Shared → Prop} {s : Shared} {h₀ : Heap} {L : Addr} {m : Str → Option Value} {news : List (Addr × Obj)}
theorem adjust_to (b n : Nat) (hb : b ≤ n) : Builtin.Slice.sliceAdjust none (some (b : Int)) 1 (n : Int) = ((0 : Int), (b : Int)) := by
  unfold Builtin.Slice.sliceAdjust
  have h1 : ¬ ((1 : Int) < 0) := by omega
  have h2 : ¬ ((b : Int) < 0) := by omega
  simp only [h1, h2, if_false]
  congr 1
  omega
theorem places_to (b : Nat) : Builtin.Slice.slicePlaces (0 : Int) (b : Int) 1 = b := by
  unfold Builtin.Slice.slicePlaces
  have h1 : (1 : Int) > 0 := by omega
  simp only [h1, if_true, Int.ediv_one]
  split <;> omega
theorem sliceApplied_to {sl : Addr} {b n : Nat} {u : Tok} {Q : Int × Int × Nat → Shared → Prop} (hs : s.heap.IsSliceOf sl .none (.int b u) .none) (hb : b ≤ n) (h : Q ((0 : Int), 1, b) s) :
    wpAny (model prog w) A (Builtin.Slice.sliceApplied (.ref sl) (pure (n : Int))) Q E s := by
  obtain ⟨os, hos, hcs, hds⟩ := id hs
  unfold Builtin.Slice.sliceApplied Builtin.Slice.sliceFields
  refine wpAny_bind (wpAny_bind (wpAny_field hos hds (x := .none) rfl (wpAny_bind (wpAny_field hos hds (x := .int b u) rfl (wpAny_bind (wpAny_field hos hds (x := .none) rfl (wpAny_pure ?_)))))))
  refine wpAny_bind (slicePart_none ?_)
  show wpAny _ _ (if ((1 : Int) == 0) = true then _ else _) _ _ s
  rw [if_neg (by decide)]
  refine wpAny_bind (slicePart_none (wpAny_bind (slicePart_int (wpAny_bind (wpAny_pure ?_)))))
  show wpAny _ _ (match Builtin.Slice.sliceAdjust none (some (b : Int)) 1 (n : Int) with | (lo, hi) => pure (lo, (1 : Int), Builtin.Slice.slicePlaces lo hi 1)) _ _ s
  rw [adjust_to b n hb]
  show wpAny _ _ (pure ((0 : Int), (1 : Int), Builtin.Slice.slicePlaces (0 : Int) (b : Int) 1)) _ _ s
  rw [places_to b]
  exact wpAny_pure h
theorem pick_to (xs : Array Value) (b : Nat) (hb : b ≤ xs.size) : ((List.range b).filterMap fun (k : Nat) => xs[((0 : Int) + (k : Int) * 1).toNat]?).toArray = (xs.toList.take b).toArray := by
  have e : (fun (k : Nat) => xs[((0 : Int) + (k : Int) * 1).toNat]?) = fun k => xs.toList[k]? := by
    funext k
    have : ((0 : Int) + (k : Int) * 1).toNat = k := by omega
    rw [this]; simp
  rw [e]
  congr 1
  have hb' : b ≤ xs.toList.length := by simpa using hb
  generalize xs.toList = l at hb'
  induction b with
  | zero => simp
  | succ b ih =>
    rw [List.range_succ, List.filterMap_append, ih (by omega) (by omega), List.take_add_one]
    congr 1
theorem getItem_tuple_to {t sl : Addr} {items : Array Value} {b : Nat} {u : Tok} {Q : Value → Shared → Prop} (ht : IsTup s.heap t items) (hs : s.heap.IsSliceOf sl .none (.int b u) .none) (hb : b < items.size)
    (h : Q (.ref s.heap.objs.size) { s with heap := s.heap.push { cls := .type "tuple", data := .seq (items.toList.take b).toArray } })
    (hsz : items.size ≤ sizeLine) : wpAny (model prog w) A (getItem (.ref t) (.ref sl)) Q E s := by
  have hdrop : sizeOk (.seq (items.toList.take b).toArray) := by
    show (items.toList.take b).toArray.size ≤ sizeLine
    rw [List.size_toArray, List.length_take, Array.length_toList]
    omega
  obtain ⟨os, hos, hcs, hds⟩ := id hs
  have hTs : s.TypeIs (.ref sl) "slice" := ⟨os, hos, hcs⟩
  unfold getItem
  try with_reducible refine wpAny_holding ?_
  first | refine wpAny_bind (wpAny_pure ?_) | skip
  refine wpAny_bind (wpAny_sequenceKey ht.typeIs (by decide) ?_)
  refine wpAny_bind (wpAny_callSpecial?_slot (name := Str.ofString "__getitem__") ht.typeIs slot_tuple_getitem
    (wpAny_call_entry slot_tuple_getitem ht.typeIs entry_tuple_getitem ?_ (args_tuple_getitem _ _)))
  show wpAny _ _ (Builtin.Tuple.tupleItemsOf (.ref t) >>= _) _ _ s
  refine wpAny_bind (tupleItemsOf_ ht ?_)
  refine wpAny_bind (wpAny_typeOf hTs ?_)
  rw [if_pos (by decide)]
  refine wpAny_bind (sliceApplied_to hs (Nat.le_of_lt hb) ?_)
  have hno : ¬ (((0 : Int) == 0 && (1 : Int) == 1 && b == items.size) = true) := by
    have : (b == items.size) = false := by rw [beq_eq_false_iff_ne]; omega
    rw [this]; simp
  show wpAny _ _ (if ((0 : Int) == 0 && (1 : Int) == 1 && b == items.size) = true then _ else _) _ _ s
  rw [if_neg hno, pick_to items b (Nat.le_of_lt hb)]
  first
    | exact wpAny_bind (m := Builtin.Tuple.tupleExact _) (wpAny_newObj_type (wpAny_pure ⟨_, rfl, wpAny_pure h⟩) hdrop)
    | exact wpAny_bind (m := Builtin.Tuple.tupleExact _) (wpAny_newObj_type (wpAny_bind (wpAny_pure (wpAny_pure ⟨_, rfl, wpAny_pure h⟩))) hdrop)
    | exact wpAny_bind (wpAny_bind (m := Builtin.Tuple.tupleExact _) (wpAny_newObj_type (wpAny_pure (wpAny_pure ⟨_, rfl, wpAny_pure h⟩)) hdrop))
    | exact wpAny_bind (wpAny_bind (m := Builtin.Tuple.tupleExact _) (wpAny_newObj_type (wpAny_pure ⟨_, rfl, wpAny_pure h⟩) hdrop))
theorem cut_led0 {value slice : PySem.Expr} {t : Addr} {vs : List Value} {n b : Nat} {u : Tok} {Q : Value → Shared → Prop} (Fm : Fr h₀ L s.heap m) (N : News h₀ L s.heap news) (hm : (t, ({ cls := .type "tuple", data := .seq vs.toArray n } : Obj)) ∈ news) (hb : b < vs.length) (hz : vs.length ≤ 10000)
    (h : ∀ D h', Fr h₀ L h' m → News h₀ L h' ((D, tupO (vs.take b).toArray) :: news) → (∀ p ∈ news, p.1 < D) → Q (.ref D) { s with heap := h' })
    {ops : List Value} (hs : subscripted slice false (.ref t) (.ref s.heap.objs.size) = operate ops (getItem (.ref t) (.ref s.heap.objs.size))) :
    wpAny (model prog w) A (subscriptTail value slice (.ref t) (.ref s.heap.objs.size)) Q E { s with heap := s.heap.push { cls := .type "slice", data := .fields #[.none, .int b u, .none] } } := by
  have F' := Fm.push ({ cls := .type "slice", data := .fields #[.none, .int b u, .none] } : Obj)
  have N' := led_push N ({ cls := .type "slice", data := .fields #[.none, .int b u, .none] } : Obj)
  have ht : IsTup (s.heap.push ({ cls := .type "slice", data := .fields #[.none, .int b u, .none] } : Obj)) t vs.toArray := ⟨_, N'.get hm, rfl, n, rfl⟩
  refine tail_any (T := "tuple") ht.typeIs slot_tuple_getitem.lookup (getItem_tuple_to ht ⟨_, Heap.get?_push_size _ rfl, rfl, rfl⟩ (by simpa using hb) ?_ (by rw [List.size_toArray]; exact Nat.le_trans hz (by decide))) hs
  exact h _ _ (F'.push _) (N'.push F' _) fun p hp => Heap.lt_size (N' p hp).1
/-- t[:x] of a tuple of the ledger, x within it. -/
theorem cut_led {value slice : PySem.Expr} {t : Addr} {vs : List Value} {n : Nat} {x : Int} {u : Tok} {Q : Value → Shared → Prop} (Fm : Fr h₀ L s.heap m) (N : News h₀ L s.heap news) (hm : (t, ({ cls := .type "tuple", data := .seq vs.toArray n } : Obj)) ∈ news) (hx : 0 ≤ x) (hb : x.toNat < vs.length) (hz : vs.length ≤ 10000)
    (h : ∀ D h', Fr h₀ L h' m → News h₀ L h' ((D, tupO (vs.take x.toNat).toArray) :: news) → (∀ p ∈ news, p.1 < D) → Q (.ref D) { s with heap := h' })
    {ops : List Value} (hs : subscripted slice false (.ref t) (.ref s.heap.objs.size) = operate ops (getItem (.ref t) (.ref s.heap.objs.size))) :
    wpAny (model prog w) A (subscriptTail value slice (.ref t) (.ref s.heap.objs.size)) Q E { s with heap := s.heap.push { cls := .type "slice", data := .fields #[.none, .int x u, .none] } } := by
  have e : ((x.toNat : Nat) : Int) = x := Int.toNat_of_nonneg hx
  have := cut_led0 (u := u) Fm N hm hb hz h hs (E := E) (A := A) (prog := prog) (w := w) (value := value)
  rw [e] at this
  exact this
end
theorem rsize (n : Nat) : Builtin.Range.rangeSize 0 (n : Int) 1 = (n : Int) := by
  unfold Builtin.Range.rangeSize
  simp
  intro h
  subst h
  rfl
/-- Data of bools, ints, texts, tuples and lists, at most n deep. -/
def dok : Nat → Dat → Bool
  | _, .none => true
  | _, .bool _ => true
  | _, .int _ => true
  | _, .str x => PyData.strOk x
  | n + 1, .tuple ds => ds.all (dok n)
  | n + 1, .list ds => ds.all (dok n)
  | _, _ => false
section
variable {h₀ h : Heap} {L : Addr} {news : List (Addr × Obj)}
mutual
theorem dok_in (N : News h₀ L h news) : ∀ {v : Value} {d : Dat} (n : Nat), DatIn news v d → dok n d = true → ∃ as, Reads h v (kqdP d) as
  | _, _, _, .none, _ => ⟨_, Reads.none⟩
  | _, _, _, .bool b, _ => ⟨_, Reads.bool b⟩
  | _, _, _, .int i t, _ => ⟨_, Reads.int i t⟩
  | _, _, _, .str x t, _ => ⟨_, Reads.str x t⟩
  | _, _, n, .bytes _ _, hk => by cases n <;> simp [dok] at hk
  | _, _, 0, .tuple _ _, hk => by simp [dok] at hk
  | _, _, 0, .list _ _, hk => by simp [dok] at hk
  | _, _, n + 1, .tuple hm r, hk => by
    obtain ⟨as, q⟩ := dok_all N n r (by simpa [dok] using hk)
    rw [kqdP]
    exact ⟨as, reads_tuple_at (N.get hm) rfl rfl (by simpa using q)⟩
  | _, _, n + 1, .list hm r, hk => by
    obtain ⟨as, q⟩ := dok_all N n r (by simpa [dok] using hk)
    rw [kqdP]
    exact ⟨_, reads_list_at (N.get hm) rfl rfl (by simpa [W.listOf] using q)⟩
theorem dok_all (N : News h₀ L h news) : ∀ {vs : List Value} {ds : List Dat} (n : Nat), DatAll news vs ds → (∀ d ∈ ds, dok n d = true) → ∃ as, ReadsAll h vs (kqdPs ds) as
  | _, _, _, .nil, _ => ⟨_, ReadsAll.nil⟩
  | _, _, n, .cons hd r, hk => by
    obtain ⟨as, q⟩ := dok_in N n hd (hk _ (.head _))
    obtain ⟨bs, p⟩ := dok_all N n r fun d hm => hk d (.tail _ hm)
    rw [kqdPs]
    exact ⟨_, ReadsAll.cons q p⟩
end
end
theorem dok_lay : ∀ (n : Nat) (d : Dat), dok n d = true → (kqdP d).canLay0 = true ∧ (kqdP d).depth ≤ n ∧ PyData.eqv (kqdP d) (kqdP d) = true := by
  have all : ∀ (n : Nat), (∀ d, dok n d = true → (kqdP d).canLay0 = true ∧ (kqdP d).depth ≤ n ∧ PyData.eqv (kqdP d) (kqdP d) = true) → ∀ ds : List Dat, (∀ d ∈ ds, dok n d = true) → PyData.canLayAll0 (kqdPs ds) = true ∧ PyData.depthAll (kqdPs ds) ≤ n ∧ PyData.eqvAll (kqdPs ds) (kqdPs ds) = true := by
    intro n ih ds
    induction ds with
    | nil => intro _; simp [kqdPs, PyData.canLayAll0, PyData.depthAll, PyData.eqvAll]
    | cons d ds hi =>
      intro h
      have h1 := ih d (h d (.head _))
      have h2 := hi fun e he => h e (.tail _ he)
      simp only [kqdPs, PyData.canLayAll0, PyData.depthAll, PyData.eqvAll, h1.1, h1.2.2, h2.1, h2.2.2, Bool.and_self, true_and, and_true]
      have a1 := h1.2.1
      have a2 := h2.2.1
      omega
  intro n
  induction n with
  | zero =>
    intro d h
    cases d <;> simp_all [dok, kqdP, PyData.canLay0, PyData.depth, PyData.eqv]
  | succ n ih =>
    intro d h
    cases d with
    | tuple ds =>
      have q := all n ih ds (by simpa [dok] using h)
      have q2 := q.2.1
      simp only [kqdP, PyData.canLay0, PyData.depth, PyData.eqv, q.1, q.2.2, true_and, and_true]
      omega
    | list ds =>
      have q := all n ih ds (by simpa [dok] using h)
      have q2 := q.2.1
      simp only [kqdP, PyData.canLay0, PyData.depth, PyData.eqv, q.1, q.2.2, true_and, and_true]
      omega
    | _ => simp_all [dok, kqdP, PyData.canLay0, PyData.depth, PyData.eqv]
section
variable {prog : Program} {w : World} {A : Around} {E : Value → Shared → Prop} {s : Shared} {h₀ : Heap} {L : Addr} {news : List (Addr × Obj)} {Q : Value → Shared → Prop}
theorem ne_dat {a b : Value} {d : Dat} (N : News h₀ L s.heap news) (Da : DatIn news a d) (Db : DatIn news b d) (hk : dok 8 d = true) (hu : A.units + 64 < cLine) (h : Q (.bool false) s) : wpAny (model prog w) A (compareOp .NotEq a b) Q E s := by
  obtain ⟨as, ra⟩ := dok_in N 8 Da hk
  obtain ⟨bs, rb⟩ := dok_in N 8 Db hk
  have la := dok_lay 8 d hk
  refine ne_dataH ra rb ?_ ?_ hu (by rw [la.2.2]; exact h)
  · unfold SeqAt.shaped; rw [la.1, Bool.true_and]; exact decide_eq_true (Nat.le_trans la.2.1 (by decide))
  · unfold SeqAt.shaped; rw [la.1, Bool.true_and]; exact decide_eq_true (Nat.le_trans la.2.1 (by decide))
theorem eq_dat {a b : Value} {d : Dat} (N : News h₀ L s.heap news) (Da : DatIn news a d) (Db : DatIn news b d) (hk : dok 8 d = true) (hu : A.units + 64 < cLine) (h : Q (.bool true) s) : wpAny (model prog w) A (compareOp .Eq a b) Q E s := by
  obtain ⟨as, ra⟩ := dok_in N 8 Da hk
  obtain ⟨bs, rb⟩ := dok_in N 8 Db hk
  have la := dok_lay 8 d hk
  refine eq_dataH ra rb ?_ ?_ hu (by rw [la.2.2]; exact h)
  · unfold SeqAt.shaped; rw [la.1, Bool.true_and]; exact decide_eq_true (Nat.le_trans la.2.1 (by decide))
  · unfold SeqAt.shaped; rw [la.1, Bool.true_and]; exact decide_eq_true (Nat.le_trans la.2.1 (by decide))
end
section
variable {prog : Program} {w : World} {A : Around} {E : Value → Shared → Prop} {s : Shared} {h₀ : Heap} {L : Addr} {m : Str → Option Value} {news : List (Addr × Obj)} {Q : Value → Shared → Prop}
theorem list_of_tup {t : Addr} {vs : List Value} {n : Nat} (Fm : Fr h₀ L s.heap m) (N : News h₀ L s.heap news) (hm : (t, ({ cls := .type "tuple", data := .seq vs.toArray n } : Obj)) ∈ news) (hz : vs.length ≤ 1000000)
    (h : ∀ D e h', Fr h₀ L h' m → News h₀ L h' ((D, W.listOf vs.toArray e) :: news) → (∀ p ∈ news, p.1 < D) → Q (.ref D) { s with heap := h' }) : wpAny (model prog w) A (call (.type "list") [.ref t]) Q E s := by
  refine call_list_seq (items := vs.toArray) t (.inr rfl) (N.get hm) rfl rfl (fun h' c' hk hg => ?_) (by rw [List.size_toArray]; exact Nat.le_trans hz (by decide))
  refine h _ c' h' (fr_stays Fm hk) (fun p hp => ?_) fun p hp => Heap.lt_size (N p hp).1
  rcases List.mem_cons.mp hp with rfl | hp
  · exact ⟨hg, Nat.ne_of_gt Fm.ns.lt, next_is_new Fm⟩
  · exact news_stays N hk p hp
theorem item_tupLed {value slice : PySem.Expr} {t : Addr} {l : List Value} {n : Nat} {k : Int} {u : Tok} {j : Nat} {x : Value} (N : News h₀ L s.heap news) (hm : (t, ({ cls := .type "tuple", data := .seq l.toArray n } : Obj)) ∈ news)
    (hlo : -(2 ^ 63) ≤ k) (hhi : k < 2 ^ 63) (hj : seqIndex? k l.length = some j) (hx : l[j]? = some x) (h : Q x s)
    {ops : List Value} (hs : subscripted slice false (.ref t) (.int k u) = operate ops (getItem (.ref t) (.int k u))) :
    wpAny (model prog w) A (subscriptTail value slice (.ref t) (.int k u)) Q E s := by
  have ht : IsTup s.heap t l.toArray := ⟨_, N.get hm, rfl, n, rfl⟩
  exact tail_any ht.typeIs slot_tuple_getitem.lookup (getItem_tuple ht hlo hhi (by simpa using hj) (by simpa using hx) h) hs
end
section
variable {prog : Program} {w : World} {A : Around} {E : Value → Shared → Prop} {s : Shared} {h₀ : Heap} {L : Addr} {m : Str → Option Value} {news : List (Addr × Obj)} {Q : Value → Shared → Prop}
theorem ints_at {vs : List Value} {ns : List Int} (hi : IntsAre vs ns) {k : Nat} (h : k < ns.length) : ∃ t, vs[k]? = some (.int (ns.getD k 0) t) := by
  have e : ns[k]? = some (ns.getD k 0) := by rw [List.getD_eq_getElem?_getD, List.getElem?_eq_getElem h]; rfl
  exact hi.get k _ e
theorem getItem_ints {l : Addr} {vs : List Value} {ns : List Int} {n : Nat} {k : Int} {u : Tok} (N : News h₀ L s.heap news) (hm : (l, W.listOf vs.toArray n) ∈ news) (hi : IntsAre vs ns) (h0 : 0 ≤ k) (h1 : k.toNat < ns.length) (hf : k < 2 ^ 63)
    (h : ∀ t, Q (.int (ns.getD k.toNat 0) t) s) : wpAny (model prog w) A (getItem (.ref l) (.int k u)) Q E s := by
  obtain ⟨t, e⟩ := ints_at hi h1
  exact wpAny_getItem_list (items := vs.toArray) ⟨_, N.get hm, rfl, n, rfl⟩ h0 hf (by simpa using e) (h t)
end

end

section
open PySem PySem.W PyProof.Rows PySem.Calls PySem.Spec

section
variable {prog : Program} {w : World} {A : Around} {E : Value → Shared → Prop} {s : Shared} {h₀ : Heap} {L : Addr} {m : Str → Option Value} {news : List (Addr × Obj)} {Q : Value → Shared → Prop}
theorem ints_last {vs : List Value} {ns : List Int} (hi : IntsAre vs ns) (h : ns ≠ []) : ∃ t, vs[vs.length - 1]? = some (.int (ns.getLastD 0) t) := by
  have hl := hi.length
  have hp : 0 < ns.length := List.length_pos_iff.mpr h
  obtain ⟨t, e⟩ := ints_at hi (k := vs.length - 1) (by omega)
  refine ⟨t, ?_⟩
  rw [e]
  congr 2
  rw [hl, List.getLastD_eq_getLast?, List.getLast?_eq_getElem?, List.getD_eq_getElem?_getD]
/-- l[-1] of a list of ints of the ledger. -/
theorem item_lastI {value slice : PySem.Expr} {l : Addr} {vs : List Value} {ns : List Int} {n : Nat} {k : Int} {u : Tok} (N : News h₀ L s.heap news) (hm : (l, W.listOf vs.toArray n) ∈ news) (hi : IntsAre vs ns) (hk : k = -1) (hne : ns ≠ []) (h : ∀ t, Q (.int (ns.getLastD 0) t) s)
    {ops : List Value} (hs : subscripted slice false (.ref l) (.int k u) = operate ops (getItem (.ref l) (.int k u))) :
    wpAny (model prog w) A (subscriptTail value slice (.ref l) (.int k u)) Q E s := by
  subst hk
  obtain ⟨t, e⟩ := ints_last hi hne
  have hp : 0 < vs.length := by rw [hi.length]; exact List.length_pos_iff.mpr hne
  refine tail_any (s := s) (Heap.IsList.typeIs ⟨_, N.get hm, rfl, n, rfl⟩) slot_list_getitem.lookup (wpAny_getItem_list_neg (items := vs.toArray) ⟨_, N.get hm, rfl, n, rfl⟩ (by omega) ?_ (by decide) ?_ (h t)) hs
  · rw [List.size_toArray]; omega
  · rw [List.size_toArray]
    have : (-1 + (vs.length : Int)).toNat = vs.length - 1 := by omega
    rw [this]; simpa using e
end

end

section
open PySem PySem.W PyProof.Rows PySem.Calls PySem.Spec

/-! A comprehension by an invariant over a state of one's own. -/
section
variable {prog : Program} {w : World} {A : Around} {h₀ : Heap} {L : Addr} {m : Str → Option Value} {env : Env}
def CTurn {σ : Type} (h₀ : Heap) (L : Addr) (m : Str → Option Value) (s : Shared) (I : Addr) (oI : Obj) (C : Addr) (oC : Obj) (D : Addr) (ys : List Value) (led : σ → List (Addr × Obj)) (S : List (Addr × Obj) → Prop) (Inv : List Value → σ → Prop) (y : Value) (s₂ : Shared) : Prop :=
  ∃ c' h' tk', s₂ = { s with heap := h', toks := tk' } ∧ Fr h₀ L h' m ∧ News h₀ L h' ((I, oI) :: (C, oC) :: (D, LCg.lst ys) :: led c') ∧ LCg.Off3 I C D (led c') ∧ S (led c') ∧ Inv (ys ++ [y]) c'
def CInt (h₀ : Heap) (L : Addr) (m : Str → Option Value) (s : Shared) (I : Addr) (oI : Obj) (C : Addr) (oC : Obj) (D : Addr) (ys : List Value) (news : List (Addr × Obj)) (k : Int) (y : Value) (s₂ : Shared) : Prop :=
  ∃ h' tk' t, s₂ = { s with heap := h', toks := tk' } ∧ Fr h₀ L h' m ∧ News h₀ L h' ((I, oI) :: (C, oC) :: (D, LCg.lst ys) :: news) ∧ y = .int k t
theorem cint {h₀ h' : Heap} {L I C D : Addr} {m : Str → Option Value} {s : Shared} {oI oC : Obj} {ys : List Value} {news : List (Addr × Obj)} {k k' : Int} {t : Tok} {tk : Nat} (F : Fr h₀ L h' m) (N : News h₀ L h' ((I, oI) :: (C, oC) :: (D, LCg.lst ys) :: news)) (e : k' = k) :
    CInt h₀ L m s I oI C oC D ys news k (.int k' t) { s with heap := h', toks := tk } := ⟨h', tk, t, rfl, F, N, by rw [e]⟩
theorem comp_led0 {σ : Type} {elt : Expr} {x : Str} {scope : Scope} {cl : List (Str × Addr)} {s : Shared} {S : List (Addr × Obj) → Prop} {P : Nat → Value → Prop} {Fin : List Value → List (Addr × Obj) → Prop} {n : Nat}
    (led : σ → List (Addr × Obj)) (Inv : Nat → List Value → σ → Prop)
    (turn : ∀ i v ys c I oI C oC D m₂ h tk (E' : Value → Shared → Prop), i < n → P i v → Inv i ys c → LCg.NsObj oC m₂ → m₂ x = some v → Fr h₀ L h m → News h₀ L h ((I, oI) :: (C, oC) :: (D, LCg.lst ys) :: led c) → LCg.Off3 I C D (led c) → ((@Ne Nat I C) ∧ (@Ne Nat I D) ∧ (@Ne Nat C D)) →
      wpAny (model prog w) A (eval elt (compEnvC scope cl C env)) (CTurn h₀ L m s I oI C oC D ys led S (Inv (i + 1))) E' { s with heap := h, toks := tk })
    (fin : ∀ ys c, Inv n ys c → Fin ys (led c)) :
    ∀ k i ys c, k + i = n → Inv i ys c → LCg.CompRest prog w A h₀ L m env elt x scope cl s S P Fin k i ys (led c)
  | 0, i, ys, c, hk, hi => by
    have : i = n := by omega
    subst this
    exact fin ys c hi
  | k + 1, i, ys, c, hk, hi => by
    refine LCg.CompRest.succ ?_
    intro v I oI C oC D m₂ h tk E' hP hC hx F N off ne
    refine wpAny_mono (turn i v ys c I oI C oC D m₂ h tk E' (by omega) hP hi hC hx F N off ne) (fun y s₂ q => ?_) fun _ _ e => e
    obtain ⟨c', h', tk', rfl, F', N', off', hS, hi'⟩ := q
    exact ⟨h', tk', led c', rfl, F', N', off', hS, comp_led0 led Inv turn fin k (i + 1) _ c' (by omega) hi'⟩
theorem comp_led {σ : Type} {elt : Expr} {x : Str} {scope : Scope} {cl : List (Str × Addr)} {s : Shared} {S : List (Addr × Obj) → Prop} {P : Nat → Value → Prop} {Fin : List Value → List (Addr × Obj) → Prop} {n : Nat} {news : List (Addr × Obj)}
    (led : σ → List (Addr × Obj)) (Inv : Nat → List Value → σ → Prop) (c₀ : σ) (hn : news = led c₀) (hi : Inv 0 [] c₀)
    (turn : ∀ i v ys c I oI C oC D m₂ h tk (E' : Value → Shared → Prop), i < n → P i v → Inv i ys c → LCg.NsObj oC m₂ → m₂ x = some v → Fr h₀ L h m → News h₀ L h ((I, oI) :: (C, oC) :: (D, LCg.lst ys) :: led c) → LCg.Off3 I C D (led c) → ((@Ne Nat I C) ∧ (@Ne Nat I D) ∧ (@Ne Nat C D)) →
      wpAny (model prog w) A (eval elt (compEnvC scope cl C env)) (CTurn h₀ L m s I oI C oC D ys led S (Inv (i + 1))) E' { s with heap := h, toks := tk })
    (fin : ∀ ys c, Inv n ys c → Fin ys (led c)) :
    LCg.CompRest prog w A h₀ L m env elt x scope cl s S P Fin n 0 [] news := by
  subst hn
  exact comp_led0 led Inv turn fin n 0 [] c₀ (by omega) hi
/-- The element makes nothing that is kept: ints told by a function of the turn's number. -/
theorem comp_ints {elt : Expr} {x : Str} {scope : Scope} {cl : List (Str × Addr)} {s : Shared} {S : List (Addr × Obj) → Prop} {P : Nat → Value → Prop} {Fin : List Value → List (Addr × Obj) → Prop} {n : Nat} {news : List (Addr × Obj)}
    (f : Nat → Int) (hS : S news)
    (turn : ∀ i v ys I oI C oC D m₂ h tk (E' : Value → Shared → Prop), i < n → P i v → LCg.NsObj oC m₂ → m₂ x = some v → Fr h₀ L h m → News h₀ L h ((I, oI) :: (C, oC) :: (D, LCg.lst ys) :: news) → LCg.Off3 I C D news → ((@Ne Nat I C) ∧ (@Ne Nat I D) ∧ (@Ne Nat C D)) →
      wpAny (model prog w) A (eval elt (compEnvC scope cl C env)) (CInt h₀ L m s I oI C oC D ys news (f i)) E' { s with heap := h, toks := tk })
    (fin : ∀ ys, IntsAre ys ((List.range n).map f) → Fin ys news) :
    LCg.CompRest prog w A h₀ L m env elt x scope cl s S P Fin n 0 [] news := by
  refine comp_led (σ := Unit) (fun _ => news) (fun i ys _ => IntsAre ys ((List.range i).map f)) () rfl .nil ?_ (fun ys _ h => fin ys h)
  intro i v ys c I oI C oC D m₂ h tk E' hi hP hinv hC hx F N off ne
  refine wpAny_mono (turn i v ys I oI C oC D m₂ h tk E' hi hP hC hx F N off ne) (fun y s₂ q => ?_) fun _ _ e => e
  obtain ⟨h', tk', t, rfl, F', N', rfl⟩ := q
  refine ⟨(), h', tk', rfl, F', N', off, hS, ?_⟩
  rw [List.range_succ, List.map_append]
  exact hinv.append (.cons _ _ .nil)
end
section
variable {prog : Program} {w : World} {A : Around} {E : Value → Shared → Prop} {s : Shared} {h₀ : Heap} {L D : Addr} {m : Str → Option Value} {news news' : List (Addr × Obj)} {n : Nat} {Q : Value → Shared → Prop}
theorem pop_ints {us : List Value} {R : List Int} {b : Int} (F : Fr h₀ L s.heap m) (N : News h₀ L s.heap news) (U : Upd D (W.listOf us.toArray n) (W.listOf us.dropLast.toArray (n + 1)) news news') (hi : IntsAre us (R ++ [b])) (hz : R.length ≤ 1000000)
    (h : ∀ h' t, Fr h₀ L h' m → News h₀ L h' news' → IntsAre us.dropLast R → Q (.int b t) { s with heap := h' }) : wpAny (model prog w) A (call (.builtin "list.pop") [.ref D]) Q E s := by
  have hl := hi.length
  rw [List.length_append, List.length_singleton] at hl
  refine kpa_pop F N U hi (by omega) (by rw [PySem.sizeLine_eq]; omega) fun h' t F' N' hI' => ?_
  have e1 : (R ++ [b]).getLastD 0 = b := by simp
  have e2 : (R ++ [b]).dropLast = R := by simp
  rw [e1]
  rw [e2] at hI'
  exact h h' t F' N' hI'
end
section
variable {prog : Program} {w : World} {A : Around} {E : Value → Shared → Prop} {s : Shared} {h₀ : Heap} {L a b l : Addr} {m : Str → Option Value} {news : List (Addr × Obj)} {n k : Nat} {vs ws : List Value} {ns ms : List Int} {Q : Value → Shared → Prop}
theorem addI_led (F : Fr h₀ L s.heap m) (N : News h₀ L s.heap news) (ha : (a, W.listOf vs.toArray n) ∈ news) (hb : (b, W.listOf ws.toArray k) ∈ news) (hi : IntsAre vs ns) (hj : IntsAre ws ms) (hz : ns.length + ms.length ≤ 1000000)
    (h : ∀ D h', Fr h₀ L h' m → News h₀ L h' ((D, W.listOf (vs ++ ws).toArray 0) :: news) → (∀ p ∈ news, p.1 < D) → IntsAre (vs ++ ws) (ns ++ ms) → Q (.ref D) { s with heap := h' }) : wpAny (model prog w) A (binaryOp .Add (.ref a) (.ref b)) Q E s :=
  add_lists_ints (hsz := by rw [PySem.sizeLine_eq]; omega) F N ⟨_, N.get ha, rfl, n, rfl⟩ ⟨_, N.get hb, rfl, k, rfl⟩ hi hj fun h' F' N' hk => h _ h' F' N' (fun p hp => Heap.lt_size (N p hp).1) hk
theorem maxI_led (hh : A.handled = none) (F : Fr h₀ L s.heap m) (N : News h₀ L s.heap news) (hl : (l, W.listOf vs.toArray n) ∈ news) (hi : IntsAre vs ns) (hne : ns ≠ [])
    (h : ∀ h' M (t : Tok) tk, Fr h₀ L h' m → News h₀ L h' news → M ∈ ns → (∀ a, a ∈ ns → a ≤ M) → Q (.int M t) { s with heap := h', toks := tk }) :
    wpAny (model prog w) A (call (.builtin "max") [.ref l]) Q E s :=
  max_list_N hh F N ⟨_, N.get hl, rfl, n, rfl⟩ hi (List.length_pos_iff.mpr hne) h
theorem countI_led {x : Int} {t : Tok} (N : News h₀ L s.heap news) (hl : (l, W.listOf vs.toArray n) ∈ news) (hi : IntsAre vs ns)
    (h : ∀ t' k, Q (.int (ns.count x : Nat) t') { s with toks := k }) : wpAny (model prog w) A (call (.builtin "list.count") [.ref l, .int x t]) Q E s :=
  count_list_ints ⟨_, N.get hl, rfl, n, rfl⟩ hi (h _ _)
end

end

section
open PySem PySem.W PyProof.Rows PySem.Calls PySem.Spec

theorem mulOk_of {x : Str} {n : Int} (hx : x.length ≤ 1000) (hn : n ≤ 1000) (hm : -1000 ≤ n) : MulOk x n := by
  refine ⟨?_, ?_, ?_⟩
  · have a : decide (n < -(2 ^ 63 : Int)) = false := decide_eq_false (by omega)
    have b : decide (n ≥ 2 ^ 63) = false := decide_eq_false (by omega)
    rw [a, b]; rfl
  · intro h1 _
    have : (1000 : Int) ≤ (2 ^ 63 - 1) / n := by
      refine (Int.le_ediv_iff_mul_le (by omega)).mpr ?_
      omega
    omega
  · intro h1 _
    have h2 : x.length * n.toNat ≤ 1000 * 1000 := Nat.mul_le_mul hx (by omega)
    unfold PySem.Builtin.Str.tooLong
    rw [PySem.sizeLine_eq]
    exact decide_eq_false (by omega)
section
variable {prog : Program} {w : World} {A : Around} {E : Value → Shared → Prop} {s : Shared} {h₀ : Heap} {L D : Addr} {m : Str → Option Value} {news : List (Addr × Obj)} {k : Nat} {Q : Value → Shared → Prop} {x : Str} {t u : Tok}
theorem mul_led {n : Int} (hx : x.length ≤ 1000) (hn : n ≤ 1000) (hm : -1000 ≤ n) (h : ∀ t' k, Q (.str (Txt.mul x n) t') { s with toks := k }) : wpAny (model prog w) A (binaryOp .Mult (.str x t) (.int n u)) Q E s := SB.mul (mulOk_of hx hn hm) h
theorem join_led {vs : List Value} {ys : List Str} (N : News h₀ L s.heap news) (hl : (D, W.listOf vs.toArray k) ∈ news) (hi : StrsAre vs ys) (hok : (ys.map (·.length)).sum + ys.length * x.length ≤ 16777216)
    (h : ∀ t' k, Q (.str (Txt.join x ys) t') { s with toks := k }) : wpAny (model prog w) A (call (.builtin "str.join") [.str x t, .ref D]) Q E s :=
  join_list (items := vs.toArray) ⟨_, N.get hl, rfl, k, rfl⟩ hi hok h
end
section
variable {prog : Program} {w : World} {A : Around} {h₀ : Heap} {L : Addr} {m : Str → Option Value} {env : Env}
def CStr (h₀ : Heap) (L : Addr) (m : Str → Option Value) (s : Shared) (I : Addr) (oI : Obj) (C : Addr) (oC : Obj) (D : Addr) (ys : List Value) (news : List (Addr × Obj)) (k : Str) (y : Value) (s₂ : Shared) : Prop :=
  ∃ h' tk' t, s₂ = { s with heap := h', toks := tk' } ∧ Fr h₀ L h' m ∧ News h₀ L h' ((I, oI) :: (C, oC) :: (D, LCg.lst ys) :: news) ∧ y = .str k t
theorem cstr {h₀ h' : Heap} {L I C D : Addr} {m : Str → Option Value} {s : Shared} {oI oC : Obj} {ys : List Value} {news : List (Addr × Obj)} {k k' : Str} {t : Tok} {tk : Nat} (F : Fr h₀ L h' m) (N : News h₀ L h' ((I, oI) :: (C, oC) :: (D, LCg.lst ys) :: news)) (e : k' = k) :
    CStr h₀ L m s I oI C oC D ys news k (.str k' t) { s with heap := h', toks := tk } := ⟨h', tk, t, rfl, F, N, by rw [e]⟩
/-- The element makes nothing that is kept: texts told by a function of the turn's number. -/
theorem comp_strs {elt : Expr} {x : Str} {scope : Scope} {cl : List (Str × Addr)} {s : Shared} {S : List (Addr × Obj) → Prop} {P : Nat → Value → Prop} {Fin : List Value → List (Addr × Obj) → Prop} {n : Nat} {news : List (Addr × Obj)}
    (f : Nat → Str) (hS : S news)
    (turn : ∀ i v ys I oI C oC D m₂ h tk (E' : Value → Shared → Prop), i < n → P i v → LCg.NsObj oC m₂ → m₂ x = some v → Fr h₀ L h m → News h₀ L h ((I, oI) :: (C, oC) :: (D, LCg.lst ys) :: news) → LCg.Off3 I C D news → ((@Ne Nat I C) ∧ (@Ne Nat I D) ∧ (@Ne Nat C D)) →
      wpAny (model prog w) A (eval elt (compEnvC scope cl C env)) (CStr h₀ L m s I oI C oC D ys news (f i)) E' { s with heap := h, toks := tk })
    (fin : ∀ ys, StrsAre ys ((List.range n).map f) → Fin ys news) :
    LCg.CompRest prog w A h₀ L m env elt x scope cl s S P Fin n 0 [] news := by
  refine comp_led (σ := Unit) (fun _ => news) (fun i ys _ => StrsAre ys ((List.range i).map f)) () rfl .nil ?_ (fun ys _ h => fin ys h)
  intro i v ys c I oI C oC D m₂ h tk E' hi hP hinv hC hx F N off ne
  refine wpAny_mono (turn i v ys I oI C oC D m₂ h tk E' hi hP hC hx F N off ne) (fun y s₂ q => ?_) fun _ _ e => e
  obtain ⟨h', tk', t, rfl, F', N', rfl⟩ := q
  refine ⟨(), h', tk', rfl, F', N', off, hS, ?_⟩
  rw [List.range_succ, List.map_append]
  exact hinv.append' (.cons _ _ .nil)
end
/-- What a place of a list of ints holds. -/
theorem ints_item {vs : List Value} {ns : List Int} (hi : IntsAre vs ns) {i : Nat} {v : Value} (h : vs.toArray[i]? = some v) : ∃ t, i < ns.length ∧ v = .int (ns.getD i 0) t := by
  have h' : vs[i]? = some v := by simpa using h
  have hl := (List.getElem?_eq_some_iff.mp h').1
  rw [hi.length] at hl
  obtain ⟨t, e⟩ := ints_at hi hl
  rw [h'] at e
  exact ⟨t, hl, Option.some.inj e⟩
theorem map_range {α β : Type} (l : List α) (d : α) (g : α → β) : (List.range l.length).map (fun i => g (l.getD i d)) = l.map g := by
  apply List.ext_getElem
  · simp
  · intro i h1 h2
    simp only [List.length_map] at h2
    simp [List.getD_eq_getElem?_getD, List.getElem?_eq_getElem h2]
section
variable {prog : Program} {w : World} {A : Around} {h₀ : Heap} {L : Addr} {m : Str → Option Value} {env : Env} {elt : Expr} {x : Str} {scope : Scope} {cl : List (Str × Addr)} {s : Shared} {S : List (Addr × Obj) → Prop} {Fin : List Value → List (Addr × Obj) → Prop} {news : List (Addr × Obj)} {vs : List Value} {ns : List Int}
theorem comp_mapI (hi : IntsAre vs ns) (f : Int → Int) (hS : S news)
    (turn : ∀ a t ys I oI C oC D m₂ h tk (E' : Value → Shared → Prop), a ∈ ns → LCg.NsObj oC m₂ → m₂ x = some (.int a t) → Fr h₀ L h m → News h₀ L h ((I, oI) :: (C, oC) :: (D, LCg.lst ys) :: news) → LCg.Off3 I C D news → ((@Ne Nat I C) ∧ (@Ne Nat I D) ∧ (@Ne Nat C D)) →
      wpAny (model prog w) A (eval elt (compEnvC scope cl C env)) (CInt h₀ L m s I oI C oC D ys news (f a)) E' { s with heap := h, toks := tk })
    (fin : ∀ ys, IntsAre ys (ns.map f) → Fin ys news) :
    LCg.CompRest prog w A h₀ L m env elt x scope cl s S (fun i v => vs.toArray[i]? = some v) Fin vs.toArray.size 0 [] news := by
  refine comp_ints (fun i => f (ns.getD i 0)) hS ?_ ?_
  · intro i v ys I oI C oC D m₂ h tk E' hin hP hC hx F N off ne
    obtain ⟨t, hl, rfl⟩ := ints_item hi hP
    refine turn _ t ys I oI C oC D m₂ h tk E' ?_ hC hx F N off ne
    rw [List.getD_eq_getElem?_getD, List.getElem?_eq_getElem hl]
    exact List.getElem_mem hl
  · intro ys h
    refine fin ys ?_
    rw [List.size_toArray, hi.length, map_range ns 0 f] at h
    exact h
theorem comp_mapS (hi : IntsAre vs ns) (f : Int → Str) (hS : S news)
    (turn : ∀ a t ys I oI C oC D m₂ h tk (E' : Value → Shared → Prop), a ∈ ns → LCg.NsObj oC m₂ → m₂ x = some (.int a t) → Fr h₀ L h m → News h₀ L h ((I, oI) :: (C, oC) :: (D, LCg.lst ys) :: news) → LCg.Off3 I C D news → ((@Ne Nat I C) ∧ (@Ne Nat I D) ∧ (@Ne Nat C D)) →
      wpAny (model prog w) A (eval elt (compEnvC scope cl C env)) (CStr h₀ L m s I oI C oC D ys news (f a)) E' { s with heap := h, toks := tk })
    (fin : ∀ ys, StrsAre ys (ns.map f) → Fin ys news) :
    LCg.CompRest prog w A h₀ L m env elt x scope cl s S (fun i v => vs.toArray[i]? = some v) Fin vs.toArray.size 0 [] news := by
  refine comp_strs (fun i => f (ns.getD i 0)) hS ?_ ?_
  · intro i v ys I oI C oC D m₂ h tk E' hin hP hC hx F N off ne
    obtain ⟨t, hl, rfl⟩ := ints_item hi hP
    refine turn _ t ys I oI C oC D m₂ h tk E' ?_ hC hx F N off ne
    rw [List.getD_eq_getElem?_getD, List.getElem?_eq_getElem hl]
    exact List.getElem_mem hl
  · intro ys h
    refine fin ys ?_
    rw [List.size_toArray, hi.length, map_range ns 0 f] at h
    exact h
end

end

section
open PySem PySem.W PyProof.Rows PySem.Calls PySem.Spec

section
variable {prog : Program} {w : World} {A : Around} {E : Value → Shared → Prop} {s : Shared} {h₀ : Heap} {L : Addr} {m : Str → Option Value} {news : List (Addr × Obj)} {Q : Value → Shared → Prop}
/-- A place of a tuple of ints that stood before the frame. -/
theorem item_tupB {value slice : PySem.Expr} {t : Addr} {vs : List Value} {ns : List Int} {k : Int} {u : Tok} (F : Fr h₀ L s.heap m) (ht : IsTup h₀ t vs.toArray) (hi : IntsAre vs ns) (h0 : 0 ≤ k) (h1 : k.toNat < ns.length) (hf : k < 2 ^ 63) (h : ∀ t', Q (.int (ns.getD k.toNat 0) t') s)
    {ops : List Value} (hs : subscripted slice false (.ref t) (.int k u) = operate ops (getItem (.ref t) (.int k u))) :
    wpAny (model prog w) A (subscriptTail value slice (.ref t) (.int k u)) Q E s := by
  have ht' : IsTup s.heap t vs.toArray := ht.keeps F.keep
  obtain ⟨t', e⟩ := ints_at hi h1
  have hl := hi.length
  refine tail_any ht'.typeIs slot_tuple_getitem.lookup (getItem_tuple (j := k.toNat) ht' (by omega) hf ?_ (by simpa using e) (h t')) hs
  rw [List.size_toArray]
  exact seqIndex_of h0 (by omega)
theorem len_tupB {t : Addr} {vs : List Value} {ns : List Int} (F : Fr h₀ L s.heap m) (ht : IsTup h₀ t vs.toArray) (hi : IntsAre vs ns) (hz : ns.length ≤ 1000000) (h : ∀ t' k, Q (.int (ns.length : Int) t') { s with toks := k }) :
    wpAny (model prog w) A (call (.builtin "len") [.ref t]) Q E s := by
  have ht' : IsTup s.heap t vs.toArray := ht.keeps F.keep
  have hl := hi.length
  refine len_tuple ht' (by rw [List.size_toArray]; omega) ?_
  rw [List.size_toArray, hl]
  exact h _ _
end
theorem and3N {a b c d : Nat} (h : a < b ∧ b < c ∧ c < d) : a < b ∧ b < c ∧ c < d := h
theorem datInt {news : List (Addr × Obj)} {i j : Int} {t : Tok} (h : i = j) : DatIn news (.int i t) (.int j) := h ▸ .int i t
theorem datInts {news : List (Addr × Obj)} {vs : List Value} {l m : List Int} (hi : IntsAre vs l) (e : l = m) : DatAll news vs (m.map .int) := e ▸ datAll_ints hi
theorem isnot_refute {a b c a' b' c' : Int} (h1 : a = a') (h2 : b = b') (h3 : c = c') (h : (decide (a = b + c) != (a' == b' + c')) = true) : False := by
  subst h1 h2 h3
  by_cases e : a = b + c
  · simp [e] at h
  · have : (a == b + c) = false := by rw [beq_eq_false_iff_ne]; exact e
    rw [this] at h
    simp [e] at h
theorem dok_ints {n : Nat} (l : List Int) : (l.map Dat.int).all (dok n) = true := by
  induction l with
  | nil => rfl
  | cons a r ih => rw [List.map_cons, List.all_cons, ih]; cases n <;> rfl

end

section
open PySem PySem.W PyProof.Rows PySem.Calls PySem.Spec

def pickL {α : Type} (l : List α) (lo hi st : Option Int) : List α :=
  (sliceRange (sliceBounds lo hi st l.length).1 (sliceBounds lo hi st l.length).2.1 (sliceBounds lo hi st l.length).2.2).filterMap (l[·]?)
theorem slicePick_list (vs : List Value) (lo hi st : Option Int) : slicePick vs.toArray lo hi st = (pickL vs lo hi st).toArray := by
  simp [slicePick, pickL]
theorem pickNums_list (ns : List Int) (lo hi st : Option Int) : pickNums ns lo hi st = pickL ns lo hi st := rfl
theorem filterMap_range {α : Type} (l : List α) (f : Nat → Nat) (n : Nat) (g : List α) (hg : g.length = n) (h : ∀ k, k < n → l[f k]? = g[k]?) : ((List.range n).map f).filterMap (l[·]?) = g := by
  subst hg
  rw [List.filterMap_map]
  have e : ∀ m, m ≤ g.length → (List.range m).filterMap ((l[·]?) ∘ f) = g.take m := by
    intro m
    induction m with
    | zero => simp
    | succ m ih =>
      intro hm
      rw [List.range_succ, List.filterMap_append, ih (by omega), List.take_add_one]
      congr 1
      have := h m (by omega)
      have h2 : g[m]? = some g[m] := List.getElem?_eq_getElem (by omega)
      simp [Function.comp, this, h2]
  rw [e g.length (Nat.le_refl _), List.take_length]
theorem pickL_to {α : Type} (l : List α) {k : Int} (h0 : 0 ≤ k) : pickL l none (some k) none = l.take k.toNat := by
  have e : sliceBounds none (some k) none l.length = ((0 : Int), max 0 (min k l.length), (1 : Int)) := by
    unfold sliceBounds
    have h1 : ¬ k < 0 := by omega
    simp [h1]
  unfold pickL
  rw [e]
  unfold sliceRange
  refine filterMap_range l _ _ _ ?_ ?_
  · rw [List.length_take]
    simp only [Int.sub_zero]
    have : (if (1 : Int) > 0 then (if (0 : Int) < max 0 (min k ↑l.length) then (max 0 (min k ↑l.length) + 1 - 1) / 1 else 0) else if (0 : Int) > max 0 (min k ↑l.length) then (0 - max 0 (min k ↑l.length) - 1 - 1) / -1 else 0) = max 0 (min k ↑l.length) := by
      rw [if_pos (by decide)]
      split <;> omega
    rw [this]
    omega
  · intro j hj
    have e2 : ((0 : Int) + 1 * (j : Int)).toNat = j := by omega
    rw [e2, List.getElem?_take]
    split
    · rfl
    · rename_i hn
      rw [List.getElem?_eq_none]
      rw [show (if (1 : Int) > 0 then (if (0 : Int) < max 0 (min k ↑l.length) then (max 0 (min k ↑l.length) - 0 + 1 - 1) / 1 else 0) else if (0 : Int) > max 0 (min k ↑l.length) then (0 - max 0 (min k ↑l.length) - 1 - 1) / -1 else 0) = max 0 (min k ↑l.length) by rw [if_pos (by decide)]; split <;> omega] at hj
      omega
theorem pickL_from {α : Type} (l : List α) {k : Int} (h0 : 0 ≤ k) : pickL l (some k) none none = l.drop k.toNat := by
  have e : sliceBounds (some k) none none l.length = (max 0 (min k l.length), (l.length : Int), (1 : Int)) := by
    unfold sliceBounds
    have h1 : ¬ k < 0 := by omega
    simp [h1]
  unfold pickL
  rw [e]
  unfold sliceRange
  have hc : (if (1 : Int) > 0 then (if max 0 (min k ↑l.length) < (l.length : Int) then ((l.length : Int) - max 0 (min k ↑l.length) + 1 - 1) / 1 else 0) else if max 0 (min k ↑l.length) > (l.length : Int) then (max 0 (min k ↑l.length) - (l.length : Int) - 1 - 1) / -1 else 0) = (l.length : Int) - max 0 (min k ↑l.length) := by
    rw [if_pos (by decide)]
    split <;> omega
  refine filterMap_range l _ _ _ ?_ ?_
  · rw [List.length_drop]
    simp only [hc]
    omega
  · intro j hj
    rw [List.getElem?_drop]
    simp only [hc] at hj
    have e2 : (max 0 (min k ↑l.length) + 1 * (j : Int)).toNat = k.toNat + j := by omega
    rw [e2]
theorem pickL_rev {α : Type} (l : List α) : pickL l none none (some (-1)) = l.reverse := by
  have e : sliceBounds none none (some (-1)) l.length = ((l.length : Int) - 1, (-1 : Int), (-1 : Int)) := by
    unfold sliceBounds
    simp
  unfold pickL
  rw [e]
  unfold sliceRange
  have hc : (if (-1 : Int) > 0 then (if (l.length : Int) - 1 < -1 then (-1 - ((l.length : Int) - 1) + -1 - 1) / -1 else 0) else if (l.length : Int) - 1 > -1 then ((l.length : Int) - 1 - -1 - -1 - 1) / (- -1) else 0) = (l.length : Int) := by
    rw [if_neg (by decide), show (- -1 : Int) = 1 from rfl, Int.ediv_one]
    split <;> omega
  refine filterMap_range l _ _ _ ?_ ?_
  · rw [List.length_reverse]
    simp only [hc]
    omega
  · intro j hj
    simp only [hc] at hj
    rw [List.getElem?_reverse (by omega)]
    have e2 : ((l.length : Int) - 1 + -1 * (j : Int)).toNat = l.length - 1 - j := by omega
    rw [e2]
mutual
def evens {α : Type} : List α → List α
  | [] => []
  | a :: r => a :: odds r
def odds {α : Type} : List α → List α
  | [] => []
  | _ :: r => evens r
end
theorem eo_len {α : Type} : ∀ l : List α, (evens l).length = (l.length + 1) / 2 ∧ (odds l).length = l.length / 2
  | [] => by simp [evens, odds]
  | a :: r => by
    have := eo_len r
    simp only [evens, odds, List.length_cons]
    omega
theorem eo_get {α : Type} : ∀ (l : List α) (k : Nat), (evens l)[k]? = l[2 * k]? ∧ (odds l)[k]? = l[2 * k + 1]?
  | [], k => by simp [evens, odds]
  | a :: r, k => by
    have h := eo_get r k
    refine ⟨?_, ?_⟩
    · cases k with
      | zero => simp [evens]
      | succ k =>
        have h2 := (eo_get r k).2
        simp only [evens, List.getElem?_cons_succ]
        rw [h2]
        have : 2 * (k + 1) = (2 * k + 1) + 1 := by omega
        rw [this, List.getElem?_cons_succ]
    · simp only [odds, List.getElem?_cons_succ]
      exact h.1
theorem eo_perm {α : Type} : ∀ l : List α, List.Perm (odds l ++ evens l) l
  | [] => by simp [evens, odds]
  | a :: r => by
    simp only [evens, odds]
    refine List.Perm.trans (List.perm_middle) (List.Perm.cons a ?_)
    exact List.Perm.trans List.perm_append_comm (eo_perm r)
theorem pickL_odds {α : Type} (l : List α) : pickL l (some 1) none (some 2) = odds l := by
  have e : sliceBounds (some 1) none (some 2) l.length = (max 0 (min 1 (l.length : Int)), (l.length : Int), (2 : Int)) := by
    unfold sliceBounds
    simp
  unfold pickL
  rw [e]
  unfold sliceRange
  have hc : (if (2 : Int) > 0 then (if max 0 (min 1 (l.length : Int)) < (l.length : Int) then ((l.length : Int) - max 0 (min 1 (l.length : Int)) + 2 - 1) / 2 else 0) else if max 0 (min 1 (l.length : Int)) > (l.length : Int) then (max 0 (min 1 (l.length : Int)) - (l.length : Int) - 2 - 1) / -2 else 0) = ((l.length / 2 : Nat) : Int) := by
    rw [if_pos (by decide)]
    split <;> omega
  refine filterMap_range l _ _ _ ?_ ?_
  · rw [(eo_len l).2]
    simp only [hc]
    omega
  · intro j hj
    simp only [hc] at hj
    have hj2 : j < l.length / 2 := by omega
    have e2 : (max 0 (min 1 (l.length : Int)) + 2 * (j : Int)).toNat = 2 * j + 1 := by omega
    rw [e2, (eo_get l j).2]
theorem pickL_evens {α : Type} (l : List α) : pickL l (some 0) none (some 2) = evens l := by
  have e : sliceBounds (some 0) none (some 2) l.length = ((0 : Int), (l.length : Int), (2 : Int)) := by
    unfold sliceBounds
    simp
    omega
  unfold pickL
  rw [e]
  unfold sliceRange
  have hc : (if (2 : Int) > 0 then (if (0 : Int) < (l.length : Int) then ((l.length : Int) - 0 + 2 - 1) / 2 else 0) else if (0 : Int) > (l.length : Int) then (0 - (l.length : Int) - 2 - 1) / -2 else 0) = (((l.length + 1) / 2 : Nat) : Int) := by
    rw [if_pos (by decide)]
    split <;> omega
  refine filterMap_range l _ _ _ ?_ ?_
  · rw [(eo_len l).1]
    simp only [hc]
    omega
  · intro j hj
    simp only [hc] at hj
    have e2 : ((0 : Int) + 2 * (j : Int)).toNat = 2 * j := by omega
    rw [e2, (eo_get l j).1]
section
variable {prog : Program} {w : World} {A : Around} {E : Value → Shared → Prop} {s : Shared} {h₀ : Heap} {L : Addr} {m : Str → Option Value} {news : List (Addr × Obj)} {Q : Value → Shared → Prop}
theorem slice_led {value slice : PySem.Expr} {l : Addr} {vs : List Value} {n : Nat} {vl vu vk : Value} {lo hi st : Option Int} {ops : List Value} (F : Fr h₀ L s.heap m) (N : News h₀ L s.heap news) (hm : (l, W.listOf vs.toArray n) ∈ news) (pl : IsPart vl lo) (pu : IsPart vu hi) (pk : IsPart vk st) (h0 : st ≠ some 0) (hz : vs.length ≤ 1000000)
    (h : ∀ D h', Fr h₀ L h' m → News h₀ L h' ((D, W.listOf (pickL vs lo hi st).toArray 0) :: news) → (∀ p ∈ news, p.1 < D) → Q (.ref D) { s with heap := h' })
    (hs : subscripted slice false (.ref l) (.ref s.heap.objs.size) = operate ops (getItem (.ref l) (.ref s.heap.objs.size)))
    (ht : ∀ r, letTemporaryGo value (.ref l) r = pure ()) :
    wpAny (model prog w) A (subscriptTail value slice (.ref l) (.ref s.heap.objs.size)) Q E { s with heap := s.heap.push { cls := .type "slice", data := .fields #[vl, vu, vk] } } := by
  refine slice_list3 (items := vs.toArray) F N ⟨_, N.get hm, rfl, n, rfl⟩ pl pu pk h0 ?_ hs ht (by rw [List.size_toArray, PySem.sizeLine_eq]; omega)
  intro h' F' N'
  rw [slicePick_list] at N'
  exact h _ h' F' N' fun p hp => Nat.lt_succ_of_lt (Heap.lt_size (N p hp).1)
theorem slice_ledI {value slice : PySem.Expr} {l : Addr} {vs : List Value} {ns : List Int} {n : Nat} {vl vu vk : Value} {lo hi st : Option Int} {ops : List Value} (F : Fr h₀ L s.heap m) (N : News h₀ L s.heap news) (hm : (l, W.listOf vs.toArray n) ∈ news) (hi' : IntsAre vs ns) (pl : IsPart vl lo) (pu : IsPart vu hi) (pk : IsPart vk st) (h0 : st ≠ some 0) (hz : ns.length ≤ 1000000)
    (h : ∀ D us h', Fr h₀ L h' m → News h₀ L h' ((D, W.listOf us.toArray 0) :: news) → (∀ p ∈ news, p.1 < D) → IntsAre us (pickL ns lo hi st) → Q (.ref D) { s with heap := h' })
    (hs : subscripted slice false (.ref l) (.ref s.heap.objs.size) = operate ops (getItem (.ref l) (.ref s.heap.objs.size)))
    (ht : ∀ r, letTemporaryGo value (.ref l) r = pure ()) :
    wpAny (model prog w) A (subscriptTail value slice (.ref l) (.ref s.heap.objs.size)) Q E { s with heap := s.heap.push { cls := .type "slice", data := .fields #[vl, vu, vk] } } := by
  refine slice_led F N hm pl pu pk h0 (by rw [hi'.length]; exact hz) (fun D h' F' N' l1 => h D _ h' F' N' l1 ?_) hs ht
  have := hi'.pick lo hi st
  rw [slicePick_list] at this
  exact this
end

end

section
open PySem PySem.W PyProof.Rows PySem.Calls PySem.Spec

theorem rep_flatV {α : Type} {k : Nat} {a : α} : (List.replicate k [a]).flatten = List.replicate k a := by
  induction k with
  | zero => rfl
  | succ k ih => simp [List.replicate_succ, ih]
theorem intsRep (k : Nat) (x : Int) (u : Tok) : IntsAre (List.replicate k (.int x u)) (List.replicate k x) := by
  induction k with
  | zero => exact .nil
  | succ k ih => exact .cons _ _ ih
section
variable {prog : Program} {w : World} {A : Around} {E : Value → Shared → Prop} {s : Shared} {h₀ : Heap} {L : Addr} {m : Str → Option Value} {news : List (Addr × Obj)} {Q : Value → Shared → Prop}
theorem len_tupL {t : Addr} {vs : List Value} {ns : List Int} {n : Nat} (N : News h₀ L s.heap news) (hm : (t, ({ cls := .type "tuple", data := .seq vs.toArray n } : Obj)) ∈ news) (hi : IntsAre vs ns) (hz : ns.length ≤ 1000000) (h : ∀ t' k, Q (.int (ns.length : Int) t') { s with toks := k }) :
    wpAny (model prog w) A (call (.builtin "len") [.ref t]) Q E s := by
  have hl := hi.length
  refine len_tuple (items := vs.toArray) ⟨_, N.get hm, rfl, n, rfl⟩ (by rw [List.size_toArray]; omega) ?_
  rw [List.size_toArray, hl]
  exact h _ _
/-- A place of a tuple of ints of the ledger. -/
theorem item_tupI {value slice : PySem.Expr} {t : Addr} {vs : List Value} {ns : List Int} {n : Nat} {k : Int} {u : Tok} (N : News h₀ L s.heap news) (hm : (t, ({ cls := .type "tuple", data := .seq vs.toArray n } : Obj)) ∈ news) (hi : IntsAre vs ns) (h0 : 0 ≤ k) (h1 : k.toNat < ns.length) (hf : k < 2 ^ 63) (h : ∀ t', Q (.int (ns.getD k.toNat 0) t') s)
    {ops : List Value} (hs : subscripted slice false (.ref t) (.int k u) = operate ops (getItem (.ref t) (.int k u))) :
    wpAny (model prog w) A (subscriptTail value slice (.ref t) (.int k u)) Q E s := by
  obtain ⟨t', e⟩ := ints_at hi h1
  have hl := hi.length
  exact item_tupLed N hm (by omega) hf (seqIndex_of h0 (by omega)) e (h t') hs
/-- [x] * k for a list of one int. -/
theorem rep_led {l : Addr} {x : Int} {u t : Tok} {n : Nat} {k : Int} (F : Fr h₀ L s.heap m) (N : News h₀ L s.heap news) (hm : (l, W.listOf #[.int x u] n) ∈ news) (h0 : 0 ≤ k) (h1 : k ≤ 256)
    (h : ∀ D us h', Fr h₀ L h' m → News h₀ L h' ((D, W.listOf us.toArray 0) :: news) → (∀ p ∈ news, p.1 < D) → IntsAre us (List.replicate k.toNat x) → Q (.ref D) { s with heap := h' }) :
    wpAny (model prog w) A (binaryOp .Mult (.ref l) (.int k t)) Q E s := by
  refine KMa.mul (vs := [.int x u]) F N ⟨_, N.get hm, rfl, n, rfl⟩ (by omega) (by omega) (by simp; omega) (rep_flatV (k := k.toNat)) fun D h' F' N' l1 => h D _ h' F' N' l1 (intsRep _ _ _)
end

end

section
open PySem PySem.W PyProof.Rows PySem.Calls PySem.Spec

/-! Loops whose turns may leave generators behind. -/
section
variable {prog : Program} {w : World} {A : Around} {E : Value → Shared → Prop} {s : Shared} {env : Env} {h₀ : Heap} {x : Str} {body : List Stmt}
def TurnG {σ : Type} (h₀ : Heap) (L : Addr) (x : Str) (mp : σ → Str → Option Value) (led : σ → List (Addr × Obj)) (Inv Ex : σ → Prop) (I : Addr) (oI : Obj) (Q : Flow → Shared → Prop) (s₁ : Shared) (f : Flow) (s₂ : Shared) : Prop :=
  match f with
  | .ret v => Q (.ret v) s₂
  | .brk => ∃ (c : σ) (h' : Heap) (tk : Nat) (gs : Array GenState) (m' : Str → Option Value), s₂ = { s₁ with heap := h', toks := tk, gens := gs } ∧ AllBare gs ∧ Fr h₀ L h' m' ∧ News h₀ L h' (led c) ∧ (∀ z, z ≠ x → m' z = mp c z) ∧ Ex c
  | _ => ∃ (c : σ) (h' : Heap) (tk : Nat) (gs : Array GenState) (m' : Str → Option Value), s₂ = { s₁ with heap := h', toks := tk, gens := gs } ∧ AllBare gs ∧ Fr h₀ L h' m' ∧ News h₀ L h' (led c ++ [(I, oI)]) ∧ (∀ z, z ≠ x → m' z = mp c z) ∧ (∀ p ∈ led c, p.1 ≠ I) ∧ Inv c
theorem forG {σ : Type} {R : Result → Shared → Prop} {px : Pos} {I : Addr} {fp : List Addr} {n : Nat} {P : Nat → Value → Prop} {St : Nat → Heap → Prop} {m₀ : Str → Option Value}
    (mp : σ → Str → Option Value) (led : σ → List (Addr × Obj)) (Inv : Nat → σ → Prop) (Ex : σ → Prop) (c₀ : σ)
    (W : Walks prog w A I fp [I] n P St) (hit : ∀ i h, St i h → ∃ o, h.get? I = some o) (hfp : ∀ b ∈ fp, b = I ∨ (∃ o, h₀.get? b = some o) ∨ ∃ o, ∀ c, (b, o) ∈ led c)
    (hx : env.kindOf x = some .local) (hp : (env.scope.kind == .class || (env.scope.kind == .module && env.locals != env.globals)) = false)
    (hLf : env.locals ∉ fp) (hI0 : h₀.get? I = none) (hst : St 0 s.heap) (F : Fr h₀ env.locals s.heap m₀) (N : News h₀ env.locals s.heap (led c₀)) (hG : AllBare s.gens)
    (hoff : ∀ p ∈ led c₀, p.1 ≠ I) (hm : ∀ z, z ≠ x → m₀ z = mp c₀ z) (hi : Inv 0 c₀)
    (turn : ∀ i v c oI h tk gs, i < n → P i v → Inv i c → AllBare gs → (∀ p ∈ led c, p.1 ≠ I) → Fr h₀ env.locals h (fun y => if y = x then some v else mp c y) → News h₀ env.locals h (led c ++ [(I, oI)]) →
      wpAny (model prog w) A (execs body env) (TurnG h₀ env.locals x mp led (Inv (i + 1)) Ex I oI (fun f s' => R (.ok f) s') { s with heap := h, toks := tk, gens := gs }) (notedBy (model prog w) A env fun e s' => R (.error e) s') { s with heap := h, toks := tk, gens := gs })
    (ends : ∀ c, Inv n c → Ex c)
    (done : ∀ c (u : Str → Option Value) h tk gs, Ex c → AllBare gs → Fr h₀ env.locals h (fun y => if y = x then u y else mp c y) → News h₀ env.locals h (led c) → R (.ok .next) { s with heap := h, toks := tk, gens := gs }) :
    codeAny (model prog w) A (.forLoop (.Name x px) (.ref I) body [] env) R s := by
  have hIfp : I ∈ fp := W.sub I (.head _)
  have hLI : env.locals ≠ I := fun e => hLf (e ▸ hIfp)
  refine codeAny_forLoop
    (fun k s' => ∃ h' tk gs m' c i, s' = { s with heap := h', toks := tk, gens := gs } ∧ AllBare gs ∧ St i h' ∧ Fr h₀ env.locals h' m' ∧ News h₀ env.locals h' (led c) ∧ (∀ p ∈ led c, p.1 ≠ I) ∧ (∀ z, z ≠ x → m' z = mp c z) ∧ Inv i c ∧ i ≤ n ∧ k = n + 1 - i) ?_ (n + 1)
    ⟨s.heap, s.toks, s.gens, m₀, c₀, 0, rfl, hG, hst, F, N, hoff, hm, hi, Nat.zero_le _, rfl⟩
  rintro k s' ⟨h', tk, gs, m', c, i, rfl, hG', hst', F', N', hoff', hm', hinv, hin, rfl⟩
  have old : ∀ b o, h₀.get? b = some o → b ∉ [I] := fun b o e hb => by rw [List.mem_singleton.mp hb, hI0] at e; cases e
  have next : ∀ h₁ : Heap, (∀ b o, b ∉ [I] → h'.get? b = some o → h₁.get? b = some o) → Fr h₀ env.locals h₁ m' ∧ News h₀ env.locals h₁ (led c) := fun h₁ hk₁ =>
    ⟨⟨F'.ns.at' fun o e => hk₁ _ o (fun q => hLI (List.mem_singleton.mp q)) e, fun b o e => hk₁ b o (old b o e) (F'.keep b o e), F'.above⟩, fun p hp => ⟨hk₁ _ _ (fun q => hoff' p hp (List.mem_singleton.mp q)) (N' p hp).1, (N' p hp).2⟩⟩
  by_cases hlt : i < n
  · refine W.item i _ _ _ hlt hst' fun v h₁ tk₁ hP hst₁ hk₁ => ?_
    obtain ⟨F₁, N₁⟩ := next h₁ hk₁
    refine wpAny_assign_Name (wpAny_storeName_local hx F₁.ns (fun h₂ hn₂ hs₂ => ?_) hp)
    have F₂ := F₁.set hn₂ hs₂
    have N₂ := N₁.set hs₂
    have hst₂ : St (i + 1) h₂ := W.frame _ _ _ hst₁ fun b hb o e => (hs₂.2 b fun q => hLf (q ▸ hb)).trans e
    obtain ⟨oI, hoI⟩ := hit _ _ hst₂
    have N₃ : News h₀ env.locals h₂ (led c ++ [(I, oI)]) := fun p hp => by
      rcases List.mem_append.mp hp with hp | hp
      · exact N₂ p hp
      · rw [List.mem_singleton.mp hp]; exact ⟨hoI, fun e => hLI e.symm, hI0⟩
    rw [map_off hm'] at F₂
    have fin : ∀ (s₃ : Shared), (∃ (c : σ) (h' : Heap) (tk : Nat) (gs' : Array GenState) (m' : Str → Option Value), s₃ = { s with heap := h', toks := tk, gens := gs' } ∧ AllBare gs' ∧ Fr h₀ env.locals h' m' ∧ News h₀ env.locals h' (led c ++ [(I, oI)]) ∧ (∀ z, z ≠ x → m' z = mp c z) ∧ (∀ p ∈ led c, p.1 ≠ I) ∧ Inv (i + 1) c) →
        ∃ k', k' < n + 1 - i ∧ ∃ h' tk gs m' c j, s₃ = { s with heap := h', toks := tk, gens := gs } ∧ AllBare gs ∧ St j h' ∧ Fr h₀ env.locals h' m' ∧ News h₀ env.locals h' (led c) ∧ (∀ p ∈ led c, p.1 ≠ I) ∧ (∀ z, z ≠ x → m' z = mp c z) ∧ Inv j c ∧ j ≤ n ∧ k' = n + 1 - j := by
      rintro s₃ ⟨c', h₃, tk₃, gs₃, m₃, rfl, hG₃, F₃, N₄, hm₃, hoff₃, hinv₃⟩
      refine ⟨n + 1 - (i + 1), by omega, h₃, tk₃, gs₃, m₃, c', i + 1, rfl, hG₃, ?_, F₃, (fun p hp => N₄ p (List.mem_append.mpr (.inl hp))), hoff₃, hm₃, hinv₃, hlt, rfl⟩
      refine W.frame _ _ _ hst₂ fun b hb o e => ?_
      rcases hfp b hb with rfl | ⟨o₀, e0⟩ | ⟨o₀, e0⟩
      · rw [hoI] at e; cases e
        exact (N₄ _ (List.mem_append.mpr (.inr (.head _)))).1
      · have := F₂.keep b o₀ e0
        rw [e] at this
        rw [Option.some.inj this]
        exact F₃.keep b o₀ e0
      · have := (N₂ _ (e0 c)).1
        rw [e] at this
        rw [Option.some.inj this]
        exact (N₄ _ (List.mem_append.mpr (.inl (e0 c')))).1
    refine wpAny_mono (turn i v c oI h₂ _ gs hlt hP hinv hG' hoff' F₂ N₃) (fun f s₃ q => ?_) fun _ _ e => e
    cases f with
    | ret v => exact q
    | brk =>
      obtain ⟨c', h₃, tk₃, gs₃, m₃, rfl, hG₃, F₃, N₄, hm₃, hex⟩ := q
      exact done c' m₃ h₃ tk₃ gs₃ hex hG₃ (by rw [← map_off' hm₃]; exact F₃) N₄
    | next => exact fin s₃ q
    | cont => exact fin s₃ q
  · have hin' : i = n := by omega
    subst hin'
    refine W.done _ _ _ hst' fun h₁ tk₁ hk₁ => wpAny_execs_nil ?_
    obtain ⟨F₁, N₁⟩ := next h₁ hk₁
    exact done c m' h₁ tk₁ gs (ends c hinv) hG' (by rw [← map_off' hm']; exact F₁) N₁
/-- What a for loop comes to behind its iterator. -/
def LoopG (prog : Program) (w : World) (A : Around) (env : Env) (x : Str) (px : Pos) (body : List Stmt) (Q : Flow → Shared → Prop) (E : Value → Shared → Prop) (it : Value) (s : Shared) : Prop :=
  codeAny (model prog w) A (.forLoop (.Name x px) it body [] env) (fun r s' => match r with | .ok f => Q f s' | .error e => cameBackBy (model prog w) A env E e s') s
theorem For_G {Q : Flow → Shared → Prop} {px pos : Pos} {iter : Expr}
    (h : wpAny (model prog w) A (eval iter env) (fun xv s₁ => wpAny (model prog w) A (pyIter xv) (fun it s₂ => LoopG prog w A env x px body Q E it s₂) E s₁) E s)
    (hs : ∀ x, foldedSetIterable iter env x = pure x := by intro _; rfl) :
    wpAny (model prog w) A (exec (.For (.Name x px) iter body [] pos) env) Q E s :=
  wpAny_For (wpAny_mono h (fun xv s₁ h₁ => wpAny_mono h₁ (fun it s₂ h₂ => h₂) fun _ _ e => e) fun _ _ e => e) hs
theorem range_ledG {σ : Type} {Q : Flow → Shared → Prop} {px : Pos} {r : Addr} {a₀ b₀ : Int} {t₀ u₀ v₀ : Tok} {n : Nat} {m₀ : Str → Option Value} {news : List (Addr × Obj)}
    (mp : σ → Str → Option Value) (led : σ → List (Addr × Obj)) (Inv : Nat → σ → Prop) (Ex : σ → Prop) (c₀ : σ)
    (hh : A.handled = none) (hx : env.kindOf x = some .local) (hp : (env.scope.kind == .class || (env.scope.kind == .module && env.locals != env.globals)) = false) (hE : PassesOwn (model prog w) A env E)
    (hr : IsRange s.heap r a₀ b₀ 1 t₀ u₀ v₀) (hsmall : Builtin.Range.small a₀ b₀ 1 = true) (hn : Builtin.Range.rangeSize a₀ b₀ 1 = (n : Int)) (F : Fr h₀ env.locals s.heap m₀) (N : News h₀ env.locals s.heap news) (hG : AllBare s.gens) (hl : ∀ p ∈ led c₀, p ∈ news) (hm : ∀ z, z ≠ x → m₀ z = mp c₀ z) (hi : Inv 0 c₀)
    (turn : ∀ i t c I oI h tk gs, i < n → Inv i c → AllBare gs → (∀ p ∈ led c, p.1 ≠ I) → Fr h₀ env.locals h (fun y => if y = x then some (.int (a₀ + (i : Int)) t) else mp c y) → News h₀ env.locals h (led c ++ [(I, oI)]) →
      wpAny (model prog w) A (execs body env) (TurnG h₀ env.locals x mp led (Inv (i + 1)) Ex I oI Q { s with heap := h, toks := tk, gens := gs }) E { s with heap := h, toks := tk, gens := gs })
    (ends : ∀ c, Inv n c → Ex c)
    (done : ∀ c (u : Str → Option Value) h tk gs, Ex c → AllBare gs → Fr h₀ env.locals h (fun y => if y = x then u y else mp c y) → News h₀ env.locals h (led c) → Q .next { s with heap := h, toks := tk, gens := gs }) :
    wpAny (model prog w) A (pyIter (.ref r)) (fun it s₂ => LoopG prog w A env x px body Q E it s₂) E s := by
  have N₀ := news_sub N hl
  refine wpAny_pyIter_range hr hsmall ?_
  have W : Walks prog w A s.heap.objs.size [s.heap.objs.size] [s.heap.objs.size] n (fun i v => i < n ∧ ∃ t, v = .int (a₀ + i * 1) t)
      (fun i h => IsRangeIter h s.heap.objs.size (a₀ + (i : Nat) * 1) ((n : Int) - (i : Nat)) 1) := (Walks.range hh _ a₀ 1 n).bound
  refine forG mp led Inv Ex c₀ W (fun i h st => ⟨_, st⟩) (fun b hb => .inl (List.mem_singleton.mp hb)) hx hp ?_ (next_is_new F) (by show IsRangeIter _ _ _ _ _; rw [hn]; simpa using Heap.get?_push_size _ rfl) (F.push _) (led_push N₀ _) hG (led_off N₀) hm hi ?_ ends ?_
  · intro hm
    exact absurd F.ns.lt ((List.mem_singleton.mp hm) ▸ Nat.lt_irrefl _)
  · rintro i v c oI h tk gs hin ⟨_, t, rfl⟩ hinv hGs hoff F₁ N₁
    have e1 : a₀ + (i : Int) * 1 = a₀ + (i : Int) := by omega
    rw [e1] at F₁
    exact wpAny_passesOwn hE (turn i t c _ oI h tk gs hin hinv hGs hoff F₁ N₁)
  · exact done
end

end

section
open PySem PySem.W PyProof.Rows PySem.Calls PySem.Spec

/-! A generator expression whose footprint is told by its user. -/
section
variable {prog : Program} {w : World} {A : Around} {E : Value → Shared → Prop} {s : Shared}
theorem genexp_X {env : Env} {elt iter : Expr} {x : Str} {px : Pos} {ifs : List Expr} {scope : Scope} {cl : List (Str × Addr)} {pos : Pos} {Q : Value → Shared → Prop}
    (hh : A.handled = none) (hco : scope.isCoroutine = false) (hclos : closureFor scope env = pure cl) (hcell : ∀ y ∈ scope.names, y.2 ≠ .cell) (h0 : scope.names.lookup (".0" : Str) = some NameKind.local)
    (hx : scope.names.lookup x = some .local) (hkind : scope.kind = .function) (hroom : A.depth < recursionLimit)
    (h : wpAny (model prog w) A (eval iter env) (fun xv s₁ => wpAny (model prog w) A (pyIter xv) (fun it s₂ => s₂.heap.NoLimit ∧
      wpAny (model prog w) A (genexprCode env pos (env.qual ++ "<genexpr>") scope) (fun code s₃ => wpAny (model prog w) A (builtinsFor env.globals env.builtins) (fun bi s₄ =>
        ∃ I fp wr n₀ P St₀ pz F, it = .ref I ∧ (∀ A' : Around, A'.handled = none → Walks prog w A' I fp wr n₀ P St₀) ∧ St₀ 0 s₄.heap ∧ (∀ b ∈ fp, b < s₄.heap.objs.size) ∧ s₄.heap.NoLimit ∧ cStatics ∉ wr ∧ cStatics ∈ fp ∧
          (∀ href : Heap, (∀ b o, s₄.heap.get? b = some o → href.get? b = some o) →
            QuietGenD prog w (genEnv scope cl s₄.heap.objs.size code bi env) x ifs elt fp wr P pz F href (A.depth + 1) (A.units + 8)) ∧
          (∀ a h₅ tk gs oa oC, gs.bare = true → s₄.heap.objs.size < a → h₅.objs.size = a + 1 → (∀ b o, s₄.heap.get? b = some o → h₅.get? b = some o) → h₅.get? a = some oa → h₅.get? s₄.heap.objs.size = some oC →
            WalksS prog w A.in4 a (a :: s₄.heap.objs.size :: fp) (s₄.heap.objs.size :: wr) (GenOnlyQ s₄.gens.size) (passing pz n₀ 0).length
              (fun j y => ∃ i, (passing pz n₀ 0)[j]? = some i ∧ F i y) (GenAt prog w A.in4 a s₄.gens.size s₄.heap.objs.size fp wr pz n₀ F) →
            GenAt prog w A.in4 a s₄.gens.size s₄.heap.objs.size fp wr pz n₀ F 0 { s₄ with gens := s₄.gens.push gs, toks := tk, heap := h₅ } →
            Q (.ref a) { s₄ with gens := s₄.gens.push gs, toks := tk, heap := h₅ })) E s₃) E s₂) E s₁) E s)
    (hs : ∀ x, genFold iter env x = pure x) :
    wpAny (model prog w) A (eval (.GeneratorExp elt [⟨.Name x px, iter, ifs, 0⟩] scope pos) env) Q E s := by
  refine wpAny_GeneratorExp_make hco hclos hcell h0 hkind hroom (wpAny_mono h (fun xv s₁ h₁ => wpAny_mono h₁ (fun it s₂ h₂ => ⟨h₂.1, wpAny_mono h₂.2 (fun code s₃ h₃ => wpAny_mono h₃ (fun bi s₄ h₄ => ?_)
    fun _ _ e => e) fun _ _ e => e⟩) fun _ _ e => e) fun _ _ e => e) hs
  obtain ⟨I, fp, wr, n₀, P, St₀, pz, F, rfl, W₀, hst, hfp, hl₄, hcw, hcf, hq, hQ⟩ := h₄
  have hclt : cStatics < s₄.heap.objs.size := let ⟨_, hn, _⟩ := hl₄; hn.lt
  intro h' hn' hs'
  have hsz : h'.objs.size = s₄.heap.objs.size + 1 := by rw [hs'.1, Heap.size_push]
  have keep' : ∀ b o, s₄.heap.get? b = some o → h'.get? b = some o := fun b o e => hs'.extBut b o (Nat.ne_of_lt (Heap.lt_size e)) (Heap.get?_push_of_some _ e)
  have hsub : ∀ b ∈ wr, b ∈ fp := fun b hb => (W₀ A hh).sub b hb
  have haC : h'.objs.size ≠ s₄.heap.objs.size := by rw [hsz]; exact Nat.succ_ne_self _
  have haf : h'.objs.size ∉ fp := fun hm => absurd (hfp _ hm) (Nat.not_lt.mpr (by rw [hsz]; exact Nat.le_succ _))
  have keep₅ : ∀ b o, s₄.heap.get? b = some o → (h'.push { cls := .type "generator", data := .fields #[.int s₄.gens.size 0, .str "<genexpr>" (s₄.toks + 1), .str (env.qual ++ "<genexpr>") (s₄.toks + 1 + 1)] }).get? b = some o :=
    fun b o e => Heap.get?_push_of_some _ (keep' b o e)
  obtain ⟨oC, _, _, hoC, _⟩ := id hn'
  refine hQ _ _ _ _ _ _ rfl (by omega) (by rw [Heap.size_push]) keep₅ (Heap.get?_push_size _ rfl) (Heap.get?_push_of_some _ hoC) (WalksS.genexpQ (A := A.in4) hh _ _ _ _ wr pz n₀ F haC haf hsub hroom hcf (Nat.ne_of_lt hclt) hcw) ?_
  refine GenAt.freshD (A := A.in4) (cenv := genEnv scope cl s₄.heap.objs.size code bi env) (m := fun y => if y = ".0" then some (.ref I) else none) hh
    W₀ pz F hx (by simp [genEnv, hkind]) hco
    (fun hm => Nat.lt_irrefl _ (hfp _ hm)) (hq _ keep₅) ⟨_, _, _, Heap.get?_push_size _ rfl, rfl, rfl, rfl⟩ (Array.getElem?_push_size ..) ((W₀ A hh).frame _ _ _ hst fun b _ o e => keep₅ b o e) (hn'.push _) (hl₄.keeps keep₅)
end

end

section
open PySem PySem.W PyProof.Rows PySem.Calls PySem.Spec

theorem isList_keeps {h h' : Heap} {a : Addr} {xs : Array Value} (x : h.IsList a xs) (k : ∀ b o, h.get? b = some o → h'.get? b = some o) : h'.IsList a xs := let ⟨o, e, r⟩ := x; ⟨o, k _ _ e, r⟩
theorem isTuple_keeps {h h' : Heap} {a : Addr} {xs : Array Value} (x : h.IsTuple a xs) (k : ∀ b o, h.get? b = some o → h'.get? b = some o) : h'.IsTuple a xs := let ⟨o, e, r⟩ := x; ⟨o, k _ _ e, r⟩
/-- The places of a base. -/
def fpG (g : Heap) : List Addr := (List.range g.objs.size).filter fun b => (g.get? b).isSome
theorem mem_fpG {g : Heap} {b : Addr} {o : Obj} (e : g.get? b = some o) : b ∈ fpG g := List.mem_filter.mpr ⟨List.mem_range.mpr (Heap.lt_size e), by rw [e]; rfl⟩
theorem of_fpG {g : Heap} {b : Addr} (h : b ∈ fpG g) : ∃ o, g.get? b = some o := by
  have := (List.mem_filter.mp h).2
  exact Option.isSome_iff_exists.mp this
/-- A generator that stands ready: it gives n values, told by Fv, whatever else the frame does meanwhile. -/
def GenReady (prog : Program) (w : World) (A : Around) (g : Heap) (a : Addr) (oa : Obj) (C : Addr) (oC : Obj) (I : Addr) (oI : Obj) (n : Nat) (Fv : Nat → Value → Prop) (gens : Array GenState) : Prop :=
  ∃ gi St, WalksS prog w A.in4 a (a :: C :: I :: fpG g) [C, I] (GenOnlyQ gi) n Fv St ∧ (∀ i s', St i s' → s'.TypeIs (.ref a) "generator") ∧
    ∀ s : Shared, s.gens = gens → s.heap.get? a = some oa → s.heap.get? C = some oC → s.heap.get? I = some oI → (∀ b o, g.get? b = some o → s.heap.get? b = some o) → St 0 s
theorem passing_all (n : Nat) : passing (fun _ => true) n 0 = List.range n := by
  unfold passing
  simp
theorem walksS_imp {prog : Program} {w : World} {A : Around} {I : Addr} {fp wr : List Addr} {G : Array GenState → Array GenState → Prop} {n n' : Nat} {P P' : Nat → Value → Prop} {St : Nat → Shared → Prop} (W : WalksS prog w A I fp wr G n P St) (hn : n = n') (h : ∀ i v, P i v → P' i v) : WalksS prog w A I fp wr G n' P' St := by
  subst hn
  exact W.imp h
section
variable {prog : Program} {w : World} {A : Around} {E : Value → Shared → Prop} {s : Shared} {g : Heap} {L c P : Addr} {ps : Array Value} {m mg mb : Str → Option Value} {p : Program} {loose : List Str} {mean : ExcName → Option Value}
def TabForm (pos : Pos) (ps : Array Value) : Prop := ps = #[] ∨ ∃ c' : Addr, ps = #[rawInt pos.line, rawInt pos.col, .ref c']
theorem tabForm_ok {pos : Pos} (h : TabForm pos ps) : TriplesOk ps.toList := by
  rcases h with rfl | ⟨c', rfl⟩
  · exact True.intro
  · simp [TriplesOk, rawInt]
/-- The code of a generator expression: made, or found. -/
theorem genexprCode_tab {env : Env} {pos : Pos} {qualname : Str} {scope : Scope} {Q : Value → Shared → Prop} (hc : env.code = .ref c) (C : CodeHd s.heap c P) (hP : s.heap.get? P = some (tabObj ps)) (hf : TabForm pos ps)
    (h : ∀ code h' tk ps', Heap.ExtBut P s.heap h' → s.heap.objs.size ≤ h'.objs.size → h'.get? P = some (tabObj ps') → TabForm pos ps' → Q code { s with heap := h', toks := tk }) :
    wpAny (model prog w) A (genexprCode env pos qualname scope) Q E s := by
  have hok := C.code hP (tabForm_ok hf)
  rcases hf with rfl | ⟨c', rfl⟩
  · refine wpAny_genexprCodeX hc hok (C.tab hP) rfl fun c' h' tk hx hge hlt _ _ ht _ => ?_
    exact h _ h' tk _ hx (Nat.le_trans hge (Nat.le_of_lt hlt)) ht.2 (.inr ⟨c', by simp⟩)
  · refine wpAny_genexprCode_hit hc hok (c' := .ref c') (by simp [codeAmong, rawInt]) ?_
    exact h _ s.heap s.toks _ (fun b o _ e => e) (Nat.le_refl _) hP (.inr ⟨c', rfl⟩)

/-- A generator expression over a list or tuple that stood before the frame; its table lies in the ledger. -/
theorem genexp_tab {env : Env} {elt iter : Expr} {x : Str} {px : Pos} {scope : Scope} {cl : List (Str × Addr)} {pos : Pos} {Q : Value → Shared → Prop} {D : Addr} {vs : List Value} {Fv : Nat → Value → Prop}
    (F : Fr g L s.heap m) (N : News g L s.heap [(P, tabObj ps)]) (CH : CodeHd g c P) (T : Top p loose mean mg mb g) (hf : TabForm pos ps) (hG : AllBare s.gens)
    (hcode : env.code = .ref c) (hgl : env.globals = mainGlobals)
    (hh : A.handled = none) (hco : scope.isCoroutine = false) (hclos : closureFor scope env = pure cl) (hcell : ∀ y ∈ scope.names, y.2 ≠ .cell) (h0 : scope.names.lookup (".0" : Str) = some NameKind.local)
    (hx : scope.names.lookup x = some .local) (hkind : scope.kind = .function) (hroom : A.depth < recursionLimit)
    (hD : g.IsList D vs.toArray ∨ g.IsTuple D vs.toArray)
    (hit : ∀ Q' : Value → Shared → Prop, Q' (.ref D) s → wpAny (model prog w) A (eval iter env) Q' E s)
    (hel : ∀ (C : Addr) (code : Value) (A' : Around) E' i v (u : Shared) m₂, A'.handled = none → A'.depth ≤ A.depth + 1 → A'.units ≤ A.units + 8 → vs[i]? = some v → Fr g C u.heap m₂ → m₂ x = some v → L < C →
      wpAny (model prog w) A' (eval elt (genEnv scope cl C code builtinsNs env)) (fun y s₃ => Fv i y ∧ Keeps u s₃) E' u)
    (hQ : ∀ a oa C oC I oI h₅ tk gs ps', AllBare gs → Fr g L h₅ m → News g L h₅ [(a, oa), (C, oC), (I, oI), (P, tabObj ps')] → TabForm pos ps' → s.heap.objs.size ≤ I → I < C → C < a → (∀ b o, b ≠ P → s.heap.get? b = some o → h₅.get? b = some o) →
      GenReady prog w A g a oa C oC I oI vs.length Fv gs → Q (.ref a) { s with gens := gs, toks := tk, heap := h₅ })
    (hs : ∀ x, genFold iter env x = pure x) :
    wpAny (model prog w) A (eval (.GeneratorExp elt [⟨.Name x px, iter, [], 0⟩] scope pos) env) Q E s := by
  refine genexp_X hh hco hclos hcell h0 hx hkind hroom (hit _ ?_) hs
  have hP := (N _ (.head _)).1
  have hPg := (N _ (.head _)).2.2
  have hPlt : P < s.heap.objs.size := Heap.lt_size hP
  have hDlt : D < g.objs.size := by
    rcases hD with ⟨_, e, _⟩ | ⟨_, e, _⟩
    · exact Heap.lt_size e
    · exact Heap.lt_size e
  have hDg : ∃ o, g.get? D = some o := by
    rcases hD with ⟨_, e, _⟩ | ⟨_, e, _⟩
    · exact ⟨_, e⟩
    · exact ⟨_, e⟩
  have hgs : g.objs.size < s.heap.objs.size := Nat.lt_of_le_of_lt F.above F.ns.lt
  have hIfr : ∀ o, g.get? s.heap.objs.size = some o → False := fun o e => absurd (Heap.lt_size e) (Nat.not_lt.mpr (Nat.le_of_lt hgs))
  have hDI : D ≠ s.heap.objs.size := Nat.ne_of_lt (Nat.lt_trans hDlt hgs)
  obtain ⟨mc, hcs, hcn⟩ := id T.nolimit
  obtain ⟨ocs, _, _, ecs, _⟩ := id hcs
  have rest : ∀ (oI : Obj) (St₀ : Nat → Heap → Prop), (∀ A' : Around, A'.handled = none → Walks prog w A' s.heap.objs.size [s.heap.objs.size, D] [s.heap.objs.size] vs.toArray.size (fun i v => vs.toArray[i]? = some v) St₀) → St₀ 0 (s.heap.push oI) → oI.isFreed = false →
      (s.heap.push oI).NoLimit ∧
        wpAny (model prog w) A (genexprCode env pos (env.qual ++ "<genexpr>") scope) (fun code s₃ => wpAny (model prog w) A (builtinsFor env.globals env.builtins) (fun bi s₄ =>
          ∃ I fp wr n₀ P St₀ pz F, Value.ref s.heap.objs.size = .ref I ∧ (∀ A' : Around, A'.handled = none → Walks prog w A' I fp wr n₀ P St₀) ∧ St₀ 0 s₄.heap ∧ (∀ b ∈ fp, b < s₄.heap.objs.size) ∧ s₄.heap.NoLimit ∧ cStatics ∉ wr ∧ cStatics ∈ fp ∧
          (∀ href : Heap, (∀ b o, s₄.heap.get? b = some o → href.get? b = some o) →
            QuietGenD prog w (genEnv scope cl s₄.heap.objs.size code bi env) x [] elt fp wr P pz F href (A.depth + 1) (A.units + 8)) ∧
          (∀ a h₅ tk gs oa oC, gs.bare = true → s₄.heap.objs.size < a → h₅.objs.size = a + 1 → (∀ b o, s₄.heap.get? b = some o → h₅.get? b = some o) → h₅.get? a = some oa → h₅.get? s₄.heap.objs.size = some oC →
            WalksS prog w A.in4 a (a :: s₄.heap.objs.size :: fp) (s₄.heap.objs.size :: wr) (GenOnlyQ s₄.gens.size) (passing pz n₀ 0).length
              (fun j y => ∃ i, (passing pz n₀ 0)[j]? = some i ∧ F i y) (GenAt prog w A.in4 a s₄.gens.size s₄.heap.objs.size fp wr pz n₀ F) →
            GenAt prog w A.in4 a s₄.gens.size s₄.heap.objs.size fp wr pz n₀ F 0 { s₄ with gens := s₄.gens.push gs, toks := tk, heap := h₅ } →
            Q (.ref a) { s₄ with gens := s₄.gens.push gs, toks := tk, heap := h₅ })) E s₃) E { s with heap := s.heap.push oI } := by
    intro oI St₀ W₀ hst hfr
    have F₁ := F.push oI
    refine ⟨T.nolimit.keeps F₁.keep, genexprCode_tab (ps := ps) hcode (CH.keeps F₁.keep) (Heap.get?_push_of_some _ hP) hf fun code h₃ tk₃ ps' hx₃ hsz hP₃ hf' => ?_⟩
    rw [hgl]
    obtain ⟨bm, ob, b1, b2, b3, b4, b5, b6⟩ := T.bmain
    have up : ∀ b o, b ≠ P → s.heap.get? b = some o → h₃.get? b = some o := fun b o hb e => hx₃ b o hb (Heap.get?_push_of_some _ e)
    have upg : ∀ b o, g.get? b = some o → h₃.get? b = some o := fun b o e => up b o (fun q => by rw [q, hPg] at e; cases e) (F.keep b o e)
    refine wpAny_builtinsFor (T.g.keeps upg) b1 b2 (upg _ _ b3) b4 b5 b6 ?_
    have hsz' : s.heap.objs.size < h₃.objs.size := by
      have : (s.heap.push oI).objs.size ≤ h₃.objs.size := hsz
      rw [Heap.size_push] at this
      exact this
    have hI₃ : h₃.get? s.heap.objs.size = some oI := hx₃ _ _ (Nat.ne_of_gt hPlt) (Heap.get?_push_size _ hfr)
    have W₁ : ∀ A' : Around, A'.handled = none → Walks prog w A' s.heap.objs.size (s.heap.objs.size :: fpG g) [s.heap.objs.size] vs.toArray.size (fun i v => vs.toArray[i]? = some v) St₀ := fun A' hA => (W₀ A' hA).mono_fp fun b hb => by
      rcases List.mem_cons.mp hb with rfl | hb
      · exact .head _
      · rw [List.mem_singleton.mp hb]
        exact .tail _ (let ⟨_, e⟩ := hDg; mem_fpG e)
    refine ⟨s.heap.objs.size, s.heap.objs.size :: fpG g, [s.heap.objs.size], vs.toArray.size, _, St₀, (fun _ => true), Fv, rfl, W₁, ?_, ?_, T.nolimit.keeps upg, ?_, .tail _ (mem_fpG ecs), fun href hhref => ?_, ?_⟩
    · refine (W₀ A hh).frame _ _ _ hst fun b hb o e => hx₃ b o ?_ e
      rintro rfl
      rcases List.mem_cons.mp hb with q | hb
      · exact absurd hPlt (q ▸ Nat.lt_irrefl _)
      · obtain ⟨o, e⟩ := hDg
        rw [← List.mem_singleton.mp hb, hPg] at e
        cases e
    · intro b hb
      rcases List.mem_cons.mp hb with rfl | hb
      · exact hsz'
      · obtain ⟨o, e⟩ := of_fpG hb
        exact Heap.lt_size (upg b o e)
    · intro hm
      rw [List.mem_singleton.mp hm] at ecs
      exact hIfr _ ecs
    · have inB : ∀ (t : Shared) m₂, t.heap.Ns h₃.objs.size m₂ → (∀ b ∈ s.heap.objs.size :: fpG g, b ∉ [s.heap.objs.size] → ∀ o, href.get? b = some o → t.heap.get? b = some o) → Fr g h₃.objs.size t.heap m₂ := fun t m₂ hn hkp =>
        ⟨hn, fun b o e => hkp b (.tail _ (mem_fpG e)) (fun hm => by rw [List.mem_singleton.mp hm] at e; exact hIfr _ e) o (hhref b o (upg b o e)), Nat.le_of_lt (Nat.lt_trans hgs hsz')⟩
      have hLC : L < h₃.objs.size := Nat.lt_trans F.ns.lt hsz'
      refine ⟨fun A' E' i v t m₂ hA hD hU hP hn hm hkp => ?_, fun A' E' i v t m₂ hA hD hU hP _ hn hm hkp => ?_⟩
      · exact wpAny_pure ⟨rfl, ⟨_, _, rfl, fun _ _ e => e⟩⟩
      · exact hel _ code A' E' i v t m₂ hA hD hU (by simpa using hP) (inB t m₂ hn hkp) hm hLC
    · intro a h₅ tk gs oa oC hb hCa hsz₅ hk₅ ea eC W at0
      have ePs : h₅.get? P = some (tabObj ps') := hk₅ _ _ hP₃
      have hLP : P ≠ L := (N _ (.head _)).2.1
      have F₅ : Fr g L h₅ m := ⟨F.ns.at' fun o e => hk₅ _ _ (up _ _ (Ne.symm hLP) e), fun b o e => hk₅ _ _ (upg b o e), F.above⟩
      have fr : ∀ b, s.heap.objs.size ≤ b → b ≠ L ∧ g.get? b = none := fun b hb => ⟨Nat.ne_of_gt (Nat.lt_of_lt_of_le F.ns.lt hb), Heap.get?_none_of_le (Nat.le_trans (Nat.le_of_lt hgs) hb)⟩
      have hCsz : s.heap.objs.size ≤ h₃.objs.size := Nat.le_of_lt hsz'
      refine hQ a oa h₃.objs.size oC s.heap.objs.size oI h₅ tk _ ps' (hG.push hb) F₅ ?_ hf' (Nat.le_refl _) hsz' hCa (fun b o hbP e => hk₅ b o (up b o hbP e)) ?_
      · intro q hq
        rcases List.mem_cons.mp hq with rfl | hq
        · exact ⟨ea, (fr a (Nat.le_trans hCsz (Nat.le_of_lt hCa))).1, (fr a (Nat.le_trans hCsz (Nat.le_of_lt hCa))).2⟩
        · rcases List.mem_cons.mp hq with rfl | hq
          · exact ⟨eC, (fr _ hCsz).1, (fr _ hCsz).2⟩
          · rcases List.mem_cons.mp hq with rfl | hq
            · exact ⟨hk₅ _ _ hI₃, (fr _ (Nat.le_refl _)).1, (fr _ (Nat.le_refl _)).2⟩
            · rw [List.mem_singleton.mp hq]
              exact ⟨ePs, hLP, hPg⟩
      · refine ⟨_, _, walksS_imp W ?_ ?_, fun i s' st => st.1.typeIs, ?_⟩
        · rw [passing_all, List.length_range, List.size_toArray]
        · rintro j y ⟨i, hij, hF⟩
          rw [passing_all] at hij
          obtain ⟨hl, e⟩ := List.getElem?_eq_some_iff.mp hij
          rw [List.getElem_range] at e
          rw [e]; exact hF
        · intro s9 hgs9 ea9 eC9 eI9 hk9
          obtain ⟨⟨o1, nm, qn, ho1, r1⟩, hl1, gs1, hgs1, hgo1⟩ := at0
          refine ⟨⟨o1, nm, qn, ?_, r1⟩, T.nolimit.keeps hk9, gs1, by rw [hgs9]; exact hgs1, fun s'' hal => hgo1 s'' fun b hb o e => hal b hb o ?_⟩
          · have : o1 = oa := by
              have h2 : h₅.get? a = some o1 := ho1
              rw [ea] at h2
              exact (Option.some.inj h2).symm
            rw [this]; exact ea9
          · have e' : h₅.get? b = some o := e
            rcases List.mem_cons.mp hb with rfl | hb
            · rw [eC] at e'; cases e'; exact eC9
            · rcases List.mem_cons.mp hb with rfl | hb
              · rw [hk₅ _ _ hI₃] at e'; cases e'; exact eI9
              · obtain ⟨o0, e0⟩ := of_fpG hb
                rw [hk₅ _ _ (upg _ _ e0)] at e'
                cases e'
                exact hk9 _ _ e0
  rcases hD with hl | ht
  · exact wpAny_pyIter_list (isList_keeps hl F.keep) (rest _ _ (fun A' hA => Walks.list hA _ _ hDI vs.toArray) ⟨⟨_, Heap.get?_push_size _ rfl, rfl, rfl⟩, isList_keeps (isList_keeps hl F.keep) (fun _ _ e => Heap.get?_push_of_some _ e)⟩ rfl)
  · exact wpAny_pyIter_tuple (isTuple_keeps ht F.keep) (rest _ _ (fun A' hA => Walks.tuple hA _ _ hDI vs.toArray) ⟨⟨_, Heap.get?_push_size _ rfl, rfl, rfl⟩, isTuple_keeps (isTuple_keeps ht F.keep) (fun _ _ e => Heap.get?_push_of_some _ e)⟩ rfl)
section
variable {a C I : Addr} {oa oC oI : Obj} {n : Nat} {Fv : Nat → Value → Prop} {news : List (Addr × Obj)} {Q : Value → Shared → Prop}
/-- sep.join of a generator that stands ready. -/
theorem join_ready {sep : Str} {t : Tok} (F : Fr g L s.heap m) (N : News g L s.heap ((a, oa) :: (C, oC) :: (I, oI) :: news)) (hoff : ∀ q ∈ news, q.1 ≠ C ∧ q.1 ≠ I) (hG : AllBare s.gens) (R : GenReady prog w A g a oa C oC I oI n Fv s.gens)
    (tx : Nat → Str) (htx : ∀ j v, Fv j v → ∃ u, v = .str (tx j) u) (hok : JoinOk sep ((List.range n).map tx) = true)
    (hQ : ∀ h' gs tk t', Fr g L h' m → News g L h' news → AllBare gs → (∀ b o, b ≠ C → b ≠ I → s.heap.get? b = some o → h'.get? b = some o) → Q (.str (Txt.join sep ((List.range n).map tx)) t') { s with heap := h', gens := gs, toks := tk })
    (hsz : n ≤ sizeLine) : wpAny (model prog w) A (call (.builtin "str.join") [.str sep t, .ref a]) Q E s := by
  obtain ⟨gi, St, W, hT, h0⟩ := R
  have W := W.in4_2
  have ea := N _ (.head _)
  have eC := N _ (.tail _ (.head _))
  have eI := N _ (.tail _ (.tail _ (.head _)))
  have hst := h0 s rfl ea.1 eC.1 eI.1 F.keep
  have hfp : ∀ b ∈ a :: C :: I :: fpG g, b < s.heap.objs.size := by
    intro b hb
    rcases List.mem_cons.mp hb with rfl | hb
    · exact Heap.lt_size ea.1
    · rcases List.mem_cons.mp hb with rfl | hb
      · exact Heap.lt_size eC.1
      · rcases List.mem_cons.mp hb with rfl | hb
        · exact Heap.lt_size eI.1
        · obtain ⟨o, e⟩ := of_fpG hb
          exact Heap.lt_size (F.keep _ _ e)
  refine SC.joinGen W hT hst hfp (.head _) (fun j v hv => let ⟨u, e⟩ := htx j v hv; ⟨_, u, e⟩) (fun s' lt hm hacc => ?_) hsz
  have hl : lt.map (·.1) = (List.range n).map tx := by
    apply List.ext_getElem?
    intro j
    have hsz : lt.length = n := by simpa [strValues] using hacc.1
    by_cases hj : j < n
    · have hj' : j < lt.length := hsz ▸ hj
      obtain ⟨u, hv⟩ := htx j _ (hacc.2 j (.str lt[j].1 lt[j].2) (by simp [strValues, List.getElem?_eq_getElem hj']))
      injection hv with h1 _
      simp [List.getElem?_eq_getElem hj', hj, h1]
    · rw [List.getElem?_eq_none (by simpa [hsz] using Nat.le_of_not_lt hj), List.getElem?_eq_none (by simpa using Nat.le_of_not_lt hj)]
  rw [hl]
  refine ⟨hok, fun t' k => ?_⟩
  have keep : ∀ b o, b ≠ C → b ≠ I → s.heap.get? b = some o → s'.heap.get? b = some o := fun b o h1 h2 e => hm.heap b o (by simp [h1, h2]) e
  have hgC : ∀ b o, g.get? b = some o → b ≠ C ∧ b ≠ I := fun b o e => ⟨fun q => (by rw [q, eC.2.2] at e; cases e), fun q => (by rw [q, eI.2.2] at e; cases e)⟩
  have := hQ s'.heap s'.gens k t' ⟨F.ns.at' fun o e => keep _ _ (Ne.symm eC.2.1) (Ne.symm eI.2.1) e, fun b o e => keep _ _ (hgC b o e).1 (hgC b o e).2 (F.keep b o e), F.above⟩
    (fun q hq => ⟨keep _ _ (hoff q hq).1 (hoff q hq).2 (N q (.tail _ (.tail _ (.tail _ hq)))).1, (N q (.tail _ (.tail _ (.tail _ hq)))).2⟩) (hm.gens.bare hG) keep
  have e : { s' with toks := k } = { s with heap := s'.heap, gens := s'.gens, toks := k } := by
    obtain ⟨h1, h2, h3, h4, h5⟩ := s'
    have d1 : h3 = s.drawn := hm.drawn
    have d2 : h5 = s.os := hm.os
    rw [d1, d2]
  rw [e]
  exact this
end
end

end

section
open PySem PySem.W PyProof.Rows PySem.Calls PySem.Spec

/-- A row: a list or tuple whose first is an int or a text; x is the text of it. -/
def FirstTx (h : Heap) (v : Value) (x : Str) : Prop :=
  ∃ a items f, v = .ref a ∧ (h.IsList a items ∨ h.IsTuple a items) ∧ items[0]? = some f ∧ ((∃ n t, f = .int n t ∧ x = (toString n : Str) ∧ n.natAbs.log2 < 1920) ∨ ∃ t, f = .str x t)
theorem FirstTx.keeps {h h' : Heap} {v : Value} {x : Str} (r : FirstTx h v x) (k : ∀ b o, (∃ xs n, o.data = .seq xs n) → h.get? b = some o → h'.get? b = some o) : FirstTx h' v x := by
  obtain ⟨a, items, f, rfl, hl, r⟩ := r
  refine ⟨a, items, f, rfl, ?_, r⟩
  rcases hl with ⟨o, e, c, n, d⟩ | ⟨o, e, c, n, d⟩
  · exact .inl ⟨o, k _ _ ⟨_, _, d⟩ e, c, n, d⟩
  · exact .inr ⟨o, k _ _ ⟨_, _, d⟩ e, c, n, d⟩
section
variable {prog : Program} {w : World} {A : Around} {E : Value → Shared → Prop} {s : Shared} {g : Heap} {L : Addr} {m mg mb : Str → Option Value} {Q : Value → Shared → Prop}
theorem getItem_first {value slice : PySem.Expr} {a : Addr} {items : Array Value} {f : Value} {u : Tok} (F : Fr g L s.heap m) (hl : g.IsList a items ∨ g.IsTuple a items) (hf : items[0]? = some f) (h : Q f s)
    {ops : List Value} (hs : subscripted slice false (.ref a) (.int 0 u) = operate ops (getItem (.ref a) (.int 0 u))) :
    wpAny (model prog w) A (subscriptTail value slice (.ref a) (.int 0 u)) Q E s := by
  rcases hl with hl | ht
  · have hl := isList_keeps hl F.keep
    exact tail_any hl.typeIs slot_list_getitem.lookup (wpAny_getItem_list hl (by decide) (by decide) (by simpa using hf) h) hs
  · have ht' : IsTup s.heap a items := isTuple_keeps ht F.keep
    have hsz : 0 < items.size := by
      rcases Nat.eq_zero_or_pos items.size with h0 | h0
      · rw [Array.getElem?_eq_none (by omega)] at hf; cases hf
      · exact h0
    exact tail_any ht'.typeIs slot_tuple_getitem.lookup (getItem_tuple ht' (by decide) (by decide) (j := 0) (seqIndex_of (by decide) (by omega)) hf h) hs
theorem str_first {f : Value} {x : Str} (hf : (∃ n t, f = .int n t ∧ x = (toString n : Str) ∧ n.natAbs.log2 < 1920) ∨ ∃ t, f = .str x t) (h : ∀ t tk, Q (.str x t) { s with toks := tk }) : wpAny (model prog w) A (call (.type "str") [f]) Q E s := by
  rcases hf with ⟨n, t, rfl, rfl, hn⟩ | ⟨t, rfl⟩
  · exact P.str_of_int hn (h _ _)
  · exact P.str_of_str (h _ s.toks)
/-- str(tup[0]) in a generator's frame. -/
theorem elt_first {env : Env} (hgl : env.globals = mainGlobals) (hg : g.Ns mainGlobals mg) (hmiss : mg (Str.ofString "str") = none) (hb : g.Ns builtinsNs mb) (hv : mb (Str.ofString "str") = some (.type "str")) {p1 p2 p3 p4 p5 : Pos} {cl : List (Str × Addr)} {scope : Scope}
    (hk : scope.kind = .function) (h1 : scope.names.lookup (Str.ofString "str") = some .globalImplicit) (h2 : scope.names.lookup (Str.ofString "tup") = some .local)
    {C : Addr} {code v : Value} {u : Shared} {m₂ : Str → Option Value} {x : Str} (F : Fr g C u.heap m₂) (hm : m₂ (Str.ofString "tup") = some v) (hx : FirstTx g v x) :
      wpAny (model prog w) A (eval (.Call (.Name (Str.ofString "str") p1) [.Subscript (.Name (Str.ofString "tup") p2) (.Constant (.int 0) 0 p3) p4] [] p5) (genEnv scope cl C code builtinsNs env)) (fun y s₃ => (∃ t, y = .str x t) ∧ Keeps u s₃) E u := by
  obtain ⟨a, items, f, rfl, hl, hf, hfx⟩ := hx
  refine Call_ (Calls.Name_function_global hk h1 (Calls.loadGlobal_builtin (env := genEnv scope cl C code builtinsNs env) (mg := mg) (by show u.heap.Ns env.globals mg; rw [hgl]; exact hg.keeps F.keep) hmiss (hb.keeps F.keep) hv ?_) (by decide))
  refine Pv.callWith_type1 (spliced_more ?_)
  refine Subscript_ (wpAny_Name (wpAny_loadName_local hk h2 F.ns hm ?_) (by decide))
  refine wpAny_Constant_int ?_
  refine getItem_first (s := { u with toks := u.toks + 1 }) F hl hf ?_ (by with_unfolding_all rfl)
  refine spliced_none ?_
  refine str_first hfx fun t tk => ⟨⟨t, rfl⟩, _, _, rfl, fun _ _ e => e⟩
theorem len_base {D : Addr} {vs : List Value} {n : Nat} (F : Fr g L s.heap m) (hD : g.IsList D vs.toArray ∨ g.IsTuple D vs.toArray) (hl : vs.length = n) (hz : n ≤ 1000000) (h : ∀ t tk, Q (.int (n : Int) t) { s with toks := tk }) : wpAny (model prog w) A (call (.builtin "len") [.ref D]) Q E s := by
  rcases hD with hD | hD
  · refine len_list (isList_keeps hD F.keep) (by rw [List.size_toArray]; omega) ?_
    rw [List.size_toArray, hl]; exact h _ _
  · refine PyProof.Rows.len_tuple (isTuple_keeps hD F.keep) (by rw [List.size_toArray]; omega) ?_
    rw [List.size_toArray, hl]; exact h _ _
theorem join_len (sep : Str) (ts : List Str) {B : Nat} (h : (ts.map (·.length)).sum + ts.length * sep.length ≤ B) : (Txt.join sep ts).length ≤ B := by rw [show Txt.join sep ts = Str.join sep ts from StrLaws.glued_eq_join sep ts]; exact Nat.le_trans (StrLaws.join_length_le sep ts) h
theorem map_getD (ts : List Str) (d : Str) {n : Nat} (h : n = ts.length) : (List.range n).map (fun i => ts.getD i d) = ts := by
  subst h
  have := map_range ts d (fun x => x)
  simpa using this
end

end

section
open PySem PySem.W PyProof.Rows PySem.Calls PySem.Spec

/-- The law's end: True; what stood before it stands, but the tables of codes, which may have grown; the generators are bare. -/
def EndTrue (tabs : List (Addr × Addr)) (s₁ : Shared) (r : Result) (s' : Shared) : Prop :=
  r = .ok (.ret (.bool true)) ∧ (∀ b o, (ghostOf s₁.heap tabs).get? b = some o → s'.heap.get? b = some o) ∧ s'.os = s₁.os ∧ AllBare s'.gens ∧ GrownAll tabs s'.heap
theorem kn_postT {M : Model} {A : Around} {cd : Code} {s s₁ : Shared} {cw : ClaimW} {cl : Str → Option Addr} {mean : ExcName → Option Value} {args : List WData} {tabs : List (Addr × Addr)} (hT : TabsAt tabs s₁.heap) (hr : ∀ x, cw.raises args x = false) (hp : cw.post args (.bool true) args = true)
    (h : codeAny M A cd (EndTrue tabs s₁) s) : codeAny M A cd (GoodWG cw cl mean args s₁) s :=
  codeAny_mono h fun r s' ⟨hr1, hk, hos, hg, hgr⟩ => by
    have keep : ∀ b o, b ∉ tabs.map (·.2) → s₁.heap.get? b = some o → s'.heap.get? b = some o := fun b o hb e => hk b o (ghost_ne e hb)
    have grown : ∀ b o, b ∈ tabs.map (·.2) → s₁.heap.get? b = some o → isCodeTable s₁.heap b ∧ o = tabObj #[] ∧ ∃ ps, s'.heap.get? b = some (tabObj ps) := fun b o hb e => by
      obtain ⟨q, hq, rfl⟩ := List.mem_map.mp hb
      have e2 := (hT q hq).2
      rw [e] at e2
      exact ⟨((hT q hq).1.tab (hT q hq).2).isCodeTable, Option.some.inj e2, hgr.get q hq⟩
    refine ⟨.inl ⟨.bool true, .bool true, [], hr1, hr, ReadsW.bool _, hp, fun _ => ⟨List.nodup_nil, fun a ha => by cases ha⟩⟩, ⟨fun b o e => ?_, fun b o e => ?_⟩, hos, hg⟩
    · by_cases hb : b ∈ tabs.map (·.2)
      · obtain ⟨ht, rfl, ps, hP⟩ := grown b o hb e
        exact .inr (.inl ⟨ht, rfl, #[], ps, rfl, by rw [Array.empty_append]; exact hP⟩)
      · exact .inl (keep b o hb e)
    · by_cases hb : b ∈ tabs.map (·.2)
      · obtain ⟨_, _, ps, hP⟩ := grown b o hb e
        exact ⟨_, hP⟩
      · exact ⟨o, keep b o hb e⟩

end

section
open PySem PySem.W PyProof.Rows

structure WS where
  ca : Nat
  cv : List Value
  ep : Nat
  ci : List Int
  b : Int
  n : Int
  nt : Int
  tb : Tok
  tn : Tok
  tnt : Tok
def bump (ci : List Int) (b : Nat) : List Int :=
  let c := ci ++ List.replicate (b + 1 - ci.length) 0
  c.set b (c.getD b 0 + 1)
def scanStep (q : List Int × Nat × Nat × Nat) (k : Nat) : List Int × Nat × Nat × Nat :=
  if k = 32 then (q.1, q.2.1 + 1, q.2.2.1 + 1, q.2.2.2) else (bump q.1 q.2.1, 0, q.2.2.1 + 1, q.2.2.2 + 1)
def scan (l : List Nat) : List Int × Nat × Nat × Nat := l.foldl scanStep ([], 0, 0, 0)
def isSp (k : Nat) : Bool := k == 32 || k == 9
def WSat (pre : List Nat) (c : WS) : Prop := IntsAre c.cv c.ci ∧ c.ci = (scan pre).1 ∧ c.b = ((scan pre).2.1 : Int) ∧ c.n = ((scan pre).2.2.1 : Int) ∧ c.nt = ((scan pre).2.2.2 : Int)
theorem ofSp : Str.ofString " " = (⟨#[32]⟩ : Str) := by rfl
theorem ofTab : Str.ofString "\t" = (⟨#[9]⟩ : Str) := by rfl
theorem one_true {n k : Nat} {y : Str} (e : y = (⟨#[k]⟩ : Str)) (h : ((⟨#[n]⟩ : Str) == y) = true) : n = k := by
  have := eq_of_beq h
  rw [e] at this
  injection this with q
  simpa using q
theorem one_false {n k : Nat} {y : Str} (e : y = (⟨#[k]⟩ : Str)) (h : ((⟨#[n]⟩ : Str) == y) = false) : n ≠ k := by
  intro q
  subst q e
  simp at h
theorem rep_flat {k : Nat} {a : Int} : (List.replicate k [a]).flatten = List.replicate k a := by
  induction k with
  | zero => rfl
  | succ k ih => simp [List.replicate_succ, ih]
theorem scan_snoc (pre : List Nat) (n : Nat) : scan (pre ++ [n]) = scanStep (scan pre) n := by simp [scan]
theorem bump_length (ci : List Int) (b : Nat) : (bump ci b).length = max ci.length (b + 1) := by
  simp only [bump, List.length_set, List.length_append, List.length_replicate]
  omega
theorem bump_ge {ci : List Int} {b : Int} (h0 : 0 ≤ b) (h : (ci.length : Int) ≤ b) :
    (ci ++ (List.replicate (b - ↑ci.length + 1).toNat [(0 : Int)]).flatten).set b.toNat ((ci ++ (List.replicate (b - ↑ci.length + 1).toNat [(0 : Int)]).flatten).getD b.toNat 0 + 1) = bump ci b.toNat := by
  have e : (b - (ci.length : Int) + 1).toNat = b.toNat + 1 - ci.length := by omega
  rw [rep_flat, e]
  rfl
theorem bump_lt {ci : List Int} {b : Int} (h0 : 0 ≤ b) (h : ¬ (ci.length : Int) ≤ b) : ci.set b.toNat (ci.getD b.toNat 0 + 1) = bump ci b.toNat := by
  have e : b.toNat + 1 - ci.length = 0 := by
    by_cases h0 : 0 ≤ b <;> omega
  simp only [bump, e, List.replicate_zero, List.append_nil]
theorem takeWhile_stop {p : Nat → Bool} {pre post : List Nat} {n : Nat} (h : ∀ k ∈ pre, p k = true) (hn : p n = false) : (pre ++ n :: post).takeWhile p = pre := by
  induction pre with
  | nil => simp [hn]
  | cons a r ih => simp [h a (.head _), ih fun k hk => h k (.tail _ hk)]
theorem takeWhile_all {p : Nat → Bool} {l : List Nat} (h : ∀ k ∈ l, p k = true) : l.takeWhile p = l := by
  induction l with
  | nil => rfl
  | cons a r ih => simp [h a (.head _), ih fun k hk => h k (.tail _ hk)]
abbrev tupOf (vs : Array Value) : Obj := { cls := .type "tuple", data := .seq vs }
abbrev wsEnt (w : World) (ws : Str) (t : Tok) (n nt : Int) (tn tnt : Tok) (nr : Nat) (b : Bool) (k1 k2 k3 k4 k5 : Tok) : List DictEntry :=
  [⟨PyData.keyHash w.params (Str.ofString "raw"), .str (Str.ofString "raw") k1, .str ws t⟩, ⟨PyData.keyHash w.params (Str.ofString "n"), .str (Str.ofString "n") k2, .int n tn⟩, ⟨PyData.keyHash w.params (Str.ofString "nt"), .str (Str.ofString "nt") k3, .int nt tnt⟩,
   ⟨PyData.keyHash w.params (Str.ofString "norm"), .str (Str.ofString "norm") k4, .ref nr⟩, ⟨PyData.keyHash w.params (Str.ofString "is_simple"), .str (Str.ofString "is_simple") k5, .bool b⟩]
def wsOf (ws : Str) : List Int × Nat × Nat × Nat := scan (ws.cps.toList.takeWhile isSp)
theorem tuple_led {prog : Program} {w : World} {A : Around} {E : Value → Shared → Prop} {s : Shared} {h₀ : Heap} {L l : Addr} {m : Str → Option Value} {news : List (Addr × Obj)} {vs : List Value} {n : Nat} {Q : Value → Shared → Prop}
    (F : Fr h₀ L s.heap m) (N : News h₀ L s.heap news) (hm : (l, listOf vs.toArray n) ∈ news) (hz : vs.length ≤ 1000000)
    (h : ∀ D h', Fr h₀ L h' m → News h₀ L h' ((D, tupOf vs.toArray) :: news) → (∀ p ∈ news, p.1 < D) → Q (.ref D) { s with heap := h' }) :
    wpAny (model prog w) A (call (.type "tuple") [.ref l]) Q E s := by
  refine call_tuple_list (items := vs.toArray) ⟨_, N.get hm, rfl, n, rfl⟩ (fun h' hk => ?_) (by rw [List.size_toArray]; exact Nat.le_trans hz (by decide))
  have F' := fr_stays F hk
  have N' := news_stays N hk
  exact h _ _ (F'.push _) (N'.push F' _) fun p hp => Heap.lt_size (N' p hp).1

end

section
open PySem PySem.W PyProof.Rows

/-- The text of a number. -/
def numTx (n : Int) : Str := (toString n : Str)
def digTx (d : Int) : Str := ⟨#[48 + d.toNat]⟩
theorem str_ext' {a b : Str} (h : a.cps.toList = b.cps.toList) : a = b := by
  obtain ⟨a⟩ := a
  obtain ⟨b⟩ := b
  have : a = b := Array.ext' h
  rw [this]
theorem signs_num' (m : Nat) : (numTx (m : Int)).cps.toList = (Nat.toDigits 10 m).map Char.toNat := by
  unfold numTx
  show (Str.ofString (toString ((m : Nat) : Int))).cps.toList = _
  rw [PyProof.Rows.signs_ofString]
  show (Nat.repr m).toList.map Char.toNat = _
  rw [Nat.toList_repr]
theorem digitChar_code : ∀ d, d < 10 → (Nat.digitChar d).toNat = 48 + d := by decide
theorem numTx_small {n : Int} (h0 : 0 ≤ n) (h1 : n < 10) : numTx n = digTx n := by
  obtain ⟨m, rfl⟩ := Int.eq_ofNat_of_zero_le h0
  apply str_ext'
  rw [signs_num', Nat.toDigits_of_lt_base (by omega)]
  simp [digTx, digitChar_code m (by omega)]
theorem numTx_step {n : Int} (h : 10 ≤ n) : numTx n = numTx (n / 10) ++ digTx (n % 10) := by
  obtain ⟨m, rfl⟩ := Int.eq_ofNat_of_zero_le (by omega : 0 ≤ n)
  have e1 : ((m : Int) / 10) = ((m / 10 : Nat) : Int) := by omega
  have e2 : ((m : Int) % 10) = ((m % 10 : Nat) : Int) := by omega
  apply str_ext'
  rw [e1, e2, Str.cps_append, Array.toList_append, signs_num', signs_num', Nat.toDigits_of_base_le (by decide) (by omega), List.map_append]
  simp [digTx, digitChar_code (m % 10) (by omega)]; omega
theorem numTx_neg {n : Int} (h : 0 < n) : numTx (-n) = Str.ofString "-" ++ numTx n := by
  obtain ⟨m, rfl⟩ := Int.eq_ofNat_of_zero_le (by omega : 0 ≤ n)
  obtain ⟨k, rfl⟩ : ∃ k, m = k + 1 := ⟨m - 1, by omega⟩
  apply str_ext'
  rw [Str.cps_append, Array.toList_append]
  unfold numTx
  show (Str.ofString (toString (-((k + 1 : Nat) : Int)))).cps.toList = (Str.ofString "-").cps.toList ++ (Str.ofString (toString ((k + 1 : Nat) : Int))).cps.toList
  rw [PyProof.Rows.signs_ofString, PyProof.Rows.signs_ofString, PyProof.Rows.signs_ofString]
  show (("-" ++ (k + 1).repr : String)).toList.map Char.toNat = _
  rw [String.toList_append, List.map_append]
  rfl
theorem item_dig {i : Int} (h0 : 0 ≤ i) (h1 : i < 10) : Txt.item (Str.ofString "0123456789") i = digTx i := by
  have : i = 0 ∨ i = 1 ∨ i = 2 ∨ i = 3 ∨ i = 4 ∨ i = 5 ∨ i = 6 ∨ i = 7 ∨ i = 8 ∨ i = 9 := by omega
  rcases this with rfl | rfl | rfl | rfl | rfl | rfl | rfl | rfl | rfl | rfl <;> decide +kernel
theorem numTx_len (k : Nat) : ∀ {n : Int}, 0 ≤ n → n < 10 ^ (k + 1) → (numTx n).length ≤ k + 1 := by
  induction k with
  | zero =>
    intro n h0 h1
    rw [numTx_small h0 (by simpa using h1)]
    exact Nat.le_refl _
  | succ k ih =>
    intro n h0 h1
    by_cases h : n < 10
    · rw [numTx_small h0 h]
      show 1 ≤ _
      omega
    · rw [numTx_step (by omega), Str.length_append]
      have h2 : n / 10 < 10 ^ (k + 1) := by
        refine Int.ediv_lt_of_lt_mul (by decide) ?_
        rw [← Int.pow_succ]; exact h1
      have := ih (n := n / 10) (by omega) h2
      show (numTx (n / 10)).length + 1 ≤ _
      omega
/-- What a number's text is made of, from behind. -/
def restTx (v : Int) : Str := if v = 0 then ⟨#[]⟩ else numTx v
theorem rest_step {v : Int} (h : 0 < v) : restTx v = restTx (v / 10) ++ digTx (v % 10) := by
  unfold restTx
  rw [if_neg (by omega)]
  by_cases h1 : v < 10
  · rw [if_pos (by omega), numTx_small (by omega) h1, show v % 10 = v from by omega]
    apply str_ext'
    rw [Str.cps_append]
    simp
  · rw [if_neg (by omega), numTx_step (by omega)]
theorem rest_first {v : Int} (h : 0 ≤ v) : numTx v = restTx (v / 10) ++ digTx (v % 10) := by
  by_cases h0 : v = 0
  · subst h0
    rw [numTx_small (by decide) (by decide)]
    apply str_ext'
    rw [Str.cps_append]
    simp [restTx]
  · rw [← rest_step (by omega)]
    unfold restTx
    rw [if_neg h0]

end

section
open PySem PySem.W PyProof.Rows PySem.Calls PySem.Spec
open PySem.Sem (wp)

/-! A block of statements cut in two, with a word between. -/
section
variable {M : Model} {A : Around} {E : Value → Shared → Prop} {s : Shared} {env : Env} {Q : Flow → Shared → Prop}
theorem wp_execs_app {Γ : PySem.Ctx} {b : List Stmt} {Q : Flow → Pos → Shared → Prop} {E : Value → Pos → Shared → Prop} : ∀ (a : List Stmt) (p : Pos) (s : Shared),
    wp M Γ (execs a env) (fun f p' s' => match f with | .next => wp M Γ (execs b env) Q E p' s' | f => Q f p' s') E p s → wp M Γ (execs (a ++ b) env) Q E p s
  | [], _, _, h => h
  | st :: a, p, s, h => by
    rw [List.cons_append, execs_cons, Sem.wp_bind']
    rw [execs_cons, Sem.wp_bind'] at h
    refine Sem.wp_mono M Γ _ (fun f p' s' h' => ?_) (fun _ _ _ h' => h') _ _ h
    cases f with
    | next => exact wp_execs_app a p' s' h'
    | _ => exact h'
def CutEnd (Mid : Shared → Prop) (f : Flow) (s' : Shared) : Prop := f = .next ∧ Mid s'
theorem execs_cut (n : Nat) {l : List Stmt} (Mid : Shared → Prop) (h1 : wpAny M A (execs (l.take n) env) (CutEnd Mid) E s) (h2 : ∀ s', Mid s' → wpAny M A (execs (l.drop n) env) Q E s') : wpAny M A (execs l env) Q E s := by
  intro Γ p hΓ
  rw [← List.take_append_drop n l]
  refine wp_execs_app _ _ _ (Sem.wp_mono M Γ _ (fun f p' s' h' => ?_) (fun _ _ _ h' => h') _ _ (h1 Γ p hΓ))
  obtain ⟨rfl, h'⟩ := h'
  exact h2 s' h' Γ p' hΓ
end
theorem news_cons {h₀ h : Heap} {L : Addr} {news : List (Addr × Obj)} {p : Addr × Obj} (N : News h₀ L h news) (hp : p ∈ news) : News h₀ L h (p :: news) := fun q hq => (List.mem_cons.mp hq).elim (fun e => e ▸ N p hp) (N q)
theorem neN {a b : Nat} (h : a ≠ b) : a ≠ b := h
theorem ltN {a b : Nat} (h : a < b) : a < b := h
/-- A row of the ledger and the text of its first. -/
def RowIn (news : List (Addr × Obj)) (v : Value) (x : Str) : Prop :=
  ∃ (a : Addr) (items : Array Value) (f : Value), v = .ref a ∧ ((∃ n, (a, listOf items n) ∈ news) ∨ ∃ n, (a, ({ cls := .type "tuple", data := .seq items n } : Obj)) ∈ news) ∧ items[0]? = some f ∧ ((∃ n t, f = .int n t ∧ x = (toString n : Str) ∧ n.natAbs.log2 < 1920) ∨ ∃ t, f = .str x t)
theorem RowIn.mono {l l' : List (Addr × Obj)} {v : Value} {x : Str} (r : RowIn l v x) (h : ∀ p ∈ l, p ∈ l') : RowIn l' v x := by
  obtain ⟨a, items, f, e, hl, r⟩ := r
  refine ⟨a, items, f, e, ?_, r⟩
  rcases hl with ⟨n, hl⟩ | ⟨n, hl⟩
  · exact .inl ⟨n, h _ hl⟩
  · exact .inr ⟨n, h _ hl⟩
theorem RowIn.first {h₀ h : Heap} {L : Addr} {news : List (Addr × Obj)} {v : Value} {x : Str} (N : News h₀ L h news) (r : RowIn news v x) : FirstTx h v x := by
  obtain ⟨a, items, f, e, hl, r⟩ := r
  refine ⟨a, items, f, e, ?_, r⟩
  rcases hl with ⟨n, hl⟩ | ⟨n, hl⟩
  · exact .inl ⟨_, N.get hl, rfl, n, rfl⟩
  · exact .inr ⟨_, N.get hl, rfl, n, rfl⟩
def RowsIn (news : List (Addr × Obj)) (vs : List Value) (ts : List Str) : Prop := vs.length = ts.length ∧ ∀ i v, vs[i]? = some v → RowIn news v (ts.getD i ⟨#[]⟩)
theorem RowsIn.mono {l l' : List (Addr × Obj)} {vs : List Value} {ts : List Str} (r : RowsIn l vs ts) (h : ∀ p ∈ l, p ∈ l') : RowsIn l' vs ts := ⟨r.1, fun i v e => (r.2 i v e).mono h⟩
theorem RowsIn.snoc {l : List (Addr × Obj)} {vs : List Value} {ts : List Str} {v : Value} {x : Str} (r : RowsIn l vs ts) (q : RowIn l v x) : RowsIn l (vs ++ [v]) (ts ++ [x]) := by
  refine ⟨by simp [r.1], fun i w e => ?_⟩
  by_cases h : i < vs.length
  · rw [List.getElem?_append_left h] at e
    have := r.2 i w e
    rw [List.getD_eq_getElem?_getD, List.getElem?_append_left (by rw [← r.1]; exact h), ← List.getD_eq_getElem?_getD]
    exact this
  · rw [List.getElem?_append_right (by omega)] at e
    have h0 : i - vs.length = 0 := by
      rcases Nat.eq_zero_or_pos (i - vs.length) with h0 | h0
      · exact h0
      · rw [List.getElem?_eq_none (by simp; omega)] at e; cases e
    rw [h0] at e
    cases e
    rw [List.getD_eq_getElem?_getD, List.getElem?_append_right (by rw [← r.1]; omega), ← r.1, h0]
    exact q
theorem pickL_all {α : Type} (l : List α) : pickL l none none none = l := by
  have e : sliceBounds none none none l.length = sliceBounds (some 0) none none l.length := by
    unfold sliceBounds
    simp
    omega
  have h2 := pickL_from l (k := (0 : Int)) (by omega)
  unfold pickL at h2 ⊢
  rw [e, h2]
  simp
theorem datAll_snoc {l : List (Addr × Obj)} : ∀ {vs : List Value} {ds : List Dat} {v : Value} {d : Dat}, DatAll l vs ds → DatIn l v d → DatAll l (vs ++ [v]) (ds ++ [d])
  | _, _, _, _, .nil, q => .cons q .nil
  | _, _, _, _, .cons a b, q => .cons a (datAll_snoc b q)

end

section
open PySem PySem.W PyProof.Rows PySem.Calls PySem.Spec

/-! t[:] of a tuple is the tuple. -/
section
variable {prog : Program} {w : World} {A : Around} {E : Value → Shared → Prop} {s : Shared} {h₀ : Heap} {L : Addr} {m : Str → Option Value} {news : List (Addr × Obj)}
theorem adjust_all (n : Nat) : Builtin.Slice.sliceAdjust none none 1 (n : Int) = ((0 : Int), (n : Int)) := by
  unfold Builtin.Slice.sliceAdjust
  have h1 : ¬ ((1 : Int) < 0) := by omega
  simp only [h1, if_false]
theorem sliceApplied_all {sl : Addr} {n : Nat} {Q : Int × Int × Nat → Shared → Prop} (hs : s.heap.IsSliceOf sl .none .none .none) (h : Q ((0 : Int), 1, n) s) :
    wpAny (model prog w) A (Builtin.Slice.sliceApplied (.ref sl) (pure (n : Int))) Q E s := by
  obtain ⟨os, hos, hcs, hds⟩ := id hs
  unfold Builtin.Slice.sliceApplied Builtin.Slice.sliceFields
  refine wpAny_bind (wpAny_bind (wpAny_field hos hds (x := .none) rfl (wpAny_bind (wpAny_field hos hds (x := .none) rfl (wpAny_bind (wpAny_field hos hds (x := .none) rfl (wpAny_pure ?_)))))))
  refine wpAny_bind (slicePart_none ?_)
  show wpAny _ _ (if ((1 : Int) == 0) = true then _ else _) _ _ s
  rw [if_neg (by decide)]
  refine wpAny_bind (slicePart_none (wpAny_bind (slicePart_none (wpAny_bind (wpAny_pure ?_)))))
  show wpAny _ _ (match Builtin.Slice.sliceAdjust none none 1 (n : Int) with | (lo, hi) => pure (lo, (1 : Int), Builtin.Slice.slicePlaces lo hi 1)) _ _ s
  rw [adjust_all n]
  show wpAny _ _ (pure ((0 : Int), (1 : Int), Builtin.Slice.slicePlaces (0 : Int) (n : Int) 1)) _ _ s
  rw [places_to n]
  exact wpAny_pure h
theorem getItem_tuple_all {t sl : Addr} {items : Array Value} {Q : Value → Shared → Prop} (ht : IsTup s.heap t items) (hs : s.heap.IsSliceOf sl .none .none .none) (h : Q (.ref t) s) : wpAny (model prog w) A (getItem (.ref t) (.ref sl)) Q E s := by
  obtain ⟨os, hos, hcs, hds⟩ := id hs
  have hTs : s.TypeIs (.ref sl) "slice" := ⟨os, hos, hcs⟩
  unfold getItem
  try with_reducible refine wpAny_holding ?_
  first | refine wpAny_bind (wpAny_pure ?_) | skip
  refine wpAny_bind (wpAny_sequenceKey ht.typeIs (by decide) ?_)
  refine wpAny_bind (wpAny_callSpecial?_slot (name := Str.ofString "__getitem__") ht.typeIs slot_tuple_getitem
    (wpAny_call_entry slot_tuple_getitem ht.typeIs entry_tuple_getitem ?_ (args_tuple_getitem _ _)))
  show wpAny _ _ (Builtin.Tuple.tupleItemsOf (.ref t) >>= _) _ _ s
  refine wpAny_bind (tupleItemsOf_ ht ?_)
  refine wpAny_bind (wpAny_typeOf hTs ?_)
  rw [if_pos (by decide)]
  refine wpAny_bind (sliceApplied_all hs ?_)
  have hyes : ((0 : Int) == 0 && (1 : Int) == 1 && items.size == items.size) = true := by simp
  show wpAny _ _ (if ((0 : Int) == 0 && (1 : Int) == 1 && items.size == items.size) = true then _ else _) _ _ s
  rw [if_pos hyes]
  refine wpAny_bind (m := Builtin.Tuple.tupleIsExact (.ref t)) (wpAny_bind (wpAny_typeOf ht.typeIs (wpAny_pure ?_)))
  rw [if_pos (by decide)]
  refine wpAny_bind (wpAny_rule ?_)
  first
    | exact wpAny_pure ⟨_, rfl, wpAny_pure h⟩
    | exact wpAny_bind (wpAny_pure (wpAny_pure ⟨_, rfl, wpAny_pure h⟩))
theorem whole_led {value slice : PySem.Expr} {t : Addr} {vs : List Value} {n : Nat} {Q : Value → Shared → Prop} (Fm : Fr h₀ L s.heap m) (N : News h₀ L s.heap news) (hm : (t, ({ cls := .type "tuple", data := .seq vs.toArray n } : Obj)) ∈ news)
    (h : ∀ h', Fr h₀ L h' m → News h₀ L h' news → Q (.ref t) { s with heap := h' })
    {ops : List Value} (hs : subscripted slice false (.ref t) (.ref s.heap.objs.size) = operate ops (getItem (.ref t) (.ref s.heap.objs.size))) :
    wpAny (model prog w) A (subscriptTail value slice (.ref t) (.ref s.heap.objs.size)) Q E { s with heap := s.heap.push { cls := .type "slice", data := .fields #[.none, .none, .none] } } := by
  have F' := Fm.push ({ cls := .type "slice", data := .fields #[.none, .none, .none] } : Obj)
  have N' := led_push N ({ cls := .type "slice", data := .fields #[.none, .none, .none] } : Obj)
  have ht : IsTup (s.heap.push ({ cls := .type "slice", data := .fields #[.none, .none, .none] } : Obj)) t vs.toArray := ⟨_, N'.get hm, rfl, n, rfl⟩
  exact tail_any (T := "tuple") ht.typeIs slot_tuple_getitem.lookup (getItem_tuple_all ht ⟨_, Heap.get?_push_size _ rfl, rfl, rfl⟩ (h _ F' N')) hs
/-- l[:] of a list of the ledger. -/
theorem copy_led {value slice : PySem.Expr} {l : Addr} {vs : List Value} {n : Nat} {ops : List Value} {Q : Value → Shared → Prop} (F : Fr h₀ L s.heap m) (N : News h₀ L s.heap news) (hm : (l, W.listOf vs.toArray n) ∈ news) (hz : vs.length ≤ 1000000)
    (h : ∀ D h', Fr h₀ L h' m → News h₀ L h' ((D, W.listOf vs.toArray 0) :: news) → (∀ p ∈ news, p.1 < D) → Q (.ref D) { s with heap := h' })
    (hs : subscripted slice false (.ref l) (.ref s.heap.objs.size) = operate ops (getItem (.ref l) (.ref s.heap.objs.size)))
    (ht : ∀ r, letTemporaryGo value (.ref l) r = pure ()) :
    wpAny (model prog w) A (subscriptTail value slice (.ref l) (.ref s.heap.objs.size)) Q E { s with heap := s.heap.push { cls := .type "slice", data := .fields #[.none, .none, .none] } } := by
  refine slice_led F N hm .none .none .none (by simp) hz (fun D h' F' N' l1 => ?_) hs ht
  rw [pickL_all] at N'
  exact h D h' F' N' l1
theorem append_led {D : Addr} {vs : List Value} {n : Nat} {x : Value} {news' : List (Addr × Obj)} {Q : Value → Shared → Prop} (F : Fr h₀ L s.heap m) (N : News h₀ L s.heap news) (U : Upd D (W.listOf vs.toArray n) (W.listOf (vs ++ [x]).toArray (n + 1)) news news') (hz : vs.length ≤ 1000000)
    (h : ∀ h', Fr h₀ L h' m → News h₀ L h' news' → Q .none { s with heap := h' }) : wpAny (model prog w) A (call (.builtin "list.append") [.ref D, x]) Q E s := by
  refine append_K (its := vs.toArray) (n := n) (news' := news') F N ?_ h (by rw [List.size_toArray, PySem.sizeLine_eq]; omega)
  rw [List.push_toArray]
  exact U
end

end

section
open PySem PySem.W PyProof.Rows


local macro_rules | `(tactic| walk_at "GO") => `(tactic| repeat' ((fail_if_success (with_reducible show wpAny _ _ (pyIter _) _ _ _)); (fail_if_success (with_reducible show wpAny _ _ (compareOp CmpOp.NotEq (Value.ref _) (Value.ref _)) _ _ _)); (fail_if_success (with_reducible show wpAny _ _ (compareOp CmpOp.Eq (Value.ref _) (Value.ref _)) _ _ _)); (fail_if_success (with_reducible show wpAny _ _ (exec (Stmt.While _ _ _ _) _) _ _ _)); (fail_if_success (with_reducible show LCg.CompSrc _ _ _ _ _ _ _ _ _ _ _ _ _ _)); first | (k_unfold; (try dsimp only)) | (k_end; wrow_close) | walk1 | (dsimp only; walk1) | (leave1; walk_say "STEP leave1"; try dsimp only) | fail "no step"))
local macro_rules | `(tactic| walk_at "DAT") => `(tactic| first | exact DatIn.int _ _ | exact DatIn.bool _ | exact DatIn.str _ _ | (refine' DatIn.tuple ?m9 ?r9; (case m9 => k_mem); (case r9 => walk_at "DATS")) | (refine' DatIn.list ?m9 ?r9; (case m9 => k_mem); (case r9 => walk_at "DATS")))
local macro_rules | `(tactic| walk_at "DATS") => `(tactic| first | exact DatAll.nil | exact datAll_ints (by assumption) | (refine' DatAll.cons ?x9 ?y9; (case x9 => walk_at "DAT"); (case y9 => walk_at "DATS")))
local macro_rules | `(tactic| walk_at "ITER") => `(tactic| (k_here; (rename Fr _ _ _ _ => lF'); (with_unfolding_all refine' For_invVF lF' ?k1 ?k2 ?_; (case k1 => exact rfl); (case k2 => exact rfl); k_whole)))
local macro_rules | `(tactic| walk_at "exec For Name Subscript cons nil") => `(tactic| walk_at "ITER")
local macro_rules | `(tactic| walk_at "exec For Name BinOp cons nil") => `(tactic| walk_at "ITER")
local macro_rules | `(tactic| walk_at "exec For Name List cons nil") => `(tactic| walk_at "ITER")
local macro_rules | `(tactic| walk_at "exec For Name Call cons nil") => `(tactic| walk_at "ITER")
local macro_rules | `(tactic| walk_at "exec For Name Name cons nil") => `(tactic| walk_at "ITER")
local macro_rules | `(tactic| walk_at "subscriptTail Attribute Name Constant ref int") => `(tactic| (k_here; (with_reducible show wpAny _ _ (subscriptTail _ _ (Value.ref _) (Value.int _ _)) _ _ _); k_dflt (refine' item_tupLed (n := _) ?N ?hm ?lo ?hi ?hj ?hx ?_ ?hs; (case N => k_asm); (case hm => k_mem); (case lo => decide); (case hi => decide); (case hj => exact rfl); (case hx => exact rfl); (case hs => with_unfolding_all rfl); k_whole)))
local macro_rules | `(tactic| walk_at "subscriptTail Name UnaryOp ref int") => `(tactic| (k_here; (with_reducible show wpAny _ _ (subscriptTail _ _ (Value.ref _) (Value.int _ _)) _ _ _); k_dflt (refine' item_lastI (n := _) ?N ?hm ?hi ?hk ?hne ?_ ?hs; (case N => k_asm); (case hm => k_mem); (case hi => assumption); (case hk => rfl); (case hne => assumption); (case hs => with_unfolding_all rfl); k_whole); intro _))
local macro_rules | `(tactic| walk_at "call type:list") => `(tactic| (k_here; (with_reducible show wpAny _ _ (call (Value.type _) [Value.ref _]) _ _ _); k_dflt (refine' list_of_tup (n := _) ?F ?N ?hm ?hz ?_; (case F => k_asm); (case N => k_asm); (case hm => k_mem); (case hz => ((have hq9 := IntsAre.length (by assumption)); omega)); k_whole); intro D' e' h' F' N' l1; (try k_lt l1); (try k_sweep)))
local macro_rules | `(tactic| walk_at "LB") => `(tactic| first | assumption | (with_reducible refine' app_len ?x9 ?y9; (case x9 => walk_at "LB"); (case y9 => walk_at "LB")) | exact (tab_len (B := 64) (by decide)) | (refine (?_ : _ ≤ 64); exact Nat.le_of_ble_eq_true rfl))
local macro_rules | `(tactic| walk_at "LEN") => `(tactic| first | omega | decide | exact Nat.le_trans (tab_len (B := 64) (by decide)) (by decide) | ((refine' len_le ?p9 ?q9); (case p9 => walk_at "LB"); (case q9 => first | decide | omega)))
local macro_rules | `(tactic| walk_at "binaryOp Add str str") => `(tactic| (k_here; (with_reducible show wpAny _ _ (binaryOp Operator.Add (Value.str _ _) (Value.str _ _)) _ _ _); (refine add_str ?_ (add_fits ?h1 ?h2)); (case h1 => walk_at "LEN"); (case h2 => walk_at "LEN"); intro _ _))
local macro_rules | `(tactic| walk_at "call type:tuple") => `(tactic| (k_here; (with_reducible show wpAny _ _ (call (Value.type _) [Value.ref _]) _ _ _); k_dflt (refine' tuple_led ?k1 ?k2 ?k3 ?k4 ?_; (case k1 => k_asm); (case k2 => k_asm); (case k3 => k_mem); (case k4 => first | (refine' Nat.le_trans (Nat.le_of_eq (IntsAre.length ?hi9)) ?lq9; (case hi9 => assumption); (case lq9 => ((try simp only [List.length_set, List.length_append, List.length_cons, List.length_nil, List.length_map, List.length_range]); omega))) | ((simp only [List.length_cons, List.length_nil, List.length_set]); omega)); k_whole); intro D' h' F' N' l1; (try k_lt l1); (try k_sweep)))
local macro_rules | `(tactic| walk_at "eval ListComp") => `(tactic| (k_here; k_dflt (refine LCg.ListComp_U (F₀ := by k_asm) (by with_unfolding_all rfl) (by decide) (by rfl) (by decide) (by rfl) ?_)))
local macro_rules | `(tactic| walk_at "exec Assign cons ListComp") => `(tactic| (k_here; k_dflt (refine LCg.Assign_ListComp_U (F₀ := by k_asm) (by rfl) (by with_unfolding_all rfl) (by with_unfolding_all rfl) (by decide) (by rfl) (by decide) (by rfl) (by rfl) (by rfl) ?_)))
local macro_rules | `(tactic| walk_at "call builtin:str.split") => `(tactic| (k_here; (with_reducible show wpAny _ _ (call (Value.builtin "str.split") [Value.str _ _, Value.str _ _]) _ _ _); k_dflt (refine' KSpl.split1 ?kF ?kN ?ky ?_ ?ks; (case kF => k_asm); (case kN => k_asm); (case ky => decide); (case ks => (rw [PySem.sizeLine_eq]; (first | omega | (refine Nat.le_trans (Nat.add_le_add_right (PySem.Txt.slice_le _ _ _) 2) ?_; omega)))); k_whole); intro D' l' h' k' e' a' F' N' l1; (try k_lt l1); (try k_sweep)))
local macro_rules | `(tactic| walk_at "INTS") => `(tactic| first | assumption | exact IntsAre.nil | (refine' IntsAre.cons _ _ ?i9; walk_at "INTS"))
local macro_rules | `(tactic| walk_at "ILEN") => `(tactic| ((try simp only [List.length_append, List.length_cons, List.length_nil, List.length_map, List.length_range, List.length_set, List.length_replicate]); omega))
local macro_rules | `(tactic| walk_at "binaryOp Add ref ref") => `(tactic| (k_here; (with_reducible show wpAny _ _ (binaryOp Operator.Add (Value.ref _) (Value.ref _)) _ _ _); k_dflt (refine' addI_led ?F ?N ?a ?b ?i ?j ?z ?_; (case F => k_asm); (case N => k_asm); (case a => k_mem); (case b => k_mem); (case i => walk_at "INTS"); (case j => walk_at "INTS"); (case z => walk_at "ILEN"); k_whole); intro D' h' F' N' l1 hI'; (try k_lt l1); (try k_sweep)))
local macro_rules | `(tactic| walk_at "call builtin:max") => `(tactic| (k_here; (with_reducible show wpAny _ _ (call (Value.builtin "max") [Value.ref _]) _ _ _); k_dflt (refine' maxI_led ?hh ?F ?N ?a ?i ?z ?_; (case hh => exact rfl); (case F => k_asm); (case N => k_asm); (case a => k_mem); (case i => walk_at "INTS"); (case z => simp); k_whole); intro h' M' t' tk' F' N' hM' hU'; (try k_sweep)))
local macro_rules | `(tactic| walk_at "call builtin:list.count") => `(tactic| (k_here; (with_reducible show wpAny _ _ (call (Value.builtin "list.count") [Value.ref _, Value.int _ _]) _ _ _); k_dflt (refine' countI_led ?N ?a ?i ?_; (case N => k_asm); (case a => k_mem); (case i => walk_at "INTS"); k_whole); intro _ _))
local macro_rules | `(tactic| walk_at "binaryOp Mult str int") => `(tactic| (k_here; (with_reducible show wpAny _ _ (binaryOp Operator.Mult (Value.str _ _) (Value.int _ _)) _ _ _); k_dflt (refine' mul_led ?h1 ?h2 ?h3 ?_; (case h1 => first | decide | omega | ((refine' len_le ?p9 ?q9); (case p9 => walk_at "LB"); (case q9 => first | decide | omega))); (case h2 => ((try k_fmods); omega)); (case h3 => ((try k_fmods); omega)); k_whole); intro _ _))
local macro_rules | `(tactic| walk_at "call builtin:str.join") => `(tactic| (k_here; (with_reducible show wpAny _ _ (call (Value.builtin "str.join") [Value.str _ _, Value.ref _]) _ _ _); k_dflt (refine' join_led ?N ?a ?i ?z ?_; (case N => k_asm); (case a => k_mem); (case i => assumption); (case z => assumption); k_whole); intro _ _))
local macro_rules | `(tactic| walk_at "IDX") => `(tactic| first | omega | ((simp only [List.length_append, List.length_cons, List.length_nil, List.length_map, List.length_range, List.length_set, List.length_replicate]); omega))
local macro_rules | `(tactic| walk_at "SUBI") => `(tactic| (k_here; (with_reducible show wpAny _ _ (subscriptTail _ _ (Value.ref _) (Value.int _ _)) _ _ _); k_dflt (refine' ksa_sub ?k1 ?k2 ?k3 ?k4 ?k5 ?k6 ?_ ?k7; (case k1 => k_asm); (case k2 => k_mem); (case k3 => with_reducible assumption); (case k4 => walk_at "IDX"); (case k5 => walk_at "IDX"); (case k6 => walk_at "IDX"); (case k7 => with_unfolding_all rfl); k_whole); intro _))
local macro_rules | `(tactic| walk_at "subscriptTail Name Name ref int") => `(tactic| walk_at "SUBI")
local macro_rules | `(tactic| walk_at "subscriptTail Name BinOp ref int") => `(tactic| walk_at "SUBI")
local macro_rules | `(tactic| walk_at "getItem ref int") => `(tactic| (k_here; (with_reducible show wpAny _ _ (getItem (Value.ref _) (Value.int _ _)) _ _ _); k_dflt (refine' ksa_get ?k1 ?k2 ?k3 ?k4 ?k5 ?k6 ?_; (case k1 => k_asm); (case k2 => k_mem); (case k3 => with_reducible assumption); (case k4 => walk_at "IDX"); (case k5 => walk_at "IDX"); (case k6 => walk_at "IDX"); k_whole); intro _))
local macro_rules | `(tactic| walk_at "setItem ref int") => `(tactic| (k_here; (with_reducible show wpAny _ _ (setItem (Value.ref _) (Value.int _ _) (Value.int _ _)) _ _ _); k_dflt (refine' ksa_set ?k1 ?k2 ?k3 ?k4 ?k5 ?k6 ?k7 ?_; (case k1 => k_asm); (case k2 => k_asm); (case k3 => k_upd); (case k4 => with_reducible assumption); (case k5 => walk_at "IDX"); (case k6 => walk_at "IDX"); (case k7 => walk_at "IDX"); k_whole); intro h' F' N' hi' hl' hs'; clear hs'; (try k_sweep)))
local macro_rules | `(tactic| walk_at "DATE") => `(tactic| first | (with_reducible exact DatIn.int _ _) | exact datInt (by assumption) | exact datInt (by decide) | (refine' DatIn.tuple ?m9 ?r9; (case m9 => k_mem); (case r9 => walk_at "DATES")))
local macro_rules | `(tactic| walk_at "DATES") => `(tactic| first | exact DatAll.nil | exact datInts (by assumption) (by assumption) | exact datAll_ints (by assumption) | (refine' DatAll.cons ?x9 ?y9; (case x9 => walk_at "DATE"); (case y9 => walk_at "DATES")))
local macro_rules | `(tactic| walk_at "subscriptTail Name Slice ref ref") => `(tactic| (k_here; (with_reducible show wpAny _ _ (subscriptTail _ _ (Value.ref _) (Value.ref _)) _ _ _); k_dflt (refine' slice_ledI ?F ?N ?hm ?hi ?pl ?pu ?pk ?h0 ?hz ?_ ?hs ?ht; (case F => k_asm); (case N => k_asm); (case hm => k_mem); (case hi => assumption); (case pl => first | exact IsPart.none | exact IsPart.int _ _); (case pu => first | exact IsPart.none | exact IsPart.int _ _); (case pk => first | exact IsPart.none | exact IsPart.int _ _); (case h0 => simp); (case hz => walk_at "ILEN"); (case hs => with_unfolding_all rfl); (case ht => (intro _; with_unfolding_all rfl)); k_whole); intro D' us' h' F' N' l1 hI'; (try k_lt l1); (try k_sweep); (first | rw [pickL_to _ (by omega)] at hI' | rw [pickL_from _ (by omega)] at hI' | rw [pickL_rev] at hI' | rw [pickL_odds] at hI' | rw [pickL_evens] at hI' | skip)))
def fwTx (ts : List Str) : Str := (if 1 < ts.length then (Str.ofString "at tab size" ++ Str.ofString "s") else Str.ofString "at tab size") ++ Str.ofString " " ++ Txt.join (Str.ofString ", ") ts
local macro_rules | `(tactic| walk_at "call builtin:len") => `(tactic| (k_here; (with_reducible show wpAny _ _ (call (Value.builtin "len") [Value.ref _]) _ _ _); k_dflt (refine' len_base ?F ?t ?i ?z ?_; (case F => k_asm); (case t => assumption); (case i => assumption); (case z => omega); k_whole); intro _ _))
local macro_rules | `(tactic| walk_at "call builtin:str.join") => `(tactic| (k_here; dsimp only [List.cons_append, List.nil_append]; (with_reducible show wpAny _ _ (call (Value.builtin "str.join") [Value.str _ _, Value.ref _]) _ _ _); k_dflt (refine' join_ready ?F ?N ?o ?G ?R _ ?h1 ?h2 ?_ ?h3; (case F => k_asm); (case N => k_asm); (case G => assumption); (case R => assumption); (case o => assumption); (case h2 => assumption); (case h1 => exact fun _ _ h => h); (case h3 => assumption); k_whole); intro h' gs' tk' t' F' N' hG' hk'))
theorem fw01 (w : World) (mean : ExcName → Option Value) (mg mb : Str → Option Value) :
  ∀ (dp un : Nat) (gd : Option (List Code)) (cn : Str) (cs : Scope) (a : Addr) (ccd : Value) (cl : List (Str × Addr)) (outer : List Env) (A₀ : Around) (base h₀ : Heap) (L : Addr) (m : Str → Option Value) (s : Shared) (D : Addr) (ps : Array Value) (vs : List Value) (ts : List Str)
    (Q E : Value → Shared → Prop),
    Below A₀ base outer h₀ → Fr h₀ L s.heap m → (hd01.heap_39 w.params).In h₀ → News h₀ L s.heap [(16, tabObj ps)] → Top topProg (looseW hd01.view_39 [] ++ (recsOf hd01.view_39).map (·.name) ++ (litsOf hd01.view_39).map (·.1) ++ (clssOf hd01.view_39 (looseW hd01.view_39 [])).map (·.name)) mean mg mb h₀ → cs.kind = .function → CodeHd h₀ 20 16 →
    TabForm ⟨3, 13, 3, 39⟩ ps → AllBare s.gens → (s.heap.IsList D vs.toArray ∨ s.heap.IsTuple D vs.toArray) → vs.length = ts.length → (∀ i v, vs[i]? = some v → FirstTx s.heap v (ts.getD i ⟨#[]⟩)) → ts.length ≤ 1000 → (ts.map (·.length)).sum ≤ 100000 → dp + 10 < recursionLimit → un + 80 < cLine →
    (∀ h' gs tk ps' t, Fr h₀ L h' m → News h₀ L h' [(16, tabObj ps')] → TabForm ⟨3, 13, 3, 39⟩ ps' → AllBare gs → (∀ b o, b ≠ 16 → s.heap.get? b = some o → h'.get? b = some o) → Q (.str (fwTx ts) t) { s with heap := h', gens := gs, toks := tk }) →
    wpAny (model Challenge.rw_dn0186_01.row.prog w) (ktrTop dp un gd cn cs L a ccd cl outer) (call (.ref 21) [.ref D]) Q E s := by
  k_fill
  intro dp un gd cn cs a ccd cl outer A₀ base h₀ L m s D ps vs ts Q E B F X N T hk CH hf hG hD hlen hrow htl hts hd hu hret
  refine wpAny_call ?_
  k_dflt (refine' code_defH ?k1 ?k2 ?k3 ?k4 ?k5 ?kA ?kF ?kK ?k6 ?k7 ?k8 ?k9 ?kB ?_ ?c2 ?c3 ?c4 ?c5; (case kA => exact rfl); (case kF => exact rfl); (case kK => assumption); (case k1 => k_asm); (case k2 => k_asm); (case k3 => k_asm); (case k4 => k_asm); (case k5 => k_asm); (case k6 => k_is); (case k7 => k_is); (case k8 => ktr_room); (case k9 => exact BindsTo.of_eq rfl); (case c5 => decide); (case kB => exact locs rfl); (case c2 => exact rfl); (case c3 => exact rfl); (case c4 => exact rfl); k_whole)
  intro g L' h' stG hszL FG' F' N' B' X' T'
  have hP := (N _ (.head _)).1
  have kg : ∀ b o, (∃ xs n, o.data = .seq xs n) → s.heap.get? b = some o → g.get? b = some o := fun b o ⟨xs, n, hx⟩ e => stG b o e fun q => by
    rw [List.map_cons, List.map_nil, List.mem_singleton] at q
    subst q
    rw [hP] at e
    cases e
    cases hx
  have hDg : g.IsList D vs.toArray ∨ g.IsTuple D vs.toArray := by
    rcases hD with ⟨o, e, c, n, d⟩ | ⟨o, e, c, n, d⟩
    · exact .inl ⟨o, kg _ _ ⟨_, _, d⟩ e, c, n, d⟩
    · exact .inr ⟨o, kg _ _ ⟨_, _, d⟩ e, c, n, d⟩
  (try dsimp only)
  (try k_fold)
  w_on
  walk_at "GO"
  refine genexp_tab (D := D) (vs := vs) (c := 20) (cl := []) (Fv := fun i y => ∃ t, y = .str (ts.getD i ⟨#[]⟩) t) F' N' (CH.keeps FG'.keep) T' hf hG rfl rfl rfl rfl (by with_unfolding_all rfl) (by decide) rfl rfl rfl (by ktr_room) hDg ?hit ?hel ?hQ (by intro _; rfl)
  case hit =>
    intro Q' hq
    refine ld F' rfl hq
  case hel =>
    intro C code A' E' i v u m₂ hA hD hU hi hF hm hLC
    exact elt_first rfl T'.g (mg_none_of X' T'.g (by kernel_rfl)) T'.b ((T'.builtins _ (by decide)).trans (by boot_fact)) rfl rfl rfl hF hm ((hrow i v hi).keeps kg)
  case hQ =>
    intro a9 oa C9 oC I9 oI h₅ tk5 gs5 ps5 hG5 F5 N5 hf5 l1 l2 l3 hk5 R5
    have hjl : (Txt.join (Str.ofString ", ") ts).length ≤ 102000 := join_len _ _ (by have : (Str.ofString ", ").length = 2 := by decide
                                                                                     rw [this]; omega)
    have hmp : (List.range vs.length).map (fun i => ts.getD i ⟨#[]⟩) = ts := map_getD ts _ hlen
    have hjo : JoinOk (Str.ofString ", ") ((List.range vs.length).map fun i => ts.getD i ⟨#[]⟩) = true := by
      rw [hmp]
      refine joinOk_of ?_
      have : (Str.ofString ", ").length = 2 := by decide
      rw [this]; omega
    have hvn : vs.length ≤ sizeLine := by rw [PySem.sizeLine_eq]; omega
    have h16 : (16 : Nat) < s.heap.objs.size := Heap.lt_size hP
    have hsI : s.heap.objs.size ≤ h'.objs.size := Nat.le_trans hszL (Nat.le_of_lt F'.ns.lt)
    have ho9 : ∀ q ∈ [((16 : Addr), tabObj ps5)], q.1 ≠ C9 ∧ q.1 ≠ I9 := fun q hq => by
      rw [List.mem_singleton.mp hq]
      have hI : (16 : Nat) < I9 := Nat.lt_of_lt_of_le h16 (Nat.le_trans hsI l1)
      exact ⟨Nat.ne_of_lt (Nat.lt_trans hI l2), Nat.ne_of_lt hI⟩
    walk_at "GO"
    all_goals rw [hmp]
    all_goals walk_at "GO"
    · rename 1 < (ts.length : Int) => h1
      rename Fr h₀ L _ m => kF
      rename News h₀ L _ _ => kN
      rename Fr g L' _ _ => Fz
      have e : fwTx ts = Str.ofString "at tab size" ++ Str.ofString "s" ++ Str.ofString " " ++ Txt.join (Str.ofString ", ") ts := by unfold fwTx; rw [if_pos (by omega)]
      refine Eq.mp (congrArg (fun x => Q (Value.str x _) _) e) (hret _ _ _ _ _ kF kN hf5 (by assumption) fun b o hb e => Fz.keep b o (stG b o e (by simpa using hb)))
    · rename ¬ 1 < (ts.length : Int) => h1
      rename Fr h₀ L _ m => kF
      rename News h₀ L _ _ => kN
      rename Fr g L' _ _ => Fz
      have e : fwTx ts = Str.ofString "at tab size" ++ Str.ofString " " ++ Txt.join (Str.ofString ", ") ts := by unfold fwTx; rw [if_neg (by omega)]
      refine Eq.mp (congrArg (fun x => Q (Value.str x _) _) e) (hret _ _ _ _ _ kF kN hf5 (by assumption) fun b o hb e => Fz.keep b o (stG b o e (by simpa using hb)))

end

section
open PySem PySem.W PyProof.Rows


local macro_rules | `(tactic| walk_at "GO") => `(tactic| repeat' ((fail_if_success (with_reducible show wpAny _ _ (pyIter _) _ _ _)); (fail_if_success (with_reducible show wpAny _ _ (compareOp CmpOp.NotEq (Value.ref _) (Value.ref _)) _ _ _)); (fail_if_success (with_reducible show wpAny _ _ (compareOp CmpOp.Eq (Value.ref _) (Value.ref _)) _ _ _)); (fail_if_success (with_reducible show wpAny _ _ (exec (Stmt.While _ _ _ _) _) _ _ _)); (fail_if_success (with_reducible show LCg.CompSrc _ _ _ _ _ _ _ _ _ _ _ _ _ _)); first | (k_unfold; (try dsimp only)) | (k_end; wrow_close) | walk1 | (dsimp only; walk1) | (leave1; walk_say "STEP leave1"; try dsimp only) | fail "no step"))
local macro_rules | `(tactic| walk_at "DAT") => `(tactic| first | exact DatIn.int _ _ | exact DatIn.bool _ | exact DatIn.str _ _ | (refine' DatIn.tuple ?m9 ?r9; (case m9 => k_mem); (case r9 => walk_at "DATS")) | (refine' DatIn.list ?m9 ?r9; (case m9 => k_mem); (case r9 => walk_at "DATS")))
local macro_rules | `(tactic| walk_at "DATS") => `(tactic| first | exact DatAll.nil | exact datAll_ints (by assumption) | (refine' DatAll.cons ?x9 ?y9; (case x9 => walk_at "DAT"); (case y9 => walk_at "DATS")))
local macro_rules | `(tactic| walk_at "ITER") => `(tactic| (k_here; (rename Fr _ _ _ _ => lF'); (with_unfolding_all refine' For_invVF lF' ?k1 ?k2 ?_; (case k1 => exact rfl); (case k2 => exact rfl); k_whole)))
local macro_rules | `(tactic| walk_at "exec For Name Subscript cons nil") => `(tactic| walk_at "ITER")
local macro_rules | `(tactic| walk_at "exec For Name BinOp cons nil") => `(tactic| walk_at "ITER")
local macro_rules | `(tactic| walk_at "exec For Name List cons nil") => `(tactic| walk_at "ITER")
local macro_rules | `(tactic| walk_at "exec For Name Call cons nil") => `(tactic| walk_at "ITER")
local macro_rules | `(tactic| walk_at "exec For Name Name cons nil") => `(tactic| walk_at "ITER")
local macro_rules | `(tactic| walk_at "subscriptTail Attribute Name Constant ref int") => `(tactic| (k_here; (with_reducible show wpAny _ _ (subscriptTail _ _ (Value.ref _) (Value.int _ _)) _ _ _); k_dflt (refine' item_tupLed (n := _) ?N ?hm ?lo ?hi ?hj ?hx ?_ ?hs; (case N => k_asm); (case hm => k_mem); (case lo => decide); (case hi => decide); (case hj => exact rfl); (case hx => exact rfl); (case hs => with_unfolding_all rfl); k_whole)))
local macro_rules | `(tactic| walk_at "subscriptTail Name UnaryOp ref int") => `(tactic| (k_here; (with_reducible show wpAny _ _ (subscriptTail _ _ (Value.ref _) (Value.int _ _)) _ _ _); k_dflt (refine' item_lastI (n := _) ?N ?hm ?hi ?hk ?hne ?_ ?hs; (case N => k_asm); (case hm => k_mem); (case hi => assumption); (case hk => rfl); (case hne => assumption); (case hs => with_unfolding_all rfl); k_whole); intro _))
local macro_rules | `(tactic| walk_at "call type:list") => `(tactic| (k_here; (with_reducible show wpAny _ _ (call (Value.type _) [Value.ref _]) _ _ _); k_dflt (refine' list_of_tup (n := _) ?F ?N ?hm ?hz ?_; (case F => k_asm); (case N => k_asm); (case hm => k_mem); (case hz => ((have hq9 := IntsAre.length (by assumption)); omega)); k_whole); intro D' e' h' F' N' l1; (try k_lt l1); (try k_sweep)))
local macro_rules | `(tactic| walk_at "LB") => `(tactic| first | assumption | (with_reducible refine' app_len ?x9 ?y9; (case x9 => walk_at "LB"); (case y9 => walk_at "LB")) | exact (tab_len (B := 64) (by decide)) | (refine (?_ : _ ≤ 64); exact Nat.le_of_ble_eq_true rfl))
local macro_rules | `(tactic| walk_at "LEN") => `(tactic| first | omega | decide | exact Nat.le_trans (tab_len (B := 64) (by decide)) (by decide) | ((refine' len_le ?p9 ?q9); (case p9 => walk_at "LB"); (case q9 => first | decide | omega)))
local macro_rules | `(tactic| walk_at "binaryOp Add str str") => `(tactic| (k_here; (with_reducible show wpAny _ _ (binaryOp Operator.Add (Value.str _ _) (Value.str _ _)) _ _ _); (refine add_str ?_ (add_fits ?h1 ?h2)); (case h1 => walk_at "LEN"); (case h2 => walk_at "LEN"); intro _ _))
local macro_rules | `(tactic| walk_at "call type:tuple") => `(tactic| (k_here; (with_reducible show wpAny _ _ (call (Value.type _) [Value.ref _]) _ _ _); k_dflt (refine' tuple_led ?k1 ?k2 ?k3 ?k4 ?_; (case k1 => k_asm); (case k2 => k_asm); (case k3 => k_mem); (case k4 => first | (refine' Nat.le_trans (Nat.le_of_eq (IntsAre.length ?hi9)) ?lq9; (case hi9 => assumption); (case lq9 => ((try simp only [List.length_set, List.length_append, List.length_cons, List.length_nil, List.length_map, List.length_range]); omega))) | ((simp only [List.length_cons, List.length_nil, List.length_set]); omega)); k_whole); intro D' h' F' N' l1; (try k_lt l1); (try k_sweep)))
local macro_rules | `(tactic| walk_at "eval ListComp") => `(tactic| (k_here; k_dflt (refine LCg.ListComp_U (F₀ := by k_asm) (by with_unfolding_all rfl) (by decide) (by rfl) (by decide) (by rfl) ?_)))
local macro_rules | `(tactic| walk_at "exec Assign cons ListComp") => `(tactic| (k_here; k_dflt (refine LCg.Assign_ListComp_U (F₀ := by k_asm) (by rfl) (by with_unfolding_all rfl) (by with_unfolding_all rfl) (by decide) (by rfl) (by decide) (by rfl) (by rfl) (by rfl) ?_)))
local macro_rules | `(tactic| walk_at "call builtin:str.split") => `(tactic| (k_here; (with_reducible show wpAny _ _ (call (Value.builtin "str.split") [Value.str _ _, Value.str _ _]) _ _ _); k_dflt (refine' KSpl.split1 ?kF ?kN ?ky ?_ ?ks; (case kF => k_asm); (case kN => k_asm); (case ky => decide); (case ks => (rw [PySem.sizeLine_eq]; (first | omega | (refine Nat.le_trans (Nat.add_le_add_right (PySem.Txt.slice_le _ _ _) 2) ?_; omega)))); k_whole); intro D' l' h' k' e' a' F' N' l1; (try k_lt l1); (try k_sweep)))
local macro_rules | `(tactic| walk_at "INTS") => `(tactic| first | assumption | exact IntsAre.nil | (refine' IntsAre.cons _ _ ?i9; walk_at "INTS"))
local macro_rules | `(tactic| walk_at "ILEN") => `(tactic| ((try simp only [List.length_append, List.length_cons, List.length_nil, List.length_map, List.length_range, List.length_set, List.length_replicate]); omega))
local macro_rules | `(tactic| walk_at "binaryOp Add ref ref") => `(tactic| (k_here; (with_reducible show wpAny _ _ (binaryOp Operator.Add (Value.ref _) (Value.ref _)) _ _ _); k_dflt (refine' addI_led ?F ?N ?a ?b ?i ?j ?z ?_; (case F => k_asm); (case N => k_asm); (case a => k_mem); (case b => k_mem); (case i => walk_at "INTS"); (case j => walk_at "INTS"); (case z => walk_at "ILEN"); k_whole); intro D' h' F' N' l1 hI'; (try k_lt l1); (try k_sweep)))
local macro_rules | `(tactic| walk_at "call builtin:max") => `(tactic| (k_here; (with_reducible show wpAny _ _ (call (Value.builtin "max") [Value.ref _]) _ _ _); k_dflt (refine' maxI_led ?hh ?F ?N ?a ?i ?z ?_; (case hh => exact rfl); (case F => k_asm); (case N => k_asm); (case a => k_mem); (case i => walk_at "INTS"); (case z => simp); k_whole); intro h' M' t' tk' F' N' hM' hU'; (try k_sweep)))
local macro_rules | `(tactic| walk_at "call builtin:list.count") => `(tactic| (k_here; (with_reducible show wpAny _ _ (call (Value.builtin "list.count") [Value.ref _, Value.int _ _]) _ _ _); k_dflt (refine' countI_led ?N ?a ?i ?_; (case N => k_asm); (case a => k_mem); (case i => walk_at "INTS"); k_whole); intro _ _))
local macro_rules | `(tactic| walk_at "binaryOp Mult str int") => `(tactic| (k_here; (with_reducible show wpAny _ _ (binaryOp Operator.Mult (Value.str _ _) (Value.int _ _)) _ _ _); k_dflt (refine' mul_led ?h1 ?h2 ?h3 ?_; (case h1 => first | decide | omega | ((refine' len_le ?p9 ?q9); (case p9 => walk_at "LB"); (case q9 => first | decide | omega))); (case h2 => ((try k_fmods); omega)); (case h3 => ((try k_fmods); omega)); k_whole); intro _ _))
local macro_rules | `(tactic| walk_at "call builtin:str.join") => `(tactic| (k_here; (with_reducible show wpAny _ _ (call (Value.builtin "str.join") [Value.str _ _, Value.ref _]) _ _ _); k_dflt (refine' join_led ?N ?a ?i ?z ?_; (case N => k_asm); (case a => k_mem); (case i => assumption); (case z => assumption); k_whole); intro _ _))
local macro_rules | `(tactic| walk_at "IDX") => `(tactic| first | omega | ((simp only [List.length_append, List.length_cons, List.length_nil, List.length_map, List.length_range, List.length_set, List.length_replicate]); omega))
local macro_rules | `(tactic| walk_at "SUBI") => `(tactic| (k_here; (with_reducible show wpAny _ _ (subscriptTail _ _ (Value.ref _) (Value.int _ _)) _ _ _); k_dflt (refine' ksa_sub ?k1 ?k2 ?k3 ?k4 ?k5 ?k6 ?_ ?k7; (case k1 => k_asm); (case k2 => k_mem); (case k3 => with_reducible assumption); (case k4 => walk_at "IDX"); (case k5 => walk_at "IDX"); (case k6 => walk_at "IDX"); (case k7 => with_unfolding_all rfl); k_whole); intro _))
local macro_rules | `(tactic| walk_at "subscriptTail Name Name ref int") => `(tactic| walk_at "SUBI")
local macro_rules | `(tactic| walk_at "subscriptTail Name BinOp ref int") => `(tactic| walk_at "SUBI")
local macro_rules | `(tactic| walk_at "getItem ref int") => `(tactic| (k_here; (with_reducible show wpAny _ _ (getItem (Value.ref _) (Value.int _ _)) _ _ _); k_dflt (refine' ksa_get ?k1 ?k2 ?k3 ?k4 ?k5 ?k6 ?_; (case k1 => k_asm); (case k2 => k_mem); (case k3 => with_reducible assumption); (case k4 => walk_at "IDX"); (case k5 => walk_at "IDX"); (case k6 => walk_at "IDX"); k_whole); intro _))
local macro_rules | `(tactic| walk_at "setItem ref int") => `(tactic| (k_here; (with_reducible show wpAny _ _ (setItem (Value.ref _) (Value.int _ _) (Value.int _ _)) _ _ _); k_dflt (refine' ksa_set ?k1 ?k2 ?k3 ?k4 ?k5 ?k6 ?k7 ?_; (case k1 => k_asm); (case k2 => k_asm); (case k3 => k_upd); (case k4 => with_reducible assumption); (case k5 => walk_at "IDX"); (case k6 => walk_at "IDX"); (case k7 => walk_at "IDX"); k_whole); intro h' F' N' hi' hl' hs'; clear hs'; (try k_sweep)))
local macro_rules | `(tactic| walk_at "DATE") => `(tactic| first | (with_reducible exact DatIn.int _ _) | exact datInt (by assumption) | exact datInt (by decide) | (refine' DatIn.tuple ?m9 ?r9; (case m9 => k_mem); (case r9 => walk_at "DATES")))
local macro_rules | `(tactic| walk_at "DATES") => `(tactic| first | exact DatAll.nil | exact datInts (by assumption) (by assumption) | exact datAll_ints (by assumption) | (refine' DatAll.cons ?x9 ?y9; (case x9 => walk_at "DATE"); (case y9 => walk_at "DATES")))
local macro_rules | `(tactic| walk_at "subscriptTail Name Slice ref ref") => `(tactic| (k_here; (with_reducible show wpAny _ _ (subscriptTail _ _ (Value.ref _) (Value.ref _)) _ _ _); k_dflt (refine' slice_ledI ?F ?N ?hm ?hi ?pl ?pu ?pk ?h0 ?hz ?_ ?hs ?ht; (case F => k_asm); (case N => k_asm); (case hm => k_mem); (case hi => assumption); (case pl => first | exact IsPart.none | exact IsPart.int _ _); (case pu => first | exact IsPart.none | exact IsPart.int _ _); (case pk => first | exact IsPart.none | exact IsPart.int _ _); (case h0 => simp); (case hz => walk_at "ILEN"); (case hs => with_unfolding_all rfl); (case ht => (intro _; with_unfolding_all rfl)); k_whole); intro D' us' h' F' N' l1 hI'; (try k_lt l1); (try k_sweep); (first | rw [pickL_to _ (by omega)] at hI' | rw [pickL_from _ (by omega)] at hI' | rw [pickL_rev] at hI' | rw [pickL_odds] at hI' | rw [pickL_evens] at hI' | skip)))
section
variable {prog : Program} {w : World} {A : Around} {E : Value → Shared → Prop} {s : Shared} {Q : Value → Shared → Prop}
theorem item_digL {value slice : PySem.Expr} {i : Int} {t u : Tok} (h0 : 0 ≤ i) (h1 : i < 10) (h : Q (.str (digTx i) s.toks) { s with toks := s.toks + 1 })
    (hs : subscripted slice false (.str (Str.ofString "0123456789") t) (.int i u) = operate [.str (Str.ofString "0123456789") t, .int i u] (getItem (.str (Str.ofString "0123456789") t) (.int i u)))
    (ht : ∀ r, letTemporaryGo value (.str (Str.ofString "0123456789") t) r = pure ()) :
    wpAny (model prog w) A (subscriptTail value slice (.str (Str.ofString "0123456789") t) (.int i u)) Q E s := by
  have hl : ((Str.ofString "0123456789").length : Int) = 10 := by decide +kernel
  refine item_str (by unfold fitsSsize; simp; omega) (by omega) (by omega) (fun _ => ?_) hs ht
  rw [item_dig h0 h1]
  exact h
end
theorem fm10 (v : Int) : v.fmod 10 = v % 10 := Int.fmod_eq_emod_of_nonneg v (by decide)
theorem fd10 (v : Int) : v.fdiv 10 = v / 10 := Int.fdiv_eq_ediv_of_nonneg v (by decide)
theorem dg_first {v : Int} (h : 0 ≤ v) : restTx (v.fdiv 10) ++ Txt.item (Str.ofString "0123456789") (v.fmod 10) = numTx v := by
  rw [fm10, fd10, item_dig (by omega) (by omega)]
  exact (rest_first h).symm
theorem dg_step {v : Int} {out N : Str} (h : 0 < v) (e : restTx v ++ out = N) : restTx (v.fdiv 10) ++ (Txt.item (Str.ofString "0123456789") (v.fmod 10) ++ out) = N := by
  rw [fm10, fd10, item_dig (by omega) (by omega), ← Str.append_assoc, ← rest_step h]
  exact e
theorem dg_done {v : Int} {out N : Str} (h0 : 0 ≤ v) (h : ¬ 0 < v) (e : restTx v ++ out = N) : out = N := by
  have : v = 0 := by omega
  subst this
  rw [← e]
  apply str_ext'
  rw [Str.cps_append]
  simp [restTx]
theorem dg_len {v : Int} {out N : Str} (e : restTx v ++ out = N) (h : N.length ≤ 20) : out.length ≤ 20 := by
  have := congrArg Str.length e
  rw [Str.length_append] at this
  omega
theorem dg01 (w : World) (mean : ExcName → Option Value) (mg mb : Str → Option Value) :
  ∀ (dp un : Nat) (gd : Option (List Code)) (cn : Str) (cs : Scope) (a : Addr) (ccd : Value) (cl : List (Str × Addr)) (outer : List Env) (A₀ : Around) (base h₀ : Heap) (L : Addr) (m : Str → Option Value) (s : Shared) (v : Int) (tv : Tok)
    (Q E : Value → Shared → Prop),
    Below A₀ base outer h₀ → Fr h₀ L s.heap m → (hd01.heap_39 w.params).In h₀ → Top topProg (looseW hd01.view_39 [] ++ (recsOf hd01.view_39).map (·.name) ++ (litsOf hd01.view_39).map (·.1) ++ (clssOf hd01.view_39 (looseW hd01.view_39 [])).map (·.name)) mean mg mb h₀ → cs.kind = .function →
    -(10 ^ 20) < v → v < 10 ^ 20 → dp + 10 < recursionLimit → un + 80 < cLine →
    (∀ h' tk t, Fr h₀ L h' m → s.heap.StaysIn h' → Q (.str (numTx v) t) { s with heap := h', toks := tk }) →
    wpAny (model Challenge.rw_dn0186_01.row.prog w) (ktrTop dp un gd cn cs L a ccd cl outer) (call (.ref 28) [.int v tv]) Q E s := by
  k_fill
  intro dp un gd cn cs a ccd cl outer A₀ base h₀ L m s v tv Q E B F X T hk hv1 hv2 hd hu hret
  refine wpAny_call ?_
  k_dflt (refine' code_defH ?k1 ?k2 ?k3 ?k4 ?k5 ?kA ?kF ?kK ?k6 ?k7 ?k8 ?k9 ?kB ?_ ?c2 ?c3 ?c4 ?c5; (case kA => exact rfl); (case kF => exact rfl); (case kK => assumption); (case k1 => k_asm); (case k2 => k_asm); (case k3 => k_asm); (case k4 => exact News.nil); (case k5 => k_asm); (case k6 => k_is); (case k7 => k_is); (case k8 => ktr_room); (case k9 => exact BindsTo.of_eq rfl); (case c5 => decide); (case kB => exact locs rfl); (case c2 => exact rfl); (case c3 => exact rfl); (case c4 => exact rfl); k_whole)
  intro g L' h' stG hszL FG' F' N' B' X' T'
  (try dsimp only)
  (try k_fold)
  w_on
  walk_at "GO"
  · rename v < 0 => hneg
    (rename Fr g L' _ _ => F1)
    (rename News g L' _ _ => N1)
    obtain ⟨mr, hmr, F2⟩ : ∃ mr : Str → Option Value, mr = _ ∧ Fr g L' _ (fun y => if y = Str.ofString "v" then _ else if y = Str.ofString "out" then _ else mr y) := ⟨_, rfl, F1⟩
    have hN20 : (numTx (-v)).length ≤ 20 := numTx_len 19 (by omega) (by omega)
    refine while_led (σ := Str × Int × Tok × Tok) (fun c y => if y = Str.ofString "v" then some (.int c.2.1 c.2.2.1) else if y = Str.ofString "out" then some (.str c.1 c.2.2.2) else mr y) (fun _ => []) (fun c => 0 ≤ c.2.1 ∧ restTx c.2.1 ++ c.1 = numTx (-v)) (fun c => c.2.1.toNat) ⟨_, _, _, _⟩ F2 N1 (fun p hp => hp) (fun z => rfl) ⟨?w1a, ?w2a⟩ ?wta
    case w1a => (show 0 ≤ Int.fdiv _ 10; rw [fd10]; omega)
    case w2a => exact dg_first (by omega)
    case wta =>
      subst hmr
      rintro ⟨out, u, t1, t2⟩ h8 tk8 ⟨hu0, hue⟩ F8 N8
      dsimp only at hu0 hue F8 N8
      have hol := dg_len hue hN20
      clear F2 F1 N1
      walk_at "GO"
      · rename 0 < u => hpos
        rename Fr g L' _ _ => Fz
        rename News g L' _ _ => Nz
        have hd1 : 0 ≤ u.fdiv 10 := by rw [fd10]; omega
        have hd2 : (u.fdiv 10).toNat < u.toNat := by rw [fd10]; omega
        refine' ⟨⟨_, _, ?_, ?_⟩, _, _, _, rfl, Fz, Nz, ?_, ⟨hd1, dg_step hpos hue⟩, hd2⟩
        rotate_left 2
        intro z
        by_cases h1 : z = Str.ofString "v"
        · subst h1; rfl
        · by_cases h2 : z = Str.ofString "out"
          · subst h2; rfl
          · simp only [h1, h2, if_false]
      · rename ¬ 0 < u => hpos
        have ho := dg_done hu0 hpos hue
        subst ho
        rename Fr h₀ L _ m => kF
        rename Fr g L' _ _ => Fz
        have e9 : numTx v = Str.ofString "-" ++ numTx (-v) := by
          have := numTx_neg (n := -v) (by omega)
          rwa [Int.neg_neg] at this
        exact Eq.mp (congrArg (fun x => Q (Value.str x _) _) e9) (hret _ _ _ kF fun b o e => Fz.keep b o (stG b o e (by simp)))
  · rename ¬ v < 0 => hneg
    (rename Fr g L' _ _ => F1)
    (rename News g L' _ _ => N1)
    obtain ⟨mr, hmr, F2⟩ : ∃ mr : Str → Option Value, mr = _ ∧ Fr g L' _ (fun y => if y = Str.ofString "v" then _ else if y = Str.ofString "out" then _ else mr y) := ⟨_, rfl, F1⟩
    have hN20 : (numTx v).length ≤ 20 := numTx_len 19 (by omega) (by omega)
    refine while_led (σ := Str × Int × Tok × Tok) (fun c y => if y = Str.ofString "v" then some (.int c.2.1 c.2.2.1) else if y = Str.ofString "out" then some (.str c.1 c.2.2.2) else mr y) (fun _ => []) (fun c => 0 ≤ c.2.1 ∧ restTx c.2.1 ++ c.1 = numTx v) (fun c => c.2.1.toNat) ⟨_, _, _, _⟩ F2 N1 (fun p hp => hp) (fun z => rfl) ⟨?w1b, ?w2b⟩ ?wtb
    case w1b => (show 0 ≤ Int.fdiv _ 10; rw [fd10]; omega)
    case w2b => exact dg_first (by omega)
    case wtb =>
      subst hmr
      rintro ⟨out, u, t1, t2⟩ h8 tk8 ⟨hu0, hue⟩ F8 N8
      dsimp only at hu0 hue F8 N8
      have hol := dg_len hue hN20
      clear F2 F1 N1
      walk_at "GO"
      · rename 0 < u => hpos
        rename Fr g L' _ _ => Fz
        rename News g L' _ _ => Nz
        have hd1 : 0 ≤ u.fdiv 10 := by rw [fd10]; omega
        have hd2 : (u.fdiv 10).toNat < u.toNat := by rw [fd10]; omega
        refine' ⟨⟨_, _, ?_, ?_⟩, _, _, _, rfl, Fz, Nz, ?_, ⟨hd1, dg_step hpos hue⟩, hd2⟩
        rotate_left 2
        intro z
        by_cases h1 : z = Str.ofString "v"
        · subst h1; rfl
        · by_cases h2 : z = Str.ofString "out"
          · subst h2; rfl
          · simp only [h1, h2, if_false]
      · rename ¬ 0 < u => hpos
        have ho := dg_done hu0 hpos hue
        subst ho
        rename Fr h₀ L _ m => kF
        rename Fr g L' _ _ => Fz
        have e9 : numTx v = Str.ofString "" ++ numTx v := by
          rw [show Str.ofString "" = (⟨#[]⟩ : Str) from by decide +kernel]
          apply str_ext'
          rw [Str.cps_append]
          simp
        exact Eq.mp (congrArg (fun x => Q (Value.str x _) _) e9) (hret _ _ _ kF fun b o e => Fz.keep b o (stG b o e (by simp)))

end

section
open PySem PySem.W PyProof.Rows


local macro_rules | `(tactic| walk_at "GO") => `(tactic| repeat' ((fail_if_success (with_reducible show wpAny _ _ (pyIter _) _ _ _)); (fail_if_success (with_reducible show wpAny _ _ (compareOp CmpOp.NotEq (Value.ref _) (Value.ref _)) _ _ _)); (fail_if_success (with_reducible show wpAny _ _ (compareOp CmpOp.Eq (Value.ref _) (Value.ref _)) _ _ _)); (fail_if_success (with_reducible show wpAny _ _ (exec (Stmt.While _ _ _ _) _) _ _ _)); (fail_if_success (with_reducible show LCg.CompSrc _ _ _ _ _ _ _ _ _ _ _ _ _ _)); first | (k_unfold; (try dsimp only)) | (k_end; wrow_close) | walk1 | (dsimp only; walk1) | (leave1; walk_say "STEP leave1"; try dsimp only) | fail "no step"))
local macro_rules | `(tactic| walk_at "DAT") => `(tactic| first | exact DatIn.int _ _ | exact DatIn.bool _ | exact DatIn.str _ _ | (refine' DatIn.tuple ?m9 ?r9; (case m9 => k_mem); (case r9 => walk_at "DATS")) | (refine' DatIn.list ?m9 ?r9; (case m9 => k_mem); (case r9 => walk_at "DATS")))
local macro_rules | `(tactic| walk_at "DATS") => `(tactic| first | exact DatAll.nil | exact datAll_ints (by assumption) | (refine' DatAll.cons ?x9 ?y9; (case x9 => walk_at "DAT"); (case y9 => walk_at "DATS")))
local macro_rules | `(tactic| walk_at "ITER") => `(tactic| (k_here; (rename Fr _ _ _ _ => lF'); (with_unfolding_all refine' For_invVF lF' ?k1 ?k2 ?_; (case k1 => exact rfl); (case k2 => exact rfl); k_whole)))
local macro_rules | `(tactic| walk_at "exec For Name Subscript cons nil") => `(tactic| walk_at "ITER")
local macro_rules | `(tactic| walk_at "exec For Name BinOp cons nil") => `(tactic| walk_at "ITER")
local macro_rules | `(tactic| walk_at "exec For Name List cons nil") => `(tactic| walk_at "ITER")
local macro_rules | `(tactic| walk_at "exec For Name Call cons nil") => `(tactic| walk_at "ITER")
local macro_rules | `(tactic| walk_at "exec For Name Name cons nil") => `(tactic| walk_at "ITER")
local macro_rules | `(tactic| walk_at "subscriptTail Attribute Name Constant ref int") => `(tactic| (k_here; (with_reducible show wpAny _ _ (subscriptTail _ _ (Value.ref _) (Value.int _ _)) _ _ _); k_dflt (refine' item_tupLed (n := _) ?N ?hm ?lo ?hi ?hj ?hx ?_ ?hs; (case N => k_asm); (case hm => k_mem); (case lo => decide); (case hi => decide); (case hj => exact rfl); (case hx => exact rfl); (case hs => with_unfolding_all rfl); k_whole)))
local macro_rules | `(tactic| walk_at "subscriptTail Name UnaryOp ref int") => `(tactic| (k_here; (with_reducible show wpAny _ _ (subscriptTail _ _ (Value.ref _) (Value.int _ _)) _ _ _); k_dflt (refine' item_lastI (n := _) ?N ?hm ?hi ?hk ?hne ?_ ?hs; (case N => k_asm); (case hm => k_mem); (case hi => assumption); (case hk => rfl); (case hne => assumption); (case hs => with_unfolding_all rfl); k_whole); intro _))
local macro_rules | `(tactic| walk_at "call type:list") => `(tactic| (k_here; (with_reducible show wpAny _ _ (call (Value.type _) [Value.ref _]) _ _ _); k_dflt (refine' list_of_tup (n := _) ?F ?N ?hm ?hz ?_; (case F => k_asm); (case N => k_asm); (case hm => k_mem); (case hz => ((have hq9 := IntsAre.length (by assumption)); omega)); k_whole); intro D' e' h' F' N' l1; (try k_lt l1); (try k_sweep)))
local macro_rules | `(tactic| walk_at "LB") => `(tactic| first | assumption | (with_reducible refine' app_len ?x9 ?y9; (case x9 => walk_at "LB"); (case y9 => walk_at "LB")) | exact (tab_len (B := 64) (by decide)) | (refine (?_ : _ ≤ 64); exact Nat.le_of_ble_eq_true rfl))
local macro_rules | `(tactic| walk_at "LEN") => `(tactic| first | omega | decide | exact Nat.le_trans (tab_len (B := 64) (by decide)) (by decide) | ((refine' len_le ?p9 ?q9); (case p9 => walk_at "LB"); (case q9 => first | decide | omega)))
local macro_rules | `(tactic| walk_at "binaryOp Add str str") => `(tactic| (k_here; (with_reducible show wpAny _ _ (binaryOp Operator.Add (Value.str _ _) (Value.str _ _)) _ _ _); (refine add_str ?_ (add_fits ?h1 ?h2)); (case h1 => walk_at "LEN"); (case h2 => walk_at "LEN"); intro _ _))
local macro_rules | `(tactic| walk_at "call type:tuple") => `(tactic| (k_here; (with_reducible show wpAny _ _ (call (Value.type _) [Value.ref _]) _ _ _); k_dflt (refine' tuple_led ?k1 ?k2 ?k3 ?k4 ?_; (case k1 => k_asm); (case k2 => k_asm); (case k3 => k_mem); (case k4 => first | (refine' Nat.le_trans (Nat.le_of_eq (IntsAre.length ?hi9)) ?lq9; (case hi9 => assumption); (case lq9 => ((try simp only [List.length_set, List.length_append, List.length_cons, List.length_nil, List.length_map, List.length_range]); omega))) | ((simp only [List.length_cons, List.length_nil, List.length_set]); omega)); k_whole); intro D' h' F' N' l1; (try k_lt l1); (try k_sweep)))
local macro_rules | `(tactic| walk_at "eval ListComp") => `(tactic| (k_here; k_dflt (refine LCg.ListComp_U (F₀ := by k_asm) (by with_unfolding_all rfl) (by decide) (by rfl) (by decide) (by rfl) ?_)))
local macro_rules | `(tactic| walk_at "exec Assign cons ListComp") => `(tactic| (k_here; k_dflt (refine LCg.Assign_ListComp_U (F₀ := by k_asm) (by rfl) (by with_unfolding_all rfl) (by with_unfolding_all rfl) (by decide) (by rfl) (by decide) (by rfl) (by rfl) (by rfl) ?_)))
local macro_rules | `(tactic| walk_at "call builtin:str.split") => `(tactic| (k_here; (with_reducible show wpAny _ _ (call (Value.builtin "str.split") [Value.str _ _, Value.str _ _]) _ _ _); k_dflt (refine' KSpl.split1 ?kF ?kN ?ky ?_ ?ks; (case kF => k_asm); (case kN => k_asm); (case ky => decide); (case ks => (rw [PySem.sizeLine_eq]; (first | omega | (refine Nat.le_trans (Nat.add_le_add_right (PySem.Txt.slice_le _ _ _) 2) ?_; omega)))); k_whole); intro D' l' h' k' e' a' F' N' l1; (try k_lt l1); (try k_sweep)))
local macro_rules | `(tactic| walk_at "INTS") => `(tactic| first | assumption | exact IntsAre.nil | (refine' IntsAre.cons _ _ ?i9; walk_at "INTS"))
local macro_rules | `(tactic| walk_at "ILEN") => `(tactic| ((try simp only [List.length_append, List.length_cons, List.length_nil, List.length_map, List.length_range, List.length_set, List.length_replicate]); omega))
local macro_rules | `(tactic| walk_at "binaryOp Add ref ref") => `(tactic| (k_here; (with_reducible show wpAny _ _ (binaryOp Operator.Add (Value.ref _) (Value.ref _)) _ _ _); k_dflt (refine' addI_led ?F ?N ?a ?b ?i ?j ?z ?_; (case F => k_asm); (case N => k_asm); (case a => k_mem); (case b => k_mem); (case i => walk_at "INTS"); (case j => walk_at "INTS"); (case z => walk_at "ILEN"); k_whole); intro D' h' F' N' l1 hI'; (try k_lt l1); (try k_sweep)))
local macro_rules | `(tactic| walk_at "call builtin:max") => `(tactic| (k_here; (with_reducible show wpAny _ _ (call (Value.builtin "max") [Value.ref _]) _ _ _); k_dflt (refine' maxI_led ?hh ?F ?N ?a ?i ?z ?_; (case hh => exact rfl); (case F => k_asm); (case N => k_asm); (case a => k_mem); (case i => walk_at "INTS"); (case z => simp); k_whole); intro h' M' t' tk' F' N' hM' hU'; (try k_sweep)))
local macro_rules | `(tactic| walk_at "call builtin:list.count") => `(tactic| (k_here; (with_reducible show wpAny _ _ (call (Value.builtin "list.count") [Value.ref _, Value.int _ _]) _ _ _); k_dflt (refine' countI_led ?N ?a ?i ?_; (case N => k_asm); (case a => k_mem); (case i => walk_at "INTS"); k_whole); intro _ _))
local macro_rules | `(tactic| walk_at "binaryOp Mult str int") => `(tactic| (k_here; (with_reducible show wpAny _ _ (binaryOp Operator.Mult (Value.str _ _) (Value.int _ _)) _ _ _); k_dflt (refine' mul_led ?h1 ?h2 ?h3 ?_; (case h1 => first | decide | omega | ((refine' len_le ?p9 ?q9); (case p9 => walk_at "LB"); (case q9 => first | decide | omega))); (case h2 => ((try k_fmods); omega)); (case h3 => ((try k_fmods); omega)); k_whole); intro _ _))
local macro_rules | `(tactic| walk_at "call builtin:str.join") => `(tactic| (k_here; (with_reducible show wpAny _ _ (call (Value.builtin "str.join") [Value.str _ _, Value.ref _]) _ _ _); k_dflt (refine' join_led ?N ?a ?i ?z ?_; (case N => k_asm); (case a => k_mem); (case i => assumption); (case z => assumption); k_whole); intro _ _))
local macro_rules | `(tactic| walk_at "IDX") => `(tactic| first | omega | ((simp only [List.length_append, List.length_cons, List.length_nil, List.length_map, List.length_range, List.length_set, List.length_replicate]); omega))
local macro_rules | `(tactic| walk_at "SUBI") => `(tactic| (k_here; (with_reducible show wpAny _ _ (subscriptTail _ _ (Value.ref _) (Value.int _ _)) _ _ _); k_dflt (refine' ksa_sub ?k1 ?k2 ?k3 ?k4 ?k5 ?k6 ?_ ?k7; (case k1 => k_asm); (case k2 => k_mem); (case k3 => with_reducible assumption); (case k4 => walk_at "IDX"); (case k5 => walk_at "IDX"); (case k6 => walk_at "IDX"); (case k7 => with_unfolding_all rfl); k_whole); intro _))
local macro_rules | `(tactic| walk_at "subscriptTail Name Name ref int") => `(tactic| walk_at "SUBI")
local macro_rules | `(tactic| walk_at "subscriptTail Name BinOp ref int") => `(tactic| walk_at "SUBI")
local macro_rules | `(tactic| walk_at "getItem ref int") => `(tactic| (k_here; (with_reducible show wpAny _ _ (getItem (Value.ref _) (Value.int _ _)) _ _ _); k_dflt (refine' ksa_get ?k1 ?k2 ?k3 ?k4 ?k5 ?k6 ?_; (case k1 => k_asm); (case k2 => k_mem); (case k3 => with_reducible assumption); (case k4 => walk_at "IDX"); (case k5 => walk_at "IDX"); (case k6 => walk_at "IDX"); k_whole); intro _))
local macro_rules | `(tactic| walk_at "setItem ref int") => `(tactic| (k_here; (with_reducible show wpAny _ _ (setItem (Value.ref _) (Value.int _ _) (Value.int _ _)) _ _ _); k_dflt (refine' ksa_set ?k1 ?k2 ?k3 ?k4 ?k5 ?k6 ?k7 ?_; (case k1 => k_asm); (case k2 => k_asm); (case k3 => k_upd); (case k4 => with_reducible assumption); (case k5 => walk_at "IDX"); (case k6 => walk_at "IDX"); (case k7 => walk_at "IDX"); k_whole); intro h' F' N' hi' hl' hs'; clear hs'; (try k_sweep)))
local macro_rules | `(tactic| walk_at "DATE") => `(tactic| first | (with_reducible exact DatIn.int _ _) | exact datInt (by assumption) | exact datInt (by decide) | (refine' DatIn.tuple ?m9 ?r9; (case m9 => k_mem); (case r9 => walk_at "DATES")))
local macro_rules | `(tactic| walk_at "DATES") => `(tactic| first | exact DatAll.nil | exact datInts (by assumption) (by assumption) | exact datAll_ints (by assumption) | (refine' DatAll.cons ?x9 ?y9; (case x9 => walk_at "DATE"); (case y9 => walk_at "DATES")))
local macro_rules | `(tactic| walk_at "subscriptTail Name Slice ref ref") => `(tactic| (k_here; (with_reducible show wpAny _ _ (subscriptTail _ _ (Value.ref _) (Value.ref _)) _ _ _); k_dflt (refine' slice_ledI ?F ?N ?hm ?hi ?pl ?pu ?pk ?h0 ?hz ?_ ?hs ?ht; (case F => k_asm); (case N => k_asm); (case hm => k_mem); (case hi => assumption); (case pl => first | exact IsPart.none | exact IsPart.int _ _); (case pu => first | exact IsPart.none | exact IsPart.int _ _); (case pk => first | exact IsPart.none | exact IsPart.int _ _); (case h0 => simp); (case hz => walk_at "ILEN"); (case hs => with_unfolding_all rfl); (case ht => (intro _; with_unfolding_all rfl)); k_whole); intro D' us' h' F' N' l1 hI'; (try k_lt l1); (try k_sweep); (first | rw [pickL_to _ (by omega)] at hI' | rw [pickL_from _ (by omega)] at hI' | rw [pickL_rev] at hI' | rw [pickL_odds] at hI' | rw [pickL_evens] at hI' | skip)))
structure St01 where
  ps : Array Value
  rs : List Value
  ks : List Value
  n1 : Nat
  n2 : Nat
  objs : List (Addr × Obj)
  want : Str
  tw : Tok
  ts : List Str
  ds : List Dat
  u : Str → Option Value
abbrev stored01 : List Str := [Str.ofString "x", Str.ofString "v", Str.ofString "word", Str.ofString "row", Str.ofString "head"]
abbrev mp01 (mr : Str → Option Value) (c : St01) (y : Str) : Option Value := if y = Str.ofString "want" then some (.str c.want c.tw) else if stored01.contains y then c.u y else mr y
abbrev led01 (R Kp Xs : Addr) (ws : List Value) (c : St01) : List (Addr × Obj) := (16, tabObj c.ps) :: (R, W.listOf c.rs.toArray c.n1) :: (Kp, W.listOf c.ks.toArray c.n2) :: (Xs, W.listOf ws.toArray 0) :: c.objs
def Ok01 (R Kp Xs : Addr) (n : Nat) (c : St01) : Prop :=
  TabForm ⟨3, 13, 3, 39⟩ c.ps ∧ c.ts.length = n ∧ RowsIn c.objs c.rs c.ts ∧ DatAll c.objs c.rs c.ds ∧ DatAll c.objs c.ks c.ds ∧ (∀ d ∈ c.ds, dok 7 d = true) ∧ c.want = Txt.join (Str.ofString ", ") c.ts ∧ (∀ t ∈ c.ts, t.length ≤ 24) ∧ (∀ p ∈ c.objs, p.1 ≠ 16 ∧ p.1 ≠ R ∧ p.1 ≠ Kp ∧ p.1 ≠ Xs)
def Mid01 (h₀ : Heap) (L : Addr) (mr : Str → Option Value) (R Kp Xs : Addr) (ws : List Value) (I : Addr) (oI : Obj) (i : Nat) (t : Tok) (s s' : Shared) : Prop :=
  ∃ (c : St01) (h : Heap) (tk : Nat) (m' : Str → Option Value), s' = { s with heap := h, toks := tk } ∧ Fr h₀ L h m' ∧ News h₀ L h (led01 R Kp Xs ws c ++ [(I, oI)]) ∧ (∀ z, m' z = if z = Str.ofString "k" then some (.int (0 + (i : Int)) t) else mp01 mr c z) ∧ (∀ p ∈ led01 R Kp Xs ws c, p.1 ≠ I) ∧ Ok01 R Kp Xs i c
local macro_rules | `(tactic| k_all) => `(tactic| with_reducible assumption)
local macro_rules | `(tactic| walk_at "exec For Name Call cons nil") => `(tactic| (k_here; k_dflt (refine' For_G ?_ ?hs9; (case hs9 => (intro _; rfl)))))
theorem cut01 {M : Model} {A : Around} {E : Value → Shared → Prop} {s : Shared} {env : Env} {Q : Flow → Shared → Prop} {l : List Stmt} {h₀ : Heap} {L : Addr} {mr : Str → Option Value} {R Kp Xs : Addr} {ws : List Value} {I : Addr} {oI : Obj} {i : Nat} {t : Tok} {c : St01}
    (hoff : ∀ p ∈ led01 R Kp Xs ws c, p.1 ≠ I) (F3 : Fr h₀ L s.heap (fun y => if y = Str.ofString "k" then some (.int (0 + (i : Int)) t) else mp01 mr c y)) (N3 : News h₀ L s.heap (led01 R Kp Xs ws c ++ [(I, oI)]))
    (h1 : wpAny M A (execs (l.take 1) env) (CutEnd (Mid01 h₀ L mr R Kp Xs ws I oI i t s)) E s) (h2 : ∀ s', Mid01 h₀ L mr R Kp Xs ws I oI i t s s' → wpAny M A (execs (l.drop 1) env) Q E s') : wpAny M A (execs l env) Q E s := execs_cut 1 _ h1 h2
theorem news_swap {h₀ h h' : Heap} {L P : Addr} {o o' : Obj} {l l' : List (Addr × Obj)} (N : News h₀ L h l) (U : Upd P o o' l l') (N' : News h₀ L h' [(P, o')]) (st : ∀ b o, b ≠ P → h.get? b = some o → h'.get? b = some o) : News h₀ L h' l' := by
  obtain ⟨pre, post, rfl, rfl, a, b⟩ := U.split
  intro p hp
  rcases List.mem_append.mp hp with hp | hp
  · have := N p (List.mem_append.mpr (.inl hp))
    exact ⟨st _ _ (a p hp) this.1, this.2⟩
  · rcases List.mem_cons.mp hp with rfl | hp
    · exact N' _ (.head _)
    · have := N p (List.mem_append.mpr (.inr (.tail _ hp)))
      exact ⟨st _ _ (b p hp) this.1, this.2⟩
theorem upd_mem {P : Addr} {o o' : Obj} {l l' : List (Addr × Obj)} (U : Upd P o o' l l') : (P, o) ∈ l := by
  obtain ⟨pre, post, rfl, rfl, a, b⟩ := U.split
  exact List.mem_append.mpr (.inr (.head _))
theorem fw01_use {w : World} {mean : ExcName → Option Value} {mg mb : Str → Option Value} {dp un : Nat} {gd : Option (List Code)} {cn : Str} {cs : Scope} {a : Addr} {ccd : Value} {cl : List (Str × Addr)} {outer : List Env} {A₀ : Around} {base h₀ : Heap} {L : Addr} {m : Str → Option Value} {s : Shared} {D : Addr} {ps : Array Value} {vs : List Value} {ts : List Str} {news objs : List (Addr × Obj)} {news' : Array Value → List (Addr × Obj)} {Q E : Value → Shared → Prop}
    (B : Below A₀ base outer h₀) (F : Fr h₀ L s.heap m) (X : (hd01.heap_39 w.params).In h₀) (N : News h₀ L s.heap news) (T : Top topProg (looseW hd01.view_39 [] ++ (recsOf hd01.view_39).map (·.name) ++ (litsOf hd01.view_39).map (·.1) ++ (clssOf hd01.view_39 (looseW hd01.view_39 [])).map (·.name)) mean mg mb h₀) (hk : cs.kind = .function) (CH : CodeHd h₀ 20 16)
    (hf : TabForm ⟨3, 13, 3, 39⟩ ps) (hG : AllBare s.gens) (U : ∀ ps', Upd 16 (tabObj ps) (tabObj ps') news (news' ps')) (hD : (∃ n, (D, W.listOf vs.toArray n) ∈ news) ∨ ∃ n, (D, ({ cls := .type "tuple", data := .seq vs.toArray n } : Obj)) ∈ news) (hR : RowsIn objs vs ts) (hsub : ∀ p ∈ objs, p ∈ news) (htl : ts.length ≤ 1000) (hts : (ts.map (·.length)).sum ≤ 100000) (hd : dp + 10 < recursionLimit) (hu : un + 80 < cLine)
    (h : ∀ h' gs tk ps' t, Fr h₀ L h' m → News h₀ L h' (news' ps') → TabForm ⟨3, 13, 3, 39⟩ ps' → AllBare gs → Q (.str (fwTx ts) t) { s with heap := h', gens := gs, toks := tk }) :
    wpAny (model Challenge.rw_dn0186_01.row.prog w) (ktrTop dp un gd cn cs L a ccd cl outer) (call (.ref 21) [.ref D]) Q E s := by
  refine fw01 w mean mg mb dp un gd cn cs a ccd cl outer A₀ base h₀ L m s D ps vs ts Q E B F X (news_sub N fun p hp => by rw [List.mem_singleton.mp hp]; exact upd_mem (U ps)) T hk CH hf hG ?_ hR.1 (fun i v e => ((hR.2 i v e).mono hsub).first N) htl hts hd hu fun h' gs tk ps' t F' N' hf' hG' st => h h' gs tk ps' t F' (news_swap N (U ps') N' st) hf' hG'
  rcases hD with ⟨n, hD⟩ | ⟨n, hD⟩
  · exact .inl ⟨_, N.get hD, rfl, n, rfl⟩
  · exact .inr ⟨_, N.get hD, rfl, n, rfl⟩
theorem v20 (X : Int) : 0 ≤ X.fmod (10 ^ Int.toNat 20) ∧ X.fmod (10 ^ Int.toNat 20) < 10 ^ 20 := ⟨Int.fmod_nonneg_of_pos _ (by decide), Int.fmod_lt_of_pos _ (by decide)⟩
theorem v20a (X : Int) : -(10 ^ 20) < -(X.fmod (10 ^ Int.toNat 20)) := by have := v20 X; omega
theorem v20b (X : Int) : -(X.fmod (10 ^ Int.toNat 20)) < 10 ^ 20 := by have := v20 X; omega
theorem v20c (X : Int) : -(10 ^ 20) < X.fmod (10 ^ Int.toNat 20) := by have := v20 X; omega
theorem v20d (X : Int) : X.fmod (10 ^ Int.toNat 20) < 10 ^ 20 := (v20 X).2
theorem dg01_use {w : World} {mean : ExcName → Option Value} {mg mb : Str → Option Value} {dp un : Nat} {gd : Option (List Code)} {cn : Str} {cs : Scope} {a : Addr} {ccd : Value} {cl : List (Str × Addr)} {outer : List Env} {A₀ : Around} {base h₀ : Heap} {L : Addr} {m : Str → Option Value} {s : Shared} {v : Int} {tv : Tok} {news : List (Addr × Obj)} {Q E : Value → Shared → Prop}
    (B : Below A₀ base outer h₀) (F : Fr h₀ L s.heap m) (X : (hd01.heap_39 w.params).In h₀) (N : News h₀ L s.heap news) (T : Top topProg (looseW hd01.view_39 [] ++ (recsOf hd01.view_39).map (·.name) ++ (litsOf hd01.view_39).map (·.1) ++ (clssOf hd01.view_39 (looseW hd01.view_39 [])).map (·.name)) mean mg mb h₀) (hk : cs.kind = .function)
    (hv1 : -(10 ^ 20) < v) (hv2 : v < 10 ^ 20) (hd : dp + 10 < recursionLimit) (hu : un + 80 < cLine)
    (h : ∀ h' tk t, Fr h₀ L h' m → News h₀ L h' news → (numTx v).length ≤ 21 → Q (.str (numTx v) t) { s with heap := h', toks := tk }) :
    wpAny (model Challenge.rw_dn0186_01.row.prog w) (ktrTop dp un gd cn cs L a ccd cl outer) (call (.ref 28) [.int v tv]) Q E s := by
  refine dg01 w mean mg mb dp un gd cn cs a ccd cl outer A₀ base h₀ L m s v tv Q E B F X T hk hv1 hv2 hd hu fun h' tk t F' st => h h' tk t F' (news_stays N st) ?_
  by_cases h0 : 0 ≤ v
  · exact Nat.le_trans (numTx_len 19 h0 (by omega)) (by decide)
  · have e := numTx_neg (n := -v) (by omega)
    rw [Int.neg_neg] at e
    rw [e, Str.length_append]
    have := numTx_len 19 (n := -v) (by omega) (by omega)
    have : (Str.ofString "-").length = 1 := by decide
    omega
local macro_rules | `(tactic| walk_at "SUB") => `(tactic| (intro p hp; (repeat (first | exact hp | refine List.Mem.tail _ ?_))))
local macro_rules | `(tactic| walk_at "call ref") => `(tactic| (k_here; (with_reducible show wpAny _ _ (call (Value.ref 21) [Value.ref _]) _ _ _); k_dflt (refine' fw01_use ?B ?F ?X ?N ?T ?hk ?CH ?hf ?hG ?U ?hD ?hR ?hsub ?htl ?hts ?hd ?hu ?_; (case B => k_asm); (case F => k_asm); (case X => k_asm); (case N => k_asm); (case T => k_asm); (case hk => exact rfl); (case CH => assumption); (case hf => assumption); (case hG => assumption); (case U => (intro ps'; k_upd)); (case hD => first | exact .inl ⟨_, by k_mem⟩ | exact .inr ⟨_, by k_mem⟩); (case hR => assumption); (case hsub => walk_at "SUB"); (case htl => omega); (case hts => assumption); (case hd => ktr_room); (case hu => ktr_units); k_whole); intro h' gs' tk' ps' t' F' N' hf' hG'; (try dsimp only at N'); (try k_sweep)))
local macro_rules | `(tactic| walk_at "call ref") => `(tactic| (k_here; (with_reducible show wpAny _ _ (call (Value.ref 28) [Value.int _ _]) _ _ _); k_dflt (refine' dg01_use ?B ?F ?X ?N ?T ?hk ?h1 ?h2 ?hd ?hu ?_; (case B => k_asm); (case F => k_asm); (case X => k_asm); (case N => k_asm); (case T => k_asm); (case hk => exact rfl); (case h1 => first | exact v20a _ | exact v20c _); (case h2 => first | exact v20b _ | exact v20d _); (case hd => ktr_room); (case hu => ktr_units); k_whole); intro h' tk' t' F' N' hn'; (try k_sweep)))
local macro_rules | `(tactic| walk_at "call type:tuple") => `(tactic| (k_here; (with_reducible show wpAny _ _ (call (Value.type _) [Value.ref _]) _ _ _); k_dflt (refine' tuple_led ?k1 ?k2 ?k3 ?k4 ?_; (case k1 => k_asm); (case k2 => k_asm); (case k3 => k_mem); (case k4 => omega); k_whole); intro D' h' F' N' l1; (try k_lt l1); (try k_sweep)))
theorem sum24 {ts : List Str} (h : ∀ t ∈ ts, t.length ≤ 24) : (ts.map (·.length)).sum ≤ 24 * ts.length := by
  induction ts with
  | nil => simp
  | cons a t ih =>
    have h1 := h a (.head _)
    have h2 := ih fun x hx => h x (.tail _ hx)
    simp only [List.map_cons, List.sum_cons, List.length_cons]
    omega
theorem join24 {ts : List Str} (h : ∀ t ∈ ts, t.length ≤ 24) : (Txt.join (Str.ofString ", ") ts).length ≤ 26 * ts.length := by
  refine join_len _ _ ?_
  have h1 := sum24 h
  have h2 : (Str.ofString ", ").length = 2 := by decide
  rw [h2]
  omega
theorem allLt_mem {l : List (Addr × Obj)} {D : Addr} (h : AllLt D l) : ∀ p ∈ l, p.1 < D := by
  induction l with
  | nil => intro p hp; cases hp
  | cons a t ih =>
    intro p hp
    rcases List.mem_cons.mp hp with rfl | hp
    · exact h.1
    · exact ih h.2 p hp
theorem fw_many {ts : List Str} (h : 1 < ts.length) : fwTx ts = Str.ofString "at tab sizes " ++ Txt.join (Str.ofString ", ") ts := by
  unfold fwTx
  rw [if_pos h]
  congr 1
theorem fw_one {ts : List Str} (h : ¬ 1 < ts.length) : fwTx ts = Str.ofString "at tab size " ++ Txt.join (Str.ofString ", ") ts := by
  unfold fwTx
  rw [if_neg h]
  congr 1
theorem ne_same {x y : Str} (h : x = y) (q : (x != y) = true) : False := by
  subst h
  simp at q
theorem off01 {R Kp Xs I : Addr} {ws : List Value} {c c' : St01} (h : ∀ p ∈ led01 R Kp Xs ws c, p.1 ≠ I) (e : c'.objs = c.objs) : ∀ p ∈ led01 R Kp Xs ws c', p.1 ≠ I := by
  intro p hp
  simp only [led01, List.mem_cons, e] at hp
  rcases hp with rfl | rfl | rfl | rfl | hp
  · exact h (16, tabObj c.ps) (.head _)
  · exact h (R, W.listOf c.rs.toArray c.n1) (.tail _ (.head _))
  · exact h (Kp, W.listOf c.ks.toArray c.n2) (.tail _ (.tail _ (.head _)))
  · exact h _ (.tail _ (.tail _ (.tail _ (.head _))))
  · exact h _ (.tail _ (.tail _ (.tail _ (.tail _ hp))))
theorem led_app01 {R Kp Xs I : Addr} {oI : Obj} {ws : List Value} {c : St01} {l : List (Addr × Obj)} (h : ∀ p ∈ (16, tabObj c.ps) :: (R, W.listOf c.rs.toArray c.n1) :: (Kp, W.listOf c.ks.toArray c.n2) :: (Xs, W.listOf ws.toArray 0) :: (I, oI) :: c.objs, p ∈ l) : ∀ p ∈ led01 R Kp Xs ws c ++ [(I, oI)], p ∈ l := by
  intro p hp
  apply h
  simp only [led01, List.mem_append, List.mem_cons, List.not_mem_nil, or_false] at hp ⊢
  rcases hp with (h | h | h | h | h) | h <;> simp [h]
theorem off_stored01 {z : Str} (h : stored01.contains z = false) : z ≠ Str.ofString "x" ∧ z ≠ Str.ofString "v" ∧ z ≠ Str.ofString "word" ∧ z ≠ Str.ofString "row" ∧ z ≠ Str.ofString "head" := by
  simp only [stored01, List.contains_cons, List.contains_nil, Bool.or_false, Bool.or_eq_false_iff, beq_eq_false_iff_ne, ne_eq] at h
  exact h
local macro_rules | `(tactic| walk_at "MAP01") => `(tactic| (intro z hz; simp only [mp01]; by_cases e0 : z = Str.ofString "want"; (subst e0; rfl); (cases e : stored01.contains z; (obtain ⟨z1, z2, z3, z4, z5⟩ := off_stored01 e; simp only [z1, z2, z3, z4, z5, e0, hz, e, if_false, Bool.false_eq_true]); (simp only [e0, if_false, if_true]; rfl))))
def RowOk (word : Str) (items : List Value) (ds : List Dat) : Prop :=
  ∃ f rest, items = f :: rest ∧ DatAll [] items ds ∧ (∀ d ∈ ds, dok 6 d = true) ∧ ((∃ n t, f = .int n t ∧ word = (toString n : Str) ∧ n.natAbs.log2 < 1920) ∨ ∃ t, f = .str word t)
abbrev rowObj (b : Bool) (items : List Value) : Obj := if b then W.listOf items.toArray 0 else tupOf items.toArray
def MidR (h₀ : Heap) (L : Addr) (m : Str → Option Value) (R Kp Xs I : Addr) (nw : List (Addr × Obj)) (s s' : Shared) : Prop :=
  ∃ (word : Str) (tw : Tok) (Rw : Addr) (b : Bool) (items : List Value) (ds : List Dat) (h : Heap) (tk : Nat) (m' : Str → Option Value), s' = { s with heap := h, toks := tk } ∧ Fr h₀ L h m' ∧ News h₀ L h ((Rw, rowObj b items) :: nw) ∧
    (∀ z, m' z = if z = Str.ofString "word" then some (.str word tw) else if z = Str.ofString "row" then some (.ref Rw) else if z = Str.ofString "x" then m' z else if z = Str.ofString "v" then m' z else m z) ∧
    RowOk word items ds ∧ items.length ≤ 1000 ∧ word.length ≤ 24 ∧ ((16 : Nat) < Rw ∧ @LT.lt Nat _ R Rw ∧ @LT.lt Nat _ Kp Rw ∧ @LT.lt Nat _ Xs Rw ∧ @LT.lt Nat _ I Rw)
theorem cutR {M : Model} {A : Around} {E : Value → Shared → Prop} {s : Shared} {env : Env} {Q : Flow → Shared → Prop} {l : List Stmt} {h₀ : Heap} {L : Addr} {m : Str → Option Value} (R Kp Xs I : Addr) {nw : List (Addr × Obj)}
    (F3 : Fr h₀ L s.heap m) (N3 : News h₀ L s.heap nw)
    (h1 : wpAny M A (execs (l.take 6) env) (CutEnd (MidR h₀ L m R Kp Xs I nw s)) E s) (h2 : ∀ s', MidR h₀ L m R Kp Xs I nw s s' → wpAny M A (execs (l.drop 6) env) Q E s') : wpAny M A (execs l env) Q E s := execs_cut 6 _ h1 h2
local macro_rules | `(tactic| walk_at "GOC") => `(tactic| repeat' ((fail_if_success (with_reducible show wpAny _ _ (execs (Stmt.Assign [Expr.Name (Str.ofString "x") _] _ _ :: _) _) _ _ _)); first | (k_unfold; (try dsimp only)) | (k_end; wrow_close) | walk1 | (dsimp only; walk1) | (leave1; walk_say "STEP leave1"; try dsimp only) | fail "no step"))
theorem strOk_of (x : String) : PyData.strOk (Str.ofString x) = true := by
  unfold PyData.strOk
  rw [← Array.all_toList, PyProof.Rows.signs_ofString, List.all_eq_true]
  intro c hc
  obtain ⟨k, _, rfl⟩ := List.mem_map.mp hc
  have : k.toNat < 1114112 := by
    have := k.valid
    simp only [UInt32.isValidChar, Nat.isValidChar] at this
    show k.val.toNat < 1114112
    omega
  exact decide_eq_true this
theorem strOk_num (n : Int) : PyData.strOk (numTx n) = true := strOk_of _
theorem strOk_app {x y : Str} (hx : PyData.strOk x = true) (hy : PyData.strOk y = true) : PyData.strOk (x ++ y) = true := by
  unfold PyData.strOk at *
  rw [Str.cps_append, Array.all_append, hx, hy]
  rfl
theorem item_txt4 {prog : Program} {w : World} {A : Around} {E : Value → Shared → Prop} {s : Shared} {h₀ : Heap} {L : Addr} {news : List (Addr × Obj)} {Q : Value → Shared → Prop} {value slice : PySem.Expr} {l : Addr} {t0 t1 t2 t3 : Str} {k0 k1 k2 k3 u : Tok} {n : Nat} {k : Int}
    (N : News h₀ L s.heap news) (hm : (l, W.listOf [.str t0 k0, .str t1 k1, .str t2 k2, .str t3 k3].toArray n) ∈ news) (h0 : 0 ≤ k) (h1 : k < 4) (h : ∀ y t, y = t0 ∨ y = t1 ∨ y = t2 ∨ y = t3 → Q (.str y t) s)
    (hs : subscripted slice false (.ref l) (.int k u) = operate [.ref l, .int k u] (getItem (.ref l) (.int k u))) :
    wpAny (model prog w) A (subscriptTail value slice (.ref l) (.int k u)) Q E s := by
  have : k.toNat = 0 ∨ k.toNat = 1 ∨ k.toNat = 2 ∨ k.toNat = 3 := by omega
  rcases this with e | e | e | e
  · exact item_ledL N hm h0 (by omega) (by rw [e]; rfl) (h t0 k0 (.inl rfl)) hs
  · exact item_ledL N hm h0 (by omega) (by rw [e]; rfl) (h t1 k1 (.inr (.inl rfl))) hs
  · exact item_ledL N hm h0 (by omega) (by rw [e]; rfl) (h t2 k2 (.inr (.inr (.inl rfl)))) hs
  · exact item_ledL N hm h0 (by omega) (by rw [e]; rfl) (h t3 k3 (.inr (.inr (.inr rfl)))) hs
theorem fm4 (v : Int) : 0 ≤ v.fmod 4 ∧ v.fmod 4 < 4 := ⟨Int.fmod_nonneg_of_pos _ (by decide), Int.fmod_lt_of_pos _ (by decide)⟩
local macro_rules | `(tactic| walk_at "subscriptTail List BinOp ref int") => `(tactic| (k_here; (with_reducible show wpAny _ _ (subscriptTail _ _ (Value.ref _) (Value.int _ _)) _ _ _); k_dflt (refine' item_txt4 ?N ?hm ?h0 ?h1 ?_ ?hs; (case N => k_asm); (case hm => k_mem); (case h0 => exact (fm4 _).1); (case h1 => exact (fm4 _).2); (case hs => with_unfolding_all rfl); k_whole); intro y9 t9 hy9))
def MidV (h₀ : Heap) (L : Addr) (m : Str → Option Value) (nw : List (Addr × Obj)) (s s' : Shared) : Prop :=
  ∃ (x v : Int) (tx tv tw : Tok) (h : Heap) (tk : Nat) (m' : Str → Option Value), s' = { s with heap := h, toks := tk } ∧ Fr h₀ L h m' ∧ News h₀ L h nw ∧
    (∀ z, m' z = if z = Str.ofString "word" then some (.str (numTx v) tw) else if z = Str.ofString "v" then some (.int v tv) else if z = Str.ofString "x" then some (.int x tx) else m z) ∧
    -(10 ^ 20) < v ∧ v < 10 ^ 20 ∧ (numTx v).length ≤ 21
theorem cutV {M : Model} {A : Around} {E : Value → Shared → Prop} {s : Shared} {env : Env} {Q : Flow → Shared → Prop} {l : List Stmt} {h₀ : Heap} {L : Addr} {m : Str → Option Value} {nw : List (Addr × Obj)}
    (F3 : Fr h₀ L s.heap m) (N3 : News h₀ L s.heap nw)
    (h1 : wpAny M A (execs (l.take 4) env) (CutEnd (MidV h₀ L m nw s)) E s) (h2 : ∀ s', MidV h₀ L m nw s s' → wpAny M A (execs (l.drop 4) env) Q E s') : wpAny M A (execs l env) Q E s := execs_cut 4 _ h1 h2
local macro_rules | `(tactic| walk_at "MAPV") => `(tactic| (intro z; by_cases e1 : z = Str.ofString "word"; (subst e1; rfl); by_cases e2 : z = Str.ofString "v"; (subst e2; rfl); by_cases e3 : z = Str.ofString "x"; (subst e3; rfl); (simp only [e1, e2, e3, if_false])))
local macro_rules | `(tactic| walk_at "GOI") => `(tactic| repeat' ((fail_if_success (with_reducible show wpAny _ _ (execs (Stmt.If _ _ _ _ :: _) _) _ _ _)); (fail_if_success (with_reducible show wpAny _ _ (subscriptTail _ _ _ _) _ _ _)); first | (k_unfold; (try dsimp only)) | (k_end; wrow_close) | walk1 | (dsimp only; walk1) | (leave1; walk_say "STEP leave1"; try dsimp only) | fail "no step"))
theorem lg20 {v : Int} (h1 : -(10 ^ 20) < v) (h2 : v < 10 ^ 20) : v.natAbs.log2 < 1920 := by
  by_cases h : v.natAbs = 0
  · rw [h]; decide
  · exact (Nat.log2_lt h).mpr (Nat.lt_of_lt_of_le (by omega : v.natAbs < 10 ^ 20) (by decide))
theorem rowOk_int {v : Int} {tv : Tok} {rest : List Value} {ds : List Dat} (h1 : -(10 ^ 20) < v) (h2 : v < 10 ^ 20) (hr : DatAll [] rest ds) (hd : ds.all (dok 6) = true) : RowOk (numTx v) (.int v tv :: rest) (.int v :: ds) :=
  ⟨_, _, rfl, .cons (.int _ _) hr, fun d hd' => by
    rcases List.mem_cons.mp hd' with rfl | hd'
    · rfl
    · exact List.all_eq_true.mp hd d hd', .inl ⟨v, tv, rfl, rfl, lg20 h1 h2⟩⟩
theorem rowOk_str {y : Str} {v : Int} {ty tv : Tok} (h : PyData.strOk y = true) : RowOk y [.str y ty, .int v tv] [.str y, .int v] :=
  ⟨_, _, rfl, .cons (.str _ _) (.cons (.int _ _) .nil), fun d hd' => by
    rcases List.mem_cons.mp hd' with rfl | hd'
    · exact h
    · rw [List.mem_singleton.mp hd']; rfl, .inr ⟨ty, rfl⟩⟩
theorem four_ok {y : Str} {v : Int} (hl : (numTx v).length ≤ 21) (h : y = Str.ofString "" ∨ y = Str.ofString "0" ++ numTx v ∨ y = numTx v ++ Str.ofString ", " ∨ y = Str.ofString "'") : PyData.strOk y = true ∧ y.length ≤ 24 := by
  rcases h with rfl | rfl | rfl | rfl
  · exact ⟨strOk_of _, by decide⟩
  · refine ⟨strOk_app (strOk_of _) (strOk_num v), ?_⟩
    rw [Str.length_append]
    have : (Str.ofString "0").length = 1 := by decide
    omega
  · refine ⟨strOk_app (strOk_num v) (strOk_of _), ?_⟩
    rw [Str.length_append]
    have : (Str.ofString ", ").length = 2 := by decide
    omega
  · exact ⟨strOk_of _, by decide⟩
local macro_rules | `(tactic| walk_at "MAPR") => `(tactic| (intro z; by_cases e1 : z = Str.ofString "word"; (subst e1; rfl); by_cases e2 : z = Str.ofString "row"; (subst e2; rfl); by_cases e3 : z = Str.ofString "x"; (subst e3; rfl); by_cases e4 : z = Str.ofString "v"; (subst e4; rfl); (simp only [e1, e2, e3, e4, if_false])))
local macro_rules | `(tactic| walk_at "subscriptTail Name Slice ref ref") => `(tactic| (k_here; (with_reducible show wpAny _ _ (subscriptTail _ _ (Value.ref _) (Value.ref _)) _ _ _); k_dflt (refine' whole_led ?F ?N ?hm ?_ ?hs; (case F => k_asm); (case N => k_asm); (case hm => k_mem); (case hs => with_unfolding_all rfl); k_whole); intro h' F' N'; (try k_sweep)))
local macro_rules | `(tactic| walk_at "subscriptTail Name Slice ref ref") => `(tactic| (k_here; (with_reducible show wpAny _ _ (subscriptTail _ _ (Value.ref _) (Value.ref _)) _ _ _); k_dflt (refine' copy_led ?F ?N ?hm ?hz ?_ ?hs ?ht; (case F => k_asm); (case N => k_asm); (case hm => k_mem); (case hz => assumption); (case hs => with_unfolding_all rfl); (case ht => (intro _; with_unfolding_all rfl)); k_whole); intro D' h' F' N' l1; (try k_lt l1); (try k_sweep)))
local macro_rules | `(tactic| walk_at "call builtin:list.append") => `(tactic| (k_here; dsimp only [List.cons_append, List.nil_append]; (with_reducible show wpAny _ _ (call (Value.builtin "list.append") [Value.ref _, _]) _ _ _); k_dflt (refine' append_led ?F ?N ?U ?hz ?_; (case F => k_asm); (case N => k_asm); (case U => k_upd); (case hz => omega); k_whole); intro h' F' N'; (try k_sweep)))
theorem sjoin_snoc (sep w : Str) : ∀ (ts : List Str), ts ≠ [] → Str.join sep (ts ++ [w]) = Str.join sep ts ++ sep ++ w
  | [], h => absurd rfl h
  | [x], _ => rfl
  | x :: y :: r, _ => by
    have ih := sjoin_snoc sep w (y :: r) (by simp)
    show x ++ sep ++ Str.join sep ((y :: r) ++ [w]) = x ++ sep ++ Str.join sep (y :: r) ++ sep ++ w
    rw [ih]
    simp only [Str.append_assoc]
theorem join_snoc (sep w : Str) {ts : List Str} (h : ts ≠ []) : Txt.join sep (ts ++ [w]) = Txt.join sep ts ++ sep ++ w := by
  rw [show ∀ l, Txt.join sep l = Str.join sep l from fun l => StrLaws.glued_eq_join sep l, show ∀ l, Txt.join sep l = Str.join sep l from fun l => StrLaws.glued_eq_join sep l]
  exact sjoin_snoc sep w ts h
theorem join_one (sep w : Str) : Txt.join sep [w] = w := StrLaws.glued_eq_join sep [w]
abbrev next01 (c : St01) (Rw Rk : Addr) (new : List (Addr × Obj)) (word : Str) (d : Dat) (want : Str) (tw : Tok) (u : Str → Option Value) : St01 :=
  ⟨c.ps, c.rs ++ [.ref Rw], c.ks ++ [.ref Rk], c.n1 + 1, c.n2 + 1, new ++ c.objs, want, tw, c.ts ++ [word], c.ds ++ [d], u⟩
theorem empty_app (x : Str) : Txt.join (Str.ofString ", ") [] ++ x = x := by
  apply str_ext'
  rw [Str.cps_append]
  rw [show Txt.join (Str.ofString ", ") [] = (⟨#[]⟩ : Str) from by decide +kernel]
  simp
theorem okStep {R Kp Xs : Addr} {i : Nat} {c : St01} {word : Str} {items : List Value} {ds : List Dat} {b : Bool} {Rw Rk : Addr} {new : List (Addr × Obj)} {d : Dat} {want : Str} {tw : Tok} {u : Str → Option Value}
    (hok : Ok01 R Kp Xs (i - 1) c) (hi : 0 < i) (hrow : RowOk word items ds) (hwl : word.length ≤ 24) (hw : (Rw, rowObj b items) ∈ new) (hk : (Rk, rowObj b items) ∈ new) (hd : d = if b then .list ds else .tuple ds)
    (hwant : want = if 1 < i then c.want ++ Str.ofString ", " ++ word else c.want ++ word) (hn : ∀ p ∈ new, p.1 ≠ 16 ∧ p.1 ≠ R ∧ p.1 ≠ Kp ∧ p.1 ≠ Xs) : Ok01 R Kp Xs i (next01 c Rw Rk new word d want tw u) := by
  obtain ⟨hTab, htl, hRows, hD1, hD2, hdk, hwa, htn, hobj⟩ := hok
  obtain ⟨f, rest, rfl, hDA, hdk6, hf⟩ := hrow
  have dat : ∀ a, (a, rowObj b (f :: rest)) ∈ new → DatIn (new ++ c.objs) (.ref a) d := by
    intro a ha
    have ha' := List.mem_append.mpr (Or.inl (b := (a, rowObj b (f :: rest)) ∈ c.objs) ha)
    have hDA' : DatAll (new ++ c.objs) (f :: rest) ds := hDA.mono fun p hp => by cases hp
    cases b
    · subst hd; exact DatIn.tuple (n := 0) ha' hDA'
    · subst hd; exact DatIn.list (n := 0) ha' hDA'
  have sub : ∀ p ∈ c.objs, p ∈ new ++ c.objs := fun p hp => List.mem_append.mpr (.inr hp)
  have htl' : (c.ts ++ [word]).length = i := by
    rw [List.length_append, htl, List.length_singleton]
    exact Nat.sub_add_cancel hi
  refine ⟨hTab, htl', (hRows.mono sub).snoc ?_, datAll_snoc (hD1.mono sub) (dat Rw hw), datAll_snoc (hD2.mono sub) (dat Rk hk), ?_, ?_, ?_, ?_⟩
  · refine ⟨Rw, (f :: rest).toArray, f, rfl, ?_, rfl, hf⟩
    have hw' := List.mem_append.mpr (Or.inl (b := (Rw, rowObj b (f :: rest)) ∈ c.objs) hw)
    cases b
    · exact .inr ⟨0, hw'⟩
    · exact .inl ⟨0, hw'⟩
  · intro d' hd'
    rcases List.mem_append.mp hd' with hd' | hd'
    · exact hdk d' hd'
    · rw [List.mem_singleton.mp hd', hd]
      cases b
      · simp only [Bool.false_eq_true, if_false, dok, List.all_eq_true]; exact hdk6
      · simp only [if_true, dok, List.all_eq_true]; exact hdk6
  · show want = Txt.join (Str.ofString ", ") (c.ts ++ [word])
    rw [hwant]
    by_cases h1 : 1 < i
    · rw [if_pos h1, join_snoc _ _ (by intro e; rw [e] at htl; simp at htl; omega), hwa]
    · have e : c.ts = [] := List.length_eq_zero_iff.mp (by omega)
      rw [if_neg h1, e, List.nil_append, join_one, hwa, e, empty_app]
  · intro t ht
    rcases List.mem_append.mp ht with ht | ht
    · exact htn t ht
    · rw [List.mem_singleton.mp ht]; exact hwl
  · intro p hp
    rcases List.mem_append.mp hp with hp | hp
    · exact hn p hp
    · exact hobj p hp
theorem offStep {R Kp Xs I : Addr} {ws : List Value} {c : St01} {Rw Rk : Addr} {new : List (Addr × Obj)} {word : Str} {d : Dat} {want : Str} {tw : Tok} {u : Str → Option Value} (h : ∀ p ∈ led01 R Kp Xs ws c, p.1 ≠ I) (hn : ∀ p ∈ new, p.1 ≠ I) : ∀ p ∈ led01 R Kp Xs ws (next01 c Rw Rk new word d want tw u), p.1 ≠ I := by
  intro p hp
  simp only [led01, next01, List.mem_cons, List.mem_append] at hp
  rcases hp with rfl | rfl | rfl | rfl | hp | hp
  · exact h (16, tabObj c.ps) (.head _)
  · exact h (R, W.listOf c.rs.toArray c.n1) (.tail _ (.head _))
  · exact h (Kp, W.listOf c.ks.toArray c.n2) (.tail _ (.tail _ (.head _)))
  · exact h _ (.tail _ (.tail _ (.tail _ (.head _))))
  · exact hn _ hp
  · exact h _ (.tail _ (.tail _ (.tail _ (.tail _ hp))))
theorem new1 {P : Addr → Prop} {a : Addr} {o : Obj} (h : P a) : ∀ p ∈ [(a, o)], P p.1 := fun p hp => by rw [List.mem_singleton.mp hp]; exact h
theorem new2 {P : Addr → Prop} {a b : Addr} {o o' : Obj} (h : P a) (h' : P b) : ∀ p ∈ [(a, o), (b, o')], P p.1 := fun p hp => by
  rcases List.mem_cons.mp hp with rfl | hp
  · exact h
  · rw [List.mem_singleton.mp hp]; exact h'
theorem row_short {word : Str} {items : List Value} {ds : List Dat} : RowOk word items ds → True := fun _ => trivial
local macro_rules | `(tactic| walk_at "MAPK") => `(tactic| (intro z; simp only [mp01, next01]; by_cases hz : z = Str.ofString "k"; (subst hz; rfl); by_cases e0 : z = Str.ofString "want"; (subst e0; rfl); (cases e : stored01.contains z; (obtain ⟨z1, z2, z3, z4, z5⟩ := off_stored01 e; simp only [z1, z2, z3, z4, z5, e0, hz, e, if_false, Bool.false_eq_true]); (simp only [e0, hz, if_false, if_true]; rfl))))
theorem t01 : PySem.Challenge.rw_dn0186_01.Holds := by
  refine hd01 ?_
  w_strict (
    k_fill
    intro w s₀ s₁ mg mb G Y fa o pm cd doc dV kV ho hd hcd hD hmg hg args vals as hpre hlay hrd hwl hlo
    have KX := kIn_of Y
    have X := (Ground.X G).1
    have V := (Ground.X G).2
    refine Ground.open G ?_
    intro T B D TE TW
    try (refine guard_noD D (by decide +kernel) ?_; clear D)
    have hT9 : TabsAt ((20, 16) :: []) _ := List.forall_mem_cons.mpr ⟨tab_of (x := Str.ofString "format_witnesses") (c := 20) (P := 16) T KX rfl (by kernel_rfl), fun _ h => nomatch h⟩
    clear hmg
    wrow_args hpre hlay hrd hwl hlo
    all_goals (
      first | refine callC_kw (enter_call ?_) | refine enter_call ?_
      w_top on
      refine kn_postT hT9 (fun _ => rfl) ?hpost ?_; (case hpost => (with_unfolding_all rfl))
      w_call any ho hd hcd hD T F
      clear hd
      kn_ghosts F T
      k_drop
      skip)
    (all_goals try k_fold)
    walk_at "GO"
    rename Fr _ _ _ _ => F1
    rename News _ _ _ _ => N1
    rename IntsAre _ (List.take 12 _) => hI1
    rename (List Int) => ns
    rename IsRange _ _ _ _ _ _ _ _ => hr1
    rename (List.take 12 ns).length = _ => hlen12
    have hlen9 : (List.take 12 ns).length ≤ 12 := by rw [hlen12]; omega
    have N2 := news_sub (l' := [_, _, _, _]) N1 (List.forall_mem_cons.mpr ⟨.tail _ (.tail _ (.tail _ (.head _))), List.forall_mem_cons.mpr ⟨.tail _ (.head _), List.forall_mem_cons.mpr ⟨.head _, List.forall_mem_cons.mpr ⟨.tail _ (.tail _ (.head _)), List.forall_mem_nil _⟩⟩⟩⟩)
    obtain ⟨mr, hmr, F2⟩ : ∃ mr : Str → Option Value, mr = _ ∧ Fr _ _ _ (fun y => if y = Str.ofString "want" then _ else mr y) := ⟨_, rfl, F1⟩
    clear F1 N1
    k_sweep
    rename_i Xs ws _ _ lx _ R _ lr _ Kp _ lk _ _ _ _ _ _ _ _ _ _
    have hG1 : AllBare s₁.gens := by rw [hg]; exact .of_eq rfl
    have hn1 : Builtin.Range.rangeSize 0 (((List.take 12 ns).length : Int) + 1) 1 = (((List.take 12 ns).length + 1 : Nat) : Int) := rsize ((List.take 12 ns).length + 1)
    refine' range_ledG (σ := St01) (mp01 mr) (led01 R Kp Xs ws) (fun i c => Ok01 R Kp Xs (i - 1) c) (fun c => TabForm ⟨3, 13, 3, 39⟩ c.ps) ⟨#[], [], [], _, _, [], Str.ofString "", _, [], [], mr⟩ rfl rfl rfl (by passes_own) hr1 (small_one (by omega) (by omega) (by omega) (by omega)) hn1 F2 N2 hG1 (fun p hp => hp) ?hmap ?hinit ?hturn ?hends ?hdone
    case hmap =>
      intro z hz
      simp only [mp01]
      split
      · rfl
      · split <;> rfl
    case hinit => exact ⟨.inl rfl, rfl, ⟨rfl, fun i v e => nomatch e⟩, .nil, .nil, (fun d h => nomatch h), rfl, (fun t h => nomatch h), fun p h => nomatch h⟩
    case hends => intro c hc; exact hc.1
    case hdone =>
      intro c u h tk gs hc hGs F3 N3
      subst hmr
      dsimp only [mp01, led01] at F3 N3
      (try k_fold)
      walk_at "GO"
      exact ⟨rfl, F3.keep, rfl, hGs, ⟨_, (N3 _ (.head _)).1⟩, trivial⟩
    case hturn =>
      intro i t c I oI h tk gs hi hc hGs hoff F3 N3
      refine cut01 hoff F3 N3 ?hA ?hB
      case hA =>
        have hc0 := hc
        obtain ⟨hTab, htl, hRows, hD1, hD2, hdk, hwant, htn, hobj⟩ := hc
        have N5 := news_sub N3 (l' := (16, _) :: (_, _) :: (_, _) :: (_, _) :: (I, oI) :: c.objs) (fun p hp => (by
          simp only [led01, List.mem_append, List.mem_cons, List.not_mem_nil, or_false] at hp ⊢
          rcases hp with h | h | h | h | h | h
          · exact .inl (.inl h)
          · exact .inl (.inr (.inl h))
          · exact .inl (.inr (.inr (.inl h)))
          · exact .inl (.inr (.inr (.inr (.inl h))))
          · exact .inr h
          · exact .inl (.inr (.inr (.inr (.inr h))))))
        have q1 := neN (hoff _ (.head _))
        have q2 := neN (hoff _ (.tail _ (.head _)))
        have q3 := neN (hoff _ (.tail _ (.tail _ (.head _))))
        have q4 := neN (hoff _ (.tail _ (.tail _ (.tail _ (.head _)))))
        have q6 : ∀ p ∈ c.objs, p.1 ≠ R := fun p hp => (hobj p hp).2.1
        have q7 : ∀ p ∈ c.objs, p.1 ≠ Kp := fun p hp => (hobj p hp).2.2.1
        have q8 : ∀ p ∈ c.objs, p.1 ≠ I := fun p hp => hoff p (.tail _ (.tail _ (.tail _ (.tail _ hp))))
        have hrl : c.rs.length = c.ts.length := hRows.1
        have hkl : c.ks.length = c.ts.length := by rw [hD2.length, ← hD1.length, hrl]
        have hwl : c.want.length ≤ 102000 := by have := join24 htn; rw [hwant]; omega
        (try clear hr1)
        (try clear N2)
        (try clear F2)
        clear N3
        dsimp only at q1 q2 q3 q4
        subst hmr
        dsimp only [mp01, led01] at F3 N5
        dsimp only [List.take]
        (try k_fold)
        walk_at "GOC"
        · refine cutR R Kp Xs I F3 N5 ?hA1 ?hA2
          case hA1 =>
            dsimp only [List.take]
            (try k_fold)
            refine cutV F3 N5 ?hV1 ?hV2
            case hV1 =>
              dsimp only [List.take]
              (try k_fold)
              walk_at "GO"
              · rename Fr _ _ _ _ => Fz
                rename News _ _ _ _ => Nz
                refine' ⟨rfl, _, _, _, _, _, _, _, _, rfl, Fz, Nz, ?hm1, v20a _, v20b _, by assumption⟩
                case hm1 => walk_at "MAPV"
              · rename Fr _ _ _ _ => Fz
                rename News _ _ _ _ => Nz
                refine' ⟨rfl, _, _, _, _, _, _, _, _, rfl, Fz, Nz, ?hm2, v20c _, v20d _, by assumption⟩
                case hm2 => walk_at "MAPV"
            case hV2 =>
              rintro s' ⟨x, v, tx, tv, tw, h3, tk3, m3, rfl, F4, N4, hm3, hv1, hv2, hvl⟩
              obtain rfl : m3 = _ := funext hm3
              clear F3 N5 hm3
              dsimp only [List.drop]
              (try k_fold)
              walk_at "GOI"
              (repeat ((with_reducible show wpAny _ _ (execs (Stmt.If _ _ _ _ :: _) _) _ _ _); walk1))
              walk_at "GOI"
              · rename Fr _ _ _ _ => Fz
                rename News _ _ _ _ => Nz
                refine' ⟨rfl, _, _, _, false, _, _, _, _, _, rfl, Fz, news_sub Nz (List.forall_mem_cons.mpr ⟨.head _, by walk_at "SUB"⟩), ?hm3, rowOk_int hv1 hv2 (.cons (.int _ _) (.cons (.int _ _) .nil)) rfl, Nat.le_of_ble_eq_true rfl, by omega, by omega⟩
                case hm3 => walk_at "MAPR"
              (repeat ((with_reducible show wpAny _ _ (execs (Stmt.If _ _ _ _ :: _) _) _ _ _); walk1))
              walk_at "GOI"
              · rename Fr _ _ _ _ => Fz
                rename News _ _ _ _ => Nz
                refine' ⟨rfl, _, _, _, true, _, _, _, _, _, rfl, Fz, news_sub Nz (List.forall_mem_cons.mpr ⟨.head _, by walk_at "SUB"⟩), ?hm4, rowOk_int hv1 hv2 (.cons (.str _ _) .nil) (by simp only [List.all_cons, List.all_nil, Bool.and_true]; exact strOk_of _), Nat.le_of_ble_eq_true rfl, by omega, by omega⟩
                case hm4 => walk_at "MAPR"
              (repeat ((with_reducible show wpAny _ _ (execs (Stmt.If _ _ _ _ :: _) _) _ _ _); walk1))
              walk_at "GOI"
              · rename News _ _ _ _ => Nq
                refine item_txt4 Nq (.head _) (fm4 _).1 (fm4 _).2 ?_ (by with_unfolding_all rfl)
                intro y9 t9 hy9
                have hy8 := four_ok hvl hy9
                clear hy9
                walk_at "GO"
                rename Fr _ _ _ _ => Fz
                rename News _ _ _ _ => Nz
                refine' ⟨rfl, _, _, _, false, _, _, _, _, _, rfl, Fz, news_sub Nz (List.forall_mem_cons.mpr ⟨.head _, by walk_at "SUB"⟩), ?hm5, rowOk_str hy8.1, Nat.le_of_ble_eq_true rfl, hy8.2, by omega⟩
                case hm5 => walk_at "MAPR"
              · rename Fr _ _ _ _ => Fz
                rename News _ _ _ _ => Nz
                refine' ⟨rfl, _, _, _, false, _, _, _, _, _, rfl, Fz, news_sub Nz (List.forall_mem_cons.mpr ⟨.head _, by walk_at "SUB"⟩), ?hm6, rowOk_int hv1 hv2 .nil rfl, Nat.le_of_ble_eq_true rfl, by omega, by omega⟩
                case hm6 => walk_at "MAPR"
          case hA2 =>
            rintro s' ⟨word, tw, Rw, b, items, ds, h3, tk3, m3, rfl, F4, N4, hm3, hrow, hil0, hwl3, hlt⟩
            have F5 := F4
            rw [show m3 = _ from funext hm3] at F5
            clear F3 N5 F4 hm3
            dsimp only [List.drop]
            have hil : items.length ≤ 1000000 := by omega
            cases b
            · simp only [rowObj, Bool.false_eq_true, if_false] at N4
              (try k_fold)
              walk_at "GO"
              · rename Fr _ _ _ _ => Fz
                rename News _ _ _ _ => Nz
                refine' ⟨rfl, next01 c Rw _ [(Rw, rowObj false items)] word (if false then .list ds else .tuple ds) _ _ _, _, _, _, rfl, Fz, news_sub Nz (led_app01 ?hs11), ?hm11, offStep hoff (new1 (P := fun a => a ≠ I) (neN (by omega))), okStep (b := false) (items := items) (ds := ds) hc0 (by omega) hrow hwl3 (.head _) (.head _) rfl ?hw11 (new1 (P := fun a => a ≠ 16 ∧ a ≠ R ∧ a ≠ Kp ∧ a ≠ Xs) ⟨neN (by omega), neN (by omega), neN (by omega), neN (by omega)⟩)⟩
                case hw11 => exact (if_pos (by omega)).symm
                case hs11 => (intro p hp; simp only [next01, rowObj, Bool.false_eq_true, if_false, if_true, List.cons_append, List.nil_append, List.mem_cons] at hp ⊢; rcases hp with h | h | h | h | h | h | h <;> simp [h])
                case hm11 => walk_at "MAPK"
              · rename Fr _ _ _ _ => Fz
                rename News _ _ _ _ => Nz
                refine' ⟨rfl, next01 c Rw _ [(Rw, rowObj false items)] word (if false then .list ds else .tuple ds) _ _ _, _, _, _, rfl, Fz, news_sub Nz (led_app01 ?hs12), ?hm12, offStep hoff (new1 (P := fun a => a ≠ I) (neN (by omega))), okStep (b := false) (items := items) (ds := ds) hc0 (by omega) hrow hwl3 (.head _) (.head _) rfl ?hw12 (new1 (P := fun a => a ≠ 16 ∧ a ≠ R ∧ a ≠ Kp ∧ a ≠ Xs) ⟨neN (by omega), neN (by omega), neN (by omega), neN (by omega)⟩)⟩
                case hw12 => exact (if_neg (by omega)).symm
                case hs12 => (intro p hp; simp only [next01, rowObj, Bool.false_eq_true, if_false, if_true, List.cons_append, List.nil_append, List.mem_cons] at hp ⊢; rcases hp with h | h | h | h | h | h | h <;> simp [h])
                case hm12 => walk_at "MAPK"
            · simp only [rowObj, if_true] at N4
              (try k_fold)
              walk_at "GO"
              · rename Fr _ _ _ _ => Fz
                rename News _ _ _ _ => Nz
                obtain ⟨Dk, hDk, _⟩ : ∃ Dk : Addr, Dk = _ ∧ News _ _ _ ((Dk, _) :: _) := ⟨_, rfl, Nz⟩
                subst hDk
                refine' ⟨rfl, next01 c Rw Dk [(Dk, rowObj true items), (Rw, rowObj true items)] word (if true then .list ds else .tuple ds) _ _ _, _, _, _, rfl, Fz, news_sub Nz (led_app01 ?hs13), ?hm13, offStep hoff (new2 (P := fun a => a ≠ I) (neN (by omega)) (neN (by omega))), okStep (b := true) (items := items) (ds := ds) hc0 (by omega) hrow hwl3 (.tail _ (.head _)) (.head _) rfl ?hw13 (new2 (P := fun a => a ≠ 16 ∧ a ≠ R ∧ a ≠ Kp ∧ a ≠ Xs) ⟨neN (by omega), neN (by omega), neN (by omega), neN (by omega)⟩ ⟨neN (by omega), neN (by omega), neN (by omega), neN (by omega)⟩)⟩
                case hw13 => exact (if_pos (by omega)).symm
                case hs13 => (intro p hp; simp only [next01, rowObj, Bool.false_eq_true, if_false, if_true, List.cons_append, List.nil_append, List.mem_cons] at hp ⊢; rcases hp with h | h | h | h | h | h | h | h <;> simp [h])
                case hm13 => walk_at "MAPK"
              · rename Fr _ _ _ _ => Fz
                rename News _ _ _ _ => Nz
                obtain ⟨Dk, hDk, _⟩ : ∃ Dk : Addr, Dk = _ ∧ News _ _ _ ((Dk, _) :: _) := ⟨_, rfl, Nz⟩
                subst hDk
                refine' ⟨rfl, next01 c Rw Dk [(Dk, rowObj true items), (Rw, rowObj true items)] word (if true then .list ds else .tuple ds) _ _ _, _, _, _, rfl, Fz, news_sub Nz (led_app01 ?hs14), ?hm14, offStep hoff (new2 (P := fun a => a ≠ I) (neN (by omega)) (neN (by omega))), okStep (b := true) (items := items) (ds := ds) hc0 (by omega) hrow hwl3 (.tail _ (.head _)) (.head _) rfl ?hw14 (new2 (P := fun a => a ≠ 16 ∧ a ≠ R ∧ a ≠ Kp ∧ a ≠ Xs) ⟨neN (by omega), neN (by omega), neN (by omega), neN (by omega)⟩ ⟨neN (by omega), neN (by omega), neN (by omega), neN (by omega)⟩)⟩
                case hw14 => exact (if_neg (by omega)).symm
                case hs14 => (intro p hp; simp only [next01, rowObj, Bool.false_eq_true, if_false, if_true, List.cons_append, List.nil_append, List.mem_cons] at hp ⊢; rcases hp with h | h | h | h | h | h | h | h <;> simp [h])
                case hm14 => walk_at "MAPK"
        · have hi0 : i = 0 := by omega
          refine ⟨rfl, c, h, _, _, rfl, F3, news_sub N5 (led_app01 fun p hp => hp), fun z => rfl, hoff, hTab, by omega, hRows, hD1, hD2, hdk, hwant, htn, hobj⟩
      case hB =>
        rintro s' ⟨c2, h2, tk2, m2, rfl, F4, N4, hm2, hoff2, hok⟩
        obtain ⟨hTab, htl, hRows, hD1, hD2, hdk, hwant, htn, hobj⟩ := hok
        clear F3 N3 hoff hc
        (try clear hr1)
        (try clear N2)
        (try clear F2)
        have N5 := news_sub (l' := (16, _) :: (_, _) :: (_, _) :: (_, _) :: (I, oI) :: c2.objs) N4 (fun p hp => (by
          simp only [led01, List.mem_append, List.mem_cons, List.not_mem_nil, or_false] at hp ⊢
          rcases hp with h | h | h | h | h | h
          · exact .inl (.inl h)
          · exact .inl (.inr (.inl h))
          · exact .inl (.inr (.inr (.inl h)))
          · exact .inl (.inr (.inr (.inr (.inl h))))
          · exact .inr h
          · exact .inl (.inr (.inr (.inr (.inr h))))))
        have q1 := neN (hoff2 _ (.head _))
        have q2 := neN (hoff2 _ (.tail _ (.head _)))
        have q3 := neN (hoff2 _ (.tail _ (.tail _ (.head _))))
        have q4 := neN (hoff2 _ (.tail _ (.tail _ (.tail _ (.head _)))))
        have q5 : ∀ p ∈ c2.objs, p.1 ≠ 16 := fun p hp => (hobj p hp).1
        have hrl : c2.rs.length = c2.ts.length := hRows.1
        have hsum : (c2.ts.map (·.length)).sum ≤ 100000 := by have := sum24 htn; omega
        have hjl : (Txt.join (Str.ofString ", ") c2.ts).length ≤ 102000 := by have := join24 htn; omega
        have hwl : c2.want.length ≤ 102000 := by rw [hwant]; exact hjl
        clear N4
        dsimp only at q1 q2 q3 q4
        obtain rfl : m2 = _ := funext hm2
        subst hmr
        dsimp only [mp01, led01] at F4 N5
        dsimp only [List.drop]
        (try k_fold)
        clear hm2
        walk_at "GO"
        · rename (_ != _) = true => q9
          exact (ne_same (by rw [fw_many (by omega), hwant]) q9).elim
        · rename News _ _ _ _ => Nz
          refine ne_dat (d := .list c2.ds) Nz (DatIn.list (by k_mem) (hD1.mono (by walk_at "SUB"))) (DatIn.list (by k_mem) (hD2.mono (by walk_at "SUB"))) (by simp only [dok, List.all_eq_true]; exact hdk) (by ktr_units) ?_
          walk_at "GO"
          rename Fr _ _ _ _ => Fy
          rename News _ _ _ _ => Ny
          rename TabForm _ _ => hf9
          rename AllBare _ => hG9
          refine' ⟨{ c2 with ps := _, u := _ }, _, _, _, _, rfl, hG9, Fy, news_sub Ny (led_app01 ?hs1), ?hm1, off01 hoff2 (by rfl), hf9, by simpa using htl, hRows, hD1, hD2, hdk, hwant, htn, hobj⟩
          case hs1 => walk_at "SUB"
          case hm1 => walk_at "MAP01"
        · rename (_ != _) = true => q9
          exact (ne_same (by rw [fw_one (by omega), hwant]) q9).elim
        · rename News _ _ _ _ => Nz
          refine ne_dat (d := .list c2.ds) Nz (DatIn.list (by k_mem) (hD1.mono (by walk_at "SUB"))) (DatIn.list (by k_mem) (hD2.mono (by walk_at "SUB"))) (by simp only [dok, List.all_eq_true]; exact hdk) (by ktr_units) ?_
          walk_at "GO"
          rename Fr _ _ _ _ => Fy
          rename News _ _ _ _ => Ny
          rename TabForm _ _ => hf9
          rename AllBare _ => hG9
          refine' ⟨{ c2 with ps := _, u := _ }, _, _, _, _, rfl, hG9, Fy, news_sub Ny (led_app01 ?hs2), ?hm2, off01 hoff2 (by rfl), hf9, by simpa using htl, hRows, hD1, hD2, hdk, hwant, htn, hobj⟩
          case hs2 => walk_at "SUB"
          case hm2 => walk_at "MAP01")

end
end Mine
theorem PySem.Challenge.cw_dn0186_01_holds : PySem.Challenge.rw_dn0186_01.Holds :=
  Mine.t01
