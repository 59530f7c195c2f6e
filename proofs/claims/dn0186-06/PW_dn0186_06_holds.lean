import PyProof.Rows.All
import Wide.All
import OpenK.AllK
import Wide.FinOn
import PySem.Challenge.RW_dn0186_06
open PySem PySem.W PyProof.Rows
set_option Elab.async false
set_option maxRecDepth 100000
set_option maxHeartbeats 8000000
set_option linter.unusedSimpArgs false
set_option linter.unusedVariables false
namespace Mine
open_top hd06 for PySem.Challenge.rw_dn0186_06

section
open PySem PySem.W PyProof.Rows PySem.Calls PySem.Spec


/-! Growth: a caller's facts behind a pure callee. -/
theorem fr_stays {h₀ h h' : Heap} {L : Addr} {m : Str → Option Value} (F : Fr h₀ L h m) (st : h.StaysIn h') : Fr h₀ L h' m :=
  ⟨F.ns.at' fun o e => st _ o e, fun b o e => st b o (F.keep b o e), F.above⟩
theorem news_stays {h₀ h h' : Heap} {L : Addr} {news : List (Addr × Obj)} (N : News h₀ L h news) (st : h.StaysIn h') : News h₀ L h' news :=
  fun p hp => ⟨st _ _ (N p hp).1, (N p hp).2⟩
theorem news_sub {h₀ h : Heap} {L : Addr} {l l' : List (Addr × Obj)} (N : News h₀ L h l) (hs : ∀ p ∈ l', p ∈ l) : News h₀ L h l' := fun p hp => N p (hs p hp)
theorem news_app {h₀ h : Heap} {L : Addr} {l l' : List (Addr × Obj)} (N : News h₀ L h l) (N' : News h₀ L h l') : News h₀ L h (l ++ l') :=
  fun p hp => (List.mem_append.mp hp).elim (N p) (N' p)
theorem allNe_of_lt {l : List (Addr × Obj)} {d a : Addr} (h : ∀ p ∈ l, p.1 < d) (hd : d ≤ a) : ∀ p ∈ l, p.1 ≠ a :=
  fun p hp => Nat.ne_of_lt (Nat.lt_of_lt_of_le (h p hp) hd)

section
variable {prog : Program} {w : World} {A A₀ : Around} {E : Value → Shared → Prop} {s : Shared} {K : Frag} {C L : Addr} {h₀ base : Heap} {m mg mb : Str → Option Value} {news : List (Addr × Obj)} {p : Program} {loose : List Str} {mean : ExcName → Option Value} {Q : Value → Shared → Prop}

/-- A class is called: the new object lies just behind the heap as it was. -/
theorem call_clsH {pos : List Value} {kw : List (Str × Value)} {fI : Addr} (F : Fr h₀ L s.heap m) (X₀ : K.In h₀) (hm : makesIn K C = true) (hi : findIn K (.ref C) "__init__" = some (some (.ref fI))) (hf : isFn K (.ref fI) = true)
    (h : ∀ x dx h', s.heap.StaysIn h' → s.heap.objs.size ≤ dx → dx < x → Fr h₀ L h' m → News h₀ L h' [(x, instObj C dx), (dx, dictOf [] 0)] →
      codeAny (model prog w) (A.under (.builtin "type.__call__" ⟨.ref C :: pos, kw⟩)) (.call (.ref fI) ⟨.ref x :: pos, kw⟩) (InitBack x fun r s' => match r with | .ok (.ret v) => Q v s' | .ok _ => False | .error e => E e s') { s with heap := h' }) :
    wpAny (model prog w) A (call (.ref C) pos kw) Q E s := by
  have X := X₀.keeps F.keep
  refine wpAny_call ?_
  obtain ⟨hh, g, d, t, os⟩ := s
  refine make_core (makes_of X hm) (looks_findIn X hi) (fun self => bind_fn X self (beq_iff_eq.mp hf)) (.inl rfl)
    (h _ hh.objs.size _ (fun b o e => Heap.get?_push_of_some _ (Heap.get?_push_of_some _ e)) (Nat.le_refl _) (Nat.lt_succ_self _) ((F.push _).push _) ?_)
  have := ((News.nil (h₀ := h₀) (h := hh) (L := L)).push F emptyDict).push (F.push _) (instObj C hh.objs.size)
  rwa [Heap.size_push] at this

/-- A def is called: all that the ledger does not name stands behind the callee's frame, as it was. -/
theorem code_defH {env : Env} {outer : List Env} {R : Result → Shared → Prop} {name qual : Str} {params : Arguments} {body : List Stmt} {scope : Scope} {dV kV doc pm cdv ct oc : Value} {an od : Option Addr} {osl : Array (Option Value)} {f : Addr} {args : Args} {binds : List (Str × Value)}
    (B : Below A₀ base outer h₀) (F : Fr h₀ L s.heap m) (X₀ : K.In h₀) (N : News h₀ L s.heap news) (T : Top p loose mean mg mb h₀) (hA : A.frames = some (env :: outer)) (hf : env.frame = some L) (hke : env.scope.kind = .function)
    (ho : K.lookup f = some ⟨oc, od, .func (fnOf name qual params body scope dV kV doc pm an cdv ct), osl⟩) (hcd : codeIn K cdv qual = true) (hroom : A.depth < recursionLimit)
    (hbind : BindsTo s (fnOf name qual params body scope dV kV doc pm an cdv ct) args binds) (hloc : ∀ y ∈ binds, scope.names.lookup y.1 = some .local)
    (h : ∀ g L' h₁, (∀ b o, s.heap.get? b = some o → b ∉ news.map (·.1) → g.get? b = some o) → s.heap.objs.size ≤ L' → Fr h₀ L g m → Fr g L' h₁ (fun y => binds.reverse.lookup y) → News g L' h₁ news → Below A base (env :: outer) g → K.In g → Top p loose mean mg mb g →
      wpAny (model prog w) (A.deeper (envOf qual scope L' f cdv)) (execs body (envOf qual scope L' f cdv))
        (fun fl s' => LeaveK h₀ L m g R (match fl with | .ret v => v | _ => .none) s')
        (fun e s' => wpAny (model prog w) (A.deeper (envOf qual scope L' f cdv)) (leaving (envOf qual scope L' f cdv) e) (fun _ s'' => R (.error e) s'') (fun e' s'' => R (.error e') s'') s')
        { s with heap := h₁, toks := s.toks + binds.length })
    (hco : scope.isCoroutine = false) (hgen : scope.isGenerator = false) (hk : scope.kind = .function)
    (hcell : ∀ x ∈ scope.names, x.2 ≠ .cell) : codeAny (model prog w) A (.call (.ref f) args) R s := by
  obtain ⟨FG, BG, st, lv⟩ := groundX (R := R) B F N hA hf hke
  refine codeAny_call_def (fd := fnOf name qual params body scope dV kV doc pm an cdv ct) (body := body) (binds := binds) hroom ((X₀.keeps F.keep) _ _ ho) rfl (T.nolimit.keeps F.keep) (codeRec_of (X₀.keeps F.keep) hcd) rfl hbind hcell hloc (fun h₁ hns hk₁ => ?_) hco hgen hk
  exact wpAny_mono (h _ s.heap.objs.size h₁ (fun b o e hb => hideAll_get _ e hb) (Nat.le_refl _) FG ⟨hns, fun b o e => hk₁ b o (of_hideAll _ e), Nat.le_of_eq (hideAll_size _ _)⟩
    (fun p hp => ⟨hk₁ _ _ (N p hp).1, Nat.ne_of_lt (Heap.lt_size (N p hp).1), hideAll_none _ (List.mem_map_of_mem hp)⟩) BG (X₀.keeps st) (T.keeps st)) (fun fl s' hl => lv _ _ hl) fun _ _ y => y
end

/-! Loops by an invariant over a state of one's own: the frame's map and the ledger are functions of it. -/
section
variable {prog : Program} {w : World} {A : Around} {E : Value → Shared → Prop} {s : Shared} {env : Env} {h₀ : Heap} {x : Str} {body : List Stmt} {Q : Flow → Shared → Prop}

/-- How a turn ends: it goes on with the next state, or breaks off with a state that Ex tells, or returns. -/
def TurnEnd {σ : Type} (h₀ : Heap) (L : Addr) (x : Str) (mp : σ → Str → Option Value) (led : σ → List (Addr × Obj)) (Inv Ex : σ → Prop) (I : Addr) (oI : Obj) (Q : Flow → Shared → Prop) (s₁ : Shared) (f : Flow) (s₂ : Shared) : Prop :=
  match f with
  | .ret v => Q (.ret v) s₂
  | .brk => ∃ (c : σ) (h' : Heap) (tk : Nat) (m' : Str → Option Value), s₂ = { s₁ with heap := h', toks := tk } ∧ Fr h₀ L h' m' ∧ News h₀ L h' (led c) ∧ (∀ z, z ≠ x → m' z = mp c z) ∧ Ex c
  | _ => ∃ (c : σ) (h' : Heap) (tk : Nat) (m' : Str → Option Value), s₂ = { s₁ with heap := h', toks := tk } ∧ Fr h₀ L h' m' ∧ News h₀ L h' (led c ++ [(I, oI)]) ∧ (∀ z, z ≠ x → m' z = mp c z) ∧ (∀ p ∈ led c, p.1 ≠ I) ∧ Inv c

theorem map_off {mp : Str → Option Value} {m₁ : Str → Option Value} {v : Value} (h : ∀ z, z ≠ x → m₁ z = mp z) : (fun y => if y = x then some v else m₁ y) = fun y => if y = x then some v else mp y := by
  funext y
  by_cases hy : y = x
  · simp [hy]
  · simp only [if_neg hy]; exact h y hy
theorem map_off' {mp : Str → Option Value} {m₁ : Str → Option Value} (h : ∀ z, z ≠ x → m₁ z = mp z) : m₁ = fun y => if y = x then m₁ y else mp y := by
  funext y
  by_cases hy : y = x
  · simp [hy]
  · simp only [if_neg hy]; exact h y hy

theorem loop_led {σ : Type} {I : Addr} {fp : List Addr} {n : Nat} {P : Nat → Value → Prop} {St : Nat → Heap → Prop} {m₀ : Str → Option Value}
    (mp : σ → Str → Option Value) (led : σ → List (Addr × Obj)) (Inv : Nat → σ → Prop) (Ex : σ → Prop) (c₀ : σ)
    (W : Walks prog w A I fp [I] n P St) (hit : ∀ i h, St i h → ∃ o, h.get? I = some o) (hfp : ∀ b ∈ fp, b = I ∨ (∃ o, h₀.get? b = some o) ∨ ∃ o, ∀ c, (b, o) ∈ led c)
    (hLf : env.locals ∉ fp) (hI0 : h₀.get? I = none) (hst : St 0 s.heap) (F : Fr h₀ env.locals s.heap m₀) (N : News h₀ env.locals s.heap (led c₀))
    (hoff : ∀ p ∈ led c₀, p.1 ≠ I) (hm : ∀ z, z ≠ x → m₀ z = mp c₀ z) (hi : Inv 0 c₀)
    (turn : ∀ i v c oI h tk, i < n → P i v → Inv i c → (∀ p ∈ led c, p.1 ≠ I) → Fr h₀ env.locals h (fun y => if y = x then some v else mp c y) → News h₀ env.locals h (led c ++ [(I, oI)]) →
      wpAny (model prog w) A (execs body env) (TurnEnd h₀ env.locals x mp led (Inv (i + 1)) Ex I oI Q { s with heap := h, toks := tk }) E { s with heap := h, toks := tk })
    (ends : ∀ c, Inv n c → Ex c)
    (done : ∀ c (u : Str → Option Value) h tk, Ex c → Fr h₀ env.locals h (fun y => if y = x then u y else mp c y) → News h₀ env.locals h (led c) → Q .next { s with heap := h, toks := tk }) :
    LoopAtV prog w A h₀ env x body Q E (.ref I) s := by
  have hIfp : I ∈ fp := W.sub I (.head _)
  let J : Nat → (Str → Option Value) → List (Addr × Obj) → Prop := fun i m nx => ∃ c, nx = led c ∧ (∀ z, z ≠ x → m z = mp c z) ∧ Inv i c
  refine ⟨I, fp, [I], n, P, St, m₀, led c₀, J, rfl, W, hLf, ?_, ?_, hst, F, N, ⟨c₀, rfl, hm, hi⟩, ?_, ?_⟩
  · intro b hb; rw [List.mem_singleton.mp hb]; exact hI0
  · intro p hp hb; exact hoff p hp (List.mem_singleton.mp hb)
  · rintro i v m₁ news₁ s₁ own ⟨h, tk, rfl⟩ hin hP ⟨c, rfl, hm₁, hinv⟩ hwr hown hget hall hst' F₁ N₁
    have hoff' : ∀ p ∈ led c, p.1 ≠ I := fun p hp e => hwr p hp (List.mem_singleton.mpr e)
    obtain ⟨oI, e⟩ := hit _ _ hst'
    have hIown : (I, oI) ∈ own := hall I hIfp hI0 oI e
    have N₂ : News h₀ env.locals h (led c ++ [(I, oI)]) := by
      intro p hp
      rcases List.mem_append.mp hp with hp | hp
      · exact N₁ p (List.mem_append.mpr (.inr hp))
      · rw [List.mem_singleton.mp hp]; exact N₁ _ (List.mem_append.mpr (.inl hIown))
    rw [map_off hm₁] at F₁
    refine wpAny_mono (turn i v c oI h tk hin hP hinv hoff' F₁ N₂) (fun f s₂ q => ?_) fun _ _ e => e
    have fin : (∃ (c : σ) (h' : Heap) (tk' : Nat) (m' : Str → Option Value), s₂ = { s with heap := h', toks := tk' } ∧ Fr h₀ env.locals h' m' ∧ News h₀ env.locals h' (led c ++ [(I, oI)]) ∧ (∀ z, z ≠ x → m' z = mp c z) ∧ (∀ p ∈ led c, p.1 ≠ I) ∧ Inv (i + 1) c) →
        LoopStepU h₀ env.locals [I] own (J (i + 1)) { s with heap := h, toks := tk } .next s₂ := by
      rintro ⟨c', h', tk', m', rfl, F', N', hm', hoff'', hinv'⟩
      refine ⟨rfl, h', tk', m', led c', rfl, F', ?_, fun p hp hq => hoff'' p hp (List.mem_singleton.mp hq), ⟨c', rfl, hm', hinv'⟩⟩
      intro p hp
      rcases List.mem_append.mp hp with hp | hp
      · have hp0 := (N₁ p (List.mem_append.mpr (.inl hp))).2.2
        have hpg := (N₁ p (List.mem_append.mpr (.inl hp))).1
        rcases hfp p.1 (hown p hp) with e1 | ⟨o, e1⟩ | ⟨o, e1⟩
        · obtain ⟨pa, po⟩ := p
          simp only at e1 hpg
          subst e1
          rw [e] at hpg
          cases hpg
          exact N' _ (List.mem_append.mpr (.inr (.head _)))
        · rw [e1] at hp0; cases hp0
        · have q1 := (N₂ _ (List.mem_append.mpr (.inl (e1 c)))).1
          obtain ⟨pa, po⟩ := p
          simp only at e1 hpg q1
          rw [q1] at hpg
          cases hpg
          exact N' _ (List.mem_append.mpr (.inl (e1 c')))
      · exact N' p (List.mem_append.mpr (.inl hp))
    cases f with
    | ret v => exact .ret q
    | brk =>
      obtain ⟨c', h', tk', m', rfl, F', N', hm', hex⟩ := q
      exact .brk (done c' m' h' tk' hex (by rw [← map_off' hm']; exact F') N')
    | next => exact .next (fin q)
    | cont => exact .cont (fin q)
  · rintro h' tk m' news' F' N' _ ⟨c, rfl, hm', hinv⟩
    exact done c m' h' tk (ends c hinv) (by rw [← map_off' hm']; exact F') N'

theorem led_push {h : Heap} {L : Addr} {news : List (Addr × Obj)} (N : News h₀ L h news) (o : Obj) : News h₀ L (h.push o) news := fun p hp => ⟨Heap.get?_push_of_some _ (N p hp).1, (N p hp).2⟩
theorem led_off {h : Heap} {L : Addr} {news : List (Addr × Obj)} (N : News h₀ L h news) : ∀ p ∈ news, p.1 ≠ h.objs.size := fun p hp e => absurd (Heap.lt_size (N p hp).1) (e ▸ Nat.lt_irrefl _)

theorem text_led {σ : Type} {xt : Str} {tx : Tok} {m₀ : Str → Option Value} {news : List (Addr × Obj)}
    (mp : σ → Str → Option Value) (led : σ → List (Addr × Obj)) (Inv : List Nat → σ → Prop) (Ex : σ → Prop) (c₀ : σ)
    (hh : A.handled = none) (F : Fr h₀ env.locals s.heap m₀) (N : News h₀ env.locals s.heap news) (hl : ∀ p ∈ led c₀, p ∈ news) (hm : ∀ z, z ≠ x → m₀ z = mp c₀ z) (hi : Inv [] c₀)
    (turn : ∀ pre n post t c I oI h tk, xt.cps.toList = pre ++ n :: post → Inv pre c → (∀ p ∈ led c, p.1 ≠ I) → Fr h₀ env.locals h (fun y => if y = x then some (.str ⟨#[n]⟩ t) else mp c y) → News h₀ env.locals h (led c ++ [(I, oI)]) →
      wpAny (model prog w) A (execs body env) (TurnEnd h₀ env.locals x mp led (Inv (pre ++ [n])) Ex I oI Q { s with heap := h, toks := tk }) E { s with heap := h, toks := tk })
    (ends : ∀ c, Inv xt.cps.toList c → Ex c)
    (done : ∀ c (u : Str → Option Value) h tk, Ex c → Fr h₀ env.locals h (fun y => if y = x then u y else mp c y) → News h₀ env.locals h (led c) → Q .next { s with heap := h, toks := tk }) :
    wpAny (model prog w) A (pyIter (.str xt tx)) (fun it s₂ => LoopAtV prog w A h₀ env x body Q E it s₂) E s := by
  have key : ∀ (o : Obj) (nm : String), Walks prog w A s.heap.objs.size [s.heap.objs.size] [s.heap.objs.size] xt.cps.size (SignAt xt) (fun i h => h.IsStrIter s.heap.objs.size nm xt tx i) → (s.heap.push o).IsStrIter s.heap.objs.size nm xt tx 0 →
      LoopAtV prog w A h₀ env x body Q E (.ref s.heap.objs.size) { s with heap := s.heap.push o } := by
    intro o nm W hst
    refine loop_led mp led (fun i c => Inv (xt.cps.toList.take i) c) Ex c₀ W (fun i h st => let ⟨o, ho, _⟩ := st; ⟨o, ho⟩) (fun b hb => .inl (List.mem_singleton.mp hb)) ?_ (next_is_new F) hst (F.push _) (led_push (news_sub N hl) _) (led_off (news_sub N hl)) hm (by simpa using hi) ?_ ?_ ?_
    · intro hm
      exact absurd F.ns.lt ((List.mem_singleton.mp hm) ▸ Nat.lt_irrefl _)
    · rintro i v c oI h tk hin ⟨n, u, hn, rfl⟩ hinv hoff F₁ N₁
      have hn' : xt.cps.toList[i]? = some n := by simpa using hn
      have hs : xt.cps.toList.take (i + 1) = xt.cps.toList.take i ++ [n] := by simp [List.take_add_one, hn']
      have e : xt.cps.toList = xt.cps.toList.take i ++ n :: xt.cps.toList.drop (i + 1) := by
        have ht := List.take_append_drop (i + 1) xt.cps.toList
        rw [hs, List.append_assoc] at ht
        exact ht.symm
      have := turn _ n _ u c _ oI h tk e hinv hoff F₁ N₁
      rw [← hs] at this
      exact this
    · intro c hc
      have hz : xt.cps.size = xt.cps.toList.length := by simp
      rw [hz, List.take_length] at hc
      exact ends c hc
    · intro c u h tk hex F' N'
      exact done c u h tk hex F' N'
  cases ha : xt.cps.all (· < 128)
  · exact wpAny_pyIter_wide ha (key _ _ (Walks.strWide hh _ xt tx) ⟨_, Heap.get?_push_size _ rfl, rfl, rfl⟩)
  · exact wpAny_pyIter_ascii ha (key _ _ (Walks.strAscii hh _ xt tx) ⟨_, Heap.get?_push_size _ rfl, rfl, rfl⟩)

/-- A list: one that stood before the frame, or one of the ledger that no turn changes. -/
theorem list_led {σ : Type} {l : Addr} {vs : List Value} {m₀ : Str → Option Value} {news : List (Addr × Obj)}
    (mp : σ → Str → Option Value) (led : σ → List (Addr × Obj)) (Inv : Nat → σ → Prop) (Ex : σ → Prop) (c₀ : σ)
    (hh : A.handled = none) (hl0 : h₀.IsList l vs.toArray ∨ ∃ n, ∀ c, (l, listOf vs.toArray n) ∈ led c) (F : Fr h₀ env.locals s.heap m₀) (N : News h₀ env.locals s.heap news) (hl : ∀ p ∈ led c₀, p ∈ news) (hm : ∀ z, z ≠ x → m₀ z = mp c₀ z) (hi : Inv 0 c₀)
    (turn : ∀ i v c I oI h tk, vs[i]? = some v → Inv i c → (∀ p ∈ led c, p.1 ≠ I) → Fr h₀ env.locals h (fun y => if y = x then some v else mp c y) → News h₀ env.locals h (led c ++ [(I, oI)]) →
      wpAny (model prog w) A (execs body env) (TurnEnd h₀ env.locals x mp led (Inv (i + 1)) Ex I oI Q { s with heap := h, toks := tk }) E { s with heap := h, toks := tk })
    (ends : ∀ c, Inv vs.length c → Ex c)
    (done : ∀ c (u : Str → Option Value) h tk, Ex c → Fr h₀ env.locals h (fun y => if y = x then u y else mp c y) → News h₀ env.locals h (led c) → Q .next { s with heap := h, toks := tk }) :
    wpAny (model prog w) A (pyIter (.ref l)) (fun it s₂ => LoopAtV prog w A h₀ env x body Q E it s₂) E s := by
  have N₀ := news_sub N hl
  have hls : s.heap.IsList l vs.toArray := by
    rcases hl0 with hl0 | ⟨n, hl0⟩
    · exact hl0.at fun o e => F.keep l o e
    · exact ⟨_, N₀.get (hl0 c₀), rfl, n, rfl⟩
  have hL : l ≠ env.locals := by
    rcases hl0 with hl0 | ⟨n, hl0⟩
    · obtain ⟨ol, hol, _⟩ := id hl0
      exact Nat.ne_of_lt (Nat.lt_of_lt_of_le (Heap.lt_size hol) F.above)
    · exact (N₀ _ (hl0 c₀)).2.1
  obtain ⟨ol, hol, _⟩ := id hls
  have hne : l ≠ s.heap.objs.size := Nat.ne_of_lt (Heap.lt_size hol)
  refine wpAny_pyIter_list hls ?_
  have W := Walks.list (prog := prog) (w := w) hh s.heap.objs.size l hne vs.toArray
  have hlen : vs.toArray.size = vs.length := by simp
  rw [hlen] at W
  refine loop_led mp led Inv Ex c₀ W (fun i h st => let ⟨⟨o, ho, _⟩, _⟩ := st; ⟨o, ho⟩) (fun b hb => ?_) ?_ (next_is_new F) ⟨⟨_, Heap.get?_push_size _ rfl, rfl, rfl⟩, hls.at fun o e => Heap.get?_push_of_some _ e⟩ (F.push _) (led_push N₀ _) (led_off N₀) hm hi ?_ ends done
  · rcases List.mem_cons.mp hb with e | hb
    · exact .inl e
    · rw [List.mem_singleton.mp hb]
      rcases hl0 with hl0 | ⟨n, hl0⟩
      · obtain ⟨ol, hol, _⟩ := id hl0
        exact .inr (.inl ⟨_, hol⟩)
      · exact .inr (.inr ⟨_, hl0⟩)
  · intro hm
    rcases List.mem_cons.mp hm with e | hm
    · exact absurd F.ns.lt (e ▸ Nat.lt_irrefl _)
    · exact hL (List.mem_singleton.mp hm).symm
  · intro i v c oI h tk hin hP hinv hoff F₁ N₁
    exact turn i v c _ oI h tk (by simpa using hP) hinv hoff F₁ N₁

theorem range_led {σ : Type} {r : Addr} {a₀ b₀ : Int} {t₀ u₀ v₀ : Tok} {n : Nat} {m₀ : Str → Option Value} {news : List (Addr × Obj)}
    (mp : σ → Str → Option Value) (led : σ → List (Addr × Obj)) (Inv : Nat → σ → Prop) (Ex : σ → Prop) (c₀ : σ)
    (hh : A.handled = none) (hr : IsRange s.heap r a₀ b₀ 1 t₀ u₀ v₀) (hsmall : Builtin.Range.small a₀ b₀ 1 = true) (hn : Builtin.Range.rangeSize a₀ b₀ 1 = (n : Int)) (F : Fr h₀ env.locals s.heap m₀) (N : News h₀ env.locals s.heap news) (hl : ∀ p ∈ led c₀, p ∈ news) (hm : ∀ z, z ≠ x → m₀ z = mp c₀ z) (hi : Inv 0 c₀)
    (turn : ∀ i t c I oI h tk, i < n → Inv i c → (∀ p ∈ led c, p.1 ≠ I) → Fr h₀ env.locals h (fun y => if y = x then some (.int (a₀ + (i : Int)) t) else mp c y) → News h₀ env.locals h (led c ++ [(I, oI)]) →
      wpAny (model prog w) A (execs body env) (TurnEnd h₀ env.locals x mp led (Inv (i + 1)) Ex I oI Q { s with heap := h, toks := tk }) E { s with heap := h, toks := tk })
    (ends : ∀ c, Inv n c → Ex c)
    (done : ∀ c (u : Str → Option Value) h tk, Ex c → Fr h₀ env.locals h (fun y => if y = x then u y else mp c y) → News h₀ env.locals h (led c) → Q .next { s with heap := h, toks := tk }) :
    wpAny (model prog w) A (pyIter (.ref r)) (fun it s₂ => LoopAtV prog w A h₀ env x body Q E it s₂) E s := by
  have N₀ := news_sub N hl
  refine wpAny_pyIter_range hr hsmall ?_
  have W : Walks prog w A s.heap.objs.size [s.heap.objs.size] [s.heap.objs.size] n (fun i v => i < n ∧ ∃ t, v = .int (a₀ + i * 1) t)
      (fun i h => IsRangeIter h s.heap.objs.size (a₀ + (i : Nat) * 1) ((n : Int) - (i : Nat)) 1) := (Walks.range hh _ a₀ 1 n).bound
  refine loop_led mp led Inv Ex c₀ W (fun i h st => ⟨_, st⟩) (fun b hb => .inl (List.mem_singleton.mp hb)) ?_ (next_is_new F) (by show IsRangeIter _ _ _ _ _; rw [hn]; simpa using Heap.get?_push_size _ rfl) (F.push _) (led_push N₀ _) (led_off N₀) hm hi ?_ ends done
  · intro hm
    exact absurd F.ns.lt ((List.mem_singleton.mp hm) ▸ Nat.lt_irrefl _)
  · rintro i v c oI h tk hin ⟨_, t, rfl⟩ hinv hoff F₁ N₁
    have e1 : a₀ + (i : Int) * 1 = a₀ + (i : Int) := by omega
    rw [e1] at F₁
    exact turn i t c _ oI h tk hin hinv hoff F₁ N₁

/-- How a while's turn ends. -/
def WEnd {σ : Type} (h₀ : Heap) (L : Addr) (mp : σ → Str → Option Value) (led : σ → List (Addr × Obj)) (Inv : σ → Prop) (μ : σ → Nat) (c : σ) (Q : Flow → Shared → Prop) (s₁ : Shared) (f : Flow) (s₂ : Shared) : Prop :=
  match f with
  | .ret v => Q (.ret v) s₂
  | .brk => Q .next s₂
  | _ => ∃ (c' : σ) (h' : Heap) (tk : Nat) (m' : Str → Option Value), s₂ = { s₁ with heap := h', toks := tk } ∧ Fr h₀ L h' m' ∧ News h₀ L h' (led c') ∧ (∀ z, m' z = mp c' z) ∧ Inv c' ∧ μ c' < μ c

theorem while_led {σ : Type} {L : Addr} {test : Expr} {pos : Pos} {m₀ : Str → Option Value} {news : List (Addr × Obj)}
    (mp : σ → Str → Option Value) (led : σ → List (Addr × Obj)) (Inv : σ → Prop) (μ : σ → Nat) (c₀ : σ)
    (F : Fr h₀ L s.heap m₀) (N : News h₀ L s.heap news) (hl : ∀ p ∈ led c₀, p ∈ news) (hm : ∀ z, m₀ z = mp c₀ z) (hi : Inv c₀)
    (turn : ∀ c h tk, Inv c → Fr h₀ L h (mp c) → News h₀ L h (led c) →
      wpAny (model prog w) A (isTrue test env (eval test env)) (fun b s₂ =>
        if b = true then wpAny (model prog w) A (execs body env) (WEnd h₀ L mp led Inv μ c Q s) E s₂ else Q .next s₂) E { s with heap := h, toks := tk })
    (hE : PassesOwn (model prog w) A env E := by passes_own) :
    wpAny (model prog w) A (exec (.While test body [] pos) env) Q E s := by
  have em : m₀ = mp c₀ := funext hm
  subst em
  refine While_inv2 (fun n m nx => ∃ c : σ, nx = led c ∧ m = mp c ∧ μ c = n ∧ Inv c) F (news_sub N hl) ⟨c₀, rfl, rfl, rfl, hi⟩ ?_ hE
  rintro n m₁ nx h tk F₁ N₁ ⟨c, rfl, rfl, rfl, hc⟩
  refine wpAny_mono (turn c h tk hc F₁ N₁) (fun b s₂ p => ?_) fun _ _ x => x
  cases b with
  | false => simpa using p
  | true =>
    simp only [if_true] at p ⊢
    refine wpAny_mono p (fun f s₃ q => ?_) fun _ _ x => x
    cases f with
    | ret v => exact q
    | brk => exact q
    | next =>
      obtain ⟨c', h', tk', m', rfl, F', N', hm', hi', hμ⟩ := q
      have em' : m' = mp c' := funext hm'
      subst em'
      exact ⟨h', tk', _, _, μ c', rfl, F', N', hμ, c', rfl, rfl, rfl, hi'⟩
    | cont =>
      obtain ⟨c', h', tk', m', rfl, F', N', hm', hi', hμ⟩ := q
      have em' : m' = mp c' := funext hm'
      subst em'
      exact ⟨h', tk', _, _, μ c', rfl, F', N', hμ, c', rfl, rfl, rfl, hi'⟩
end

end

section
open PySem PySem.W PyProof.Rows PySem.Calls PySem.Spec

theorem leN {a b : Nat} (h : a ≤ b) : a ≤ b := h
theorem tab_len {l : List Str} {k B : Nat} (h : ∀ y ∈ l, y.length ≤ B) : (l.getD k Str.empty).length ≤ B := by
  rw [List.getD_eq_getElem?_getD]
  cases e : l[k]? with
  | none => exact Nat.zero_le _
  | some y => exact h y (List.mem_of_getElem? e)
theorem add_fits {x y : Str} (hx : x.length ≤ 1000000) (hy : y.length ≤ 1000000) : x.length + y.length ≤ sizeLine := by
  have : (2000000 : Nat) ≤ sizeLine := by decide
  omega
theorem mul_len1 {c : Nat} {n : Int} {N : Nat} (hn : n ≤ (N : Int)) : (Txt.mul ⟨#[c]⟩ n).length ≤ N := len_mul_one rfl hn
theorem mul_len2 {x : Str} {n : Int} {N : Nat} (hx : x.length ≤ 1) (hn : n ≤ (N : Int)) : (Txt.mul x n).length ≤ 1 * N := len_mul_leN hx hn
theorem app_len {x y : Str} {a b : Nat} (hx : x.length ≤ a) (hy : y.length ≤ b) : (x ++ y).length ≤ a + b := by
  rw [Str.length_append]; omega
theorem len_le {x : Str} {a b : Nat} (h : x.length ≤ a) (hb : a ≤ b) : x.length ≤ b := Nat.le_trans h hb
abbrev tupO (items : Array Value) : Obj := { cls := .type "tuple", data := .seq items }
theorem noFill_tuple_mul : fillsNumberSlot (.type "tuple") "mul" = pure false :=
  PySem.fillsNumberSlot_seq (id := "tuple.__mul__") (r := some (.builtin "tuple.__rmul__")) F.slot_tuple_mul.lookup (by decide +kernel) F.slot_tuple_rmul.lookup (by decide +kernel)
theorem repeat_tuple : seqRepeat? (.type "tuple") = pure (some (.builtin "tuple.__mul__")) := by
  unfold seqRepeat?
  rw [PySem.seqSlot_of (T := "tuple") (name := "__mul__") (id := "tuple.__mul__") F.slot_tuple_mul.lookup (by decide +kernel), PySem.seqSlot_of (T := "tuple") (name := "__rmul__") (id := "tuple.__rmul__") F.slot_tuple_rmul.lookup (by decide +kernel)]
  rfl
theorem int_rmul_tuple (a : Int) (t : Tok) (l : Addr) (items : Array Value) :
    Meets (Builtin.«int.__rmul__» ⟨[.int a t, .ref l], []⟩) (fun _ R s => s.heap.get? l = some (tupO items) ∧ R (.ok (.ret Value.notImplemented)) s) :=
  .of_wp fun prog w A R s h => by obtain ⟨hp, g, d, tk, os⟩ := s; obtain ⟨hl, h⟩ := h; wp_walk; exact ⟨_, rfl, h⟩
theorem tuple_mul_one (l : Addr) (items : Array Value) (u : Tok) :
    Meets (Builtin.«tuple.__mul__» ⟨[.ref l, .int 1 u], []⟩) (fun _ R s => s.heap.get? l = some (tupO items) ∧ R (.ok (.ret (Value.ref l))) s) :=
  .of_wp fun prog w A R s h => by obtain ⟨hp, g, d, tk, os⟩ := s; obtain ⟨hl, h⟩ := h; wp_walk; exact ⟨_, rfl, h⟩
theorem tuple_mul_zero (l : Addr) (v : Value) (u : Tok) :
    Meets (Builtin.«tuple.__mul__» ⟨[.ref l, .int 0 u], []⟩) (fun _ R s => s.heap.get? l = some (tupO #[v]) ∧ R (.ok (.ret (Value.ref s.heap.objs.size))) { s with heap := s.heap.push (tupO #[]) }) :=
  .of_wp fun prog w A R s h => by obtain ⟨hp, g, d, tk, os⟩ := s; obtain ⟨hl, h⟩ := h; wp_walk; exact ⟨_, rfl, h⟩
theorem tuple_mul_two (l : Addr) (v : Value) (u : Tok) :
    Meets (Builtin.«tuple.__mul__» ⟨[.ref l, .int 2 u], []⟩) (fun _ R s => s.heap.get? l = some (tupO #[v]) ∧ R (.ok (.ret (Value.ref s.heap.objs.size))) { s with heap := s.heap.push (tupO #[v, v]) }) :=
  .of_wp fun prog w A R s h => by obtain ⟨hp, g, d, tk, os⟩ := s; obtain ⟨hl, h⟩ := h; wp_walk; exact ⟨_, rfl, h⟩

section
variable {prog : Program} {w : World} {A : Around} {E : Value → Shared → Prop} {s : Shared} {h₀ : Heap} {L l t b : Addr} {m : Str → Option Value} {news : List (Addr × Obj)} {v : Value} {vs ws : List Value} {x : Int} {u : Tok} {Q : Value → Shared → Prop}
theorem tup_mul1 (Fm : Fr h₀ L s.heap m) (N : News h₀ L s.heap news) (hm : (l, tupO #[v]) ∈ news) (h0 : 0 ≤ x) (h2 : x ≤ 2)
    (h : ∀ D h', Fr h₀ L h' m → News h₀ L h' ((D, tupO (List.replicate x.toNat v).toArray) :: news) → l ≤ D → Q (.ref D) { s with heap := h' }) : wpAny (model prog w) A (binaryOp .Mult (.ref l) (.int x u)) Q E s := by
  have ho := N.get hm
  refine wpAny_binaryOp_repeat_ref (T := "tuple") (U := "int") (by decide) ⟨_, ho, rfl⟩ (fun s' => typeIs_int s' x u) noFill_tuple_mul F.fills_int_mul F.slot_int_rmul repeat_tuple F.slot_int_index.lookup
    (call_meets F.slot_int_rmul (typeIs_int s x u) F.entry_int_rmul (F.args_int_rmul_2 _ _) (int_rmul_tuple x u l #[v]) ⟨ho, rfl, ⟨_, ho, rfl⟩, ?_⟩)
  have hx : x = 0 ∨ x = 1 ∨ x = 2 := by omega
  rcases hx with rfl | rfl | rfl
  · exact call_meets F.slot_tuple_mul ⟨_, ho, rfl⟩ F.entry_tuple_mul (F.args_tuple_mul_2 _ _) (tuple_mul_zero l v u) ⟨ho, h _ _ (Fm.push _) (News.push Fm N (tupO #[])) (Nat.le_of_lt (Heap.lt_size ho))⟩
  · exact call_meets F.slot_tuple_mul ⟨_, ho, rfl⟩ F.entry_tuple_mul (F.args_tuple_mul_2 _ _) (tuple_mul_one l #[v] u) ⟨ho, h _ _ Fm (fun p hp => (List.mem_cons.mp hp).elim (fun e => e ▸ N _ hm) (N p)) (Nat.le_refl _)⟩
  · exact call_meets F.slot_tuple_mul ⟨_, ho, rfl⟩ F.entry_tuple_mul (F.args_tuple_mul_2 _ _) (tuple_mul_two l v u) ⟨ho, h _ _ (Fm.push _) (News.push Fm N (tupO #[v, v])) (Nat.le_of_lt (Heap.lt_size ho))⟩
theorem tup_add (Fm : Fr h₀ L s.heap m) (N : News h₀ L s.heap news) (ha : (t, tupO vs.toArray) ∈ news) (hb : (b, tupO ws.toArray) ∈ news) (hv : vs ≠ []) (hz : vs.length + ws.length ≤ 16384)
    (h : ∀ D h', Fr h₀ L h' m → News h₀ L h' ((D, tupO (vs ++ ws).toArray) :: news) → t ≤ D → Q (.ref D) { s with heap := h' }) : wpAny (model prog w) A (binaryOp .Add (.ref t) (.ref b)) Q E s := by
  have h1 : IsTup s.heap t vs.toArray := ⟨_, N.get ha, rfl, 0, rfl⟩
  have h2 : IsTup s.heap b ws.toArray := ⟨_, N.get hb, rfl, 0, rfl⟩
  by_cases hw : ws = []
  · subst hw
    refine kde_addT1 Fm N h1 h2 (by simpa using hv) rfl (by simpa using hz) ?_
    have := h t s.heap Fm (fun p hp => (List.mem_cons.mp hp).elim (fun e => by rw [e, List.append_nil]; exact N _ ha) (N p)) (Nat.le_refl _)
    exact this
  · refine kde_addT Fm N h1 h2 (by simpa using hv) (by simpa using hw) (by simpa using hz) rfl fun D h' F' N' lt => ?_
    exact h D h' F' (by simpa using N') (Nat.le_of_lt (lt _ ha))
theorem len_ledL {n : Nat} (N : News h₀ L s.heap news) (hm : (l, listOf vs.toArray n) ∈ news) (hz : vs.length ≤ 1000000) (h : ∀ t k, Q (.int (vs.length : Int) t) { s with toks := k }) :
    wpAny (model prog w) A (call (.builtin "len") [.ref l]) Q E s := by
  refine len_list (items := vs.toArray) ⟨_, N.get hm, rfl, n, rfl⟩ (by rw [List.size_toArray]; omega) ?_
  rw [List.size_toArray]
  exact h _ _
theorem item_ledL {value slice : PySem.Expr} {n : Nat} {k : Int} (N : News h₀ L s.heap news) (hm : (l, listOf vs.toArray n) ∈ news) (h0 : 0 ≤ k) (hfit : k < 2 ^ 63) (hx : vs[k.toNat]? = some v) (h : Q v s)
    (hs : subscripted slice false (.ref l) (.int k u) = operate [.ref l, .int k u] (getItem (.ref l) (.int k u)) := by with_unfolding_all rfl) :
    wpAny (model prog w) A (subscriptTail value slice (.ref l) (.int k u)) Q E s :=
  tail_any (s := s) (Heap.IsList.typeIs ⟨_, N.get hm, rfl, n, rfl⟩) slot_list_getitem.lookup (wpAny_getItem_list ⟨_, N.get hm, rfl, n, rfl⟩ h0 hfit (by simpa using hx) h) hs
theorem ne_led_same {a b : Value} {d : Dat} (N : News h₀ L s.heap news) (Da : DatIn news a d) (Db : DatIn news b d) (hk : kqdOk 8 d = true) (hu : A.units + 64 < cLine) (h : Q (.bool false) s) : wpAny (model prog w) A (compareOp .NotEq a b) Q E s := by
  obtain ⟨as, ra⟩ := kqd_in N 8 Da hk
  obtain ⟨bs, rb⟩ := kqd_in N 8 Db hk
  have la := kqd_lay 8 d hk
  have e : PyData.eqv (kqdP d) (kqdP d) = true := (kqd_eqv 8 d d 8 hk hk).mpr rfl
  refine ne_dataH ra rb ?_ ?_ hu (by rw [e]; exact h)
  · unfold SeqAt.shaped; rw [la.1, Bool.true_and]; exact decide_eq_true (Nat.le_trans la.2 (by decide))
  · unfold SeqAt.shaped; rw [la.1, Bool.true_and]; exact decide_eq_true (Nat.le_trans la.2 (by decide))
end
theorem datAll_ints {news : List (Addr × Obj)} : ∀ {vs : List Value} {cs : List Int}, IntsAre vs cs → DatAll news vs (cs.map .int)
  | _, _, .nil => .nil
  | _, _, .cons _ _ r => .cons (.int _ _) (datAll_ints r)
section
variable {prog : Program} {w : World} {A : Around} {E : Value → Shared → Prop} {s : Shared} {h₀ : Heap} {L : Addr} {m : Str → Option Value} {news : List (Addr × Obj)}
theorem adjust_to (b n : Nat) (hb : b ≤ n) : Builtin.Slice.sliceAdjust none (some (b : Int)) 1 (n : Int) = ((0 : Int), (b : Int)) := by
  unfold Builtin.Slice.sliceAdjust
  have h1 : ¬ ((1 : Int) < 0) := by omega
  have h2 : ¬ ((b : Int) < 0) := by omega
  simp only [h1, h2, if_false]
  congr 1
  omega
theorem places_to (b : Nat) : Builtin.Slice.slicePlaces (0 : Int) (b : Int) 1 = b := by
  unfold Builtin.Slice.slicePlaces
  have h1 : (1 : Int) > 0 := by omega
  simp only [h1, if_true, Int.ediv_one]
  split <;> omega
theorem sliceApplied_to {sl : Addr} {b n : Nat} {u : Tok} {Q : Int × Int × Nat → Shared → Prop} (hs : s.heap.IsSliceOf sl .none (.int b u) .none) (hb : b ≤ n) (h : Q ((0 : Int), 1, b) s) :
    wpAny (model prog w) A (Builtin.Slice.sliceApplied (.ref sl) (pure (n : Int))) Q E s := by
  obtain ⟨os, hos, hcs, hds⟩ := id hs
  unfold Builtin.Slice.sliceApplied Builtin.Slice.sliceFields
  refine wpAny_bind (wpAny_bind (wpAny_field hos hds (x := .none) rfl (wpAny_bind (wpAny_field hos hds (x := .int b u) rfl (wpAny_bind (wpAny_field hos hds (x := .none) rfl (wpAny_pure ?_)))))))
  refine wpAny_bind (slicePart_none ?_)
  show wpAny _ _ (if ((1 : Int) == 0) = true then _ else _) _ _ s
  rw [if_neg (by decide)]
  refine wpAny_bind (slicePart_none (wpAny_bind (slicePart_int (wpAny_bind (wpAny_pure ?_)))))
  show wpAny _ _ (match Builtin.Slice.sliceAdjust none (some (b : Int)) 1 (n : Int) with | (lo, hi) => pure (lo, (1 : Int), Builtin.Slice.slicePlaces lo hi 1)) _ _ s
  rw [adjust_to b n hb]
  show wpAny _ _ (pure ((0 : Int), (1 : Int), Builtin.Slice.slicePlaces (0 : Int) (b : Int) 1)) _ _ s
  rw [places_to b]
  exact wpAny_pure h
theorem pick_to (xs : Array Value) (b : Nat) (hb : b ≤ xs.size) : ((List.range b).filterMap fun (k : Nat) => xs[((0 : Int) + (k : Int) * 1).toNat]?).toArray = (xs.toList.take b).toArray := by
  have e : (fun (k : Nat) => xs[((0 : Int) + (k : Int) * 1).toNat]?) = fun k => xs.toList[k]? := by
    funext k
    have : ((0 : Int) + (k : Int) * 1).toNat = k := by omega
    rw [this]; simp
  rw [e]
  congr 1
  have hb' : b ≤ xs.toList.length := by simpa using hb
  generalize xs.toList = l at hb'
  induction b with
  | zero => simp
  | succ b ih =>
    rw [List.range_succ, List.filterMap_append, ih (by omega) (by omega), List.take_add_one]
    congr 1
theorem getItem_tuple_to {t sl : Addr} {items : Array Value} {b : Nat} {u : Tok} {Q : Value → Shared → Prop} (ht : IsTup s.heap t items) (hs : s.heap.IsSliceOf sl .none (.int b u) .none) (hb : b < items.size)
    (h : Q (.ref s.heap.objs.size) { s with heap := s.heap.push { cls := .type "tuple", data := .seq (items.toList.take b).toArray } })
    (hsz : items.size ≤ sizeLine) : wpAny (model prog w) A (getItem (.ref t) (.ref sl)) Q E s := by
  have hdrop : sizeOk (.seq (items.toList.take b).toArray) := by
    show (items.toList.take b).toArray.size ≤ sizeLine
    rw [List.size_toArray, List.length_take, Array.length_toList]
    omega
  obtain ⟨os, hos, hcs, hds⟩ := id hs
  have hTs : s.TypeIs (.ref sl) "slice" := ⟨os, hos, hcs⟩
  unfold getItem
  try with_reducible refine wpAny_holding ?_
  first | refine wpAny_bind (wpAny_pure ?_) | skip
  refine wpAny_bind (wpAny_sequenceKey ht.typeIs (by decide) ?_)
  refine wpAny_bind (wpAny_callSpecial?_slot (name := Str.ofString "__getitem__") ht.typeIs slot_tuple_getitem
    (wpAny_call_entry slot_tuple_getitem ht.typeIs entry_tuple_getitem ?_ (args_tuple_getitem _ _)))
  show wpAny _ _ (Builtin.Tuple.tupleItemsOf (.ref t) >>= _) _ _ s
  refine wpAny_bind (tupleItemsOf_ ht ?_)
  refine wpAny_bind (wpAny_typeOf hTs ?_)
  rw [if_pos (by decide)]
  refine wpAny_bind (sliceApplied_to hs (Nat.le_of_lt hb) ?_)
  have hno : ¬ (((0 : Int) == 0 && (1 : Int) == 1 && b == items.size) = true) := by
    have : (b == items.size) = false := by rw [beq_eq_false_iff_ne]; omega
    rw [this]; simp
  show wpAny _ _ (if ((0 : Int) == 0 && (1 : Int) == 1 && b == items.size) = true then _ else _) _ _ s
  rw [if_neg hno, pick_to items b (Nat.le_of_lt hb)]
  first
    | exact wpAny_bind (m := Builtin.Tuple.tupleExact _) (wpAny_newObj_type (wpAny_pure ⟨_, rfl, wpAny_pure h⟩) hdrop)
    | exact wpAny_bind (m := Builtin.Tuple.tupleExact _) (wpAny_newObj_type (wpAny_bind (wpAny_pure (wpAny_pure ⟨_, rfl, wpAny_pure h⟩))) hdrop)
    | exact wpAny_bind (wpAny_bind (m := Builtin.Tuple.tupleExact _) (wpAny_newObj_type (wpAny_pure (wpAny_pure ⟨_, rfl, wpAny_pure h⟩)) hdrop))
    | exact wpAny_bind (wpAny_bind (m := Builtin.Tuple.tupleExact _) (wpAny_newObj_type (wpAny_pure ⟨_, rfl, wpAny_pure h⟩) hdrop))
theorem cut_led0 {value slice : PySem.Expr} {t : Addr} {vs : List Value} {n b : Nat} {u : Tok} {Q : Value → Shared → Prop} (Fm : Fr h₀ L s.heap m) (N : News h₀ L s.heap news) (hm : (t, ({ cls := .type "tuple", data := .seq vs.toArray n } : Obj)) ∈ news) (hb : b < vs.length) (hz : vs.length ≤ 10000)
    (h : ∀ D h', Fr h₀ L h' m → News h₀ L h' ((D, tupO (vs.take b).toArray) :: news) → (∀ p ∈ news, p.1 < D) → Q (.ref D) { s with heap := h' })
    {ops : List Value} (hs : subscripted slice false (.ref t) (.ref s.heap.objs.size) = operate ops (getItem (.ref t) (.ref s.heap.objs.size))) :
    wpAny (model prog w) A (subscriptTail value slice (.ref t) (.ref s.heap.objs.size)) Q E { s with heap := s.heap.push { cls := .type "slice", data := .fields #[.none, .int b u, .none] } } := by
  have F' := Fm.push ({ cls := .type "slice", data := .fields #[.none, .int b u, .none] } : Obj)
  have N' := led_push N ({ cls := .type "slice", data := .fields #[.none, .int b u, .none] } : Obj)
  have ht : IsTup (s.heap.push ({ cls := .type "slice", data := .fields #[.none, .int b u, .none] } : Obj)) t vs.toArray := ⟨_, N'.get hm, rfl, n, rfl⟩
  refine tail_any (T := "tuple") ht.typeIs slot_tuple_getitem.lookup (getItem_tuple_to ht ⟨_, Heap.get?_push_size _ rfl, rfl, rfl⟩ (by simpa using hb) ?_ (by rw [List.size_toArray]; exact Nat.le_trans hz (by decide))) hs
  exact h _ _ (F'.push _) (N'.push F' _) fun p hp => Heap.lt_size (N' p hp).1
/-- t[:x] of a tuple of the ledger, x within it. -/
theorem cut_led {value slice : PySem.Expr} {t : Addr} {vs : List Value} {n : Nat} {x : Int} {u : Tok} {Q : Value → Shared → Prop} (Fm : Fr h₀ L s.heap m) (N : News h₀ L s.heap news) (hm : (t, ({ cls := .type "tuple", data := .seq vs.toArray n } : Obj)) ∈ news) (hx : 0 ≤ x) (hb : x.toNat < vs.length) (hz : vs.length ≤ 10000)
    (h : ∀ D h', Fr h₀ L h' m → News h₀ L h' ((D, tupO (vs.take x.toNat).toArray) :: news) → (∀ p ∈ news, p.1 < D) → Q (.ref D) { s with heap := h' })
    {ops : List Value} (hs : subscripted slice false (.ref t) (.ref s.heap.objs.size) = operate ops (getItem (.ref t) (.ref s.heap.objs.size))) :
    wpAny (model prog w) A (subscriptTail value slice (.ref t) (.ref s.heap.objs.size)) Q E { s with heap := s.heap.push { cls := .type "slice", data := .fields #[.none, .int x u, .none] } } := by
  have e : ((x.toNat : Nat) : Int) = x := Int.toNat_of_nonneg hx
  have := cut_led0 (u := u) Fm N hm hb hz h hs (E := E) (A := A) (prog := prog) (w := w) (value := value)
  rw [e] at this
  exact this
end
theorem rsize (n : Nat) : Builtin.Range.rangeSize 0 (n : Int) 1 = (n : Int) := by
  unfold Builtin.Range.rangeSize
  simp
  intro h
  subst h
  rfl
/-- Data of bools, ints, texts, tuples and lists, at most n deep. -/
def dok : Nat → Dat → Bool
  | _, .none => true
  | _, .bool _ => true
  | _, .int _ => true
  | _, .str x => PyData.strOk x
  | n + 1, .tuple ds => ds.all (dok n)
  | n + 1, .list ds => ds.all (dok n)
  | _, _ => false
section
variable {h₀ h : Heap} {L : Addr} {news : List (Addr × Obj)}
mutual
theorem dok_in (N : News h₀ L h news) : ∀ {v : Value} {d : Dat} (n : Nat), DatIn news v d → dok n d = true → ∃ as, Reads h v (kqdP d) as
  | _, _, _, .none, _ => ⟨_, Reads.none⟩
  | _, _, _, .bool b, _ => ⟨_, Reads.bool b⟩
  | _, _, _, .int i t, _ => ⟨_, Reads.int i t⟩
  | _, _, _, .str x t, _ => ⟨_, Reads.str x t⟩
  | _, _, n, .bytes _ _, hk => by cases n <;> simp [dok] at hk
  | _, _, 0, .tuple _ _, hk => by simp [dok] at hk
  | _, _, 0, .list _ _, hk => by simp [dok] at hk
  | _, _, n + 1, .tuple hm r, hk => by
    obtain ⟨as, q⟩ := dok_all N n r (by simpa [dok] using hk)
    rw [kqdP]
    exact ⟨as, reads_tuple_at (N.get hm) rfl rfl (by simpa using q)⟩
  | _, _, n + 1, .list hm r, hk => by
    obtain ⟨as, q⟩ := dok_all N n r (by simpa [dok] using hk)
    rw [kqdP]
    exact ⟨_, reads_list_at (N.get hm) rfl rfl (by simpa [W.listOf] using q)⟩
theorem dok_all (N : News h₀ L h news) : ∀ {vs : List Value} {ds : List Dat} (n : Nat), DatAll news vs ds → (∀ d ∈ ds, dok n d = true) → ∃ as, ReadsAll h vs (kqdPs ds) as
  | _, _, _, .nil, _ => ⟨_, ReadsAll.nil⟩
  | _, _, n, .cons hd r, hk => by
    obtain ⟨as, q⟩ := dok_in N n hd (hk _ (.head _))
    obtain ⟨bs, p⟩ := dok_all N n r fun d hm => hk d (.tail _ hm)
    rw [kqdPs]
    exact ⟨_, ReadsAll.cons q p⟩
end
end
theorem dok_lay : ∀ (n : Nat) (d : Dat), dok n d = true → (kqdP d).canLay0 = true ∧ (kqdP d).depth ≤ n ∧ PyData.eqv (kqdP d) (kqdP d) = true := by
  have all : ∀ (n : Nat), (∀ d, dok n d = true → (kqdP d).canLay0 = true ∧ (kqdP d).depth ≤ n ∧ PyData.eqv (kqdP d) (kqdP d) = true) → ∀ ds : List Dat, (∀ d ∈ ds, dok n d = true) → PyData.canLayAll0 (kqdPs ds) = true ∧ PyData.depthAll (kqdPs ds) ≤ n ∧ PyData.eqvAll (kqdPs ds) (kqdPs ds) = true := by
    intro n ih ds
    induction ds with
    | nil => intro _; simp [kqdPs, PyData.canLayAll0, PyData.depthAll, PyData.eqvAll]
    | cons d ds hi =>
      intro h
      have h1 := ih d (h d (.head _))
      have h2 := hi fun e he => h e (.tail _ he)
      simp only [kqdPs, PyData.canLayAll0, PyData.depthAll, PyData.eqvAll, h1.1, h1.2.2, h2.1, h2.2.2, Bool.and_self, true_and, and_true]
      have a1 := h1.2.1
      have a2 := h2.2.1
      omega
  intro n
  induction n with
  | zero =>
    intro d h
    cases d <;> simp_all [dok, kqdP, PyData.canLay0, PyData.depth, PyData.eqv]
  | succ n ih =>
    intro d h
    cases d with
    | tuple ds =>
      have q := all n ih ds (by simpa [dok] using h)
      have q2 := q.2.1
      simp only [kqdP, PyData.canLay0, PyData.depth, PyData.eqv, q.1, q.2.2, true_and, and_true]
      omega
    | list ds =>
      have q := all n ih ds (by simpa [dok] using h)
      have q2 := q.2.1
      simp only [kqdP, PyData.canLay0, PyData.depth, PyData.eqv, q.1, q.2.2, true_and, and_true]
      omega
    | _ => simp_all [dok, kqdP, PyData.canLay0, PyData.depth, PyData.eqv]
section
variable {prog : Program} {w : World} {A : Around} {E : Value → Shared → Prop} {s : Shared} {h₀ : Heap} {L : Addr} {news : List (Addr × Obj)} {Q : Value → Shared → Prop}
theorem ne_dat {a b : Value} {d : Dat} (N : News h₀ L s.heap news) (Da : DatIn news a d) (Db : DatIn news b d) (hk : dok 8 d = true) (hu : A.units + 64 < cLine) (h : Q (.bool false) s) : wpAny (model prog w) A (compareOp .NotEq a b) Q E s := by
  obtain ⟨as, ra⟩ := dok_in N 8 Da hk
  obtain ⟨bs, rb⟩ := dok_in N 8 Db hk
  have la := dok_lay 8 d hk
  refine ne_dataH ra rb ?_ ?_ hu (by rw [la.2.2]; exact h)
  · unfold SeqAt.shaped; rw [la.1, Bool.true_and]; exact decide_eq_true (Nat.le_trans la.2.1 (by decide))
  · unfold SeqAt.shaped; rw [la.1, Bool.true_and]; exact decide_eq_true (Nat.le_trans la.2.1 (by decide))
theorem eq_dat {a b : Value} {d : Dat} (N : News h₀ L s.heap news) (Da : DatIn news a d) (Db : DatIn news b d) (hk : dok 8 d = true) (hu : A.units + 64 < cLine) (h : Q (.bool true) s) : wpAny (model prog w) A (compareOp .Eq a b) Q E s := by
  obtain ⟨as, ra⟩ := dok_in N 8 Da hk
  obtain ⟨bs, rb⟩ := dok_in N 8 Db hk
  have la := dok_lay 8 d hk
  refine eq_dataH ra rb ?_ ?_ hu (by rw [la.2.2]; exact h)
  · unfold SeqAt.shaped; rw [la.1, Bool.true_and]; exact decide_eq_true (Nat.le_trans la.2.1 (by decide))
  · unfold SeqAt.shaped; rw [la.1, Bool.true_and]; exact decide_eq_true (Nat.le_trans la.2.1 (by decide))
end
section
variable {prog : Program} {w : World} {A : Around} {E : Value → Shared → Prop} {s : Shared} {h₀ : Heap} {L : Addr} {m : Str → Option Value} {news : List (Addr × Obj)} {Q : Value → Shared → Prop}
theorem list_of_tup {t : Addr} {vs : List Value} {n : Nat} (Fm : Fr h₀ L s.heap m) (N : News h₀ L s.heap news) (hm : (t, ({ cls := .type "tuple", data := .seq vs.toArray n } : Obj)) ∈ news) (hz : vs.length ≤ 1000000)
    (h : ∀ D e h', Fr h₀ L h' m → News h₀ L h' ((D, W.listOf vs.toArray e) :: news) → (∀ p ∈ news, p.1 < D) → Q (.ref D) { s with heap := h' }) : wpAny (model prog w) A (call (.type "list") [.ref t]) Q E s := by
  refine call_list_seq (items := vs.toArray) t (.inr rfl) (N.get hm) rfl rfl (fun h' c' hk hg => ?_) (by rw [List.size_toArray]; exact Nat.le_trans hz (by decide))
  refine h _ c' h' (fr_stays Fm hk) (fun p hp => ?_) fun p hp => Heap.lt_size (N p hp).1
  rcases List.mem_cons.mp hp with rfl | hp
  · exact ⟨hg, Nat.ne_of_gt Fm.ns.lt, next_is_new Fm⟩
  · exact news_stays N hk p hp
theorem item_tupLed {value slice : PySem.Expr} {t : Addr} {l : List Value} {n : Nat} {k : Int} {u : Tok} {j : Nat} {x : Value} (N : News h₀ L s.heap news) (hm : (t, ({ cls := .type "tuple", data := .seq l.toArray n } : Obj)) ∈ news)
    (hlo : -(2 ^ 63) ≤ k) (hhi : k < 2 ^ 63) (hj : seqIndex? k l.length = some j) (hx : l[j]? = some x) (h : Q x s)
    {ops : List Value} (hs : subscripted slice false (.ref t) (.int k u) = operate ops (getItem (.ref t) (.int k u))) :
    wpAny (model prog w) A (subscriptTail value slice (.ref t) (.int k u)) Q E s := by
  have ht : IsTup s.heap t l.toArray := ⟨_, N.get hm, rfl, n, rfl⟩
  exact tail_any ht.typeIs slot_tuple_getitem.lookup (getItem_tuple ht hlo hhi (by simpa using hj) (by simpa using hx) h) hs
end
section
variable {prog : Program} {w : World} {A : Around} {E : Value → Shared → Prop} {s : Shared} {h₀ : Heap} {L : Addr} {m : Str → Option Value} {news : List (Addr × Obj)} {Q : Value → Shared → Prop}
theorem ints_at {vs : List Value} {ns : List Int} (hi : IntsAre vs ns) {k : Nat} (h : k < ns.length) : ∃ t, vs[k]? = some (.int (ns.getD k 0) t) := by
  have e : ns[k]? = some (ns.getD k 0) := by rw [List.getD_eq_getElem?_getD, List.getElem?_eq_getElem h]; rfl
  exact hi.get k _ e
theorem getItem_ints {l : Addr} {vs : List Value} {ns : List Int} {n : Nat} {k : Int} {u : Tok} (N : News h₀ L s.heap news) (hm : (l, W.listOf vs.toArray n) ∈ news) (hi : IntsAre vs ns) (h0 : 0 ≤ k) (h1 : k.toNat < ns.length) (hf : k < 2 ^ 63)
    (h : ∀ t, Q (.int (ns.getD k.toNat 0) t) s) : wpAny (model prog w) A (getItem (.ref l) (.int k u)) Q E s := by
  obtain ⟨t, e⟩ := ints_at hi h1
  exact wpAny_getItem_list (items := vs.toArray) ⟨_, N.get hm, rfl, n, rfl⟩ h0 hf (by simpa using e) (h t)
end

end

section
open PySem PySem.W PyProof.Rows PySem.Calls PySem.Spec

section
variable {prog : Program} {w : World} {A : Around} {E : Value → Shared → Prop} {s : Shared} {h₀ : Heap} {L : Addr} {m : Str → Option Value} {news : List (Addr × Obj)} {Q : Value → Shared → Prop}
theorem ints_last {vs : List Value} {ns : List Int} (hi : IntsAre vs ns) (h : ns ≠ []) : ∃ t, vs[vs.length - 1]? = some (.int (ns.getLastD 0) t) := by
  have hl := hi.length
  have hp : 0 < ns.length := List.length_pos_iff.mpr h
  obtain ⟨t, e⟩ := ints_at hi (k := vs.length - 1) (by omega)
  refine ⟨t, ?_⟩
  rw [e]
  congr 2
  rw [hl, List.getLastD_eq_getLast?, List.getLast?_eq_getElem?, List.getD_eq_getElem?_getD]
/-- l[-1] of a list of ints of the ledger. -/
theorem item_lastI {value slice : PySem.Expr} {l : Addr} {vs : List Value} {ns : List Int} {n : Nat} {k : Int} {u : Tok} (N : News h₀ L s.heap news) (hm : (l, W.listOf vs.toArray n) ∈ news) (hi : IntsAre vs ns) (hk : k = -1) (hne : ns ≠ []) (h : ∀ t, Q (.int (ns.getLastD 0) t) s)
    {ops : List Value} (hs : subscripted slice false (.ref l) (.int k u) = operate ops (getItem (.ref l) (.int k u))) :
    wpAny (model prog w) A (subscriptTail value slice (.ref l) (.int k u)) Q E s := by
  subst hk
  obtain ⟨t, e⟩ := ints_last hi hne
  have hp : 0 < vs.length := by rw [hi.length]; exact List.length_pos_iff.mpr hne
  refine tail_any (s := s) (Heap.IsList.typeIs ⟨_, N.get hm, rfl, n, rfl⟩) slot_list_getitem.lookup (wpAny_getItem_list_neg (items := vs.toArray) ⟨_, N.get hm, rfl, n, rfl⟩ (by omega) ?_ (by decide) ?_ (h t)) hs
  · rw [List.size_toArray]; omega
  · rw [List.size_toArray]
    have : (-1 + (vs.length : Int)).toNat = vs.length - 1 := by omega
    rw [this]; simpa using e
end

end

section
open PySem PySem.W PyProof.Rows PySem.Calls PySem.Spec

/-! A comprehension by an invariant over a state of one's own. -/
section
variable {prog : Program} {w : World} {A : Around} {h₀ : Heap} {L : Addr} {m : Str → Option Value} {env : Env}
def CTurn {σ : Type} (h₀ : Heap) (L : Addr) (m : Str → Option Value) (s : Shared) (I : Addr) (oI : Obj) (C : Addr) (oC : Obj) (D : Addr) (ys : List Value) (led : σ → List (Addr × Obj)) (S : List (Addr × Obj) → Prop) (Inv : List Value → σ → Prop) (y : Value) (s₂ : Shared) : Prop :=
  ∃ c' h' tk', s₂ = { s with heap := h', toks := tk' } ∧ Fr h₀ L h' m ∧ News h₀ L h' ((I, oI) :: (C, oC) :: (D, LCg.lst ys) :: led c') ∧ LCg.Off3 I C D (led c') ∧ S (led c') ∧ Inv (ys ++ [y]) c'
def CInt (h₀ : Heap) (L : Addr) (m : Str → Option Value) (s : Shared) (I : Addr) (oI : Obj) (C : Addr) (oC : Obj) (D : Addr) (ys : List Value) (news : List (Addr × Obj)) (k : Int) (y : Value) (s₂ : Shared) : Prop :=
  ∃ h' tk' t, s₂ = { s with heap := h', toks := tk' } ∧ Fr h₀ L h' m ∧ News h₀ L h' ((I, oI) :: (C, oC) :: (D, LCg.lst ys) :: news) ∧ y = .int k t
theorem cint {h₀ h' : Heap} {L I C D : Addr} {m : Str → Option Value} {s : Shared} {oI oC : Obj} {ys : List Value} {news : List (Addr × Obj)} {k k' : Int} {t : Tok} {tk : Nat} (F : Fr h₀ L h' m) (N : News h₀ L h' ((I, oI) :: (C, oC) :: (D, LCg.lst ys) :: news)) (e : k' = k) :
    CInt h₀ L m s I oI C oC D ys news k (.int k' t) { s with heap := h', toks := tk } := ⟨h', tk, t, rfl, F, N, by rw [e]⟩
theorem comp_led0 {σ : Type} {elt : Expr} {x : Str} {scope : Scope} {cl : List (Str × Addr)} {s : Shared} {S : List (Addr × Obj) → Prop} {P : Nat → Value → Prop} {Fin : List Value → List (Addr × Obj) → Prop} {n : Nat}
    (led : σ → List (Addr × Obj)) (Inv : Nat → List Value → σ → Prop)
    (turn : ∀ i v ys c I oI C oC D m₂ h tk (E' : Value → Shared → Prop), i < n → P i v → Inv i ys c → LCg.NsObj oC m₂ → m₂ x = some v → Fr h₀ L h m → News h₀ L h ((I, oI) :: (C, oC) :: (D, LCg.lst ys) :: led c) → LCg.Off3 I C D (led c) → ((@Ne Nat I C) ∧ (@Ne Nat I D) ∧ (@Ne Nat C D)) →
      wpAny (model prog w) A (eval elt (compEnvC scope cl C env)) (CTurn h₀ L m s I oI C oC D ys led S (Inv (i + 1))) E' { s with heap := h, toks := tk })
    (fin : ∀ ys c, Inv n ys c → Fin ys (led c)) :
    ∀ k i ys c, k + i = n → Inv i ys c → LCg.CompRest prog w A h₀ L m env elt x scope cl s S P Fin k i ys (led c)
  | 0, i, ys, c, hk, hi => by
    have : i = n := by omega
    subst this
    exact fin ys c hi
  | k + 1, i, ys, c, hk, hi => by
    refine LCg.CompRest.succ ?_
    intro v I oI C oC D m₂ h tk E' hP hC hx F N off ne
    refine wpAny_mono (turn i v ys c I oI C oC D m₂ h tk E' (by omega) hP hi hC hx F N off ne) (fun y s₂ q => ?_) fun _ _ e => e
    obtain ⟨c', h', tk', rfl, F', N', off', hS, hi'⟩ := q
    exact ⟨h', tk', led c', rfl, F', N', off', hS, comp_led0 led Inv turn fin k (i + 1) _ c' (by omega) hi'⟩
theorem comp_led {σ : Type} {elt : Expr} {x : Str} {scope : Scope} {cl : List (Str × Addr)} {s : Shared} {S : List (Addr × Obj) → Prop} {P : Nat → Value → Prop} {Fin : List Value → List (Addr × Obj) → Prop} {n : Nat} {news : List (Addr × Obj)}
    (led : σ → List (Addr × Obj)) (Inv : Nat → List Value → σ → Prop) (c₀ : σ) (hn : news = led c₀) (hi : Inv 0 [] c₀)
    (turn : ∀ i v ys c I oI C oC D m₂ h tk (E' : Value → Shared → Prop), i < n → P i v → Inv i ys c → LCg.NsObj oC m₂ → m₂ x = some v → Fr h₀ L h m → News h₀ L h ((I, oI) :: (C, oC) :: (D, LCg.lst ys) :: led c) → LCg.Off3 I C D (led c) → ((@Ne Nat I C) ∧ (@Ne Nat I D) ∧ (@Ne Nat C D)) →
      wpAny (model prog w) A (eval elt (compEnvC scope cl C env)) (CTurn h₀ L m s I oI C oC D ys led S (Inv (i + 1))) E' { s with heap := h, toks := tk })
    (fin : ∀ ys c, Inv n ys c → Fin ys (led c)) :
    LCg.CompRest prog w A h₀ L m env elt x scope cl s S P Fin n 0 [] news := by
  subst hn
  exact comp_led0 led Inv turn fin n 0 [] c₀ (by omega) hi
/-- The element makes nothing that is kept: ints told by a function of the turn's number. -/
theorem comp_ints {elt : Expr} {x : Str} {scope : Scope} {cl : List (Str × Addr)} {s : Shared} {S : List (Addr × Obj) → Prop} {P : Nat → Value → Prop} {Fin : List Value → List (Addr × Obj) → Prop} {n : Nat} {news : List (Addr × Obj)}
    (f : Nat → Int) (hS : S news)
    (turn : ∀ i v ys I oI C oC D m₂ h tk (E' : Value → Shared → Prop), i < n → P i v → LCg.NsObj oC m₂ → m₂ x = some v → Fr h₀ L h m → News h₀ L h ((I, oI) :: (C, oC) :: (D, LCg.lst ys) :: news) → LCg.Off3 I C D news → ((@Ne Nat I C) ∧ (@Ne Nat I D) ∧ (@Ne Nat C D)) →
      wpAny (model prog w) A (eval elt (compEnvC scope cl C env)) (CInt h₀ L m s I oI C oC D ys news (f i)) E' { s with heap := h, toks := tk })
    (fin : ∀ ys, IntsAre ys ((List.range n).map f) → Fin ys news) :
    LCg.CompRest prog w A h₀ L m env elt x scope cl s S P Fin n 0 [] news := by
  refine comp_led (σ := Unit) (fun _ => news) (fun i ys _ => IntsAre ys ((List.range i).map f)) () rfl .nil ?_ (fun ys _ h => fin ys h)
  intro i v ys c I oI C oC D m₂ h tk E' hi hP hinv hC hx F N off ne
  refine wpAny_mono (turn i v ys I oI C oC D m₂ h tk E' hi hP hC hx F N off ne) (fun y s₂ q => ?_) fun _ _ e => e
  obtain ⟨h', tk', t, rfl, F', N', rfl⟩ := q
  refine ⟨(), h', tk', rfl, F', N', off, hS, ?_⟩
  rw [List.range_succ, List.map_append]
  exact hinv.append (.cons _ _ .nil)
end
section
variable {prog : Program} {w : World} {A : Around} {E : Value → Shared → Prop} {s : Shared} {h₀ : Heap} {L D : Addr} {m : Str → Option Value} {news news' : List (Addr × Obj)} {n : Nat} {Q : Value → Shared → Prop}
theorem pop_ints {us : List Value} {R : List Int} {b : Int} (F : Fr h₀ L s.heap m) (N : News h₀ L s.heap news) (U : Upd D (W.listOf us.toArray n) (W.listOf us.dropLast.toArray (n + 1)) news news') (hi : IntsAre us (R ++ [b])) (hz : R.length ≤ 1000000)
    (h : ∀ h' t, Fr h₀ L h' m → News h₀ L h' news' → IntsAre us.dropLast R → Q (.int b t) { s with heap := h' }) : wpAny (model prog w) A (call (.builtin "list.pop") [.ref D]) Q E s := by
  have hl := hi.length
  rw [List.length_append, List.length_singleton] at hl
  refine kpa_pop F N U hi (by omega) (by rw [PySem.sizeLine_eq]; omega) fun h' t F' N' hI' => ?_
  have e1 : (R ++ [b]).getLastD 0 = b := by simp
  have e2 : (R ++ [b]).dropLast = R := by simp
  rw [e1]
  rw [e2] at hI'
  exact h h' t F' N' hI'
end
section
variable {prog : Program} {w : World} {A : Around} {E : Value → Shared → Prop} {s : Shared} {h₀ : Heap} {L a b l : Addr} {m : Str → Option Value} {news : List (Addr × Obj)} {n k : Nat} {vs ws : List Value} {ns ms : List Int} {Q : Value → Shared → Prop}
theorem addI_led (F : Fr h₀ L s.heap m) (N : News h₀ L s.heap news) (ha : (a, W.listOf vs.toArray n) ∈ news) (hb : (b, W.listOf ws.toArray k) ∈ news) (hi : IntsAre vs ns) (hj : IntsAre ws ms) (hz : ns.length + ms.length ≤ 1000000)
    (h : ∀ D h', Fr h₀ L h' m → News h₀ L h' ((D, W.listOf (vs ++ ws).toArray 0) :: news) → (∀ p ∈ news, p.1 < D) → IntsAre (vs ++ ws) (ns ++ ms) → Q (.ref D) { s with heap := h' }) : wpAny (model prog w) A (binaryOp .Add (.ref a) (.ref b)) Q E s :=
  add_lists_ints (hsz := by rw [PySem.sizeLine_eq]; omega) F N ⟨_, N.get ha, rfl, n, rfl⟩ ⟨_, N.get hb, rfl, k, rfl⟩ hi hj fun h' F' N' hk => h _ h' F' N' (fun p hp => Heap.lt_size (N p hp).1) hk
theorem maxI_led (hh : A.handled = none) (F : Fr h₀ L s.heap m) (N : News h₀ L s.heap news) (hl : (l, W.listOf vs.toArray n) ∈ news) (hi : IntsAre vs ns) (hne : ns ≠ [])
    (h : ∀ h' M (t : Tok) tk, Fr h₀ L h' m → News h₀ L h' news → M ∈ ns → (∀ a, a ∈ ns → a ≤ M) → Q (.int M t) { s with heap := h', toks := tk }) :
    wpAny (model prog w) A (call (.builtin "max") [.ref l]) Q E s :=
  max_list_N hh F N ⟨_, N.get hl, rfl, n, rfl⟩ hi (List.length_pos_iff.mpr hne) h
theorem countI_led {x : Int} {t : Tok} (N : News h₀ L s.heap news) (hl : (l, W.listOf vs.toArray n) ∈ news) (hi : IntsAre vs ns)
    (h : ∀ t' k, Q (.int (ns.count x : Nat) t') { s with toks := k }) : wpAny (model prog w) A (call (.builtin "list.count") [.ref l, .int x t]) Q E s :=
  count_list_ints ⟨_, N.get hl, rfl, n, rfl⟩ hi (h _ _)
end

end

section
open PySem PySem.W PyProof.Rows PySem.Calls PySem.Spec

theorem mulOk_of {x : Str} {n : Int} (hx : x.length ≤ 1000) (hn : n ≤ 1000) (hm : -1000 ≤ n) : MulOk x n := by
  refine ⟨?_, ?_, ?_⟩
  · have a : decide (n < -(2 ^ 63 : Int)) = false := decide_eq_false (by omega)
    have b : decide (n ≥ 2 ^ 63) = false := decide_eq_false (by omega)
    rw [a, b]; rfl
  · intro h1 _
    have : (1000 : Int) ≤ (2 ^ 63 - 1) / n := by
      refine (Int.le_ediv_iff_mul_le (by omega)).mpr ?_
      omega
    omega
  · intro h1 _
    have h2 : x.length * n.toNat ≤ 1000 * 1000 := Nat.mul_le_mul hx (by omega)
    unfold PySem.Builtin.Str.tooLong
    rw [PySem.sizeLine_eq]
    exact decide_eq_false (by omega)
section
variable {prog : Program} {w : World} {A : Around} {E : Value → Shared → Prop} {s : Shared} {h₀ : Heap} {L D : Addr} {m : Str → Option Value} {news : List (Addr × Obj)} {k : Nat} {Q : Value → Shared → Prop} {x : Str} {t u : Tok}
theorem mul_led {n : Int} (hx : x.length ≤ 1000) (hn : n ≤ 1000) (hm : -1000 ≤ n) (h : ∀ t' k, Q (.str (Txt.mul x n) t') { s with toks := k }) : wpAny (model prog w) A (binaryOp .Mult (.str x t) (.int n u)) Q E s := SB.mul (mulOk_of hx hn hm) h
theorem join_led {vs : List Value} {ys : List Str} (N : News h₀ L s.heap news) (hl : (D, W.listOf vs.toArray k) ∈ news) (hi : StrsAre vs ys) (hok : (ys.map (·.length)).sum + ys.length * x.length ≤ 16777216)
    (h : ∀ t' k, Q (.str (Txt.join x ys) t') { s with toks := k }) : wpAny (model prog w) A (call (.builtin "str.join") [.str x t, .ref D]) Q E s :=
  join_list (items := vs.toArray) ⟨_, N.get hl, rfl, k, rfl⟩ hi hok h
end
section
variable {prog : Program} {w : World} {A : Around} {h₀ : Heap} {L : Addr} {m : Str → Option Value} {env : Env}
def CStr (h₀ : Heap) (L : Addr) (m : Str → Option Value) (s : Shared) (I : Addr) (oI : Obj) (C : Addr) (oC : Obj) (D : Addr) (ys : List Value) (news : List (Addr × Obj)) (k : Str) (y : Value) (s₂ : Shared) : Prop :=
  ∃ h' tk' t, s₂ = { s with heap := h', toks := tk' } ∧ Fr h₀ L h' m ∧ News h₀ L h' ((I, oI) :: (C, oC) :: (D, LCg.lst ys) :: news) ∧ y = .str k t
theorem cstr {h₀ h' : Heap} {L I C D : Addr} {m : Str → Option Value} {s : Shared} {oI oC : Obj} {ys : List Value} {news : List (Addr × Obj)} {k k' : Str} {t : Tok} {tk : Nat} (F : Fr h₀ L h' m) (N : News h₀ L h' ((I, oI) :: (C, oC) :: (D, LCg.lst ys) :: news)) (e : k' = k) :
    CStr h₀ L m s I oI C oC D ys news k (.str k' t) { s with heap := h', toks := tk } := ⟨h', tk, t, rfl, F, N, by rw [e]⟩
/-- The element makes nothing that is kept: texts told by a function of the turn's number. -/
theorem comp_strs {elt : Expr} {x : Str} {scope : Scope} {cl : List (Str × Addr)} {s : Shared} {S : List (Addr × Obj) → Prop} {P : Nat → Value → Prop} {Fin : List Value → List (Addr × Obj) → Prop} {n : Nat} {news : List (Addr × Obj)}
    (f : Nat → Str) (hS : S news)
    (turn : ∀ i v ys I oI C oC D m₂ h tk (E' : Value → Shared → Prop), i < n → P i v → LCg.NsObj oC m₂ → m₂ x = some v → Fr h₀ L h m → News h₀ L h ((I, oI) :: (C, oC) :: (D, LCg.lst ys) :: news) → LCg.Off3 I C D news → ((@Ne Nat I C) ∧ (@Ne Nat I D) ∧ (@Ne Nat C D)) →
      wpAny (model prog w) A (eval elt (compEnvC scope cl C env)) (CStr h₀ L m s I oI C oC D ys news (f i)) E' { s with heap := h, toks := tk })
    (fin : ∀ ys, StrsAre ys ((List.range n).map f) → Fin ys news) :
    LCg.CompRest prog w A h₀ L m env elt x scope cl s S P Fin n 0 [] news := by
  refine comp_led (σ := Unit) (fun _ => news) (fun i ys _ => StrsAre ys ((List.range i).map f)) () rfl .nil ?_ (fun ys _ h => fin ys h)
  intro i v ys c I oI C oC D m₂ h tk E' hi hP hinv hC hx F N off ne
  refine wpAny_mono (turn i v ys I oI C oC D m₂ h tk E' hi hP hC hx F N off ne) (fun y s₂ q => ?_) fun _ _ e => e
  obtain ⟨h', tk', t, rfl, F', N', rfl⟩ := q
  refine ⟨(), h', tk', rfl, F', N', off, hS, ?_⟩
  rw [List.range_succ, List.map_append]
  exact hinv.append' (.cons _ _ .nil)
end
/-- What a place of a list of ints holds. -/
theorem ints_item {vs : List Value} {ns : List Int} (hi : IntsAre vs ns) {i : Nat} {v : Value} (h : vs.toArray[i]? = some v) : ∃ t, i < ns.length ∧ v = .int (ns.getD i 0) t := by
  have h' : vs[i]? = some v := by simpa using h
  have hl := (List.getElem?_eq_some_iff.mp h').1
  rw [hi.length] at hl
  obtain ⟨t, e⟩ := ints_at hi hl
  rw [h'] at e
  exact ⟨t, hl, Option.some.inj e⟩
theorem map_range {α β : Type} (l : List α) (d : α) (g : α → β) : (List.range l.length).map (fun i => g (l.getD i d)) = l.map g := by
  apply List.ext_getElem
  · simp
  · intro i h1 h2
    simp only [List.length_map] at h2
    simp [List.getD_eq_getElem?_getD, List.getElem?_eq_getElem h2]
section
variable {prog : Program} {w : World} {A : Around} {h₀ : Heap} {L : Addr} {m : Str → Option Value} {env : Env} {elt : Expr} {x : Str} {scope : Scope} {cl : List (Str × Addr)} {s : Shared} {S : List (Addr × Obj) → Prop} {Fin : List Value → List (Addr × Obj) → Prop} {news : List (Addr × Obj)} {vs : List Value} {ns : List Int}
theorem comp_mapI (hi : IntsAre vs ns) (f : Int → Int) (hS : S news)
    (turn : ∀ a t ys I oI C oC D m₂ h tk (E' : Value → Shared → Prop), a ∈ ns → LCg.NsObj oC m₂ → m₂ x = some (.int a t) → Fr h₀ L h m → News h₀ L h ((I, oI) :: (C, oC) :: (D, LCg.lst ys) :: news) → LCg.Off3 I C D news → ((@Ne Nat I C) ∧ (@Ne Nat I D) ∧ (@Ne Nat C D)) →
      wpAny (model prog w) A (eval elt (compEnvC scope cl C env)) (CInt h₀ L m s I oI C oC D ys news (f a)) E' { s with heap := h, toks := tk })
    (fin : ∀ ys, IntsAre ys (ns.map f) → Fin ys news) :
    LCg.CompRest prog w A h₀ L m env elt x scope cl s S (fun i v => vs.toArray[i]? = some v) Fin vs.toArray.size 0 [] news := by
  refine comp_ints (fun i => f (ns.getD i 0)) hS ?_ ?_
  · intro i v ys I oI C oC D m₂ h tk E' hin hP hC hx F N off ne
    obtain ⟨t, hl, rfl⟩ := ints_item hi hP
    refine turn _ t ys I oI C oC D m₂ h tk E' ?_ hC hx F N off ne
    rw [List.getD_eq_getElem?_getD, List.getElem?_eq_getElem hl]
    exact List.getElem_mem hl
  · intro ys h
    refine fin ys ?_
    rw [List.size_toArray, hi.length, map_range ns 0 f] at h
    exact h
theorem comp_mapS (hi : IntsAre vs ns) (f : Int → Str) (hS : S news)
    (turn : ∀ a t ys I oI C oC D m₂ h tk (E' : Value → Shared → Prop), a ∈ ns → LCg.NsObj oC m₂ → m₂ x = some (.int a t) → Fr h₀ L h m → News h₀ L h ((I, oI) :: (C, oC) :: (D, LCg.lst ys) :: news) → LCg.Off3 I C D news → ((@Ne Nat I C) ∧ (@Ne Nat I D) ∧ (@Ne Nat C D)) →
      wpAny (model prog w) A (eval elt (compEnvC scope cl C env)) (CStr h₀ L m s I oI C oC D ys news (f a)) E' { s with heap := h, toks := tk })
    (fin : ∀ ys, StrsAre ys (ns.map f) → Fin ys news) :
    LCg.CompRest prog w A h₀ L m env elt x scope cl s S (fun i v => vs.toArray[i]? = some v) Fin vs.toArray.size 0 [] news := by
  refine comp_strs (fun i => f (ns.getD i 0)) hS ?_ ?_
  · intro i v ys I oI C oC D m₂ h tk E' hin hP hC hx F N off ne
    obtain ⟨t, hl, rfl⟩ := ints_item hi hP
    refine turn _ t ys I oI C oC D m₂ h tk E' ?_ hC hx F N off ne
    rw [List.getD_eq_getElem?_getD, List.getElem?_eq_getElem hl]
    exact List.getElem_mem hl
  · intro ys h
    refine fin ys ?_
    rw [List.size_toArray, hi.length, map_range ns 0 f] at h
    exact h
end

end

section
open PySem PySem.W PyProof.Rows PySem.Calls PySem.Spec

section
variable {prog : Program} {w : World} {A : Around} {E : Value → Shared → Prop} {s : Shared} {h₀ : Heap} {L : Addr} {m : Str → Option Value} {news : List (Addr × Obj)} {Q : Value → Shared → Prop}
/-- A place of a tuple of ints that stood before the frame. -/
theorem item_tupB {value slice : PySem.Expr} {t : Addr} {vs : List Value} {ns : List Int} {k : Int} {u : Tok} (F : Fr h₀ L s.heap m) (ht : IsTup h₀ t vs.toArray) (hi : IntsAre vs ns) (h0 : 0 ≤ k) (h1 : k.toNat < ns.length) (hf : k < 2 ^ 63) (h : ∀ t', Q (.int (ns.getD k.toNat 0) t') s)
    {ops : List Value} (hs : subscripted slice false (.ref t) (.int k u) = operate ops (getItem (.ref t) (.int k u))) :
    wpAny (model prog w) A (subscriptTail value slice (.ref t) (.int k u)) Q E s := by
  have ht' : IsTup s.heap t vs.toArray := ht.keeps F.keep
  obtain ⟨t', e⟩ := ints_at hi h1
  have hl := hi.length
  refine tail_any ht'.typeIs slot_tuple_getitem.lookup (getItem_tuple (j := k.toNat) ht' (by omega) hf ?_ (by simpa using e) (h t')) hs
  rw [List.size_toArray]
  exact seqIndex_of h0 (by omega)
theorem len_tupB {t : Addr} {vs : List Value} {ns : List Int} (F : Fr h₀ L s.heap m) (ht : IsTup h₀ t vs.toArray) (hi : IntsAre vs ns) (hz : ns.length ≤ 1000000) (h : ∀ t' k, Q (.int (ns.length : Int) t') { s with toks := k }) :
    wpAny (model prog w) A (call (.builtin "len") [.ref t]) Q E s := by
  have ht' : IsTup s.heap t vs.toArray := ht.keeps F.keep
  have hl := hi.length
  refine len_tuple ht' (by rw [List.size_toArray]; omega) ?_
  rw [List.size_toArray, hl]
  exact h _ _
end
theorem and3N {a b c d : Nat} (h : a < b ∧ b < c ∧ c < d) : a < b ∧ b < c ∧ c < d := h
theorem datInt {news : List (Addr × Obj)} {i j : Int} {t : Tok} (h : i = j) : DatIn news (.int i t) (.int j) := h ▸ .int i t
theorem datInts {news : List (Addr × Obj)} {vs : List Value} {l m : List Int} (hi : IntsAre vs l) (e : l = m) : DatAll news vs (m.map .int) := e ▸ datAll_ints hi
theorem isnot_refute {a b c a' b' c' : Int} (h1 : a = a') (h2 : b = b') (h3 : c = c') (h : (decide (a = b + c) != (a' == b' + c')) = true) : False := by
  subst h1 h2 h3
  by_cases e : a = b + c
  · simp [e] at h
  · have : (a == b + c) = false := by rw [beq_eq_false_iff_ne]; exact e
    rw [this] at h
    simp [e] at h
theorem dok_ints {n : Nat} (l : List Int) : (l.map Dat.int).all (dok n) = true := by
  induction l with
  | nil => rfl
  | cons a r ih => rw [List.map_cons, List.all_cons, ih]; cases n <;> rfl

end

section
open PySem PySem.W PyProof.Rows PySem.Calls PySem.Spec

def pickL {α : Type} (l : List α) (lo hi st : Option Int) : List α :=
  (sliceRange (sliceBounds lo hi st l.length).1 (sliceBounds lo hi st l.length).2.1 (sliceBounds lo hi st l.length).2.2).filterMap (l[·]?)
theorem slicePick_list (vs : List Value) (lo hi st : Option Int) : slicePick vs.toArray lo hi st = (pickL vs lo hi st).toArray := by
  simp [slicePick, pickL]
theorem pickNums_list (ns : List Int) (lo hi st : Option Int) : pickNums ns lo hi st = pickL ns lo hi st := rfl
theorem filterMap_range {α : Type} (l : List α) (f : Nat → Nat) (n : Nat) (g : List α) (hg : g.length = n) (h : ∀ k, k < n → l[f k]? = g[k]?) : ((List.range n).map f).filterMap (l[·]?) = g := by
  subst hg
  rw [List.filterMap_map]
  have e : ∀ m, m ≤ g.length → (List.range m).filterMap ((l[·]?) ∘ f) = g.take m := by
    intro m
    induction m with
    | zero => simp
    | succ m ih =>
      intro hm
      rw [List.range_succ, List.filterMap_append, ih (by omega), List.take_add_one]
      congr 1
      have := h m (by omega)
      have h2 : g[m]? = some g[m] := List.getElem?_eq_getElem (by omega)
      simp [Function.comp, this, h2]
  rw [e g.length (Nat.le_refl _), List.take_length]
theorem pickL_to {α : Type} (l : List α) {k : Int} (h0 : 0 ≤ k) : pickL l none (some k) none = l.take k.toNat := by
  have e : sliceBounds none (some k) none l.length = ((0 : Int), max 0 (min k l.length), (1 : Int)) := by
    unfold sliceBounds
    have h1 : ¬ k < 0 := by omega
    simp [h1]
  unfold pickL
  rw [e]
  unfold sliceRange
  refine filterMap_range l _ _ _ ?_ ?_
  · rw [List.length_take]
    simp only [Int.sub_zero]
    have : (if (1 : Int) > 0 then (if (0 : Int) < max 0 (min k ↑l.length) then (max 0 (min k ↑l.length) + 1 - 1) / 1 else 0) else if (0 : Int) > max 0 (min k ↑l.length) then (0 - max 0 (min k ↑l.length) - 1 - 1) / -1 else 0) = max 0 (min k ↑l.length) := by
      rw [if_pos (by decide)]
      split <;> omega
    rw [this]
    omega
  · intro j hj
    have e2 : ((0 : Int) + 1 * (j : Int)).toNat = j := by omega
    rw [e2, List.getElem?_take]
    split
    · rfl
    · rename_i hn
      rw [List.getElem?_eq_none]
      rw [show (if (1 : Int) > 0 then (if (0 : Int) < max 0 (min k ↑l.length) then (max 0 (min k ↑l.length) - 0 + 1 - 1) / 1 else 0) else if (0 : Int) > max 0 (min k ↑l.length) then (0 - max 0 (min k ↑l.length) - 1 - 1) / -1 else 0) = max 0 (min k ↑l.length) by rw [if_pos (by decide)]; split <;> omega] at hj
      omega
theorem pickL_from {α : Type} (l : List α) {k : Int} (h0 : 0 ≤ k) : pickL l (some k) none none = l.drop k.toNat := by
  have e : sliceBounds (some k) none none l.length = (max 0 (min k l.length), (l.length : Int), (1 : Int)) := by
    unfold sliceBounds
    have h1 : ¬ k < 0 := by omega
    simp [h1]
  unfold pickL
  rw [e]
  unfold sliceRange
  have hc : (if (1 : Int) > 0 then (if max 0 (min k ↑l.length) < (l.length : Int) then ((l.length : Int) - max 0 (min k ↑l.length) + 1 - 1) / 1 else 0) else if max 0 (min k ↑l.length) > (l.length : Int) then (max 0 (min k ↑l.length) - (l.length : Int) - 1 - 1) / -1 else 0) = (l.length : Int) - max 0 (min k ↑l.length) := by
    rw [if_pos (by decide)]
    split <;> omega
  refine filterMap_range l _ _ _ ?_ ?_
  · rw [List.length_drop]
    simp only [hc]
    omega
  · intro j hj
    rw [List.getElem?_drop]
    simp only [hc] at hj
    have e2 : (max 0 (min k ↑l.length) + 1 * (j : Int)).toNat = k.toNat + j := by omega
    rw [e2]
theorem pickL_rev {α : Type} (l : List α) : pickL l none none (some (-1)) = l.reverse := by
  have e : sliceBounds none none (some (-1)) l.length = ((l.length : Int) - 1, (-1 : Int), (-1 : Int)) := by
    unfold sliceBounds
    simp
  unfold pickL
  rw [e]
  unfold sliceRange
  have hc : (if (-1 : Int) > 0 then (if (l.length : Int) - 1 < -1 then (-1 - ((l.length : Int) - 1) + -1 - 1) / -1 else 0) else if (l.length : Int) - 1 > -1 then ((l.length : Int) - 1 - -1 - -1 - 1) / (- -1) else 0) = (l.length : Int) := by
    rw [if_neg (by decide), show (- -1 : Int) = 1 from rfl, Int.ediv_one]
    split <;> omega
  refine filterMap_range l _ _ _ ?_ ?_
  · rw [List.length_reverse]
    simp only [hc]
    omega
  · intro j hj
    simp only [hc] at hj
    rw [List.getElem?_reverse (by omega)]
    have e2 : ((l.length : Int) - 1 + -1 * (j : Int)).toNat = l.length - 1 - j := by omega
    rw [e2]
mutual
def evens {α : Type} : List α → List α
  | [] => []
  | a :: r => a :: odds r
def odds {α : Type} : List α → List α
  | [] => []
  | _ :: r => evens r
end
theorem eo_len {α : Type} : ∀ l : List α, (evens l).length = (l.length + 1) / 2 ∧ (odds l).length = l.length / 2
  | [] => by simp [evens, odds]
  | a :: r => by
    have := eo_len r
    simp only [evens, odds, List.length_cons]
    omega
theorem eo_get {α : Type} : ∀ (l : List α) (k : Nat), (evens l)[k]? = l[2 * k]? ∧ (odds l)[k]? = l[2 * k + 1]?
  | [], k => by simp [evens, odds]
  | a :: r, k => by
    have h := eo_get r k
    refine ⟨?_, ?_⟩
    · cases k with
      | zero => simp [evens]
      | succ k =>
        have h2 := (eo_get r k).2
        simp only [evens, List.getElem?_cons_succ]
        rw [h2]
        have : 2 * (k + 1) = (2 * k + 1) + 1 := by omega
        rw [this, List.getElem?_cons_succ]
    · simp only [odds, List.getElem?_cons_succ]
      exact h.1
theorem eo_perm {α : Type} : ∀ l : List α, List.Perm (odds l ++ evens l) l
  | [] => by simp [evens, odds]
  | a :: r => by
    simp only [evens, odds]
    refine List.Perm.trans (List.perm_middle) (List.Perm.cons a ?_)
    exact List.Perm.trans List.perm_append_comm (eo_perm r)
theorem pickL_odds {α : Type} (l : List α) : pickL l (some 1) none (some 2) = odds l := by
  have e : sliceBounds (some 1) none (some 2) l.length = (max 0 (min 1 (l.length : Int)), (l.length : Int), (2 : Int)) := by
    unfold sliceBounds
    simp
  unfold pickL
  rw [e]
  unfold sliceRange
  have hc : (if (2 : Int) > 0 then (if max 0 (min 1 (l.length : Int)) < (l.length : Int) then ((l.length : Int) - max 0 (min 1 (l.length : Int)) + 2 - 1) / 2 else 0) else if max 0 (min 1 (l.length : Int)) > (l.length : Int) then (max 0 (min 1 (l.length : Int)) - (l.length : Int) - 2 - 1) / -2 else 0) = ((l.length / 2 : Nat) : Int) := by
    rw [if_pos (by decide)]
    split <;> omega
  refine filterMap_range l _ _ _ ?_ ?_
  · rw [(eo_len l).2]
    simp only [hc]
    omega
  · intro j hj
    simp only [hc] at hj
    have hj2 : j < l.length / 2 := by omega
    have e2 : (max 0 (min 1 (l.length : Int)) + 2 * (j : Int)).toNat = 2 * j + 1 := by omega
    rw [e2, (eo_get l j).2]
theorem pickL_evens {α : Type} (l : List α) : pickL l (some 0) none (some 2) = evens l := by
  have e : sliceBounds (some 0) none (some 2) l.length = ((0 : Int), (l.length : Int), (2 : Int)) := by
    unfold sliceBounds
    simp
    omega
  unfold pickL
  rw [e]
  unfold sliceRange
  have hc : (if (2 : Int) > 0 then (if (0 : Int) < (l.length : Int) then ((l.length : Int) - 0 + 2 - 1) / 2 else 0) else if (0 : Int) > (l.length : Int) then (0 - (l.length : Int) - 2 - 1) / -2 else 0) = (((l.length + 1) / 2 : Nat) : Int) := by
    rw [if_pos (by decide)]
    split <;> omega
  refine filterMap_range l _ _ _ ?_ ?_
  · rw [(eo_len l).1]
    simp only [hc]
    omega
  · intro j hj
    simp only [hc] at hj
    have e2 : ((0 : Int) + 2 * (j : Int)).toNat = 2 * j := by omega
    rw [e2, (eo_get l j).1]
section
variable {prog : Program} {w : World} {A : Around} {E : Value → Shared → Prop} {s : Shared} {h₀ : Heap} {L : Addr} {m : Str → Option Value} {news : List (Addr × Obj)} {Q : Value → Shared → Prop}
theorem slice_led {value slice : PySem.Expr} {l : Addr} {vs : List Value} {n : Nat} {vl vu vk : Value} {lo hi st : Option Int} {ops : List Value} (F : Fr h₀ L s.heap m) (N : News h₀ L s.heap news) (hm : (l, W.listOf vs.toArray n) ∈ news) (pl : IsPart vl lo) (pu : IsPart vu hi) (pk : IsPart vk st) (h0 : st ≠ some 0) (hz : vs.length ≤ 1000000)
    (h : ∀ D h', Fr h₀ L h' m → News h₀ L h' ((D, W.listOf (pickL vs lo hi st).toArray 0) :: news) → (∀ p ∈ news, p.1 < D) → Q (.ref D) { s with heap := h' })
    (hs : subscripted slice false (.ref l) (.ref s.heap.objs.size) = operate ops (getItem (.ref l) (.ref s.heap.objs.size)))
    (ht : ∀ r, letTemporaryGo value (.ref l) r = pure ()) :
    wpAny (model prog w) A (subscriptTail value slice (.ref l) (.ref s.heap.objs.size)) Q E { s with heap := s.heap.push { cls := .type "slice", data := .fields #[vl, vu, vk] } } := by
  refine slice_list3 (items := vs.toArray) F N ⟨_, N.get hm, rfl, n, rfl⟩ pl pu pk h0 ?_ hs ht (by rw [List.size_toArray, PySem.sizeLine_eq]; omega)
  intro h' F' N'
  rw [slicePick_list] at N'
  exact h _ h' F' N' fun p hp => Nat.lt_succ_of_lt (Heap.lt_size (N p hp).1)
theorem slice_ledI {value slice : PySem.Expr} {l : Addr} {vs : List Value} {ns : List Int} {n : Nat} {vl vu vk : Value} {lo hi st : Option Int} {ops : List Value} (F : Fr h₀ L s.heap m) (N : News h₀ L s.heap news) (hm : (l, W.listOf vs.toArray n) ∈ news) (hi' : IntsAre vs ns) (pl : IsPart vl lo) (pu : IsPart vu hi) (pk : IsPart vk st) (h0 : st ≠ some 0) (hz : ns.length ≤ 1000000)
    (h : ∀ D us h', Fr h₀ L h' m → News h₀ L h' ((D, W.listOf us.toArray 0) :: news) → (∀ p ∈ news, p.1 < D) → IntsAre us (pickL ns lo hi st) → Q (.ref D) { s with heap := h' })
    (hs : subscripted slice false (.ref l) (.ref s.heap.objs.size) = operate ops (getItem (.ref l) (.ref s.heap.objs.size)))
    (ht : ∀ r, letTemporaryGo value (.ref l) r = pure ()) :
    wpAny (model prog w) A (subscriptTail value slice (.ref l) (.ref s.heap.objs.size)) Q E { s with heap := s.heap.push { cls := .type "slice", data := .fields #[vl, vu, vk] } } := by
  refine slice_led F N hm pl pu pk h0 (by rw [hi'.length]; exact hz) (fun D h' F' N' l1 => h D _ h' F' N' l1 ?_) hs ht
  have := hi'.pick lo hi st
  rw [slicePick_list] at this
  exact this
end

end

section
open PySem PySem.W PyProof.Rows PySem.Calls PySem.Spec

theorem rep_flatV {α : Type} {k : Nat} {a : α} : (List.replicate k [a]).flatten = List.replicate k a := by
  induction k with
  | zero => rfl
  | succ k ih => simp [List.replicate_succ, ih]
theorem intsRep (k : Nat) (x : Int) (u : Tok) : IntsAre (List.replicate k (.int x u)) (List.replicate k x) := by
  induction k with
  | zero => exact .nil
  | succ k ih => exact .cons _ _ ih
section
variable {prog : Program} {w : World} {A : Around} {E : Value → Shared → Prop} {s : Shared} {h₀ : Heap} {L : Addr} {m : Str → Option Value} {news : List (Addr × Obj)} {Q : Value → Shared → Prop}
theorem len_tupL {t : Addr} {vs : List Value} {ns : List Int} {n : Nat} (N : News h₀ L s.heap news) (hm : (t, ({ cls := .type "tuple", data := .seq vs.toArray n } : Obj)) ∈ news) (hi : IntsAre vs ns) (hz : ns.length ≤ 1000000) (h : ∀ t' k, Q (.int (ns.length : Int) t') { s with toks := k }) :
    wpAny (model prog w) A (call (.builtin "len") [.ref t]) Q E s := by
  have hl := hi.length
  refine len_tuple (items := vs.toArray) ⟨_, N.get hm, rfl, n, rfl⟩ (by rw [List.size_toArray]; omega) ?_
  rw [List.size_toArray, hl]
  exact h _ _
/-- A place of a tuple of ints of the ledger. -/
theorem item_tupI {value slice : PySem.Expr} {t : Addr} {vs : List Value} {ns : List Int} {n : Nat} {k : Int} {u : Tok} (N : News h₀ L s.heap news) (hm : (t, ({ cls := .type "tuple", data := .seq vs.toArray n } : Obj)) ∈ news) (hi : IntsAre vs ns) (h0 : 0 ≤ k) (h1 : k.toNat < ns.length) (hf : k < 2 ^ 63) (h : ∀ t', Q (.int (ns.getD k.toNat 0) t') s)
    {ops : List Value} (hs : subscripted slice false (.ref t) (.int k u) = operate ops (getItem (.ref t) (.int k u))) :
    wpAny (model prog w) A (subscriptTail value slice (.ref t) (.int k u)) Q E s := by
  obtain ⟨t', e⟩ := ints_at hi h1
  have hl := hi.length
  exact item_tupLed N hm (by omega) hf (seqIndex_of h0 (by omega)) e (h t') hs
/-- [x] * k for a list of one int. -/
theorem rep_led {l : Addr} {x : Int} {u t : Tok} {n : Nat} {k : Int} (F : Fr h₀ L s.heap m) (N : News h₀ L s.heap news) (hm : (l, W.listOf #[.int x u] n) ∈ news) (h0 : 0 ≤ k) (h1 : k ≤ 256)
    (h : ∀ D us h', Fr h₀ L h' m → News h₀ L h' ((D, W.listOf us.toArray 0) :: news) → (∀ p ∈ news, p.1 < D) → IntsAre us (List.replicate k.toNat x) → Q (.ref D) { s with heap := h' }) :
    wpAny (model prog w) A (binaryOp .Mult (.ref l) (.int k t)) Q E s := by
  refine KMa.mul (vs := [.int x u]) F N ⟨_, N.get hm, rfl, n, rfl⟩ (by omega) (by omega) (by simp; omega) (rep_flatV (k := k.toNat)) fun D h' F' N' l1 => h D _ h' F' N' l1 (intsRep _ _ _)
end

end

section
open PySem PySem.W PyProof.Rows PySem.Calls PySem.Spec

/-! An own exception class with an own __init__ is called. -/
abbrev mroE : List Value := [.type "Exception", .type "BaseException", .type "object"]
section
variable {prog : Program} {w : World} {A : Around} {R : Result → Shared → Prop} {h : Heap} {g : Array GenState} {d : Drawn} {t : Nat} {os : OsState}
variable {nm q : Str} {C N : Addr} {bs : List Value} {hdct : Bool} {sn : List Str} {sub : List Value} {ab : Bool} {col : Option Bool} {dd : Option Addr} {k0 k1 k2 k3 k5 : Option Value}
abbrev excNew (C : Addr) (t : Addr) : Obj := { cls := .ref C, data := .fields #[.ref t, .none, .none, .none, .bool false, .none] }
theorem exc_core {rest : List Value} {fI : Addr} (hC : h.get? C = some (excClassObj nm q C N bs mroE hdct sn sub ab col dd k0 k1 k2 k3 k5 "Exception.__new__"))
    (hi : Looks (model prog w) h (typeLookup (.ref C) "__init__") (some (.ref fI))) (hb : ∀ self, Looks (model prog w) h (bindSpecial (.ref fI) self) (.ref fI, [self])) (hrest : rest.length ≤ sizeLine)
    (hq : codeAny (model prog w) (A.under (.builtin "type.__call__" ⟨.ref C :: rest, []⟩)) (.call (.ref fI) ⟨.ref (h.objs.size + 1) :: rest, []⟩) (InitBack (h.objs.size + 1) R) ⟨(h.push (tupO rest.toArray)).push (excNew C h.objs.size), g, d, t, os⟩) :
    codeAny (model prog w) A (.call (.ref C) ⟨rest, []⟩) R ⟨h, g, d, t, os⟩ := by
  have F := PySem.F.excBase_Exception
  have f1 := tc_lookup
  have f2 := tc_bind (.ref C)
  have hT : (⟨h, g, d, t, os⟩ : Shared).TypeIs (.ref C) "type" := ⟨_, hC, rfl⟩
  refine codeAny_of_tree ?_
  show wpAny _ _ (callAny (.ref C) _) _ _ _
  repeat (any_goals (first | assumption | with_reducible refine wpAny_loadPart_at hC ?_ | wp_step))
  refine ⟨rfl, ?_⟩
  refine codeAny_call_builtin_at (Code.quiet_builtin _ (by decide +kernel)) entry_typeCall (wpAny_check_type_call_sub hC ?_)
  repeat (first | with_reducible refine wpAny_loadPart_at hC ?_ | with_reducible refine wpAny_madeBy_exc hC ?_ | wp_step)
  refine codeAny_call_builtin_code (Code.quiet_builtin _ F.quiet) (wpAny_check_new_sub F hC ?_)
  refine codeAny_exc_new_sub F hC ?_ hrest
  show wpAny _ _ _ _ _ _
  have k : ∀ b o, h.get? b = some o → ((h.push (tupO rest.toArray)).push (excNew C h.objs.size)).get? b = some o := fun b o e => Heap.get?_push_of_some _ (Heap.get?_push_of_some _ e)
  have hC₁ := k _ _ hC
  have hget : ((h.push (tupO rest.toArray)).push (excNew C h.objs.size)).get? (h.objs.size + 1) = some (excNew C h.objs.size) := by heap_get
  have hcC : (Value.ref C :: mroE).contains (.ref C) = true := by simp
  unfold isInstance
  repeat (first | with_reducible refine wpAny_loadPart_at hget ?_ | (with_reducible refine wpAny_isSubtype_exc hC₁ ?_; rw [hcC]) | wp_step)
  show wpAny _ _ (isSubtype (.ref C) (.ref C)) _ _ ⟨(h.push (tupO rest.toArray)).push (excNew C h.objs.size), g, d, t, os⟩
  refine wpAny_isSubtype_exc hC₁ ?_
  rw [hcC]
  have t1 : Looks (model prog w) ((h.push (tupO rest.toArray)).push (excNew C h.objs.size)) (typeOf (.ref (h.objs.size + 1))) (.ref C) := (Looks.ld hget).andThen .now
  have i1 := hi.keeps k
  have b1 := (hb (.ref (h.objs.size + 1))).keeps k
  simp only [Bool.not_true, Bool.false_eq_true, if_false]
  unfold callSpecial? specialOf
  repeat (first | with_reducible refine wpAny_call ?_ | lk)
  refine codeAny_mono hq fun r s' z => ?_
  rcases r with e | (v | _ | _ | _) <;> first | exact z | exact z.elim | skip
  obtain ⟨rfl, z⟩ := z
  exact wpAny_pure (wpAny_pure z)
end

end

section
open PySem PySem.W PyProof.Rows PySem.Calls PySem.Spec

/-! An exception in flight of which more than its class is told: P holds of its object all the way. -/
def KeepP (P : Obj → Prop) : Prop := ∀ (o : Obj) (f : Array Value → Array Value), P o → P (o.mapFields f)
def TrP (P : Obj → Prop) (h base : Heap) (e : Addr) (fl : Value) : Prop :=
  ∃ (oe : Obj) (vs : Array Value) (T : Addr) (oT : Obj) (ts : Array Value), h.get? e = some oe ∧ P oe ∧ oe.data = .fields vs ∧ vs[1]? = some (.ref T) ∧ base.get? T = none ∧ T ≠ e ∧ h.get? T = some oT ∧ oT.data = .fields ts ∧ ts[3]? = some fl
def FlyP (P : Obj → Prop) (base : Heap) (l : List Env) (e : Addr) (fl : Value) (h : Heap) : Prop :=
  base.StaysIn h ∧ base.get? e = none ∧ h.FunFrames base l ∧ TrP P h base e fl
section
variable {M : Model} {A : Around} {E : Value → Shared → Prop} {s : Shared} {P : Obj → Prop} {base : Heap} {env : Env} {outer : List Env} {L e : Addr} {Q : Unit → Shared → Prop}
theorem entryP {oe : Obj} {vs : Array Value} {head : Value} {hadNext : Bool} (hP : KeepP P)
    (hfr : A.frames = some (env :: outer)) (hl : s.heap.FunFrames base (env :: outer)) (hf : env.frame = some L)
    (he : s.heap.get? e = some oe) (hp : P oe) (hkb : base.StaysIn s.heap) (hen : base.get? e = none) (hd : oe.data = .fields vs) (hsz : 1 < vs.size)
    (h : ∀ h', FlyP P base (env :: outer) e (rawInt L) h' → s.heap.UpToSlots h' → Q () { s with heap := h' }) :
    wpAny M A (do let a ← frameOf env; let pl ← entryPlaceOf L hadNext; let b ← EntryCells.newEntry head a .none (rawInt L) .none pl; setField (.ref e) 1 b) Q E s := by
  have offFrames : e ∉ (env :: outer).filterMap (·.frame) := fun hm => by
    obtain ⟨_, o, ho, hnf⟩ := hl.mem hm
    rw [he] at ho
    cases ho
    exact hnf vs hd
  refine wpAny_bind (wpAny_frameOf_fun hfr hl hf fun h₁ hs₁ => ?_)
  refine wpAny_bind (wpAny_entryPlaceOf fun pl hpl => ?_)
  unfold EntryCells.newEntry newFields
  refine wpAny_bind (wpAny_newObj_type ?_ (hpl.sizeOk5 _ _ _ _ _))
  have he₁ : h₁.get? e = some oe := (hs₁.2.1 e offFrames).trans he
  have kb₁ : base.StaysIn h₁ := fun b o hbo => (hs₁.2.1 b fun hm => by rw [(hl.mem hm).1] at hbo; cases hbo).trans (hkb b o hbo)
  generalize hto : ({ cls := .type "traceback", dict := none, data := .fields ([head, .ref L, .none, rawInt L, .none] ++ (if pl.isEmpty then List.replicate 6 Value.none else pl)).toArray } : Obj) = to
  have he₂ := Heap.get?_push_of_some (h := h₁) to he₁
  refine wpAny_setField he₂ hd hsz (h _ ?_ ?_)
  · have hTe : h₁.objs.size ≠ e := Nat.ne_of_gt (Heap.lt_size he₁)
    have hd₃ := Obj.data_mapFields hd (·.setIfInBounds 1 (Value.ref h₁.objs.size))
    have he₃ := Heap.get?_update_self (Obj.mapFields (·.setIfInBounds 1 (Value.ref h₁.objs.size))) he₂ (Obj.isFreed_of_fields hd₃)
    have other : ∀ b o, b ≠ e → h₁.get? b = some o → ((h₁.push to).update e (Obj.mapFields (·.setIfInBounds 1 (Value.ref h₁.objs.size)))).get? b = some o := fun b o hbe hb => by
      rw [Heap.get?_update_other _ _ (Ne.symm hbe)]
      exact Heap.get?_push_of_some _ hb
    refine ⟨fun b o hbo => other b o (fun q => by rw [q, hen] at hbo; cases hbo) (kb₁ b o hbo), hen, hl.of_keeps fun b o hb hnf => ?_, ?_⟩
    · obtain ⟨sl, hs⟩ := hs₁.2.2 b o hb
      exact ⟨_, other b _ (fun q => by rw [q, he] at hb; cases hb; exact hnf vs hd) hs, rfl⟩
    · subst hto
      refine ⟨_, _, h₁.objs.size, _, _, he₃, hP _ _ hp, hd₃, by simp [hsz], kb₁.fresh, hTe, (Heap.get?_update_other _ _ (Ne.symm hTe)).trans (Heap.get?_push_size h₁ rfl), rfl, ?_⟩
      first
        | (simp; done)
        | (rcases hpl with rfl | ⟨_, _, _, _, _, _, _, rfl⟩ <;> simp)
  · intro b o hb hnf
    obtain ⟨sl, hs⟩ := hs₁.2.2 b o hb
    refine ⟨sl, ?_⟩
    have hbe : b ≠ e := fun q => by rw [q, he] at hb; cases hb; exact hnf vs hd
    rw [Heap.get?_update_other _ _ (Ne.symm hbe)]
    exact Heap.get?_push_of_some _ hs
theorem noteFirstP {oe : Obj} {vs : Array Value} (hP : KeepP P) (hfr : A.frames = some (env :: outer)) (hl : s.heap.FunFrames base (env :: outer)) (hf : env.frame = some L)
    (he : s.heap.get? e = some oe) (hp : P oe) (hkb : base.StaysIn s.heap) (hen : base.get? e = none) (hd : oe.data = .fields vs) (h1 : vs[1]? = some .none)
    (h : ∀ h', FlyP P base (env :: outer) e (rawInt L) h' → s.heap.UpToSlots h' → Q () { s with heap := h' }) : wpAny M A (noteFrame (.ref e) env) Q E s := by
  unfold noteFrame
  simp only [hf]
  refine wpAny_bind (wpAny_field he hd h1 ?_)
  rw [if_neg (by decide)]
  exact entryP hP hfr hl hf he hp hkb hen hd (Array.getElem?_eq_some_iff.mp h1).1 h
theorem noteOnP (hP : KeepP P) (hfr : A.frames = some (env :: outer)) (hf : env.frame = some L) (x : FlyP P base (env :: outer) e .none s.heap)
    (h : ∀ h', FlyP P base (env :: outer) e (rawInt L) h' → s.heap.UpToSlots h' → Q () { s with heap := h' }) : wpAny M A (noteFrame (.ref e) env) Q E s := by
  obtain ⟨hkb, hen, hl, oe, vs, T, oT, ts, he, hp, hd, h1, hnT, hTe, hT, hdT, h3⟩ := x
  unfold noteFrame
  simp only [hf]
  refine wpAny_bind (wpAny_field he hd h1 ?_)
  rw [if_pos (show (Value.ref T != Value.none) = true from by simp)]
  refine wpAny_bind (wpAny_field hT hdT h3 ?_)
  rw [if_neg (show ¬ ((Value.none == rawInt L) = true) from by simp [rawInt])]
  refine wpAny_bind (wpAny_setField hT hdT (Array.getElem?_eq_some_iff.mp h3).1 ?_)
  have other : ∀ b, b ≠ T → (s.heap.update T (Obj.mapFields (·.setIfInBounds 3 Value.none))).get? b = s.heap.get? b := fun b hb => Heap.get?_update_other _ _ (Ne.symm hb)
  have offT : ∀ b o, s.heap.get? b = some o → (∀ vs, o.data ≠ .fields vs) → b ≠ T := fun b o hb hnf q => by rw [q, hT] at hb; cases hb; exact hnf ts hdT
  refine entryP hP hfr (hl.of_keeps fun b o hb hnf => ⟨o, (other b (offT b o hb hnf)).trans hb, rfl⟩) hf ((other e (Ne.symm hTe)).trans he) hp
    (fun b o hbo => (other b fun q => by rw [q, hnT] at hbo; cases hbo).trans (hkb b o hbo)) hen hd (Array.getElem?_eq_some_iff.mp h1).1
    fun h' x1 x2 => h h' x1 fun b o hb hnf => x2 b o ((other b (offT b o hb hnf)).trans hb) hnf
theorem noteAgainP (hf : env.frame = some L) {l : List Env} (x : FlyP P base l e (rawInt L) s.heap) (h : Q () s) : wpAny M A (noteFrame (.ref e) env) Q E s := by
  obtain ⟨hkb, hen, hl, oe, vs, T, oT, ts, he, hp, hd, h1, hnT, hTe, hT, hdT, h3⟩ := x
  unfold noteFrame
  simp only [hf]
  refine wpAny_bind (wpAny_field he hd h1 ?_)
  rw [if_pos (show (Value.ref T != Value.none) = true from by simp)]
  refine wpAny_bind (wpAny_field hT hdT h3 ?_)
  rw [if_pos (show (rawInt L == rawInt L) = true from by simp)]
  exact wpAny_pure h
theorem landP {l : List Env} {fl : Value} (x : FlyP P base l e fl s.heap)
    (h : ∀ h', FlyP P base l e .none h' → (∀ b o, s.heap.get? b = some o → (∀ vs, o.data ≠ .fields vs) → h'.get? b = some o) → Q () { s with heap := h' }) : wpAny M A (setFlight (.ref e) none) Q E s := by
  obtain ⟨hkb, hen, hl, oe, vs, T, oT, ts, he, hp, hd, h1, hnT, hTe, hT, hdT, h3⟩ := x
  have hsz3 : 3 < ts.size := (Array.getElem?_eq_some_iff.mp h3).1
  have other : ∀ b, b ≠ T → (s.heap.update T (Obj.mapFields (·.setIfInBounds 3 ((none : Option Addr).elim Value.none fun f => rawInt f)))).get? b = s.heap.get? b :=
    fun b hb => Heap.get?_update_other _ _ (Ne.symm hb)
  have offT : ∀ b o, s.heap.get? b = some o → (∀ vs, o.data ≠ .fields vs) → b ≠ T := fun b o hb hnf q => by rw [q, hT] at hb; cases hb; exact hnf ts hdT
  unfold setFlight
  refine wpAny_bind (wpAny_field he hd h1 ?_)
  rw [if_pos (show (Value.ref T != Value.none) = true from by simp)]
  refine wpAny_setField hT hdT hsz3 (h _ ⟨fun b o hbo => (other b fun q => by rw [q, hnT] at hbo; cases hbo).trans (hkb b o hbo), hen,
    hl.of_keeps fun b o hb hnf => ⟨o, (other b (offT b o hb hnf)).trans hb, rfl⟩, oe, vs, T, _, _, (other e (Ne.symm hTe)).trans he, hp, hd, h1, hnT, hTe, Heap.get?_update_self _ hT (Obj.isFreed_of_fields (Obj.data_mapFields hdT _)), Obj.data_mapFields hdT _, by simp [hsz3]⟩ fun b o hb hnf => (other b (offT b o hb hnf)).trans hb)
theorem upTo_of {h h' : Heap} (k : ∀ b o, h.get? b = some o → (∀ vs, o.data ≠ .fields vs) → h'.get? b = some o) : h.UpToSlots h' := fun b o hb hn => ⟨o.slots, k b o hb hn⟩
theorem FlyP.tail {fl : Value} {h : Heap} (x : FlyP P base (env :: outer) e fl h) : FlyP P base outer e fl h := by
  obtain ⟨k1, k2, ⟨_, _, k3⟩, k4⟩ := x
  exact ⟨k1, k2, k3, k4⟩
theorem leaveFirstP {oe : Obj} {vs : Array Value} (hP : KeepP P) (hfr : A.frames = some (env :: outer)) (hl : s.heap.FunFrames base (env :: outer)) (hf : env.frame = some L)
    (he : s.heap.get? e = some oe) (hp : P oe) (hkb : base.StaysIn s.heap) (hen : base.get? e = none) (hd : oe.data = .fields vs) (h1 : vs[1]? = some .none)
    (h : ∀ h', FlyP P base outer e .none h' → s.heap.UpToSlots h' → Q () { s with heap := h' }) : wpAny M A (leaving env (.ref e)) Q E s := by
  unfold leaving
  refine wpAny_bind (noteFirstP hP hfr hl hf he hp hkb hen hd h1 fun h₁ x₁ u₁ => ?_)
  exact landP x₁ fun h₂ x₂ u₂ => h h₂ x₂.tail (u₁.trans (upTo_of u₂))
theorem leaveOnP (hP : KeepP P) (hfr : A.frames = some (env :: outer)) (hf : env.frame = some L) (x : FlyP P base (env :: outer) e .none s.heap)
    (h : ∀ h', FlyP P base outer e .none h' → s.heap.UpToSlots h' → Q () { s with heap := h' }) : wpAny M A (leaving env (.ref e)) Q E s := by
  unfold leaving
  refine wpAny_bind (noteOnP hP hfr hf x fun h₁ x₁ u₁ => ?_)
  exact landP x₁ fun h₂ x₂ u₂ => h h₂ x₂.tail (u₁.trans (upTo_of u₂))
theorem leaveHeldP (hf : env.frame = some L) (x : FlyP P base (env :: outer) e (rawInt L) s.heap)
    (h : ∀ h', FlyP P base outer e .none h' → s.heap.UpToSlots h' → Q () { s with heap := h' }) : wpAny M A (leaving env (.ref e)) Q E s := by
  unfold leaving
  refine wpAny_bind (noteAgainP hf x ?_)
  exact landP x fun h₂ x₂ u₂ => h h₂ x₂.tail (upTo_of u₂)
end

end

section
open PySem PySem.W PyProof.Rows PySem.Calls PySem.Spec

section
variable {M : Model} {A : Around} {E : Value → Shared → Prop} {s : Shared} {env : Env} {P : Obj → Prop} {base : Heap} {outer : List Env} {L e : Addr}
variable {nm q : Str} {C N : Addr} {bs : List Value} {hdct : Bool} {sn : List Str} {sub : List Value} {ab : Bool} {col : Option Bool} {dd : Option Addr} {k0 k1 k2 k3 k5 : Option Value} {newId : String}
/-- An exception that stands ready and was never raised. -/
def Ready (C : Addr) (h : Heap) (e : Addr) : Prop := ∃ oe vs, h.get? e = some oe ∧ oe.cls = .ref C ∧ oe.data = .fields vs ∧ vs[1]? = some .none
theorem raise_inst {x : Sem Value} {Q : Flow → Shared → Prop} (hh : A.handled = none)
    (h : wpAny M A x (fun v s₁ => ∃ e, v = .ref e ∧ s₁.heap.get? C = some (excClassObj nm q C N bs mroE hdct sn sub ab col dd k0 k1 k2 k3 k5 newId) ∧ Ready C s₁.heap e ∧ E (.ref e) s₁) E s) :
    wpAny M A (raiseStmt env (some x) none) Q E s := by
  have hcB : (Value.ref C :: mroE).contains (.type "BaseException") = true := by simp
  unfold raiseStmt
  refine wpAny_bind (wpAny_mono h (fun v s₁ h₁ => ?_) fun _ _ x => x)
  obtain ⟨e, rfl, hC, ⟨oe, vs, he, hcl, hd, hv1⟩, hE⟩ := h₁
  obtain ⟨hp, g, d, tk, os⟩ := s₁
  obtain ⟨oc, od, oda, osl⟩ := oe
  dsimp only at hcl hd
  subst hcl hd
  repeat (first | with_reducible refine wpAny_loadPart_at he ?_ | with_reducible refine wpAny_loadPart_at hC ?_ | (with_reducible refine wpAny_isSubtype_exc hC ?_; rw [hcB]) | wp_step)
  rw [hv1]
  refine wpAny_pure ?_
  rw [if_neg (by decide)]
  exact wpAny_pure (wpAny_raiseNew_none hh hE)
theorem Raise_inst {ex : Expr} {pos : Pos} {Q : Flow → Shared → Prop} (hh : A.handled = none)
    (h : wpAny M A (eval ex env) (fun v s₁ => ∃ e, v = .ref e ∧ s₁.heap.get? C = some (excClassObj nm q C N bs mroE hdct sn sub ab col dd k0 k1 k2 k3 k5 newId) ∧ Ready C s₁.heap e ∧ E (.ref e) s₁) E s) :
    wpAny M A (exec (.Raise (some ex) none pos) env) Q E s := by
  rw [arm_exec_Raise]
  refine wpAny_bind (wpAny_standAt ?_)
  refine raise_inst hh (nm := nm) (q := q) (N := N) (bs := bs) (hdct := hdct) (sn := sn) (sub := sub) (ab := ab) (col := col) (dd := dd) (k0 := k0) (k1 := k1) (k2 := k2) (k3 := k3) (k5 := k5) (newId := newId) (C := C) ?_
  exact wpAny_bind (wpAny_mono h (fun v s₁ h₁ => wpAny_bind (wpAny_standAt (wpAny_pure h₁))) fun _ _ y => y)
theorem flyP_set {l : List Env} {fl : Value} {fr : Option Addr} {Q : Unit → Shared → Prop} (x : FlyP P base l e fl s.heap)
    (h : ∀ h', FlyP P base l e (fr.elim .none fun f => rawInt f) h' → (∀ b o, s.heap.get? b = some o → (∀ vs, o.data ≠ .fields vs) → h'.get? b = some o) → Q () { s with heap := h' }) : wpAny M A (setFlight (.ref e) fr) Q E s := by
  obtain ⟨hkb, hen, hl, oe, vs, T, oT, ts, he, hp, hd, h1, hnT, hTe, hT, hdT, h3⟩ := x
  have hsz3 : 3 < ts.size := (Array.getElem?_eq_some_iff.mp h3).1
  have other : ∀ b, b ≠ T → (s.heap.update T (Obj.mapFields (·.setIfInBounds 3 (fr.elim Value.none fun f => rawInt f)))).get? b = s.heap.get? b :=
    fun b hb => Heap.get?_update_other _ _ (Ne.symm hb)
  have offT : ∀ b o, s.heap.get? b = some o → (∀ vs, o.data ≠ .fields vs) → b ≠ T := fun b o hb hnf q => by rw [q, hT] at hb; cases hb; exact hnf ts hdT
  unfold setFlight
  refine wpAny_bind (wpAny_field he hd h1 ?_)
  rw [if_pos (show (Value.ref T != Value.none) = true from by simp)]
  refine wpAny_setField hT hdT hsz3 (h _ ⟨fun b o hbo => (other b fun q => by rw [q, hnT] at hbo; cases hbo).trans (hkb b o hbo), hen,
    hl.of_keeps fun b o hb hnf => ⟨o, (other b (offT b o hb hnf)).trans hb, rfl⟩, oe, vs, T, _, _, (other e (Ne.symm hTe)).trans he, hp, hd, h1, hnT, hTe, Heap.get?_update_self _ hT (Obj.isFreed_of_fields (Obj.data_mapFields hdT _)), Obj.data_mapFields hdT _, by simp [hsz3]⟩ fun b o hb hnf => (other b (offT b o hb hnf)).trans hb)
theorem passOnP {α : Type} {what : String} {l : List Env} {fl : Value} {Q : α → Shared → Prop} (hf : env.frame = some L) (x : FlyP P base l e fl s.heap)
    (h : ∀ h', FlyP P base l e (rawInt L) h' → (∀ b o, s.heap.get? b = some o → (∀ vs, o.data ≠ .fields vs) → h'.get? b = some o) → E (.ref e) { s with heap := h' }) : wpAny M A (PySem.passOn what (.ref e) env : Sem α) Q E s := by
  obtain ⟨hkb, hen, hl, oe, vs, T, oT, ts, he, hp, hd, h1, r⟩ := id x
  unfold PySem.passOn
  refine wpAny_bind (wpAny_field he hd h1 ?_)
  rw [if_neg (show ¬ ((Value.ref T == Value.none) = true) from by simp)]
  refine wpAny_bind ?_
  rw [hf]
  exact flyP_set x fun h' x' u => wpAny_throw (h h' x' u)
theorem Raise_bare {pos : Pos} {l : List Env} {fl : Value} {Q : Flow → Shared → Prop} (hh : A.handled = some (.ref e)) (hf : env.frame = some L) (x : FlyP P base l e fl s.heap)
    (h : ∀ h', FlyP P base l e (rawInt L) h' → (∀ b o, s.heap.get? b = some o → (∀ vs, o.data ≠ .fields vs) → h'.get? b = some o) → E (.ref e) { s with heap := h' }) : wpAny M A (exec (.Raise none none pos) env) Q E s := by
  obtain ⟨hkb, hen, hl, oe, vs, T, oT, ts, he, hp, hd, h1, r⟩ := id x
  rw [arm_exec_Raise]
  refine wpAny_bind (wpAny_standAt ?_)
  show wpAny M A (raiseStmt env none none) Q E s
  unfold raiseStmt
  refine wpAny_bind (wpAny_handled ?_)
  rw [hh]
  refine wpAny_bind (wpAny_rule (wpAny_bind (wpAny_field he hd h1 ?_)))
  rw [if_neg (show ¬ ((Value.ref T == Value.none) = true) from by simp)]
  refine wpAny_bind ?_
  rw [hf]
  exact flyP_set x fun h' x' u => wpAny_throw (h h' x' u)
end

end

section
open PySem PySem.W PyProof.Rows PySem.Calls PySem.Spec

section
variable {prog : Program} {w : World} {A : Around} {E : Value → Shared → Prop} {s : Shared} {K : Frag} {x C : Addr} {ox : Obj} {od : Option Obj} {name : Str} {expr : Bool} {Q : Value → Shared → Prop}
theorem bga_kind : builtinKind "BaseException.__getattribute__" = some .slot := by decide +kernel
theorem bga_split : splitId "BaseException.__getattribute__" = some ("BaseException", "__getattribute__") := by decide +kernel
theorem bga_plain : plainId "BaseException.__getattribute__" = true := by decide +kernel
theorem getE_value {v : Value} (X : K.In s.heap) (I : InstAt s.heap x ox C od) (hga : findIn K (.ref C) "__getattribute__" = some (some (.builtin "BaseException.__getattribute__"))) (hgn : findIn K (.ref C) "__getattr__" = some none)
    (hsub : subIn K (.ref C) (.type "BaseException") = some true) (hf : findObj K C od name = some (.value v)) (hh : handedIn v = true) (h : Q v { s with toks := s.toks + 1 }) : wpAny (model prog w) A (getAttr (.ref x) name expr) Q E s := by
  obtain ⟨hp, g, d, t, os⟩ := s
  have L0 := I.type (M := model prog w)
  have L1 := looks_findIn (M := model prog w) X hga
  have L2 := looks_findIn (M := model prog w) X hgn
  have L3 : Looks (model prog w) hp (isInstance (.ref x) (.type "BaseException")) true := L0.andThen (looks_subIn X hsub)
  have L4 := looks_find (M := model prog w) X I hf
  unfold getAttr getAttrBy
  refine wpAny_bind (wpAny_mkText (wpAny_holding (wpAny_bind (L0.at (wpAny_bind (L1.at ?_))))))
  show wpAny _ _ (getAttrByItsOwn _ _ _ _ _ _) _ _ _
  unfold getAttrByItsOwn hookBefore
  refine wpAny_bind (L2.at ?_)
  refine wpAny_bind (wpAny_attempt ?_)
  refine wpAny_holding ?_
  have e0 : callGetattribute (.ref x) (.str name t) (.builtin "BaseException.__getattribute__") expr = boundAndCalled (.builtin "BaseException.__getattribute__") (.ref x) (.str name t) := by
    unfold callGetattribute
    rw [if_neg (by cases expr <;> simp [onTheHeap])]
  show wpAny _ _ (callGetattribute (.ref x) (.str name t) (.builtin "BaseException.__getattribute__") expr) _ _ _
  rw [e0]
  unfold boundAndCalled
  rw [PySem.F.attr_Exception.ga.bind]
  refine wpAny_bind (wpAny_pure ?_)
  refine wpAny_call (codeAny_call_builtin PySem.F.attr_Exception.ga.plain PySem.F.entry_bexc_ga (@check_slot (model prog w) _ _ _ "BaseException.__getattribute__" "BaseException" "__getattribute__" (.ref x) [.str name t] [] _ bga_kind bga_split L3 (PySem.F.args_bexc_ga (.ref x) (.str name t)) ?_))
  refine wpAny_bind (wpAny_pure ?_)
  refine wpAny_bind (wpAny_pure ?_)
  refine wpAny_bind (L0.at (wpAny_bind (L4.at ?_)))
  refine wpAny_pure ?_
  show wpAny _ _ (handedOut v) _ _ _
  rw [handedOut_of hh]
  exact wpAny_pure h
end

end

section
open PySem PySem.W PyProof.Rows PySem.Calls PySem.Spec Builtin Builtin.ObjectAttr

/-- A dict object that holds the names of m. -/
def DictObj (o : Obj) (m : Str → Option Value) : Prop := ∃ es ep, o.data = .dict es ep ∧ StrKeys es ∧ UniqKeys es ∧ ∀ name, nsFind es name = m name
theorem DictObj.ns1 {h : Heap} {a : Addr} {o : Obj} {m : Str → Option Value} (x : DictObj o m) (e : h.get? a = some o) : h.Ns1 a m := let ⟨es, ep, hd, r⟩ := x; ⟨o, es, ep, e, hd, r⟩
theorem dictObj_of {h : Heap} {a : Addr} {m : Str → Option Value} (x : h.Ns1 a m) : ∃ o, h.get? a = some o ∧ DictObj o m := let ⟨o, es, ep, e, hd, r⟩ := x; ⟨o, e, es, ep, hd, r⟩
theorem lookIn_dictObj {o : Obj} {m : Str → Option Value} {name : Str} {v : Value} (x : DictObj o m) (hv : m name = some v) : lookIn name o = some (some v) := by
  obtain ⟨es, ep, hd, _, _, hf⟩ := x
  have h1 := hf name
  rw [hv] at h1
  unfold lookIn
  rw [hd]
  dsimp only
  unfold nsFind findBy at h1
  rw [← Array.find?_toList] at h1
  cases q : es.toList.find? (·.key.isStr name) with
  | none => rw [q] at h1; cases h1
  | some en => rw [q] at h1; simp only [Option.map_some] at h1; show some (some en.val) = some (some v); rw [h1]
section
variable {prog : Program} {w : World} {A : Around} {E : Value → Shared → Prop} {h : Heap} {g : Array GenState} {d : Drawn} {t : Nat} {os : OsState}
variable {nm q : Str} {C N x : Addr} {bs : List Value} {sn : List Str} {sub : List Value} {ab : Bool} {col : Option Bool} {dd : Option Addr} {k0 k1 k2 k3 k5 : Option Value} {newId : String}
  {mN : Str → Option Value} {name : Str} {v : Value}
/-- The first store: the dict is made. -/
theorem store_first {o : Obj} {Q : Unit → Shared → Prop}
    (hC : h.get? C = some (excClassObj nm q C N bs mroE true sn sub ab col dd k0 k1 k2 k3 k5 newId)) (hn : h.Ns N mN) (hns : mN "__setattr__" = none) (hna : mN name = none)
    (hB : typeLookup (.type "Exception") name = pure none) (hx : h.get? x = some o) (hc : o.cls = .ref C) (hnc : ∀ c, o.data ≠ .cls c) (hdn : o.dict = none)
    (hq : ∀ h' tk' od, h'.get? x = some { o with dict := some h.objs.size } → h'.get? h.objs.size = some od → DictObj od (fun y => if y = name then some v else none) → (∀ b ob, b ≠ x → h.get? b = some ob → h'.get? b = some ob) → Q () ⟨h', g, d, tk', os⟩) :
    wpAny (model prog w) A (setAttr (.ref x) name v) Q E ⟨h, g, d, t, os⟩ := by
  have SF := PySem.F.store_Exception
  have f3 := SF.slot.bind (.ref x)
  have hpass := SF.passes (.ref x)
  unfold setAttr callSpecial? specialOf
  repeat (any_goals (first | assumption | (with_reducible refine wpAny_loadPart_at hx ?_; rw [hc]) | (with_reducible refine wpAny_typeLookup_exc hC hn SF.mro SF.slot.lookup ?_; rw [hns]) | wp_step))
  refine codeAny_call_builtin SF.slot.plain SF.entry (wpAny_check_sa SF hC hx hc ?_)
  unfold Builtin.«object.__setattr__»
  repeat (first | rw [refuse_eq] | (rw [refuseLoop_ref, hpass]) | (with_reducible refine wpAny_loadPart_at hx ?_; rw [hc]) | with_reducible refine wpAny_mroOf_exc hC ?_ | (with_reducible refine wpAny_typeLookup_exc hC hn SF.mro hB ?_; rw [hna]) | wp_step)
  rw [hdn, if_neg (by simp [typeHasDict])]
  split
  · rename_i hcd
    cases hcd
  split
  · rename_i c hcd
    exact absurd hcd (hnc c)
  · have hx₁ : (h.push { cls := .type "dict", data := .dict #[] }).get? x = some o := Heap.get?_push_of_some _ hx
    have hxs : x ≠ h.objs.size := Nat.ne_of_lt (Heap.lt_size hx)
    refine wpAny_bind (wpAny_alloc' ?_)
    refine wpAny_bind (wpAny_update' hx₁ ?_)
    refine wpAny_pure ?_
    have hgd : ((h.push { cls := .type "dict", data := .dict #[] }).update x fun o => { cls := o.cls, dict := some h.objs.size, data := o.data, slots := o.slots }).get? h.objs.size
        = some { cls := .type "dict", data := .dict #[] } :=
      (Heap.get?_update_ne _ _ _ _ hxs.symm).trans (Heap.get?_push_at rfl rfl)
    have hnd : ((h.push { cls := .type "dict", data := .dict #[] }).update x fun o => { cls := o.cls, dict := some h.objs.size, data := o.data, slots := o.slots }).Ns h.objs.size (fun _ => none) :=
      ⟨_, #[], _, hgd, rfl, fun e he => absurd he (by simp), fun _ => rfl⟩
    show wpAny _ _ (storeInDict h.objs.size (.str name _) name v) _ _ _
    unfold storeInDict newKeyGuard
    refine wpAny_bind (wpAny_pure (wpAny_bind (wpAny_nsSet1 (Heap.Ns1.of_empty hnd) fun h' hn' hs => ?_)))
    obtain ⟨oD, esD, epD, hoD, hdD, hcD⟩ := hn'.count (Within.cons name v Within.nil)
    refine wpAny_bind (wpAny_lookBehind hoD (by rw [hdD]; exact pastItsLine_dict (Nat.le_trans hcD (by rw [List.length_cons, List.length_nil, sizeLine_eq]; omega))) ?_)
    obtain ⟨od, hod, hDO⟩ := dictObj_of hn'
    have hx' : h'.get? x = some { o with dict := some h.objs.size } := by
      refine (hs.2 x hxs).trans (Heap.get?_update_self _ hx₁ ?_)
      have hfr := (Heap.get?_some_iff.mp hx).2
      obtain ⟨oc, od, odt, osl⟩ := o
      cases odt <;> first | rfl | exact hfr
    have fin := fun tk' => hq h' tk' od hx' hod hDO fun b ob hbx hb => (hs.2 b (Nat.ne_of_lt (Heap.lt_size hb))).trans ((Heap.get?_update_ne _ _ _ _ hbx).trans (Heap.get?_push_of_some _ hb))
    repeat (any_goals (first | assumption | wp_step))
    exact fin _
/-- A later store. -/
theorem store_more {o od : Obj} {dx : Addr} {mA : Str → Option Value} {ns : List Str} {Q : Unit → Shared → Prop}
    (hC : h.get? C = some (excClassObj nm q C N bs mroE true sn sub ab col dd k0 k1 k2 k3 k5 newId)) (hn : h.Ns N mN) (hns : mN "__setattr__" = none) (hna : mN name = none)
    (hB : typeLookup (.type "Exception") name = pure none) (hxC : x ≠ C) (hx : h.get? x = some o) (hc : o.cls = .ref C) (hnc : ∀ c, o.data ≠ .cls c) (hdx : o.dict = some dx) (hne : dx ≠ x) (hod : h.get? dx = some od) (hD : DictObj od mA) (hw : Within mA ns) (hsz : ns.length ≤ 1000)
    (hq : ∀ h' tk' od', h'.get? dx = some od' → DictObj od' (fun y => if y = name then some v else mA y) → (∀ b ob, b ≠ dx → h.get? b = some ob → h'.get? b = some ob) → Q () ⟨h', g, d, tk', os⟩) :
    wpAny (model prog w) A (setAttr (.ref x) name v) Q E ⟨h, g, d, t, os⟩ := by
  refine store_attr PySem.F.store_Exception hC hn hns hna hB hxC ⟨o, hx, hc, hnc, .inr ⟨dx, hdx, hne, hD.ns1 hod⟩⟩ (fun h' tk' I' hk hsame => ?_) hw (by rw [sizeLine_eq]; omega)
  obtain ⟨o₁, hx₁, e1, e2, e3, e4⟩ := hsame o hx
  have ho : o₁ = o := by
    obtain ⟨a1, a2, a3, a4⟩ := o₁
    obtain ⟨b1, b2, b3, b4⟩ := o
    simp only at e1 e2 e3 hdx
    have := e4 dx hdx
    simp only at this
    subst e1 e2 e3
    rw [hdx, this]
  subst ho
  obtain ⟨o₂, hx₂, _, _, hd₂⟩ := I'
  rw [hx₁] at hx₂
  cases hx₂
  rcases hd₂ with ⟨hdn, _⟩ | ⟨d₂, hd₂, _, hN₂⟩
  · rw [hdx] at hdn; cases hdn
  · rw [hdx] at hd₂
    cases hd₂
    obtain ⟨od', hod', hDO⟩ := dictObj_of hN₂
    refine hq h' tk' od' hod' hDO fun b ob hb hg => ?_
    by_cases hbx : b = x
    · subst hbx
      rw [hx] at hg
      cases hg
      exact hx₁
    · exact hk b ob hbx (fun o₀ dx' e0 e1 => by rw [hx] at e0; cases e0; rw [hdx] at e1; cases e1; exact hb) hg
end

end

section
open PySem PySem.W PyProof.Rows PySem.Calls PySem.Spec

/-- An own exception class right under Exception with an own __init__, as the text's top has left it. -/
structure NagK (K : Frag) (C N fI : Addr) : Prop where
  obj : ∃ nm q bs sn sub ab col dd k0 k1 k2 k3 k5, K.lookup C = some (excClassObj nm q C N bs mroE true sn sub ab col dd k0 k1 k2 k3 k5 "Exception.__new__")
  nsok : nsOkIn K N = true
  noSet : nsIn K N "__setattr__" = some none
  init : findIn K (.ref C) "__init__" = some (some (.ref fI))
  fn : typeIn K (.ref fI) = some (.type "function")
section
variable {prog : Program} {w : World} {A : Around} {E : Value → Shared → Prop} {s : Shared} {K : Frag} {C Nn fI L x : Addr} {h₀ : Heap} {m : Str → Option Value} {news : List (Addr × Obj)}
theorem call_excH {pos : List Value} {Q : Value → Shared → Prop} (F : Fr h₀ L s.heap m) (X₀ : K.In h₀) (NK : NagK K C Nn fI) (hz : pos.length ≤ 1000)
    (h : ∀ x t h', s.heap.StaysIn h' → s.heap.objs.size ≤ t → t < x → Fr h₀ L h' m → News h₀ L h' [(x, excNew C t), (t, tupO pos.toArray)] →
      codeAny (model prog w) (A.under (.builtin "type.__call__" ⟨.ref C :: pos, []⟩)) (.call (.ref fI) ⟨.ref x :: pos, []⟩) (InitBack x fun r s' => match r with | .ok (.ret v) => Q v s' | .ok _ => False | .error e => E e s') { s with heap := h' }) :
    wpAny (model prog w) A (call (.ref C) pos []) Q E s := by
  have X := X₀.keeps F.keep
  obtain ⟨⟨nm, q, bs, sn, sub, ab, col, dd, k0, k1, k2, k3, k5, hC⟩, _, _, hi, hf⟩ := NK
  refine wpAny_call ?_
  obtain ⟨hh, g, d, t, os⟩ := s
  refine exc_core (X _ _ hC) (looks_findIn X hi) (fun self => bind_fn X self hf) (by rw [PySem.sizeLine_eq]; omega)
    (h _ hh.objs.size _ (fun b o e => Heap.get?_push_of_some _ (Heap.get?_push_of_some _ e)) (Nat.le_refl _) (Nat.lt_succ_self _) ((F.push _).push _) ?_)
  have := ((News.nil (h₀ := h₀) (h := hh) (L := L)).push F (tupO pos.toArray)).push (F.push _) (excNew C hh.objs.size)
  rwa [Heap.size_push] at this
theorem setE_first {name : Str} {v : Value} {o : Obj} {vs : Array Value} {news' : Addr → List (Addr × Obj)} {Q : Unit → Shared → Prop} (F : Fr h₀ L s.heap m) (X₀ : K.In h₀) (N : News h₀ L s.heap news) (NK : NagK K C Nn fI)
    (hn : nsIn K Nn name = some none) (hB : typeLookup (.type "Exception") name = pure none) (hc : o.cls = .ref C) (hd : o.data = .fields vs) (hdn : o.dict = none) (U : ∀ dx, Upd x o { o with dict := some dx } news (news' dx))
    (h : ∀ dx od h' tk, Fr h₀ L h' m → News h₀ L h' ((dx, od) :: news' dx) → (∀ p ∈ news, p.1 < dx) → DictObj od (fun y => if y = name then some v else none) → Q () { s with heap := h', toks := tk }) :
    wpAny (model prog w) A (setAttr (.ref x) name v) Q E s := by
  have X := X₀.keeps F.keep
  obtain ⟨⟨nm, q, bs, sn, sub, ab, col, dd, k0, k1, k2, k3, k5, hC⟩, hok, hns, _, _⟩ := NK
  obtain ⟨hh, g, d, t, os⟩ := s
  have hmem : (x, o) ∈ news := by
    obtain ⟨pre, post, rfl, _, _, _⟩ := (U 0).split
    exact List.mem_append.mpr (.inr (.head _))
  have hx := N.get hmem
  refine store_first (X _ _ hC) (.of_isNs (isNs_of_in X hok)) (nsMap_none_of_in X hok hns) (nsMap_none_of_in X hok hn) hB hx hc (fun c q => by rw [hd] at q; cases q) hdn fun h' tk' od hx' hod hDO hk => ?_
  have hsL : L ≠ x := fun q => (N _ hmem).2.1 q.symm
  have F' : Fr h₀ L h' m := ⟨F.ns.at' fun o e => hk _ o hsL e, fun b o e => hk b o (fun q => by rw [q, (N _ hmem).2.2] at e; cases e) (F.keep b o e), F.above⟩
  refine h _ od h' tk' F' ?_ (fun p hp => Heap.lt_size (N p hp).1) hDO
  obtain ⟨pre, post, e1, e2, a, b⟩ := (U hh.objs.size).split
  intro p hp
  rcases List.mem_cons.mp hp with rfl | hp
  · refine ⟨hod, Nat.ne_of_gt F.ns.lt, ?_⟩
    exact next_is_new F
  · rw [e2] at hp
    rcases List.mem_append.mp hp with hp | hp
    · have z := N p (by rw [e1]; exact List.mem_append.mpr (.inl hp))
      exact ⟨hk _ _ (a p hp) z.1, z.2⟩
    · rcases List.mem_cons.mp hp with rfl | hp
      · exact ⟨hx', (N _ hmem).2⟩
      · have z := N p (by rw [e1]; exact List.mem_append.mpr (.inr (.tail _ hp)))
        exact ⟨hk _ _ (b p hp) z.1, z.2⟩
theorem setE_more {name : Str} {v : Value} {o od : Obj} {dx : Addr} {vs : Array Value} {mA : Str → Option Value} {ns : List Str} {news' : Obj → List (Addr × Obj)} {Q : Unit → Shared → Prop} (F : Fr h₀ L s.heap m) (X₀ : K.In h₀) (N : News h₀ L s.heap news) (NK : NagK K C Nn fI)
    (hn : nsIn K Nn name = some none) (hB : typeLookup (.type "Exception") name = pure none) (hm : (x, o) ∈ news) (hc : o.cls = .ref C) (hd : o.data = .fields vs) (hdx : o.dict = some dx) (hne : dx ≠ x) (hD : DictObj od mA) (hw : Within mA ns) (hsz : ns.length ≤ 1000) (U : ∀ od', Upd dx od od' news (news' od'))
    (h : ∀ od' h' tk, Fr h₀ L h' m → News h₀ L h' (news' od') → DictObj od' (fun y => if y = name then some v else mA y) → Q () { s with heap := h', toks := tk }) :
    wpAny (model prog w) A (setAttr (.ref x) name v) Q E s := by
  have X := X₀.keeps F.keep
  obtain ⟨⟨nm, q, bs, sn, sub, ab, col, dd, k0, k1, k2, k3, k5, hC⟩, hok, hns, _, _⟩ := NK
  obtain ⟨hh, g, d, t, os⟩ := s
  have hmem : (dx, od) ∈ news := by
    obtain ⟨pre, post, rfl, _, _, _⟩ := (U od).split
    exact List.mem_append.mpr (.inr (.head _))
  have hx := N.get hm
  have hxC : x ≠ C := fun q => by
    have := (N _ hm).2.2
    rw [q, X₀ _ _ hC] at this
    cases this
  refine store_more (X _ _ hC) (.of_isNs (isNs_of_in X hok)) (nsMap_none_of_in X hok hns) (nsMap_none_of_in X hok hn) hB hxC hx hc (fun c q => by rw [hd] at q; cases q) hdx hne (N.get hmem) hD hw hsz fun h' tk' od' hod' hDO hk => ?_
  have hsL : L ≠ dx := fun q => (N _ hmem).2.1 q.symm
  have F' : Fr h₀ L h' m := ⟨F.ns.at' fun o e => hk _ o hsL e, fun b o e => hk b o (fun q => by rw [q, (N _ hmem).2.2] at e; cases e) (F.keep b o e), F.above⟩
  refine h od' h' tk' F' ?_ hDO
  obtain ⟨pre, post, e1, e2, a, b⟩ := (U od').split
  intro p hp
  rw [e2] at hp
  rcases List.mem_append.mp hp with hp | hp
  · have z := N p (by rw [e1]; exact List.mem_append.mpr (.inl hp))
    exact ⟨hk _ _ (a p hp) z.1, z.2⟩
  · rcases List.mem_cons.mp hp with rfl | hp
    · exact ⟨hod', (N _ hmem).2⟩
    · have z := N p (by rw [e1]; exact List.mem_append.mpr (.inr (.tail _ hp)))
      exact ⟨hk _ _ (b p hp) z.1, z.2⟩
/-- An attribute of an exception of the ledger. -/
theorem getE_led {name : Str} {v : Value} {o od : Obj} {dx : Addr} {vs : Array Value} {mA : Str → Option Value} {expr : Bool} {Q : Value → Shared → Prop} (F : Fr h₀ L s.heap m) (X₀ : K.In h₀) (N : News h₀ L s.heap news)
    (hga : findIn K (.ref C) "__getattribute__" = some (some (.builtin "BaseException.__getattribute__"))) (hgn : findIn K (.ref C) "__getattr__" = some none) (hsub : subIn K (.ref C) (.type "BaseException") = some true) (hna : findIn K (.ref C) name = some none) (hhd : hasDictIn K C = true)
    (hm : (x, o) ∈ news) (hmd : (dx, od) ∈ news) (hc : o.cls = .ref C) (hd : o.data = .fields vs) (hdx : o.dict = some dx) (hD : DictObj od mA) (hv : mA name = some v) (hh : handedIn v = true) (h : Q v { s with toks := s.toks + 1 }) :
    wpAny (model prog w) A (getAttr (.ref x) name expr) Q E s := by
  have X := X₀.keeps F.keep
  refine getE_value (ox := o) (od := some od) X ⟨N.get hm, hc, by unfold notCls; rw [hd], by rw [hdx]; exact N.get hmd⟩ hga hgn hsub (findObj_own hhd hna rfl (lookIn_dictObj hD hv)) hh h
end

end

section
open PySem PySem.W PyProof.Rows PySem.Calls PySem.Spec

/-! An own exception goes up through frames that catch it and raise it on. -/
abbrev frs (l : List Env) : List Addr := l.filterMap (·.frame)
def IsNag (C dx : Addr) (o : Obj) : Prop := o.cls = .ref C ∧ o.dict = some dx ∧ ∃ vs, o.data = .fields vs
theorem isNag_keep {C dx : Addr} : KeepP (IsNag C dx) := by
  rintro ⟨oc, od, dt, sl⟩ f ⟨h1, h2, vs, h3⟩
  simp only at h1 h2 h3
  subst h1 h2 h3
  exact ⟨rfl, rfl, _, rfl⟩
structure Aloft (h : Heap) (xs : List Addr) (l : List Env) (C x dx : Addr) (fl : Value) (own : List (Addr × Obj)) (h' : Heap) : Prop where
  ex : ∃ B, (∀ b o, h.get? b = some o → b ∉ xs → b ∉ frs l → B.get? b = some o) ∧ (∀ p ∈ own, B.get? p.1 = some p.2) ∧ FlyP (IsNag C dx) B l x fl h'
  slots : ∀ b o, h.get? b = some o → b ∉ xs → (∀ vs, o.data ≠ .fields vs) → ∃ sl, h'.get? b = some { o with slots := sl }
theorem frs_mem {env : Env} {outer : List Env} {L b : Addr} (hf : env.frame = some L) (hm : b ∈ frs (env :: outer)) : b = L ∨ b ∈ frs outer := by
  unfold frs at hm
  rw [List.filterMap_cons, hf] at hm
  exact List.mem_cons.mp hm
theorem frs_sub {env : Env} {outer : List Env} {b : Addr} (hm : b ∈ frs outer) : b ∈ frs (env :: outer) := by
  obtain ⟨e, he, hf⟩ := List.mem_filterMap.mp hm
  exact List.mem_filterMap.mpr ⟨e, .tail _ he, hf⟩
section
variable {M : Model} {A A₀ A₁ : Around} {E : Value → Shared → Prop} {s : Shared} {base g g₀ G G₀ : Heap} {env : Env} {outer : List Env} {L x dx T C : Addr} {m : Str → Option Value} {news own : List (Addr × Obj)} {xs : List Addr} {ox oT : Obj} {vs ts : Array Value}
theorem off_frs (K : Below A₀ base outer g) (F : Fr g L G m) (hf : env.frame = some L) {b : Addr} (hg : g.get? b = none) (hL : b ≠ L) : b ∉ frs (env :: outer) := fun hm => by
  rcases frs_mem hf hm with z | z
  · exact hL z
  · obtain ⟨_, o, ho, _⟩ := K.frames.mem z
    rw [hg] at ho; cases ho
theorem in_frs (F : Fr g L G m) (hf : env.frame = some L) {b : Addr} {o : Obj} (hg : g.get? b = some o) (hn : b ∉ frs outer) : b ∉ frs (env :: outer) := fun hm => by
  rcases frs_mem hf hm with z | z
  · rw [z, kts_self F] at hg; cases hg
  · exact hn z
theorem frs_in {l : List Env} {b : Addr} {e : Env} (he : e ∈ l) (hf : e.frame = some b) : b ∈ frs l := List.mem_filterMap.mpr ⟨e, he, hf⟩
/-- What stands in a hidden heap: all but the exception, its traceback and the frames. -/
theorem hid_frames (hke : env.scope.kind = .function) (K : Below A₀ base outer g) (F : Fr g L G m) (hf : env.frame = some L) (ys : List Addr) : G.FunFrames (hideAll G (ys ++ frs (env :: outer))) (env :: outer) :=
  funFrames_hide (pushX K F hf hke).frames fun e he b hb => List.mem_append.mpr (.inr (frs_in he hb))
theorem hid_keep (F : Fr g L G m) (hf : env.frame = some L) {ys : List Addr} (hy : ∀ y ∈ ys, g.get? y = none) {b : Addr} {o : Obj} (hg : g.get? b = some o) (hn : b ∉ frs outer) : (hideAll G (ys ++ frs (env :: outer))).get? b = some o :=
  hideAll_get _ (F.keep _ _ hg) fun hm => (List.mem_append.mp hm).elim (fun z => by rw [hy b z] at hg; cases hg) (in_frs F hf hg hn)
theorem hid_own (K : Below A₀ base outer g) (F : Fr g L G m) (hf : env.frame = some L) (N : News g L G news) {ys : List Addr} {p : Addr × Obj} (hp : p ∈ news) (hy : p.1 ∉ ys) : (hideAll G (ys ++ frs (env :: outer))).get? p.1 = some p.2 :=
  hideAll_get _ (N p hp).1 fun hm => (List.mem_append.mp hm).elim hy (off_frs K F hf (N p hp).2.2 (N p hp).2.1)
theorem hid_none {G : Heap} {ys zs : List Addr} {y : Addr} (hy : y ∈ ys) : (hideAll G (ys ++ zs)).get? y = none := hideAll_none _ (List.mem_append.mpr (.inl hy))
theorem aloft_of {fl : Value} {ys : List Addr} {h' : Heap} (K : Below A₀ base outer g) (F : Fr g L G m) (hf : env.frame = some L) (N : News g L G news) (hy : ∀ y ∈ ys, g.get? y = none) (hown : ∀ p ∈ own, p ∈ news ∧ p.1 ∉ ys)
    (stG : ∀ b o, G₀.get? b = some o → b ∉ xs → g₀.get? b = some o) (T0 : KtsTurn (frs outer) g₀ g) (fly : FlyP (IsNag C dx) (hideAll G (ys ++ frs (env :: outer))) outer x fl h')
    (up : ∀ b o, b ≠ L → G.get? b = some o → (∀ vs, o.data ≠ .fields vs) → ∃ sl, h'.get? b = some { o with slots := sl }) : Aloft G₀ xs outer C x dx fl own h' := by
  refine ⟨⟨_, fun b o e hb hn => hid_keep F hf hy (T0.other b o (stG b o e hb) hn) hn, fun p hp => hid_own K F hf N (hown p hp).1 (hown p hp).2, fly⟩, fun b o e hb hnf => ?_⟩
  obtain ⟨s1, h1⟩ := T0.up (stG b o e hb)
  obtain ⟨s2, h2⟩ := up b _ (fun q => by rw [q, kts_self F] at h1; cases h1) (F.keep _ _ h1) hnf
  exact ⟨s2, h2⟩
theorem leaveP_first {Q : Unit → Shared → Prop} (hA : A.frames = some (env :: outer)) (hf : env.frame = some L) (hke : env.scope.kind = .function) (K : Below A₀ base outer g) (F : Fr g L s.heap m) (N : News g L s.heap news)
    (stG : ∀ b o, G₀.get? b = some o → b ∉ xs → g.get? b = some o) (hx : (x, ox) ∈ news) (hp : IsNag C dx ox) (hd : ox.data = .fields vs) (h1 : vs[1]? = some .none) (hown : ∀ p ∈ own, p ∈ news ∧ p.1 ≠ x)
    (h : ∀ h', Aloft G₀ xs outer C x dx .none own h' → Q () { s with heap := h' }) : wpAny M A (leaving env (.ref x)) Q E s := by
  refine leaveFirstP (base := hideAll s.heap ([x] ++ frs (env :: outer))) isNag_keep hA (hid_frames hke K F hf _) hf (N.get hx) hp (fun b o e => of_hideAll _ e) (hid_none (.head _)) hd h1 fun h' fly up => h h' ?_
  exact aloft_of K F hf N (fun y hy => by rw [List.mem_singleton.mp hy]; exact (N _ hx).2.2) (fun p hp => ⟨(hown p hp).1, fun q => (hown p hp).2 (List.mem_singleton.mp q)⟩) stG .refl fly fun b o _ e hn => up b o e hn
end
section
variable {M : Model} {A A₁ : Around} {E : Value → Shared → Prop} {s : Shared} {B : Heap} {env : Env} {outer : List Env} {L x : Addr} {P : Obj → Prop}
theorem funFrames_same {h h' : Heap} {m' : Str → Option Value} (hn : h'.Ns L m') (hs : Heap.SameBut L h h') : ∀ {l : List Env}, h.FunFrames B l → h'.FunFrames B l
  | [], _ => trivial
  | env :: r, ⟨hk, ⟨L1, o, hf, hb, ho, hd⟩, hr⟩ => by
    refine ⟨hk, ?_, funFrames_same hn hs hr⟩
    by_cases q : L1 = L
    · subst q
      obtain ⟨oL, es, ep, hoL, hLd, _⟩ := hn
      exact ⟨L1, oL, hf, hb, hoL, fun vs e => by rw [hLd] at e; cases e⟩
    · exact ⟨L1, o, hf, hb, (hs.2 L1 q).trans ho, hd⟩
theorem fly_same {l : List Env} {fl : Value} {h h' : Heap} {m' : Str → Option Value} (fly : FlyP P B l x fl h) (hL : L ∈ frs l) (hn : h'.Ns L m') (hs : Heap.SameBut L h h') : FlyP P B l x fl h' := by
  obtain ⟨k1, k2, k3, oe, vs, T, oT, ts, he, hp, hd, h1, hnT, hTe, hT, hdT, h3⟩ := fly
  obtain ⟨hBL, oL, hoL, hfL⟩ := k3.mem hL
  have off : ∀ b o, h.get? b = some o → (∃ vs, o.data = .fields vs) → b ≠ L := fun b o e ⟨vs, hv⟩ q => by
    rw [q, hoL] at e; cases e; exact hfL _ hv
  exact ⟨fun b o e => (hs.2 b fun q => by rw [q, hBL] at e; cases e).trans (k1 b o e), k2, funFrames_same hn hs k3, oe, vs, T, oT, ts, (hs.2 x (off _ _ he ⟨_, hd⟩)).trans he, hp, hd, h1, hnT, hTe, (hs.2 T (off _ _ hT ⟨_, hdT⟩)).trans hT, hdT, h3⟩
theorem suite_raised {n : Str} {pos : Pos} {m : Str → Option Value} (hf : env.frame = some L) (hlo : env.locals = L) (hk : env.kindOf n = some .local) (hsc : (env.scope.kind == .class || (env.scope.kind == .module && env.locals != env.globals)) = false)
    (fly : FlyP P B (env :: outer) x (rawInt L) s.heap) (hns : s.heap.Ns L m)
    (h : ∀ h' tk, FlyP P B (env :: outer) x (rawInt L) h' → (∀ b o, b ≠ L → s.heap.get? b = some o → (∀ vs, o.data ≠ .fields vs) → h'.get? b = some o) → E (.ref x) { s with heap := h', toks := tk }) :
    AsSuiteRaised M A env n pos (notedBy M A env (cameBackBy M A₁ env E)) (.ref x) s := by
  subst hlo
  refine noteAgainP hf fly ?_
  refine wpAny_nameGoes hk hns hsc fun h' m' hn' hs' => ?_
  have fly1 := fly_same fly (frs_in (.head _) hf) hn' hs'
  refine passOnP (s := { s with heap := h', toks := s.toks + 1 }) hf fly1 fun h2 fly2 k2 => ?_
  refine noteAgainP (s := { s with heap := h2, toks := s.toks + 1 }) hf fly2 ?_
  obtain ⟨_, _, _, oe, vs, T, _, _, he, _, hd, h1, _⟩ := id fly2
  refine wpAny_bind (wpAny_field he hd h1 ?_)
  rw [if_neg (show ¬ ((Value.ref T == Value.none) = true) from by simp), hf]
  refine flyP_set (s := { s with heap := h2, toks := s.toks + 1 }) fly2 fun h3 fly3 k3 => ?_
  exact h h3 _ fly3 fun b o hb e hn => k3 b o (k2 b o ((hs'.2 b hb).trans e) hn) hn
end
section
variable {M : Model} {A A₀ A₁ : Around} {E : Value → Shared → Prop} {s : Shared} {base g g₀ G G₀ : Heap} {env : Env} {outer : List Env} {L x dx T C : Addr} {m : Str → Option Value} {news own : List (Addr × Obj)} {xs : List Addr} {ox oT : Obj} {vs ts : Array Value}
/-- A bare raise in the suite of a handler, up to the frame's own leaving. -/
theorem raise_out {n : Str} {pos rp : Pos} {Q : Flow → Shared → Prop} (hh : A.handled = some (.ref x)) (hf : env.frame = some L) (hlo : env.locals = L) (hke : env.scope.kind = .function) (hk : env.kindOf n = some .local)
    (K : Below A₀ base outer g) (F : Fr g L s.heap m) (N : News g L s.heap news) (stG : ∀ b o, G₀.get? b = some o → b ∉ xs → g₀.get? b = some o) (T0 : KtsTurn (frs outer) g₀ g)
    (hx : (x, ox) ∈ news) (hp : IsNag C dx ox) (hd : ox.data = .fields vs) (h1 : vs[1]? = some (.ref T)) (hT : (T, oT) ∈ news) (hTx : T ≠ x) (hdT : oT.data = .fields ts) (h3 : ts[3]? = some .none) (hown : ∀ p ∈ own, p ∈ news ∧ p.1 ≠ x ∧ p.1 ≠ T)
    (h : ∀ h' tk, (∀ {Q2 : Unit → Shared → Prop} {E2 : Value → Shared → Prop}, (∀ h'', Aloft G₀ xs outer C x dx .none own h'' → Q2 () { s with heap := h'', toks := tk }) → wpAny M A₁ (leaving env (.ref x)) Q2 E2 { s with heap := h', toks := tk }) → E (.ref x) { s with heap := h', toks := tk }) :
    wpAny M A (exec (.Raise none none rp) env) Q (AsSuiteRaised M A env n pos (notedBy M A env (cameBackBy M A₁ env E))) s := by
  have fly0 : FlyP (IsNag C dx) (hideAll s.heap ([x, T] ++ frs (env :: outer))) (env :: outer) x .none s.heap :=
    ⟨fun b o e => of_hideAll _ e, hid_none (.head _), hid_frames hke K F hf _, ox, vs, T, oT, ts, N.get hx, hp, hd, h1, hid_none (.tail _ (.head _)), hTx, N.get hT, hdT, h3⟩
  have hsc : (env.scope.kind == .class || (env.scope.kind == .module && env.locals != env.globals)) = false := by rw [hke]; rfl
  refine Raise_bare hh hf fly0 fun h1' fly1 k1 => ?_
  refine suite_raised (s := { s with heap := h1' }) hf hlo hk hsc fly1 ((upTo_of k1).ns F.ns) fun h2 tk fly2 k2 => h h2 tk fun q => ?_
  refine leaveHeldP (s := { s with heap := h2, toks := tk }) hf fly2 fun h3' fly3 up3 => q h3' ?_
  refine aloft_of K F hf N (fun y hy => ?_) (fun p hp' => ⟨(hown p hp').1, fun z => ?_⟩) stG T0 fly3 fun b o hb e hn => up3 b o (k2 b o hb (k1 b o e hn) hn) hn
  · rcases List.mem_cons.mp hy with rfl | hy
    · exact (N _ hx).2.2
    · rw [List.mem_singleton.mp hy]; exact (N _ hT).2.2
  · rcases List.mem_cons.mp z with z | z
    · exact (hown p hp').2.1 z
    · exact (hown p hp').2.2 (List.mem_singleton.mp z)
theorem ground_at {h₅ B : Heap} (K : Below A₀ base outer g) (F : Fr g L G m) (hf : env.frame = some L) (hxs : ∀ y ∈ xs, g.get? y = none ∧ y ≠ L) (hBG : ∀ b o, G.get? b = some o → b ∉ xs → b ∉ frs (env :: outer) → B.get? b = some o) (hBh : B.StaysIn h₅)
    (hsm : ∀ b o, G.get? b = some o → b ∉ xs → (∀ vs, o.data ≠ .fields vs) → ∃ sl, h₅.get? b = some { o with slots := sl }) :
    KtsTurn (frs outer) g (ktsHeap h₅ (frs outer) g) ∧ Fr (ktsHeap h₅ (frs outer) g) L h₅ m ∧ Below A₀ base outer (ktsHeap h₅ (frs outer) g) := by
  have offx : ∀ b o, g.get? b = some o → b ∉ xs := fun b o e hm => by rw [(hxs b hm).1] at e; cases e
  obtain ⟨T, S⟩ := kts_turn_at (h := h₅) (fs := frs outer) (g := g)
    (fun b hb => by
      obtain ⟨_, o, ho, _⟩ := K.frames.mem hb
      exact ⟨o, ho⟩)
    (fun b o e nm => hBh b o (hBG b o (F.keep b o e) (offx b o e) (in_frs F hf e nm)))
    (fun b o e hm => by
      obtain ⟨_, o', ho', hd⟩ := K.frames.mem hm
      rw [e] at ho'
      cases ho'
      exact hsm b o (F.keep b o e) (offx b o e) hd)
  have hns : h₅.Ns L m := by
    obtain ⟨oL, es, ep, hL, hLd, hLk, hLf⟩ := F.ns
    obtain ⟨sl, e⟩ := hsm L oL hL (fun hm => (hxs L hm).2 rfl) (fun vs q => by rw [hLd] at q; cases q)
    exact ⟨_, es, ep, e, hLd, hLk, hLf⟩
  refine ⟨T, ⟨hns, S, by rw [T.size]; exact F.above⟩, ⟨K.stack, fun b o e => T.other b o (K.stays b o e) (fun hm => by
    rw [(K.frames.mem hm).1] at e
    cases e), K.frames.of_keeps fun b o e _ => ?_⟩⟩
  obtain ⟨sl, hs⟩ := T.up e
  exact ⟨_, hs, rfl⟩
end
section
variable {prog : Program} {w : World} {A A₀ : Around} {E : Value → Shared → Prop} {s : Shared} {base g G : Heap} {env : Env} {outer : List Env} {L x dx C Nn fI : Addr} {m : Str → Option Value} {news own rest : List (Addr × Obj)} {xs : List Addr} {KF : Frag}
  {p : Program} {loose : List Str} {mean : ExcName → Option Value} {mg mb : Str → Option Value}
/-- An own exception is caught under a name. -/
theorem catch_as {t : Expr} {n : Str} {b₀ : Stmt} {suite : List Stmt} {pos : Pos} {hs : List ExceptHandler} {Q : Flow → Shared → Prop} (hA : A.frames = some (env :: outer)) (hf : env.frame = some L) (hlo : env.locals = L) (hke : env.scope.kind = .function) (hk : env.kindOf n = some .local)
    (NK : NagK KF C Nn fI) (K : Below A₀ base outer g) (XB : KF.In base) (TB : Top p loose mean mg mb base) (F : Fr g L G m) (N : News g L G news) (hxs : ∀ y ∈ xs, g.get? y = none ∧ y ≠ L) (hx : x ∈ xs)
    (al : Aloft G xs (env :: outer) C x dx .none own s.heap) (hrest : ∀ p ∈ rest, p ∈ news ∧ p.1 ∉ xs) (hown : ∀ p ∈ own, ∀ b o, G.get? b = some o → b ∉ xs → b ≠ p.1)
    (hev : ∀ (E' : Value → Shared → Prop) (s5 : Shared) (g5 : Heap), Fr g5 L s5.heap m → KF.In g5 → Top p loose mean mg mb g5 → wpAny (model prog w) (A.mark (some (.ref x))) (eval t env) (fun c s₁ => c = .ref C ∧ s₁ = s5) E' s5)
    (h : ∀ h' tk g' (T : Addr) (ox oT : Obj) (vs ts : Array Value), KtsTurn (frs outer) g g' → (frs outer = [] → g' = g) → Fr g' L h' (fun y => if y = n then some (.ref x) else m y) → News g' L h' ((x, ox) :: (T, oT) :: (own ++ rest)) →
      IsNag C dx ox → ox.data = .fields vs → vs[1]? = some (.ref T) → T ≠ x → oT.data = .fields ts → ts[3]? = some .none → (∀ p ∈ own ++ rest, p.1 ≠ T ∧ p.1 ≠ x) → Below A₀ base outer g' → KF.In g' → Top p loose mean mg mb g' →
      wpAny (model prog w) (A.mark (some (.ref x))) (execs (b₀ :: suite) env) (fun f s₄ => wpAny (model prog w) A (do bindName env n .none; unbindBehindTheSuite env n pos) (fun _ s₅ => Q f s₅) E s₄)
        (AsSuiteRaised (model prog w) (A.mark (some (.ref x))) env n pos (notedBy (model prog w) (A.mark (some (.ref x))) env (cameBackBy (model prog w) A env E))) { s with heap := h', toks := tk }) :
    wpAny (model prog w) A (noteFrame (.ref x) env) (fun _ s₂ => wpAny (model prog w) A (setFlight (.ref x) none) (fun _ s₃ =>
        wpAny (model prog w) A (handleBy (.ref x) env (.ExceptHandler (some t) (some n) (b₀ :: suite) pos :: hs)) Q E s₃) E s₂) E s := by
  subst hlo
  obtain ⟨⟨B, hBG, hBown, fly⟩, slots⟩ := al
  have offx : ∀ b o, g.get? b = some o → b ∉ xs := fun b o e hm => by rw [(hxs b hm).1] at e; cases e
  refine noteOnP isNag_keep hA hf fly fun h4 fly4 up4 => ?_
  refine landP (s := { s with heap := h4 }) fly4 fun h5 fly5 k5 => ?_
  have up5 : ∀ b o, G.get? b = some o → b ∉ xs → (∀ vs, o.data ≠ .fields vs) → ∃ sl, h5.get? b = some { o with slots := sl } := fun b o e hb hn => by
    obtain ⟨s1, e1⟩ := slots b o e hb hn
    obtain ⟨s2, e2⟩ := up4 b _ e1 hn
    exact ⟨s2, k5 b _ e2 hn⟩
  obtain ⟨T5, F5, B5⟩ := ground_at K F hf hxs hBG fly5.1 up5
  refine wpAny_handleBy_cons (codeAny_handlers_test (wpAny_mono (hev _ { s with heap := h5 } _ F5 (XB.keeps B5.stays) (TB.keeps B5.stays)) (fun c s₁ hc => ?_) fun _ _ y => y)) (by intro q; cases q)
  obtain ⟨rfl, rfl⟩ := hc
  obtain ⟨⟨nm, q, bs, sn, sub, ab, col, dd, k0, k1, k2, k3, k5', hC⟩, _, _, _, _⟩ := NK
  obtain ⟨_, _, _, oe5, _, _, _, _, he5, hp5, _⟩ := id fly5
  have hC5 := fly5.1 _ _ (hBG _ _ (F.keep _ _ (K.stays _ _ (XB _ _ hC))) (offx _ _ (K.stays _ _ (XB _ _ hC))) (in_frs F hf (K.stays _ _ (XB _ _ hC)) fun hm => by
    have := XB _ _ hC
    rw [(K.frames.mem hm).1] at this
    cases this))
  obtain ⟨hh, gg, d, tk, os⟩ := s
  refine wpAny_excMatches_sub_self hC5 he5 hp5.1 (by simp) (codeAny_handlers_suite_as ?_)
  refine landP (s := ⟨h5, gg, d, tk, os⟩) fly5 fun h6 fly6 k6 => ?_
  have up6 : ∀ b o, G.get? b = some o → b ∉ xs → (∀ vs, o.data ≠ .fields vs) → ∃ sl, h6.get? b = some { o with slots := sl } := fun b o e hb hn => by
    obtain ⟨s1, e1⟩ := up5 b o e hb hn
    exact ⟨s1, k6 b _ e1 hn⟩
  obtain ⟨T6, F6, B6⟩ := ground_at K F hf hxs hBG fly6.1 up6
  obtain ⟨b1, b2, b3, ox, vs, T, oT, ts, he, hp, hd, h1, hnT, hTe, hT, hdT, h3⟩ := id fly6
  have hGL : ∃ oL, G.get? env.locals = some oL := let ⟨oL, _, _, hL, _⟩ := F.ns; ⟨oL, hL⟩
  have Tf : T ∉ frs (env :: outer) := fun hm => by
    obtain ⟨_, o, ho, hnf⟩ := b3.mem hm
    rw [hT] at ho; cases ho
    exact hnf _ hdT
  have gT : g.get? T = none := by
    cases q : g.get? T with
    | none => rfl
    | some o => have := hBG T o (F.keep _ _ q) (offx _ _ q) Tf; rw [hnT] at this; cases this
  have gown : ∀ p ∈ own, g.get? p.1 = none ∧ p.1 ≠ env.locals := fun p hp => by
    refine ⟨?_, fun e => ?_⟩
    · cases q : g.get? p.1 with
      | none => rfl
      | some o => exact absurd rfl (hown p hp p.1 o (F.keep _ _ q) (offx _ _ q))
    · obtain ⟨oL, hL⟩ := hGL
      exact hown p hp _ _ hL (fun hm => (hxs _ hm).2 rfl) e.symm
  have Brest : ∀ p ∈ rest, B.get? p.1 = some p.2 := fun p hp => hBG _ _ (N p (hrest p hp).1).1 (hrest p hp).2 (off_frs K F hf (N p (hrest p hp).1).2.2 (N p (hrest p hp).1).2.1)
  have Ball : ∀ p ∈ own ++ rest, B.get? p.1 = some p.2 := fun p hp => (List.mem_append.mp hp).elim (hBown p) (Brest p)
  have N6 : News (ktsHeap h6 (frs outer) g) env.locals h6 ((x, ox) :: (T, oT) :: (own ++ rest)) := by
    intro p hp'
    rcases List.mem_cons.mp hp' with rfl | hp'
    · exact ⟨he, (hxs x hx).2, T6.none_ _ (hxs x hx).1⟩
    · rcases List.mem_cons.mp hp' with rfl | hp'
      · exact ⟨hT, fun q => Tf (by have q' : T = env.locals := q; rw [q']; exact frs_in (.head _) hf), T6.none_ _ gT⟩
      · refine ⟨b1 _ _ (Ball p hp'), ?_⟩
        rcases List.mem_append.mp hp' with hp' | hp'
        · exact ⟨(gown p hp').2, T6.none_ _ (gown p hp').1⟩
        · exact ⟨(N p (hrest p hp').1).2.1, T6.none_ _ (N p (hrest p hp').1).2.2⟩
  have hsc : (env.scope.kind == .class || (env.scope.kind == .module && env.locals != env.globals)) = false := by rw [hke]; rfl
  refine wpAny_storeName_local hk F6.ns (fun h7 hn7 hs7 => ?_) hsc
  exact h h7 _ _ T ox oT vs ts T6 (fun e => by rw [e]; rfl) (F6.set hn7 hs7) (N6.set hs7) hp hd h1 hTe hdT h3 (fun p hp' => ⟨fun e => (by have := Ball p hp'; rw [e, hnT] at this; cases this), fun e => (by have := Ball p hp'; rw [e, b2] at this; cases this)⟩) B6 (XB.keeps B6.stays) (TB.keeps B6.stays)
end

end

section
open PySem PySem.W PyProof.Rows


local macro_rules | `(tactic| walk_at "GO") => `(tactic| repeat' ((fail_if_success (with_reducible show wpAny _ _ (pyIter _) _ _ _)); (fail_if_success (with_reducible show wpAny _ _ (compareOp CmpOp.NotEq (Value.ref _) (Value.ref _)) _ _ _)); (fail_if_success (with_reducible show wpAny _ _ (compareOp CmpOp.Eq (Value.ref _) (Value.ref _)) _ _ _)); (fail_if_success (with_reducible show wpAny _ _ (exec (Stmt.While _ _ _ _) _) _ _ _)); (fail_if_success (with_reducible show LCg.CompSrc _ _ _ _ _ _ _ _ _ _ _ _ _ _)); first | (k_unfold; (try dsimp only)) | (k_end; wrow_close) | walk1 | (dsimp only; walk1) | (leave1; walk_say "STEP leave1"; try dsimp only) | fail "no step"))
local macro_rules | `(tactic| walk_at "DAT") => `(tactic| first | exact DatIn.int _ _ | exact DatIn.bool _ | exact DatIn.str _ _ | (refine' DatIn.tuple ?m9 ?r9; (case m9 => k_mem); (case r9 => walk_at "DATS")) | (refine' DatIn.list ?m9 ?r9; (case m9 => k_mem); (case r9 => walk_at "DATS")))
local macro_rules | `(tactic| walk_at "DATS") => `(tactic| first | exact DatAll.nil | exact datAll_ints (by assumption) | (refine' DatAll.cons ?x9 ?y9; (case x9 => walk_at "DAT"); (case y9 => walk_at "DATS")))
local macro_rules | `(tactic| walk_at "ITER") => `(tactic| (k_here; (rename Fr _ _ _ _ => lF'); (with_unfolding_all refine' For_invVF lF' ?k1 ?k2 ?_; (case k1 => exact rfl); (case k2 => exact rfl); k_whole)))
local macro_rules | `(tactic| walk_at "exec For Name Subscript cons nil") => `(tactic| walk_at "ITER")
local macro_rules | `(tactic| walk_at "exec For Name BinOp cons nil") => `(tactic| walk_at "ITER")
local macro_rules | `(tactic| walk_at "exec For Name List cons nil") => `(tactic| walk_at "ITER")
local macro_rules | `(tactic| walk_at "exec For Name Call cons nil") => `(tactic| walk_at "ITER")
local macro_rules | `(tactic| walk_at "exec For Name Name cons nil") => `(tactic| walk_at "ITER")
local macro_rules | `(tactic| walk_at "subscriptTail Attribute Name Constant ref int") => `(tactic| (k_here; (with_reducible show wpAny _ _ (subscriptTail _ _ (Value.ref _) (Value.int _ _)) _ _ _); k_dflt (refine' item_tupLed (n := _) ?N ?hm ?lo ?hi ?hj ?hx ?_ ?hs; (case N => k_asm); (case hm => k_mem); (case lo => decide); (case hi => decide); (case hj => exact rfl); (case hx => exact rfl); (case hs => with_unfolding_all rfl); k_whole)))
local macro_rules | `(tactic| walk_at "subscriptTail Name UnaryOp ref int") => `(tactic| (k_here; (with_reducible show wpAny _ _ (subscriptTail _ _ (Value.ref _) (Value.int _ _)) _ _ _); k_dflt (refine' item_lastI (n := _) ?N ?hm ?hi ?hk ?hne ?_ ?hs; (case N => k_asm); (case hm => k_mem); (case hi => assumption); (case hk => rfl); (case hne => assumption); (case hs => with_unfolding_all rfl); k_whole); intro _))
local macro_rules | `(tactic| walk_at "call type:list") => `(tactic| (k_here; (with_reducible show wpAny _ _ (call (Value.type _) [Value.ref _]) _ _ _); k_dflt (refine' list_of_tup (n := _) ?F ?N ?hm ?hz ?_; (case F => k_asm); (case N => k_asm); (case hm => k_mem); (case hz => ((have hq9 := IntsAre.length (by assumption)); omega)); k_whole); intro D' e' h' F' N' l1; (try k_lt l1); (try k_sweep)))
local macro_rules | `(tactic| walk_at "LB") => `(tactic| first | assumption | (with_reducible refine' app_len ?x9 ?y9; (case x9 => walk_at "LB"); (case y9 => walk_at "LB")) | exact (tab_len (B := 64) (by decide)) | (refine (?_ : _ ≤ 64); exact Nat.le_of_ble_eq_true rfl))
local macro_rules | `(tactic| walk_at "LEN") => `(tactic| first | omega | decide | exact Nat.le_trans (tab_len (B := 64) (by decide)) (by decide) | ((refine' len_le ?p9 ?q9); (case p9 => walk_at "LB"); (case q9 => first | decide | omega)))
local macro_rules | `(tactic| walk_at "binaryOp Add str str") => `(tactic| (k_here; (with_reducible show wpAny _ _ (binaryOp Operator.Add (Value.str _ _) (Value.str _ _)) _ _ _); (refine add_str ?_ (add_fits ?h1 ?h2)); (case h1 => walk_at "LEN"); (case h2 => walk_at "LEN"); intro _ _))
local macro_rules | `(tactic| walk_at "call type:tuple") => `(tactic| (k_here; (with_reducible show wpAny _ _ (call (Value.type _) [Value.ref _]) _ _ _); k_dflt (refine' tuple_led ?k1 ?k2 ?k3 ?k4 ?_; (case k1 => k_asm); (case k2 => k_asm); (case k3 => k_mem); (case k4 => first | (refine' Nat.le_trans (Nat.le_of_eq (IntsAre.length ?hi9)) ?lq9; (case hi9 => assumption); (case lq9 => ((try simp only [List.length_set, List.length_append, List.length_cons, List.length_nil, List.length_map, List.length_range]); omega))) | ((simp only [List.length_cons, List.length_nil, List.length_set]); omega)); k_whole); intro D' h' F' N' l1; (try k_lt l1); (try k_sweep)))
local macro_rules | `(tactic| walk_at "eval ListComp") => `(tactic| (k_here; k_dflt (refine LCg.ListComp_U (F₀ := by k_asm) (by with_unfolding_all rfl) (by decide) (by rfl) (by decide) (by rfl) ?_)))
local macro_rules | `(tactic| walk_at "exec Assign cons ListComp") => `(tactic| (k_here; k_dflt (refine LCg.Assign_ListComp_U (F₀ := by k_asm) (by rfl) (by with_unfolding_all rfl) (by with_unfolding_all rfl) (by decide) (by rfl) (by decide) (by rfl) (by rfl) (by rfl) ?_)))
local macro_rules | `(tactic| walk_at "call builtin:str.split") => `(tactic| (k_here; (with_reducible show wpAny _ _ (call (Value.builtin "str.split") [Value.str _ _, Value.str _ _]) _ _ _); k_dflt (refine' KSpl.split1 ?kF ?kN ?ky ?_ ?ks; (case kF => k_asm); (case kN => k_asm); (case ky => decide); (case ks => (rw [PySem.sizeLine_eq]; (first | omega | (refine Nat.le_trans (Nat.add_le_add_right (PySem.Txt.slice_le _ _ _) 2) ?_; omega)))); k_whole); intro D' l' h' k' e' a' F' N' l1; (try k_lt l1); (try k_sweep)))
local macro_rules | `(tactic| walk_at "INTS") => `(tactic| first | assumption | exact IntsAre.nil | (refine' IntsAre.cons _ _ ?i9; walk_at "INTS"))
local macro_rules | `(tactic| walk_at "ILEN") => `(tactic| ((try simp only [List.length_append, List.length_cons, List.length_nil, List.length_map, List.length_range, List.length_set, List.length_replicate]); omega))
local macro_rules | `(tactic| walk_at "binaryOp Add ref ref") => `(tactic| (k_here; (with_reducible show wpAny _ _ (binaryOp Operator.Add (Value.ref _) (Value.ref _)) _ _ _); k_dflt (refine' addI_led ?F ?N ?a ?b ?i ?j ?z ?_; (case F => k_asm); (case N => k_asm); (case a => k_mem); (case b => k_mem); (case i => walk_at "INTS"); (case j => walk_at "INTS"); (case z => walk_at "ILEN"); k_whole); intro D' h' F' N' l1 hI'; (try k_lt l1); (try k_sweep)))
local macro_rules | `(tactic| walk_at "call builtin:max") => `(tactic| (k_here; (with_reducible show wpAny _ _ (call (Value.builtin "max") [Value.ref _]) _ _ _); k_dflt (refine' maxI_led ?hh ?F ?N ?a ?i ?z ?_; (case hh => exact rfl); (case F => k_asm); (case N => k_asm); (case a => k_mem); (case i => walk_at "INTS"); (case z => simp); k_whole); intro h' M' t' tk' F' N' hM' hU'; (try k_sweep)))
local macro_rules | `(tactic| walk_at "call builtin:list.count") => `(tactic| (k_here; (with_reducible show wpAny _ _ (call (Value.builtin "list.count") [Value.ref _, Value.int _ _]) _ _ _); k_dflt (refine' countI_led ?N ?a ?i ?_; (case N => k_asm); (case a => k_mem); (case i => walk_at "INTS"); k_whole); intro _ _))
local macro_rules | `(tactic| walk_at "binaryOp Mult str int") => `(tactic| (k_here; (with_reducible show wpAny _ _ (binaryOp Operator.Mult (Value.str _ _) (Value.int _ _)) _ _ _); k_dflt (refine' mul_led ?h1 ?h2 ?h3 ?_; (case h1 => first | decide | omega | ((refine' len_le ?p9 ?q9); (case p9 => walk_at "LB"); (case q9 => first | decide | omega))); (case h2 => ((try k_fmods); omega)); (case h3 => ((try k_fmods); omega)); k_whole); intro _ _))
local macro_rules | `(tactic| walk_at "call builtin:str.join") => `(tactic| (k_here; (with_reducible show wpAny _ _ (call (Value.builtin "str.join") [Value.str _ _, Value.ref _]) _ _ _); k_dflt (refine' join_led ?N ?a ?i ?z ?_; (case N => k_asm); (case a => k_mem); (case i => assumption); (case z => assumption); k_whole); intro _ _))
local macro_rules | `(tactic| walk_at "IDX") => `(tactic| first | omega | ((simp only [List.length_append, List.length_cons, List.length_nil, List.length_map, List.length_range, List.length_set, List.length_replicate]); omega))
local macro_rules | `(tactic| walk_at "SUBI") => `(tactic| (k_here; (with_reducible show wpAny _ _ (subscriptTail _ _ (Value.ref _) (Value.int _ _)) _ _ _); k_dflt (refine' ksa_sub ?k1 ?k2 ?k3 ?k4 ?k5 ?k6 ?_ ?k7; (case k1 => k_asm); (case k2 => k_mem); (case k3 => with_reducible assumption); (case k4 => walk_at "IDX"); (case k5 => walk_at "IDX"); (case k6 => walk_at "IDX"); (case k7 => with_unfolding_all rfl); k_whole); intro _))
local macro_rules | `(tactic| walk_at "subscriptTail Name Name ref int") => `(tactic| walk_at "SUBI")
local macro_rules | `(tactic| walk_at "subscriptTail Name BinOp ref int") => `(tactic| walk_at "SUBI")
local macro_rules | `(tactic| walk_at "getItem ref int") => `(tactic| (k_here; (with_reducible show wpAny _ _ (getItem (Value.ref _) (Value.int _ _)) _ _ _); k_dflt (refine' ksa_get ?k1 ?k2 ?k3 ?k4 ?k5 ?k6 ?_; (case k1 => k_asm); (case k2 => k_mem); (case k3 => with_reducible assumption); (case k4 => walk_at "IDX"); (case k5 => walk_at "IDX"); (case k6 => walk_at "IDX"); k_whole); intro _))
local macro_rules | `(tactic| walk_at "setItem ref int") => `(tactic| (k_here; (with_reducible show wpAny _ _ (setItem (Value.ref _) (Value.int _ _) (Value.int _ _)) _ _ _); k_dflt (refine' ksa_set ?k1 ?k2 ?k3 ?k4 ?k5 ?k6 ?k7 ?_; (case k1 => k_asm); (case k2 => k_asm); (case k3 => k_upd); (case k4 => with_reducible assumption); (case k5 => walk_at "IDX"); (case k6 => walk_at "IDX"); (case k7 => walk_at "IDX"); k_whole); intro h' F' N' hi' hl' hs'; clear hs'; (try k_sweep)))
local macro_rules | `(tactic| walk_at "DATE") => `(tactic| first | (with_reducible exact DatIn.int _ _) | exact datInt (by assumption) | exact datInt (by decide) | (refine' DatIn.tuple ?m9 ?r9; (case m9 => k_mem); (case r9 => walk_at "DATES")))
local macro_rules | `(tactic| walk_at "DATES") => `(tactic| first | exact DatAll.nil | exact datInts (by assumption) (by assumption) | exact datAll_ints (by assumption) | (refine' DatAll.cons ?x9 ?y9; (case x9 => walk_at "DATE"); (case y9 => walk_at "DATES")))
local macro_rules | `(tactic| walk_at "subscriptTail Name Slice ref ref") => `(tactic| (k_here; (with_reducible show wpAny _ _ (subscriptTail _ _ (Value.ref _) (Value.ref _)) _ _ _); k_dflt (refine' slice_ledI ?F ?N ?hm ?hi ?pl ?pu ?pk ?h0 ?hz ?_ ?hs ?ht; (case F => k_asm); (case N => k_asm); (case hm => k_mem); (case hi => assumption); (case pl => first | exact IsPart.none | exact IsPart.int _ _); (case pu => first | exact IsPart.none | exact IsPart.int _ _); (case pk => first | exact IsPart.none | exact IsPart.int _ _); (case h0 => simp); (case hz => walk_at "ILEN"); (case hs => with_unfolding_all rfl); (case ht => (intro _; with_unfolding_all rfl)); k_whole); intro D' us' h' F' N' l1 hI'; (try k_lt l1); (try k_sweep); (first | rw [pickL_to _ (by omega)] at hI' | rw [pickL_from _ (by omega)] at hI' | rw [pickL_rev] at hI' | rw [pickL_odds] at hI' | rw [pickL_evens] at hI' | skip)))
theorem nk06 (P : Params) : NagK (hd06.heap_39 P) 59 58 35 := ⟨⟨_, _, _, _, _, _, _, _, _, _, _, _, _, rfl⟩, by kernel_rfl, by kernel_rfl, by kernel_rfl, by kernel_rfl⟩
abbrev nagMap (a b c : Value) (y : Str) : Option Value := if y = Str.ofString "line" then some c else if y = Str.ofString "msg" then some b else if y = Str.ofString "lineno" then some a else none
theorem tl_lineno : typeLookup (.type "Exception") (Str.ofString "lineno") = pure none := by rw [typeLookup_type, builtinLookup_eq_fast]; kernel_rfl
theorem tl_msg : typeLookup (.type "Exception") (Str.ofString "msg") = pure none := by rw [typeLookup_type, builtinLookup_eq_fast]; kernel_rfl
theorem tl_line : typeLookup (.type "Exception") (Str.ofString "line") = pure none := by rw [typeLookup_type, builtinLookup_eq_fast]; kernel_rfl
theorem ns_lineno (P : Params) : nsIn (hd06.heap_39 P) 58 (Str.ofString "lineno") = some none := by kernel_rfl
theorem ns_msg (P : Params) : nsIn (hd06.heap_39 P) 58 (Str.ofString "msg") = some none := by kernel_rfl
theorem ns_line (P : Params) : nsIn (hd06.heap_39 P) 58 (Str.ofString "line") = some none := by kernel_rfl
theorem within_one {n : Str} {v : Value} : Within (fun y => if y = n then some v else none) [n] := fun y hy => by
  by_cases h : y = n
  · subst h; exact .head _
  · simp [h] at hy
theorem within_more {n : Str} {v : Value} {m : Str → Option Value} {ns : List Str} (h : Within m ns) : Within (fun y => if y = n then some v else m y) (n :: ns) := fun y hy => by
  by_cases e : y = n
  · subst e; exact .head _
  · simp only [e, if_false] at hy; exact .tail _ (h y hy)
local macro_rules | `(tactic| walk_at "WITHIN") => `(tactic| first | exact within_one | exact within_more within_one | exact within_more (within_more within_one) | assumption)
local macro_rules | `(tactic| walk_at "setAttr ref") => `(tactic| (k_here; (with_reducible show wpAny _ _ (setAttr (Value.ref _) _ _) _ _ _); k_dflt (refine' setE_first ?F ?X ?N (nk06 _) ?hn ?hB ?hc ?hd ?hdn ?U ?_; (case F => k_asm); (case X => k_asm); (case N => k_asm); (case hn => first | exact ns_lineno _ | exact ns_msg _ | exact ns_line _); (case hB => first | exact tl_lineno | exact tl_msg | exact tl_line); (case U => (intro dx'; k_upd)); (case hc => rfl); (case hd => rfl); (case hdn => rfl); k_whole); intro dx' od' h' tk' F' N' l1 hD'; (try k_lt l1); (try k_sweep)))
local macro_rules | `(tactic| walk_at "setAttr ref") => `(tactic| (k_here; (with_reducible show wpAny _ _ (setAttr (Value.ref _) _ _) _ _ _); k_dflt (refine' setE_more ?F ?X ?N (nk06 _) ?hn ?hB ?hm ?hc ?hd ?hdx ?hne ?hD ?hw ?hsz ?U ?_; (case F => k_asm); (case X => k_asm); (case N => k_asm); (case hn => first | exact ns_lineno _ | exact ns_msg _ | exact ns_line _); (case hB => first | exact tl_lineno | exact tl_msg | exact tl_line); (case hm => k_mem); (case hc => rfl); (case hd => rfl); (case hdx => rfl); (case hne => k_ne); (case U => (intro od'; k_upd)); (case hD => assumption); (case hw => walk_at "WITHIN"); (case hsz => exact Nat.le_of_ble_eq_true rfl); k_whole); intro od' h' tk' F' N' hD'; (try k_sweep)))
theorem nag06 (w : World) (mean : ExcName → Option Value) (mg mb : Str → Option Value) :
  ∀ (dp un : Nat) (gd : Option (List Code)) (cn : Str) (cs : Scope) (a : Addr) (ccd : Value) (cl : List (Str × Addr)) (outer : List Env) (A₀ : Around) (base h₀ : Heap) (L : Addr) (m : Str → Option Value) (s : Shared) (v1 v2 v3 : Value)
    (Q E : Value → Shared → Prop),
    Below A₀ base outer h₀ → Fr h₀ L s.heap m → (hd06.heap_39 w.params).In h₀ → Top hd06.view_39 (looseW hd06.view_39 []) mean mg mb h₀ → cs.kind = .function →
    dp + 10 < recursionLimit → un + 80 < cLine →
    (∀ (x dx t : Nat) (od : Obj) h' tk', Fr h₀ L h' m → s.heap.StaysIn h' → News h₀ L h' [(x, { excNew 59 t with dict := some dx }), (dx, od), (t, tupO #[v1, v2, v3])] → DictObj od (nagMap v1 v2 v3) → s.heap.objs.size ≤ t → t < x → x < dx → Q (.ref x) { s with heap := h', toks := tk' }) →
    wpAny (model Challenge.rw_dn0186_06.row.prog w) (ktrTop dp un gd cn cs L a ccd cl outer) (call (.ref 59) [v1, v2, v3]) Q E s := by
  k_fill
  intro dp un gd cn cs a ccd cl outer A₀ base h₀ L m s v1 v2 v3 Q E B F X T hk hd hu hret
  refine call_excH F X (nk06 w.params) (Nat.le_of_ble_eq_true rfl) ?_
  intro x t h' st hsz htx F' N'
  k_lt2 htx
  k_dflt (refine' code_defH ?k1 ?k2 ?k3 ?k4 ?k5 ?kA ?kF ?kK ?k6 ?k7 ?k8 ?k9 ?kB ?_ ?c2 ?c3 ?c4 ?c5; (case kA => exact rfl); (case kF => exact rfl); (case kK => assumption); (case k1 => k_asm); (case k2 => k_asm); (case k3 => k_asm); (case k4 => k_asm); (case k5 => k_asm); (case k6 => k_is); (case k7 => k_is); (case k8 => ktr_room); (case k9 => exact BindsTo.of_eq rfl); (case c5 => decide); (case kB => exact locs rfl); (case c2 => exact rfl); (case c3 => exact rfl); (case c4 => exact rfl); k_whole)
  intro g L' h1 stG hszL FG' F' N' B' X' T'
  (try dsimp only)
  (try k_fold)
  w_on
  walk_at "GO"
  rename_i D1 hh4 l1 hh3 dx od2 hh2 tk2 hD2 l2 od1 hh1 tk1 hD1 od hz tkz F9 N9 hD9 kF9 kN9 _ _
  refine hret x dx t od hz tkz kF9 (fun b o e => F9.keep b o (stG b o (st b o e) ?_)) (news_sub kN9 (List.forall_mem_cons.mpr ⟨.tail _ (.tail _ (.head _)), List.forall_mem_cons.mpr ⟨.head _, List.forall_mem_cons.mpr ⟨.tail _ (.tail _ (.tail _ (.head _))), List.forall_mem_nil _⟩⟩⟩)) hD9 hsz htx l2.2.1
  have hb : b < s.heap.objs.size := Heap.lt_size e
  intro hm
  simp only [List.map_cons, List.map_nil, List.mem_cons, List.not_mem_nil, or_false] at hm
  rcases hm with rfl | rfl
  · exact absurd (Nat.lt_of_lt_of_le hb (Nat.le_trans hsz (Nat.le_of_lt htx))) (Nat.lt_irrefl _)
  · exact absurd (Nat.lt_of_lt_of_le hb hsz) (Nat.lt_irrefl _)

end

section
open PySem PySem.W PyProof.Rows


local macro_rules | `(tactic| walk_at "GO") => `(tactic| repeat' ((fail_if_success (with_reducible show wpAny _ _ (pyIter _) _ _ _)); (fail_if_success (with_reducible show wpAny _ _ (compareOp CmpOp.NotEq (Value.ref _) (Value.ref _)) _ _ _)); (fail_if_success (with_reducible show wpAny _ _ (compareOp CmpOp.Eq (Value.ref _) (Value.ref _)) _ _ _)); (fail_if_success (with_reducible show wpAny _ _ (exec (Stmt.While _ _ _ _) _) _ _ _)); (fail_if_success (with_reducible show LCg.CompSrc _ _ _ _ _ _ _ _ _ _ _ _ _ _)); first | (k_unfold; (try dsimp only)) | (k_end; wrow_close) | walk1 | (dsimp only; walk1) | (leave1; walk_say "STEP leave1"; try dsimp only) | fail "no step"))
local macro_rules | `(tactic| walk_at "DAT") => `(tactic| first | exact DatIn.int _ _ | exact DatIn.bool _ | exact DatIn.str _ _ | (refine' DatIn.tuple ?m9 ?r9; (case m9 => k_mem); (case r9 => walk_at "DATS")) | (refine' DatIn.list ?m9 ?r9; (case m9 => k_mem); (case r9 => walk_at "DATS")))
local macro_rules | `(tactic| walk_at "DATS") => `(tactic| first | exact DatAll.nil | exact datAll_ints (by assumption) | (refine' DatAll.cons ?x9 ?y9; (case x9 => walk_at "DAT"); (case y9 => walk_at "DATS")))
local macro_rules | `(tactic| walk_at "ITER") => `(tactic| (k_here; (rename Fr _ _ _ _ => lF'); (with_unfolding_all refine' For_invVF lF' ?k1 ?k2 ?_; (case k1 => exact rfl); (case k2 => exact rfl); k_whole)))
local macro_rules | `(tactic| walk_at "exec For Name Subscript cons nil") => `(tactic| walk_at "ITER")
local macro_rules | `(tactic| walk_at "exec For Name BinOp cons nil") => `(tactic| walk_at "ITER")
local macro_rules | `(tactic| walk_at "exec For Name List cons nil") => `(tactic| walk_at "ITER")
local macro_rules | `(tactic| walk_at "exec For Name Call cons nil") => `(tactic| walk_at "ITER")
local macro_rules | `(tactic| walk_at "exec For Name Name cons nil") => `(tactic| walk_at "ITER")
local macro_rules | `(tactic| walk_at "subscriptTail Attribute Name Constant ref int") => `(tactic| (k_here; (with_reducible show wpAny _ _ (subscriptTail _ _ (Value.ref _) (Value.int _ _)) _ _ _); k_dflt (refine' item_tupLed (n := _) ?N ?hm ?lo ?hi ?hj ?hx ?_ ?hs; (case N => k_asm); (case hm => k_mem); (case lo => decide); (case hi => decide); (case hj => exact rfl); (case hx => exact rfl); (case hs => with_unfolding_all rfl); k_whole)))
local macro_rules | `(tactic| walk_at "subscriptTail Name UnaryOp ref int") => `(tactic| (k_here; (with_reducible show wpAny _ _ (subscriptTail _ _ (Value.ref _) (Value.int _ _)) _ _ _); k_dflt (refine' item_lastI (n := _) ?N ?hm ?hi ?hk ?hne ?_ ?hs; (case N => k_asm); (case hm => k_mem); (case hi => assumption); (case hk => rfl); (case hne => assumption); (case hs => with_unfolding_all rfl); k_whole); intro _))
local macro_rules | `(tactic| walk_at "call type:list") => `(tactic| (k_here; (with_reducible show wpAny _ _ (call (Value.type _) [Value.ref _]) _ _ _); k_dflt (refine' list_of_tup (n := _) ?F ?N ?hm ?hz ?_; (case F => k_asm); (case N => k_asm); (case hm => k_mem); (case hz => ((have hq9 := IntsAre.length (by assumption)); omega)); k_whole); intro D' e' h' F' N' l1; (try k_lt l1); (try k_sweep)))
local macro_rules | `(tactic| walk_at "LB") => `(tactic| first | assumption | (with_reducible refine' app_len ?x9 ?y9; (case x9 => walk_at "LB"); (case y9 => walk_at "LB")) | exact (tab_len (B := 64) (by decide)) | (refine (?_ : _ ≤ 64); exact Nat.le_of_ble_eq_true rfl))
local macro_rules | `(tactic| walk_at "LEN") => `(tactic| first | omega | decide | exact Nat.le_trans (tab_len (B := 64) (by decide)) (by decide) | ((refine' len_le ?p9 ?q9); (case p9 => walk_at "LB"); (case q9 => first | decide | omega)))
local macro_rules | `(tactic| walk_at "binaryOp Add str str") => `(tactic| (k_here; (with_reducible show wpAny _ _ (binaryOp Operator.Add (Value.str _ _) (Value.str _ _)) _ _ _); (refine add_str ?_ (add_fits ?h1 ?h2)); (case h1 => walk_at "LEN"); (case h2 => walk_at "LEN"); intro _ _))
local macro_rules | `(tactic| walk_at "call type:tuple") => `(tactic| (k_here; (with_reducible show wpAny _ _ (call (Value.type _) [Value.ref _]) _ _ _); k_dflt (refine' tuple_led ?k1 ?k2 ?k3 ?k4 ?_; (case k1 => k_asm); (case k2 => k_asm); (case k3 => k_mem); (case k4 => first | (refine' Nat.le_trans (Nat.le_of_eq (IntsAre.length ?hi9)) ?lq9; (case hi9 => assumption); (case lq9 => ((try simp only [List.length_set, List.length_append, List.length_cons, List.length_nil, List.length_map, List.length_range]); omega))) | ((simp only [List.length_cons, List.length_nil, List.length_set]); omega)); k_whole); intro D' h' F' N' l1; (try k_lt l1); (try k_sweep)))
local macro_rules | `(tactic| walk_at "eval ListComp") => `(tactic| (k_here; k_dflt (refine LCg.ListComp_U (F₀ := by k_asm) (by with_unfolding_all rfl) (by decide) (by rfl) (by decide) (by rfl) ?_)))
local macro_rules | `(tactic| walk_at "exec Assign cons ListComp") => `(tactic| (k_here; k_dflt (refine LCg.Assign_ListComp_U (F₀ := by k_asm) (by rfl) (by with_unfolding_all rfl) (by with_unfolding_all rfl) (by decide) (by rfl) (by decide) (by rfl) (by rfl) (by rfl) ?_)))
local macro_rules | `(tactic| walk_at "call builtin:str.split") => `(tactic| (k_here; (with_reducible show wpAny _ _ (call (Value.builtin "str.split") [Value.str _ _, Value.str _ _]) _ _ _); k_dflt (refine' KSpl.split1 ?kF ?kN ?ky ?_ ?ks; (case kF => k_asm); (case kN => k_asm); (case ky => decide); (case ks => (rw [PySem.sizeLine_eq]; (first | omega | (refine Nat.le_trans (Nat.add_le_add_right (PySem.Txt.slice_le _ _ _) 2) ?_; omega)))); k_whole); intro D' l' h' k' e' a' F' N' l1; (try k_lt l1); (try k_sweep)))
local macro_rules | `(tactic| walk_at "INTS") => `(tactic| first | assumption | exact IntsAre.nil | (refine' IntsAre.cons _ _ ?i9; walk_at "INTS"))
local macro_rules | `(tactic| walk_at "ILEN") => `(tactic| ((try simp only [List.length_append, List.length_cons, List.length_nil, List.length_map, List.length_range, List.length_set, List.length_replicate]); omega))
local macro_rules | `(tactic| walk_at "binaryOp Add ref ref") => `(tactic| (k_here; (with_reducible show wpAny _ _ (binaryOp Operator.Add (Value.ref _) (Value.ref _)) _ _ _); k_dflt (refine' addI_led ?F ?N ?a ?b ?i ?j ?z ?_; (case F => k_asm); (case N => k_asm); (case a => k_mem); (case b => k_mem); (case i => walk_at "INTS"); (case j => walk_at "INTS"); (case z => walk_at "ILEN"); k_whole); intro D' h' F' N' l1 hI'; (try k_lt l1); (try k_sweep)))
local macro_rules | `(tactic| walk_at "call builtin:max") => `(tactic| (k_here; (with_reducible show wpAny _ _ (call (Value.builtin "max") [Value.ref _]) _ _ _); k_dflt (refine' maxI_led ?hh ?F ?N ?a ?i ?z ?_; (case hh => exact rfl); (case F => k_asm); (case N => k_asm); (case a => k_mem); (case i => walk_at "INTS"); (case z => simp); k_whole); intro h' M' t' tk' F' N' hM' hU'; (try k_sweep)))
local macro_rules | `(tactic| walk_at "call builtin:list.count") => `(tactic| (k_here; (with_reducible show wpAny _ _ (call (Value.builtin "list.count") [Value.ref _, Value.int _ _]) _ _ _); k_dflt (refine' countI_led ?N ?a ?i ?_; (case N => k_asm); (case a => k_mem); (case i => walk_at "INTS"); k_whole); intro _ _))
local macro_rules | `(tactic| walk_at "binaryOp Mult str int") => `(tactic| (k_here; (with_reducible show wpAny _ _ (binaryOp Operator.Mult (Value.str _ _) (Value.int _ _)) _ _ _); k_dflt (refine' mul_led ?h1 ?h2 ?h3 ?_; (case h1 => first | decide | omega | ((refine' len_le ?p9 ?q9); (case p9 => walk_at "LB"); (case q9 => first | decide | omega))); (case h2 => ((try k_fmods); omega)); (case h3 => ((try k_fmods); omega)); k_whole); intro _ _))
local macro_rules | `(tactic| walk_at "call builtin:str.join") => `(tactic| (k_here; (with_reducible show wpAny _ _ (call (Value.builtin "str.join") [Value.str _ _, Value.ref _]) _ _ _); k_dflt (refine' join_led ?N ?a ?i ?z ?_; (case N => k_asm); (case a => k_mem); (case i => assumption); (case z => assumption); k_whole); intro _ _))
local macro_rules | `(tactic| walk_at "IDX") => `(tactic| first | omega | ((simp only [List.length_append, List.length_cons, List.length_nil, List.length_map, List.length_range, List.length_set, List.length_replicate]); omega))
local macro_rules | `(tactic| walk_at "SUBI") => `(tactic| (k_here; (with_reducible show wpAny _ _ (subscriptTail _ _ (Value.ref _) (Value.int _ _)) _ _ _); k_dflt (refine' ksa_sub ?k1 ?k2 ?k3 ?k4 ?k5 ?k6 ?_ ?k7; (case k1 => k_asm); (case k2 => k_mem); (case k3 => with_reducible assumption); (case k4 => walk_at "IDX"); (case k5 => walk_at "IDX"); (case k6 => walk_at "IDX"); (case k7 => with_unfolding_all rfl); k_whole); intro _))
local macro_rules | `(tactic| walk_at "subscriptTail Name Name ref int") => `(tactic| walk_at "SUBI")
local macro_rules | `(tactic| walk_at "subscriptTail Name BinOp ref int") => `(tactic| walk_at "SUBI")
local macro_rules | `(tactic| walk_at "getItem ref int") => `(tactic| (k_here; (with_reducible show wpAny _ _ (getItem (Value.ref _) (Value.int _ _)) _ _ _); k_dflt (refine' ksa_get ?k1 ?k2 ?k3 ?k4 ?k5 ?k6 ?_; (case k1 => k_asm); (case k2 => k_mem); (case k3 => with_reducible assumption); (case k4 => walk_at "IDX"); (case k5 => walk_at "IDX"); (case k6 => walk_at "IDX"); k_whole); intro _))
local macro_rules | `(tactic| walk_at "setItem ref int") => `(tactic| (k_here; (with_reducible show wpAny _ _ (setItem (Value.ref _) (Value.int _ _) (Value.int _ _)) _ _ _); k_dflt (refine' ksa_set ?k1 ?k2 ?k3 ?k4 ?k5 ?k6 ?k7 ?_; (case k1 => k_asm); (case k2 => k_asm); (case k3 => k_upd); (case k4 => with_reducible assumption); (case k5 => walk_at "IDX"); (case k6 => walk_at "IDX"); (case k7 => walk_at "IDX"); k_whole); intro h' F' N' hi' hl' hs'; clear hs'; (try k_sweep)))
local macro_rules | `(tactic| walk_at "DATE") => `(tactic| first | (with_reducible exact DatIn.int _ _) | exact datInt (by assumption) | exact datInt (by decide) | (refine' DatIn.tuple ?m9 ?r9; (case m9 => k_mem); (case r9 => walk_at "DATES")))
local macro_rules | `(tactic| walk_at "DATES") => `(tactic| first | exact DatAll.nil | exact datInts (by assumption) (by assumption) | exact datAll_ints (by assumption) | (refine' DatAll.cons ?x9 ?y9; (case x9 => walk_at "DATE"); (case y9 => walk_at "DATES")))
local macro_rules | `(tactic| walk_at "subscriptTail Name Slice ref ref") => `(tactic| (k_here; (with_reducible show wpAny _ _ (subscriptTail _ _ (Value.ref _) (Value.ref _)) _ _ _); k_dflt (refine' slice_ledI ?F ?N ?hm ?hi ?pl ?pu ?pk ?h0 ?hz ?_ ?hs ?ht; (case F => k_asm); (case N => k_asm); (case hm => k_mem); (case hi => assumption); (case pl => first | exact IsPart.none | exact IsPart.int _ _); (case pu => first | exact IsPart.none | exact IsPart.int _ _); (case pk => first | exact IsPart.none | exact IsPart.int _ _); (case h0 => simp); (case hz => walk_at "ILEN"); (case hs => with_unfolding_all rfl); (case ht => (intro _; with_unfolding_all rfl)); k_whole); intro D' us' h' F' N' l1 hI'; (try k_lt l1); (try k_sweep); (first | rw [pickL_to _ (by omega)] at hI' | rw [pickL_from _ (by omega)] at hI' | rw [pickL_rev] at hI' | rw [pickL_odds] at hI' | rw [pickL_evens] at hI' | skip)))
def up (n : Nat) : List Int := (List.range n).map fun (i : Nat) => ((i : Int) + 1)
theorem up_succ (n : Nat) : up (n + 1) = up n ++ [((n + 1 : Nat) : Int)] := by simp [up, List.range_succ]
theorem dict_line {o : Obj} {a b c d : Value} (h : DictObj o (fun y => if y = Str.ofString "line" then some d else nagMap a b c y)) : DictObj o (nagMap a b d) := by
  have e : (fun y => if y = Str.ofString "line" then some d else nagMap a b c y) = nagMap a b d := by
    funext y
    unfold nagMap
    by_cases h : y = Str.ofString "line" <;> simp [h]
  rwa [e] at h
local macro_rules | `(tactic| walk_at "GO6") => `(tactic| repeat' ((fail_if_success (with_reducible show wpAny _ _ (exec (Stmt.Try _ _ _ _ _) _) _ _ _)); (fail_if_success (with_reducible show wpAny _ _ (exec (Stmt.Raise _ _ _) _) _ _ _)); (fail_if_success (with_reducible show wpAny _ _ (leaving _ _) _ _ _)); first | (k_unfold; (try dsimp only)) | (k_end; wrow_close) | walk1 | (dsimp only; walk1) | (leave1; walk_say "STEP leave1"; try dsimp only) | fail "no step"))
def H6 (w : World) (mean : ExcName → Option Value) (mg mb : Str → Option Value) (n : Nat) : Prop :=
  ∀ (dp un : Nat) (gd : Option (List Code)) (cn : Str) (cs : Scope) (a : Addr) (ccd : Value) (cl : List (Str × Addr)) (outer : List Env) (A₀ : Around) (base h₀ : Heap) (L : Addr) (m : Str → Option Value) (s : Shared)
    (x dx l : Nat) (ox od : Obj) (vs0 : Array Value) (v1 v2 : Value) (ls : List Value) (ns : List Int) (c : Nat) (tn : Tok) (Q E : Value → Shared → Prop),
    Below A₀ base outer h₀ → (hd06.heap_39 w.params).In base → Top hd06.view_39 (looseW hd06.view_39 []) mean mg mb base → Fr h₀ L s.heap m → (hd06.heap_39 w.params).In h₀ → Top hd06.view_39 (looseW hd06.view_39 []) mean mg mb h₀ →
    News h₀ L s.heap [(x, ox), (dx, od), (l, W.listOf ls.toArray c)] → IsNag 59 dx ox → ox.data = .fields vs0 → vs0[1]? = some .none → DictObj od (nagMap v1 v2 (.ref l)) → IntsAre ls ns → ns.length ≤ 100 → x ≠ dx → x ≠ l → dx ≠ l →
    cs.kind = .function → dp + 20 * n + 20 < recursionLimit → un + 20 * n + 80 < cLine → n ≤ 8 →
    (∀ (l' : Nat) (od' : Obj) (ls' : List Value) (c' : Nat) (h' : Heap) (tk' : Nat), Aloft s.heap [x, dx, l] (envX cn cs L a ccd cl :: outer) 59 x dx .none [(dx, od'), (l', W.listOf ls'.toArray c')] h' → DictObj od' (nagMap v1 v2 (.ref l')) → IntsAre ls' (ns ++ up n) →
      (∀ b o, s.heap.get? b = some o → b ∉ [x, dx, l] → b ≠ l') → l' ≠ x → l' ≠ dx → E (.ref x) { s with heap := h', toks := tk' }) →
    wpAny (model Challenge.rw_dn0186_06.row.prog w) (ktrTop dp un gd cn cs L a ccd cl outer) (call (.ref 69) [.ref x, .int (n : Int) tn]) Q E s
theorem fall0 (w : World) (mean : ExcName → Option Value) (mg mb : Str → Option Value) : H6 w mean mg mb 0 := by
  unfold H6
  revert w mean mg mb
  intro w mean mg mb
  k_fill
  intro dp un gd cn cs a ccd cl outer A₀ base h₀ L m s x dx l ox od vs0 v1 v2 ls ns c tn Q E B XB TB F X T N hp hdat h1 hD hI hz nxd nxl ndl hk hd hu hn8 hret
  obtain ⟨nm, q, bs, sn, sub, ab, col, dd, k0, k1, k2, k3, k5, hC⟩ := (nk06 w.params).obj
  have hd : dp + 20 < recursionLimit := by omega
  have hu : un + 80 < cLine := by omega
  refine wpAny_call ?_
  k_dflt (refine' code_defH ?k1 ?k2 ?k3 ?k4 ?k5 ?kA ?kF ?kK ?k6 ?k7 ?k8 ?k9 ?kB ?_ ?c2 ?c3 ?c4 ?c5; (case kA => exact rfl); (case kF => exact rfl); (case kK => assumption); (case k1 => k_asm); (case k2 => k_asm); (case k3 => k_asm); (case k4 => k_asm); (case k5 => k_asm); (case k6 => k_is); (case k7 => k_is); (case k8 => ktr_room); (case k9 => exact BindsTo.of_eq rfl); (case c5 => decide); (case kB => exact locs rfl); (case c2 => exact rfl); (case c3 => exact rfl); (case c4 => exact rfl); k_whole)
  intro g L' hh1 stG hszL FG' F' N' B' X' T'
  (try dsimp only)
  (try k_fold)
  w_on
  walk_at "GO6"
  refine Raise_inst (C := 59) (nm := nm) (q := q) (N := 58) (bs := bs) (hdct := true) (sn := sn) (sub := sub) (ab := ab) (col := col) (dd := dd) (k0 := k0) (k1 := k1) (k2 := k2) (k3 := k3) (k5 := k5) (newId := "Exception.__new__") rfl ?_
  walk_at "GO6"
  · exact (X'.keeps F'.keep) _ _ hC
  · exact ⟨ox, vs0, N'.get (.head _), hp.1, hdat, h1⟩
  change wpAny _ _ (leaving _ _) _ _ _
  refine leaveP_first (own := [(dx, od), (l, W.listOf ls.toArray c)]) rfl rfl rfl B' F' N' (fun b o e hb => stG b o e hb) (.head _) hp hdat h1 (List.forall_mem_cons.mpr ⟨⟨.tail _ (.head _), Ne.symm nxd⟩, List.forall_mem_cons.mpr ⟨⟨.tail _ (.tail _ (.head _)), Ne.symm nxl⟩, List.forall_mem_nil _⟩⟩) fun h' al => ?_
  exact hret l od ls c h' _ al hD (by simpa [up] using hI) (fun b o _ hb e => hb (by rw [e]; exact .tail _ (.tail _ (.head _)))) (Ne.symm nxl) (Ne.symm ndl)
theorem fall_use {w : World} {mean : ExcName → Option Value} {mg mb : Str → Option Value} {n : Nat} (H : H6 w mean mg mb n)
    {dp un : Nat} {gd : Option (List Code)} {cn : Str} {cs : Scope} {a : Addr} {ccd : Value} {cl : List (Str × Addr)} {outer : List Env} {A₀ : Around} {base h₀ : Heap} {L : Addr} {m : Str → Option Value} {s : Shared}
    {x dx l : Nat} {ox od : Obj} {vs0 : Array Value} {v1 v2 : Value} {ls : List Value} {ns : List Int} {c : Nat} {i : Int} {tn : Tok} {Q E : Value → Shared → Prop} (hi : i = (n : Int))
    (B : Below A₀ base outer h₀) (XB : (hd06.heap_39 w.params).In base) (TB : Top hd06.view_39 (looseW hd06.view_39 []) mean mg mb base) (F : Fr h₀ L s.heap m) (X : (hd06.heap_39 w.params).In h₀) (T : Top hd06.view_39 (looseW hd06.view_39 []) mean mg mb h₀)
    (N : News h₀ L s.heap [(x, ox), (dx, od), (l, W.listOf ls.toArray c)]) (hp : IsNag 59 dx ox) (hdat : ox.data = .fields vs0) (h1 : vs0[1]? = some .none) (hD : DictObj od (nagMap v1 v2 (.ref l))) (hI : IntsAre ls ns) (hz : ns.length ≤ 100) (nxd : x ≠ dx) (nxl : x ≠ l) (ndl : dx ≠ l)
    (hk : cs.kind = .function) (hd : dp + 20 * n + 20 < recursionLimit) (hu : un + 20 * n + 80 < cLine) (hn8 : n ≤ 8)
    (h : ∀ (l' : Nat) (od' : Obj) (ls' : List Value) (c' : Nat) (h' : Heap) (tk' : Nat), Aloft s.heap [x, dx, l] (envX cn cs L a ccd cl :: outer) 59 x dx .none [(dx, od'), (l', W.listOf ls'.toArray c')] h' → DictObj od' (nagMap v1 v2 (.ref l')) → IntsAre ls' (ns ++ up n) →
      (∀ b o, s.heap.get? b = some o → b ∉ [x, dx, l] → b ≠ l') → l' ≠ x → l' ≠ dx → E (.ref x) { s with heap := h', toks := tk' }) :
    wpAny (model Challenge.rw_dn0186_06.row.prog w) (ktrTop dp un gd cn cs L a ccd cl outer) (call (.ref 69) [.ref x, .int i tn]) Q E s := by
  subst hi
  exact H dp un gd cn cs a ccd cl outer A₀ base h₀ L m s x dx l ox od vs0 v1 v2 ls ns c tn Q E B XB TB F X T N hp hdat h1 hD hI hz nxd nxl ndl hk hd hu hn8 h
theorem k06_ga (P : Params) : findIn (hd06.heap_39 P) (.ref 59) "__getattribute__" = some (some (.builtin "BaseException.__getattribute__")) := by kernel_rfl
theorem k06_gn (P : Params) : findIn (hd06.heap_39 P) (.ref 59) "__getattr__" = some none := by kernel_rfl
theorem k06_sub (P : Params) : subIn (hd06.heap_39 P) (.ref 59) (.type "BaseException") = some true := by kernel_rfl
theorem k06_line (P : Params) : findIn (hd06.heap_39 P) (.ref 59) (Str.ofString "line") = some none := by kernel_rfl
theorem k06_msg (P : Params) : findIn (hd06.heap_39 P) (.ref 59) (Str.ofString "msg") = some none := by kernel_rfl
theorem k06_lineno (P : Params) : findIn (hd06.heap_39 P) (.ref 59) (Str.ofString "lineno") = some none := by kernel_rfl
theorem k06_hd (P : Params) : hasDictIn (hd06.heap_39 P) 59 = true := by kernel_rfl
local macro_rules | `(tactic| walk_at "GO7") => `(tactic| repeat' ((fail_if_success (with_reducible show wpAny _ _ (exec (Stmt.Try _ _ _ _ _) _) _ _ _)); (fail_if_success (with_reducible show wpAny _ _ (exec (Stmt.Raise _ _ _) _) _ _ _)); (fail_if_success (with_reducible show wpAny _ _ (leaving _ _) _ _ _)); (fail_if_success (with_reducible show wpAny _ _ (call (Value.ref 69) _) _ _ _)); first | (k_unfold; (try dsimp only)) | (k_end; wrow_close) | walk1 | (dsimp only; walk1) | (leave1; walk_say "STEP leave1"; try dsimp only) | fail "no step"))
local macro_rules | `(tactic| walk_at "WITHIN") => `(tactic| first | exact within_one | exact within_more within_one | exact within_more (within_more within_one) | assumption)
local macro_rules | `(tactic| walk_at "getAttr ref") => `(tactic| (k_here; (with_reducible show wpAny _ _ (getAttr (Value.ref _) _ _) _ _ _); k_dflt (refine' getE_led ?F ?X ?N (k06_ga _) (k06_gn _) (k06_sub _) ?hna (k06_hd _) ?hm ?hmd ?hc ?hd ?hdx ?hD ?hv ?hh ?_; (case F => k_asm); (case X => k_asm); (case N => k_asm); (case hna => first | exact k06_line _ | exact k06_msg _ | exact k06_lineno _); (case hm => k_mem); (case hc => assumption); (case hd => assumption); (case hdx => assumption); (case hmd => k_mem); (case hD => assumption); (case hv => rfl); (case hh => rfl); k_whole)))
local macro_rules | `(tactic| walk_at "setAttr ref") => `(tactic| (k_here; (with_reducible show wpAny _ _ (setAttr (Value.ref _) _ _) _ _ _); k_dflt (refine' setE_more ?F ?X ?N (nk06 _) ?hn ?hB ?hm ?hc ?hd ?hdx ?hne ?hD ?hw ?hsz ?U ?_; (case F => k_asm); (case X => k_asm); (case N => k_asm); (case hn => first | exact ns_lineno _ | exact ns_msg _ | exact ns_line _); (case hB => first | exact tl_lineno | exact tl_msg | exact tl_line); (case hm => k_mem); (case hc => assumption); (case hd => assumption); (case hdx => assumption); (case hne => k_ne); (case U => (intro od'; k_upd)); (case hD => assumption); (case hw => walk_at "WITHIN"); (case hsz => exact Nat.le_of_ble_eq_true rfl); k_whole); intro od' h' tk' F' N' hD'; (try k_sweep)))
theorem fallS (w : World) (mean : ExcName → Option Value) (mg mb : Str → Option Value) (n : Nat) (IH : H6 w mean mg mb n) : H6 w mean mg mb (n + 1) := by
  unfold H6
  revert w mean mg mb
  intro w mean mg mb IH
  k_fill
  intro dp un gd cn cs a ccd cl outer A₀ base h₀ L m s x dx l ox od vs0 v1 v2 ls ns c tn Q E B XB TB F X T N hp hdat h1 hD hI hz nxd nxl ndl hk hd hu hn8 hret
  obtain ⟨nm, q, bs, sn, sub, ab, col, dd, k0, k1, k2, k3, k5, hC⟩ := (nk06 w.params).obj
  obtain ⟨i, hi⟩ : ∃ i : Int, i = ((n + 1 : Nat) : Int) := ⟨_, rfl⟩
  rw [← hi]
  have hi1 : 1 ≤ i := by omega
  have hi2 : i ≤ 8 := by omega
  have hd : dp + 20 * n + 40 < recursionLimit := by omega
  have hu : un + 20 * n + 100 < cLine := by omega
  refine wpAny_call ?_
  k_dflt (refine' code_defH ?k1 ?k2 ?k3 ?k4 ?k5 ?kA ?kF ?kK ?k6 ?k7 ?k8 ?k9 ?kB ?_ ?c2 ?c3 ?c4 ?c5; (case kA => exact rfl); (case kF => exact rfl); (case kK => assumption); (case k1 => k_asm); (case k2 => k_asm); (case k3 => k_asm); (case k4 => k_asm); (case k5 => k_asm); (case k6 => k_is); (case k7 => k_is); (case k8 => ktr_room); (case k9 => exact BindsTo.of_eq rfl); (case c5 => decide); (case kB => exact locs rfl); (case c2 => exact rfl); (case c3 => exact rfl); (case c4 => exact rfl); k_whole)
  intro g L' hh1 stG hszL FG' F' N' B' X' T'
  (try dsimp only)
  (try k_fold)
  w_on
  walk_at "GO7"
  all_goals (try (exfalso; omega))
  refine wpAny_Try_except ?_
  walk_at "GO7"
  k_dflt (refine' fall_use IH ?hi ?B ?XB ?TB ?F ?X ?T ?N hp hdat h1 hD hI hz nxd nxl ndl ?hk ?hd ?hu ?hn8 ?_; (case B => k_asm); (case F => k_asm); (case X => k_asm); (case N => k_asm); (case T => k_asm); (case XB => exact XB); (case TB => exact TB); (case hi => omega); (case hk => exact rfl); (case hd => ktr_room); (case hu => ktr_units); (case hn8 => omega); k_whole)
  intro l1 od1 ls1 c1 h1' tk1 al hD1 hI1 hnew1 n1 n2
  (try dsimp only)
  have hup : (up n).length = n := by simp [up]
  refine catch_as (C := 59) (rest := []) rfl rfl rfl rfl rfl (nk06 _) B' XB TB F' N' ?hxs (.head _) al (fun p hp => absurd hp (List.not_mem_nil)) ?hown ?hev ?_
  case hxs =>
    intro y hy
    rcases List.mem_cons.mp hy with rfl | hy
    · exact ⟨(N' _ (.head _)).2.2, (N' _ (.head _)).2.1⟩
    rcases List.mem_cons.mp hy with rfl | hy
    · exact ⟨(N' _ (.tail _ (.head _))).2.2, (N' _ (.tail _ (.head _))).2.1⟩
    · rw [List.mem_singleton.mp hy]
      exact ⟨(N' _ (.tail _ (.tail _ (.head _)))).2.2, (N' _ (.tail _ (.tail _ (.head _)))).2.1⟩
  case hown =>
    intro p hp b o e hb
    rcases List.mem_cons.mp hp with rfl | hp
    · exact fun q => hb (by rw [q]; exact .tail _ (.head _))
    · rw [List.mem_singleton.mp hp]
      exact hnew1 b o e hb
  case hev =>
    intro E' s5 g5 F5 X5 T5
    walk_at "GO7"
  intro h6 tk6 g' T9 ox6 oT6 vs6 ts6 KT _ F6 N6 hp6 hd6 h16 hTx hdT h36 hne B6 X6 T6
  clear F' N' al T'
  obtain ⟨hc6, hdx6, _⟩ := id hp6
  have hne1 := hne _ (.head _)
  have hne2 := hne _ (.tail _ (.head _))
  have e1 := neN hne1.1
  have e2 := neN hne1.2
  have e3 := neN hne2.1
  have e4 := neN hne2.2
  have e5 : T9 ≠ x := hTx
  have e6 := n2
  simp only at e1 e2 e3 e4
  have N6 : News g' L' h6 [(x, ox6), (T9, oT6), (dx, od1), (l1, W.listOf ls1.toArray c1)] := N6
  clear hne hne1 hne2
  (try dsimp only)
  (try k_fold)
  walk_at "GO7"
  rename_i l2 hz1 q1 D9 ws9 hz2 hI9 q2 od9 hz3 tkz F9 N9 hD9
  have hD9' : DictObj od9 (nagMap v1 v2 (.ref D9)) := dict_line hD9
  have q3 : D9 ≠ x := Ne.symm (Nat.ne_of_lt q2.2.1)
  have q4 : D9 ≠ T9 := Ne.symm (Nat.ne_of_lt q2.2.2.1)
  have q5 : D9 ≠ dx := Ne.symm (Nat.ne_of_lt q2.2.2.2.1)
  refine raise_out (A₁ := (ktrTop dp un gd cn cs L a ccd cl outer).deeper _) (G₀ := s.heap) (g₀ := g) (xs := [x, dx, l]) (dx := dx) (C := 59) (own := [(dx, od9), (D9, W.listOf ws9.toArray _)]) rfl rfl rfl rfl rfl B6 F9 N9 (fun b o e hb => stG b o e hb) KT (.tail _ (.tail _ (.head _))) hp6 hd6 h16 (.tail _ (.tail _ (.tail _ (.head _)))) hTx hdT h36 (List.forall_mem_cons.mpr ⟨⟨.tail _ (.tail _ (.tail _ (.tail _ (.head _)))), e2, e1⟩, List.forall_mem_cons.mpr ⟨⟨.head _, q3, q4⟩, List.forall_mem_nil _⟩⟩) fun h8 tk8 lv => ?_
  change wpAny _ _ (leaving _ _) _ _ _
  refine lv fun h9 al9 => ?_
  refine hret D9 od9 ws9 _ h9 tk8 al9 hD9' (by rw [up_succ, ← hi, ← List.append_assoc]; exact hI9) (fun b o e hb z => ?_) q3 q5
  obtain ⟨sl, e7⟩ := KT.up (stG b o e hb)
  have e8 := (N9 _ (.head _)).2.2
  rw [z] at e7
  exact absurd (e7.symm.trans e8) (by simp)
theorem fall06 (w : World) (mean : ExcName → Option Value) (mg mb : Str → Option Value) : ∀ n, H6 w mean mg mb n
  | 0 => fall0 w mean mg mb
  | n + 1 => fallS w mean mg mb n (fall06 w mean mg mb n)

end

section
open PySem PySem.W PyProof.Rows PySem.Calls PySem.Spec

structure Nag where
  x : Nat
  dx : Nat
  l : Nat
  ox : Obj
  od : Obj
  ls : List Value
  c : Nat
  v1 : Value
  v2 : Value
abbrev Nag.ent (n : Nag) : List (Addr × Obj) := [(n.x, n.ox), (n.dx, n.od), (n.l, W.listOf n.ls.toArray n.c)]
abbrev Nag.adr (n : Nag) : List Nat := [n.x, n.dx, n.l]
def ents (c : List Nag) : List (Addr × Obj) := c.flatMap Nag.ent
structure NagOk (num : Int) (line : List Int) (fresh : Prop) (n : Nag) : Prop where
  nag : IsNag 59 n.dx n.ox
  rdy : fresh → ∃ vs, n.ox.data = .fields vs ∧ vs[1]? = some .none
  dict : DictObj n.od (nagMap n.v1 n.v2 (.ref n.l))
  lst : IntsAre n.ls line
  a1 : ∃ t, n.v1 = .int num t
  a2 : ∃ t, n.v2 = .str (Txt.mul (Str.ofString "word") (num.fmod 3)) t
  d1 : n.x ≠ n.dx
  d2 : n.x ≠ n.l
  d3 : n.dx ≠ n.l
structure Far (base : List (Addr × Obj)) (c : List Nag) : Prop where
  out : ∀ (j : Nat) n, c[j]? = some n → ∀ p ∈ base, (p.1 : Nat) ∉ n.adr
  apart : ∀ (j k : Nat) n n', c[j]? = some n → c[k]? = some n' → j ≠ k → ∀ a ∈ n.adr, a ∉ n'.adr
theorem ent_mem {n : Nag} {c : List Nag} {j : Nat} (h : c[j]? = some n) : ∀ p ∈ n.ent, p ∈ ents c := fun p hp => List.mem_flatMap.mpr ⟨n, List.mem_of_getElem? h, hp⟩
theorem ents_mem {c : List Nag} {p : Addr × Obj} (h : p ∈ ents c) : ∃ (j : Nat) (n : Nag), c[j]? = some n ∧ p ∈ n.ent := by
  obtain ⟨n, hn, hp⟩ := List.mem_flatMap.mp h
  obtain ⟨j, hj⟩ := List.getElem?_of_mem hn
  exact ⟨j, n, hj, hp⟩
theorem ent_adr {n : Nag} {p : Addr × Obj} (h : p ∈ n.ent) : (p.1 : Nat) ∈ n.adr := by
  simp only [Nag.ent, List.mem_cons, List.not_mem_nil, or_false] at h
  rcases h with rfl | rfl | rfl <;> simp [Nag.adr]
theorem adr_ent {n : Nag} {a : Nat} (h : a ∈ n.adr) : ∃ p ∈ n.ent, (p.1 : Nat) = a := by
  simp only [Nag.adr, List.mem_cons, List.not_mem_nil, or_false] at h
  rcases h with rfl | rfl | rfl
  · exact ⟨_, .head _, rfl⟩
  · exact ⟨_, .tail _ (.head _), rfl⟩
  · exact ⟨_, .tail _ (.tail _ (.head _)), rfl⟩
theorem far_nil {base : List (Addr × Obj)} : Far base [] := ⟨fun _ _ h => by simp at h, fun _ _ _ _ h => by simp at h⟩
theorem getElem?_snoc {α : Type} {l : List α} {x y : α} {j : Nat} (h : (l ++ [x])[j]? = some y) : (l[j]? = some y ∧ j < l.length) ∨ (j = l.length ∧ y = x) := by
  by_cases hj : j < l.length
  · rw [List.getElem?_append_left hj] at h
    exact .inl ⟨h, hj⟩
  · rw [List.getElem?_append_right (by omega)] at h
    have h0 : j - l.length = 0 := by
      rcases Nat.eq_zero_or_pos (j - l.length) with h0 | h0
      · exact h0
      · rw [List.getElem?_eq_none (by simp; omega)] at h; cases h
    rw [h0] at h
    exact .inr ⟨by omega, (Option.some.inj h).symm⟩
theorem far_snoc {base : List (Addr × Obj)} {c : List Nag} {n : Nag} (F : Far base c) (h : ∀ p ∈ base ++ ents c, ∀ a ∈ n.adr, (p.1 : Nat) < a) : Far base (c ++ [n]) := by
  refine ⟨fun j m hj p hp hm => ?_, fun j k m m' hj hk hjk a ha ha' => ?_⟩
  · rcases getElem?_snoc hj with ⟨hj, _⟩ | ⟨_, rfl⟩
    · exact F.out j m hj p hp hm
    · exact absurd (h p (List.mem_append.mpr (.inl hp)) _ hm) (Nat.lt_irrefl _)
  · rcases getElem?_snoc hj with ⟨j2, hl⟩ | ⟨j2, rfl⟩ <;> rcases getElem?_snoc hk with ⟨k2, hl'⟩ | ⟨k2, rfl⟩
    · exact F.apart j k m m' j2 k2 hjk a ha ha'
    · obtain ⟨p, hp, e⟩ := adr_ent ha
      exact absurd (h p (List.mem_append.mpr (.inr (ent_mem j2 p hp))) a ha') (by rw [e]; exact Nat.lt_irrefl _)
    · obtain ⟨p, hp, e⟩ := adr_ent ha'
      exact absurd (h p (List.mem_append.mpr (.inr (ent_mem k2 p hp))) a ha) (by rw [e]; exact Nat.lt_irrefl _)
    · omega
theorem set_cases {c : List Nag} {i j : Nat} {n m : Nag} (h : (c.set i n)[j]? = some m) : (j = i ∧ m = n) ∨ (j ≠ i ∧ c[j]? = some m) := by
  by_cases e : i = j
  · subst e
    rw [List.getElem?_set_self'] at h
    cases q : c[i]? with
    | none => rw [q] at h; cases h
    | some z => rw [q] at h; exact .inl ⟨rfl, (Option.some.inj h).symm⟩
  · rw [List.getElem?_set_ne e] at h
    exact .inr ⟨fun q => e q.symm, h⟩
theorem far_set {base : List (Addr × Obj)} {c : List Nag} {i : Nat} {n n' : Nag} (F : Far base c) (hi : c[i]? = some n) (ex : n'.x = n.x) (ed : n'.dx = n.dx) (hb : ∀ p ∈ base, (p.1 : Nat) ≠ n'.l) (hl : ∀ (k : Nat) m, c[k]? = some m → k ≠ i → n'.l ∉ m.adr) : Far base (c.set i n') := by
  have old : ∀ a ∈ n'.adr, a = n'.l ∨ a ∈ n.adr := fun a ha => by
    simp only [Nag.adr, List.mem_cons, List.not_mem_nil, or_false] at ha ⊢
    rcases ha with rfl | rfl | rfl
    · exact .inr (.inl ex)
    · exact .inr (.inr (.inl ed))
    · exact .inl rfl
  refine ⟨fun j m hj p hp hm => ?_, fun j k m m' hj hk hjk a ha ha' => ?_⟩
  · rcases set_cases hj with ⟨rfl, rfl⟩ | ⟨_, hj⟩
    · rcases old _ hm with e | e
      · exact hb p hp e
      · exact F.out _ n hi p hp e
    · exact F.out j m hj p hp hm
  · rcases set_cases hj with ⟨ej, em⟩ | ⟨hji, j2⟩ <;> rcases set_cases hk with ⟨ek, em'⟩ | ⟨hki, k2⟩
    · exact hjk (ej.trans ek.symm)
    · rw [em] at ha
      rcases old _ ha with e | e
      · exact hl k m' k2 hki (e ▸ ha')
      · exact F.apart i k n m' hi k2 (Ne.symm hki) a e ha'
    · rw [em'] at ha'
      rcases old _ ha' with e | e
      · exact hl j m j2 hji (e ▸ ha)
      · exact F.apart j i m n j2 hi hji a ha e
    · exact F.apart j k m m' j2 k2 hjk a ha ha'
theorem ents_set {c : List Nag} {i : Nat} {n' : Nag} {p : Addr × Obj} (h : p ∈ ents (c.set i n')) : p ∈ n'.ent ∨ p ∈ ents (c.eraseIdx i) := by
  obtain ⟨j, m, hj, hp⟩ := ents_mem h
  rcases set_cases hj with ⟨rfl, rfl⟩ | ⟨hji, hj⟩
  · exact .inl hp
  · refine .inr (List.mem_flatMap.mpr ⟨m, ?_, hp⟩)
    exact List.mem_eraseIdx_iff_getElem?.mpr ⟨j, hji, hj⟩
theorem ents_erase {c : List Nag} {i : Nat} {p : Addr × Obj} (h : p ∈ ents (c.eraseIdx i)) : ∃ (j : Nat) (m : Nag), j ≠ i ∧ c[j]? = some m ∧ p ∈ m.ent := by
  obtain ⟨m, hm, hp⟩ := List.mem_flatMap.mp h
  obtain ⟨j, hji, hj⟩ := List.mem_eraseIdx_iff_getElem?.mp hm
  exact ⟨j, m, hji, hj, hp⟩

end

section
open PySem PySem.W PyProof.Rows


local macro_rules | `(tactic| walk_at "GO") => `(tactic| repeat' ((fail_if_success (with_reducible show wpAny _ _ (pyIter _) _ _ _)); (fail_if_success (with_reducible show wpAny _ _ (compareOp CmpOp.NotEq (Value.ref _) (Value.ref _)) _ _ _)); (fail_if_success (with_reducible show wpAny _ _ (compareOp CmpOp.Eq (Value.ref _) (Value.ref _)) _ _ _)); (fail_if_success (with_reducible show wpAny _ _ (exec (Stmt.While _ _ _ _) _) _ _ _)); (fail_if_success (with_reducible show LCg.CompSrc _ _ _ _ _ _ _ _ _ _ _ _ _ _)); first | (k_unfold; (try dsimp only)) | (k_end; wrow_close) | walk1 | (dsimp only; walk1) | (leave1; walk_say "STEP leave1"; try dsimp only) | fail "no step"))
local macro_rules | `(tactic| walk_at "DAT") => `(tactic| first | exact DatIn.int _ _ | exact DatIn.bool _ | exact DatIn.str _ _ | (refine' DatIn.tuple ?m9 ?r9; (case m9 => k_mem); (case r9 => walk_at "DATS")) | (refine' DatIn.list ?m9 ?r9; (case m9 => k_mem); (case r9 => walk_at "DATS")))
local macro_rules | `(tactic| walk_at "DATS") => `(tactic| first | exact DatAll.nil | exact datAll_ints (by assumption) | (refine' DatAll.cons ?x9 ?y9; (case x9 => walk_at "DAT"); (case y9 => walk_at "DATS")))
local macro_rules | `(tactic| walk_at "ITER") => `(tactic| (k_here; (rename Fr _ _ _ _ => lF'); (with_unfolding_all refine' For_invVF lF' ?k1 ?k2 ?_; (case k1 => exact rfl); (case k2 => exact rfl); k_whole)))
local macro_rules | `(tactic| walk_at "exec For Name Subscript cons nil") => `(tactic| walk_at "ITER")
local macro_rules | `(tactic| walk_at "exec For Name BinOp cons nil") => `(tactic| walk_at "ITER")
local macro_rules | `(tactic| walk_at "exec For Name List cons nil") => `(tactic| walk_at "ITER")
local macro_rules | `(tactic| walk_at "exec For Name Call cons nil") => `(tactic| walk_at "ITER")
local macro_rules | `(tactic| walk_at "exec For Name Name cons nil") => `(tactic| walk_at "ITER")
local macro_rules | `(tactic| walk_at "subscriptTail Attribute Name Constant ref int") => `(tactic| (k_here; (with_reducible show wpAny _ _ (subscriptTail _ _ (Value.ref _) (Value.int _ _)) _ _ _); k_dflt (refine' item_tupLed (n := _) ?N ?hm ?lo ?hi ?hj ?hx ?_ ?hs; (case N => k_asm); (case hm => k_mem); (case lo => decide); (case hi => decide); (case hj => exact rfl); (case hx => exact rfl); (case hs => with_unfolding_all rfl); k_whole)))
local macro_rules | `(tactic| walk_at "subscriptTail Name UnaryOp ref int") => `(tactic| (k_here; (with_reducible show wpAny _ _ (subscriptTail _ _ (Value.ref _) (Value.int _ _)) _ _ _); k_dflt (refine' item_lastI (n := _) ?N ?hm ?hi ?hk ?hne ?_ ?hs; (case N => k_asm); (case hm => k_mem); (case hi => assumption); (case hk => rfl); (case hne => assumption); (case hs => with_unfolding_all rfl); k_whole); intro _))
local macro_rules | `(tactic| walk_at "call type:list") => `(tactic| (k_here; (with_reducible show wpAny _ _ (call (Value.type _) [Value.ref _]) _ _ _); k_dflt (refine' list_of_tup (n := _) ?F ?N ?hm ?hz ?_; (case F => k_asm); (case N => k_asm); (case hm => k_mem); (case hz => ((have hq9 := IntsAre.length (by assumption)); omega)); k_whole); intro D' e' h' F' N' l1; (try k_lt l1); (try k_sweep)))
local macro_rules | `(tactic| walk_at "LB") => `(tactic| first | assumption | (with_reducible refine' app_len ?x9 ?y9; (case x9 => walk_at "LB"); (case y9 => walk_at "LB")) | exact (tab_len (B := 64) (by decide)) | (refine (?_ : _ ≤ 64); exact Nat.le_of_ble_eq_true rfl))
local macro_rules | `(tactic| walk_at "LEN") => `(tactic| first | omega | decide | exact Nat.le_trans (tab_len (B := 64) (by decide)) (by decide) | ((refine' len_le ?p9 ?q9); (case p9 => walk_at "LB"); (case q9 => first | decide | omega)))
local macro_rules | `(tactic| walk_at "binaryOp Add str str") => `(tactic| (k_here; (with_reducible show wpAny _ _ (binaryOp Operator.Add (Value.str _ _) (Value.str _ _)) _ _ _); (refine add_str ?_ (add_fits ?h1 ?h2)); (case h1 => walk_at "LEN"); (case h2 => walk_at "LEN"); intro _ _))
local macro_rules | `(tactic| walk_at "call type:tuple") => `(tactic| (k_here; (with_reducible show wpAny _ _ (call (Value.type _) [Value.ref _]) _ _ _); k_dflt (refine' tuple_led ?k1 ?k2 ?k3 ?k4 ?_; (case k1 => k_asm); (case k2 => k_asm); (case k3 => k_mem); (case k4 => first | (refine' Nat.le_trans (Nat.le_of_eq (IntsAre.length ?hi9)) ?lq9; (case hi9 => assumption); (case lq9 => ((try simp only [List.length_set, List.length_append, List.length_cons, List.length_nil, List.length_map, List.length_range]); omega))) | ((simp only [List.length_cons, List.length_nil, List.length_set]); omega)); k_whole); intro D' h' F' N' l1; (try k_lt l1); (try k_sweep)))
local macro_rules | `(tactic| walk_at "eval ListComp") => `(tactic| (k_here; k_dflt (refine LCg.ListComp_U (F₀ := by k_asm) (by with_unfolding_all rfl) (by decide) (by rfl) (by decide) (by rfl) ?_)))
local macro_rules | `(tactic| walk_at "exec Assign cons ListComp") => `(tactic| (k_here; k_dflt (refine LCg.Assign_ListComp_U (F₀ := by k_asm) (by rfl) (by with_unfolding_all rfl) (by with_unfolding_all rfl) (by decide) (by rfl) (by decide) (by rfl) (by rfl) (by rfl) ?_)))
local macro_rules | `(tactic| walk_at "call builtin:str.split") => `(tactic| (k_here; (with_reducible show wpAny _ _ (call (Value.builtin "str.split") [Value.str _ _, Value.str _ _]) _ _ _); k_dflt (refine' KSpl.split1 ?kF ?kN ?ky ?_ ?ks; (case kF => k_asm); (case kN => k_asm); (case ky => decide); (case ks => (rw [PySem.sizeLine_eq]; (first | omega | (refine Nat.le_trans (Nat.add_le_add_right (PySem.Txt.slice_le _ _ _) 2) ?_; omega)))); k_whole); intro D' l' h' k' e' a' F' N' l1; (try k_lt l1); (try k_sweep)))
local macro_rules | `(tactic| walk_at "INTS") => `(tactic| first | assumption | exact IntsAre.nil | (refine' IntsAre.cons _ _ ?i9; walk_at "INTS"))
local macro_rules | `(tactic| walk_at "ILEN") => `(tactic| ((try simp only [List.length_append, List.length_cons, List.length_nil, List.length_map, List.length_range, List.length_set, List.length_replicate]); omega))
local macro_rules | `(tactic| walk_at "binaryOp Add ref ref") => `(tactic| (k_here; (with_reducible show wpAny _ _ (binaryOp Operator.Add (Value.ref _) (Value.ref _)) _ _ _); k_dflt (refine' addI_led ?F ?N ?a ?b ?i ?j ?z ?_; (case F => k_asm); (case N => k_asm); (case a => k_mem); (case b => k_mem); (case i => walk_at "INTS"); (case j => walk_at "INTS"); (case z => walk_at "ILEN"); k_whole); intro D' h' F' N' l1 hI'; (try k_lt l1); (try k_sweep)))
local macro_rules | `(tactic| walk_at "call builtin:max") => `(tactic| (k_here; (with_reducible show wpAny _ _ (call (Value.builtin "max") [Value.ref _]) _ _ _); k_dflt (refine' maxI_led ?hh ?F ?N ?a ?i ?z ?_; (case hh => exact rfl); (case F => k_asm); (case N => k_asm); (case a => k_mem); (case i => walk_at "INTS"); (case z => simp); k_whole); intro h' M' t' tk' F' N' hM' hU'; (try k_sweep)))
local macro_rules | `(tactic| walk_at "call builtin:list.count") => `(tactic| (k_here; (with_reducible show wpAny _ _ (call (Value.builtin "list.count") [Value.ref _, Value.int _ _]) _ _ _); k_dflt (refine' countI_led ?N ?a ?i ?_; (case N => k_asm); (case a => k_mem); (case i => walk_at "INTS"); k_whole); intro _ _))
local macro_rules | `(tactic| walk_at "binaryOp Mult str int") => `(tactic| (k_here; (with_reducible show wpAny _ _ (binaryOp Operator.Mult (Value.str _ _) (Value.int _ _)) _ _ _); k_dflt (refine' mul_led ?h1 ?h2 ?h3 ?_; (case h1 => first | decide | omega | ((refine' len_le ?p9 ?q9); (case p9 => walk_at "LB"); (case q9 => first | decide | omega))); (case h2 => ((try k_fmods); omega)); (case h3 => ((try k_fmods); omega)); k_whole); intro _ _))
local macro_rules | `(tactic| walk_at "call builtin:str.join") => `(tactic| (k_here; (with_reducible show wpAny _ _ (call (Value.builtin "str.join") [Value.str _ _, Value.ref _]) _ _ _); k_dflt (refine' join_led ?N ?a ?i ?z ?_; (case N => k_asm); (case a => k_mem); (case i => assumption); (case z => assumption); k_whole); intro _ _))
local macro_rules | `(tactic| walk_at "IDX") => `(tactic| first | omega | ((simp only [List.length_append, List.length_cons, List.length_nil, List.length_map, List.length_range, List.length_set, List.length_replicate]); omega))
local macro_rules | `(tactic| walk_at "SUBI") => `(tactic| (k_here; (with_reducible show wpAny _ _ (subscriptTail _ _ (Value.ref _) (Value.int _ _)) _ _ _); k_dflt (refine' ksa_sub ?k1 ?k2 ?k3 ?k4 ?k5 ?k6 ?_ ?k7; (case k1 => k_asm); (case k2 => k_mem); (case k3 => with_reducible assumption); (case k4 => walk_at "IDX"); (case k5 => walk_at "IDX"); (case k6 => walk_at "IDX"); (case k7 => with_unfolding_all rfl); k_whole); intro _))
local macro_rules | `(tactic| walk_at "subscriptTail Name Name ref int") => `(tactic| walk_at "SUBI")
local macro_rules | `(tactic| walk_at "subscriptTail Name BinOp ref int") => `(tactic| walk_at "SUBI")
local macro_rules | `(tactic| walk_at "getItem ref int") => `(tactic| (k_here; (with_reducible show wpAny _ _ (getItem (Value.ref _) (Value.int _ _)) _ _ _); k_dflt (refine' ksa_get ?k1 ?k2 ?k3 ?k4 ?k5 ?k6 ?_; (case k1 => k_asm); (case k2 => k_mem); (case k3 => with_reducible assumption); (case k4 => walk_at "IDX"); (case k5 => walk_at "IDX"); (case k6 => walk_at "IDX"); k_whole); intro _))
local macro_rules | `(tactic| walk_at "setItem ref int") => `(tactic| (k_here; (with_reducible show wpAny _ _ (setItem (Value.ref _) (Value.int _ _) (Value.int _ _)) _ _ _); k_dflt (refine' ksa_set ?k1 ?k2 ?k3 ?k4 ?k5 ?k6 ?k7 ?_; (case k1 => k_asm); (case k2 => k_asm); (case k3 => k_upd); (case k4 => with_reducible assumption); (case k5 => walk_at "IDX"); (case k6 => walk_at "IDX"); (case k7 => walk_at "IDX"); k_whole); intro h' F' N' hi' hl' hs'; clear hs'; (try k_sweep)))
local macro_rules | `(tactic| walk_at "DATE") => `(tactic| first | (with_reducible exact DatIn.int _ _) | exact datInt (by assumption) | exact datInt (by decide) | (refine' DatIn.tuple ?m9 ?r9; (case m9 => k_mem); (case r9 => walk_at "DATES")))
local macro_rules | `(tactic| walk_at "DATES") => `(tactic| first | exact DatAll.nil | exact datInts (by assumption) (by assumption) | exact datAll_ints (by assumption) | (refine' DatAll.cons ?x9 ?y9; (case x9 => walk_at "DATE"); (case y9 => walk_at "DATES")))
local macro_rules | `(tactic| walk_at "subscriptTail Name Slice ref ref") => `(tactic| (k_here; (with_reducible show wpAny _ _ (subscriptTail _ _ (Value.ref _) (Value.ref _)) _ _ _); k_dflt (refine' slice_ledI ?F ?N ?hm ?hi ?pl ?pu ?pk ?h0 ?hz ?_ ?hs ?ht; (case F => k_asm); (case N => k_asm); (case hm => k_mem); (case hi => assumption); (case pl => first | exact IsPart.none | exact IsPart.int _ _); (case pu => first | exact IsPart.none | exact IsPart.int _ _); (case pk => first | exact IsPart.none | exact IsPart.int _ _); (case h0 => simp); (case hz => walk_at "ILEN"); (case hs => with_unfolding_all rfl); (case ht => (intro _; with_unfolding_all rfl)); k_whole); intro D' us' h' F' N' l1 hI'; (try k_lt l1); (try k_sweep); (first | rw [pickL_to _ (by omega)] at hI' | rw [pickL_from _ (by omega)] at hI' | rw [pickL_rev] at hI' | rw [pickL_odds] at hI' | rw [pickL_evens] at hI' | skip)))
local macro_rules | `(tactic| walk_at "GOX") => `(tactic| repeat' ((fail_if_success (with_reducible show wpAny _ _ (pyIter _) _ _ _)); (fail_if_success (with_reducible show wpAny _ _ (exec (Stmt.Try _ _ _ _ _) _) _ _ _)); (fail_if_success (with_reducible show LCg.CompSrc _ _ _ _ _ _ _ _ _ _ _ _ _ _)); first | (k_unfold; (try dsimp only)) | (k_end; wrow_close) | walk1 | (dsimp only; walk1) | (leave1; walk_say "STEP leave1"; try dsimp only) | fail "no step"))
local macro_rules | `(tactic| walk_at "getAttr ref") => `(tactic| (k_here; (with_reducible show wpAny _ _ (getAttr (Value.ref _) _ _) _ _ _); k_dflt (refine' getE_led ?F ?X ?N (k06_ga _) (k06_gn _) (k06_sub _) ?hna (k06_hd _) ?hm ?hmd ?hc ?hd ?hdx ?hD ?hv ?hh ?_; (case F => k_asm); (case X => k_asm); (case N => k_asm); (case hna => first | exact k06_line _ | exact k06_msg _ | exact k06_lineno _); (case hm => k_mem); (case hc => assumption); (case hd => assumption); (case hdx => assumption); (case hmd => k_mem); (case hD => assumption); (case hv => rfl); (case hh => rfl); k_whole)))
theorem nag_use {w : World} {mean : ExcName → Option Value} {mg mb : Str → Option Value} {dp un : Nat} {gd : Option (List Code)} {cn : Str} {cs : Scope} {a : Addr} {ccd : Value} {cl : List (Str × Addr)} {outer : List Env} {A₀ : Around} {base h₀ : Heap} {L : Addr} {m : Str → Option Value} {news : List (Addr × Obj)} {s : Shared} {v1 v2 v3 : Value} {Q E : Value → Shared → Prop}
    (B : Below A₀ base outer h₀) (F : Fr h₀ L s.heap m) (X : (hd06.heap_39 w.params).In h₀) (N : News h₀ L s.heap news) (T : Top hd06.view_39 (looseW hd06.view_39 []) mean mg mb h₀) (hk : cs.kind = .function) (hd : dp + 10 < recursionLimit) (hu : un + 80 < cLine)
    (h : ∀ (x dx t : Nat) (od : Obj) h' tk', Fr h₀ L h' m → News h₀ L h' ((x, { excNew 59 t with dict := some dx }) :: (dx, od) :: news) → DictObj od (nagMap v1 v2 v3) → (∀ p ∈ news, p.1 < t) → t < x → x < dx → Q (.ref x) { s with heap := h', toks := tk' }) :
    wpAny (model Challenge.rw_dn0186_06.row.prog w) (ktrTop dp un gd cn cs L a ccd cl outer) (call (.ref 59) [v1, v2, v3]) Q E s :=
  nag06 w mean mg mb dp un gd cn cs a ccd cl outer A₀ base h₀ L m s v1 v2 v3 Q E B F X T hk hd hu fun x dx t od h' tk' F' st N' hD h1 h2 h3 => h x dx t od h' tk' F' (fun p hp => (List.mem_cons.mp hp).elim (fun e => e ▸ N' _ (.head _)) fun hp => (List.mem_cons.mp hp).elim (fun e => e ▸ N' _ (.tail _ (.head _))) fun hp => news_stays N st p hp) hD (fun p hp => Nat.lt_of_lt_of_le (Heap.lt_size (N p hp).1) h1) h2 h3
local macro_rules | `(tactic| walk_at "call ref") => `(tactic| (k_here; (with_reducible show wpAny _ _ (call (Value.ref 59) [_, _, _]) _ _ _); k_dflt (refine' nag_use ?B ?F ?X ?N ?T ?hk ?hd ?hu ?_; (case B => k_asm); (case F => k_asm); (case X => k_asm); (case N => k_asm); (case T => k_asm); (case hk => exact rfl); (case hd => ktr_room); (case hu => ktr_units); k_whole); intro x' dx' t' od' h' _ F' N' hD' lt' l2' l3'; (try k_sweep)))
abbrev nums6 (ns : List Int) : List Int := [7] ++ List.take 20 ns
structure Inv6 (ns : List Int) (base : List (Addr × Obj)) (i : Nat) (c : List Nag) : Prop where
  len : c.length = i
  far : Far base c
  ok : ∀ (j : Nat) n, c[j]? = some n → NagOk ((nums6 ns).getD j 0) [(j : Int)] True n
theorem allLt_mem : ∀ {l : List (Addr × Obj)} {a : Nat}, AllLt a l → ∀ p ∈ l, p.1 < a
  | [], _, _, _, hp => nomatch hp
  | _ :: _, _, h, p, hp => by
    rcases List.mem_cons.mp hp with rfl | hp
    · exact h.1
    · exact allLt_mem h.2 p hp
abbrev stored6 : List Str := [Str.ofString "caught", Str.ofString "e"]
abbrev mp6 (m0 : Str → Option Value) (u : Str → Option Value) (y : Str) : Option Value := if stored6.contains y then u y else m0 y
theorem off6 {z : Str} (h : stored6.contains z = false) : z ≠ Str.ofString "caught" ∧ z ≠ Str.ofString "e" := by
  simp only [stored6, List.contains_cons, List.contains_nil, Bool.or_false, Bool.or_eq_false_iff, beq_eq_false_iff_ne, ne_eq] at h
  exact h
abbrev flo (ns : List Int) (j : Nat) : Nat := (((nums6 ns).getD j 0).fmod 5).toNat
structure InvL (ns : List Int) (base : List (Addr × Obj)) (c0 : List Nag) (i : Nat) (c : List Nag) : Prop where
  len : c.length = c0.length
  map : c.map Nag.x = c0.map Nag.x
  far : Far base c
  ok : ∀ (j : Nat) n, c[j]? = some n → NagOk ((nums6 ns).getD j 0) (if j < i then [(j : Int)] ++ up (flo ns j) else [(j : Int)]) (i ≤ j) n
theorem invL_start {ns : List Int} {base : List (Addr × Obj)} {N : Nat} {c0 : List Nag} {D2 : Addr} {o2 : Obj} (inv : Inv6 ns base N c0) (h : ∀ p ∈ base ++ ents c0, (p.1 : Nat) ≠ D2) : InvL ns ((D2, o2) :: base) c0 0 c0 := by
  refine ⟨rfl, rfl, ⟨fun j n hj p hp hm => ?_, inv.far.apart⟩, fun j n hj => ?_⟩
  · rcases List.mem_cons.mp hp with rfl | hp
    · obtain ⟨q, hq, e⟩ := adr_ent hm
      exact h q (List.mem_append.mpr (.inr (ent_mem hj q hq))) e
    · exact inv.far.out j n hj p hp hm
  · have z := inv.ok j n hj
    rw [if_neg (Nat.not_lt_zero _)]
    exact ⟨z.nag, fun _ => z.rdy trivial, z.dict, z.lst, z.a1, z.a2, z.d1, z.d2, z.d3⟩
theorem xs_at {c c0 : List Nag} {i : Nat} {n : Nag} (hm : c.map Nag.x = c0.map Nag.x) (hn : c[i]? = some n) : (c0.map fun n => Value.ref n.x)[i]? = some (.ref n.x) := by
  have e : (c0.map fun n => Value.ref n.x) = (c.map fun n => Value.ref n.x) := by
    have := congrArg (List.map fun (a : Nat) => Value.ref a) hm
    simpa [List.map_map, Function.comp_def] using this.symm
  rw [e, List.getElem?_map, hn]
  rfl
local macro_rules | `(tactic| walk_at "subscriptTail Name Name ref int") => `(tactic| (k_here; (with_reducible show wpAny _ _ (subscriptTail _ _ (Value.ref _) (Value.int _ _)) _ _ _); k_dflt (refine' item_ledL (n := _) ?N ?hm ?h0 ?hf ?hx ?_ ?hs; (case N => k_asm); (case hm => k_mem); (case h0 => omega); (case hf => omega); (case hx => with_reducible assumption); (case hs => with_unfolding_all rfl); k_whole)))
local macro_rules | `(tactic| walk_at "GOF") => `(tactic| repeat' ((fail_if_success (with_reducible show wpAny _ _ (pyIter _) _ _ _)); (fail_if_success (with_reducible show wpAny _ _ (call (Value.ref 69) _) _ _ _)); (fail_if_success (with_reducible show wpAny _ _ (exec (Stmt.Try _ _ _ _ _) _) _ _ _)); first | (k_unfold; (try dsimp only)) | (k_end; wrow_close) | walk1 | (dsimp only; walk1) | (leave1; walk_say "STEP leave1"; try dsimp only) | fail "no step"))
theorem invL_step {ns : List Int} {B : List (Addr × Obj)} {c0 c : List Nag} {i : Nat} {n n' : Nag} (inv : InvL ns B c0 i c) (hn : c[i]? = some n) (ex : n'.x = n.x) (ed : n'.dx = n.dx) (hb : ∀ p ∈ B, (p.1 : Nat) ≠ n'.l) (hl : ∀ (k : Nat) m, c[k]? = some m → k ≠ i → n'.l ∉ m.adr)
    (ok : NagOk ((nums6 ns).getD i 0) ([(i : Int)] ++ up (flo ns i)) False n') : InvL ns B c0 (i + 1) (c.set i n') := by
  refine ⟨by rw [List.length_set]; exact inv.len, ?_, far_set inv.far hn ex ed hb hl, fun j m hj => ?_⟩
  · rw [← inv.map]
    apply List.ext_getElem?
    intro j
    rw [List.getElem?_map, List.getElem?_map]
    by_cases e : i = j
    · subst e
      rw [List.getElem?_set_self (List.getElem?_eq_some_iff.mp hn).1, hn]
      simp [ex]
    · rw [List.getElem?_set_ne e]
  · rcases set_cases hj with ⟨ej, em⟩ | ⟨hji, j2⟩
    · rw [ej, em, if_pos (Nat.lt_succ_self i)]
      exact ⟨ok.nag, fun h => absurd h (Nat.not_succ_le_self i), ok.dict, ok.lst, ok.a1, ok.a2, ok.d1, ok.d2, ok.d3⟩
    · have z := inv.ok j m j2
      by_cases h : j < i
      · rw [if_pos h] at z
        rw [if_pos (Nat.lt_succ_of_lt h)]
        exact ⟨z.nag, fun h2 => z.rdy (by omega), z.dict, z.lst, z.a1, z.a2, z.d1, z.d2, z.d3⟩
      · rw [if_neg h] at z
        rw [if_neg (by omega)]
        exact ⟨z.nag, fun h2 => z.rdy (by omega), z.dict, z.lst, z.a1, z.a2, z.d1, z.d2, z.d3⟩
abbrev stored6b : List Str := [Str.ofString "x", Str.ofString "line"]
abbrev mp6b (m0 : Str → Option Value) (u : Str → Option Value) (y : Str) : Option Value := if stored6b.contains y then u y else m0 y
theorem off6b {z : Str} (h : stored6b.contains z = false) : z ≠ Str.ofString "x" ∧ z ≠ Str.ofString "line" := by
  simp only [stored6b, List.contains_cons, List.contains_nil, Bool.or_false, Bool.or_eq_false_iff, beq_eq_false_iff_ne, ne_eq] at h
  exact h
theorem word_ok (z : Int) : PyData.strOk (Txt.mul (Str.ofString "word") (z.fmod 3)) = true := by
  have h1 := Int.fmod_nonneg_of_pos z (by decide : (0 : Int) < 3)
  have h2 := Int.fmod_lt_of_pos z (by decide : (0 : Int) < 3)
  have h3 : z.fmod 3 = 0 ∨ z.fmod 3 = 1 ∨ z.fmod 3 = 2 := by omega
  rcases h3 with h | h | h <;> rw [h] <;> decide +kernel
theorem line6 {ns : List Int} {i K : Nat} (h : K = flo ns i) : [(0 : Int) + (i : Int)] ++ rangeKs 1 K = [(i : Int)] ++ up (flo ns i) := by
  subst h
  simp [rangeKs, up, Int.add_comm]
theorem line6_use {ns : List Int} {i K : Nat} {vs : List Value} (hI : IntsAre vs ([(0 : Int) + (i : Int)] ++ rangeKs 1 K)) (h : K = flo ns i) : IntsAre vs ([(i : Int)] ++ up (flo ns i)) := line6 h ▸ hI
local macro_rules | `(tactic| walk_at "DATE") => `(tactic| first | (with_reducible exact DatIn.int _ _) | (with_reducible exact DatIn.str _ _) | (refine' DatIn.tuple ?m9 ?r9; (case m9 => k_mem); (case r9 => walk_at "DATES")) | (refine' DatIn.list ?m9 ?r9; (case m9 => k_mem); (case r9 => walk_at "DATES")))
theorem name_goesC {M : Model} {A : Around} {E : Value → Shared → Prop} {s : Shared} {env : Env} {h₀ : Heap} {L : Addr} {m : Str → Option Value} {news : List (Addr × Obj)} {n : Str} {pos : Pos} {Q : Unit → Shared → Prop} (F : Fr h₀ L s.heap m) (N : News h₀ L s.heap news) (hlo : env.locals = L) (hk : env.scope.kind = .function) (hl : env.kindOf n = some .local)
    (h : ∀ h' v, Fr h₀ L h' (fun x => if x = n then v else m x) → News h₀ L h' news → Q () { s with heap := h', toks := s.toks + 1 }) :
    wpAny M A (do bindName env n .none; unbindBehindTheSuite env n pos) Q E s := by
  subst hlo
  exact wpAny_nameGoes_keeps hl F.ns (by rw [hk]; rfl) fun h' v hn hs => h h' v (F.set hn hs) (N.set hs)
theorem off1_mem {D : Addr} : ∀ {l : List (Addr × Obj)}, LCg.Off1 D l → ∀ p ∈ l, (p.1 : Nat) ≠ D
  | [], _, _, hp => nomatch hp
  | _ :: _, h, p, hp => by
    rcases List.mem_cons.mp hp with rfl | hp
    · exact h.1
    · exact off1_mem h.2 p hp
theorem ents_snoc {c : List Nag} {n : Nag} {p : Addr × Obj} (h : p ∈ ents (c ++ [n])) : p ∈ ents c ∨ p ∈ n.ent := by
  unfold ents at h ⊢
  rw [List.flatMap_append] at h
  rcases List.mem_append.mp h with h | h
  · exact .inl h
  · rw [List.flatMap_singleton] at h; exact .inr h
theorem t06 : PySem.Challenge.rw_dn0186_06.Holds := by
  refine hd06 ?_
  w_strict (
    k_go0
    (all_goals try k_fold)
    walk_at "GOX"
    rename Fr _ _ _ _ => F1
    rename News _ _ _ _ => N1
    rename IntsAre _ ([7] ++ List.take 20 _) => hI1
    rename IsRange _ _ _ _ _ _ _ _ => hR1
    rename (List Int) => ns
    rename World => w'
    rename _ = Data.cell _ => hco
    have hn1 : (nums6 ns).length = 1 + (List.take 20 ns).length := by simp [nums6]; omega
    have hn2 : (List.take 20 ns).length ≤ 20 := by rw [List.length_take]; omega
    have N2 := news_sub (l' := [_, _]) N1 (List.forall_mem_cons.mpr ⟨.head _, List.forall_mem_cons.mpr ⟨.tail _ (.tail _ (.tail _ (.head _))), List.forall_mem_nil _⟩⟩)
    clear N1
    obtain ⟨base, hbase, N3⟩ : ∃ (base : List (Addr × Obj)), base = _ ∧ News _ _ _ base := ⟨_, rfl, N2⟩
    clear N2
    refine' LCg.CompSrc.range rfl F1 N3 hR1 (small_one (by omega) (by omega) (by omega) (by omega)) (rsize _) ?_ ?_
    · rw [PySem.sizeLine_eq]; omega
    intro gA
    refine' comp_led (σ := List Nag) (fun c => base ++ ents c) (fun i ys c => Inv6 ns base i c ∧ ys = c.map fun n => Value.ref n.x) [] (by simp [ents]) ⟨⟨rfl, far_nil, fun _ _ h => by simp at h⟩, rfl⟩ ?turn1 ?fin1
    case turn1 =>
      rintro i v ys c I oI C oC D m2 h tk E hi ⟨t, rfl⟩ ⟨inv, rfl⟩ hC hx F3 N4 off ne
      rw [hbase] at N4
      simp only [List.cons_append, List.nil_append] at N4
      walk_at "GOX"
      rename_i t7 _ t9 _ l7 h7 F7 N7 l17 x8 dx8 t8 od8 h8 tk8 F8 N8 hD8 lt8 l28 l38
      clear F7 N7
      have e0 : ((0 : Int) + (i : Int)).toNat = i := by omega
      have e1 : ((0 : Int) + (i : Int)) = (i : Int) := by omega
      have l18 := lt8 _ (.head _)
      have q1 : l7 < x8 := Nat.lt_trans l18 l28
      have q2 : l7 < dx8 := Nat.lt_trans q1 l38
      have hA := allLt_mem l17.2.2.2.2.2
      have hlt : ∀ p ∈ base ++ ents c, p.1 < l7 := by
        rw [hbase]
        intro p hp
        rcases List.mem_cons.mp hp with rfl | hp
        · exact l17.2.2.2.1
        rcases List.mem_cons.mp hp with rfl | hp
        · exact l17.2.2.2.2.1
        · exact hA p hp
      refine' ⟨c ++ [⟨x8, dx8, l7, { excNew 59 t8 with dict := some dx8 }, od8, [.int (0 + (i : Int)) t], 0, .int ((nums6 ns).getD ((0 : Int) + (i : Int)).toNat 0) t7, .str (Txt.mul (Str.ofString "word") (((nums6 ns).getD ((0 : Int) + (i : Int)).toNat 0).fmod 3)) t9⟩], _, _, rfl, F8, ?N9, ?off9, trivial, ⟨?len9, ?far9, ?ok9⟩, ?ys9⟩
      case N9 =>
        rw [hbase]
        intro p hp
        rcases List.mem_cons.mp hp with rfl | hp
        · exact N8 _ (.tail _ (.tail _ (.tail _ (.head _))))
        rcases List.mem_cons.mp hp with rfl | hp
        · exact N8 _ (.tail _ (.tail _ (.tail _ (.tail _ (.head _)))))
        rcases List.mem_cons.mp hp with rfl | hp
        · exact N8 _ (.tail _ (.tail _ (.tail _ (.tail _ (.tail _ (.head _))))))
        rcases List.mem_cons.mp hp with rfl | hp
        · exact N8 _ (.tail _ (.tail _ (.tail _ (.tail _ (.tail _ (.tail _ (.head _)))))))
        rcases List.mem_cons.mp hp with rfl | hp
        · exact N8 _ (.tail _ (.tail _ (.tail _ (.tail _ (.tail _ (.tail _ (.tail _ (.head _))))))))
        rcases ents_snoc hp with hp | hp
        · exact N8 _ (.tail _ (.tail _ (.tail _ (.tail _ (.tail _ (.tail _ (.tail _ (.tail _ hp))))))))
        rcases List.mem_cons.mp hp with rfl | hp
        · exact N8 _ (.head _)
        rcases List.mem_cons.mp hp with rfl | hp
        · exact N8 _ (.tail _ (.head _))
        · rw [List.mem_singleton.mp hp]
          exact N8 _ (.tail _ (.tail _ (.head _)))
      case off9 =>
        refine LCg.Off3.of fun p hp => ?_
        rcases List.mem_append.mp hp with hp | hp
        · exact off.mem p (List.mem_append.mpr (.inl hp))
        rcases ents_snoc hp with hp | hp
        · exact off.mem p (List.mem_append.mpr (.inr hp))
        have hI7 : I < l7 := l17.1
        have hC7 : C < l7 := l17.2.1
        have hD7 : D < l7 := l17.2.2.1
        have key : ∀ a : Nat, a ∈ [x8, dx8, l7] → a ≠ I ∧ a ≠ C ∧ a ≠ D := by
          intro a ha
          simp only [List.mem_cons, List.not_mem_nil, or_false] at ha
          rcases ha with rfl | rfl | rfl
          · exact ⟨Nat.ne_of_gt (Nat.lt_trans hI7 q1), Nat.ne_of_gt (Nat.lt_trans hC7 q1), Nat.ne_of_gt (Nat.lt_trans hD7 q1)⟩
          · exact ⟨Nat.ne_of_gt (Nat.lt_trans hI7 q2), Nat.ne_of_gt (Nat.lt_trans hC7 q2), Nat.ne_of_gt (Nat.lt_trans hD7 q2)⟩
          · exact ⟨Nat.ne_of_gt hI7, Nat.ne_of_gt hC7, Nat.ne_of_gt hD7⟩
        exact key _ (ent_adr hp)
      case len9 => simp [inv.len]
      case far9 =>
        refine far_snoc inv.far fun p hp a ha => ?_
        have := hlt p hp
        simp only [Nag.adr, List.mem_cons, List.not_mem_nil, or_false] at ha
        rcases ha with rfl | rfl | rfl
        · exact Nat.lt_trans this q1
        · exact Nat.lt_trans this q2
        · exact this
      case ok9 =>
        intro j n hj
        rcases getElem?_snoc hj with ⟨j2, _⟩ | ⟨j2, rfl⟩
        · exact inv.ok j n j2
        · rw [j2, inv.len]
          refine ⟨⟨rfl, rfl, _, rfl⟩, fun _ => ⟨_, rfl, rfl⟩, hD8, by rw [e1]; exact .cons _ _ .nil, ⟨_, by rw [e0]⟩, ⟨_, by rw [e0]⟩, Nat.ne_of_lt l38, Ne.symm (Nat.ne_of_lt q1), Ne.symm (Nat.ne_of_lt q2)⟩
      case ys9 => rw [List.map_append]; rfl
    case fin1 =>
      rintro ys c0 ⟨inv0, rfl⟩ D2 h2 tk2 F4 N4 off2
      dsimp only
      have hoff2 : ∀ p ∈ base ++ ents c0, (p.1 : Nat) ≠ D2 := fun p hp => off1_mem off2 p hp
      clear off2 F1 N3 hR1
      rw [hbase] at N4
      simp only [List.cons_append, List.nil_append] at N4
      walk_at "GOX"
      rename Fr _ _ _ _ => F5
      rename News _ _ _ _ => N5
      rename IsRange _ _ _ _ _ _ _ _ => hR5
      obtain ⟨mr, hmr, F6⟩ : ∃ (mr : Str → Option Value), mr = _ ∧ Fr _ _ _ mr := ⟨_, rfl, F5⟩
      clear F5
      refine' range_led (σ := List Nag × (Str → Option Value)) (fun c => mp6 mr c.2) (fun c => (D2, LCg.lst (c0.map fun n => Value.ref n.x)) :: (base ++ ents c.1)) (fun i c => InvL ns ((D2, LCg.lst (c0.map fun n => Value.ref n.x)) :: base) c0 i c.1) (fun c => InvL ns ((D2, LCg.lst (c0.map fun n => Value.ref n.x)) :: base) c0 c0.length c.1) (c0, mr) rfl hR5 (small_one (by omega) (by omega) (by omega) (by omega)) (rsize _) F6 N5 ?hled ?hmap ?hinit ?hturn ?hends ?hdone
      case hled => rw [hbase]; exact fun p hp => hp
      case hmap =>
        intro z hz
        simp only [mp6]
        split <;> rfl
      case hinit => exact invL_start inv0 hoff2
      case hends =>
        intro c h
        rw [inv0.len]
        exact h
      case hdone =>
        subst hmr
        rintro ⟨c, u⟩ u2 h tk inv F7 N7
        dsimp only [mp6] at F7
        rw [hbase] at N7
        simp only [List.cons_append, List.nil_append, List.append_assoc] at N7
        clear F6 N5 hR5
        (try k_fold)
        walk_at "GOX"
        rename Fr _ _ _ _ => F8
        rename News _ _ _ _ => N8
        rename IsRange _ _ _ _ _ _ _ _ => hR8
        obtain ⟨mr2, hmr2, F9⟩ : ∃ (mr : Str → Option Value), mr = _ ∧ Fr _ _ _ mr := ⟨_, rfl, F8⟩
        clear F8
        refine' range_led (σ := Str → Option Value) (mp6b mr2) (fun _ => (D2, LCg.lst (c0.map fun n => Value.ref n.x)) :: (base ++ ents c)) (fun _ _ => True) (fun _ => True) mr2 rfl hR8 (small_one (by omega) (by omega) (by omega) (by omega)) (rsize _) F9 N8 ?hledb ?hmapb trivial ?hturnb ?hendsb ?hdoneb
        case hledb => rw [hbase]; exact fun p hp => hp
        case hmapb =>
          intro z hz
          simp only [mp6b]
          split <;> rfl
        case hendsb => intro _ _; trivial
        case hdoneb =>
          subst hmr2
          rintro u3 u4 h tk _ F7 N7
          dsimp only [mp6b] at F7
          (try k_fold)
          k_steps
        case hturnb =>
          subst hmr2
          rintro i t u3 I oI h tk hi _ hoff F7 N7
          have hcl : i < c.length := by rw [inv.len, inv0.len]; exact hi
          obtain ⟨n, hn⟩ : ∃ n, c[i]? = some n := ⟨c[i], List.getElem?_eq_getElem hcl⟩
          have ok := inv.ok i n hn
          rw [if_pos (by rw [← inv.len]; exact hcl)] at ok
          have e0 : ((0 : Int) + (i : Int)).toNat = i := by omega
          have hnk : (c0.map fun n => Value.ref n.x)[((0 : Int) + (i : Int)).toNat]? = some (.ref n.x) := by
            rw [e0]; exact xs_at inv.map hn
          obtain ⟨⟨hcn, hdn, vs7, hvn⟩, _, hDn, hIn, ⟨t1, ea⟩, ⟨t2, eb⟩, d1, d2, d3⟩ := ok
          have ez : (nums6 ns).getD i 0 = (nums6 ns).getD ((0 : Int) + (i : Int)).toNat 0 := by rw [e0]
          rw [ea, eb, ez] at hDn
          have N8 := news_sub (l' := (n.x, n.ox) :: (n.dx, n.od) :: (n.l, W.listOf n.ls.toArray n.c) :: ((D2, LCg.lst (c0.map fun n => Value.ref n.x)) :: (base ++ ents c) ++ [(I, oI)])) N7 ?hs8
          case hs8 =>
            intro p hp
            rcases List.mem_cons.mp hp with rfl | hp
            · exact List.mem_append.mpr (.inl (.tail _ (List.mem_append.mpr (.inr (ent_mem hn _ (.head _))))))
            rcases List.mem_cons.mp hp with rfl | hp
            · exact List.mem_append.mpr (.inl (.tail _ (List.mem_append.mpr (.inr (ent_mem hn _ (.tail _ (.head _)))))))
            rcases List.mem_cons.mp hp with rfl | hp
            · exact List.mem_append.mpr (.inl (.tail _ (List.mem_append.mpr (.inr (ent_mem hn _ (.tail _ (.tail _ (.head _))))))))
            · exact hp
          clear N7
          dsimp only [mp6b] at F7
          rw [hbase] at N8
          simp only [List.cons_append, List.nil_append, List.append_assoc] at N8
          have hf5 : ((nums6 ns).getD ((0 : Int) + (i : Int)).toNat 0).fmod 5 = ((flo ns i : Nat) : Int) := by
            rw [e0]; exact (Int.toNat_of_nonneg (Int.fmod_nonneg_of_pos _ (by decide))).symm
          have hf4 : flo ns i ≤ 4 := by
            have := Int.fmod_lt_of_pos ((nums6 ns).getD i 0) (by decide : (0 : Int) < 5)
            rw [e0] at hf5
            omega
          (try k_fold)
          walk_at "GO"
          rename IntsAre _ (_ ++ rangeKs _ _) => hIr
          have hIr2 := line6_use hIr (ns := ns) (i := i) ?hK9
          case hK9 =>
            have hf6 : ((7 :: List.take 20 ns).getD ((0 : Int) + (i : Int)).toNat 0).fmod 5 = ((flo ns i : Nat) : Int) := hf5
            omega
          clear hIr
          have hup5 : (up (flo ns i)).length ≤ 4 := by simp only [up, List.length_map, List.length_range]; exact hf4
          refine' ne_dat (d := .tuple [.int ((7 :: List.take 20 ns).getD ((0 : Int) + (i : Int)).toNat 0), .str (Txt.mul (Str.ofString "word") (((7 :: List.take 20 ns).getD ((0 : Int) + (i : Int)).toNat 0).fmod 3)), .list (([(i : Int)] ++ up (flo ns i)).map .int)]) ?cN ?cA ?cB ?cK ?cU ?_
          (case cN => k_asm)
          (case cK => (simp only [dok, List.all_cons, List.all_nil, dok_ints, word_ok, Bool.and_true, Bool.true_and]))
          (case cU => ktr_units)
          (case cA => walk_at "DATE")
          (case cB => walk_at "DATE")
          (try dsimp only)
          walk_at "GO"
          rename Fr _ _ _ _ => FZ
          rename News _ _ _ _ => NZ
          refine' ⟨_, _, _, _, rfl, FZ, fun p hp => NZ p ?hs9, ?hm9, hoff, trivial⟩
          case hs9 =>
            rw [hbase] at hp
            simp only [List.cons_append, List.nil_append, List.append_assoc] at hp
            exact .tail _ (.tail _ (.tail _ (.tail _ (.tail _ (.tail _ (.tail _ (.tail _ hp)))))))
          case hm9 =>
            intro z hz
            simp only [mp6b]
            cases e : stored6b.contains z
            · obtain ⟨z1, z2⟩ := off6b e
              simp only [z1, z2, hz, e, if_false, Bool.false_eq_true]
            · rfl
      case hturn =>
        subst hmr
        rintro i t ⟨c, u⟩ I oI h tk hi inv hoff F7 N7
        have hcl : i < c.length := by rw [inv.len, inv0.len]; exact hi
        obtain ⟨n, hn⟩ : ∃ n, c[i]? = some n := ⟨c[i], List.getElem?_eq_getElem hcl⟩
        have ok := inv.ok i n hn
        rw [if_neg (Nat.lt_irrefl i)] at ok
        have hnk : (c0.map fun n => Value.ref n.x)[((0 : Int) + (i : Int)).toNat]? = some (.ref n.x) := by
          have e : ((0 : Int) + (i : Int)).toNat = i := by omega
          rw [e]; exact xs_at inv.map hn
        obtain ⟨vs6, hd6, h16⟩ := ok.rdy (Nat.le_refl _)
        dsimp only [mp6] at F7
        rw [hbase] at N7
        simp only [List.cons_append, List.nil_append, List.append_assoc] at N7
        clear F6 N5 hR5
        (try k_fold)
        walk_at "GOF"
        refine wpAny_Try_except ?_
        walk_at "GOF"
        rename Fr _ _ _ _ => F8
        rename News _ _ _ _ => N8
        clear F7 N7
        have e0 : ((0 : Int) + (i : Int)).toNat = i := by omega
        have hf5 : ((nums6 ns).getD ((0 : Int) + (i : Int)).toNat 0).fmod 5 = ((flo ns i : Nat) : Int) := by
          rw [e0]; exact (Int.toNat_of_nonneg (Int.fmod_nonneg_of_pos _ (by decide))).symm
        have hf4 : flo ns i ≤ 4 := by
          have := Int.fmod_lt_of_pos ((nums6 ns).getD i 0) (by decide : (0 : Int) < 5)
          rw [e0] at hf5
          omega
        have N9 := news_sub (l' := (D2, LCg.lst (c0.map fun n => Value.ref n.x)) :: (base ++ (ents c ++ [(I, oI)]))) N8 (fun p hp => by rw [hbase] at hp; exact hp)
        clear N8
        have hent : ∀ p ∈ n.ent, p ∈ (D2, LCg.lst (c0.map fun n => Value.ref n.x)) :: (base ++ (ents c ++ [(I, oI)])) := fun p hp => .tail _ (List.mem_append.mpr (.inr (List.mem_append.mpr (.inl (ent_mem hn p hp)))))
        k_dflt (refine' fall_use (fall06 _ _ _ _ (flo ns i)) hf5 ?B ?XB ?TB ?F ?X ?T ?N ok.nag hd6 h16 ok.dict ok.lst ?hz ok.d1 ok.d2 ok.d3 ?hk ?hd ?hu ?hn8 ?_; (case B => k_asm); (case F => k_asm); (case X => k_asm); (case N => exact news_sub N9 hent); (case T => k_asm); (case XB => k_asm); (case TB => k_asm); (case hz => simp); (case hk => exact rfl); (case hd => (refine Nat.lt_of_le_of_lt (Nat.add_le_add_right (Nat.add_le_add_left (Nat.mul_le_mul_left 20 hf4) _) 20) ?_; ktr_room)); (case hu => (refine Nat.lt_of_le_of_lt (Nat.add_le_add_right (Nat.add_le_add_left (Nat.mul_le_mul_left 20 hf4) _) 80) ?_; ktr_units)); (case hn8 => omega); k_whole)
        intro l1 od1 ls1 c1 h1' tk1 al hD1 hI1 hnew1 n1 n2
        (try dsimp only)
        have hIn : ∀ a ∈ n.adr, (I : Nat) ≠ a := fun a ha e => by
          obtain ⟨q, hq, e2⟩ := adr_ent ha
          exact hoff q (.tail _ (List.mem_append.mpr (.inr (ent_mem hn q hq)))) (e2.trans e.symm)
        refine' catch_as (C := 59) (xs := n.adr) (rest := ((D2, LCg.lst (c0.map fun n => Value.ref n.x)) :: base) ++ (ents (c.eraseIdx i) ++ [(I, oI)])) rfl rfl rfl rfl rfl (nk06 _) ?B ?XB ?TB F8 N9 ?hxs (.head _) al ?hrest ?hown ?hev ?_
        case B => k_asm
        case XB => k_asm
        case TB => k_asm
        case hxs =>
          intro y hy
          obtain ⟨q, hq, e⟩ := adr_ent hy
          have z := N9 q (hent q hq)
          rw [← e]
          exact ⟨z.2.2, z.2.1⟩
        case hrest =>
          intro p hp
          rcases List.mem_append.mp hp with hp | hp
          · refine ⟨?_, inv.far.out i n hn p hp⟩
            rcases List.mem_cons.mp hp with rfl | hp
            · exact .head _
            · exact .tail _ (List.mem_append.mpr (.inl hp))
          rcases List.mem_append.mp hp with hp | hp
          · obtain ⟨j, m, hji, hj, hm⟩ := ents_erase hp
            exact ⟨.tail _ (List.mem_append.mpr (.inr (List.mem_append.mpr (.inl (ent_mem hj p hm))))), inv.far.apart j i m n hj hn hji _ (ent_adr hm)⟩
          · rw [List.mem_singleton.mp hp]
            exact ⟨.tail _ (List.mem_append.mpr (.inr (List.mem_append.mpr (.inr (.head _))))), fun hm => hIn _ hm rfl⟩
        case hown =>
          intro p hp b o e hb
          rcases List.mem_cons.mp hp with rfl | hp
          · exact fun q => hb (by rw [q]; exact .tail _ (.head _))
          · rw [List.mem_singleton.mp hp]
            exact hnew1 b o e hb
        case hev =>
          intro E' s5 g5 F5 X5 T5
          walk_at "GOX"
        intro h6 tk6 g' T9 ox6 oT6 vs7 ts7 KT hg F6 N6 hp6 hd7 h17 hTx hdT h37 hne B6 X6 T6
        have hg := hg rfl
        subst hg
        have hnl : ∀ p ∈ (D2, LCg.lst (c0.map fun n => Value.ref n.x)) :: (base ++ (ents c ++ [(I, oI)])), (p.1 : Nat) ∉ n.adr → (p.1 : Nat) ≠ l1 := fun p hp ha => hnew1 _ _ (N9 p hp).1 ha
        clear F8 KT B6 X6 T6
        have N7 := news_sub (l' := (D2, LCg.lst (c0.map fun n => Value.ref n.x)) :: (base ++ (ents (c.eraseIdx i) ++ [(I, oI), (n.x, ox6), (n.dx, od1), (l1, W.listOf ls1.toArray c1)]))) N6 ?hs7
        case hs7 =>
          intro p hp
          rcases List.mem_cons.mp hp with rfl | hp
          · exact .tail _ (.tail _ (List.mem_append.mpr (.inr (.head _))))
          rcases List.mem_append.mp hp with hp | hp
          · exact .tail _ (.tail _ (List.mem_append.mpr (.inr (List.mem_append.mpr (.inl (.tail _ hp))))))
          rcases List.mem_append.mp hp with hp | hp
          · exact .tail _ (.tail _ (List.mem_append.mpr (.inr (List.mem_append.mpr (.inr (List.mem_append.mpr (.inl hp)))))))
          rcases List.mem_cons.mp hp with rfl | hp
          · exact .tail _ (.tail _ (List.mem_append.mpr (.inr (List.mem_append.mpr (.inr (List.mem_append.mpr (.inr (.head _))))))))
          rcases List.mem_cons.mp hp with rfl | hp
          · exact .head _
          · exact .tail _ (.tail _ (List.mem_append.mpr (.inl hp)))
        (try dsimp only)
        (try k_fold)
        walk_at "GOX"
        rename Fr _ _ _ _ => F8
        rename News _ _ _ _ => N8
        refine name_goesC F8 N8 rfl rfl rfl fun h8 v8 FA NA => ?_
        clear F8 N8
        rw [hbase] at NA
        simp only [List.cons_append, List.nil_append, List.append_assoc] at NA
        (try dsimp only)
        (try k_fold)
        walk_at "GOX"
        have NB := news_sub (l' := (D2, LCg.lst (c0.map fun n => Value.ref n.x)) :: (base ++ (ents (c.eraseIdx i) ++ [(I, oI), (n.x, ox6), (n.dx, od1), (l1, W.listOf ls1.toArray c1)]))) NA (fun p hp => by rw [hbase] at hp; exact hp)
        refine' ⟨(c.set i { n with ox := ox6, od := od1, l := l1, ls := ls1, c := c1 }, _), h8, _, _, rfl, FA, ?N9, ?map9, ?off9, ?inv9⟩
        case N9 =>
          intro p hp
          rcases List.mem_append.mp hp with hp | hp
          · rcases List.mem_cons.mp hp with rfl | hp
            · exact NB _ (.head _)
            rcases List.mem_append.mp hp with hp | hp
            · exact NB _ (.tail _ (List.mem_append.mpr (.inl hp)))
            rcases ents_set hp with hp | hp
            · exact NB _ (.tail _ (List.mem_append.mpr (.inr (List.mem_append.mpr (.inr (.tail _ hp))))))
            · exact NB _ (.tail _ (List.mem_append.mpr (.inr (List.mem_append.mpr (.inl hp)))))
          · rw [List.mem_singleton.mp hp]
            exact NB _ (.tail _ (List.mem_append.mpr (.inr (List.mem_append.mpr (.inr (.head _))))))
        case map9 =>
          intro z hz
          simp only [mp6]
          cases e : stored6.contains z
          · obtain ⟨z1, z2⟩ := off6 e
            simp only [z1, z2, hz, e, if_false, Bool.false_eq_true]
          · rfl
        case off9 =>
          intro p hp
          rcases List.mem_cons.mp hp with rfl | hp
          · exact hoff _ (.head _)
          rcases List.mem_append.mp hp with hp | hp
          · exact hoff _ (.tail _ (List.mem_append.mpr (.inl hp)))
          rcases ents_set hp with hp | hp
          · have z := ent_adr hp
            simp only [Nag.adr, List.mem_cons, List.not_mem_nil, or_false] at z
            intro e
            rw [e] at z
            rcases z with z | z | z
            · exact hIn _ (.head _) z
            · exact hIn _ (.tail _ (.head _)) z
            · exact hnl (I, oI) (.tail _ (List.mem_append.mpr (.inr (List.mem_append.mpr (.inr (.head _)))))) (fun hm => hIn _ hm rfl) z
          · obtain ⟨j, m, hji, hj, hm⟩ := ents_erase hp
            exact hoff _ (.tail _ (List.mem_append.mpr (.inr (ent_mem hj p hm))))
        case inv9 =>
          refine invL_step inv hn rfl rfl (fun p hp => hnl p ?_ (inv.far.out i n hn p hp)) (fun k m hk hki ha => ?_) ⟨hp6, fun h => h.elim, hD1, hI1, ok.a1, ok.a2, ok.d1, Ne.symm n1, Ne.symm n2⟩
          · rcases List.mem_cons.mp hp with rfl | hp
            · exact .head _
            · exact .tail _ (List.mem_append.mpr (.inl hp))
          · obtain ⟨q, hq, e⟩ := adr_ent ha
            exact hnl q (.tail _ (List.mem_append.mpr (.inr (List.mem_append.mpr (.inl (ent_mem hk q hq)))))) (inv.far.apart k i m n hk hn hki _ (ent_adr hq)) e)

end
end Mine
theorem PySem.Challenge.cw_dn0186_06_holds : PySem.Challenge.rw_dn0186_06.Holds :=
  Mine.t06
