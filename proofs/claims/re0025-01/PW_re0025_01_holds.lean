import PyProof.Rows.All
import Wide.All
import OpenK.AllK
import Wide.FinOn
import PyProof.FactsBase
import PyProof.TableTree
import PyProof.FactsTree
import PyProof.PlainAttrs
import PyProof.FactsAll.str_0
import Lean
import PySem.Challenge.RW_re0025_01
open PySem PySem.W PyProof.Rows
set_option Elab.async false
set_option maxRecDepth 100000
set_option maxHeartbeats 8000000
set_option linter.unusedVariables false
section
open PySem PySem.W PyProof.Rows
namespace Mine
open_top hd for PySem.Challenge.rw_re0025_01
end Mine
end
section
open PySem PySem.W PyProof.Rows PySem.Calls PySem.Spec
namespace Mine
section
variable {prog : Program} {w : World} {A : Around} {s : Shared} {env : Env} {h₀ : Heap} {E : Value → Shared → Prop} {Q : Flow → Shared → Prop}

/-- the loop's own code, its end told -/
def LoopX (prog : Program) (w : World) (A : Around) (env : Env) (target : PySem.Expr) (body orelse : List Stmt) (Q : Flow → Shared → Prop) (E : Value → Shared → Prop) (it : Value) (s₂ : Shared) : Prop :=
  codeAny (model prog w) A (.forLoop target it body orelse env) (fun r s' => match r with | .ok f => Q f s' | .error e => cameBackBy (model prog w) A env E e s') s₂

theorem For_X {target iter : PySem.Expr} {body orelse : List Stmt} {pos : Pos}
    (h : wpAny (model prog w) A (eval iter env) (fun xv s₁ => wpAny (model prog w) A (pyIter xv) (fun it s₂ => LoopX prog w A env target body orelse Q E it s₂) E s₁) E s)
    (hs : ∀ x, foldedSetIterable iter env x = pure x := by intro _; rfl) :
    wpAny (model prog w) A (exec (.For target iter body orelse pos) env) Q E s := wpAny_For h hs

/-- what a turn leaves -/
def StepX (s0 : Shared) (h₀ : Heap) (L I : Addr) (io : Obj) (J : (Str → Option Value) → List (Addr × Obj) → Prop) (Q : Flow → Shared → Prop) (f : Flow) (s₃ : Shared) : Prop :=
  match f with
  | .ret v => Q (.ret v) s₃
  | .brk => Q .next s₃
  | _ => ∃ h' tk m' news', s₃ = { s0 with heap := h', toks := tk } ∧ Fr h₀ L h' m' ∧ News h₀ L h' (news' ++ [(I, io)]) ∧ (∀ p ∈ news', p.1 ≠ I) ∧ J m' news'

theorem StepX.go {s0 : Shared} {L I : Addr} {io : Obj} {J : (Str → Option Value) → List (Addr × Obj) → Prop} {h' : Heap} {tk : Nat} {m' : Str → Option Value} {news' all : List (Addr × Obj)} (F : Fr h₀ L h' m') (N : News h₀ L h' all)
    (hs : ∀ p ∈ news' ++ [(I, io)], p ∈ all) (ho : ∀ p ∈ news', p.1 ≠ I) (hJ : J m' news') : StepX s0 h₀ L I io J Q .next { s0 with heap := h', toks := tk } :=
  ⟨h', tk, m', news', rfl, F, fun p hp => N p (hs p hp), ho, hJ⟩

theorem StepX.brk {s0 s₃ : Shared} {L I : Addr} {io : Obj} {J : (Str → Option Value) → List (Addr × Obj) → Prop} (h : Q .next s₃) : StepX s0 h₀ L I io J Q .brk s₃ := h
theorem StepX.ret {s0 s₃ : Shared} {L I : Addr} {io : Obj} {J : (Str → Option Value) → List (Addr × Obj) → Prop} {v : Value} (h : Q (.ret v) s₃) : StepX s0 h₀ L I io J Q (.ret v) s₃ := h

theorem loopW {target : PySem.Expr} {body orelse : List Stmt} {I : Addr} {fp : List Addr} {n : Nat} {P : Nat → Value → Prop} {St : Nat → Heap → Prop} {m : Str → Option Value} {news : List (Addr × Obj)}
    (J : Nat → (Str → Option Value) → List (Addr × Obj) → Prop) (Pio : Obj → Prop)
    (W : Walks prog w A I fp [I] n P St) (hob : ∀ i h, St i h → ∃ o, h.get? I = some o ∧ Pio o)
    (hgo : ∀ i (s' : Shared) v (Q' : Unit → Shared → Prop), St i s'.heap → Q' () s' → wpAny (model prog w) A (letOwnedTupleGo target (.ref I) v) Q' E s')
    (hfp : ∀ b ∈ fp, b = I ∨ (∃ o, h₀.get? b = some o) ∨ ∃ o, ∀ i m news, J i m news → (b, o) ∈ news)
    (hIL : env.locals ≠ I) (hI0 : h₀.get? I = none) (hnw : ∀ p ∈ news, p.1 ≠ I) (hst : St 0 s.heap) (F : Fr h₀ env.locals s.heap m) (N : News h₀ env.locals s.heap news) (h0 : J 0 m news)
    (turn : ∀ i v m₁ news₁ h tk io, Pio io → i < n → P i v → J i m₁ news₁ → (∀ p ∈ news₁, p.1 ≠ I) → Fr h₀ env.locals h m₁ → News h₀ env.locals h (news₁ ++ [(I, io)]) →
      wpAny (model prog w) A (assign target env v) (fun _ s₂ => wpAny (model prog w) A (execs body env) (StepX s h₀ env.locals I io (J (i + 1)) Q) E s₂) E { s with heap := h, toks := tk })
    (done : ∀ m₁ news₁ h tk, J n m₁ news₁ → Fr h₀ env.locals h m₁ → News h₀ env.locals h news₁ → wpAny (model prog w) A (execs orelse env) Q E { s with heap := h, toks := tk })
    (hE : PassesOwn (model prog w) A env E) :
    LoopX prog w A env target body orelse Q E (.ref I) s := by
  have keepF : ∀ {h h₁ : Heap} {m' : Str → Option Value}, (∀ b o, b ∉ [I] → h.get? b = some o → h₁.get? b = some o) → Fr h₀ env.locals h m' → Fr h₀ env.locals h₁ m' := fun hk F' =>
    ⟨F'.ns.at' fun o e => hk _ o (by simpa using hIL) e, fun b o e => hk b o (by
      intro hb
      rw [List.mem_singleton.mp hb, hI0] at e
      cases e) (F'.keep b o e), F'.above⟩
  have keepN : ∀ {h h₁ : Heap} {ns : List (Addr × Obj)}, (∀ b o, b ∉ [I] → h.get? b = some o → h₁.get? b = some o) → (∀ p ∈ ns, p.1 ≠ I) → News h₀ env.locals h ns → News h₀ env.locals h₁ ns := fun hk hn N' p hp =>
    ⟨hk _ _ (by simpa using hn p hp) (N' p hp).1, (N' p hp).2⟩
  refine codeAny_forLoop_any
    (fun k s' => ∃ h' tk m' news' i, s' = { s with heap := h', toks := tk } ∧ St i h' ∧ Fr h₀ env.locals h' m' ∧ News h₀ env.locals h' news' ∧ (∀ p ∈ news', p.1 ≠ I) ∧ J i m' news' ∧ i ≤ n ∧ k = n + 1 - i) ?_ (n + 1)
    ⟨s.heap, s.toks, m, news, 0, rfl, hst, F, N, hnw, h0, Nat.zero_le _, rfl⟩
  rintro k s' ⟨h', tk, m', news', i, rfl, hst', F', N', hnw', hJ, hi, rfl⟩
  by_cases hlt : i < n
  · refine W.item i _ _ _ hlt hst' fun v h₁ tk₁ hP hst₁ hk₁ => ?_
    have F₁ := keepF hk₁ F'
    have N₁ := keepN hk₁ hnw' N'
    obtain ⟨io, hio, hpio⟩ := hob _ _ hst₁
    have N₂ : News h₀ env.locals h₁ (news' ++ [(I, io)]) := by
      intro p hp
      rcases List.mem_append.mp hp with hp | hp
      · exact N₁ p hp
      · rw [List.mem_singleton.mp hp]
        exact ⟨hio, fun e => hIL e.symm, hI0⟩
    refine wpAny_passesOwn hE (hgo (i + 1) _ v _ hst₁ ?_)
    refine wpAny_passesOwn hE (wpAny_mono (turn i v m' news' h₁ tk₁ io hpio hlt hP hJ hnw' F₁ N₂) (fun _ s₂ h₂ => wpAny_passesOwn hE (wpAny_mono h₂ (fun f s₃ h₃ => ?_) fun _ _ e => e)) fun _ _ e => e)
    have fin : (∃ h'' tk'' m'' news'', s₃ = { s with heap := h'', toks := tk'' } ∧ Fr h₀ env.locals h'' m'' ∧ News h₀ env.locals h'' (news'' ++ [(I, io)]) ∧ (∀ p ∈ news'', p.1 ≠ I) ∧ J (i + 1) m'' news'') →
        ∃ k', k' < n + 1 - i ∧ ∃ h' tk m' news' i, s₃ = { s with heap := h', toks := tk } ∧ St i h' ∧ Fr h₀ env.locals h' m' ∧ News h₀ env.locals h' news' ∧ (∀ p ∈ news', p.1 ≠ I) ∧ J i m' news' ∧ i ≤ n ∧ k' = n + 1 - i := by
      rintro ⟨h'', tk'', m'', news'', rfl, F'', N'', hn'', hJ''⟩
      refine ⟨n + 1 - (i + 1), by omega, h'', tk'', m'', news'', i + 1, rfl, ?_, F'', fun p hp => N'' p (List.mem_append_left _ hp), hn'', hJ'', hlt, rfl⟩
      refine W.frame _ _ _ hst₁ fun b hb o e => ?_
      rcases hfp b hb with rfl | ⟨o', ho'⟩ | ⟨o', ho'⟩
      · have : o = io := Option.some.inj (e.symm.trans hio)
        subst this
        exact (N'' _ (List.mem_append_right _ (List.mem_singleton.mpr rfl))).1
      · have : o' = o := Option.some.inj ((F₁.keep b o' ho').symm.trans e)
        exact this ▸ F''.keep b o' ho'
      · have h1 := (N₁ _ (ho' i m' news' hJ)).1
        have : o' = o := Option.some.inj (h1.symm.trans e)
        exact this ▸ (N'' _ (List.mem_append_left _ (ho' _ _ _ hJ''))).1
    cases f with
    | ret v => exact h₃
    | brk => exact h₃
    | cont => exact fin h₃
    | next => exact fin h₃
  · have hin : i = n := by omega
    subst hin
    refine W.done _ _ _ hst' fun h₁ tk₁ hk₁ => wpAny_passesOwn hE ?_
    exact done m' news' h₁ tk₁ hJ (keepF hk₁ F') (keepN hk₁ hnw' N')

theorem iter_rangeX {target : PySem.Expr} {body orelse : List Stmt} {r : Addr} {a₀ b₀ : Int} {t₀ u₀ v₀ : Tok} {n : Nat} {m : Str → Option Value} {news : List (Addr × Obj)}
    (J : Nat → (Str → Option Value) → List (Addr × Obj) → Prop)
    (hh : A.handled = none) (hr : IsRange s.heap r a₀ b₀ 1 t₀ u₀ v₀) (hsmall : Builtin.Range.small a₀ b₀ 1 = true) (hn : Builtin.Range.rangeSize a₀ b₀ 1 = (n : Int))
    (F : Fr h₀ env.locals s.heap m) (N : News h₀ env.locals s.heap news) (h0 : J 0 m news)
    (turn : ∀ I i t m₁ news₁ h tk io, (∀ p ∈ news, p.1 < I) → i < n → J i m₁ news₁ → (∀ p ∈ news₁, p.1 ≠ I) → Fr h₀ env.locals h m₁ → News h₀ env.locals h (news₁ ++ [(I, io)]) →
      wpAny (model prog w) A (assign target env (.int (a₀ + (i : Int)) t)) (fun _ s₂ => wpAny (model prog w) A (execs body env) (StepX s h₀ env.locals I io (J (i + 1)) Q) E s₂) E { s with heap := h, toks := tk })
    (done : ∀ m₁ news₁ h tk, J n m₁ news₁ → Fr h₀ env.locals h m₁ → News h₀ env.locals h news₁ → wpAny (model prog w) A (execs orelse env) Q E { s with heap := h, toks := tk })
    (hgo : ∀ (x : Value) v, letOwnedTupleGo target x v = pure ())
    (hE : PassesOwn (model prog w) A env E) :
    wpAny (model prog w) A (pyIter (.ref r)) (fun it s₂ => LoopX prog w A env target body orelse Q E it s₂) E s := by
  refine wpAny_pyIter_range hr hsmall ?_
  have W : Walks prog w A s.heap.objs.size [s.heap.objs.size] [s.heap.objs.size] n (fun i v => i < n ∧ ∃ t, v = .int (a₀ + i * 1) t)
      (fun i h => IsRangeIter h s.heap.objs.size (a₀ + (i : Nat) * 1) ((n : Int) - (i : Nat)) 1) := (Walks.range hh _ a₀ 1 n).bound
  refine loopW J (fun _ => True) W (fun _ _ h => ⟨_, h, trivial⟩) (fun i s' v Q' _ hQ' => wpAny_of_eq (hgo _ _) hQ') (fun b hb => .inl (List.mem_singleton.mp hb)) (Nat.ne_of_lt F.ns.lt) (next_is_new F)
    (fun p hp => Nat.ne_of_lt (Heap.lt_size (N p hp).1)) (by show IsRangeIter _ _ _ _ _; rw [hn]; simpa using Heap.get?_push_size _ rfl) (F.push _) (fun p hp => ⟨Heap.get?_push_of_some _ (N p hp).1, (N p hp).2⟩) h0 ?_ ?_ hE
  · rintro i v m₁ news₁ h tk io _ hi ⟨_, t, rfl⟩ hJ hnw F₁ N₁
    have e1 : a₀ + (i : Int) * 1 = a₀ + (i : Int) := by omega
    rw [e1]
    exact turn _ i t m₁ news₁ h tk io (fun p hp => Heap.lt_size (N p hp).1) hi hJ hnw F₁ N₁
  · exact done

theorem iter_listX {target : PySem.Expr} {body orelse : List Stmt} {l : Addr} {vs : List Value} {nn : Nat} {m : Str → Option Value} {news : List (Addr × Obj)}
    (J : Nat → (Str → Option Value) → List (Addr × Obj) → Prop)
    (hh : A.handled = none) (hl : ∀ i m news, J i m news → (l, listOf vs.toArray nn) ∈ news)
    (F : Fr h₀ env.locals s.heap m) (N : News h₀ env.locals s.heap news) (h0 : J 0 m news)
    (turn : ∀ I i v m₁ news₁ h tk io, (∀ p ∈ news, p.1 < I) → vs[i]? = some v → J i m₁ news₁ → (∀ p ∈ news₁, p.1 ≠ I) → Fr h₀ env.locals h m₁ → News h₀ env.locals h (news₁ ++ [(I, io)]) →
      wpAny (model prog w) A (assign target env v) (fun _ s₂ => wpAny (model prog w) A (execs body env) (StepX s h₀ env.locals I io (J (i + 1)) Q) E s₂) E { s with heap := h, toks := tk })
    (done : ∀ m₁ news₁ h tk, J vs.length m₁ news₁ → Fr h₀ env.locals h m₁ → News h₀ env.locals h news₁ → wpAny (model prog w) A (execs orelse env) Q E { s with heap := h, toks := tk })
    (hE : PassesOwn (model prog w) A env E) :
    wpAny (model prog w) A (pyIter (.ref l)) (fun it s₂ => LoopX prog w A env target body orelse Q E it s₂) E s := by
  have hol : s.heap.get? l = some (listOf vs.toArray nn) := (N _ (hl _ _ _ h0)).1
  have hls : s.heap.IsList l vs.toArray := ⟨_, hol, rfl, nn, rfl⟩
  have hne : l ≠ s.heap.objs.size := Nat.ne_of_lt (Heap.lt_size hol)
  refine wpAny_pyIter_list hls ?_
  have W := Walks.list (prog := prog) (w := w) hh s.heap.objs.size l hne vs.toArray
  have hlen : vs.toArray.size = vs.length := by simp
  rw [hlen] at W
  refine loopW J (fun _ => True) W (fun _ _ h => let ⟨o, ho, _⟩ := h.1; ⟨o, ho, trivial⟩) (fun i s' v Q' st hQ' => letGo_listiter st.1 hQ') ?_ (Nat.ne_of_lt F.ns.lt) (next_is_new F)
    (fun p hp => Nat.ne_of_lt (Heap.lt_size (N p hp).1)) ⟨⟨_, Heap.get?_push_size _ rfl, rfl, rfl⟩, hls.at fun o e => Heap.get?_push_of_some _ e⟩ (F.push _) (fun p hp => ⟨Heap.get?_push_of_some _ (N p hp).1, (N p hp).2⟩) h0 ?_ ?_ hE
  · intro b hb
    rcases List.mem_cons.mp hb with rfl | hb
    · exact .inl rfl
    · rw [List.mem_singleton.mp hb]
      exact .inr (.inr ⟨_, hl⟩)
  · intro i v m₁ news₁ h tk io _ hi hP hJ hnw F₁ N₁
    exact turn _ i v m₁ news₁ h tk io (fun p hp => Heap.lt_size (N p hp).1) (by simpa using hP) hJ hnw F₁ N₁
  · exact done
theorem iter_listXc {target : PySem.Expr} {body orelse : List Stmt} {l : Addr} {vs : List Value} {nn : Nat} {m : Str → Option Value} {news : List (Addr × Obj)}
    (J : Nat → (Str → Option Value) → List (Addr × Obj) → Prop)
    (hh : A.handled = none) (hl : ∀ i m news, J i m news → (l, listOf vs.toArray nn) ∈ news)
    (F : Fr h₀ env.locals s.heap m) (N : News h₀ env.locals s.heap news) (h0 : J 0 m news)
    (turn : ∀ I i v m₁ news₁ h tk io, io.cls = .type "list_iterator" → (∀ p ∈ news, p.1 < I) → vs[i]? = some v → J i m₁ news₁ → (∀ p ∈ news₁, p.1 ≠ I) → Fr h₀ env.locals h m₁ → News h₀ env.locals h (news₁ ++ [(I, io)]) →
      wpAny (model prog w) A (assign target env v) (fun _ s₂ => wpAny (model prog w) A (execs body env) (StepX s h₀ env.locals I io (J (i + 1)) Q) E s₂) E { s with heap := h, toks := tk })
    (done : ∀ m₁ news₁ h tk, J vs.length m₁ news₁ → Fr h₀ env.locals h m₁ → News h₀ env.locals h news₁ → wpAny (model prog w) A (execs orelse env) Q E { s with heap := h, toks := tk })
    (hE : PassesOwn (model prog w) A env E) :
    wpAny (model prog w) A (pyIter (.ref l)) (fun it s₂ => LoopX prog w A env target body orelse Q E it s₂) E s := by
  have hol : s.heap.get? l = some (listOf vs.toArray nn) := (N _ (hl _ _ _ h0)).1
  have hls : s.heap.IsList l vs.toArray := ⟨_, hol, rfl, nn, rfl⟩
  have hne : l ≠ s.heap.objs.size := Nat.ne_of_lt (Heap.lt_size hol)
  refine wpAny_pyIter_list hls ?_
  have W := Walks.list (prog := prog) (w := w) hh s.heap.objs.size l hne vs.toArray
  have hlen : vs.toArray.size = vs.length := by simp
  rw [hlen] at W
  refine loopW J (fun o => o.cls = .type "list_iterator") W (fun _ _ h => let ⟨o, ho, hc, _⟩ := h.1; ⟨o, ho, hc⟩) (fun i s' v Q' st hQ' => letGo_listiter st.1 hQ') ?_ (Nat.ne_of_lt F.ns.lt) (next_is_new F)
    (fun p hp => Nat.ne_of_lt (Heap.lt_size (N p hp).1)) ⟨⟨_, Heap.get?_push_size _ rfl, rfl, rfl⟩, hls.at fun o e => Heap.get?_push_of_some _ e⟩ (F.push _) (fun p hp => ⟨Heap.get?_push_of_some _ (N p hp).1, (N p hp).2⟩) h0 ?_ ?_ hE
  · intro b hb
    rcases List.mem_cons.mp hb with rfl | hb
    · exact .inl rfl
    · rw [List.mem_singleton.mp hb]
      exact .inr (.inr ⟨_, hl⟩)
  · intro i v m₁ news₁ h tk io hio hi hP hJ hnw F₁ N₁
    exact turn _ i v m₁ news₁ h tk io hio (fun p hp => Heap.lt_size (N p hp).1) (by simpa using hP) hJ hnw F₁ N₁
  · exact done
end
theorem upd_eq {ps : List (Str × Value)} {stored : List Str} {m m₀ : Str → Option Value} (h1 : ∀ p ∈ ps, m p.1 = some p.2) (h2 : ∀ z, (∀ p ∈ ps, z ≠ p.1) → stored.contains z = false → m z = m₀ z) :
    m = kstB (fun z => if stored.contains z then m z else m₀ z) ps := by
  funext z
  refine (kstB_eq h1 fun hn => ?_).symm
  show (if stored.contains z = true then m z else m₀ z) = m z
  cases h3 : stored.contains z with
  | true => simp
  | false => simp only [Bool.false_eq_true, if_false]; exact (h2 z hn h3).symm
theorem upd_start {ps : List (Str × Value)} {stored : List Str} {m : Str → Option Value} (h1 : ∀ p ∈ ps, m p.1 = some p.2) :
    m = kstB (fun z => if stored.contains z then m z else m z) ps := upd_eq h1 fun _ _ _ => rfl
theorem ne_cls {h₀ h : Heap} {L a b : Addr} {oa ob : Obj} {news : List (Addr × Obj)} (N : News h₀ L h news) (ma : (a, oa) ∈ news) (mb : (b, ob) ∈ news) (hc : oa.cls ≠ ob.cls) : a ≠ b := by
  rintro rfl
  have e := Option.some.inj ((N _ ma).1.symm.trans (N _ mb).1)
  exact hc (congrArg Obj.cls e)
theorem frName {h₀ h : Heap} {L : Addr} {m : Str → Option Value} (F : Fr h₀ L h m) : ∃ m', m' = m ∧ Fr h₀ L h m' := ⟨m, rfl, F⟩
theorem nwName {h₀ h : Heap} {L a : Addr} {o : Obj} {r : List (Addr × Obj)} (_ : News h₀ L h ((a, o) :: r)) : ∃ b, b = a := ⟨a, rfl⟩
theorem nwAll {h₀ h : Heap} {L : Addr} {r : List (Addr × Obj)} (N : News h₀ L h r) : ∃ l, l = r ∧ News h₀ L h l := ⟨r, rfl, N⟩
theorem nwAt {l r : List (Addr × Obj)} {q : Addr × Obj} (e : l = r) (hq : q ∈ r) : q ∈ l := e ▸ hq
theorem drop_item {α : Type} {l : List α} {i : Nat} {x : α} (h : l[i]? = some x) : l.drop i = x :: l.drop (i + 1) := by
  obtain ⟨hl, e⟩ := List.getElem?_eq_some_iff.mp h
  rw [List.drop_eq_getElem_cons hl, e]
theorem frKst {h₀ h : Heap} {L : Addr} {m : Str → Option Value} {ps : List (Str × Value)} (F : Fr h₀ L h m) (h1 : ∀ p ∈ ps, m p.1 = some p.2) : Fr h₀ L h (kstB m ps) := by
  have e : kstB m ps = m := funext fun z => kstB_eq h1 fun _ => rfl
  rw [e]; exact F
theorem nwName2 {h₀ h : Heap} {L a : Addr} {o : Obj} {p : Addr × Obj} {r : List (Addr × Obj)} (_ : News h₀ L h (p :: (a, o) :: r)) : ∃ b, b = a := ⟨a, rfl⟩
theorem nwSub {h₀ h : Heap} {L : Addr} {l l' : List (Addr × Obj)} (N : News h₀ L h l) (hs : ∀ p ∈ l', p ∈ l) : News h₀ L h l' := fun p hp => N p (hs p hp)
theorem objName {o : Obj} {d : Data} (_ : o.data = d) : ∃ b, b = o := ⟨o, rfl⟩
end Mine
end
section
open PySem PySem.W PyProof.Rows PySem.Calls PySem.Spec PyProof.V
namespace Mine
noncomputable abbrev Lo : List Str := looseW hd.view_39 [Str.ofString "COMPILER_FLAG_NAMES", Str.ofString "_twin_re_1", Str.ofString "_twin_re_2"]
def lawPick (p : Program) : Option (List Stmt × Scope) := match p.main.body.getLast? with
  | some (.FunctionDef _ _ b _ _ _ sc _ _ _) => some (b, sc)
  | _ => none
noncomputable def lawBody : List Stmt := match lawPick Challenge.pw_re0025_01 with | some x => x.1 | none => []
noncomputable def lawScope : Scope := match lawPick Challenge.pw_re0025_01 with | some x => x.2 | none => default
noncomputable abbrev lawEnv (L fa : Addr) (cd : Value) : Env := envOfC (Str.ofString "law") lawScope L fa cd
end Mine
end
section
open PySem PySem.W PyProof.Rows PySem.Calls PySem.Spec PyProof.V
namespace Mine
def words : List Str := [Str.ofString "OPTIMIZED", Str.ofString "NEWLOCALS", Str.ofString "VARARGS", Str.ofString "VARKEYWORDS", Str.ofString "NESTED", Str.ofString "GENERATOR", Str.ofString "NOFREE", Str.ofString "COROUTINE", Str.ofString "ITERABLE_COROUTINE", Str.ofString "ASYNC_GENERATOR", Str.ofString "0x400", Str.ofString "0x800", Str.ofString "0x1000", Str.ofString "0x2000", Str.ofString "0x4000"]
def labelF (i : Nat) : Str := words.getD i (Str.ofString "")
def namesF (n : Nat) : Nat → List Str
  | 0 => []
  | i + 1 => namesF n i ++ (if n.testBit i then [labelF i] else [])
theorem testBit_low (n i : Nat) : (n / 2 ^ i * 2 ^ i).testBit i = n.testBit i := by
  rw [← Nat.shiftRight_eq_div_pow, ← Nat.shiftLeft_eq]
  simp
theorem and_pow (n i : Nat) : (n / 2 ^ i * 2 ^ i) &&& 2 ^ i = if n.testBit i then 2 ^ i else 0 := by
  apply Nat.eq_of_testBit_eq
  intro j
  rw [Nat.testBit_and, Nat.testBit_two_pow]
  by_cases h : i = j
  · subst h
    rw [testBit_low]
    cases n.testBit i <;> simp
  · simp only [h, decide_false, Bool.and_false]
    split
    · rw [Nat.testBit_two_pow]; simp [h]
    · simp
theorem half_bit (n i : Nat) : n / 2 ^ i = 2 * (n / 2 ^ (i + 1)) + (n.testBit i).toNat := by
  have h : n / 2 ^ (i + 1) = n / 2 ^ i / 2 := by rw [Nat.pow_succ, Nat.div_div_eq_div_mul]
  rw [h, Nat.toNat_testBit]
  omega
theorem next_bit (n i : Nat) : n / 2 ^ i * 2 ^ i = n / 2 ^ (i + 1) * 2 ^ (i + 1) + (n.testBit i).toNat * 2 ^ i := by
  rw [half_bit n i, Nat.add_mul, Nat.pow_succ, Nat.mul_comm (n / (2 ^ i * 2)) (2 ^ i * 2), Nat.mul_comm 2 (n / (2 ^ i * 2)), Nat.mul_assoc, Nat.mul_comm (n / (2 ^ i * 2)) (2 * 2 ^ i), Nat.mul_comm 2 (2 ^ i)]
theorem bit_lt {n i : Nat} (h : n < 32768) (hb : n.testBit i = true) : i < 15 := by
  rcases Nat.lt_or_ge i 15 with h1 | h1
  · exact h1
  · have : n < 2 ^ i := Nat.lt_of_lt_of_le h (show 2 ^ 15 ≤ 2 ^ i from Nat.pow_le_pow_right (by decide) h1)
    rw [Nat.testBit_lt_two_pow this] at hb
    cases hb
theorem one_pow (i : Nat) : (1 * 2 ^ (0 + (i : Int)).toNat : Int) = ((2 ^ i : Nat) : Int) := by
  rw [Int.one_mul]
  have : (0 + (i : Int)).toNat = i := by omega
  rw [this]; push_cast; rfl
theorem bitAnd_nat (a b : Nat) : Builtin.bitAnd (a : Int) (b : Int) = ((a &&& b : Nat) : Int) := by
  unfold Builtin.bitAnd
  rw [decide_eq_true (show (0 : Int) ≤ (a : Int) by omega), decide_eq_true (show (0 : Int) ≤ (b : Int) by omega)]
  rfl
theorem flag_and (n i : Nat) : Builtin.bitAnd ((n / 2 ^ i * 2 ^ i : Nat) : Int) (1 * 2 ^ (0 + (i : Int)).toNat) = if n.testBit i then ((2 ^ i : Nat) : Int) else 0 := by
  rw [one_pow, bitAnd_nat, and_pow]
  split <;> rfl
theorem flag_xor {n i : Nat} (hb : n.testBit i = true) : Builtin.bitXor ((n / 2 ^ i * 2 ^ i : Nat) : Int) (1 * 2 ^ (0 + (i : Int)).toNat) = ((n / 2 ^ (i + 1) * 2 ^ (i + 1) : Nat) : Int) := by
  rw [bitXor_and, flag_and, one_pow, next_bit n i, hb]
  simp only [if_true, Bool.toNat_true, Nat.one_mul]
  push_cast
  omega
theorem hex_len {i : Nat} (hi : i < 15) : (baseText "0x" 16 (1 * 2 ^ (0 + (i : Int)).toNat)).length ≤ sizeLine := by
  rw [one_pow, sizeLine_eq]
  have : ∀ j : Fin 15, (baseText "0x" 16 ((2 ^ j.1 : Nat) : Int)).length ≤ 100 := by decide +kernel
  have q : (baseText "0x" 16 ((2 ^ i : Nat) : Int)).length ≤ 100 := this ⟨i, hi⟩
  omega
def DD : List (Int × PyData) := [(1, PyData.str { cps := #[79, 80, 84, 73, 77, 73, 90, 69, 68] }), (2, PyData.str { cps := #[78, 69, 87, 76, 79, 67, 65, 76, 83] }), (4, PyData.str { cps := #[86, 65, 82, 65, 82, 71, 83] }), (8, PyData.str { cps := #[86, 65, 82, 75, 69, 89, 87, 79, 82, 68, 83] }), (16, PyData.str { cps := #[78, 69, 83, 84, 69, 68] }), (32, PyData.str { cps := #[71, 69, 78, 69, 82, 65, 84, 79, 82] }), (64, PyData.str { cps := #[78, 79, 70, 82, 69, 69] }), (128, PyData.str { cps := #[67, 79, 82, 79, 85, 84, 73, 78, 69] }), (256, PyData.str { cps := #[73, 84, 69, 82, 65, 66, 76, 69, 95, 67, 79, 82, 79, 85, 84, 73, 78, 69] }), (512, PyData.str { cps := #[65, 83, 89, 78, 67, 95, 71, 69, 78, 69, 82, 65, 84, 79, 82] })]
def isTheStr (d : PyData) (x : Str) : Bool := match d with | .str y => y == x | _ => false
theorem isTheStr_eq {d : PyData} {x : Str} (h : isTheStr d x = true) : d = .str x := by
  unfold isTheStr at h
  split at h
  · rw [beq_iff_eq.mp h]
  · cases h
theorem flat_label {i : Nat} (hi : i < 15) {v : Value} (h : Flat v ((lookup (PyData.int (1 * 2 ^ (0 + (i : Int)).toNat)) (DD.map fun p => (PyData.int p.1, p.2))).getD (PyData.str (baseText "0x" 16 (1 * 2 ^ (0 + (i : Int)).toNat))))) :
    ∃ t, v = .str (labelF i) t := by
  rw [one_pow] at h
  have q : ∀ j : Fin 15, isTheStr ((lookup (PyData.int ((2 ^ j.1 : Nat) : Int)) (DD.map fun p => (PyData.int p.1, p.2))).getD (PyData.str (baseText "0x" 16 ((2 ^ j.1 : Nat) : Int)))) (labelF j.1) = true := by decide +kernel
  have q' : (lookup (PyData.int ((2 ^ i : Nat) : Int)) (DD.map fun p => (PyData.int p.1, p.2))).getD (PyData.str (baseText "0x" 16 ((2 ^ i : Nat) : Int))) = PyData.str (labelF i) := isTheStr_eq (q ⟨i, hi⟩)
  rw [q'] at h
  exact Flat.str_inv h
def prettyF (n : Nat) : Str := if n = 0 then Str.ofString "0x0" else Txt.join (Str.ofString ", ") (namesF n 15)
theorem label_len (i : Nat) : (labelF i).length ≤ 20 := by
  rcases Nat.lt_or_ge i 15 with h | h
  · have : ∀ j : Fin 15, (labelF j.1).length ≤ 20 := by decide +kernel
    exact this ⟨i, h⟩
  · unfold labelF
    rw [List.getD_eq_getElem?_getD, List.getElem?_eq_none (show words.length ≤ i from h)]
    decide +kernel
theorem names_weight (n j : Nat) : ((namesF n j).map (·.length)).sum + (namesF n j).length ≤ 21 * j := by
  induction j with
  | zero => simp [namesF]
  | succ j ih =>
    unfold namesF
    have := label_len j
    split
    · simp only [List.map_append, List.sum_append, List.map_cons, List.map_nil, List.sum_cons, List.sum_nil, List.length_append, List.length_cons, List.length_nil]
      omega
    · simp only [List.append_nil]; omega
theorem names_top {n j : Nat} (h : n < 2 ^ j) : ∀ d, namesF n (j + d) = namesF n j
  | 0 => rfl
  | d + 1 => by
    show namesF n (j + d) ++ (if n.testBit (j + d) then [labelF (j + d)] else []) = _
    rw [names_top h d, Nat.testBit_lt_two_pow (Nat.lt_of_lt_of_le h (Nat.pow_le_pow_right (by decide) (Nat.le_add_right j d)))]
    simp
theorem pretty_end {n i : Nat} (hi : i < 15) (h0 : n / 2 ^ (i + 1) = 0) (hn : n ≠ 0) : Txt.join (Str.ofString ", ") (namesF n (i + 1)) = prettyF n := by
  unfold prettyF
  rw [if_neg hn]
  have hl : n < 2 ^ (i + 1) := by
    have hp : 0 < 2 ^ (i + 1) := Nat.pow_pos (by decide)
    have := (Nat.div_eq_zero_iff).mp h0
    omega
  have : i + 1 + (15 - (i + 1)) = 15 := by omega
  rw [← names_top hl (15 - (i + 1)), this]
end Mine
end
section
open PySem PySem.W PyProof.Rows PySem.Calls PySem.Spec PyProof.V
namespace Mine
open PySem.F
theorem slot_sub : Slot "re.Pattern" "sub" "re.Pattern.sub" :=
  .of (owner := "re.Pattern") (n := "sub") (by rw [typeLookup_type, builtinLookup_eq_fast]; kernel_rfl) (by decide +kernel) (by decide +kernel) (by decide +kernel)
    (by first | exact .inl (by decide +kernel) | exact .inr (by decide +kernel)) (by rw [isSubtype_type]; kernel_rfl)
theorem type_sub : typeOf (.builtin "re.Pattern.sub") = pure (.type "method_descriptor") := by show builtinType _ = _; rw [builtinType_eq_fast]; kernel_rfl
theorem entry_sub : entryFor table "re.Pattern.sub" = some Builtin.«re.Pattern.sub» := entryFor_of_tree (by kernel_rfl)
theorem entry_subloop : entryFor table "re.Pattern.sub.loop" = some Builtin.«re.Pattern.sub.loop» := entryFor_of_tree (by kernel_rfl)
theorem plainAttrs_pat : PlainAttrs "re.Pattern" :=
  ⟨⟨"object.__getattribute__", by rw [typeLookup_type, builtinLookup_eq_fast]; kernel_rfl, by decide +kernel⟩, by rw [typeLookup_type, builtinLookup_eq_fast]; kernel_rfl⟩
theorem owner_pat : Manifest.owners.lookup (String.ofList ['n', 'r', 'e', 't', 't', 'a', 'P', '.', 'e', 'r'].reverse) = some Manifest.sig_re_Pattern := by kernel_rfl
theorem args_sub (a b c : Value) : argsOk "re.Pattern.sub" ⟨[a, b, c], []⟩ := by
  unfold argsOk; rw [signature?_of (id := "re.Pattern.sub") (n := ['b', 'u', 's']) (o := ['n', 'r', 'e', 't', 't', 'a', 'P', '.', 'e', 'r']) (by kernel_rfl) owner_pat]; kernel_rfl
theorem no_call_str : typeLookup (.type "str") (Str.ofString "__call__") = pure none := by rw [typeLookup_type, builtinLookup_eq_fast]; kernel_rfl
def ruleStep {α : Type} (t : Sem α) : Option (α ⊕ Sem α) := match t with
  | .pure a => some (.inl a)
  | .rule _ k => some (.inr (k ()))
  | _ => none
def ruleEnd {α : Type} : Nat → Sem α → Option α
  | 0, _ => none
  | n + 1, t => match ruleStep t with
    | some (.inl a) => some a
    | some (.inr t') => ruleEnd n t'
    | none => none
theorem ruleStep_wp {α : Type} {M : Model} {A : Around} {E : Value → Shared → Prop} {s : Shared} {Q : α → Shared → Prop} {t t' : Sem α} (h : ruleStep t = some (.inr t')) (x : wpAny M A t' Q E s) : wpAny M A t Q E s := by
  cases t with
  | rule tag k =>
    have e : k () = t' := Sum.inr.inj (Option.some.inj h)
    exact wpAny_bind (m := rule tag) (f := k) (wpAny_rule (by rw [e]; exact x))
  | _ => cases h
theorem ruleEnd_wp {α : Type} {M : Model} {A : Around} {E : Value → Shared → Prop} {s : Shared} {Q : α → Shared → Prop} {a : α} : ∀ (n : Nat) (t : Sem α), ruleEnd n t = some a → Q a s → wpAny M A t Q E s := by
  intro n
  induction n with
  | zero => intro t h _; cases h
  | succ n ih =>
    intro t h hQ
    unfold ruleEnd at h
    cases e : ruleStep t with
    | none => rw [e] at h; cases h
    | some r =>
      rw [e] at h
      cases r with
      | inl b =>
        cases h
        have : t = .pure a := by
          cases t with
          | pure b => have q := Sum.inl.inj (Option.some.inj e); rw [q]
          | _ => cases e
        rw [this]
        exact wpAny_pure hQ
      | inr t' => exact ruleStep_wp e (ih t' h hQ)
open PySem.Builtin PySem.Builtin.Re in
def found (code text : Array Nat) (start : Nat) : Option (Option (Nat × Nat)) :=
  (ruleEnd 2000 (reRunToEnd (Sre.forSearch code text 0 start text.size false))).map fun o => o.map fun m => (m.start, m.handed)
end Mine
end
section
open PySem PySem.W PyProof.Rows PySem.Calls PySem.Spec PyProof.V
namespace Mine
open PySem.Builtin PySem.Builtin.Re
def patObj (pat : Value) (fl : Value) (c : Addr) : Obj := { cls := .type "re.Pattern", data := .fields #[pat, fl, .int 0 0, .none, .none, .ref c, .int 0 0] }
section
variable {prog : Program} {w : World} {A : Around} {E : Value → Shared → Prop} {s : Shared}
theorem whole_target {p c : Addr} {pat fl : Value} {cv : Array Value} {n : Nat} {x : Str} {t : Tok} {code : Array Nat} {Q : ReTarget → Shared → Prop}
    (hp : s.heap.get? p = some (patObj pat fl c)) (hc : s.heap.get? c = some { cls := .type "tuple", data := .seq cv n }) (hcode : (cv.map reRawOf).map (·.toNat) = code)
    (hQ : Q { pattern := .ref p, string := .str x t, code := code, text := x.cps, kind := 0, groups := 0, pos := 0, lim := x.cps.size } s) :
    wpAny (model prog w) A (reWholeTarget (.ref p) (.str x t)) Q E s := by
  unfold reWholeTarget
  refine wpAny_bind (wpAny_fieldsOf hp rfl ?_)
  refine wpAny_bind (wpAny_of_eq (a := (x.cps, 0)) rfl ?_)
  show wpAny _ _ (reNoCollectionInside (.str x t) 0 >>= _) _ _ s
  refine wpAny_bind (wpAny_of_eq (a := ()) rfl ?_)
  show wpAny _ _ (reRawItems (.ref c) >>= _) _ _ s
  refine wpAny_bind ?_
  unfold reRawItems
  refine wpAny_bind (wpAny_seqItems hc rfl ?_)
  refine wpAny_pure (wpAny_pure ?_)
  have e : Array.map (fun i => i.toNat) (Array.map reRawOf ((some cv).getD #[])) = code := hcode
  rw [e]
  exact hQ
theorem push_list {l : Addr} {items : Array Value} {v : Value} {Q : Unit → Shared → Prop} (hl : s.heap.IsList l items) (hsz : items.size ≤ 100)
    (hQ : ∀ h', h'.IsList l (items.push v) → Heap.SameBut l s.heap h' → Q () { s with heap := h' }) : wpAny (model prog w) A (updateSeq l (·.push v)) Q E s := by
  obtain ⟨o, ho, hc, n, hd⟩ := id hl
  obtain ⟨n', hd'⟩ := Obj.data_mapSeq hd (·.push v)
  refine wpAny_updateSeq ho hd (hQ _ ?_ (Heap.SameBut.update ..)) (by rw [sizeLine_eq]; omega) (by rw [Array.size_push, sizeLine_eq]; omega)
  exact ⟨_, Heap.get?_update_self _ ho (Obj.isFreed_of_seq hd'), (Obj.cls_mapSeq ..).trans hc, n', hd'⟩
theorem slice_wp {x : Str} {b e : Nat} {Q : Value → Shared → Prop} (hx : x.length ≤ 100) (hQ : Q (.str ⟨x.cps.extract b e⟩ s.toks) { s with toks := s.toks + 1 }) : wpAny (model prog w) A (reSlice x.cps 0 b e) Q E s := by
  show wpAny _ _ (mkStr ⟨x.cps.extract b e⟩) _ _ s
  refine wpAny_mkStr' hQ ?_
  rw [sizeLine_eq]
  have h1 : (Str.mk (x.cps.extract b e)).length = (x.cps.extract b e).size := rfl
  have h2 : x.length = x.cps.size := rfl
  rw [h1, Array.size_extract]
  omega
theorem found_wp {code text : Array Nat} {start : Nat} {r : Option (Nat × Nat)} {Q : Option Sre.M → Shared → Prop} (h : found code text start = some r)
    (hQ : ∀ o : Option Sre.M, (o.map fun m => (m.start, m.handed)) = r → Q o s) : wpAny (model prog w) A (reRunToEnd (Sre.forSearch code text 0 start text.size false)) Q E s := by
  unfold found at h
  cases e : ruleEnd 2000 (reRunToEnd (Sre.forSearch code text 0 start text.size false)) with
  | none => rw [e] at h; cases h
  | some o =>
    rw [e] at h
    exact ruleEnd_wp 2000 _ e (hQ o (Option.some.inj h))
abbrev loopArgs (p : Addr) (x : Str) (t : Tok) (r : Str) (tr : Tok) (n done start : Int) (must : Bool) (l : Addr) : Args :=
  ⟨[.ref p, .str x t, .str r tr, rawInt 0, rawInt 0, rawInt n, rawInt done, rawInt start, .bool must, .ref l, .bool false], []⟩
theorem code_loop {R : Result → Shared → Prop} {args : Args} (h : wpAny (model prog w) A.in1 (Builtin.«re.Pattern.sub.loop» args) (fun fin s' => match fin with | .done f => R (.ok f) s' | .again c' => c'.quiet = true ∧ codeAny (model prog w) A c' R s') (fun e s' => R (.error e) s') s) :
    codeAny (model prog w) A (.builtin "re.Pattern.sub.loop" args) R s := by
  refine codeAny_builtin entry_subloop ?_
  rw [Around.under_plainId (by decide +kernel)]
  exact h
theorem loop_some {R : Result → Shared → Prop} {p c l : Addr} {pat fl : Value} {cv : Array Value} {nn : Nat} {x r : Str} {t tr : Tok} {code : Array Nat} {n : Int} {done start b e : Nat} {items : Array Value}
    (hp : s.heap.get? p = some (patObj pat fl c)) (hc : s.heap.get? c = some { cls := .type "tuple", data := .seq cv nn }) (hcode : (cv.map reRawOf).map (·.toNat) = code)
    (hl : s.heap.IsList l items) (hsz : items.size ≤ 50) (hx : x.length ≤ 100) (hf : found code x.cps start = some (some (b, e)))
    (h : ∀ h' tk, h'.IsList l ((if done < b then items.push (.str ⟨x.cps.extract done b⟩ s.toks) else items).push (.str r tr)) → Heap.SameBut l s.heap h' →
      codeAny (model prog w) A (.builtin "re.Pattern.sub.loop" (loopArgs p x t r tr (n + 1) e e (e == b) l)) R { s with heap := h', toks := tk }) :
    codeAny (model prog w) A (.builtin "re.Pattern.sub.loop" (loopArgs p x t r tr n done start false l)) R s := by
  refine code_loop ?_
  show wpAny _ _ (reWholeTarget (.ref p) (.str x t) >>= _) _ _ s
  refine wpAny_bind (whole_target hp hc hcode ?_)
  show wpAny _ _ (reRunToEnd (Sre.forSearch code x.cps 0 (Int.toNat start) x.cps.size false) >>= _) _ _ s
  rw [Int.toNat_natCast]
  refine wpAny_bind (found_wp hf fun o ho => ?_)
  cases o with
  | none => cases ho
  | some m =>
    have e1 : m.start = b := congrArg Prod.fst (Option.some.inj ho)
    have e2 : m.handed = e := congrArg Prod.snd (Option.some.inj ho)
    dsimp only
    rw [e1, e2, Int.toNat_natCast]
    have fin : ∀ (h1 : Heap) (tk : Nat) (its : Array Value), h1.IsList l its → its.size ≤ 51 → Heap.SameBut l s.heap h1 → its = (if done < b then items.push (.str ⟨x.cps.extract done b⟩ s.toks) else items) →
        wpAny (model prog w) A.in1 (updateSeq l (·.push (Value.str r tr)) >>= fun _ => again (.builtin "re.Pattern.sub.loop" (loopArgs p x t r tr (n + 1) e e (e == b) l)))
          (fun fin s' => match fin with | .done f => R (.ok f) s' | .again c' => c'.quiet = true ∧ codeAny (model prog w) A c' R s') (fun e s' => R (.error e) s') { s with heap := h1, toks := tk } := by
      intro h1 tk its hl1 hs1 hb1 hi1
      refine wpAny_bind (push_list hl1 (by omega) fun h2 hl2 hb2 => wpAny_pure ⟨plainId_quiet (by decide +kernel) _, ?_⟩)
      exact h h2 tk (by rw [← hi1]; exact hl2) (hb1.trans hb2)
    by_cases hd : done < b
    · rw [if_pos hd]
      refine wpAny_bind (slice_wp hx ?_)
      refine wpAny_bind (push_list hl (by omega) fun h1 hl1 hb1 => ?_)
      exact fin h1 _ _ hl1 (by rw [Array.size_push]; omega) hb1 (by rw [if_pos hd])
    · rw [if_neg hd]
      exact fin s.heap s.toks items hl (by omega) (.refl ..) (by rw [if_neg hd])
theorem loop_none {R : Result → Shared → Prop} {p c l : Addr} {pat fl : Value} {cv : Array Value} {nn : Nat} {x r : Str} {t tr : Tok} {code : Array Nat} {n : Int} {done start : Nat} {items : Array Value} {ys : List Str}
    (hp : s.heap.get? p = some (patObj pat fl c)) (hc : s.heap.get? c = some { cls := .type "tuple", data := .seq cv nn }) (hcode : (cv.map reRawOf).map (·.toNat) = code)
    (hl : s.heap.IsList l items) (hsz : items.size ≤ 50) (h0 : 0 < items.size) (hys : StrsAre items.toList ys) (hw : (ys.map (·.length)).sum + ys.length ≤ 1000) (hx : x.length ≤ 100) (hf : found code x.cps start = some none)
    (h : ∀ h' tk t', Heap.SameBut l s.heap h' → R (.ok (.ret (.str (Txt.join (Str.ofString "") (if done < x.cps.size then ys ++ [⟨x.cps.extract done x.cps.size⟩] else ys)) t'))) { s with heap := h', toks := tk }) :
    codeAny (model prog w) A (.builtin "re.Pattern.sub.loop" (loopArgs p x t r tr n done start false l)) R s := by
  refine code_loop ?_
  show wpAny _ _ (reWholeTarget (.ref p) (.str x t) >>= _) _ _ s
  refine wpAny_bind (whole_target hp hc hcode ?_)
  show wpAny _ _ (reRunToEnd (Sre.forSearch code x.cps 0 (Int.toNat start) x.cps.size false) >>= _) _ _ s
  rw [Int.toNat_natCast]
  refine wpAny_bind (found_wp hf fun o ho => ?_)
  cases o with
  | some m => cases ho
  | none =>
    dsimp only
    rw [Int.toNat_natCast]
    have fin : ∀ (h1 : Heap) (tk : Nat) (its : Array Value) (zs : List Str), h1.IsList l its → 0 < its.size → Heap.SameBut l s.heap h1 → StrsAre its.toList zs → (zs.map (·.length)).sum + zs.length ≤ 2000 →
        zs = (if done < x.cps.size then ys ++ [⟨x.cps.extract done x.cps.size⟩] else ys) →
        wpAny (model prog w) A.in1 (do
          let joiner ← reSlice x.cps 0 0 0
          let text ← if ((← seqItems? (.ref l)).getD #[]).isEmpty then pure joiner
            else call (.builtin (if (0 : Nat) == 0 then "str.join" else "bytes.join")) [joiner, .ref l]
          if false = true then ret (← holding [text] do newTuple [text, ← mkInt n]) else ret text)
          (fun fin s' => match fin with | .done f => R (.ok f) s' | .again c' => c'.quiet = true ∧ codeAny (model prog w) A c' R s') (fun e s' => R (.error e) s') { s with heap := h1, toks := tk } := by
      intro h1 tk its zs hl1 hs1 hb1 hz hw1 ez
      refine wpAny_bind (slice_wp hx ?_)
      obtain ⟨o, ho, hcl, k, hd⟩ := id hl1
      refine wpAny_bind (wpAny_seqItems ho hd ?_)
      have he : ((some its).getD #[]).isEmpty = false := by
        show its.isEmpty = false
        rw [Array.isEmpty_eq_false_iff]
        intro e; rw [e] at hs1; exact absurd hs1 (by decide)
      rw [he]
      show wpAny _ _ (call (.builtin "str.join") [.str _ _, .ref l] >>= _) _ _ _
      have e0 : (Str.mk (x.cps.extract 0 0)) = Str.ofString "" := by
        have : x.cps.extract 0 0 = #[] := by simp
        rw [this]; decide +kernel
      rw [e0]
      refine wpAny_bind (join_listW hl1 hz (by decide +kernel) (by omega) ?_)
      intro t' k'
      show wpAny _ _ (ret _) _ _ _
      refine wpAny_pure ?_
      rw [ez]
      exact h h1 k' t' hb1
    by_cases hd : done < x.cps.size
    · rw [if_pos hd]
      refine wpAny_bind (slice_wp hx ?_)
      refine wpAny_bind (push_list hl (by omega) fun h1 hl1 hb1 => ?_)
      have hlen : (Str.mk (x.cps.extract done x.cps.size)).length ≤ 100 := by
        show (x.cps.extract done x.cps.size).size ≤ 100
        have h2 : x.length = x.cps.size := rfl
        rw [Array.size_extract]; omega
      refine fin h1 _ _ (ys ++ [⟨x.cps.extract done x.cps.size⟩]) hl1 (by rw [Array.size_push]; omega) hb1 (by rw [Array.toList_push]; exact StrsAre.append' hys (.cons _ _ .nil)) ?_ (by rw [if_pos hd])
      simp only [List.map_append, List.sum_append, List.map_cons, List.map_nil, List.sum_cons, List.sum_nil, List.length_append, List.length_cons, List.length_nil]
      omega
    · rw [if_neg hd]
      exact fin s.heap s.toks items ys hl h0 (.refl ..) hys (by omega) (by rw [if_neg hd])
def subF (x r : Str) (b e : Nat) : Str :=
  Txt.join (Str.ofString "") (if e < x.cps.size then ((if 0 < b then [⟨x.cps.extract 0 b⟩] else []) ++ [r]) ++ [⟨x.cps.extract e x.cps.size⟩] else (if 0 < b then [⟨x.cps.extract 0 b⟩] else []) ++ [r])
theorem pat_sub {Q : Value → Shared → Prop} {p c : Addr} {pat fl : Value} {cv : Array Value} {nn : Nat} {x r : Str} {t tr : Tok} {code : Array Nat} {b e : Nat}
    (hp : s.heap.get? p = some (patObj pat fl c)) (hc : s.heap.get? c = some { cls := .type "tuple", data := .seq cv nn }) (hcode : (cv.map reRawOf).map (·.toNat) = code)
    (hx : x.length ≤ 100) (hr : r.length ≤ 100) (hr2 : r.cps.contains 92 = false) (hf1 : found code x.cps 0 = some (some (b, e))) (hf2 : found code x.cps e = some none) (hbe : (e == b) = false)
    (h : ∀ h' tk t', (∀ b o, s.heap.get? b = some o → h'.get? b = some o) → Q (.str (subF x r b e) t') { s with heap := h', toks := tk }) :
    wpAny (model prog w) A (call (.builtin "re.Pattern.sub") [.ref p, .str r tr, .str x t]) Q E s := by
  refine wpAny_call (codeAny_call_builtin_at (plainId_quiet slot_sub.plain _) entry_sub (slot_sub.check _ _ _ _ _ _ _ _ ⟨_, hp, rfl⟩ (args_sub _ _ _) ?_))
  rw [Around.under_plainId slot_sub.plain]
  show wpAny _ _ (reSubstitute "re.Pattern.sub" "sub" false ⟨[.ref p, .str r tr, .str x t], []⟩) _ _ s
  unfold reSubstitute
  dsimp only
  refine wpAny_bind (wpAny_of_eq (a := [some (Value.str r tr), some (Value.str x t), none]) rfl ?_)
  dsimp only
  refine wpAny_bind (wpAny_pure ?_)
  refine wpAny_bind (wpAny_specialOf (typeIs_str _ _ _) no_call_str ?_)
  dsimp only [Option.isSome]
  rw [if_neg Bool.false_ne_true]
  refine wpAny_bind (wpAny_of_eq (a := some r) rfl ?_)
  dsimp only
  refine wpAny_bind (wpAny_pure ?_)
  rw [if_neg Bool.false_ne_true, hr2]
  show wpAny _ _ (pure (Value.str r tr, (0 : Int)) >>= _) _ _ s
  refine wpAny_bind (wpAny_pure ?_)
  dsimp only
  refine wpAny_bind (wpAny_holding (whole_target hp hc hcode ?_))
  show wpAny _ _ (newList [] >>= _) _ _ s
  refine wpAny_bind (wpAny_newObj_type (wpAny_pure ⟨plainId_quiet (by decide +kernel) _, ?_⟩) (by show (0 : Nat) ≤ sizeLine; exact Nat.zero_le _))
  have hl0 : (s.heap.push (listOf #[] 0)).IsList s.heap.objs.size #[] := ⟨_, Heap.get?_push_size _ rfl, rfl, 0, rfl⟩
  have hp0 := Heap.get?_push_of_some (listOf #[] 0) hp
  have hc0 := Heap.get?_push_of_some (listOf #[] 0) hc
  have hne : ∀ {a : Addr} {o : Obj}, s.heap.get? a = some o → a ≠ s.heap.objs.size := fun q => Nat.ne_of_lt (Heap.lt_size q)
  refine loop_some (n := 0) (done := 0) (start := 0) (code := code) hp0 hc0 hcode hl0 (by decide) hx hf1 ?_
  intro h1 tk1 hl1 hb1
  rw [hbe]
  have hp1 : h1.get? p = some (patObj pat fl c) := (hb1.2 p (hne hp)).trans hp0
  have hc1 : h1.get? c = some { cls := .type "tuple", data := .seq cv nn } := (hb1.2 c (hne hc)).trans hc0
  have hlen : (Str.mk (x.cps.extract 0 b)).length ≤ 100 := by
    show (x.cps.extract 0 b).size ≤ 100
    have h2 : x.length = x.cps.size := rfl
    rw [Array.size_extract]; omega
  refine loop_none (s := { s with heap := h1, toks := tk1 }) (n := 0 + 1) (done := e) (start := e) (code := code) (ys := (if 0 < b then [⟨x.cps.extract 0 b⟩] else []) ++ [r]) hp1 hc1 hcode hl1 ?_ ?_ ?_ ?_ hx hf2 ?_
  · split <;> simp
  · simp
  · split
    · exact .cons _ _ (.cons _ _ .nil)
    · exact .cons _ _ .nil
  · split <;> simp <;> omega
  · intro h2 tk2 t' hb2
    refine h h2 tk2 t' fun a o q => ?_
    have q1 := Heap.get?_push_of_some (listOf #[] 0) q
    exact (hb2.2 a (hne q)).trans ((hb1.2 a (hne q)).trans q1)
end
end Mine
end
section
open PySem PySem.W PyProof.Rows PySem.Calls PySem.Spec PyProof.V
namespace Mine
local macro_rules | `(tactic| walk_at "pad") => `(tactic| fail)
theorem off_C1 : True := by w_top off; trivial
theorem comment_spec (w : World) (mean : ExcName → Option Value) (mg mb : Str → Option Value) (news : List (Addr × Obj)) (x : Str) (t : Tok) :
   CbClaim (Challenge.rw_re0025_01.row.prog) w (hd.heap_39 w.params) hd.view_39 Lo mean mg mb 53 news [] (x.length ≤ 100) [.str x t] (fun t => .str (if (Txt.rstrip x).length = 0 then Str.ofString "#" else Str.ofString "# " ++ Txt.rstrip x) t) := by
  k_fill
  dsimp only [CbClaim, CbLists, CbRet]; intros; rename_i hret
  have cbI : CbIn 53 := CbIn.mk
  refine wpAny_call ?_
  k_dflt cell_enter
  k_steps
  all_goals cb_end hret
end Mine
end
section
open PySem PySem.W PyProof.Rows PySem.Calls PySem.Spec PyProof.V
namespace Mine
theorem off_C2 : True := by w_top off; trivial
section
open PySem.Builtin PySem.Builtin.Str
theorem gives_find4 (x y : Str) (i : Int) (n : Nat) (t u v z : Tok) (hn : n = x.length) : Gives («str.find» ⟨[.str x t, .str y u, .int i v, .int (n : Int) z], []⟩) (.int (Txt.find3 x y i)) := by
  subst hn
  show Gives (match occurrences x y (fromIndex x.length i) (min (fromIndex x.length (x.length : Int)) x.length) 1 with | k :: _ => retInt k | [] => (do rule "str.find.not-found"; retInt (-1))) _
  have e : min (fromIndex x.length (x.length : Int)) x.length = x.length := by unfold fromIndex; split <;> omega
  rw [e]
  unfold Txt.find3
  cases occurrences x y (fromIndex x.length i) x.length 1 with
  | nil => exact .rule (.of_eq rfl)
  | cons k _ => exact .of_eq rfl
end
theorem find4 {prog : Program} {w : World} {A : Around} {E : Value → Shared → Prop} {s : Shared} {Q : Value → Shared → Prop} {x y : Str} {i : Int} {n : Nat} {t u v z : Tok} (hn : n = x.length) (hq : Q (.int (Txt.find3 x y i) s.toks) { s with toks := s.toks + 1 }) :
    wpAny (model prog w) A (call (.builtin "str.find") [.str x t, .str y u, .int i v, .int (n : Int) z]) Q E s :=
  call_gives F.slot_str_find (typeIs_str _ _ _) F.entry_str_find (F.args_str_find_4 _ _ _ _) (gives_find4 x y i n t u v z hn) hq
def ellPos (y : Str) : List Str → Int → Option Int
  | [], p => some p
  | w :: ws, p => if Txt.find3 y w p < 0 then none else ellPos y ws (Txt.find3 y w p + (w.length : Int))
def ellWs (a b : Str) : List Str := [Str.ofString "", a, b, Str.ofString ""]
def ell (a b y : Str) : Bool := (ellPos y (ellWs a b) 0).isSome
theorem split4 {prog : Program} {w : World} {A : Around} {E : Value → Shared → Prop} {s : Shared} {h₀ : Heap} {L : Addr} {m : Str → Option Value} {news : List (Addr × Obj)} {Q : Value → Shared → Prop} {x y a b : Str} {t u : Tok}
    (hF : Fr h₀ L s.heap m) (hN : News h₀ L s.heap news) (hsp : Txt.split x y = [Str.ofString "", a, b, Str.ofString ""]) (hy : (y.length == 0) = false) (hsz : x.length ≤ 1000)
    (h : ∀ D t1 t2 t3 t4 h' k, (∀ p ∈ news, p.1 < D) → Fr h₀ L h' m → News h₀ L h' ((D, listOf #[.str (Str.ofString "") t1, .str a t2, .str b t3, .str (Str.ofString "") t4] 0) :: news) → Q (.ref D) { s with heap := h', toks := k }) :
    wpAny (model prog w) A (call (.builtin "str.split") [.str x t, .str y u]) Q E s := by
  refine splitN1 hF hN hy ?_ (by rw [sizeLine_eq]; omega)
  intro l h' k e F N
  rw [hsp] at e
  match l, e with
  | [(e1, t1), (e2, t2), (e3, t3), (e4, t4)], e =>
    simp only [List.map_cons, List.map_nil, List.cons.injEq, and_true] at e
    obtain ⟨rfl, rfl, rfl, rfl⟩ := e
    exact h _ t1 t2 t3 t4 h' k (fun p hp => Heap.lt_size (hN p hp).1) F N
local macro_rules | `(tactic| walk_at "call builtin:str.split") => `(tactic| (k_here; k_dflt (refine split4 (by k_asm) (by k_asm) (by assumption) (by decide) (by assumption) ?_); intro D' t1' t2' t3' t4' h' k' l1 F' N'; (try k_lt l1)))
def ElJ (a b y : Str) (led : List (Addr × Obj)) (m₀ : Str → Option Value) (i : Nat) (m : Str → Option Value) (news : List (Addr × Obj)) : Prop :=
  ∃ (p : Int) (t te tg : Tok) (u : Str → Option Value),
    m = kstB (fun z => if [Str.ofString "w"].contains z then u z else m₀ z) [(Str.ofString "startpos", .int p t), (Str.ofString "endpos", .int (y.length : Int) te), (Str.ofString "got", .str y tg)] ∧
    news = led ∧ ellPos y (ellWs a b) 0 = ellPos y ((ellWs a b).drop i) p
local macro_rules | `(tactic| walk_at "exec For") => `(tactic| (k_here; refine For_X ?_))
local macro_rules | `(tactic| walk_at "StepX") => `(tactic| first | (refine StepX.brk ?_; (try dsimp only)) | (refine StepX.ret ?_; (try dsimp only)))
local macro_rules | `(tactic| walk_at "call builtin:str.find") => `(tactic| (k_here; k_dflt (refine find4 rfl ?_)))
theorem ell_spec (w : World) (mean : ExcName → Option Value) (mg mb : Str → Option Value) (x y a b : Str) (t u : Tok) (hsp : Txt.split x (Str.ofString "...") = [Str.ofString "", a, b, Str.ofString ""]) (hin : (Builtin.Str.occurrences x (Str.ofString "...") 0 x.length 1).isEmpty = false) (hlx : x.length ≤ 1000) (hly : y.length ≤ 1000) (hla : a.length ≤ 100) (hlb : b.length ≤ 100) (news : List (Addr × Obj)) :
   CbClaim (Challenge.rw_re0025_01.row.prog) w (hd.heap_39 w.params) hd.view_39 Lo mean mg mb 46 news [] True [.str x t, .str y u] (fun t => .bool (ell a b y)) := by
  k_fill
  dsimp only [CbClaim, CbLists, CbRet]; intros; rename_i hret
  have cbI : CbIn 46 := CbIn.mk
  refine wpAny_call ?_
  k_dflt cell_enter
  k_steps
  rename Fr _ _ _ _ => lF
  rename News _ _ _ _ => lN
  obtain ⟨m0, em, lF2⟩ := frName lF
  obtain ⟨led, el, lN2⟩ := nwAll lN
  have e3 : m0 (Str.ofString "got") = some (Value.str y u) := by rw [em]; rfl
  have e1 : ∃ tt, m0 (Str.ofString "startpos") = some (Value.int 0 tt) := ⟨_, by rw [em]; rfl⟩
  have e2 : ∃ tt, m0 (Str.ofString "endpos") = some (Value.int (y.length : Int) tt) := ⟨_, by rw [em]; rfl⟩
  obtain ⟨t1, e1⟩ := e1
  obtain ⟨t2, e2⟩ := e2
  have hmem := nwAt el (.tail _ (.head _))
  have hsub : ∀ p ∈ news, p ∈ led := fun p hp => nwAt el (.tail _ (.tail _ hp))
  clear em el lF lN
  refine' iter_listX (ElJ a b y led m0) (by rfl) ?hl lF2 lN2 ?h0 ?turn ?done (by passes_own)
  case h0 => exact ⟨0, t1, t2, u, m0, upd_start (List.forall_mem_cons.mpr ⟨e1, List.forall_mem_cons.mpr ⟨e2, List.forall_mem_cons.mpr ⟨e3, List.forall_mem_nil _⟩⟩⟩), rfl, rfl⟩
  case hl =>
    rintro _ _ _ ⟨_, _, _, _, _, _, rfl, _⟩
    exact hmem
  case turn =>
    rintro I i v m₁ news₁ h tk io hlt hv ⟨p, tp, te, tg, u', rfl, rfl, hp⟩ hne F₁ N₁
    obtain ⟨wx, tw, rfl, hw⟩ := StrsAre.item (StrsAre.cons _ _ (StrsAre.cons _ _ (StrsAre.cons _ _ (StrsAre.cons _ _ StrsAre.nil)))) i v hv
    replace hw : (ellWs a b)[i]? = some wx := hw
    have hlw : wx.length ≤ 1000 := by
      have := List.mem_of_getElem? hw
      simp only [ellWs, List.mem_cons, List.not_mem_nil, or_false] at this
      rcases this with rfl | rfl | rfl | rfl
      · decide
      · omega
      · omega
      · decide
    rw [drop_item hw] at hp
    clear lF2 lN2 hlt hmem
    k_steps
    · rename (Txt.find3 _ _ _ < 0) => hneg
      have hell : ell a b y = false := by
        unfold ell
        rw [hp, ellPos, if_pos hneg]
        rfl
      rw [hell] at hret
      rename News _ _ _ _ => N9
      exact hret 0 _ _ (by k_asm) (fun p hp => N9 p (List.mem_append_left _ (hsub p hp)))
    · rename (¬ Txt.find3 _ _ _ < 0) => hpos
      rename Fr _ _ _ _ => F9
      rename News _ _ _ _ => N9
      rw [ellPos, if_neg hpos] at hp
      refine StepX.go (news' := news₁) F9 N9 (fun _ h => h) hne ⟨_, _, te, tg, _, upd_eq (List.forall_mem_cons.mpr ⟨rfl, List.forall_mem_cons.mpr ⟨rfl, List.forall_mem_cons.mpr ⟨rfl, List.forall_mem_nil _⟩⟩⟩) ?_, rfl, hp⟩
      intro z hz hz3
      have hz1 : z ≠ Str.ofString "startpos" := hz _ (.head _)
      have hz2 : z ≠ Str.ofString "endpos" := hz _ (.tail _ (.head _))
      have hz5 : z ≠ Str.ofString "got" := hz _ (.tail _ (.tail _ (.head _)))
      have hz4 : z ≠ Str.ofString "w" := by rintro rfl; exact absurd hz3 (by decide)
      simp only [kstB, hz1, hz2, hz3, hz4, hz5, if_false, Bool.false_eq_true]
  case done =>
    rintro m₁ news₁ h tk ⟨p, tp, te, tg, u', rfl, rfl, hp⟩ F₁ N₁
    have hell : ell a b y = true := by
      unfold ell
      rw [hp]
      rfl
    rw [hell] at hret
    clear lF2 lN2 hmem
    k_steps
    rename News _ _ _ _ => N9
    exact hret 0 _ _ (by k_asm) (fun p hp => N9 p (hsub p hp))
end Mine
end
section
open PySem PySem.W PyProof.Rows PySem.Calls PySem.Spec PyProof.V
namespace Mine
theorem off_C3 : True := by w_top off; trivial
def PrJ (n : Nat) (a : Addr) (rest : List (Addr × Obj)) (m₀ : Str → Option Value) (i : Nat) (m : Str → Option Value) (news : List (Addr × Obj)) : Prop :=
  ∃ (t : Tok) (vs : List Value) (c : Nat) (u : Str → Option Value),
    m = kstB (fun z => if [Str.ofString "i", Str.ofString "flag"].contains z then u z else m₀ z) [(Str.ofString "flags", .int ((n / 2 ^ i * 2 ^ i : Nat) : Int) t), (Str.ofString "names", .ref a)] ∧
    news = (a, listOf vs.toArray c) :: rest ∧ StrsAre vs (namesF n i) ∧ vs.length ≤ i ∧ (n = 0 ∨ n / 2 ^ i ≠ 0)
local macro_rules | `(tactic| walk_at "exec For") => `(tactic| (k_here; refine For_X ?_))
local macro_rules | `(tactic| walk_at "call builtin:dict.get") => `(tactic| (k_here; k_dflt (refine call_get2_intTab (KTD.tab_keep ((show KTD.Keyed _ 32 DD by assumption) _ _) (Fr.keep (by assumption))) (Flat.str _ _) ?_; intro v9 hv9; obtain ⟨t9, e9⟩ := flat_label (by assumption) hv9; subst e9; (try dsimp only))))
local macro_rules | `(tactic| walk_at "StepX") => `(tactic| first | (refine StepX.brk ?_; (try dsimp only)) | (refine StepX.ret ?_; (try dsimp only)))
theorem PrJ.next {g h' : Heap} {L I a : Addr} {io : Obj} {n i tk : Nat} {news : List (Addr × Obj)} {m0 m' : Str → Option Value} {s0 : Shared} {Q : Flow → Shared → Prop} {vs' : List Value} {c' : Nat} {t' : Tok}
    (F9 : Fr g L h' m') (N9 : News g L h' ((a, listOf vs'.toArray c') :: (news ++ [(I, io)]))) (haI : a ≠ I) (hne : ∀ p ∈ news, p.1 ≠ I)
    (hm1 : m' (Str.ofString "flags") = some (.int ((n / 2 ^ (i + 1) * 2 ^ (i + 1) : Nat) : Int) t')) (hm2 : m' (Str.ofString "names") = some (.ref a))
    (hm3 : ∀ z, z ≠ Str.ofString "flags" → z ≠ Str.ofString "names" → [Str.ofString "i", Str.ofString "flag"].contains z = false → m' z = m0 z)
    (hS : StrsAre vs' (namesF n (i + 1))) (hl : vs'.length ≤ i + 1) (hx : n = 0 ∨ n / 2 ^ (i + 1) ≠ 0) :
    StepX s0 g L I io (PrJ n a news m0 (i + 1)) Q .next { s0 with heap := h', toks := tk } := by
  refine StepX.go (news' := (a, listOf vs'.toArray c') :: news) F9 N9 (by simp) (List.forall_mem_cons.mpr ⟨haI, hne⟩) ⟨t', vs', c', m', upd_eq (List.forall_mem_cons.mpr ⟨hm1, List.forall_mem_cons.mpr ⟨hm2, List.forall_mem_nil _⟩⟩) ?_, rfl, hS, hl, hx⟩
  intro z hz hc
  exact hm3 z (hz _ (.head _)) (hz _ (.tail _ (.head _))) hc
theorem pretty_spec (w : World) (mean : ExcName → Option Value) (mg mb : Str → Option Value) (news : List (Addr × Obj)) (n : Nat) (t : Tok) :
   CbClaim (Challenge.rw_re0025_01.row.prog) w (hd.heap_39 w.params) hd.view_39 Lo mean mg mb 39 news [] (n < 32768) [.int (n : Int) t] (fun t => .str (prettyF n) t) := by
  k_fill
  dsimp only [CbClaim, CbLists, CbRet]; intros; rename_i hn32 _ _ hret
  have cbI : CbIn 39 := CbIn.mk
  refine wpAny_call ?_
  k_dflt cell_enter
  k_steps
  rename Fr _ _ _ _ => lF
  rename News _ _ _ _ => lN
  rename IsRange _ _ _ _ _ _ _ _ => rgX
  obtain ⟨a, rfl⟩ := nwName lN
  obtain ⟨m0, em, lF2⟩ := frName lF
  have e1 : m0 (Str.ofString "flags") = some (Value.int ((n / 2 ^ 0 * 2 ^ 0 : Nat) : Int) t) := by rw [em, Nat.pow_zero, Nat.div_one, Nat.mul_one]; rfl
  have e2 : m0 (Str.ofString "names") = some (Value.ref a) := by rw [em]; rfl
  clear em lF
  refine' iter_rangeX (PrJ n a news m0) (by rfl) rgX (by decide) (n := 32) (by decide) lF2 lN ?h0 ?turn ?done (by intros; rfl) (by passes_own)
  case h0 => exact ⟨t, [], 0, m0, upd_start (List.forall_mem_cons.mpr ⟨e1, List.forall_mem_cons.mpr ⟨e2, List.forall_mem_nil _⟩⟩), rfl, .nil, Nat.le_refl _, by omega⟩
  case turn =>
    rintro I i ti m₁ news₁ h tk io hlt hi ⟨tf, vs, c, u, rfl, rfl, hS, hvs, hx⟩ hne F₁ N₁
    simp only [List.cons_append] at N₁
    have haI := neN (hne _ (.head _))
    have kMk := kstMark
    dsimp only at haI
    have hneN : ∀ p ∈ news, p.1 ≠ I := fun p hp => hne p (.tail _ hp)
    clear lF2 lN rgX hne hlt
    k_steps
    · rename (Builtin.bitAnd _ _ ≠ 0) => hb
      rw [flag_and] at hb
      have hbit : n.testBit i = true := by
        cases q : n.testBit i with
        | true => rfl
        | false => rw [q] at hb; exact absurd rfl hb
      have hi15 := bit_lt hn32 hbit
      clear hb
      refine P.hex_of_int ?_ (hex_len hi15)
      dsimp only
      k_steps
      · rename (Builtin.bitXor _ _ ≠ 0) => hq
        rw [flag_xor hbit] at hq
        rename Fr _ _ _ _ => F9
        rename News _ _ _ _ => N9
        rw [flag_xor hbit] at F9
        simp only [List.push_toArray] at N9
        refine PrJ.next F9 N9 haI hneN rfl rfl ?_ ?_ ?_ ?_
        · intro z hz1 hz2 hz3
          have hz4 : z ≠ Str.ofString "i" := by rintro rfl; exact absurd hz3 (by decide)
          have hz5 : z ≠ Str.ofString "flag" := by rintro rfl; exact absurd hz3 (by decide)
          simp only [kstB, hz1, hz2, hz3, hz4, hz5, if_false, Bool.false_eq_true]
        · show StrsAre _ (namesF n i ++ if n.testBit i then [labelF i] else [])
          rw [hbit, if_pos rfl]
          exact StrsAre.append' hS (.cons _ _ .nil)
        · rw [List.length_append]; exact Nat.succ_le_succ hvs
        · right
          intro e
          rw [e, Nat.zero_mul] at hq
          exact hq rfl
      · rename (Builtin.bitXor _ _ = 0) => hq
        rw [flag_xor hbit] at hq
        rename Fr _ _ _ _ => F9
        rename News _ _ _ _ => N9
        simp only [List.push_toArray] at N9
        have hd0 : n / 2 ^ (i + 1) = 0 := by
          have hp : 0 < 2 ^ (i + 1) := Nat.pow_pos (by decide)
          rcases Nat.mul_eq_zero.mp (Int.ofNat.inj hq) with h | h
          · exact h
          · omega
        have hn0 : n ≠ 0 := by rintro rfl; simp at hbit
        have hS2 : ∀ tt, StrsAre (vs ++ [Value.str (labelF i) tt]) (namesF n (i + 1)) := by
          intro tt
          show StrsAre _ (namesF n i ++ if n.testBit i then [labelF i] else [])
          rw [hbit, if_pos rfl]
          exact StrsAre.append' hS (.cons _ _ .nil)
        refine join_listW (News.isList N9 (.head _)) (hS2 _) (by decide +kernel) (Nat.le_trans (names_weight n (i + 1)) (by omega)) ?_
        intro t9 k9
        rw [pretty_end hi15 hd0 hn0]
        k_steps
        all_goals cb_end hret
    · rename (Builtin.bitAnd _ _ = 0) => hb
      rw [flag_and] at hb
      have hbit : n.testBit i = false := by
        cases q : n.testBit i with
        | false => rfl
        | true =>
          rw [q, if_pos rfl] at hb
          have hp : 0 < 2 ^ i := Nat.pow_pos (by decide)
          have := Int.ofNat.inj hb
          omega
      rename Fr _ _ _ _ => F9
      rename News _ _ _ _ => N9
      have e9 := next_bit n i
      rw [hbit, Bool.toNat_false, Nat.zero_mul, Nat.add_zero] at e9
      rw [e9] at F9
      refine PrJ.next F9 N9 haI hneN rfl rfl ?_ ?_ ?_ ?_
      · intro z hz1 hz2 hz3
        have hz4 : z ≠ Str.ofString "i" := by rintro rfl; exact absurd hz3 (by decide)
        have hz5 : z ≠ Str.ofString "flag" := by rintro rfl; exact absurd hz3 (by decide)
        simp only [kstB, hz1, hz2, hz3, hz4, hz5, if_false, Bool.false_eq_true]
      · show StrsAre _ (namesF n i ++ if n.testBit i then [labelF i] else [])
        rw [hbit]
        simpa using hS
      · exact Nat.le_succ_of_le hvs
      · rcases hx with hx | hx
        · exact .inl hx
        · right
          have e8 := half_bit n i
          rw [hbit, Bool.toNat_false] at e8
          omega
  case done =>
    rintro m₁ news₁ h tk ⟨tf, vs, c, u, rfl, rfl, hS, hvs, hx⟩ F₁ N₁
    have hn0 : n = 0 := by
      rcases hx with hx | hx
      · exact hx
      · exact absurd (Nat.div_eq_of_lt (Nat.lt_of_lt_of_le hn32 (by decide))) hx
    subst hn0
    have hv0 : vs = [] := by
      have : namesF 0 32 = [] := by decide +kernel
      rw [this] at hS
      cases hS
      rfl
    subst hv0
    k_steps
    all_goals cb_end hret
end Mine
end
section
open PySem PySem.W PyProof.Rows PySem.Calls PySem.Spec PyProof.V
namespace Mine
theorem off_C4 : True := by w_top off; trivial
def code1 : Array Nat := #[14, 4, 0, 1, 1, 6, 1, 16, 46, 1]
def code2 : Array Nat := #[14, 9, 4, 1, 2, 16, 10, 16, 13, 0, 7, 7, 16, 13, 16, 10, 15, 18, 5, 16, 10, 15, 13, 11, 16, 13, 5, 5, 0, 16, 10, 1, 15, 2, 0, 1]
theorem pat58 (P : Params) : ∃ pat fl, (hd.heap_39 P).lookup 58 = some (patObj pat fl 57) := ⟨_, _, rfl⟩
theorem pat63 (P : Params) : ∃ pat fl, (hd.heap_39 P).lookup 63 = some (patObj pat fl 62) := ⟨_, _, rfl⟩
theorem tup57 (P : Params) : ∃ cv n, (hd.heap_39 P).lookup 57 = some { cls := .type "tuple", data := .seq cv n } ∧ (cv.map Builtin.Re.reRawOf).map (·.toNat) = code1 := ⟨_, _, rfl, by decide +kernel⟩
theorem tup62 (P : Params) : ∃ cv n, (hd.heap_39 P).lookup 62 = some { cls := .type "tuple", data := .seq cv n } ∧ (cv.map Builtin.Re.reRawOf).map (·.toNat) = code2 := ⟨_, _, rfl, by decide +kernel⟩
section
variable {w : World} {A : Around} {E : Value → Shared → Prop} {s : Shared} {g : Heap} {L : Addr} {m : Str → Option Value} {news : List (Addr × Obj)}
theorem meth58 {pl : Sem Bool} {Q : Value × List Value → Shared → Prop} {prog : Program} (F : Fr g L s.heap m) (X : (hd.heap_39 w.params).In g) (h : Q (.builtin "re.Pattern.sub", [.ref 58]) s) :
    wpAny (model prog w) A (getMethod (.ref 58) (Str.ofString "sub") pl) Q E s := by
  obtain ⟨pat, fl, e⟩ := pat58 w.params
  have hp := X.keeps F.keep _ _ e
  exact getMethod_builtin ⟨_, hp, rfl⟩ plainAttrs_pat slot_sub type_sub (fun a q => by cases q; exact ⟨_, hp, rfl⟩) h
theorem meth63 {pl : Sem Bool} {Q : Value × List Value → Shared → Prop} {prog : Program} (F : Fr g L s.heap m) (X : (hd.heap_39 w.params).In g) (h : Q (.builtin "re.Pattern.sub", [.ref 63]) s) :
    wpAny (model prog w) A (getMethod (.ref 63) (Str.ofString "sub") pl) Q E s := by
  obtain ⟨pat, fl, e⟩ := pat63 w.params
  have hp := X.keeps F.keep _ _ e
  exact getMethod_builtin ⟨_, hp, rfl⟩ plainAttrs_pat slot_sub type_sub (fun a q => by cases q; exact ⟨_, hp, rfl⟩) h
structure Found (code : Array Nat) (x : Str) (b e : Nat) : Prop where
  one : found code x.cps 0 = some (some (b, e))
  two : found code x.cps e = some none
  ne : (e == b) = false
  len : x.length ≤ 100
theorem sub58 {Q : Value → Shared → Prop} {prog : Program} {x r : Str} {t tr : Tok} {b e : Nat} (F : Fr g L s.heap m) (N : News g L s.heap news) (X : (hd.heap_39 w.params).In g) (hf : Found code1 x b e) (hr : r.length ≤ 100) (hr2 : r.cps.contains 92 = false)
    (h : ∀ h' tk t', Fr g L h' m → News g L h' news → Q (.str (subF x r b e) t') { s with heap := h', toks := tk }) : wpAny (model prog w) A (call (.builtin "re.Pattern.sub") [.ref 58, .str r tr, .str x t]) Q E s := by
  obtain ⟨pat, fl, e1⟩ := pat58 w.params
  obtain ⟨cv, n, e2, hc⟩ := tup57 w.params
  exact pat_sub (X.keeps F.keep _ _ e1) (X.keeps F.keep _ _ e2) hc hf.len hr hr2 hf.one hf.two hf.ne fun h' tk t' hk => h h' tk t' (F.keeps hk) (N.grown hk)
theorem sub63 {Q : Value → Shared → Prop} {prog : Program} {x r : Str} {t tr : Tok} {b e : Nat} (F : Fr g L s.heap m) (N : News g L s.heap news) (X : (hd.heap_39 w.params).In g) (hf : Found code2 x b e) (hr : r.length ≤ 100) (hr2 : r.cps.contains 92 = false)
    (h : ∀ h' tk t', Fr g L h' m → News g L h' news → Q (.str (subF x r b e) t') { s with heap := h', toks := tk }) : wpAny (model prog w) A (call (.builtin "re.Pattern.sub") [.ref 63, .str r tr, .str x t]) Q E s := by
  obtain ⟨pat, fl, e1⟩ := pat63 w.params
  obtain ⟨cv, n, e2, hc⟩ := tup62 w.params
  exact pat_sub (X.keeps F.keep _ _ e1) (X.keeps F.keep _ _ e2) hc hf.len hr hr2 hf.one hf.two hf.ne fun h' tk t' hk => h h' tk t' (F.keeps hk) (N.grown hk)
end
local macro_rules | `(tactic| walk_at "getMethod ref") => `(tactic| (k_here; k_dflt (first | refine meth58 (by k_asm) (by k_asm) ?_ | refine meth63 (by k_asm) (by k_asm) ?_)))
local macro_rules | `(tactic| walk_at "call builtin:re.Pattern.sub") => `(tactic| (k_here; k_dflt (first | refine sub63 (by k_asm) (by k_asm) (by k_asm) (by assumption) (by decide +kernel) (by decide +kernel) ?_ | refine sub58 (by k_asm) (by k_asm) (by k_asm) (by assumption) (by decide +kernel) (by decide +kernel) ?_); intro h' tk' t' F' N'))
theorem quo_spec (w : World) (mean : ExcName → Option Value) (mg mb : Str → Option Value) (x : Str) (t : Tok) (b e b2 e2 : Nat) (hf : Found code2 x b e) (hf2 : Found code1 (subF x (Str.ofString "\x0d\n") b e) b2 e2) (news : List (Addr × Obj)) :
   CbClaim (Challenge.rw_re0025_01.row.prog) w (hd.heap_39 w.params) hd.view_39 Lo mean mg mb 70 news [] True [.str x t] (fun t => .str (subF (subF x (Str.ofString "\x0d\n") b e) (Str.ofString "..") b2 e2) t) := by
  k_fill
  dsimp only [CbClaim, CbLists, CbRet]; intros; rename_i hret
  have cbI : CbIn 70 := CbIn.mk
  refine wpAny_call ?_
  k_dflt cell_enter
  k_steps
  all_goals cb_end hret
end Mine
end
section
open PySem PySem.W PyProof.Rows PySem.Calls PySem.Spec PyProof.V
namespace Mine
theorem off_C5 : True := by w_top off; trivial
abbrev WdClaim (prog : Program) (w : World) (K : Frag) (p : Program) (loose : List Str) (mean : ExcName → Option Value) (mg mb : Str → Option Value) (f : Addr) (news : List (Addr × Obj)) : Prop :=
  ∀ (dp un : Nat) (gd : Option (List Code)) (cn : Str) (cs : Scope) (a : Addr) (ccd : Value) (cl : List (Str × Addr)) (outer : List Env) (A₀ : Around) (base h₀ : Heap) (L : Addr) (m : Str → Option Value) (s : Shared) (Q E : Value → Shared → Prop),
    Below A₀ base outer h₀ → Fr h₀ L s.heap m → K.In h₀ → News h₀ L s.heap news → Top p loose mean mg mb h₀ → cs.kind = .function →
    dp + 1 < recursionLimit → un + 8 < cLine → (∀ (D : Addr) (vs : List Value) (c : Nat) (h' : Heap) (tk' : Nat), (∀ q ∈ news, q.1 ≠ D) → Fr h₀ L h' m → News h₀ L h' ((D, listOf vs.toArray c) :: news) → StrsAre vs words → Q (.ref D) { s with heap := h', toks := tk' }) →
      wpAny (model prog w) (ktrTop dp un gd cn cs L a ccd cl outer) (call (.ref f) []) Q E s
theorem headKeep {h₀ h : Heap} {L : Addr} {p a b c d : Addr × Obj} {r : List (Addr × Obj)} (N : News h₀ L h (p :: a :: b :: c :: d :: r)) : News h₀ L h (p :: r) := fun q hq => by
  rcases List.mem_cons.mp hq with rfl | hq
  · exact N _ (.head _)
  · exact N _ (.tail _ (.tail _ (.tail _ (.tail _ (.tail _ hq)))))
theorem words_spec (w : World) (mean : ExcName → Option Value) (mg mb : Str → Option Value) (news : List (Addr × Obj)) :
   WdClaim (Challenge.rw_re0025_01.row.prog) w (hd.heap_39 w.params) hd.view_39 Lo mean mg mb 77 news := by
  k_fill
  dsimp only [WdClaim]; intros; rename_i hret
  have cbI : CbIn 77 := CbIn.mk
  refine wpAny_call ?_
  k_dflt cell_enter
  k_steps
  rename Fr _ _ _ _ => F9
  rename News _ _ _ _ => N9
  rename (_ < _ ∧ _ < _ ∧ _ < _ ∧ _ < _ ∧ AllLt _ news) => hl
  exact hret _ _ _ _ _ (fun q hq => Nat.ne_of_lt (kst_ltOf hl.2.2.2.2 q hq)) F9 (headKeep N9)
    (.cons _ _ (.cons _ _ (.cons _ _ (.cons _ _ (.cons _ _ (.cons _ _ (.cons _ _ (.cons _ _ (.cons _ _ (.cons _ _ (.cons _ _ (.cons _ _ (.cons _ _ (.cons _ _ (.cons _ _ .nil)))))))))))))))
theorem words_law {w : World} {mean : ExcName → Option Value} {mg mb : Str → Option Value} {g : Heap} {L fa : Addr} {cd : Value} {s : Shared} {m : Str → Option Value} {news : List (Addr × Obj)} {Q E : Value → Shared → Prop}
    (B : Below callerA g [] g) (F : Fr g L s.heap m) (X : (hd.heap_39 w.params).In g) (N : News g L s.heap news) (T : Top hd.view_39 Lo mean mg mb g)
    (hret : ∀ (D : Addr) (vs : List Value) (c : Nat) (h' : Heap) (tk' : Nat), (∀ q ∈ news, q.1 ≠ D) → Fr g L h' m → News g L h' ((D, listOf vs.toArray c) :: news) → StrsAre vs words → Q (.ref D) { s with heap := h', toks := tk' }) :
    wpAny (model Challenge.rw_re0025_01.row.prog w) (callerA.deeper (lawEnv L fa cd)) (call (.ref 77) []) Q E s :=
  words_spec w mean mg mb news _ _ _ _ _ _ _ _ _ _ _ _ _ _ _ _ _ B F X N T rfl (by decide) (by decide +kernel) hret
end Mine
end
section
open PySem PySem.W PyProof.Rows PySem.Calls PySem.Spec PyProof.V
namespace Mine
def letterF (k : Nat) : Str := ⟨#[97 + k]⟩
abbrev rawX (i j : Nat) : Str := Str.ofString "." ++ Txt.item (Str.ofString "abcd") (0 + (i : Int)) ++ [Str.ofString "\n", Str.ofString "\x0d", Str.ofString "\x0d\n"].getD j (Str.ofString "")
def endB (j : Nat) : Nat := if j = 2 then 4 else 3
theorem raw_facts : ∀ i : _root_.Fin 4, ∀ j : _root_.Fin 3, (rawX i.1 j.1).length ≤ 100 ∧
    (if (Txt.rstrip (rawX i.1 j.1)).length = 0 then Str.ofString "#" else Str.ofString "# " ++ Txt.rstrip (rawX i.1 j.1)) = Str.ofString "# ." ++ letterF i.1 ∧
    found code2 (rawX i.1 j.1).cps 0 = some (some (2, endB j.1)) ∧ found code2 (rawX i.1 j.1).cps (endB j.1) = some none ∧ (endB j.1 == 2) = false ∧
    subF (rawX i.1 j.1) (Str.ofString "\x0d\n") 2 (endB j.1) = Str.ofString "." ++ letterF i.1 ++ Str.ofString "\x0d\n" := by decide +kernel
theorem dot_facts : ∀ i : _root_.Fin 4, found code1 (Str.ofString "." ++ letterF i.1 ++ Str.ofString "\x0d\n").cps 0 = some (some (0, 1)) ∧ found code1 (Str.ofString "." ++ letterF i.1 ++ Str.ofString "\x0d\n").cps 1 = some none ∧
    (Str.ofString "." ++ letterF i.1 ++ Str.ofString "\x0d\n").length ≤ 100 ∧ subF (Str.ofString "." ++ letterF i.1 ++ Str.ofString "\x0d\n") (Str.ofString "..") 0 1 = Str.ofString ".." ++ letterF i.1 ++ Str.ofString "\x0d\n" := by decide +kernel
section
variable {w : World} {mean : ExcName → Option Value} {mg mb : Str → Option Value} {g : Heap} {L fa : Addr} {cd : Value} {s : Shared} {m : Str → Option Value} {news : List (Addr × Obj)} {Q E : Value → Shared → Prop}
theorem comment_law {i j : Nat} {t : Tok} (hi : i < 4) (hj : j < 3) (B : Below callerA g [] g) (F : Fr g L s.heap m) (X : (hd.heap_39 w.params).In g) (N : News g L s.heap news) (T : Top hd.view_39 Lo mean mg mb g)
    (hret : ∀ t h' tk', Fr g L h' m → News g L h' news → Q (.str (Str.ofString "# ." ++ letterF i) t) { s with heap := h', toks := tk' }) :
    wpAny (model Challenge.rw_re0025_01.row.prog w) (callerA.deeper (lawEnv L fa cd)) (call (.ref 53) [.str (rawX i j) t]) Q E s := by
  obtain ⟨hl, hc, _⟩ := raw_facts ⟨i, hi⟩ ⟨j, hj⟩
  exact comment_spec w mean mg mb news (rawX i j) t _ _ _ _ _ _ _ _ _ _ _ _ _ _ _ _ _ B F X N T rfl hl (by decide) (by decide +kernel) (by
    intro t h' tk' F' N'
    have := hret t h' tk' F' N'
    rw [← hc] at this
    exact this)
theorem quo_law {i j : Nat} {t : Tok} (hi : i < 4) (hj : j < 3) (B : Below callerA g [] g) (F : Fr g L s.heap m) (X : (hd.heap_39 w.params).In g) (N : News g L s.heap news) (T : Top hd.view_39 Lo mean mg mb g)
    (hret : ∀ t h' tk', Fr g L h' m → News g L h' news → Q (.str (Str.ofString ".." ++ letterF i ++ Str.ofString "\x0d\n") t) { s with heap := h', toks := tk' }) :
    wpAny (model Challenge.rw_re0025_01.row.prog w) (callerA.deeper (lawEnv L fa cd)) (call (.ref 70) [.str (rawX i j) t]) Q E s := by
  obtain ⟨hl, _, h1, h2, h3, h4⟩ := raw_facts ⟨i, hi⟩ ⟨j, hj⟩
  obtain ⟨k1, k2, k3, k4⟩ := dot_facts ⟨i, hi⟩
  have f1 : Found code2 (rawX i j) 2 (endB j) := ⟨h1, h2, h3, hl⟩
  have f2 : Found code1 (subF (rawX i j) (Str.ofString "\x0d\n") 2 (endB j)) 0 1 := by
    have e : subF (rawX i j) (Str.ofString "\x0d\n") 2 (endB j) = _ := h4
    rw [e]
    exact ⟨k1, k2, rfl, k3⟩
  have e5 : subF (subF (rawX i j) (Str.ofString "\x0d\n") 2 (endB j)) (Str.ofString "..") 0 1 = Str.ofString ".." ++ letterF i ++ Str.ofString "\x0d\n" := by
    have e : subF (rawX i j) (Str.ofString "\x0d\n") 2 (endB j) = _ := h4
    rw [e]; exact k4
  exact quo_spec w mean mg mb (rawX i j) t 2 (endB j) 0 1 f1 f2 news _ _ _ _ _ _ _ _ _ _ _ _ _ _ _ _ _ B F X N T rfl trivial (by decide) (by decide +kernel) (by
    intro t h' tk' F' N'
    have := hret t h' tk' F' N'
    rw [← e5] at this
    exact this)
theorem pretty_law {n : Nat} {t : Tok} (hn : n < 32768) (B : Below callerA g [] g) (F : Fr g L s.heap m) (X : (hd.heap_39 w.params).In g) (N : News g L s.heap news) (T : Top hd.view_39 Lo mean mg mb g)
    (hret : ∀ t h' tk', Fr g L h' m → News g L h' news → Q (.str (prettyF n) t) { s with heap := h', toks := tk' }) :
    wpAny (model Challenge.rw_re0025_01.row.prog w) (callerA.deeper (lawEnv L fa cd)) (call (.ref 39) [.int (n : Int) t]) Q E s :=
  pretty_spec w mean mg mb news n t _ _ _ _ _ _ _ _ _ _ _ _ _ _ _ _ _ B F X N T rfl hn (by decide) (by decide +kernel) hret
theorem ell_law {x y a b : Str} {t u : Tok} (hsp : Txt.split x (Str.ofString "...") = [Str.ofString "", a, b, Str.ofString ""]) (hin : (Builtin.Str.occurrences x (Str.ofString "...") 0 x.length 1).isEmpty = false) (hlx : x.length ≤ 1000) (hly : y.length ≤ 1000) (hla : a.length ≤ 100) (hlb : b.length ≤ 100)
    (B : Below callerA g [] g) (F : Fr g L s.heap m) (X : (hd.heap_39 w.params).In g) (N : News g L s.heap news) (T : Top hd.view_39 Lo mean mg mb g)
    (hret : ∀ h' tk', Fr g L h' m → News g L h' news → Q (.bool (ell a b y)) { s with heap := h', toks := tk' }) :
    wpAny (model Challenge.rw_re0025_01.row.prog w) (callerA.deeper (lawEnv L fa cd)) (call (.ref 46) [.str x t, .str y u]) Q E s :=
  ell_spec w mean mg mb x y a b t u hsp hin hlx hly hla hlb news _ _ _ _ _ _ _ _ _ _ _ _ _ _ _ _ _ B F X N T rfl trivial (by decide) (by decide +kernel) fun _ => hret
end
end Mine
end
section
open PySem PySem.W PyProof.Rows PySem.Calls PySem.Spec PyProof.V
namespace Mine
theorem off_S1 : True := by w_top off; trivial
def S1 (g : Heap) (s0 s' : Shared) : Prop :=
  ∃ (h : Heap) (tk : Nat) (m : Str → Option Value) (nl : Addr) (vals : List Value) (nums : List Int) (c : Nat) (o1 o2 o3 : Obj),
    s' = { s0 with heap := h, toks := tk } ∧ Fr g g.objs.size h m ∧ News g g.objs.size h [(nl, listOf vals.toArray c), (g.objs.size + 1 + 1 + 1, o3), (g.objs.size + 1 + 1, o2), (g.objs.size + 1, o1)] ∧
    o1.data = .cell (some (.ref nl)) ∧ o2.data = .cell none ∧ o3.data = .cell none ∧ IntsAre vals nums ∧ nums.length = 6 ∧ (∀ x ∈ nums, 0 ≤ x ∧ x < 12) ∧ g.objs.size + 1 + 1 + 1 < nl
def J1 (sc nl : Addr) (rest : List (Addr × Obj)) (m₀ : Str → Option Value) (_ : Nat) (m : Str → Option Value) (news : List (Addr × Obj)) : Prop :=
  ∃ (vals : List Value) (nums : List Int) (c : Nat) (u : Str → Option Value),
    m = kstB (fun z => if [Str.ofString "k"].contains z then u z else m₀ z) [(Str.ofString "script", .ref sc)] ∧
    news = (nl, listOf vals.toArray c) :: rest ∧ IntsAre vals nums ∧ nums.length = 6 ∧ ∀ x ∈ nums, 0 ≤ x ∧ x < 12
theorem J1.next {g h' : Heap} {L I sc nl a1 a2 a3 : Addr} {io o1 o2 o3 : Obj} {i tk : Nat} {m0 m' : Str → Option Value} {s0 : Shared} {Q : Flow → Shared → Prop} {vals' : List Value} {nums' : List Int} {c' : Nat}
    (F9 : Fr g L h' m') (N9 : News g L h' [(nl, listOf vals'.toArray c'), (a3, o3), (a2, o2), (a1, o1), (I, io)]) (e1 : nl ≠ I) (e2 : a3 ≠ I) (e3 : a2 ≠ I) (e4 : a1 ≠ I)
    (hm1 : m' (Str.ofString "script") = some (.ref sc)) (hm3 : ∀ z, z ≠ Str.ofString "script" → [Str.ofString "k"].contains z = false → m' z = m0 z)
    (hv : IntsAre vals' nums') (hl : nums'.length = 6) (h12 : ∀ x ∈ nums', 0 ≤ x ∧ x < 12) :
    StepX s0 g L I io (J1 sc nl [(a3, o3), (a2, o2), (a1, o1)] m0 (i + 1)) Q .next { s0 with heap := h', toks := tk } := by
  refine StepX.go (news' := [(nl, listOf vals'.toArray c'), (a3, o3), (a2, o2), (a1, o1)]) F9 N9 (fun p hp => hp) (List.forall_mem_cons.mpr ⟨e1, List.forall_mem_cons.mpr ⟨e2, List.forall_mem_cons.mpr ⟨e3, List.forall_mem_cons.mpr ⟨e4, List.forall_mem_nil _⟩⟩⟩⟩)
    ⟨vals', nums', c', m', upd_eq (List.forall_mem_cons.mpr ⟨hm1, List.forall_mem_nil _⟩) ?_, rfl, hv, hl, h12⟩
  intro z hz hc
  exact hm3 z (hz _ (.head _)) hc
theorem set12 {nums : List Int} {i : Nat} {v : Int} (h : ∀ x ∈ nums, 0 ≤ x ∧ x < 12) (hv : 0 ≤ v ∧ v < 12) : ∀ x ∈ nums.set i v, 0 ≤ x ∧ x < 12 := by
  intro x hx
  rcases List.mem_or_eq_of_mem_set hx with hx | rfl
  · exact h x hx
  · exact hv
theorem fmod12 (a : Int) : 0 ≤ a.fmod 12 ∧ a.fmod 12 < 12 := ⟨Int.fmod_nonneg_of_pos a (by decide), Int.fmod_lt_of_pos a (by decide)⟩
local macro_rules | `(tactic| walk_at "exec For Name Call cons nil") => `(tactic| (k_here; k_dflt (refine For_X ?_ (by intro _; rfl))))
theorem seg1 (w : World) (mean : ExcName → Option Value) (mg mb : Str → Option Value) (g : Heap) (s : Shared) (fa sc : Addr) (cd : Value) (vs : List Value) (ns : List Int) (m : Str → Option Value) (o1 o2 o3 : Obj) (Q : Flow → Shared → Prop) (E : Value → Shared → Prop)
    (hnext : ∀ s', S1 g s s' → wpAny (model Challenge.rw_re0025_01.row.prog w) (callerA.deeper (lawEnv g.objs.size fa cd)) (execs (lawBody.drop 2) (lawEnv g.objs.size fa cd)) Q E s')
    (hE : PassesOwn (model Challenge.rw_re0025_01.row.prog w) (callerA.deeper (lawEnv g.objs.size fa cd)) (lawEnv g.objs.size fa cd) E)
    : (hd.heap_39 w.params).In g → ∀ (T : Top hd.view_39 Lo mean mg mb g) (B : Below callerA g [] g)
    (hL : g.IsList sc vs.toArray) (hI : IntsAre vs ns) (hlen : ns.length ≤ 63) (F : Fr g g.objs.size s.heap m) (hm : m (Str.ofString "script") = some (.ref sc))
    (N : News g g.objs.size s.heap [(g.objs.size + 1 + 1 + 1, o3), (g.objs.size + 1 + 1, o2), (g.objs.size + 1, o1)]) (c1 : o1.data = .cell none) (c2 : o2.data = .cell none) (c3 : o3.data = .cell none),
    wpAny (model Challenge.rw_re0025_01.row.prog w) (callerA.deeper (lawEnv g.objs.size fa cd)) (execs lawBody (lawEnv g.objs.size fa cd)) Q E s := by
  k_fill
  intro X T B hL hI hlen F0 hm N c1 c2 c3
  have F := frKst (ps := [(Str.ofString "script", .ref sc)]) F0 (List.forall_mem_cons.mpr ⟨hm, List.forall_mem_nil _⟩)
  clear F0
  with_unfolding_all dsimp only [lawEnv, lawBody, lawScope, lawPick, Challenge.pw_re0025_01, List.getLast?, List.getLast]
  k_steps
  rename Fr _ _ _ _ => lF
  rename News _ _ _ _ => lN
  rename IsRange _ _ _ _ _ _ _ _ => rgX
  rename IntsAre _ (List.take 6 ns) => hI6
  rename (_ = Data.cell (some (Value.ref _))) => hc1
  obtain ⟨nl, rfl⟩ := nwName2 lN
  obtain ⟨oN, rfl⟩ := objName hc1
  have lN2 := nwSub lN (fun p hp => .tail _ hp)
  have hlt6 : (List.take 6 ns).length ≤ 6 := by rw [List.length_take]; omega
  have hlt7 : (List.take 6 ns).length ≤ ns.length := by rw [List.length_take]; omega
  refine' iter_rangeX (J1 sc nl [(g.objs.size + 1 + 1 + 1, o3), (g.objs.size + 1 + 1, o2), (g.objs.size + 1, oN)] m) (by rfl) rgX ?sm (n := (List.take 6 ns).length) ?rs lF lN2 ?h0 ?turn ?done (by intros; rfl) hE
  case sm => exact small_one (by omega) (by omega) (by omega) (by omega)
  case rs => rw [rangeSize_nat]; omega
  case h0 => exact ⟨_, [1, 6, 9, 3, 0, 1], _, m, (funext fun z => by simp only [kstB, ite_self]), rfl, .cons _ _ (.cons _ _ (.cons _ _ (.cons _ _ (.cons _ _ (.cons _ _ .nil))))), rfl, by decide⟩
  case turn =>
    rintro I i ti m₁ news₁ h tk io hlt hi ⟨vals, nums, c, u, rfl, rfl, hv, hnl, hn12⟩ hne F₁ N₁
    simp only [List.cons_append, List.nil_append] at N₁
    have e1 := neN (hne _ (.head _))
    have e2 := neN (hne _ (.tail _ (.head _)))
    have e3 := neN (hne _ (.tail _ (.tail _ (.head _))))
    have e4 := neN (hne _ (.tail _ (.tail _ (.tail _ (.head _)))))
    dsimp only at e1 e2 e3 e4
    clear lF lN lN2 rgX hne hlt
    k_steps
    rename Fr _ _ _ _ => F9
    rename News _ _ _ _ => N9
    rename IntsAre _ (List.set _ _ _) => hv9
    refine J1.next F9 N9 e1 e2 e3 e4 rfl ?_ hv9 (by rw [List.length_set]; exact hnl) (set12 hn12 (fmod12 _))
    intro z hz1 hz3
    have hz4 : z ≠ Str.ofString "k" := by rintro rfl; exact absurd hz3 (by decide)
    simp only [kstB, hz1, hz3, hz4, if_false, Bool.false_eq_true]
  case done =>
    rintro m₁ news₁ h tk ⟨vals, nums, c, u, rfl, rfl, hv, hnl, hn12⟩ F₁ N₁
    refine wpAny_execs_nil ?_
    refine hnext _ ⟨h, tk, _, nl, vals, nums, c, oN, o2, o3, rfl, F₁, N₁, hc1, c2, c3, hv, hnl, hn12, ?_⟩
    rename (g.objs.size + 1 + 1 + 1 < nl ∧ _) => hlt9
    exact hlt9.1
end Mine
end
section
open PySem PySem.W PyProof.Rows PySem.Calls PySem.Spec PyProof.V
namespace Mine
theorem off_S2 : True := by w_top off; trivial
def markF (nums : List Int) (k : Nat) : Str := if ((nums.getD k 0).fdiv 2).fmod 2 = 1 then Str.ofString "# ." ++ letterF k else Str.ofString ".." ++ letterF k
def rowF (nums : List Int) (k : Nat) : Str := markF nums k ++ Str.ofString "\x0d\n"
def J2 (rl ml nl : Addr) (nv : List Value) (cn : Nat) (nums : List Int) (rest : List (Addr × Obj)) (m₀ : Str → Option Value) (i : Nat) (m : Str → Option Value) (news : List (Addr × Obj)) : Prop :=
  ∃ (rv mv : List Value) (c1 c2 : Nat) (u : Str → Option Value),
    m = kstB (fun z => if [Str.ofString "k", Str.ofString "sign", Str.ofString "raw"].contains z then u z else m₀ z) [(Str.ofString "marks", .ref ml)] ∧
    news = (ml, listOf mv.toArray c2) :: (rl, listOf rv.toArray c1) :: (nl, listOf nv.toArray cn) :: rest ∧ StrsAre mv ((List.range i).map (markF nums)) ∧ StrsAre rv ((List.range i).map (rowF nums))
theorem sign_facts : ∀ i : _root_.Fin 4, Str.ofString "# " ++ (Str.ofString "." ++ Txt.item (Str.ofString "abcd") (0 + (i.1 : Int))) = Str.ofString "# ." ++ letterF i.1 ∧ Str.ofString "." ++ (Str.ofString "." ++ Txt.item (Str.ofString "abcd") (0 + (i.1 : Int))) = Str.ofString ".." ++ letterF i.1 := by decide +kernel
theorem sign1 {i : Nat} (hi : i < 4) : Str.ofString "# " ++ (Str.ofString "." ++ Txt.item (Str.ofString "abcd") (0 + (i : Int))) = Str.ofString "# ." ++ letterF i := (sign_facts ⟨i, hi⟩).1
theorem sign2 {i : Nat} (hi : i < 4) : Str.ofString "." ++ (Str.ofString "." ++ Txt.item (Str.ofString "abcd") (0 + (i : Int))) = Str.ofString ".." ++ letterF i := (sign_facts ⟨i, hi⟩).2
theorem J2.next {g h' : Heap} {L I rl ml nl a1 a2 a3 : Addr} {io o1 o2 o3 : Obj} {i tk cn : Nat} {nv : List Value} {nums : List Int} {m0 m' : Str → Option Value} {s0 : Shared} {Q : Flow → Shared → Prop} {rv mv : List Value} {c1 c2 : Nat} {all : List (Addr × Obj)} {t1 t2 : Tok} {x y : Str}
    (F9 : Fr g L h' m') (N9 : News g L h' all) (hs : ∀ p ∈ [(ml, listOf (mv.toArray.push (.str x t1)) c2), (rl, listOf (rv.toArray.push (.str y t2)) c1), (nl, listOf nv.toArray cn), (a3, o3), (a2, o2), (a1, o1), (I, io)], p ∈ all)
    (e1 : ml ≠ I) (e2 : rl ≠ I) (e3 : nl ≠ I) (e4 : a3 ≠ I) (e5 : a2 ≠ I) (e6 : a1 ≠ I)
    (hm1 : m' (Str.ofString "marks") = some (.ref ml)) (hm3 : ∀ z, z ≠ Str.ofString "marks" → [Str.ofString "k", Str.ofString "sign", Str.ofString "raw"].contains z = false → m' z = m0 z)
    (hx : x = markF nums i) (hy : y = rowF nums i) (hmv : StrsAre mv ((List.range i).map (markF nums))) (hrv : StrsAre rv ((List.range i).map (rowF nums))) :
    StepX s0 g L I io (J2 rl ml nl nv cn nums [(a3, o3), (a2, o2), (a1, o1)] m0 (i + 1)) Q .next { s0 with heap := h', toks := tk } := by
  refine StepX.go (news' := [(ml, listOf (mv ++ [Value.str x t1]).toArray c2), (rl, listOf (rv ++ [Value.str y t2]).toArray c1), (nl, listOf nv.toArray cn), (a3, o3), (a2, o2), (a1, o1)]) F9 N9 ?_ ?_
    ⟨rv ++ [.str y t2], mv ++ [.str x t1], c1, c2, m', upd_eq (List.forall_mem_cons.mpr ⟨hm1, List.forall_mem_nil _⟩) ?_, rfl, ?_, ?_⟩
  · intro p hp
    refine hs p ?_
    simpa using hp
  · simp only [List.mem_cons, List.not_mem_nil, or_false, forall_eq_or_imp, forall_eq]
    exact ⟨e1, e2, e3, e4, e5, e6⟩
  · intro z hz hc
    exact hm3 z (hz _ (.head _)) hc
  · rw [List.range_succ, List.map_append, hx]; exact StrsAre.append' hmv (.cons _ _ .nil)
  · rw [List.range_succ, List.map_append, hy]; exact StrsAre.append' hrv (.cons _ _ .nil)
def S2 (g : Heap) (s0 s' : Shared) : Prop :=
  ∃ (h : Heap) (tk : Nat) (m : Str → Option Value) (nl rl ml : Addr) (nv rv mv : List Value) (nums : List Int) (cn c1 c2 : Nat) (o1 o2 o3 : Obj),
    s' = { s0 with heap := h, toks := tk } ∧ Fr g g.objs.size h m ∧ m (Str.ofString "marks") = some (.ref ml) ∧
    News g g.objs.size h [(ml, listOf mv.toArray c2), (rl, listOf rv.toArray c1), (nl, listOf nv.toArray cn), (g.objs.size + 1 + 1 + 1, o3), (g.objs.size + 1 + 1, o2), (g.objs.size + 1, o1)] ∧
    o1.data = .cell (some (.ref nl)) ∧ o2.data = .cell (some (.ref rl)) ∧ o3.data = .cell none ∧ IntsAre nv nums ∧ nums.length = 6 ∧ (∀ x ∈ nums, 0 ≤ x ∧ x < 12) ∧
    StrsAre mv ((List.range 4).map (markF nums)) ∧ StrsAre rv ((List.range 4).map (rowF nums)) ∧ g.objs.size + 1 + 1 + 1 < nl ∧ nl < rl ∧ rl < ml
theorem tail3 {prog : Program} {w : World} {A : Around} {E : Value → Shared → Prop} {s : Shared} {value slice : PySem.Expr} {D : Addr} {x1 x2 x3 : Str} {t1 t2 t3 u : Tok} {k : Int} {h₀ : Heap} {L : Addr} {news : List (Addr × Obj)} {n : Nat} {Q : Value → Shared → Prop}
    (N : News h₀ L s.heap news) (hD : (D, ({ cls := .type "tuple", data := .seq #[.str x1 t1, .str x2 t2, .str x3 t3] n } : Obj)) ∈ news) (h0 : 0 ≤ k) (h3 : k < 3) (h : ∀ t, Q (.str ([x1, x2, x3].getD k.toNat (Str.ofString "")) t) s)
    (hs : subscripted slice false (.ref D) (.int k u) = operate [.ref D, .int k u] (getItem (.ref D) (.int k u))) : wpAny (model prog w) A (subscriptTail value slice (.ref D) (.int k u)) Q E s := by
  have hT : IsTup s.heap D #[.str x1 t1, .str x2 t2, .str x3 t3] := ⟨_, (N _ hD).1, rfl, n, rfl⟩
  have hk : k = 0 ∨ k = 1 ∨ k = 2 := by omega
  rcases hk with rfl | rfl | rfl
  · exact item_tupleT (l := [.str x1 t1, .str x2 t2, .str x3 t3]) hT (by decide) (by decide) (j := 0) rfl rfl (h t1) hs
  · exact item_tupleT (l := [.str x1 t1, .str x2 t2, .str x3 t3]) hT (by decide) (by decide) (j := 1) rfl rfl (h t2) hs
  · exact item_tupleT (l := [.str x1 t1, .str x2 t2, .str x3 t3]) hT (by decide) (by decide) (j := 2) rfl rfl (h t3) hs
theorem lastItem {prog : Program} {w : World} {A : Around} {E : Value → Shared → Prop} {s : Shared} {value slice : PySem.Expr} {D : Addr} {vs : List Value} {v : Value} {u : Tok} {k : Int} {h₀ : Heap} {L : Addr} {news : List (Addr × Obj)} {n : Nat} {Q : Value → Shared → Prop}
    (N : News h₀ L s.heap news) (hD : (D, listOf (vs.toArray.push v) n) ∈ news) (h0 : 0 ≤ k) (hk : k.toNat = vs.length) (hhi : k < 2 ^ 63) (h : Q v s)
    (hs : subscripted slice false (.ref D) (.int k u) = operate [.ref D, .int k u] (getItem (.ref D) (.int k u))) : wpAny (model prog w) A (subscriptTail value slice (.ref D) (.int k u)) Q E s := by
  have hL : s.heap.IsList D (vs.toArray.push v) := ⟨_, (N _ hD).1, rfl, n, rfl⟩
  exact tail_any hL.typeIs slot_list_getitem.lookup (wpAny_getItem_list hL h0 hhi (by rw [hk]; simp) h) hs
theorem div4 {nums : List Int} {i : Nat} (h : ∀ x ∈ nums, 0 ≤ x ∧ x < 12) (hl : nums.length = 6) (hi : i < 4) : 0 ≤ (nums.getD i 0).fdiv 4 ∧ (nums.getD i 0).fdiv 4 < 3 := by
  have hm : nums.getD i 0 ∈ nums := by
    rw [List.getD_eq_getElem?_getD, List.getElem?_eq_getElem (by omega)]
    exact List.getElem_mem _
  have := h _ hm
  have e := Int.fdiv_eq_ediv_of_nonneg (nums.getD i 0) (show (0 : Int) ≤ 4 by decide)
  rw [e]
  omega
local macro_rules | `(tactic| walk_at "call ref") => `(tactic| (k_here; k_dflt (first | refine comment_law (by assumption) (by omega) (by k_asm) (by k_asm) (by k_asm) (by k_asm) (by k_asm) ?_ | refine quo_law (by assumption) (by omega) (by k_asm) (by k_asm) (by k_asm) (by k_asm) (by k_asm) ?_); intro t9 h9 tk9 F9 N9; (try dsimp only)))
local macro_rules | `(tactic| walk_at "subscriptTail") => `(tactic| (k_here; k_dflt (refine lastItem (by k_asm) (by k_mem) (by (try dsimp only); omega) (by (try dsimp only); omega) (by (try dsimp only); omega) ?_ (by with_unfolding_all rfl)); (try dsimp only)))
local macro_rules | `(tactic| walk_at "subscriptTail") => `(tactic| (k_here; k_dflt (refine tail3 (by k_asm) (by k_mem) (by (try dsimp only); omega) (by (try dsimp only); omega) ?_ (by with_unfolding_all rfl)); intro t9))
local macro_rules | `(tactic| walk_at "exec For Name Call cons nil") => `(tactic| (k_here; k_dflt (refine For_X ?_ (by intro _; rfl))))
theorem seg2 (w : World) (mean : ExcName → Option Value) (mg mb : Str → Option Value) (g : Heap) (s0 s : Shared) (fa : Addr) (cd : Value) (Q : Flow → Shared → Prop) (E : Value → Shared → Prop)
    (hnext : ∀ s', S2 g s0 s' → wpAny (model Challenge.rw_re0025_01.row.prog w) (callerA.deeper (lawEnv g.objs.size fa cd)) (execs (lawBody.drop 5) (lawEnv g.objs.size fa cd)) Q E s')
    (hE : PassesOwn (model Challenge.rw_re0025_01.row.prog w) (callerA.deeper (lawEnv g.objs.size fa cd)) (lawEnv g.objs.size fa cd) E)
    : (hd.heap_39 w.params).In g → ∀ (T : Top hd.view_39 Lo mean mg mb g) (B : Below callerA g [] g) (hS : S1 g s0 s),
    wpAny (model Challenge.rw_re0025_01.row.prog w) (callerA.deeper (lawEnv g.objs.size fa cd)) (execs (lawBody.drop 2) (lawEnv g.objs.size fa cd)) Q E s := by
  k_fill
  intro X T B hS
  obtain ⟨h, tk, m, nl, nv, nums, cn, o1, o2, o3, rfl, F, N, hc1, hc2, hc3, hv, hnl, hn12, hlt⟩ := hS
  with_unfolding_all dsimp only [lawEnv, lawBody, lawScope, lawPick, Challenge.pw_re0025_01, List.getLast?, List.getLast, List.drop]
  k_steps
  rename Fr _ _ _ _ => lF
  rename News _ _ _ _ => lN
  rename IsRange _ _ _ _ _ _ _ _ => rgX
  rename (_ = Data.cell (some (Value.ref _))) => hcr
  obtain ⟨ml, rfl⟩ := nwName lN
  obtain ⟨rl, rfl⟩ := nwName2 lN
  obtain ⟨oR, rfl⟩ := objName hcr
  rename (rl < ml ∧ _) => hlm
  rename (nl < rl ∧ _) => hlr
  obtain ⟨m0, em, lF2⟩ := frName lF
  have e1 : m0 (Str.ofString "marks") = some (Value.ref ml) := by rw [em]; rfl
  clear em lF
  refine' iter_rangeX (J2 rl ml nl nv cn nums [(g.objs.size + 1 + 1 + 1, o3), (g.objs.size + 1 + 1, oR), (g.objs.size + 1, o1)] m0) (by rfl) rgX (by decide) (n := 4) (by decide) lF2 lN ?h0 ?turn ?done (by intros; rfl) hE
  case h0 => exact ⟨[], [], _, _, m0, upd_start (List.forall_mem_cons.mpr ⟨e1, List.forall_mem_nil _⟩), rfl, .nil, .nil⟩
  case turn =>
    rintro I i ti m₁ news₁ h tk io hltI hi ⟨rv, mv, c1, c2, u, rfl, rfl, hmv, hrv⟩ hne F₁ N₁
    simp only [List.cons_append, List.nil_append] at N₁
    have e1 := neN (hne _ (.head _))
    have e2 := neN (hne _ (.tail _ (.head _)))
    have e3 := neN (hne _ (.tail _ (.tail _ (.head _))))
    have e4 := neN (hne _ (.tail _ (.tail _ (.tail _ (.head _)))))
    have e5 := neN (hne _ (.tail _ (.tail _ (.tail _ (.tail _ (.head _))))))
    have e6 := neN (hne _ (.tail _ (.tail _ (.tail _ (.tail _ (.tail _ (.head _)))))))
    dsimp only at e1 e2 e3 e4 e5 e6
    have kMk := kstMark
    have hi0 : (0 + (i : Int)).toNat = i := by omega
    have hd4 := div4 hn12 hnl hi
    rw [← hi0] at hd4
    have hml := StrsAre.len_eq hmv
    have hrl := StrsAre.len_eq hrv
    rw [List.length_map, List.length_range] at hml hrl
    clear lF2 lN rgX hne hltI
    k_steps
    · rename ((_ != _) = true) => hb
      rw [sign1 hi] at hb
      exact absurd hb (by simp)
    · rename Fr _ _ _ _ => F9
      rename News _ _ _ _ => N9
      rename (Int.fmod _ 2 = 1) => hcond
      rw [hi0] at hcond
      refine J2.next F9 N9 (fun p hp => .tail _ hp) e1 e2 e3 e4 e5 e6 rfl ?_ ?_ ?_ hmv hrv
      · intro z hz1 hz3
        have hz4 : z ≠ Str.ofString "k" := by rintro rfl; exact absurd hz3 (by decide)
        have hz5 : z ≠ Str.ofString "sign" := by rintro rfl; exact absurd hz3 (by decide)
        have hz6 : z ≠ Str.ofString "raw" := by rintro rfl; exact absurd hz3 (by decide)
        simp only [kstB, hz1, hz3, hz4, hz5, hz6, if_false, Bool.false_eq_true]
      · rw [sign1 hi, markF, if_pos hcond]
      · rw [rowF, markF, if_pos hcond]
    · rename ((_ != _) = true) => hb
      rw [sign2 hi] at hb
      exact absurd hb (by simp)
    · rename Fr _ _ _ _ => F9
      rename News _ _ _ _ => N9
      rename (¬ Int.fmod _ 2 = 1) => hcond
      rw [hi0] at hcond
      refine J2.next F9 N9 (fun p hp => .tail _ hp) e1 e2 e3 e4 e5 e6 rfl ?_ ?_ ?_ hmv hrv
      · intro z hz1 hz3
        have hz4 : z ≠ Str.ofString "k" := by rintro rfl; exact absurd hz3 (by decide)
        have hz5 : z ≠ Str.ofString "sign" := by rintro rfl; exact absurd hz3 (by decide)
        have hz6 : z ≠ Str.ofString "raw" := by rintro rfl; exact absurd hz3 (by decide)
        simp only [kstB, hz1, hz3, hz4, hz5, hz6, if_false, Bool.false_eq_true]
      · rw [sign2 hi, markF, if_neg hcond]
      · rw [rowF, markF, if_neg hcond]
  case done =>
    rintro m₁ news₁ h tk ⟨rv, mv, c1, c2, u, rfl, rfl, hmv, hrv⟩ F₁ N₁
    refine wpAny_execs_nil ?_
    exact hnext _ ⟨h, tk, _, nl, rl, ml, nv, rv, mv, nums, cn, c1, c2, o1, oR, o3, rfl, F₁, rfl, N₁, hc1, hcr, hc3, hv, hnl, hn12, hmv, hrv, hlt, hlr.1, hlm.1⟩
end Mine
end
section
open PySem PySem.W PyProof.Rows PySem.Calls PySem.Spec PyProof.V
namespace Mine
theorem off_S3 : True := by w_top off; trivial
def pairsZ : List (Int × Int) := [(0, 1), (0, 2), (0, 3), (1, 2), (1, 3), (2, 3)]
def pairD (p : Int × Int) : W.Dat := .tuple [.int p.1, .int p.2]
def S2b (g : Heap) (s0 s' : Shared) : Prop :=
  ∃ (h : Heap) (tk : Nat) (m : Str → Option Value) (nl rl ml pl : Addr) (nv rv mv pv : List Value) (nums : List Int) (cn c1 c2 c3 : Nat) (o1 o2 o3 : Obj) (tl : List (Addr × Obj)) (ts : Tok),
    s' = { s0 with heap := h, toks := tk } ∧ Fr g g.objs.size h m ∧ m (Str.ofString "marks") = some (.ref ml) ∧ m (Str.ofString "start") = some (.int (nums.sum.fmod 10) ts) ∧
    News g g.objs.size h ((pl, listOf pv.toArray c3) :: (ml, listOf mv.toArray c2) :: (rl, listOf rv.toArray c1) :: (nl, listOf nv.toArray cn) :: (g.objs.size + 1 + 1 + 1, o3) :: (g.objs.size + 1 + 1, o2) :: (g.objs.size + 1, o1) :: tl) ∧
    o1.data = .cell (some (.ref nl)) ∧ o2.data = .cell (some (.ref rl)) ∧ o3.data = .cell (some (.ref pl)) ∧ IntsAre nv nums ∧ nums.length = 6 ∧ (∀ x ∈ nums, 0 ≤ x ∧ x < 12) ∧
    StrsAre mv ((List.range 4).map (markF nums)) ∧ StrsAre rv ((List.range 4).map (rowF nums)) ∧ DatAll tl pv (pairsZ.map pairD) ∧ OwnOff tl [pl, ml, rl, nl, g.objs.size + 1 + 1 + 1, g.objs.size + 1 + 1, g.objs.size + 1] ∧
    g.objs.size + 1 + 1 + 1 < nl ∧ nl < rl ∧ rl < ml ∧ ml < pl
abbrev tupI (a b : Int) (t u : Tok) : Obj := { cls := .type "tuple", data := .seq #[.int a t, .int b u] }
theorem S2b.mk' {g h : Heap} {s0 : Shared} {tk : Nat} {m : Str → Option Value} {nl rl ml pl d0 d1 d2 d3 d4 d5 : Addr} {nv rv mv : List Value} {nums : List Int} {cn c1 c2 c3 : Nat} {o1 o2 o3 : Obj} {ts t0 t1 t2 t3 t4 t5 u0 u1 u2 u3 u4 u5 : Tok}
    (F : Fr g g.objs.size h m) (hm1 : m (Str.ofString "marks") = some (.ref ml)) (hm2 : m (Str.ofString "start") = some (.int (nums.sum.fmod 10) ts))
    (N : News g g.objs.size h [(pl, listOf #[.ref d0, .ref d1, .ref d2, .ref d3, .ref d4, .ref d5] c3), (d5, tupI 2 3 t5 u5), (d4, tupI 1 3 t4 u4), (d3, tupI 1 2 t3 u3), (d2, tupI 0 3 t2 u2), (d1, tupI 0 2 t1 u1), (d0, tupI 0 1 t0 u0),
      (ml, listOf mv.toArray c2), (rl, listOf rv.toArray c1), (nl, listOf nv.toArray cn), (g.objs.size + 1 + 1 + 1, o3), (g.objs.size + 1 + 1, o2), (g.objs.size + 1, o1)])
    (hc1 : o1.data = .cell (some (.ref nl))) (hc2 : o2.data = .cell (some (.ref rl))) (hc3 : o3.data = .cell (some (.ref pl))) (hv : IntsAre nv nums) (hnl : nums.length = 6) (hn12 : ∀ x ∈ nums, 0 ≤ x ∧ x < 12)
    (hmv : StrsAre mv ((List.range 4).map (markF nums))) (hrv : StrsAre rv ((List.range 4).map (rowF nums)))
    (l1 : g.objs.size + 1 + 1 + 1 < nl) (l2 : nl < rl) (l3 : rl < ml) (k0 : ml < d0) (k1 : d0 < d1) (k2 : d1 < d2) (k3 : d2 < d3) (k4 : d3 < d4) (k5 : d4 < d5) (k6 : d5 < pl) : S2b g s0 { s0 with heap := h, toks := tk } := by
  refine ⟨h, tk, m, nl, rl, ml, pl, nv, rv, mv, [.ref d0, .ref d1, .ref d2, .ref d3, .ref d4, .ref d5], nums, cn, c1, c2, c3, o1, o2, o3,
    [(d5, tupI 2 3 t5 u5), (d4, tupI 1 3 t4 u4), (d3, tupI 1 2 t3 u3), (d2, tupI 0 3 t2 u2), (d1, tupI 0 2 t1 u1), (d0, tupI 0 1 t0 u0)], ts, rfl, F, hm1, hm2, nwSub N ?sub, hc1, hc2, hc3, hv, hnl, hn12, hmv, hrv, ?dat, ?off, l1, l2, l3, ?lt⟩
  case dat => exact .cons (.tuple (vs := [.int 0 t0, .int 1 u0]) (n := 0) (by simp) (.cons (.int _ _) (.cons (.int _ _) .nil))) (.cons (.tuple (vs := [.int 0 t1, .int 2 u1]) (n := 0) (by simp) (.cons (.int _ _) (.cons (.int _ _) .nil)))
    (.cons (.tuple (vs := [.int 0 t2, .int 3 u2]) (n := 0) (by simp) (.cons (.int _ _) (.cons (.int _ _) .nil))) (.cons (.tuple (vs := [.int 1 t3, .int 2 u3]) (n := 0) (by simp) (.cons (.int _ _) (.cons (.int _ _) .nil))) (.cons (.tuple (vs := [.int 1 t4, .int 3 u4]) (n := 0) (by simp) (.cons (.int _ _) (.cons (.int _ _) .nil)))
    (.cons (.tuple (vs := [.int 2 t5, .int 3 u5]) (n := 0) (by simp) (.cons (.int _ _) (.cons (.int _ _) .nil))) .nil)))))
  case lt =>
    have := ltN k0; have := ltN k1; have := ltN k2; have := ltN k3; have := ltN k4; have := ltN k5; have := ltN k6
    refine ltN ?_
    omega
  case off =>
    have := ltN k0; have := ltN k1; have := ltN k2; have := ltN k3; have := ltN k4; have := ltN k5; have := ltN k6; have := ltN l1; have := ltN l2; have := ltN l3
    intro p hp b hb
    simp only [List.mem_cons, List.not_mem_nil, or_false] at hp hb
    refine neN ?_
    rcases hp with rfl | rfl | rfl | rfl | rfl | rfl <;> rcases hb with rfl | rfl | rfl | rfl | rfl | rfl | rfl <;> dsimp only <;> omega
  case sub =>
    intro p hp
    simp only [List.mem_cons, List.not_mem_nil, or_false] at hp ⊢
    rcases hp with h | h | h | h | h | h | h | h | h | h | h | h | h <;> simp only [h, true_or, or_true]
theorem seg3a (w : World) (mean : ExcName → Option Value) (mg mb : Str → Option Value) (g : Heap) (s0 s : Shared) (fa : Addr) (cd : Value) (Q : Flow → Shared → Prop) (E : Value → Shared → Prop)
    (hnext : ∀ s', S2b g s0 s' → wpAny (model Challenge.rw_re0025_01.row.prog w) (callerA.deeper (lawEnv g.objs.size fa cd)) (execs (lawBody.drop 7) (lawEnv g.objs.size fa cd)) Q E s')
    : (hd.heap_39 w.params).In g → ∀ (T : Top hd.view_39 Lo mean mg mb g) (B : Below callerA g [] g) (hS : S2 g s0 s),
    wpAny (model Challenge.rw_re0025_01.row.prog w) (callerA.deeper (lawEnv g.objs.size fa cd)) (execs (lawBody.drop 5) (lawEnv g.objs.size fa cd)) Q E s := by
  k_fill
  intro X T B hS
  obtain ⟨h, tk, m, nl, rl, ml, nv, rv, mv, nums, cn, c1, c2, o1, o2, o3, rfl, F0, hm, N, hc1, hc2, hc3, hv, hnl, hn12, hmv, hrv, hlt, hlr, hlm⟩ := hS
  have F := frKst (ps := [(Str.ofString "marks", .ref ml)]) F0 (List.forall_mem_cons.mpr ⟨hm, List.forall_mem_nil _⟩)
  clear F0
  have hltN := ltN hlt
  have hlrN := ltN hlr
  have hlmN := ltN hlm
  with_unfolding_all dsimp only [lawEnv, lawBody, lawScope, lawPick, Challenge.pw_re0025_01, List.getLast?, List.getLast, List.drop]
  -- start, pairs
  iterate 69 walk1
  rename Fr _ _ _ _ => F9
  rename News _ _ _ _ => N9
  rename (_ = Data.cell (some (Value.ref _))) => hc9
  refine hnext _ (S2b.mk' F9 rfl rfl N9 hc1 hc2 hc9 hv hnl hn12 hmv hrv hlt hlr hlm ?_ ?_ ?_ ?_ ?_ ?_ ?_) <;> (refine ltN ?_; omega)
end Mine
end
section
open PySem PySem.W PyProof.Rows PySem.Calls PySem.Spec PyProof.V
namespace Mine
theorem off_S3b : True := by w_top off; trivial
def oddAt (nums : List Int) (k : Nat) : Bool := decide ((nums.getD k 0).fmod 2 = 1)
def tstP (nums : List Int) (v : Value) : Bool := match v with | .int k _ => oddAt nums k.toNat | _ => false
def eltF (pv : List Value) (v y : Value) : Prop := match v with | .int k _ => pv[k.toNat]? = some y | _ => False
theorem compLocal {M : Model} {A : Around} {E : Value → Shared → Prop} {s : Shared} {scope : Scope} {cl : List (Str × Addr)} {C : Addr} {env : Env} {m : Str → Option Value} {x : Str} {pos : Pos} {v : Value} {Q : Value → Shared → Prop} (hn : s.heap.Ns C m) (hm : m x = some v) (h : Q v s)
    (hk : (compEnvC scope cl C env).scope.kind = .function := by rfl) (hx : (compEnvC scope cl C env).kindOf x = some .local := by rfl) (hb : (x == ("__debug__" : Str)) = false := by decide) :
    wpAny M A (eval (.Name x pos) (compEnvC scope cl C env)) Q E s := wpAny_Name (wpAny_loadName_local hk hx hn hm h) hb
theorem keepL {h₀ h h' : Heap} {L I : Addr} {news : List (Addr × Obj)} (N : News h₀ L h news) (hI : h.objs.size = I) (hk : ∀ b o, b ∉ [I] → (h.push o₁).get? b = some o → h'.get? b = some o) : News h₀ L h' news := fun p hp =>
  ⟨hk _ _ (by intro e; rw [List.mem_singleton] at e; exact absurd (Heap.lt_size (N p hp).1) (by rw [e, hI]; exact Nat.lt_irrefl _)) (Heap.get?_push_of_some _ (N p hp).1), (N p hp).2⟩
theorem keepFr {h₀ h h' : Heap} {L I : Addr} {m : Str → Option Value} (F : Fr h₀ L h m) (hI : h.objs.size = I) (hk : ∀ b o, b ∉ [I] → (h.push o₁).get? b = some o → h'.get? b = some o) : Fr h₀ L h' m := by
  refine F.keeps fun b o e => hk b o ?_ (Heap.get?_push_of_some _ e)
  intro q
  rw [List.mem_singleton] at q
  exact absurd (Heap.lt_size e) (by rw [q, hI]; exact Nat.lt_irrefl _)
def foesOf (nums : List Int) : List (Int × Int) := ((List.range 6).filter (oddAt nums)).map fun k => pairsZ.getD k (0, 0)
theorem pair_at {tl : List (Addr × Obj)} {pv : List Value} (hd : DatAll tl pv (pairsZ.map pairD)) {k : Nat} {y : Value} (hk : k < 6) (hy : pv[k]? = some y) : DatIn tl y (pairD (pairsZ.getD k (0, 0))) := by
  obtain ⟨v, hv, hdv⟩ := hd.get (k := k) hk
  rw [hy] at hv
  cases hv
  have e : ∀ j : _root_.Fin 6, (pairsZ.map pairD)[j.1]'j.2 = pairD (pairsZ.getD j.1 (0, 0)) := by
    intro j
    match j with
    | ⟨0, _⟩ => rfl
    | ⟨1, _⟩ => rfl
    | ⟨2, _⟩ => rfl
    | ⟨3, _⟩ => rfl
    | ⟨4, _⟩ => rfl
    | ⟨5, _⟩ => rfl
  exact (e ⟨k, hk⟩) ▸ hdv
theorem paired_dat {tl : List (Addr × Obj)} {pv : List Value} {nums : List Int} (hd : DatAll tl pv (pairsZ.map pairD)) : ∀ (vs : List Value) (k : Nat) (ys : List Value), k + vs.length ≤ 6 →
    (∀ (j : Nat) v, vs[j]? = some v → ∃ t, v = .int (((k + j : Nat) : Int)) t) → Paired (eltF pv) (vs.filter (tstP nums)) ys →
    DatAll tl ys ((((List.range' k vs.length).filter (oddAt nums)).map fun k => pairsZ.getD k (0, 0)).map pairD)
  | [], k, ys, _, _, h => by
    cases h
    exact .nil
  | v :: vs, k, ys, hk, hv, h => by
    obtain ⟨t, rfl⟩ := hv 0 v rfl
    have hk' : k + 1 + vs.length ≤ 6 := by simp only [List.length_cons] at hk; omega
    have hv' : ∀ (j : Nat) v, vs[j]? = some v → ∃ t, v = .int (((k + 1 + j : Nat) : Int)) t := fun j v e => by
      obtain ⟨t, rfl⟩ := hv (j + 1) v (by simpa using e)
      exact ⟨t, by congr 1; omega⟩
    rw [List.length_cons, List.range'_succ]
    have e0 : tstP nums (.int ((k + 0 : Nat) : Int) t) = oddAt nums k := by
      show oddAt nums (Int.toNat ((k + 0 : Nat) : Int)) = _
      rw [Int.toNat_natCast]; rfl
    cases ho : oddAt nums k with
    | true =>
      rw [List.filter_cons_of_pos (by rw [e0]; exact ho)] at h
      rw [List.filter_cons_of_pos ho]
      cases h with
      | cons hf hr =>
        refine .cons (pair_at hd (k := k) (by simp only [List.length_cons] at hk; omega) ?_) (paired_dat hd vs (k + 1) _ hk' hv' hr)
        have : pv[(Int.toNat ((k + 0 : Nat) : Int))]? = some _ := hf
        rw [Int.toNat_natCast] at this
        exact this
    | false =>
      rw [List.filter_cons_of_neg (by rw [e0, ho]; exact Bool.false_ne_true)] at h
      rw [List.filter_cons_of_neg (by rw [ho]; exact Bool.false_ne_true)]
      exact paired_dat hd vs (k + 1) _ hk' hv' h
theorem anyItem {prog : Program} {w : World} {A : Around} {E : Value → Shared → Prop} {s : Shared} {value slice : PySem.Expr} {D : Addr} {vs : List Value} {v : Value} {u : Tok} {k : Int} {h₀ : Heap} {L : Addr} {news : List (Addr × Obj)} {n : Nat} {Q : Value → Shared → Prop}
    (N : News h₀ L s.heap news) (hD : (D, listOf vs.toArray n) ∈ news) (h0 : 0 ≤ k) (hk : vs[k.toNat]? = some v) (hhi : k < 2 ^ 63) (h : Q v s)
    (hs : subscripted slice false (.ref D) (.int k u) = operate [.ref D, .int k u] (getItem (.ref D) (.int k u))) : wpAny (model prog w) A (subscriptTail value slice (.ref D) (.int k u)) Q E s := by
  have hL : s.heap.IsList D vs.toArray := ⟨_, (N _ hD).1, rfl, n, rfl⟩
  exact tail_any hL.typeIs slot_list_getitem.lookup (wpAny_getItem_list hL h0 hhi (by simpa using hk) h) hs
def S3 (g : Heap) (s0 s' : Shared) : Prop :=
  ∃ (h : Heap) (tk : Nat) (m : Str → Option Value) (nl rl ml pl fl : Addr) (nv rv mv pv fv : List Value) (nums : List Int) (cn c1 c2 c3 cf : Nat) (o1 o2 o3 : Obj) (tl : List (Addr × Obj)) (ts : Tok),
    s' = { s0 with heap := h, toks := tk } ∧ Fr g g.objs.size h m ∧ m (Str.ofString "marks") = some (.ref ml) ∧ m (Str.ofString "start") = some (.int (nums.sum.fmod 10) ts) ∧ m (Str.ofString "foes") = some (.ref fl) ∧
    News g g.objs.size h ((fl, listOf fv.toArray cf) :: (pl, listOf pv.toArray c3) :: (ml, listOf mv.toArray c2) :: (rl, listOf rv.toArray c1) :: (nl, listOf nv.toArray cn) :: (g.objs.size + 1 + 1 + 1, o3) :: (g.objs.size + 1 + 1, o2) :: (g.objs.size + 1, o1) :: tl) ∧
    o1.data = .cell (some (.ref nl)) ∧ o2.data = .cell (some (.ref rl)) ∧ o3.data = .cell (some (.ref pl)) ∧ IntsAre nv nums ∧ nums.length = 6 ∧ (∀ x ∈ nums, 0 ≤ x ∧ x < 12) ∧
    StrsAre mv ((List.range 4).map (markF nums)) ∧ StrsAre rv ((List.range 4).map (rowF nums)) ∧ DatAll tl pv (pairsZ.map pairD) ∧ DatAll tl fv ((foesOf nums).map pairD) ∧ OwnOff tl [fl, pl, ml, rl, nl, g.objs.size + 1 + 1 + 1, g.objs.size + 1 + 1, g.objs.size + 1] ∧
    g.objs.size + 1 + 1 + 1 < nl ∧ nl < rl ∧ rl < ml ∧ ml < pl ∧ fl ≠ pl ∧ fl ≠ ml ∧ fl ≠ rl ∧ fl ≠ nl ∧ fl ≠ g.objs.size + 1 + 1 + 1 ∧ fl ≠ g.objs.size + 1 + 1 ∧ fl ≠ g.objs.size + 1
theorem compFin {g h h' : Heap} {L I D : Addr} {io : Obj} {m m' : Str → Option Value} {ys : Array Value} {cf : Nat} {news : List (Addr × Obj)} (F : Fr g L h m) (N : News g L h news) (hI : h.objs.size = I) (hD : (h.push io).get? D = none)
    (hpl : h'.get? D = some (listOf ys cf)) (hns : h'.Ns L m') (hk : ∀ b o, b ≠ L → b ∉ [I] → (h.push io).get? b = some o → h'.get? b = some o) : Fr g L h' m' ∧ News g L h' ((D, listOf ys cf) :: news) ∧ ∀ p ∈ news, p.1 ≠ D := by
  have hne : ∀ {b : Addr} {o : Obj}, h.get? b = some o → b ≠ D := fun e q => by
    subst q
    rw [Heap.get?_push_of_some io e] at hD
    cases hD
  have hnI : ∀ {b : Addr} {o : Obj}, h.get? b = some o → b ∉ [I] := fun e q => by
    rw [List.mem_singleton] at q
    exact absurd (Heap.lt_size e) (by rw [q, hI]; exact Nat.lt_irrefl _)
  obtain ⟨oL, _, _, hL, _⟩ := id F.ns
  refine ⟨⟨hns, fun b o e => hk b o (Nat.ne_of_lt (Nat.lt_of_lt_of_le (Heap.lt_size e) F.above)) (hnI (F.keep b o e)) (Heap.get?_push_of_some _ (F.keep b o e)), F.above⟩, ?_, fun p hp => hne (N p hp).1⟩
  intro p hp
  rcases List.mem_cons.mp hp with rfl | hp
  · refine ⟨hpl, fun e => hne hL e.symm, ?_⟩
    cases q : g.get? D with
    | none => rfl
    | some o' => exact absurd rfl (hne (F.keep _ _ q))
  · exact ⟨hk _ _ (N p hp).2.1 (hnI (N p hp).1) (Heap.get?_push_of_some _ (N p hp).1), (N p hp).2⟩
local macro_rules | `(tactic| walk_at "subscriptTail") => `(tactic| (k_here; k_dflt (refine anyItem (by k_asm) (by k_mem) (by (try dsimp only); omega) (by assumption) (by (try dsimp only); omega) ?_ (by with_unfolding_all rfl)); (try dsimp only)))
local macro_rules | `(tactic| walk_at "eval Name") => `(tactic| (k_here; k_dflt (refine compLocal (by assumption) (by assumption) ?_)))
theorem seg3b (w : World) (mean : ExcName → Option Value) (mg mb : Str → Option Value) (g : Heap) (s0 s : Shared) (fa : Addr) (cd : Value) (Q : Flow → Shared → Prop) (E : Value → Shared → Prop)
    (hnext : ∀ s', S3 g s0 s' → wpAny (model Challenge.rw_re0025_01.row.prog w) (callerA.deeper (lawEnv g.objs.size fa cd)) (execs (lawBody.drop 8) (lawEnv g.objs.size fa cd)) Q E s')
    : (hd.heap_39 w.params).In g → ∀ (T : Top hd.view_39 Lo mean mg mb g) (B : Below callerA g [] g) (hS : S2b g s0 s),
    wpAny (model Challenge.rw_re0025_01.row.prog w) (callerA.deeper (lawEnv g.objs.size fa cd)) (execs (lawBody.drop 7) (lawEnv g.objs.size fa cd)) Q E s := by
  k_fill
  intro X T B hS
  obtain ⟨h, tk, m, nl, rl, ml, pl, nv, rv, mv, pv, nums, cn, c1, c2, c3, o1, o2, o3, tl, ts, rfl, F0, hm1, hm2, N, hc1, hc2, hc3, hv, hnl, hn12, hmv, hrv, hdat, hoff, hlt, hlr, hlm, hlp⟩ := hS
  have F := frKst (ps := [(Str.ofString "marks", .ref ml), (Str.ofString "start", .int (nums.sum.fmod 10) ts)]) F0 (List.forall_mem_cons.mpr ⟨hm1, List.forall_mem_cons.mpr ⟨hm2, List.forall_mem_nil _⟩⟩)
  clear F0
  with_unfolding_all dsimp only [lawEnv, lawBody, lawScope, lawPick, Challenge.pw_re0025_01, List.getLast?, List.getLast, List.drop]
  walk1
  refine' wpAny_Assign_ListComp_free (tstP nums) (eltF pv) ?hsw ?hclos ?hcell ?hkind ?hnames ?hx ?hy ?hp ?h
  case hsw => with_unfolding_all rfl
  case hclos => with_unfolding_all rfl
  case hcell => decide
  case hkind => rfl
  case hnames => decide
  case hx => rfl
  case hy => rfl
  case hp => rfl
  case h =>
    k_steps
    rename Fr _ _ _ _ => lF
    rename News _ _ _ _ => lN
    rename IsRange _ _ _ _ _ _ _ _ => rgX
    refine wpAny_pyIter_range rgX (by decide) ?_
    refine ⟨_, [_], [_], 6, _, _, _, rfl, (Walks.range rfl _ 0 1 6).bound, ?sz, ?st, ?fp, ?lw, (lF.push _).ns, ⟨?tests, ?elt⟩, ?fin⟩
    case sz => rw [sizeLine_eq]; decide
    case st => show IsRangeIter _ _ _ _ _; exact Heap.get?_push_size _ rfl
    case fp =>
      intro b hb
      rw [List.mem_singleton.mp hb, Heap.size_push]
      exact Nat.lt_succ_self _
    case lw =>
      intro hb
      exact absurd lF.ns.lt (by rw [List.mem_singleton] at hb; exact hb ▸ Nat.lt_irrefl _)
    case tests =>
      rintro C i v s₃ m₃ E' hC ⟨hi, t, rfl⟩ hns hm₃ hk htk
      have N₃ := keepL lN rfl hk
      have F₃ := keepFr lF rfl hk
      clear hk lN lF rgX
      simp only [List.forIn_cons, List.forIn_nil, if_true]
      have hlen6 : i < nums.length := by omega
      refine wpAny_bind (wpAny_bind (wpAny_mono (Q := fun ok s₄ => ok = tstP nums (.int (0 + (i : Int) * 1) t) ∧ Keeps s₃ s₄) ?_ (fun ok s₄ hq => wpAny_pure (wpAny_pure hq)) (fun _ _ e => e)))
      k_steps
      exact ⟨_, _, rfl, fun _ _ e => e⟩
    case elt =>
      rintro C i v s₃ m₃ E' hC ⟨hi, t, rfl⟩ hp hns hm₃ hk htk
      have N₃ := keepL lN rfl hk
      have F₃ := keepFr lF rfl hk
      clear hk lN lF rgX
      obtain ⟨y, hy, hdy⟩ := hdat.get (k := i) (show i < 6 from hi)
      have hy2 : pv[(0 + (i : Int) * 1).toNat]? = some y := by
        have : (0 + (i : Int) * 1).toNat = i := by omega
        rw [this]; exact hy
      k_steps
      · exact hy2
      · exact ⟨_, _, rfl, fun _ _ e => e⟩
    case fin =>
      intro D h' tk' ys vs hD hl hpl hlen hP hF hns hk
      dsimp only
      obtain ⟨cf, hpl⟩ := hpl
      obtain ⟨F9, N9, hd9⟩ := compFin lF lN rfl hD hpl hns hk
      have hfd : DatAll tl ys.toList ((foesOf nums).map pairD) := by
        have := paired_dat (nums := nums) hdat vs 0 ys.toList (by omega) (fun j v e => by
          obtain ⟨_, t, rfl⟩ := hP j v e
          exact ⟨t, by congr 1; omega⟩) hF
        rw [hlen] at this
        exact this
      refine hnext _ ⟨h', tk', _, nl, rl, ml, pl, D, nv, rv, mv, pv, ys.toList, nums, cn, c1, c2, c3, cf, o1, o2, o3, tl, ts, rfl, F9, rfl, rfl, rfl, N9, hc1, hc2, hc3, hv, hnl, hn12, hmv, hrv, hdat, hfd, ?_, hlt, hlr, hlm, hlp,
        (hd9 _ (.head _)).symm, (hd9 _ (.tail _ (.head _))).symm, (hd9 _ (.tail _ (.tail _ (.head _)))).symm, (hd9 _ (.tail _ (.tail _ (.tail _ (.head _))))).symm, (hd9 _ (.tail _ (.tail _ (.tail _ (.tail _ (.head _)))))).symm,
        (hd9 _ (.tail _ (.tail _ (.tail _ (.tail _ (.tail _ (.head _))))))).symm, (hd9 _ (.tail _ (.tail _ (.tail _ (.tail _ (.tail _ (.tail _ (.head _)))))))).symm⟩
      intro p hp b hb
      rcases List.mem_cons.mp hb with rfl | hb
      · exact hd9 p (.tail _ (.tail _ (.tail _ (.tail _ (.tail _ (.tail _ (.tail _ hp)))))))
      · exact hoff p hp b hb
end Mine
end
section
open PySem PySem.W PyProof.Rows PySem.Calls PySem.Spec PyProof.V
namespace Mine
open PySem.SeqAt
theorem kqdPs_map : ∀ ds : List W.Dat, kqdPs ds = ds.map kqdP
  | [] => by rw [kqdPs]; rfl
  | d :: ds => by rw [kqdPs, kqdPs_map ds]; rfl
theorem index_dat {prog : Program} {w : World} {A : Around} {E : Value → Shared → Prop} {s : Shared} {h₀ : Heap} {L l : Addr} {news n₁ n₂ : List (Addr × Obj)} {vs : List Value} {c j : Nat} {ds : List W.Dat} {x : Value} {d : W.Dat} {Q : Value → Shared → Prop}
    (N : News h₀ L s.heap news) (ml : (l, listOf vs.toArray c) ∈ news) (Dl : DatAll n₁ vs ds) (s1 : ∀ p ∈ n₁, p ∈ news) (Dx : DatIn n₂ x d) (s2 : ∀ p ∈ n₂, p ∈ news)
    (hok : ∀ e ∈ ds, kqdOk 8 e = true) (hokd : kqdOk 8 d = true) (hlen : ds.length ≤ 100) (hj : ds[j]? = some d) (hno : ∀ m, m < j → ds[m]? ≠ some d) (hu : A.units + 64 < cLine)
    (h : Q (.int (j : Int) s.toks) { s with toks := s.toks + 1 }) : wpAny (model prog w) A (call (.builtin "list.index") [.ref l, x]) Q E s := by
  obtain ⟨as, ra⟩ := kqd_all N 8 (Dl.mono s1) hok
  obtain ⟨bs, rx⟩ := kqd_in N 8 (Dx.mono s2) hokd
  have la := kqd_lay 9 (.list ds) (by simpa [kqdOk] using hok)
  have lx := kqd_lay 8 d hokd
  rw [kqdP] at la
  have hxs : PyData.canLayAll0 (kqdPs ds) = true := by simpa [PyData.canLay0] using la.1
  have hmap := readsAll_map _ _ _ hxs ra
  rw [kqdPs_map] at hmap
  have hvl : vs.length = ds.length := Dl.length
  have hjl : j < ds.length := (List.getElem?_eq_some_iff.mp hj).1
  have at_ : ∀ m (hm : m < vs.length), readOf s.heap vs[m] = kqdP (ds[m]'(by omega)) := fun m hm => by
    have e := congrArg (fun l => l[m]?) hmap
    simp only [List.getElem?_map, List.getElem?_eq_getElem hm, List.getElem?_eq_getElem (show m < ds.length by omega), Option.map_some] at e
    exact Option.some.inj e
  have eqs := items_eqAt (A := A) (vs := vs.toArray) (by simpa using ra) rx hxs lx.1 (by have := lx.2; omega)
  refine call_meets PySem.F.slot_list_index ⟨_, (N _ ml).1, rfl⟩ PySem.F.entry_list_index (PySem.F.args_list_index_2 _ _)
    (list_indexAt l vs.toArray c none #[] x (fun y => PyData.eqv (readOf s.heap y) (kqdP d)) j (by simpa [hvl] using hjl) (by omega) ?_ ?_) ⟨(N _ ml).1, eqs, h⟩
  · show PyData.eqv (readOf s.heap vs[j]) (kqdP d) = true
    rw [at_ j (by omega)]
    have e : ds[j] = d := (List.getElem?_eq_some_iff.mp hj).2
    exact (kqd_eqv 8 _ _ 8 (hok _ (List.getElem_mem _)) hokd).mpr e
  · intro m hm hlt
    show PyData.eqv (readOf s.heap vs[m]) (kqdP d) = false
    have hm' : m < vs.length := by simpa using hm
    rw [at_ m hm']
    refine Bool.eq_false_iff.mpr fun q => hno m hlt ?_
    have e := (kqd_eqv 8 _ _ 8 (hok _ (List.getElem_mem _)) hokd).mp q
    rw [List.getElem?_eq_getElem (show m < ds.length by omega), e]
theorem in_dat {prog : Program} {w : World} {A : Around} {E : Value → Shared → Prop} {s : Shared} {h₀ : Heap} {L l : Addr} {news n₁ n₂ : List (Addr × Obj)} {vs : List Value} {c : Nat} {ds : List W.Dat} {x : Value} {d : W.Dat} {b : Bool} {Q : Value → Shared → Prop}
    (N : News h₀ L s.heap news) (ml : (l, listOf vs.toArray c) ∈ news) (Dl : DatAll n₁ vs ds) (s1 : ∀ p ∈ n₁, p ∈ news) (Dx : DatIn n₂ x d) (s2 : ∀ p ∈ n₂, p ∈ news)
    (hok : ∀ e ∈ ds, kqdOk 8 e = true) (hokd : kqdOk 8 d = true) (hb : b = true ↔ d ∈ ds) (hu : A.units + 64 < cLine)
    (h : Q (.bool b) s) : wpAny (model prog w) A (compareOp .In x (.ref l)) Q E s := by
  obtain ⟨as, ra⟩ := kqd_all N 8 (Dl.mono s1) hok
  obtain ⟨bs, rx⟩ := kqd_in N 8 (Dx.mono s2) hokd
  have la := kqd_lay 9 (.list ds) (by simpa [kqdOk] using hok)
  have lx := kqd_lay 8 d hokd
  rw [kqdP] at la
  have hxs : PyData.canLayAll0 (kqdPs ds) = true := by simpa [PyData.canLay0] using la.1
  refine in_list_reads (reads_list_at (N.get ml) rfl rfl (by simpa using ra)) rx hxs lx.1 (by have := lx.2; omega) ?_
  have e : (kqdPs ds).any (fun y => PyData.eqv y (kqdP d)) = b := by
    rw [kqdPs_map, List.any_map, Bool.eq_iff_iff, hb, List.any_eq_true]
    constructor
    · rintro ⟨e, he, q⟩
      exact ((kqd_eqv 8 _ _ 8 (hok _ he) hokd).mp q) ▸ he
    · intro he
      exact ⟨d, he, (kqd_eqv 8 _ _ 8 (hok _ he) hokd).mpr rfl⟩
  rw [e]
  exact h
end Mine
end
section
open PySem PySem.W PyProof.Rows PySem.Calls PySem.Spec PyProof.V
namespace Mine
theorem off_S4 : True := by w_top off; trivial
def idxsOf (nums : List Int) : List Nat := (List.range 6).filter (oddAt nums)
def stN (nums : List Int) : Nat := (nums.sum.fmod 10).toNat
def patF (nums : List Int) (a b : Nat) : Str := Str.ofString "..." ++ markF nums a ++ Str.ofString "..." ++ markF nums b ++ Str.ofString "..."
def askT (nums : List Int) (k : Nat) : W.Dat := .tuple [.int (pairsZ.getD k (0, 0)).1, .int (pairsZ.getD k (0, 0)).2, .int ((2 ^ (stN nums + k) : Nat) : Int), .str (labelF (stN nums + k)), .str (patF nums (pairsZ.getD k (0, 0)).1.toNat (pairsZ.getD k (0, 0)).2.toNat)]
def wholeOf (nums : List Int) (ks : List Nat) : Nat := (ks.map fun k => 2 ^ (stN nums + k)).sum
structure Fix where
  g : Heap
  nums : List Int
  (nl rl ml pl fl al : Addr)
  (nv rv mv pv fv : List Value)
  (cn c1 c2 c3 cf : Nat)
  (o1 o2 o3 : Obj)
def Fix.led (f : Fix) (av : List Value) (ca : Nat) (tl : List (Addr × Obj)) : List (Addr × Obj) :=
  (f.al, listOf av.toArray ca) :: (f.fl, listOf f.fv.toArray f.cf) :: (f.pl, listOf f.pv.toArray f.c3) :: (f.ml, listOf f.mv.toArray f.c2) :: (f.rl, listOf f.rv.toArray f.c1) :: (f.nl, listOf f.nv.toArray f.cn) :: (f.g.objs.size + 1 + 1 + 1, f.o3) :: (f.g.objs.size + 1 + 1, f.o2) :: (f.g.objs.size + 1, f.o1) :: tl
def Fix.adr (f : Fix) : List Addr := [f.al, f.fl, f.pl, f.ml, f.rl, f.nl, f.g.objs.size + 1 + 1 + 1, f.g.objs.size + 1 + 1, f.g.objs.size + 1]
structure Fix.Ok (f : Fix) : Prop where
  hc1 : f.o1.data = .cell (some (.ref f.nl))
  hc2 : f.o2.data = .cell (some (.ref f.rl))
  hc3 : f.o3.data = .cell (some (.ref f.pl))
  hv : IntsAre f.nv f.nums
  hnl : f.nums.length = 6
  hn12 : ∀ x ∈ f.nums, 0 ≤ x ∧ x < 12
  hmv : StrsAre f.mv ((List.range 4).map (markF f.nums))
  hrv : StrsAre f.rv ((List.range 4).map (rowF f.nums))
  nd : f.adr.Nodup
structure TlOk (f : Fix) (av : List Value) (as : List W.Dat) (tl : List (Addr × Obj)) : Prop where
  pv : DatAll tl f.pv (pairsZ.map pairD)
  fv : DatAll tl f.fv ((foesOf f.nums).map pairD)
  av : DatAll tl av as
  off : OwnOff tl f.adr
def J4 (f : Fix) (m₀ : Str → Option Value) (i : Nat) (m : Str → Option Value) (news : List (Addr × Obj)) : Prop :=
  ∃ (av : List Value) (ca : Nat) (tl : List (Addr × Obj)) (ts tw : Tok) (u : Str → Option Value),
    m = kstB (fun z => if [Str.ofString "a", Str.ofString "b", Str.ofString "place", Str.ofString "pattern"].contains z then u z else m₀ z)
      [(Str.ofString "whole", .int (wholeOf f.nums ((idxsOf f.nums).take i) : Int) tw), (Str.ofString "asked", .ref f.al), (Str.ofString "start", .int (f.nums.sum.fmod 10) ts), (Str.ofString "marks", .ref f.ml), (Str.ofString "foes", .ref f.fl)] ∧
    news = f.led av ca tl ∧ TlOk f av (((idxsOf f.nums).take i).map (askT f.nums)) tl
theorem pair_inv {tl : List (Addr × Obj)} {v : Value} {a b : Int} (h : DatIn tl v (.tuple [.int a, .int b])) : ∃ d n ta tb, v = .ref d ∧ (d, ({ cls := .type "tuple", data := .seq #[.int a ta, .int b tb] n } : Obj)) ∈ tl := by
  cases h with
  | tuple hm hr =>
    cases hr with
    | cons h1 hr =>
      cases hr with
      | cons h2 hr =>
        cases hr
        cases h1
        cases h2
        exact ⟨_, _, _, _, rfl, hm⟩
theorem pair_range : ∀ k : _root_.Fin 6, 0 ≤ (pairsZ.getD k.1 (0, 0)).1 ∧ (pairsZ.getD k.1 (0, 0)).1 < 4 ∧ 0 ≤ (pairsZ.getD k.1 (0, 0)).2 ∧ (pairsZ.getD k.1 (0, 0)).2 < 4 := by decide
theorem mark_at {nums : List Int} {mv : List Value} (h : StrsAre mv ((List.range 4).map (markF nums))) {a : Int} (h0 : 0 ≤ a) (h4 : a < 4) : ∃ t, mv[a.toNat]? = some (.str (markF nums a.toNat) t) := by
  refine StrsAre.at h ?_
  rw [List.getElem?_map, List.getElem?_range (by omega)]
  rfl
theorem mark_len (nums : List Int) (k : Nat) : (markF nums k).length = 4 ∨ (markF nums k).length = 3 := by
  unfold markF
  split
  · exact .inl rfl
  · exact .inr rfl
theorem pair_get {k : Nat} (hk : k < 6) : (pairsZ.map pairD)[k]? = some (pairD (pairsZ.getD k (0, 0))) := by
  rw [List.getElem?_map, List.getD_eq_getElem?_getD, List.getElem?_eq_getElem (show k < pairsZ.length from hk)]
  rfl
theorem pair_ne : ∀ k : _root_.Fin 6, ∀ j : _root_.Fin 6, j.1 < k.1 → pairsZ.getD j.1 (0, 0) ≠ pairsZ.getD k.1 (0, 0) := by decide
theorem pair_first {k j : Nat} (hk : k < 6) (hj : j < k) : (pairsZ.map pairD)[j]? ≠ some (pairD (pairsZ.getD k (0, 0))) := by
  rw [pair_get (show j < 6 by omega)]
  intro e
  have e1 := Option.some.inj e
  simp only [pairD, W.Dat.tuple.injEq, List.cons.injEq, W.Dat.int.injEq, and_true] at e1
  exact pair_ne ⟨k, hk⟩ ⟨j, by omega⟩ hj (Prod.ext e1.1 e1.2)
theorem pairs_ok : ∀ e ∈ pairsZ.map pairD, kqdOk 8 e = true := by decide
def NeAll (D : Addr) (l : List (Addr × Obj)) : Prop := ∀ q ∈ l, q.1 ≠ D
theorem toNeAll {D : Addr} {l : List (Addr × Obj)} (h : ∀ q ∈ l, q.1 ≠ D) : NeAll D l := h
theorem wordItem {prog : Program} {w : World} {A : Around} {E : Value → Shared → Prop} {s : Shared} {value slice : PySem.Expr} {D : Addr} {vs : List Value} {u : Tok} {k : Int} {h₀ : Heap} {L : Addr} {news : List (Addr × Obj)} {n : Nat} {Q : Value → Shared → Prop}
    (N : News h₀ L s.heap news) (hD : (D, listOf vs.toArray n) ∈ news) (hw : StrsAre vs words) (h0 : 0 ≤ k) (hk : k < 15) (h : ∀ t, Q (.str (labelF k.toNat) t) s)
    (hs : subscripted slice false (.ref D) (.int k u) = operate [.ref D, .int k u] (getItem (.ref D) (.int k u))) : wpAny (model prog w) A (subscriptTail value slice (.ref D) (.int k u)) Q E s := by
  obtain ⟨t, ht⟩ := StrsAre.at hw (j := k.toNat) (y := labelF k.toNat) (by
    unfold labelF
    have hl : k.toNat < words.length := by show k.toNat < 15; omega
    rw [List.getD_eq_getElem?_getD, List.getElem?_eq_getElem hl]; rfl)
  exact anyItem N hD h0 ht (by omega) (h t) hs
def Halt (P : Prop) : Prop := P
theorem unhalt {P : Prop} (h : Halt P) : P := h
theorem halted {P : Prop} (h : P) : Halt P := h
local macro_rules | `(tactic| walk_at "call builtin:list.append") => `(tactic| (k_here; k_dflt (refine unhalt ?_)))
local macro_rules | `(tactic| walk_at "call ref") => `(tactic| (k_here; k_dflt (refine words_law (by k_asm) (by k_asm) (by k_asm) (by k_asm) (by k_asm) ?_); intro D9 vs9 c9 h9 tk9 hD9 F9 N9 hw9; (replace hD9 := toNeAll hD9); (try dsimp only)))
local macro_rules | `(tactic| walk_at "subscriptTail") => `(tactic| (k_here; k_dflt (refine anyItem (by k_asm) (by k_mem) (by (try dsimp only); omega) (by assumption) (by (try dsimp only); omega) ?_ (by with_unfolding_all rfl)); (try dsimp only)))
local macro_rules | `(tactic| walk_at "subscriptTail") => `(tactic| (k_here; k_dflt (refine wordItem (by k_asm) (by k_mem) (by assumption) (by (try dsimp only); omega) (by (try dsimp only); omega) ?_ (by with_unfolding_all rfl)); intro t9; (try dsimp only)))
local macro_rules | `(tactic| walk_at "exec For Tuple Name cons nil") => `(tactic| (k_here; k_dflt (refine For_X ?_ (by intro _; rfl))))
local macro_rules | `(tactic| walk_at "exec For") => `(tactic| (k_here; k_dflt (refine For_X ?_ (by intro _; rfl))))
theorem Fix.rest {f : Fix} {av : List Value} {ca : Nat} {tl : List (Addr × Obj)} {I : Addr} {io : Obj} (hn : f.adr.Nodup) (hoff : OwnOff tl f.adr) (hI : f.al ≠ I) : ∀ p ∈ (f.led av ca (tl ++ [(I, io)])).tail, p.1 ≠ f.al := by
  intro p hp e
  have h1 : p.1 ∈ f.adr.tail ∨ p ∈ tl ∨ p = (I, io) := by
    simp only [Fix.led, List.tail_cons, List.mem_cons, List.mem_append, List.not_mem_nil, or_false] at hp
    rcases hp with h | h | h | h | h | h | h | h | h
    · exact .inl (by subst h; simp [Fix.adr])
    · exact .inl (by subst h; simp [Fix.adr])
    · exact .inl (by subst h; simp [Fix.adr])
    · exact .inl (by subst h; simp [Fix.adr])
    · exact .inl (by subst h; simp [Fix.adr])
    · exact .inl (by subst h; simp [Fix.adr])
    · exact .inl (by subst h; simp [Fix.adr])
    · exact .inl (by subst h; simp [Fix.adr])
    · exact .inr h
  rcases h1 with h | h | h
  · rw [e] at h
    exact (List.nodup_cons.mp hn).1 h
  · exact hoff p h f.al (.head _) e
  · subst h
    exact hI e.symm
theorem Fix.offI {f : Fix} {av : List Value} {ca : Nat} {tl : List (Addr × Obj)} {I : Addr} (h1 : ∀ b ∈ f.adr, b ≠ I) (h2 : ∀ p ∈ tl, p.1 ≠ I) : ∀ p ∈ f.led av ca tl, p.1 ≠ I := by
  intro p hp
  simp only [Fix.led, List.mem_cons] at hp
  rcases hp with h | h | h | h | h | h | h | h | h | h
  · subst h; exact h1 _ (by simp [Fix.adr])
  · subst h; exact h1 _ (by simp [Fix.adr])
  · subst h; exact h1 _ (by simp [Fix.adr])
  · subst h; exact h1 _ (by simp [Fix.adr])
  · subst h; exact h1 _ (by simp [Fix.adr])
  · subst h; exact h1 _ (by simp [Fix.adr])
  · subst h; exact h1 _ (by simp [Fix.adr])
  · subst h; exact h1 _ (by simp [Fix.adr])
  · subst h; exact h1 _ (by simp [Fix.adr])
  · exact h2 p h
theorem Fix.adrI {f : Fix} {av : List Value} {ca : Nat} {tl : List (Addr × Obj)} {I : Addr} (h : ∀ p ∈ f.led av ca tl, p.1 ≠ I) : (∀ b ∈ f.adr, b ≠ I) ∧ ∀ p ∈ tl, p.1 ≠ I := by
  simp only [Fix.led, List.forall_mem_cons] at h
  obtain ⟨h1, h2, h3, h4, h5, h6, h7, h8, h9, h⟩ := h
  refine ⟨?_, h⟩
  simp only [Fix.adr, List.forall_mem_cons]
  exact ⟨h1, h2, h3, h4, h5, h6, h7, h8, h9, List.forall_mem_nil _⟩
theorem Fix.app {f : Fix} {tup : Addr × Obj} {av : List Value} {x : Value} {ca : Nat} {tl : List (Addr × Obj)} {q1 q2 : Addr × Obj} {I : Addr} {io : Obj} {p : Addr × Obj} (hp : p ∈ f.led (av ++ [x]) ca (tup :: tl) ++ [(I, io)]) :
    p ∈ tup :: q1 :: q2 :: (f.led (av ++ [x]) ca (tl ++ [(I, io)])) := by
  simp only [Fix.led, List.mem_cons, List.mem_append, List.not_mem_nil, or_false, List.cons_append] at hp ⊢
  rcases hp with h | h | h | h | h | h | h | h | h | h | h | h <;> simp [h]
def S4 (g : Heap) (s0 s' : Shared) : Prop :=
  ∃ (h : Heap) (tk : Nat) (m : Str → Option Value) (f : Fix) (av : List Value) (ca : Nat) (tl : List (Addr × Obj)) (tw : Tok),
    s' = { s0 with heap := h, toks := tk } ∧ f.g = g ∧ Fr g g.objs.size h m ∧ m (Str.ofString "whole") = some (.int (wholeOf f.nums (idxsOf f.nums) : Int) tw) ∧ m (Str.ofString "asked") = some (.ref f.al) ∧ m (Str.ofString "foes") = some (.ref f.fl) ∧
    News g g.objs.size h (f.led av ca tl) ∧ f.Ok ∧ TlOk f av ((idxsOf f.nums).map (askT f.nums)) tl
theorem seg4 (w : World) (mean : ExcName → Option Value) (mg mb : Str → Option Value) (g : Heap) (s0 s : Shared) (fa : Addr) (cd : Value) (Q : Flow → Shared → Prop) (E : Value → Shared → Prop)
    (hE : PassesOwn (model Challenge.rw_re0025_01.row.prog w) (callerA.deeper (lawEnv g.objs.size fa cd)) (lawEnv g.objs.size fa cd) E)
    (hnext : ∀ s', S4 g s0 s' → wpAny (model Challenge.rw_re0025_01.row.prog w) (callerA.deeper (lawEnv g.objs.size fa cd)) (execs (lawBody.drop 11) (lawEnv g.objs.size fa cd)) Q E s')
    : (hd.heap_39 w.params).In g → ∀ (T : Top hd.view_39 Lo mean mg mb g) (B : Below callerA g [] g) (hS : S3 g s0 s),
    wpAny (model Challenge.rw_re0025_01.row.prog w) (callerA.deeper (lawEnv g.objs.size fa cd)) (execs (lawBody.drop 8) (lawEnv g.objs.size fa cd)) Q E s := by
  k_fill
  intro X T B hS
  obtain ⟨h, tk, m, nl, rl, ml, pl, fl, nv, rv, mv, pv, fv, nums, cn, c1, c2, c3, cf, o1, o2, o3, tl, ts, rfl, F0, hm1, hm2, hm3, N, hc1, hc2, hc3, hv, hnl, hn12, hmv, hrv, hdat, hfd, hoff, hlt, hlr, hlm, hlp, f1, f2, f3, f4, f5, f6, f7⟩ := hS
  have F := frKst (ps := [(Str.ofString "marks", .ref ml), (Str.ofString "start", .int (nums.sum.fmod 10) ts), (Str.ofString "foes", .ref fl)]) F0 (List.forall_mem_cons.mpr ⟨hm1, List.forall_mem_cons.mpr ⟨hm2, List.forall_mem_cons.mpr ⟨hm3, List.forall_mem_nil _⟩⟩⟩)
  clear F0
  have kMk := kstMark
  with_unfolding_all dsimp only [lawEnv, lawBody, lawScope, lawPick, Challenge.pw_re0025_01, List.getLast?, List.getLast, List.drop]
  k_steps
  rename Fr _ _ _ _ => lF
  rename News _ _ _ _ => lN
  obtain ⟨al, rfl⟩ := nwName lN
  rename (fl < al ∧ _) => hal
  have hnd : List.Nodup (α := Nat) [al, fl, pl, ml, rl, nl, g.objs.size + 1 + 1 + 1, g.objs.size + 1 + 1, g.objs.size + 1] := by
    have := neN f1; have := neN f2; have := neN f3; have := neN f4; have := neN f5; have := neN f6; have := neN f7
    have := ltN hlt; have := ltN hlr; have := ltN hlm; have := ltN hlp
    have := ltN hal.1; have := ltN hal.2.1; have := ltN hal.2.2.1; have := ltN hal.2.2.2.1; have := ltN hal.2.2.2.2.1; have := ltN hal.2.2.2.2.2.1
    simp only [List.nodup_cons, List.mem_cons, List.not_mem_nil, or_false, not_or, not_false_eq_true, List.nodup_nil, and_true]
    omega
  have hoffA : OwnOff tl [al, fl, pl, ml, rl, nl, g.objs.size + 1 + 1 + 1, g.objs.size + 1 + 1, g.objs.size + 1] := by
    intro p hp b hb
    rcases List.mem_cons.mp hb with rfl | hb
    · exact Nat.ne_of_lt (kst_ltOf hal.2.2.2.2.2.2.2.2 p hp)
    · exact hoff p hp b hb
  obtain ⟨m0, em, lF2⟩ := frName lF
  have e1 : ∃ tt, m0 (Str.ofString "whole") = some (Value.int 0 tt) := ⟨_, by rw [em]; rfl⟩
  obtain ⟨tw, e1⟩ := e1
  have e2 : m0 (Str.ofString "asked") = some (Value.ref al) := by rw [em]; rfl
  have e3 : m0 (Str.ofString "start") = some (Value.int (nums.sum.fmod 10) ts) := by rw [em]; rfl
  have e4 : m0 (Str.ofString "marks") = some (Value.ref ml) := by rw [em]; rfl
  have e5 : m0 (Str.ofString "foes") = some (Value.ref fl) := by rw [em]; rfl
  clear em lF
  obtain ⟨f, hf⟩ : ∃ f : Fix, f = ⟨g, nums, nl, rl, ml, pl, fl, al, nv, rv, mv, pv, fv, cn, c1, c2, c3, cf, o1, o2, o3⟩ := ⟨_, rfl⟩
  have hOk : f.Ok := by rw [hf]; exact ⟨hc1, hc2, hc3, hv, hnl, hn12, hmv, hrv, hnd⟩
  have hT0 : TlOk f [] [] tl := by rw [hf]; exact ⟨hdat, hfd, .nil, hoffA⟩
  obtain ⟨led0, el0, lN2⟩ := nwAll lN
  have el1 : led0 = f.led [] 0 tl := by rw [el0, hf]; rfl
  subst el1
  clear el0 lN
  refine' iter_listXc (vs := fv) (J4 f m0) (by rfl) ?hl lF2 lN2 ?h0 ?turn ?done hE
  case hl =>
    rintro i m news ⟨av, ca, tl, ts, tw, u, _, rfl, _⟩
    rw [hf]
    exact .tail _ (.head _)
  case h0 => exact ⟨[], 0, tl, ts, tw, m0, by
    rw [hf]
    exact upd_start (List.forall_mem_cons.mpr ⟨e1, List.forall_mem_cons.mpr ⟨e2, List.forall_mem_cons.mpr ⟨e3, List.forall_mem_cons.mpr ⟨e4, List.forall_mem_cons.mpr ⟨e5, List.forall_mem_nil _⟩⟩⟩⟩⟩), rfl, hT0⟩
  case turn =>
    rintro I i v m₁ news₁ h tk io hio hltI hvi ⟨av, ca, tl, ts, tw, u, rfl, rfl, hT⟩ hne F₁ N₁
    clear hdat hfd hoff hoffA hT0 lN2 lF2 hltI
    subst hf
    dsimp only [Fix.led, List.cons_append] at N₁ F₁
    have hoff := hT.off
    dsimp only [Fix.adr] at hoff
    have hi1 : (foesOf nums)[i]? = some (pairsZ.getD ((idxsOf nums).getD i 0) (0, 0)) ∧ (idxsOf nums)[i]? = some ((idxsOf nums).getD i 0) ∧ (idxsOf nums).getD i 0 < 6 := by
      have hlenf : i < (foesOf nums).length := by
        have h1 := (List.getElem?_eq_some_iff.mp hvi).1
        have h2 := hT.fv.length
        rw [List.length_map] at h2
        dsimp only at h2
        omega
      have hleni : i < (idxsOf nums).length := by
        have : (foesOf nums).length = (idxsOf nums).length := List.length_map ..
        omega
      have e1 : (idxsOf nums)[i]? = some ((idxsOf nums).getD i 0) := by
        rw [List.getD_eq_getElem?_getD, List.getElem?_eq_getElem hleni]; rfl
      refine ⟨?_, e1, ?_⟩
      · show ((idxsOf nums).map fun k => pairsZ.getD k (0, 0))[i]? = _
        rw [List.getElem?_map, e1]; rfl
      · have := List.mem_of_getElem? e1
        have := (List.mem_filter.mp this).1
        exact List.mem_range.mp this
    obtain ⟨hi1, hi2, hk6⟩ := hi1
    generalize hk : (idxsOf nums).getD i 0 = k at hi1 hi2 hk6
    obtain ⟨v', hv1, hv2⟩ := hT.fv.get (k := i) (by rw [List.length_map]; exact (List.getElem?_eq_some_iff.mp hi1).1)
    dsimp only at hv1
    rw [hvi] at hv1
    cases hv1
    rw [List.getElem_map, (List.getElem?_eq_some_iff.mp hi1).2] at hv2
    obtain ⟨ra1, ra2, rb1, rb2⟩ := pair_range ⟨k, hk6⟩
    dsimp only at ra1 ra2 rb1 rb2
    generalize hpr : pairsZ.getD k (0, 0) = pr at hi1 hv2 ra1 ra2 rb1 rb2
    obtain ⟨a, b⟩ := pr
    dsimp only at ra1 ra2 rb1 rb2
    obtain ⟨d, nd, ta, tb, rfl, hmem⟩ := pair_inv hv2
    obtain ⟨tma, hma⟩ := mark_at hmv ra1 ra2
    obtain ⟨tmb, hmb⟩ := mark_at hmv rb1 rb2
    have hmem2 : (d, ({ cls := .type "tuple", data := .seq #[.int a ta, .int b tb] nd } : Obj)) ∈ tl ++ [(I, io)] := List.mem_append_left _ hmem
    have x1 := neN (hne _ (.head _))
    have x2 := neN (hne _ (.tail _ (.head _)))
    have x3 := neN (hne _ (.tail _ (.tail _ (.head _))))
    have x4 := neN (hne _ (.tail _ (.tail _ (.tail _ (.head _)))))
    have x5 := neN (hne _ (.tail _ (.tail _ (.tail _ (.tail _ (.head _))))))
    have x6 := neN (hne _ (.tail _ (.tail _ (.tail _ (.tail _ (.tail _ (.head _)))))))
    have x7 := neN (hne _ (.tail _ (.tail _ (.tail _ (.tail _ (.tail _ (.tail _ (.head _))))))))
    have x8 := neN (hne _ (.tail _ (.tail _ (.tail _ (.tail _ (.tail _ (.tail _ (.tail _ (.head _)))))))))
    have x9 := neN (hne _ (.tail _ (.tail _ (.tail _ (.tail _ (.tail _ (.tail _ (.tail _ (.tail _ (.head _))))))))))
    dsimp only at x1 x2 x3 x4 x5 x6 x7 x8 x9
    have hnd2 := hnd
    simp only [List.nodup_cons, List.mem_cons, List.not_mem_nil, or_false, not_or, not_false_eq_true, List.nodup_nil, and_true] at hnd2
    have hla : (markF nums a.toNat).length ≤ 4 := by rcases mark_len nums a.toNat with h | h <;> omega
    have hlb : (markF nums b.toNat).length ≤ 4 := by rcases mark_len nums b.toNat with h | h <;> omega
    have hst0 : 0 ≤ nums.sum.fmod 10 := Int.fmod_nonneg_of_pos _ (by decide)
    have hst1 : nums.sum.fmod 10 < 10 := Int.fmod_lt_of_pos _ (by decide)
    have hTup : IsTup h d #[.int a ta, .int b tb] := ⟨_, (N₁ _ (.tail _ (.tail _ (.tail _ (.tail _ (.tail _ (.tail _ (.tail _ (.tail _ (.tail _ hmem2)))))))))).1, rfl, nd, rfl⟩
    refine unpackN_ F₁ N₁ hTup rfl rfl rfl ?_
    intro h9 F9 N9
    clear hTup F₁ N₁
    replace hne := toNeAll hne
    k_steps
    rename News _ _ _ _ => N8
    have hj1 : (pairsZ.map pairD)[k]? = some (.tuple [.int a, .int b]) := by rw [pair_get hk6, hpr]; rfl
    have hj2 : ∀ j, j < k → (pairsZ.map pairD)[j]? ≠ some (.tuple [.int a, .int b]) := fun j hj e => pair_first hk6 hj (by rw [e, hpr]; rfl)
    refine index_dat (j := k) N8 (.tail _ (.tail _ (.tail _ (.head _)))) hT.pv (fun p hp => .tail _ (.tail _ (.tail _ (.tail _ (.tail _ (.tail _ (.tail _ (.tail _ (.tail _ (.tail _ (List.mem_append_left _ hp)))))))))))
      (DatIn.tuple (vs := [_, _]) (.head _) (.cons (.int _ _) (.cons (.int _ _) .nil))) (fun _ h => h) pairs_ok (by rfl) (by decide) hj1 hj2 (by show callerA.units + 3 + 64 < cLine; decide +kernel) ?_
    dsimp only
    k_steps
    rename NeAll _ _ => hD9
    rename Fr _ _ _ _ => F8
    rename News _ _ _ _ => N8
    rename (_ < _ ∧ _ < _ ∧ al < _ ∧ _) => hl2
    rename (al < _ ∧ fl < _ ∧ _) => hl1
    obtain ⟨m8, em8, F8⟩ := frName F8
    have hID := kst_ltOf hl2.2.2.2.2.2.2.2.2.2.2.2 (I, io) (List.mem_append_right _ (.head _))
    have htl := fun p hp => kst_ltOf hl2.2.2.2.2.2.2.2.2.2.2.2 p (List.mem_append_left _ hp)
    have hav : av.length ≤ 6 := by
      rw [hT.av.length, List.length_map, List.length_take]
      have : (idxsOf nums).length ≤ 6 := Nat.le_trans (List.length_filter_le _ _) (by simp)
      dsimp only
      omega
    have hst2 : (nums.sum.fmod 10 + (k : Int)).toNat = stN nums + k := by unfold stN; omega
    obtain ⟨a1, a2⟩ := Fix.adrI hne
    refine halted ?_
    refine append_K F8 N8 (.tail (Ne.symm (Nat.ne_of_lt hl2.2.2.1)) (.tail (Ne.symm (hD9 (al, _) (.tail _ (.head _)))) (.tail (Ne.symm (Nat.ne_of_lt hl1.1)) (.head (Fix.rest (f := ⟨g, nums, nl, rl, ml, pl, fl, al, nv, rv, mv, pv, fv, cn, c1, c2, c3, cf, o1, o2, o3⟩) (av := av) (ca := ca) hnd hT.off x1))))) ?_ (by rw [sizeLine_eq, List.size_toArray]; omega)
    intro h7 F7 N7
    k_steps
    clear F8 N8
    rw [List.push_toArray] at N7
    have etake : (idxsOf nums).take (i + 1) = (idxsOf nums).take i ++ [k] := by rw [List.take_succ, hi2]; rfl
    have ew : (wholeOf nums ((idxsOf nums).take (i + 1)) : Int) = (wholeOf nums ((idxsOf nums).take i) : Int) + 2 ^ (nums.sum.fmod 10 + (k : Int)).toNat := by
      rw [etake, hst2]
      unfold wholeOf
      rw [List.map_append, List.sum_append]
      simp
    have eask : askT nums k = .tuple [.int a, .int b, .int (2 ^ (nums.sum.fmod 10 + (k : Int)).toNat), .str (labelF (nums.sum.fmod 10 + (k : Int)).toNat), .str (Str.ofString "..." ++ markF nums a.toNat ++ Str.ofString "..." ++ markF nums b.toNat ++ Str.ofString "...")] := by
      unfold askT patF
      rw [hpr, hst2]
      simp
    have e1 : ∃ tt, m8 (Str.ofString "whole") = some (Value.int (wholeOf nums ((idxsOf nums).take (i + 1)) : Int) tt) := ⟨_, by rw [em8, ew]; rfl⟩
    obtain ⟨tw2, e1⟩ := e1
    refine StepX.go (news' := Fix.led ⟨g, nums, nl, rl, ml, pl, fl, al, nv, rv, mv, pv, fv, cn, c1, c2, c3, cf, o1, o2, o3⟩ (av ++ [_]) (ca + 1) (_ :: tl)) F7 N7 (fun p hp => Fix.app hp) (Fix.offI a1 (List.forall_mem_cons.mpr ⟨Ne.symm (Nat.ne_of_lt hID), a2⟩))
      ⟨_, _, _, ts, tw2, m8, upd_eq (List.forall_mem_cons.mpr ⟨?e1, List.forall_mem_cons.mpr ⟨?e2, List.forall_mem_cons.mpr ⟨?e3, List.forall_mem_cons.mpr ⟨?e4, List.forall_mem_cons.mpr ⟨?e5, List.forall_mem_nil _⟩⟩⟩⟩⟩) ?e6, rfl, ?e7⟩
    case e1 => exact e1
    case e2 => rw [em8]; rfl
    case e3 => rw [em8]; rfl
    case e4 => rw [em8]; rfl
    case e5 => rw [em8]; rfl
    case e6 =>
      intro z hz hz9
      have hz1 : z ≠ Str.ofString "whole" := hz _ (.head _)
      have hz2 : z ≠ Str.ofString "asked" := hz _ (.tail _ (.head _))
      have hz3 : z ≠ Str.ofString "start" := hz _ (.tail _ (.tail _ (.head _)))
      have hz4 : z ≠ Str.ofString "marks" := hz _ (.tail _ (.tail _ (.tail _ (.head _))))
      have hz5 : z ≠ Str.ofString "foes" := hz _ (.tail _ (.tail _ (.tail _ (.tail _ (.head _)))))
      have hy1 : z ≠ Str.ofString "a" := by rintro rfl; exact absurd hz9 (by decide)
      have hy2 : z ≠ Str.ofString "b" := by rintro rfl; exact absurd hz9 (by decide)
      have hy3 : z ≠ Str.ofString "place" := by rintro rfl; exact absurd hz9 (by decide)
      have hy4 : z ≠ Str.ofString "pattern" := by rintro rfl; exact absurd hz9 (by decide)
      rw [em8]
      simp only [kstB, hz1, hz2, hz3, hz4, hz5, hy1, hy2, hy3, hy4, hz9, if_false, Bool.false_eq_true]
    case e7 =>
      refine ⟨hT.pv.mono fun p hp => .tail _ hp, hT.fv.mono fun p hp => .tail _ hp, ?_, ?_⟩
      · show DatAll _ _ (((idxsOf nums).take (i + 1)).map (askT nums))
        rw [etake, List.map_append]
        refine DatAll.append (hT.av.mono fun p hp => .tail _ hp) (DatAll.one ?_)
        rw [eask]
        exact DatIn.tuple (vs := [_, _, _, _, _]) (.head _) (.cons (.int _ _) (.cons (.int _ _) (.cons (.int _ _) (.cons (.str _ _) (.cons (.str _ _) .nil)))))
      · intro p hp b hb
        rcases List.mem_cons.mp hp with rfl | hp
        · have q := hl2.2.2
          rcases List.mem_cons.mp hb with rfl | hb
          · exact Ne.symm (Nat.ne_of_lt q.1)
          rcases List.mem_cons.mp hb with rfl | hb
          · exact Ne.symm (Nat.ne_of_lt q.2.1)
          rcases List.mem_cons.mp hb with rfl | hb
          · exact Ne.symm (Nat.ne_of_lt q.2.2.1)
          rcases List.mem_cons.mp hb with rfl | hb
          · exact Ne.symm (Nat.ne_of_lt q.2.2.2.1)
          rcases List.mem_cons.mp hb with rfl | hb
          · exact Ne.symm (Nat.ne_of_lt q.2.2.2.2.1)
          rcases List.mem_cons.mp hb with rfl | hb
          · exact Ne.symm (Nat.ne_of_lt q.2.2.2.2.2.1)
          rcases List.mem_cons.mp hb with rfl | hb
          · exact Ne.symm (Nat.ne_of_lt q.2.2.2.2.2.2.1)
          rcases List.mem_cons.mp hb with rfl | hb
          · exact Ne.symm (Nat.ne_of_lt q.2.2.2.2.2.2.2.1)
          rcases List.mem_cons.mp hb with rfl | hb
          · exact Ne.symm (Nat.ne_of_lt q.2.2.2.2.2.2.2.2.1)
          cases hb
        · exact hT.off p hp b hb
  case done =>
    rintro m₁ news₁ h tk ⟨av, ca, tl, ts, tw, u, rfl, rfl, hT⟩ F₁ N₁
    subst hf
    refine wpAny_execs_nil ?_
    have e : (idxsOf nums).take fv.length = idxsOf nums := by
      refine List.take_of_length_le ?_
      have h2 := hT.fv.length
      rw [List.length_map] at h2
      have : (foesOf nums).length = (idxsOf nums).length := List.length_map ..
      dsimp only at h2
      omega
    rw [e] at hT F₁
    exact hnext _ ⟨h, tk, _, _, av, ca, tl, tw, rfl, rfl, F₁, rfl, rfl, rfl, N₁, hOk, hT⟩
end Mine
end
section
open PySem PySem.W PyProof.Rows PySem.Calls PySem.Spec PyProof.V
namespace Mine
/-! the tell of _ellipsis_match, over plain lists of signs -/
def aft (w : List Nat) : List Nat → Option (List Nat)
  | [] => if w.isPrefixOf [] = true then some [] else none
  | c :: r => if w.isPrefixOf (c :: r) = true then some ((c :: r).drop w.length) else aft w r
def ellL : List (List Nat) → List Nat → Option (List Nat)
  | [], r => some r
  | w :: ws, r => match aft w r with
    | some r' => ellL ws r'
    | none => none
open PySem.StrLaws PySem.Builtin.Str in
theorem occ_full (s sub : Str) (hi : Nat) : ∀ (l : List Nat) (st : Array Nat × Nat), 1 ≤ st.fst.size → (forIn l st (occBody s sub hi 1)).run.fst = st.fst
  | [], st, _ => rfl
  | a :: l, st, h => by
    rw [List.forIn_cons]
    unfold occBody
    have c : ¬ (((st.fst.size < 1 ∧ st.snd ≤ a) ∧ a + sub.length ≤ hi) ∧ subAt s sub a = true) := fun q => by omega
    rw [if_neg c]
    exact occ_full s sub hi l _ h
open PySem.StrLaws PySem.Builtin.Str in
theorem occ_first (s sub : Str) (hi : Nat) : ∀ (l : List Nat) (free : Nat), (∀ i ∈ l, free ≤ i) →
    (forIn l ((#[] : Array Nat), free) (occBody s sub hi 1)).run.fst.toList = (l.find? fun i => decide (i + sub.length ≤ hi) && subAt s sub i).toList
  | [], free, _ => rfl
  | a :: l, free, hf => by
    rw [List.forIn_cons]
    unfold occBody
    have ha : free ≤ a := hf a (List.mem_cons_self ..)
    by_cases hc : a + sub.length ≤ hi ∧ subAt s sub a = true
    · rw [if_pos ⟨⟨⟨by simp, ha⟩, hc.1⟩, hc.2⟩, List.find?_cons_of_pos (by simp [hc.1, hc.2])]
      have := occ_full s sub hi l ((#[] : Array Nat).push a, a + sub.length) (by simp)
      show (forIn l ((#[] : Array Nat).push a, a + sub.length) (occBody s sub hi 1)).run.fst.toList = _
      rw [this]
      rfl
    · rw [if_neg (fun q => hc ⟨q.1.2, q.2⟩), List.find?_cons_of_neg (by simpa using hc)]
      exact occ_first s sub hi l free fun i hi' => hf i (List.mem_cons_of_mem _ hi')
open PySem.Builtin.Str in
theorem at_prefix (y w : Str) (i : Nat) : (decide (i + w.length ≤ y.length) && subAt y w i) = (decide (i + w.cps.toList.length ≤ y.cps.toList.length) && w.cps.toList.isPrefixOf (y.cps.toList.drop i)) := by
  have hl : w.length = w.cps.toList.length := by simp [PySem.Str.length]
  have hy : y.length = y.cps.toList.length := by simp [PySem.Str.length]
  rw [Bool.eq_iff_iff, Bool.and_eq_true, Bool.and_eq_true, decide_eq_true_iff, decide_eq_true_iff, List.isPrefixOf_iff_prefix, List.prefix_iff_eq_take]
  unfold subAt
  rw [beq_iff_eq, ← Array.toList_inj, Array.toList_extract, List.extract_eq_take_drop, hl, hy]
  have e : i + w.cps.toList.length - i = w.cps.toList.length := by omega
  rw [e]
  constructor
  · rintro ⟨h1, h⟩
    exact ⟨h1, h.symm⟩
  · rintro ⟨h1, h⟩
    exact ⟨h1, h.symm⟩
def pAt (W Y : List Nat) (i : Nat) : Bool := decide (i + W.length ≤ Y.length) && W.isPrefixOf (Y.drop i)
theorem pAt_iff {W Y : List Nat} {i : Nat} (hi : i ≤ Y.length) : pAt W Y i = W.isPrefixOf (Y.drop i) := by
  unfold pAt
  cases h : W.isPrefixOf (Y.drop i) with
  | false => rw [Bool.and_false]
  | true =>
    have hw := (List.isPrefixOf_iff_prefix.mp h).length_le
    rw [List.length_drop] at hw
    rw [Bool.and_true]
    exact decide_eq_true (by omega)
theorem find_aft (W Y : List Nat) : ∀ n p, p + n = Y.length →
    match (List.range' p (n + 1)).find? (pAt W Y) with
    | some i => aft W (Y.drop p) = some (Y.drop (i + W.length)) ∧ p ≤ i ∧ i + W.length ≤ Y.length
    | none => aft W (Y.drop p) = none
  | 0, p, h => by
    have e : Y.drop p = [] := List.drop_of_length_le (by omega)
    rw [List.range'_one, List.find?_singleton]
    by_cases hc : W.isPrefixOf (Y.drop p) = true
    · rw [pAt_iff (by omega), if_pos hc]
      rw [e] at hc
      have hw : W.length ≤ 0 := by simpa using (List.isPrefixOf_iff_prefix.mp hc).length_le
      refine ⟨?_, Nat.le_refl _, by omega⟩
      rw [e, aft, if_pos hc, List.drop_of_length_le (by omega)]
    · rw [pAt_iff (by omega), if_neg hc]
      rw [e] at hc ⊢
      show aft W [] = none
      rw [aft, if_neg hc]
  | n + 1, p, h => by
    have hp : p < Y.length := by omega
    have e : Y.drop p = Y[p] :: Y.drop (p + 1) := List.drop_eq_getElem_cons hp
    have ih := find_aft W Y n (p + 1) (by omega)
    rw [List.range'_succ]
    by_cases hc : W.isPrefixOf (Y.drop p) = true
    · rw [List.find?_cons_of_pos (by rw [pAt_iff (by omega)]; exact hc)]
      have hw := (List.isPrefixOf_iff_prefix.mp hc).length_le
      rw [List.length_drop] at hw
      refine ⟨?_, Nat.le_refl _, by omega⟩
      rw [e] at hc
      rw [e, aft, if_pos hc, ← e, List.drop_drop]
    · rw [List.find?_cons_of_neg (by rw [pAt_iff (by omega)]; exact hc)]
      have e2 : aft W (Y.drop p) = aft W (Y.drop (p + 1)) := by
        rw [e] at hc
        rw [e, aft, if_neg hc]
      rw [e2]
      split at ih
      · exact ⟨ih.1, by omega, ih.2.2⟩
      · exact ih
open PySem.Builtin.Str in
theorem find3_aft (y w : Str) (p : Nat) (hp : p ≤ y.cps.toList.length) :
    (Txt.find3 y w (p : Int) < 0 ∧ aft w.cps.toList (y.cps.toList.drop p) = none) ∨
    ∃ i : Nat, Txt.find3 y w (p : Int) = (i : Int) ∧ aft w.cps.toList (y.cps.toList.drop p) = some (y.cps.toList.drop (i + w.length)) ∧ i + w.length ≤ y.cps.toList.length := by
  have hy : y.length = y.cps.toList.length := by simp [PySem.Str.length]
  have hw : w.length = w.cps.toList.length := by simp [PySem.Str.length]
  have e1 : fromIndex y.length (p : Int) = p := by
    unfold fromIndex
    split <;> omega
  have e2 : occurrences y w p y.length 1 = ((List.range' p (y.length + 1 - p)).find? (pAt w.cps.toList y.cps.toList)).toList := by
    rw [PySem.StrLaws.occ_eq, occ_first y w y.length _ _ (fun i hi => by
      have := List.mem_range'.mp hi
      omega)]
    simp only [at_prefix]
    rfl
  have e3 : y.length + 1 - p = (y.cps.toList.length - p) + 1 := by omega
  have key := find_aft w.cps.toList y.cps.toList (y.cps.toList.length - p) p (by omega)
  unfold Txt.find3
  rw [e1, e2, e3]
  split at key
  · rename_i i hi
    right
    refine ⟨i, ?_, ?_, ?_⟩
    · rw [hi]; rfl
    · rw [hw]; exact key.1
    · rw [hw]; exact key.2.2
  · rename_i hi
    left
    rw [hi]
    exact ⟨by decide, key⟩
theorem ell_list (y : Str) : ∀ (ws : List Str) (p : Nat), p ≤ y.cps.toList.length → (ellPos y ws (p : Int)).isSome = (ellL (ws.map (·.cps.toList)) (y.cps.toList.drop p)).isSome
  | [], p, _ => rfl
  | w :: ws, p, hp => by
    rw [ellPos, List.map_cons, ellL]
    rcases find3_aft y w p hp with ⟨h1, h2⟩ | ⟨i, h1, h2, h3⟩
    · rw [if_pos h1, h2]; rfl
    · rw [h2, h1, if_neg (by omega)]
      have e : (i : Int) + (w.length : Int) = ((i + w.length : Nat) : Int) := by omega
      rw [e]
      exact ell_list y ws (i + w.length) h3
theorem ell_lists (a b y : Str) : ell a b y = (ellL [[], a.cps.toList, b.cps.toList, []] y.cps.toList).isSome := by
  have h := ell_list y (ellWs a b) 0 (Nat.zero_le _)
  unfold ell
  exact h
end Mine
end
section
open PySem PySem.W PyProof.Rows PySem.Calls PySem.Spec PyProof.V
namespace Mine
def mkB (b : Bool) (k : Nat) : Str := if b then Str.ofString "# ." ++ letterF k else Str.ofString ".." ++ letterF k
def insAll (w : Nat) (o : List Nat) : List (List Nat) := (List.range (o.length + 1)).map fun k => o.take k ++ [w] ++ o.drop k
def orders12 : List (List Nat) := ([[0, 1]].flatMap (insAll 2)).flatMap (insAll 3)
def bitsF (c : Nat) (k : Nat) : Bool := c.testBit k
def pageB (c : Nat) (o : List Nat) : Str := Txt.join (Str.ofString "") (o.map fun k => mkB (bitsF c k) k ++ Str.ofString "\x0d\n")
def pairsN : List (Nat × Nat) := [(0, 1), (0, 2), (0, 3), (1, 2), (1, 3), (2, 3)]
def pA (k : Nat) : Nat := (pairsN.getD k (0, 0)).1
def pB (k : Nat) : Nat := (pairsN.getD k (0, 0)).2
def ahead (o : List Nat) (k : Nat) : Bool := decide (o.idxOf (pA k) < o.idxOf (pB k))
/-! the same as plain lists of signs -/
def mkL (b : Bool) (k : Nat) : List Nat := if b then [35, 32, 46, 97 + k] else [46, 46, 97 + k]
def pageL (c : Nat) (o : List Nat) : List Nat := o.flatMap fun k => mkL (bitsF c k) k ++ [13, 10]
def ellOkL (o : List Nat) (c k : Nat) : Bool := (ellL [[], mkL (bitsF c (pA k)) (pA k), mkL (bitsF c (pB k)) (pB k), []] (pageL c o)).isSome == ahead o k
theorem ell_list_all : (orders12.all fun o => (List.range 16).all fun c => (List.range 6).all fun k => ellOkL o c k) = true := by decide +kernel
theorem mk_list : ∀ b : Bool, ∀ k : _root_.Fin 4, (mkB b k.1).cps.toList = mkL b k.1 := by decide +kernel
theorem page_list : ∀ c : _root_.Fin 16, ∀ o ∈ orders12, (pageB c.1 o).cps.toList = pageL c.1 o := by decide +kernel
theorem pair_lt : ∀ k : _root_.Fin 6, pA k.1 < 4 ∧ pB k.1 < 4 := by decide
theorem ell_fact {o : List Nat} {c k : Nat} (ho : o ∈ orders12) (hc : c < 16) (hk : k < 6) : ell (mkB (bitsF c (pA k)) (pA k)) (mkB (bitsF c (pB k)) (pB k)) (pageB c o) = ahead o k := by
  obtain ⟨h1, h2⟩ := pair_lt ⟨k, hk⟩
  rw [ell_lists, mk_list _ ⟨_, h1⟩, mk_list _ ⟨_, h2⟩, page_list ⟨c, hc⟩ o ho]
  have h := ell_list_all
  rw [List.all_eq_true] at h
  have h := h o ho
  rw [List.all_eq_true] at h
  have h := h c (List.mem_range.mpr hc)
  rw [List.all_eq_true] at h
  exact eq_of_beq (h k (List.mem_range.mpr hk))
def patB (c : Nat) (k : Nat) : Str := Str.ofString "..." ++ mkB (bitsF c (pA k)) (pA k) ++ Str.ofString "..." ++ mkB (bitsF c (pB k)) (pB k) ++ Str.ofString "..."
def patBB (x y : Bool) (k : Nat) : Str := Str.ofString "..." ++ mkB x (pA k) ++ Str.ofString "..." ++ mkB y (pB k) ++ Str.ofString "..."
theorem split_bools : ∀ x y : Bool, ∀ k : _root_.Fin 6, Txt.split (patBB x y k.1) (Str.ofString "...") = [Str.ofString "", mkB x (pA k.1), mkB y (pB k.1), Str.ofString ""] ∧ (Builtin.Str.occurrences (patBB x y k.1) (Str.ofString "...") 0 (patBB x y k.1).length 1).isEmpty = false := by decide +kernel
theorem split_facts : ∀ c : _root_.Fin 16, ∀ k : _root_.Fin 6, Txt.split (patB c.1 k.1) (Str.ofString "...") = [Str.ofString "", mkB (bitsF c.1 (pA k.1)) (pA k.1), mkB (bitsF c.1 (pB k.1)) (pB k.1), Str.ofString ""] ∧ (Builtin.Str.occurrences (patB c.1 k.1) (Str.ofString "...") 0 (patB c.1 k.1).length 1).isEmpty = false :=
  fun c k => split_bools (bitsF c.1 (pA k.1)) (bitsF c.1 (pB k.1)) k
end Mine
end
section
open PySem PySem.W PyProof.Rows PySem.Calls PySem.Spec PyProof.V
namespace Mine
section
variable {prog : Program} {w : World} {A : Around} {R : Result → Shared → Prop} {s : Shared}
theorem turn_out (elt t0 i0 t1 i1 : PySem.Expr) (scope : Scope) (pos : Pos) (it acc : Value) (env : Env) :
    compTurn (.ListComp elt [⟨t0, i0, [], 0⟩, ⟨t1, i1, [], 0⟩] scope pos) 0 it acc env = (standAt i0.pos >>= fun _ => pyNext it >>= fun r => match r with
      | none => pure (.done .next)
      | some v => letOwnedTupleGo t0 it v >>= fun _ => assign t0 env v >>= fun _ =>
        eval i1 env >>= fun x => standAt i1.pos >>= fun _ => foldedSetIterable i1 env x >>= fun x => holding [x] (pyIter x) >>= fun it1 =>
          runOwn (.compStart (.ListComp elt [⟨t0, i0, [], 0⟩, ⟨t1, i1, [], 0⟩] scope pos) 1 it1 acc env) env >>= fun _ =>
          again (.compLoop (.ListComp elt [⟨t0, i0, [], 0⟩, ⟨t1, i1, [], 0⟩] scope pos) 0 it acc env)) := by rfl
theorem turn_in (elt t0 i0 t1 i1 : PySem.Expr) (scope : Scope) (pos : Pos) (it acc : Value) (env : Env) :
    compTurn (.ListComp elt [⟨t0, i0, [], 0⟩, ⟨t1, i1, [], 0⟩] scope pos) 1 it acc env = (standAt i1.pos >>= fun _ => pyNext it >>= fun r => match r with
      | none => pure (.done .next)
      | some v => letOwnedTupleGo t1 it v >>= fun _ => assign t1 env v >>= fun _ =>
        (eval elt env >>= fun x => call (.builtin "list.append") [acc, x] >>= fun _ => pure ()) >>= fun _ =>
          again (.compLoop (.ListComp elt [⟨t0, i0, [], 0⟩, ⟨t1, i1, [], 0⟩] scope pos) 1 it acc env)) := by rfl
theorem loop_in {elt t0 i0 t1 i1 : PySem.Expr} {scope : Scope} {pos : Pos} {it acc : Value} {env : Env} (I : Nat → Shared → Prop)
    (turn : ∀ n s, I n s → wpAny (model prog w) A (pyNext it) (fun r s₁ => match r with
      | none => R (.ok .next) s₁
      | some v => wpAny (model prog w) A (assign t1 env v) (fun _ s₂ => wpAny (model prog w) A (eval elt env) (fun x s₃ =>
          wpAny (model prog w) A (call (.builtin "list.append") [acc, x]) (fun _ s₄ => ∃ m, m < n ∧ I m s₄) (notedBy (model prog w) A env fun e s' => R (.error e) s') s₃)
          (notedBy (model prog w) A env fun e s' => R (.error e) s') s₂) (notedBy (model prog w) A env fun e s' => R (.error e) s') s₁) (notedBy (model prog w) A env fun e s' => R (.error e) s') s)
    (n : Nat) (h : I n s) (ht : ∀ v, letOwnedTupleGo t1 it v = pure () := by intro _; rfl) :
    codeAny (model prog w) A (.compLoop (.ListComp elt [⟨t0, i0, [], 0⟩, ⟨t1, i1, [], 0⟩] scope pos) 1 it acc env) R s := by
  refine codeAny_loop rfl I (fun n s hI => ?_) n h
  show wpAny _ _ ((compTurn (.ListComp elt [⟨t0, i0, [], 0⟩, ⟨t1, i1, [], 0⟩] scope pos) 1 it acc env).onRaise (fun x => do noteFrame x env; theTreesLotGoes x)) _ _ s
  refine wpAny_noted ?_
  rw [turn_in]
  refine wpAny_bind (wpAny_standAt (wpAny_bind (wpAny_mono (turn n s hI) (fun r s₁ h₁ => ?_) fun _ _ h' => h')))
  cases r with
  | none => exact wpAny_pure h₁
  | some v =>
    refine wpAny_bind (wpAny_of_eq (ht v) ?_)
    exact wpAny_bind (wpAny_mono h₁ (fun _ s₂ h₂ => wpAny_bind (wpAny_bind (wpAny_mono h₂ (fun x s₃ h₃ => wpAny_bind (wpAny_mono h₃
      (fun _ s₄ h₄ => wpAny_pure (wpAny_pure ⟨rfl, h₄⟩)) fun _ _ h' => h')) fun _ _ h' => h'))) fun _ _ h' => h')
theorem start_in {elt t0 i0 t1 i1 : PySem.Expr} {scope : Scope} {pos : Pos} {it acc : Value} {env : Env}
    (h0 : codeAny (model prog w) A (.compLoop (.ListComp elt [⟨t0, i0, [], 0⟩, ⟨t1, i1, [], 0⟩] scope pos) 1 it acc env) R s)
    (h : wpAny (model prog w) A (pyIter it) (fun it' s' => codeAny (model prog w) A (.compLoop (.ListComp elt [⟨t0, i0, [], 0⟩, ⟨t1, i1, [], 0⟩] scope pos) 1 it' acc env) R s')
      (notedBy (model prog w) A env fun x s' => R (.error x) s') s) :
    codeAny (model prog w) A (.compStart (.ListComp elt [⟨t0, i0, [], 0⟩, ⟨t1, i1, [], 0⟩] scope pos) 1 it acc env) R s := by
  refine codeAny_of_tree ?_
  show wpAny _ _ ((compStart (.ListComp elt [⟨t0, i0, [], 0⟩, ⟨t1, i1, [], 0⟩] scope pos) 1 it acc env).onRaise (fun x => do noteFrame x env; standAt theWindowsPlace)) _ _ s
  refine wpAny_notedAt ?_
  unfold compStart
  show wpAny _ _ (ask >>= _) _ _ s
  refine wpAny_bind (wpAny_askSetting (wpAny_ite ?_))
  split
  · exact wpAny_pure ⟨rfl, h0⟩
  · refine wpAny_bind (wpAny_rule ?_)
    show wpAny _ _ (standAt i1.pos >>= _) _ _ s
    refine wpAny_bind (wpAny_standAt (wpAny_bind (wpAny_mono h (fun _ _ q => wpAny_pure ⟨rfl, q⟩) fun _ _ q => q)))
theorem loop_out {elt t0 i0 t1 i1 : PySem.Expr} {scope : Scope} {pos : Pos} {it acc : Value} {env : Env} (I : Nat → Shared → Prop)
    (turn : ∀ n s, I n s → wpAny (model prog w) A (pyNext it) (fun r s₁ => match r with
      | none => R (.ok .next) s₁
      | some v => wpAny (model prog w) A (assign t0 env v) (fun _ s₂ => wpAny (model prog w) A (eval i1 env) (fun x s₃ =>
          wpAny (model prog w) A (pyIter x) (fun it1 s₄ => codeAny (model prog w) A (.compStart (.ListComp elt [⟨t0, i0, [], 0⟩, ⟨t1, i1, [], 0⟩] scope pos) 1 it1 acc env) (fun r s₅ => ∃ f, r = .ok f ∧ ∃ m, m < n ∧ I m s₅) s₄)
            (notedBy (model prog w) A env fun e s' => R (.error e) s') s₃)
          (notedBy (model prog w) A env fun e s' => R (.error e) s') s₂) (notedBy (model prog w) A env fun e s' => R (.error e) s') s₁) (notedBy (model prog w) A env fun e s' => R (.error e) s') s)
    (n : Nat) (h : I n s) (ht : ∀ v, letOwnedTupleGo t0 it v = pure () := by intro _; rfl) (hs : ∀ x, foldedSetIterable i1 env x = pure x := by intro _; rfl) :
    codeAny (model prog w) A (.compLoop (.ListComp elt [⟨t0, i0, [], 0⟩, ⟨t1, i1, [], 0⟩] scope pos) 0 it acc env) R s := by
  refine codeAny_loop rfl I (fun n s hI => ?_) n h
  show wpAny _ _ ((compTurn (.ListComp elt [⟨t0, i0, [], 0⟩, ⟨t1, i1, [], 0⟩] scope pos) 0 it acc env).onRaise (fun x => do noteFrame x env; theTreesLotGoes x)) _ _ s
  refine wpAny_noted ?_
  rw [turn_out]
  refine wpAny_bind (wpAny_standAt (wpAny_bind (wpAny_mono (turn n s hI) (fun r s₁ h₁ => ?_) fun _ _ h' => h')))
  cases r with
  | none => exact wpAny_pure h₁
  | some v =>
    refine wpAny_bind (wpAny_of_eq (ht v) ?_)
    refine wpAny_bind (wpAny_mono h₁ (fun _ s₂ h₂ => wpAny_bind (wpAny_mono h₂ (fun x s₃ h₃ => ?_) fun _ _ h' => h')) fun _ _ h' => h')
    refine wpAny_bind (wpAny_standAt (wpAny_bind (wpAny_of_eq (hs x) (wpAny_bind (wpAny_holding (wpAny_mono h₃ (fun it1 s₄ h₄ => ?_) fun _ _ h' => h'))))))
    refine wpAny_bind (wpAny_runOwn (codeAny_mono h₄ fun r s₅ h₅ => ?_))
    obtain ⟨f, rfl, h₅⟩ := h₅
    exact wpAny_pure ⟨rfl, h₅⟩
end
end Mine
end
section
open PySem PySem.W PyProof.Rows PySem.Calls PySem.Spec PyProof.V
namespace Mine
open PyProof.Rows.LCg
section
variable {prog : Program} {w : World} {A : Around} {R : Result → Shared → Prop} {s : Shared} {h₀ : Heap} {L : Addr} {m : Str → Option Value} {env : Env}
theorem inner2 {elt i0 i1 : PySem.Expr} {x y : Str} {px py : Pos} {scope : Scope} {cl : List (Str × Addr)} {pos : Pos} {I C D : Addr} {n : Nat} {v : Value} {ys : List Value} {news : List (Addr × Obj)} {mC : Str → Option Value}
    (J : Nat → List Value → List (Addr × Obj) → Prop)
    (hh : A.handled = none) (hkind : scope.kind = .function) (hy : scope.names.lookup y = some .local) (hxy : x ≠ y)
    (hit : IsRangeIter s.heap I 0 (n : Int) 1) (F : Fr h₀ L s.heap m) (hC : s.heap.Ns C mC) (hCx : mC x = some v) (N : News h₀ L s.heap ((D, lst ys) :: news)) (off : Off3 I C D news)
    (hIC : I ≠ C) (hID : I ≠ D) (hCD : C ≠ D) (hCL : C ≠ L) (hIL : I ≠ L) (hI₀ : h₀.get? I = none) (hC₀ : h₀.get? C = none)
    (h0 : J 0 ys news) (hlen : ∀ k ys news, J k ys news → ys.length ≤ sizeLine)
    (turn : ∀ k t ys news h tk oI oC mC (E' : Value → Shared → Prop), k < n → J k ys news → NsObj oC mC → mC x = some v → mC y = some (.int (k : Int) t) → Fr h₀ L h m → News h₀ L h ((I, oI) :: (C, oC) :: (D, lst ys) :: news) → Off3 I C D news →
      wpAny (model prog w) A (eval elt (compEnvC scope cl C env)) (fun val s' => ∃ h' tk' news', s' = { s with heap := h', toks := tk' } ∧ Fr h₀ L h' m ∧ News h₀ L h' ((I, oI) :: (C, oC) :: (D, lst ys) :: news') ∧ Off3 I C D news' ∧ J (k + 1) (ys ++ [val]) news') E' { s with heap := h, toks := tk })
    (done : ∀ ys news h tk mC, J n ys news → Fr h₀ L h m → h.Ns C mC → News h₀ L h ((D, lst ys) :: news) → Off3 I C D news → R (.ok .next) { s with heap := h, toks := tk }) :
    codeAny (model prog w) A (.compLoop (.ListComp elt [⟨.Name x px, i0, [], 0⟩, ⟨.Name y py, i1, [], 0⟩] scope pos) 1 (.ref I) (.ref D) (compEnvC scope cl C env)) R s := by
  have W := range_walks (prog := prog) (w := w) (A := A) (I := I) hh 0 n
  have hDL : D ≠ L := (N _ (.head _)).2.1
  have hD₀ : h₀.get? D = none := (N _ (.head _)).2.2
  refine loop_in (fun k s' => ∃ h' tk i ys mC news', s' = { s with heap := h', toks := tk } ∧ i ≤ n ∧ k = n + 1 - i ∧ IsRangeIter h' I (0 + (i : Nat) * 1) ((n : Int) - (i : Nat)) 1 ∧ Fr h₀ L h' m ∧ h'.Ns C mC ∧ mC x = some v ∧ News h₀ L h' ((D, lst ys) :: news') ∧ Off3 I C D news' ∧ J i ys news') ?_ (n + 1)
    ⟨s.heap, s.toks, 0, ys, mC, news, rfl, Nat.zero_le _, rfl, by simpa using hit, F, hC, hCx, N, off, h0⟩
  rintro k s' ⟨h', tk, i, ys, mC, news', rfl, hi, rfl, hst', F', hn', hx', N', off', J'⟩
  have off3 := off'.mem
  by_cases hlt : i < n
  · refine W.item i _ _ _ hlt hst' fun v' h₂ tk₂ hPv hst₂ hk₂ => ?_
    obtain ⟨t, rfl⟩ := hPv
    refine wpAny_assign_Name (wpAny_storeName_local (lookup_relabel_local hy) (hn'.at' fun o e => hk₂ _ o (by simpa using Ne.symm hIC) e) (fun h₃ hn₃ hs₃ => ?_) (by simp [compEnvC, relabel, hkind]))
    have hst₃ := W.frame _ _ _ hst₂ fun b hb o e => hs₃.extBut b o (fun q => hIC (by rw [List.mem_singleton] at hb; rw [← hb, q]; rfl)) e
    have heI : ∃ oI, h₃.get? I = some oI := ⟨_, hst₃⟩
    obtain ⟨oI, heI⟩ := heI
    obtain ⟨oC, heC, hoC⟩ := ns_obj hn₃
    have F₃ : Fr h₀ L h₃ m := (fr_but F' hk₂ (Ne.symm hIL) hI₀).change hs₃ hCL hC₀
    have N₂ : News h₀ L h₂ ((D, lst ys) :: news') := news_but N' hk₂ fun p hp => by
      rcases List.mem_cons.mp hp with rfl | hp
      · exact Ne.symm hID
      · exact (off3 p hp).1
    have N₃ : News h₀ L h₃ ((I, oI) :: (C, oC) :: (D, lst ys) :: news') := fun p hp => by
      rcases List.mem_cons.mp hp with rfl | hp
      · exact ⟨heI, hIL, hI₀⟩
      · rcases List.mem_cons.mp hp with rfl | hp
        · exact ⟨heC, hCL, hC₀⟩
        · have z := N₂ p hp
          refine ⟨hs₃.extBut _ _ ?_ z.1, z.2⟩
          rcases List.mem_cons.mp hp with rfl | hp
          · exact Ne.symm hCD
          · exact (off3 p hp).2.1
    refine wpAny_mono (turn i t ys news' h₃ _ oI oC _ _ hlt J' hoC (by simp only [if_neg hxy]; exact hx') (by simp) F₃ N₃ off') (fun val s₄ h₄ => ?_) fun _ _ e => e
    obtain ⟨h₄, tk₄, news₄, rfl, F₄, N₄, off₄, J₄⟩ := h₄
    have zI := (N₄ (I, oI) List.mem_cons_self).1
    have zC := (N₄ (C, oC) (List.mem_cons_of_mem _ List.mem_cons_self)).1
    have zD := (N₄ (D, lst ys) (List.mem_cons_of_mem _ (List.mem_cons_of_mem _ List.mem_cons_self))).1
    have N₄' : News h₀ L h₄ news₄ := fun p hp => N₄ p (List.mem_cons_of_mem _ (List.mem_cons_of_mem _ (List.mem_cons_of_mem _ hp)))
    have hst₄ := range_st (h₀ := h₀) (L := L) _ _ _ _ _ hst₃ heI zI F₄.keep N₄' trivial
    refine append_at (hsz := by show ys.toArray.size ≤ sizeLine; rw [List.size_toArray]; exact hlen _ _ _ J') zD fun h₅ hs₅ hD₅ => ?_
    have off4 := off₄.mem
    refine ⟨n + 1 - (i + 1), by omega, h₅, tk₄, i + 1, ys ++ [val], _, news₄, rfl, hlt, rfl, W.frame _ _ _ hst₄ fun b hb o e => hs₅.extBut b o (fun q => hID (by rw [List.mem_singleton] at hb; rw [← hb, q])) e, F₄.change hs₅ hDL hD₀,
      (hoC.ns zC).sameBut hs₅ hCD, by simp only [if_neg hxy]; exact hx', fun p hp => ?_, off₄, J₄⟩
    rcases List.mem_cons.mp hp with rfl | hp
    · exact ⟨hD₅.trans (congrArg some (lst_snoc ys val)), hDL, hD₀⟩
    · exact ⟨hs₅.extBut _ _ (off4 p hp).2.2 (N₄' p hp).1, (N₄' p hp).2⟩
  · obtain rfl : i = n := Nat.le_antisymm hi (Nat.not_lt.mp hlt)
    refine W.done _ _ _ hst' fun h₂ tk₂ hk₂ => ?_
    exact done ys news' h₂ tk₂ _ J' (fr_but F' hk₂ (Ne.symm hIL) hI₀) (hn'.at' fun o e => hk₂ _ o (by simpa using Ne.symm hIC) e) (news_but N' hk₂ fun p hp => by
      rcases List.mem_cons.mp hp with rfl | hp
      · exact Ne.symm hID
      · exact (off3 p hp).1) off'
def IterOut (s : Shared) (h₀ : Heap) (L : Addr) (m : Str → Option Value) (led : List (Addr × Obj)) (n : Nat) (xv : Value) (s' : Shared) : Prop :=
  ∃ h' tk' r t u v', xv = .ref r ∧ s' = { s with heap := h', toks := tk' } ∧ Fr h₀ L h' m ∧ News h₀ L h' led ∧ IsRange h' r 0 (n : Int) 1 t u v' ∧ Builtin.Range.small 0 (n : Int) 1 = true ∧ Builtin.Range.rangeSize 0 (n : Int) 1 = (n : Int)
def EltOut (s : Shared) (h₀ : Heap) (L : Addr) (m : Str → Option Value) (I1 : Addr) (oI1 : Obj) (C : Addr) (oC : Obj) (D : Addr) (ys : List Value) (I : Addr) (oI : Obj) (J : Value → List (Addr × Obj) → Prop) (val : Value) (s' : Shared) : Prop :=
  ∃ h' tk' news', s' = { s with heap := h', toks := tk' } ∧ Fr h₀ L h' m ∧ News h₀ L h' ((I1, oI1) :: (C, oC) :: (D, lst ys) :: (I, oI) :: news') ∧ Off3 I1 C D ((I, oI) :: news') ∧ Off3 I C D news' ∧ J val news'
/-- two places that were free: one now holds an empty list, the other the comprehension's names; nothing else has moved -/
structure NewTwo (h h₁ : Heap) (D C : Addr) : Prop where
  nd : h.get? D = none
  nc : h.get? C = none
  ne : D ≠ C
  old : ∀ b o, h.get? b = some o → h₁.get? b = some o
  acc : h₁.get? D = some (lst [])
theorem free_at {h : Heap} {a : Addr} (ha : h.objs.size ≤ a) : h.get? a = none := Heap.get?_none_of_le ha
theorem NewTwo.off {h h₁ : Heap} {D C b : Addr} {o : Obj} (z : NewTwo h h₁ D C) (e : h.get? b = some o) : b ≠ C ∧ b ≠ D := by
  constructor <;> rintro rfl
  · exact nomatch e.symm.trans z.nc
  · exact nomatch e.symm.trans z.nd
theorem NewTwo.under {h h₁ : Heap} {D C : Addr} (z : NewTwo h h₁ D C) (F : Fr h₀ L h m) : h₀.get? D = none ∧ h₀.get? C = none := by
  constructor
  · cases e : h₀.get? D with
    | none => rfl
    | some o => exact nomatch (F.keep _ _ e).symm.trans z.nd
  · cases e : h₀.get? C with
    | none => rfl
    | some o => exact nomatch (F.keep _ _ e).symm.trans z.nc
theorem newTwo {scope : Scope} {cl : List (Str × Addr)} {E : Value → Shared → Prop} {K : Value → Env → Shared → Prop} (hcell : ∀ y ∈ scope.names, y.2 ≠ .cell) (hkind : scope.kind = .function)
    (h : ∀ D C h₁ mC, NewTwo s.heap h₁ D C → h₁.Ns C mC → K (.ref D) (newEnv scope C env.globals cl env.qual none .none (some env) builtinsNs) { s with heap := h₁, toks := s.toks + 0 }) :
    wpAny (model prog w) A (newList []) (fun acc s₃ => wpAny (model prog w) A (newFunctionEnv scope env.globals cl [] env.qual none .none (some env)) (fun cenv s₄ => K acc cenv s₄) E s₃) E s := by
  refine wpAny_newObj_type (wpAny_newFunctionEnv hcell (by intro y hy; simp at hy) (fun h₁ hn hb => ?_) hkind)
  have up : ∀ b o, s.heap.get? b = some o → (s.heap.push (lst [])).get? b = some o := fun b o e => Heap.get?_push_of_some _ e
  have hs : (s.heap.push (lst [])).objs.size = s.heap.objs.size + 1 := Heap.size_push ..
  refine h _ _ h₁ _ ⟨free_at (Nat.le_refl _), free_at (Nat.le_of_lt (by show _ < (s.heap.push (lst [])).objs.size; rw [hs]; exact Nat.lt_succ_self _)), ?_, fun b o e => ?_, ?_⟩ hn
  · show s.heap.objs.size ≠ (s.heap.push (lst [])).objs.size
    rw [hs]
    exact Nat.ne_of_lt (Nat.lt_succ_self _)
  · have e1 := up b o e
    exact hb.extBut b o (Nat.ne_of_lt (Heap.lt_size e1)) (Heap.get?_push_of_some _ e1)
  · have e1 : (s.heap.push (lst [])).get? s.heap.objs.size = some (lst []) := Heap.get?_push_size _ rfl
    exact hb.extBut _ _ (Nat.ne_of_lt (Heap.lt_size e1)) (Heap.get?_push_of_some _ e1)
theorem block2 {elt i0 i1 : PySem.Expr} {x y : Str} {px py : Pos} {scope : Scope} {cl : List (Str × Addr)} {pos : Pos} {s₂ : Shared} {I ol : Addr} {its : Array Value} {news : List (Addr × Obj)} {E : Value → Shared → Prop}
    {RR : Value → Addr → Result → Shared → Prop} (J : Nat → Nat → List Value → List (Addr × Obj) → Prop) (cnt : Nat → Nat)
    (hh : A.handled = none) (hol : I ≠ ol) (hst : s₂.heap.IsListIter I ol 0 ∧ s₂.heap.IsList ol its)
    (hcell : ∀ y ∈ scope.names, y.2 ≠ .cell) (hkind : scope.kind = .function) (hx : scope.names.lookup x = some .local) (hy : scope.names.lookup y = some .local) (hxy : x ≠ y)
    (F : Fr h₀ L s₂.heap m) (N : News h₀ L s₂.heap news) (hIL : L ≠ I) (hI₀ : h₀.get? I = none) (off : ∀ p ∈ news, p.1 ≠ I)
    (h00 : J 0 0 [] news) (hnx : ∀ i ys nw, i < its.size → J i (cnt i) ys nw → J (i + 1) 0 ys nw) (hSrc : ∀ i k ys nw, J i k ys nw → SrcAt h₀ ol its nw) (hlen : ∀ i k ys nw, J i k ys nw → ys.length ≤ sizeLine)
    (turnI : ∀ i v ys news h tk oI C oC D mC (E' : Value → Shared → Prop), its[i]? = some v → J i 0 ys news → NsObj oC mC → mC x = some v → Fr h₀ L h m → News h₀ L h ((I, oI) :: (C, oC) :: (D, lst ys) :: news) → Off3 I C D news → ((@Ne Nat I C) ∧ (@Ne Nat I D) ∧ (@Ne Nat C D)) →
      wpAny (model prog w) A (eval i1 (compEnvC scope cl C env)) (IterOut s₂ h₀ L m ((I, oI) :: (C, oC) :: (D, lst ys) :: news) (cnt i)) E' { s₂ with heap := h, toks := tk })
    (turnE : ∀ i k v t ys news h tk oI I1 oI1 C oC D mC (E' : Value → Shared → Prop), its[i]? = some v → k < cnt i → J i k ys news → NsObj oC mC → mC x = some v → mC y = some (.int (k : Int) t) → Fr h₀ L h m →
      News h₀ L h ((I1, oI1) :: (C, oC) :: (D, lst ys) :: (I, oI) :: news) → Off3 I1 C D ((I, oI) :: news) → Off3 I C D news → ((@Ne Nat I1 C) ∧ (@Ne Nat I1 D) ∧ (@Ne Nat C D)) →
      wpAny (model prog w) A (eval elt (compEnvC scope cl C env)) (EltOut s₂ h₀ L m I1 oI1 C oC D ys I oI (fun val nw => J i (k + 1) (ys ++ [val]) nw)) E' { s₂ with heap := h, toks := tk })
    (hRR : ∀ D C h tk m' ys news', Fr h₀ L h m → News h₀ L h ((D, lst ys) :: news') → Off1 D news' → h.Ns C m' → h₀.get? C = none → h₀.get? D = none → C ≠ L → D ≠ L → C ≠ D → (∀ p ∈ news', p.1 ≠ C) → J its.size 0 ys news' → RR (.ref D) C (.ok .next) { s₂ with heap := h, toks := tk })
    (hs : ∀ C x, foldedSetIterable i1 (compEnvC scope cl C env) x = pure x := by intro _ _; rfl) :
    wpAny (model prog w) A (newList []) (fun acc s₃ => wpAny (model prog w) A (newFunctionEnv scope env.globals cl [] env.qual none .none (some env)) (fun cenv s₄ =>
      codeAny (model prog w) A (.compStart (.ListComp elt [⟨.Name x px, i0, [], 0⟩, ⟨.Name y py, i1, [], 0⟩] scope pos) 0 (.ref I) acc { cenv with scope := relabel scope env }) (RR acc cenv.locals) s₄) E s₃) E s₂ := by
  have W := Walks.list (prog := prog) (w := w) hh I ol (Ne.symm hol) its
  obtain ⟨oi, hoi, _⟩ := id hst.1
  obtain ⟨oo, hoo, _⟩ := id hst.2
  refine newTwo hcell hkind ?_
  intro D C h₁ mC z hns₁
  have hDC := z.ne
  obtain ⟨hCI, hDI⟩ := z.off hoi
  obtain ⟨hD₀, hC₀⟩ := z.under F
  obtain ⟨oL, hoL, _⟩ := ns_obj F.ns
  have hDL : D ≠ L := Ne.symm (z.off hoL).2
  have hCL : C ≠ L := Ne.symm (z.off hoL).1
  have hCf : C ∉ [I, ol] := fun q => by
    rcases List.mem_cons.mp q with q | q
    · exact hCI q.symm
    · exact (z.off hoo).1 (List.mem_singleton.mp q).symm
  have old := z.old
  have hst₁ := W.frame 0 _ _ hst fun b _ o e => old b o e
  have off₀ : Off3 I C D news := Off3.of fun p hp => ⟨off p hp, z.off (N p hp).1⟩
  have N₁ : News h₀ L h₁ ((D, lst []) :: news) := List.forall_mem_cons.mpr ⟨⟨z.acc, hDL, hD₀⟩, fun p hp => ⟨old _ _ (N p hp).1, (N p hp).2⟩⟩
  have loop : ∀ s₃ : Shared, s₃ = { s₂ with heap := h₁, toks := s₂.toks + 0 } →
      codeAny (model prog w) A (.compLoop (.ListComp elt [⟨.Name x px, i0, [], 0⟩, ⟨.Name y py, i1, [], 0⟩] scope pos) 0 (.ref I) (.ref D) (compEnvC scope cl C env)) (RR (.ref D) C) s₃ := by
    rintro s₃ rfl
    refine loop_out (hs := hs C)
      (fun k s' => ∃ h' tk i ys m' news', s' = { s₂ with heap := h', toks := tk } ∧ i ≤ its.size ∧ k = its.size + 1 - i ∧ (h'.IsListIter I ol i ∧ h'.IsList ol its) ∧ Fr h₀ L h' m ∧ h'.Ns C m' ∧ News h₀ L h' ((D, lst ys) :: news') ∧
        Off3 I C D news' ∧ J i 0 ys news') ?_ (its.size + 1)
      ⟨h₁, _, 0, [], _, news, rfl, Nat.zero_le _, rfl, hst₁, F.keeps old, hns₁, N₁, off₀, h00⟩
    rintro k s' ⟨h', tk, i, ys, m', news', rfl, hi, rfl, hst', F', hn', N', off', J'⟩
    have off3 := off'.mem
    by_cases hlt : i < its.size
    · refine W.item i _ _ _ hlt hst' fun v h₂ tk₂ hPv hst₂ hk₂ => ?_
      refine wpAny_assign_Name (wpAny_storeName_local (lookup_relabel_local hx) (hn'.at' fun o e => hk₂ _ o (by simpa using Ne.symm hCI) e) (fun h₃ hn₃ hs₃ => ?_) (by simp [compEnvC, relabel, hkind]))
      have hst₃ := W.frame _ _ _ hst₂ fun b hb o e => hs₃.extBut b o (fun q => hCf (by have q' : b = C := q; rw [← q']; exact hb)) e
      obtain ⟨oI, heI, hoI⟩ := hst₃.1
      obtain ⟨oC, heC, hoC⟩ := ns_obj hn₃
      have F₃ : Fr h₀ L h₃ m := (fr_but F' hk₂ hIL hI₀).change hs₃ hCL hC₀
      have N₂ : News h₀ L h₂ ((D, lst ys) :: news') := news_but N' hk₂ fun p hp => by
        rcases List.mem_cons.mp hp with rfl | hp
        · exact Ne.symm hDI
        · exact (off3 p hp).1
      have N₃ : News h₀ L h₃ ((I, oI) :: (C, oC) :: (D, lst ys) :: news') := fun p hp => by
        rcases List.mem_cons.mp hp with rfl | hp
        · exact ⟨heI, Ne.symm hIL, hI₀⟩
        · rcases List.mem_cons.mp hp with rfl | hp
          · exact ⟨heC, hCL, hC₀⟩
          · have z := N₂ p hp
            refine ⟨hs₃.extBut _ _ ?_ z.1, z.2⟩
            rcases List.mem_cons.mp hp with rfl | hp
            · exact hDC
            · exact (off3 p hp).2.1
      refine wpAny_mono (turnI i v ys news' h₃ _ oI C oC D _ _ hPv J' hoC (by simp) F₃ N₃ off' ⟨hCI, hDI, Ne.symm hDC⟩) (fun xv s₄ h₄ => ?_) fun _ _ e => e
      obtain ⟨h₄, tk₄, r, t, u, v', rfl, rfl, F₄, N₄, hr, hsm, hsz⟩ := h₄
      refine wpAny_pyIter_range hr hsm ?_
      dsimp only
      rw [hsz]
      have lt4 : ∀ p ∈ (I, oI) :: (C, oC) :: (D, lst ys) :: news', p.1 ≠ h₄.objs.size := fun p hp => Nat.ne_of_lt (Heap.lt_size (N₄ p hp).1)
      have hit : IsRangeIter (h₄.push { cls := .type "range_iterator", data := .fields #[rawInt 0, rawInt (cnt i : Int), rawInt 1] }) h₄.objs.size 0 (cnt i : Int) 1 := Heap.get?_push_size _ rfl
      have up : ∀ b q, h₄.get? b = some q → (h₄.push { cls := .type "range_iterator", data := .fields #[rawInt 0, rawInt (cnt i : Int), rawInt 1] }).get? b = some q := fun b q e => Heap.get?_push_of_some _ e
      have F₅ := F₄.keeps up
      have N₅ := N₄.grown up
      have hI1L : h₄.objs.size ≠ L := Ne.symm (Nat.ne_of_lt F₄.ns.lt)
      have hI1₀ : h₀.get? h₄.objs.size = none := next_is_new F₄
      clear up
      generalize h₄.push { cls := .type "range_iterator", data := .fields #[rawInt 0, rawInt (cnt i : Int), rawInt 1] } = h₅ at *
      generalize h₄.objs.size = I1 at *
      have nC := lt4 _ (.tail _ (.head _))
      have nD := lt4 _ (.tail _ (.tail _ (.head _)))
      have nI := lt4 _ (.head _)
      have zC := (N₅ (C, oC) (.tail _ (.head _))).1
      have lp := inner2 (prog := prog) (w := w) (A := A) (s := { s₂ with heap := h₅, toks := tk₄ }) (elt := elt) (i0 := i0) (i1 := i1) (px := px) (py := py) (pos := pos) (env := env) (cl := cl) (v := v) (ys := ys)
        (R := fun r s₅ => ∃ f, r = .ok f ∧ ∃ mm, mm < its.size + 1 - i ∧ ∃ h' tk i ys m' news', s₅ = { s₂ with heap := h', toks := tk } ∧ i ≤ its.size ∧ mm = its.size + 1 - i ∧ (h'.IsListIter I ol i ∧ h'.IsList ol its) ∧ Fr h₀ L h' m ∧ h'.Ns C m' ∧ News h₀ L h' ((D, lst ys) :: news') ∧
          Off3 I C D news' ∧ J i 0 ys news')
        (fun k ys nw => ∃ news', nw = (I, oI) :: news' ∧ Off3 I C D news' ∧ J i k ys news') hh hkind hy hxy hit F₅ (hoC.ns zC) (by simp)
        (news := (I, oI) :: news') (fun p hp => N₅ p (by
          rcases List.mem_cons.mp hp with rfl | hp
          · exact .tail _ (.tail _ (.head _))
          · rcases List.mem_cons.mp hp with rfl | hp
            · exact .head _
            · exact .tail _ (.tail _ (.tail _ hp))))
        ⟨⟨nI, hCI, hDI⟩, Off3.of fun p hp => ⟨lt4 p (.tail _ (.tail _ (.tail _ hp))), (off3 p hp).2⟩⟩
        (Ne.symm nC) (Ne.symm nD) (Ne.symm hDC) hCL hI1L hI1₀ hC₀ ⟨news', rfl, off', J'⟩ (fun k ys nw ⟨_, _, _, j⟩ => hlen _ _ _ _ j)
        (by
          rintro k t ys nw h tk oI1 oC mC E' hk ⟨nw', rfl, o1, j⟩ hoC hx1 hy1 F6 N6 o2
          refine wpAny_mono (turnE i k v t ys nw' h tk oI I1 oI1 C oC D mC E' hPv hk j hoC hx1 hy1 F6 N6 o2 o1 ⟨Ne.symm nC, Ne.symm nD, Ne.symm hDC⟩) (fun val s7 h7 => ?_) fun _ _ e => e
          obtain ⟨h7, tk7, nw7, rfl, F7, N7, o3, o4, j7⟩ := h7
          exact ⟨h7, tk7, (I, oI) :: nw7, rfl, F7, N7, o3, nw7, rfl, o4, j7⟩)
        (by
          rintro ys nw h tk mC ⟨nw', rfl, o1, j⟩ F6 hn6 N6 o2
          have N7 : News h₀ L h nw' := fun p hp => N6 p (.tail _ (.tail _ hp))
          exact ⟨_, rfl, its.size + 1 - (i + 1), by omega, h, tk, i + 1, ys, mC, nw', rfl, hlt, rfl, ⟨⟨oI, (N6 _ (.tail _ (.head _))).1, hoI⟩, (hSrc _ _ _ _ j).list F6.keep N7⟩, F6, hn6, fun p hp => N6 p (by
            rcases List.mem_cons.mp hp with rfl | hp
            · exact .head _
            · exact .tail _ (.tail _ hp)), o1, hnx _ _ _ hlt j⟩)
      exact start_in lp (wpAny_pyIter_rangeiter hit lp)
    · obtain rfl : i = its.size := Nat.le_antisymm hi (Nat.not_lt.mp hlt)
      refine W.done _ _ _ hst' fun h₂ tk₂ hk₂ => ?_
      exact hRR _ _ h₂ tk₂ _ ys news' (fr_but F' hk₂ hIL hI₀) (news_but N' hk₂ fun p hp => by
        rcases List.mem_cons.mp hp with rfl | hp
        · exact Ne.symm hDI
        · exact (off3 p hp).1) off'.one (hn'.at' fun o e => hk₂ _ o (by simpa using Ne.symm hCI) e) hC₀ hD₀ hCL hDL (Ne.symm hDC) (fun p hp => (off3 p hp).2.1) J'
  exact codeAny_compStart_list (loop _ rfl) (W.self 0 _ _ _ hst₁ (loop _ rfl))
theorem Assign_LC2 {elt i0 i1 : PySem.Expr} {x y z : Str} {px py pz : Pos} {scope : Scope} {cl : List (Str × Addr)} {pos spos : Pos} {ol : Addr} {its : Array Value} {news : List (Addr × Obj)} {E : Value → Shared → Prop} {Q : Flow → Shared → Prop}
    (J : Nat → Nat → List Value → List (Addr × Obj) → Prop) (cnt : Nat → Nat) (hLe : env.locals = L)
    (hsw : swapsWith (.ListComp elt [⟨.Name x px, i0, [], 0⟩, ⟨.Name y py, i1, [], 0⟩] scope pos) (some (.Name z pz)) spos.line env = pure true)
    (hclos : closureFor scope env = pure cl) (hcell : ∀ z ∈ scope.names, z.2 ≠ .cell) (hkind : scope.kind = .function)
    (hnames : ∀ z ∈ scope.names, z.2 = .local → scope.names.lookup z.1 = some .local) (hx : scope.names.lookup x = some .local) (hy : scope.names.lookup y = some .local) (hxy : x ≠ y)
    (hz : env.kindOf z = some .local) (hp : (env.scope.kind == .class || (env.scope.kind == .module && env.locals != env.globals)) = false)
    (h : ∀ Q' : Value → Shared → Prop, Q' (.ref ol) s → wpAny (model prog w) A (eval i0 env) Q' E s)
    (hh : A.handled = none) (F : Fr h₀ L s.heap m) (N : News h₀ L s.heap news)
    (h00 : J 0 0 [] news) (hnx : ∀ i ys nw, i < its.size → J i (cnt i) ys nw → J (i + 1) 0 ys nw) (hSrc : ∀ i k ys nw, J i k ys nw → SrcAt h₀ ol its nw) (hlen : ∀ i k ys nw, J i k ys nw → ys.length ≤ sizeLine)
    (turnI : ∀ i v ys news h tk I oI C oC D mC (E' : Value → Shared → Prop), its[i]? = some v → J i 0 ys news → NsObj oC mC → mC x = some v → Fr h₀ L h m → News h₀ L h ((I, oI) :: (C, oC) :: (D, lst ys) :: news) → Off3 I C D news → ((@Ne Nat I C) ∧ (@Ne Nat I D) ∧ (@Ne Nat C D)) →
      wpAny (model prog w) A (eval i1 (compEnvC scope cl C env)) (IterOut s h₀ L m ((I, oI) :: (C, oC) :: (D, lst ys) :: news) (cnt i)) E' { s with heap := h, toks := tk })
    (turnE : ∀ i k v t ys news h tk I oI I1 oI1 C oC D mC (E' : Value → Shared → Prop), its[i]? = some v → k < cnt i → J i k ys news → NsObj oC mC → mC x = some v → mC y = some (.int (k : Int) t) → Fr h₀ L h m →
      News h₀ L h ((I1, oI1) :: (C, oC) :: (D, lst ys) :: (I, oI) :: news) → Off3 I1 C D ((I, oI) :: news) → Off3 I C D news → ((@Ne Nat I1 C) ∧ (@Ne Nat I1 D) ∧ (@Ne Nat C D)) →
      wpAny (model prog w) A (eval elt (compEnvC scope cl C env)) (EltOut s h₀ L m I1 oI1 C oC D ys I oI (fun val nw => J i (k + 1) (ys ++ [val]) nw)) E' { s with heap := h, toks := tk })
    (fin : ∀ D h tk ys news', J its.size 0 ys news' → Fr h₀ L h (fun q => if q = z then some (.ref D) else m q) → News h₀ L h ((D, lst ys) :: news') → Off1 D news' → Q .next { s with heap := h, toks := tk })
    (hs : ∀ C x, foldedSetIterable i1 (compEnvC scope cl C env) x = pure x := by intro _ _; rfl)
    (hs0 : ∀ x, foldedSetIterable i0 env x = pure x := by intro _; rfl) :
    wpAny (model prog w) A (exec (.Assign [.Name z pz] (.ListComp elt [⟨.Name x px, i0, [], 0⟩, ⟨.Name y py, i1, [], 0⟩] scope pos) spos) env) Q E s := by
  subst hLe
  rw [exec_Assign_Name_used _ _ _ _ hsw]
  refine wpAny_bind (wpAny_standAt (wpAny_bind ?_))
  show wpAny _ A (do let _ ← comprehension (.ListComp elt [⟨.Name x px, i0, [], 0⟩, ⟨.Name y py, i1, [], 0⟩] scope pos) scope env _ (newList []) false (eval i0 env) (some (assign (.Name z pz) env))) _ _ s
  refine wpAny_bind (wpAny_mono (wpAny_comprehension_free (use := some (assign (.Name z pz) env)) (Q := fun _ s' => Q .next s') rfl hs0 hclos hkind hnames
    (h _ ?_)) (fun _ s' hq => wpAny_pure (wpAny_pure hq)) fun _ _ e => e)
  have hl := (hSrc _ _ _ _ h00).list F.keep N
  have hlt : ol < s.heap.objs.size := by obtain ⟨_, e, _⟩ := hl; exact Heap.lt_size e
  refine wpAny_pyIter_list hl ?_
  have up : ∀ b o, s.heap.get? b = some o → (s.heap.push { cls := .type "list_iterator", data := .fields #[.ref ol, .int 0 0] }).get? b = some o := fun b o e => Heap.get?_push_of_some _ e
  refine block2 J cnt hh (Ne.symm (Nat.ne_of_lt hlt)) ⟨⟨_, Heap.get?_push_size _ rfl, rfl, rfl⟩, hl.push _⟩ hcell hkind hx hy hxy (F.keeps up) (N.grown up) (Nat.ne_of_lt F.ns.lt) (next_is_new F) (fun p hp => Nat.ne_of_lt (Heap.lt_size (N p hp).1))
    h00 hnx hSrc hlen (fun i v ys news h tk oI C oC D mC E' => turnI i v ys news h tk _ oI C oC D mC E') (fun i k v t ys news h tk oI I1 oI1 C oC D mC E' => turnE i k v t ys news h tk _ oI I1 oI1 C oC D mC E') ?_ hs
  intro D C h' tk m' ys news' F' N' o1 hn hC₀ hD₀ hCL hDL hCD offC j
  show wpAny _ A (assign (.Name z pz) env (.ref D)) _ _ _
  refine wpAny_assign_Name (wpAny_storeName_local hz F'.ns (fun h₂ hn₂ hs₂ => ?_) hp)
  have hL₀ : h₀.get? env.locals = none := Heap.get?_none_of_le F'.above
  have F₂ : Fr h₀ env.locals h₂ (fun q => if q = z then some (.ref D) else m q) := ⟨hn₂, fun b o e => hs₂.extBut b o (fun q => by rw [q, hL₀] at e; cases e) (F'.keep b o e), F'.above⟩
  refine ⟨m', hn.sameBut hs₂ hCL, fun h'' hs'' => fin D h'' _ ys news' j (F₂.change hs'' hCL hC₀) (fun p hp => ?_) o1⟩
  have z' : h₂.get? p.1 = some p.2 := hs₂.extBut _ _ (N' p hp).2.1 (N' p hp).1
  refine ⟨hs''.extBut _ _ ?_ z', (N' p hp).2⟩
  rcases List.mem_cons.mp hp with rfl | hp
  · exact Ne.symm hCD
  · exact offC p hp
end
end Mine
end
section
open PySem PySem.W PyProof.Rows PySem.Calls PySem.Spec PyProof.V
namespace Mine
section
variable {prog : Program} {w : World} {A : Around} {s : Shared} {env : Env} {h₀ : Heap} {E : Value → Shared → Prop} {Q : Flow → Shared → Prop}
theorem iter_tupleX {target : PySem.Expr} {body orelse : List Stmt} {l : Addr} {vs : List Value} {nn : Nat} {m : Str → Option Value} {news : List (Addr × Obj)}
    (J : Nat → (Str → Option Value) → List (Addr × Obj) → Prop)
    (hh : A.handled = none) (hl : ∀ i m news, J i m news → (l, ({ cls := .type "tuple", data := .seq vs.toArray nn } : Obj)) ∈ news)
    (F : Fr h₀ env.locals s.heap m) (N : News h₀ env.locals s.heap news) (h0 : J 0 m news)
    (turn : ∀ I i v m₁ news₁ h tk io, io.cls = .type "tuple_iterator" → (∀ p ∈ news, p.1 < I) → vs[i]? = some v → J i m₁ news₁ → (∀ p ∈ news₁, p.1 ≠ I) → Fr h₀ env.locals h m₁ → News h₀ env.locals h (news₁ ++ [(I, io)]) →
      wpAny (model prog w) A (assign target env v) (fun _ s₂ => wpAny (model prog w) A (execs body env) (StepX s h₀ env.locals I io (J (i + 1)) Q) E s₂) E { s with heap := h, toks := tk })
    (done : ∀ m₁ news₁ h tk, J vs.length m₁ news₁ → Fr h₀ env.locals h m₁ → News h₀ env.locals h news₁ → wpAny (model prog w) A (execs orelse env) Q E { s with heap := h, toks := tk })
    (hE : PassesOwn (model prog w) A env E) :
    wpAny (model prog w) A (pyIter (.ref l)) (fun it s₂ => LoopX prog w A env target body orelse Q E it s₂) E s := by
  have hol : s.heap.get? l = some (({ cls := .type "tuple", data := .seq vs.toArray nn } : Obj)) := (N _ (hl _ _ _ h0)).1
  have hls : s.heap.IsTuple l vs.toArray := ⟨_, hol, rfl, nn, rfl⟩
  have hne : l ≠ s.heap.objs.size := Nat.ne_of_lt (Heap.lt_size hol)
  refine wpAny_pyIter_tuple hls ?_
  have W := Walks.tuple (prog := prog) (w := w) hh s.heap.objs.size l hne vs.toArray
  have hlen : vs.toArray.size = vs.length := by simp
  rw [hlen] at W
  refine loopW J (fun o => o.cls = .type "tuple_iterator") W (fun _ _ h => let ⟨o, ho, hc, _⟩ := h.1; ⟨o, ho, hc⟩) (fun i s' v Q' st hQ' => letGo_tupleiter st.1 hQ') ?_ (Nat.ne_of_lt F.ns.lt) (next_is_new F)
    (fun p hp => Nat.ne_of_lt (Heap.lt_size (N p hp).1)) ⟨⟨_, Heap.get?_push_size _ rfl, rfl, rfl⟩, hls.push _⟩ (F.push _) (fun p hp => ⟨Heap.get?_push_of_some _ (N p hp).1, (N p hp).2⟩) h0 ?_ ?_ hE
  · intro b hb
    rcases List.mem_cons.mp hb with rfl | hb
    · exact .inl rfl
    · rw [List.mem_singleton.mp hb]
      exact .inr (.inr ⟨_, hl⟩)
  · intro i v m₁ news₁ h tk io hio hi hP hJ hnw F₁ N₁
    exact turn _ i v m₁ news₁ h tk io hio (fun p hp => Heap.lt_size (N p hp).1) (by simpa using hP) hJ hnw F₁ N₁
  · exact done
end
end Mine
end
section
open PySem PySem.W PyProof.Rows PySem.Calls PySem.Spec PyProof.V
namespace Mine
theorem off_C6 : True := by w_top off; trivial
def ListsIn (tl : List (Addr × Obj)) (vs : List Value) (os : List (List Nat)) : Prop :=
  Paired (fun v o => ∃ d ws c, v = Value.ref d ∧ (d, listOf ws.toArray c) ∈ tl ∧ IntsAre ws (o.map Int.ofNat)) vs os
abbrev OrClaim (prog : Program) (w : World) (K : Frag) (p : Program) (loose : List Str) (mean : ExcName → Option Value) (mg mb : Str → Option Value) (f : Addr) (news : List (Addr × Obj)) : Prop :=
  ∀ (dp un : Nat) (gd : Option (List Code)) (cn : Str) (cs : Scope) (a : Addr) (ccd : Value) (cl : List (Str × Addr)) (outer : List Env) (A₀ : Around) (base h₀ : Heap) (L : Addr) (m : Str → Option Value) (s : Shared) (Q E : Value → Shared → Prop),
    Below A₀ base outer h₀ → Fr h₀ L s.heap m → K.In h₀ → News h₀ L s.heap news → Top p loose mean mg mb h₀ → cs.kind = .function →
    dp + 1 < recursionLimit → un + 8 < cLine → (∀ (D : Addr) (vs : List Value) (c : Nat) (own : List (Addr × Obj)) (h' : Heap) (tk' : Nat), (∀ q ∈ news, q.1 ≠ D) → (∀ q ∈ own, q.1 ≠ D) → OwnOff own (news.map (·.1)) → Fr h₀ L h' m → News h₀ L h' ((D, listOf vs.toArray c) :: (own ++ news)) → ListsIn own vs orders12 → Q (.ref D) { s with heap := h', toks := tk' }) →
      wpAny (model prog w) (ktrTop dp un gd cn cs L a ccd cl outer) (call (.ref f) []) Q E s
def ordersAt : Nat → List (List Nat)
  | 0 => [[0, 1]]
  | i + 1 => (ordersAt i).flatMap (insAll (i + 2))
def J6 (cd td : Addr) (tup : Obj) (news : List (Addr × Obj)) (m₀ : Str → Option Value) (i : Nat) (m : Str → Option Value) (led : List (Addr × Obj)) : Prop :=
  ∃ (ol : Addr) (vs : List Value) (c : Nat) (oc : Obj) (cv : Option Value) (tl own : List (Addr × Obj)),
    m = kstB m₀ [(Str.ofString "orders", .ref ol)] ∧ led = (cd, oc) :: (ol, listOf vs.toArray c) :: (td, tup) :: tl ∧ oc.data = .cell cv ∧ ListsIn own vs (ordersAt i) ∧ (tl = own ++ news ∧ OwnOff own (news.map (·.1))) ∧ OwnOff tl [cd, ol, td] ∧ cd ≠ ol ∧ cd ≠ td ∧ ol ≠ td ∧ (∀ p ∈ news, p.1 ≠ ol)
theorem J6.start {L' td l2 l1 : Addr} {tup oc0 : Obj} {cv : Option Value} {news : List (Addr × Obj)} {m0 : Str → Option Value} {t u : Tok} (hoc : oc0.data = .cell cv) (hm : m0 (Str.ofString "orders") = some (.ref l2))
    (hlt : ∀ p ∈ news, p.1 < L') (h2 : L' + 1 < l1) (h1 : l1 < l2) (h0 : l2 < td) :
    J6 (L' + 1) td tup news m0 0 m0 ((L' + 1, oc0) :: (l2, listOf [Value.ref l1].toArray 0) :: (td, tup) :: ([(l1, listOf [Value.int 0 t, Value.int 1 u].toArray 0)] ++ news)) := by
  have k2 := ltN h2; have k1 := ltN h1; have k0 := ltN h0
  refine ⟨l2, _, 0, oc0, cv, _, [(l1, listOf [Value.int 0 t, Value.int 1 u].toArray 0)], (funext fun z => (kstB_eq (List.forall_mem_cons.mpr ⟨hm, List.forall_mem_nil _⟩) fun _ => rfl).symm), rfl, hoc,
    Paired.cons ⟨l1, _, 0, rfl, .head _, .cons _ _ (.cons _ _ .nil)⟩ Paired.nil, ⟨rfl, ?_⟩, ?_, ?_, ?_, ?_, ?_⟩
  · intro p hp b hb
    obtain ⟨q, hq, rfl⟩ := List.mem_map.mp hb
    rw [List.mem_singleton.mp hp]
    have := ltN (hlt q hq)
    refine neN ?_
    dsimp only
    omega
  · intro p hp b hb
    simp only [List.mem_cons, List.not_mem_nil, or_false, List.cons_append, List.nil_append] at hp hb
    refine neN ?_
    rcases hp with rfl | hp
    · rcases hb with rfl | rfl | rfl <;> dsimp only <;> omega
    · have := ltN (hlt p hp)
      rcases hb with rfl | rfl | rfl <;> omega
  · refine neN ?_; omega
  · refine neN ?_; omega
  · refine neN ?_; omega
  · intro p hp
    have := ltN (hlt p hp)
    refine neN ?_; omega
theorem orders_two : ordersAt 2 = orders12 := rfl
theorem nmT {h₀ h : Heap} {L a : Addr} {t2 t3 : Tok} {n : Nat} {r : List (Addr × Obj)} (_ : News h₀ L h ((a, ({ cls := .type "tuple", data := .seq #[.int 2 t2, .int 3 t3] n } : Obj)) :: r)) : ∃ t2', t2' = t2 := ⟨_, rfl⟩
theorem nmU {h₀ h : Heap} {L a b c : Addr} {oa ob : Obj} {t u : Tok} {n : Nat} {r : List (Addr × Obj)} (_ : News h₀ L h ((a, oa) :: (b, ob) :: (c, listOf #[.int 0 t, .int 1 u] n) :: r)) : ∃ t', t' = t := ⟨_, rfl⟩
theorem nm4 {h₀ h : Heap} {L a b c d : Addr} {oa ob oc od : Obj} {r : List (Addr × Obj)} (_ : News h₀ L h ((a, oa) :: (b, ob) :: (c, oc) :: (d, od) :: r)) : ∃ g' L' b' c' od' oa', g' = h₀ ∧ L' = L ∧ b' = b ∧ c' = c ∧ od' = od ∧ oa' = oa := ⟨_, _, _, _, _, _, rfl, rfl, rfl, rfl, rfl, rfl⟩
def JL (base : List (Addr × Obj)) (os : List (List Nat)) (who : Nat) (i k : Nat) (ys : List Value) (nw : List (Addr × Obj)) : Prop :=
  ∃ add, nw = add ++ base ∧ ListsIn add ys ((os.take i).flatMap (insAll who) ++ (insAll who (os.getD i [])).take k) ∧ OwnOff add (base.map (·.1)) ∧ ys.length ≤ 8 * i + k ∧ i ≤ 8 ∧ k ≤ 8
def cntO (os : List (List Nat)) (i : Nat) : Nat := (os.getD i []).length + 1
theorem JL.next {base : List (Addr × Obj)} {os : List (List Nat)} {who i : Nat} {ys : List Value} {nw : List (Addr × Obj)} (h : JL base os who i (cntO os i) ys nw) (hi : i < os.length) (hl : os.length ≤ 8) : JL base os who (i + 1) 0 ys nw := by
  obtain ⟨add, e, h1, h2, h3, h4, h5⟩ := h
  refine ⟨add, e, ?_, h2, by omega, by omega, by omega⟩
  have e1 : (insAll who (os.getD i [])).take (cntO os i) = insAll who (os.getD i []) := List.take_of_length_le (by simp [insAll, cntO])
  have e2 : os.take (i + 1) = os.take i ++ [os.getD i []] := by
    rw [List.take_succ, List.getD_eq_getElem?_getD, List.getElem?_eq_getElem hi]; rfl
  rw [e1] at h1
  rw [e2, List.flatMap_append, List.take_zero, List.append_nil]
  simpa using h1
theorem paired_at {α β : Type} {F : α → β → Prop} : ∀ {l₁ : List α} {l₂ : List β}, Paired F l₁ l₂ → ∀ {i : Nat} {a : α}, l₁[i]? = some a → ∃ b, l₂[i]? = some b ∧ F a b
  | _, _, .nil, _, _, h => by simp at h
  | _, _, .cons (b := b) hf t, 0, a, h => by
    simp at h
    subst h
    exact ⟨b, rfl, hf⟩
  | _, _, .cons hf t, i + 1, a, h => by
    simp at h
    obtain ⟨b, e, f⟩ := paired_at t h
    exact ⟨b, by simpa using e, f⟩
open PyProof.Rows.LCg in
theorem compLocalN {prog : Program} {w : World} {A : Around} {E : Value → Shared → Prop} {s : Shared} {scope : Scope} {cl : List (Str × Addr)} {C : Addr} {oC : Obj} {env : Env} {m : Str → Option Value} {x : Str} {pos : Pos} {v : Value} {Q : Value → Shared → Prop} {h₀ : Heap} {L : Addr} {led : List (Addr × Obj)}
    (N : News h₀ L s.heap led) (hm : (C, oC) ∈ led) (ho : NsObj oC m) (hv : m x = some v) (h : Q v s)
    (hk : (compEnvC scope cl C env).scope.kind = .function := by rfl) (hx : (compEnvC scope cl C env).kindOf x = some .local := by rfl) (hb : (x == ("__debug__" : Str)) = false := by decide) :
    wpAny (model prog w) A (eval (.Name x pos) (compEnvC scope cl C env)) Q E s := compLocal (ho.ns (N _ hm).1) hv h hk hx hb
local macro_rules | `(tactic| walk_at "eval Name") => `(tactic| (k_here; k_dflt (refine compLocalN (by k_asm) (by k_mem) (by assumption) (by assumption) ?_)))
theorem range_ok : ∀ n : _root_.Fin 9, Builtin.Range.small 0 (n.1 : Int) 1 = true ∧ Builtin.Range.rangeSize 0 (n.1 : Int) 1 = (n.1 : Int) := by decide
theorem cellName {o : Obj} {d : Data} (_ : o.data = d) : ∃ o', o' = o := ⟨_, rfl⟩
theorem newsDup {h₀ h : Heap} {L : Addr} {r : List (Addr × Obj)} {q : Addr × Obj} (N : News h₀ L h r) (hq : q ∈ r) : News h₀ L h (q :: r) := fun p hp => by
  rcases List.mem_cons.mp hp with rfl | hp
  · exact N _ hq
  · exact N _ hp
theorem intsName {vs : List Value} {ns : List Int} (_ : IntsAre vs ns) : ∃ v, v = vs := ⟨_, rfl⟩
theorem ins_take {who : Nat} {o : List Nat} {k : Nat} (h : k < o.length + 1) : (insAll who o).take (k + 1) = (insAll who o).take k ++ [o.take k ++ [who] ++ o.drop k] := by
  rw [List.take_succ]
  congr 1
  unfold insAll
  rw [List.getElem?_map, List.getElem?_range h]
  rfl
theorem off1_mem {D : Addr} : ∀ {l : List (Addr × Obj)}, PyProof.Rows.LCg.Off1 D l → ∀ p ∈ l, p.1 ≠ D
  | [], _, _, h => nomatch h
  | _ :: _, x, p, h => by
    rcases List.mem_cons.mp h with rfl | h
    · exact x.1
    · exact off1_mem x.2 p h
local macro_rules | `(tactic| walk_at "exec Assign cons ListComp") => `(tactic| (k_here; k_dflt (refine unhalt ?_)))
local macro_rules | `(tactic| walk_at "exec For") => `(tactic| (k_here; k_dflt (refine For_X ?_ (by intro _; rfl))))
local macro_rules | `(tactic| walk_at "exec For Name Tuple cons nil") => `(tactic| (k_here; k_dflt (refine For_X ?_ (by intro _; rfl))))
local macro_rules | `(tactic| walk_at "subscriptTail Name Slice ref ref") => `(tactic| (k_here; k_dflt (refine unhalt ?_)))
theorem orders_spec (w : World) (mean : ExcName → Option Value) (mg mb : Str → Option Value) (news : List (Addr × Obj)) :
   OrClaim (Challenge.rw_re0025_01.row.prog) w (hd.heap_39 w.params) hd.view_39 Lo mean mg mb 82 news := by
  k_fill
  dsimp only [OrClaim]; intros; rename_i hret
  have cbI : CbIn 82 := CbIn.mk
  refine wpAny_call ?_
  k_dflt (refine' code_defC ?k1 ?k2 ?k3 ?k4 ?k5 ?kA ?kF ?kK ?k6 ?k7 ?k8 ?k9 ?kB ?kD ?_ ?c2 ?c3 ?c4; (case kA => exact rfl); (case kF => exact rfl); (case kK => assumption); (case k1 => k_asm); (case k2 => k_asm); (case k3 => k_asm); (case k4 => k_asm); (case k5 => k_asm); (case k6 => k_is); (case k7 => k_is); (case k8 => ktr_room); (case k9 => exact BindsTo.of_eq rfl); (case kB => exact rfl); (case kD => decide +kernel); (case c2 => exact rfl); (case c3 => exact rfl); (case c4 => exact rfl); k_whole; intro g' L' h' tk' cells' FG' F' N' Y' B' X' T' l1; (try k_lt l1); k_cells Y'; (try simp only [List.cons_append, List.nil_append] at N'); (try dsimp only); (try k_lift B'); (try k_fold))
  have kMk := kstMark
  k_steps
  rename Fr _ _ _ _ => lF
  rename News _ _ _ _ => lN
  obtain ⟨td, rfl⟩ := nwName lN
  rename (_ < td ∧ _ < td ∧ _ < td ∧ AllLt td news) => hl0
  rename (_ < _ ∧ _ + 1 < _ ∧ AllLt _ news) => hl1
  rename (_ + 1 < _ ∧ AllLt _ news) => hl2
  obtain ⟨g, L', l2, l1, oc0, tup, rfl, rfl, rfl, rfl, rfl, htup⟩ := nm4 lN
  obtain ⟨t2, rfl⟩ := nmT lN
  obtain ⟨tk0, rfl⟩ := nmU lN
  obtain ⟨m0, em, lF2⟩ := frName lF
  have e1 : m0 (Str.ofString "orders") = some (Value.ref l2) := by rw [em]; rfl
  clear em lF
  rename (∀ p ∈ news, p.1 < L') => hlow
  have hst := J6.start (td := td) (tup := ({ cls := .type "tuple", data := .seq [Value.int 2 t2, .int 3 (t2 + 1)].toArray 0 } : Obj)) (t := tk0) (u := tk0 + 1) (by assumption) e1 hlow hl2.1 hl1.1 hl0.1
  have lN5 := nwSub lN (l' := (L' + 1, oc0) :: (l2, listOf [Value.ref l1].toArray 0) :: (td, ({ cls := .type "tuple", data := .seq [Value.int 2 t2, .int 3 (t2 + 1)].toArray 0 } : Obj)) :: ([(l1, listOf [Value.int 0 tk0, Value.int 1 (tk0 + 1)].toArray 0)] ++ news)) (by
    intro p hp
    rcases List.mem_cons.mp hp with h | hp
    · rw [h]; exact .tail _ (.tail _ (.tail _ (.head _)))
    rcases List.mem_cons.mp hp with h | hp
    · rw [h]; exact .tail _ (.head _)
    rcases List.mem_cons.mp hp with h | hp
    · rw [h]; exact .head _
    rcases List.mem_cons.mp hp with h | hp
    · rw [h]; exact .tail _ (.tail _ (.head _))
    · exact .tail _ (.tail _ (.tail _ (.tail _ hp))))
  refine' iter_tupleX (vs := [.int 2 t2, .int 3 (t2 + 1)]) (nn := 0) (J6 (L' + 1) td ({ cls := .type "tuple", data := .seq [Value.int 2 t2, .int 3 (t2 + 1)].toArray 0 } : Obj) news m0) (by rfl) ?hl lF2 lN5 ?h0 ?turn ?done (by passes_own)
  case hl =>
    rintro i m led ⟨ol, vs, c, oc, cv, tl, own, _, rfl, _⟩
    exact .tail _ (.tail _ (.head _))
  case h0 => exact hst
  case turn =>
    rintro I i v m₁ news₁ h tk io hio hltI hvi ⟨ol, vs, c, oc, cv, tl, own, rfl, rfl, hoc, hls0, ⟨htl, hown⟩, hoff, n1, n2, n3, n4⟩ hne F₁ N₁
    have hls : ListsIn tl vs (ordersAt i) := Paired.mono (fun v o ⟨d, ws, c, e1, e2, e3⟩ => ⟨d, ws, c, e1, htl ▸ List.mem_append_left _ e2, e3⟩) hls0
    have hiv : i < 2 ∧ ∃ t, v = .int ((i + 2 : Nat) : Int) t := by
      match i, hvi with
      | 0, h => exact ⟨by decide, _, (Option.some.inj h).symm⟩
      | 1, h => exact ⟨by decide, _, (Option.some.inj h).symm⟩
      | j + 2, h => cases h
    obtain ⟨hi2, t, rfl⟩ := hiv
    clear hvi lF2 lN lN5 hst hltI
    dsimp only [List.cons_append] at N₁
    have x1 := neN (hne _ (.head _))
    have x2 := neN (hne _ (.tail _ (.head _)))
    have x3 := neN (hne _ (.tail _ (.tail _ (.head _))))
    replace n1 := neN n1
    replace n2 := neN n2
    replace n3 := neN n3
    dsimp only at x1 x2 x3
    replace hne := toNeAll hne
    k_steps
    rename Fr _ _ _ _ => F8
    rename News _ _ _ _ => N8
    rename (_ = Data.cell (some (Value.int _ _))) => hcell
    have hos : (ordersAt i).length ≤ 8 ∧ ∀ o ∈ ordersAt i, o.length ≤ 3 := by
      have : i = 0 ∨ i = 1 := by omega
      rcases this with rfl | rfl <;> exact ⟨by decide, by decide⟩
    have hvl : vs.length = (ordersAt i).length := Paired.length hls
    obtain ⟨oc2, rfl⟩ := cellName hcell
    obtain ⟨base, ebase, N8⟩ := nwAll N8
    refine halted ?_
    refine Assign_LC2 (its := vs.toArray) (ol := ol) (JL base (ordersAt i) (i + 2)) (cntO (ordersAt i)) rfl (by with_unfolding_all rfl) (by with_unfolding_all rfl) (by decide) (by rfl) (by decide) (by rfl) (by rfl) (by decide) (by rfl) (by rfl)
      (fun Q' hQ' => ?iter) (by rfl) F8 N8 ⟨[], rfl, Paired.nil, (fun p hp => by cases hp), by simp, by omega, by omega⟩ (fun i ys nw hi h => JL.next h (by simpa [← hvl] using hi) hos.1) ?src (fun i k ys nw ⟨_, _, _, _, h1, h2, h3⟩ => by rw [sizeLine_eq]; omega) ?turnI ?turnE ?fin
    case iter =>
      clear N8
      k_steps
      exact hQ'
    case src =>
      rintro i₂ k ys nw ⟨add, rfl, _⟩
      refine .inr ⟨listOf vs.toArray c, List.mem_append_right _ ?_, rfl, _, rfl⟩
      rw [ebase]
      exact .tail _ (.head _)
    case turnI =>
      intro i₂ v ys news h tk I₂ oI C oC D mC E' hv hJ hC hCx F2 N2 off ne3
      obtain ⟨o, ho, d, ws, cw, rfl, hd, hws⟩ := paired_at hls (show vs[i₂]? = some v by simpa using hv)
      have hdn : (d, listOf ws.toArray cw) ∈ news := by
        obtain ⟨add, rfl, _⟩ := hJ
        refine List.mem_append_right _ ?_
        rw [ebase]
        exact .tail _ (.tail _ (.tail _ (List.mem_append_left _ hd)))
      clear N8 F8 N₁ F₁
      have hwl : ws.length = o.length := by rw [IntsAre.length hws, List.length_map]
      have ho3 : o.length ≤ 3 := hos.2 o (List.mem_of_getElem? ho)
      have hcnt : cntO (ordersAt i) i₂ = ws.length + 1 := by
        unfold cntO
        rw [List.getD_eq_getElem?_getD, ho, hwl]; rfl
      k_steps
      refine PyProof.Rows.len_list (items := ws.toArray) (News.isList N2 (.tail _ (.tail _ (.tail _ hdn)))) (by rw [List.size_toArray]; omega) ?_
      dsimp only
      rw [List.size_toArray]
      k_steps
      rename IsRange _ _ _ _ _ _ _ _ => rg
      rename Fr _ _ _ _ => F9
      rename News _ _ _ _ => N9
      have e : ((cntO (ordersAt i) i₂ : Nat) : Int) = ((List.map Int.ofNat o).length : Int) + 1 := by rw [hcnt, hwl, List.length_map]; rfl
      obtain ⟨q1, q2⟩ := range_ok ⟨cntO (ordersAt i) i₂, by omega⟩
      exact ⟨_, _, _, _, _, _, rfl, rfl, F9, N9, by rw [e]; exact rg, q1, q2⟩
    case turnE =>
      intro i₂ k v t ys news h tk I₂ oI I1 oI1 C oC D mC E' hv hk hJ hC hCx hCy F2 N2 off1 off2 ne3
      obtain ⟨o, ho, d, ws, cw, rfl, hd, hws⟩ := paired_at hls (show vs[i₂]? = some v by simpa using hv)
      obtain ⟨add, rfl, hadd, hoffa, hb1, hb2, hb3⟩ := hJ
      have hdn : (d, listOf ws.toArray cw) ∈ add ++ base := by
        refine List.mem_append_right _ ?_
        rw [ebase]
        exact .tail _ (.tail _ (.tail _ (List.mem_append_left _ hd)))
      have hcn : (L' + 1, oc2) ∈ add ++ base := by
        refine List.mem_append_right _ ?_
        rw [ebase]
        exact .head _
      clear N8 F8 N₁ F₁
      have hwl : ws.length = o.length := by rw [IntsAre.length hws, List.length_map]
      have ho3 : o.length ≤ 3 := hos.2 o (List.mem_of_getElem? ho)
      have hgo : (ordersAt i).getD i₂ [] = o := by rw [List.getD_eq_getElem?_getD, ho]; rfl
      have hk' : k < ((ordersAt i).getD i₂ []).length + 1 := hk
      have hk4 : k < o.length + 1 := by rw [hgo] at hk'; exact hk'
      have N3 := newsDup (newsDup N2 (q := (L' + 1, oc2)) (.tail _ (.tail _ (.tail _ (.tail _ hcn))))) (q := (d, listOf ws.toArray cw)) (.tail _ (.tail _ (.tail _ (.tail _ (.tail _ hdn)))))
      clear N2 hls hd hoff hdn hcn hv hoc
      k_steps
      refine halted ?_
      refine kmk_slice_ints (ms := (o.map Int.ofNat).take k) (c := min k o.length) F2 N3 (News.isList N3 (.head _)) .none (.int _ _) hws ?_ (by rw [List.length_take, List.length_map]) ?_ (by with_unfolding_all rfl) (by intro _; with_unfolding_all rfl) (by rw [sizeLine_eq, List.size_toArray]; omega)
      · exact kmk_upto hws (by omega)
      intro D1 ws1 h1 F1 N1 l1 hi1 hc1 hle1
      dsimp only
      k_steps
      rename Fr _ _ _ _ => F4
      rename News _ _ _ _ => N4
      refine halted ?_
      refine kmk_slice_ints (ms := (o.map Int.ofNat).drop k) (c := o.length - k) F4 N4 (News.isList N4 (.tail _ (.tail _ (.tail _ (.head _))))) (.int _ _) .none hws ?_ (by rw [List.length_drop, List.length_map]) ?_ (by with_unfolding_all rfl) (by intro _; with_unfolding_all rfl) (by rw [sizeLine_eq, List.size_toArray]; omega)
      · exact kmk_from hws (by omega)
      intro D2 ws2 h2 F5 N5 l2 hi2' hc2 hle2
      dsimp only
      k_steps
      rename Fr _ _ _ _ => F6
      rename News _ _ _ _ => N6
      rename (IntsAre _ (_ ++ _ ++ _)) => hfin
      rename (_ < _ ∧ _ < _ ∧ _ < _ ∧ _ < _ ∧ _ < _ ∧ _ < _ ∧ _ < _ ∧ _ < _ ∧ _ < _ ∧ _ < _ ∧ AllLt _ (add ++ base)) => hlt
      obtain ⟨_, _, _, _, _, _, g1, g2, g3, g4, g5⟩ := hlt
      have g6 := kst_ltOf g5
      obtain ⟨Dn, rfl⟩ := nwName N6
      obtain ⟨wn, hwn⟩ := intsName hfin
      subst hwn
      refine ⟨_, _, (Dn, listOf wn.toArray 0) :: (add ++ base), rfl, F6, fun p hp => N6 p ?_, ⟨off1.1, ⟨Ne.symm (Nat.ne_of_lt g1), Ne.symm (Nat.ne_of_lt g2), Ne.symm (Nat.ne_of_lt g3)⟩, off1.2⟩, ⟨⟨Ne.symm (Nat.ne_of_lt g4), Ne.symm (Nat.ne_of_lt g2), Ne.symm (Nat.ne_of_lt g3)⟩, off2⟩,
        ⟨(Dn, listOf wn.toArray 0) :: add, rfl, ?_, ?_, by rw [List.length_append]; simp only [List.length_singleton]; omega, hb2, ?_⟩⟩
      · rcases List.mem_cons.mp hp with rfl | hp
        · exact .tail _ (.tail _ (.tail _ (.tail _ (.tail _ (.tail _ (.tail _ (.head _)))))))
        rcases List.mem_cons.mp hp with rfl | hp
        · exact .tail _ (.tail _ (.tail _ (.tail _ (.tail _ (.tail _ (.tail _ (.tail _ (.head _))))))))
        rcases List.mem_cons.mp hp with rfl | hp
        · exact .tail _ (.tail _ (.tail _ (.tail _ (.tail _ (.tail _ (.tail _ (.tail _ (.tail _ (.head _)))))))))
        rcases List.mem_cons.mp hp with rfl | hp
        · exact .tail _ (.tail _ (.tail _ (.tail _ (.tail _ (.tail _ (.tail _ (.tail _ (.tail _ (.tail _ (.head _))))))))))
        rcases List.mem_cons.mp hp with rfl | hp
        · exact .head _
        · exact .tail _ (.tail _ (.tail _ (.tail _ (.tail _ (.tail _ (.tail _ (.tail _ (.tail _ (.tail _ (.tail _ hp))))))))))
      · rw [ins_take hk' , ← List.append_assoc]
        refine Paired.snoc (Paired.mono (fun v o ⟨d, ws, c, e1, e2, e3⟩ => ⟨d, ws, c, e1, .tail _ e2, e3⟩) hadd) ⟨Dn, wn, 0, rfl, .head _, ?_⟩
        rw [hgo, List.map_append, List.map_append, List.map_take, List.map_drop]
        exact hfin
      · intro p hp b hb
        rcases List.mem_cons.mp hp with rfl | hp
        · obtain ⟨q, hq, rfl⟩ := List.mem_map.mp hb
          exact Ne.symm (Nat.ne_of_lt (g6 q (List.mem_append_right _ hq)))
        · exact hoffa p hp b hb
      · omega
    case fin =>
      intro D h tk ys nw hJ F9 N9 o9
      clear N8 F8 N₁ F₁
      obtain ⟨add, rfl, hadd, hoffa, _, _, _⟩ := hJ
      subst ebase
      have hD := off1_mem o9
      have hsub : ∀ p ∈ news, p ∈ tl := fun p hp => htl ▸ List.mem_append_right _ hp
      have hm : (fun q => if q = Str.ofString "orders" then some (Value.ref D) else kstB m0 [(Str.ofString "orders", Value.ref ol)] q) = kstB m0 [(Str.ofString "orders", .ref D)] := by
        funext z
        by_cases hz : z = Str.ofString "orders" <;> simp [kstB, hz]
      rw [hm] at F9
      have b1 : ∀ p ∈ add, p.1 ≠ L' + 1 := fun p hp => hoffa p hp _ (by simp)
      have b2 : ∀ p ∈ add, p.1 ≠ td := fun p hp => hoffa p hp _ (by simp)
      have b3 : ∀ p ∈ add, p.1 ≠ I := fun p hp => hoffa p hp _ (by simp)
      have d1 : L' + 1 ≠ D := hD (L' + 1, oc2) (by simp)
      have d2 : td ≠ D := hD (td, _) (List.mem_append_right _ (.tail _ (.tail _ (.head _))))
      have d3 : I ≠ D := hD (I, io) (by simp)
      have d4 : ol ≠ D := hD (ol, listOf vs.toArray c) (List.mem_append_right _ (.tail _ (.head _)))
      have d5 : ∀ p ∈ tl, p.1 ≠ D := fun p hp => hD p (List.mem_append_right _ (.tail _ (.tail _ (.tail _ (List.mem_append_left _ hp)))))
      have d6 : ∀ p ∈ add, p.1 ≠ D := fun p hp => hD p (List.mem_append_left _ hp)
      refine wpAny_execs_nil ?_
      refine StepX.go (news' := (L' + 1, oc2) :: (D, listOf ys.toArray ys.length) :: (td, _) :: (add ++ (ol, listOf vs.toArray c) :: tl)) F9 N9 ?_ ?_
        ⟨D, ys, ys.length, oc2, _, add ++ (ol, listOf vs.toArray c) :: tl, add ++ (ol, listOf vs.toArray c) :: own, rfl, rfl, hcell, ?_, ⟨by rw [htl]; simp, ?_⟩, ?_, d1, n2, Ne.symm d2, fun p hp => d5 p (hsub p hp)⟩
      · intro p hp
        simp only [List.cons_append, List.append_assoc, List.mem_cons, List.mem_append, List.not_mem_nil, or_false] at hp ⊢
        rcases hp with h | h | h | h | h | h | h <;> simp [h]
      · intro p hp
        simp only [List.mem_cons, List.mem_append] at hp
        rcases hp with h | h | h | h | h | h
        · subst h; exact x1
        · subst h; exact Ne.symm d3
        · subst h; exact x3
        · exact b3 p h
        · subst h; exact x2
        · exact hne p (.tail _ (.tail _ (.tail _ h)))
      · have e : (ordersAt i).take vs.toArray.size = ordersAt i := List.take_of_length_le (by rw [List.size_toArray]; omega)
        rw [e, List.take_zero, List.append_nil] at hadd
        exact Paired.mono (fun v o ⟨d, ws, c, e1, e2, e3⟩ => ⟨d, ws, c, e1, List.mem_append_left _ e2, e3⟩) hadd
      · intro p hp b hb
        obtain ⟨q, hq, rfl⟩ := List.mem_map.mp hb
        rcases List.mem_append.mp hp with hp | hp
        · exact hoffa p hp _ (List.mem_map.mpr ⟨q, .tail _ (.tail _ (.tail _ (List.mem_append_left _ (hsub q hq)))), rfl⟩)
        · rcases List.mem_cons.mp hp with rfl | hp
          · exact Ne.symm (n4 q hq)
          · exact hown p hp _ hb
      · intro p hp b hb
        simp only [List.mem_cons, List.not_mem_nil, or_false] at hb
        rcases List.mem_append.mp hp with hp | hp
        · rcases hb with rfl | rfl | rfl
          · exact b1 p hp
          · exact d6 p hp
          · exact b2 p hp
        · rcases List.mem_cons.mp hp with rfl | hp
          · rcases hb with rfl | rfl | rfl
            · exact Ne.symm n1
            · exact d4
            · exact n3
          · rcases hb with rfl | rfl | rfl
            · exact hoff p hp _ (by simp)
            · exact d5 p hp
            · exact hoff p hp _ (by simp)
  case done =>
    rintro m₁ news₁ h tk ⟨ol, vs, c, oc, cv, tl, own, rfl, rfl, hoc, hls, ⟨htl, hown⟩, hoff, n1, n2, n3, n4⟩ F₁ N₁
    clear lF2 lN lN5 hst
    refine wpAny_execs_nil ?_
    k_steps
    rename Fr _ _ _ _ => F9
    rename News _ _ _ _ => N9
    subst htl
    refine hret ol vs c own _ _ n4 (fun q hq => hoff q (List.mem_append_left _ hq) ol (.tail _ (.head _))) hown F9 (fun p hp => N9 p ?_) (orders_two ▸ hls)
    rcases List.mem_cons.mp hp with rfl | hp
    · exact .tail _ (.head _)
    · exact .tail _ (.tail _ (.tail _ hp))
theorem orders_law {w : World} {mean : ExcName → Option Value} {mg mb : Str → Option Value} {g : Heap} {L fa : Addr} {cd : Value} {s : Shared} {m : Str → Option Value} {news : List (Addr × Obj)} {Q E : Value → Shared → Prop}
    (B : Below callerA g [] g) (F : Fr g L s.heap m) (X : (hd.heap_39 w.params).In g) (N : News g L s.heap news) (T : Top hd.view_39 Lo mean mg mb g)
    (hret : ∀ (D : Addr) (vs : List Value) (c : Nat) (own : List (Addr × Obj)) (h' : Heap) (tk' : Nat), (∀ q ∈ news, q.1 ≠ D) → (∀ q ∈ own, q.1 ≠ D) → OwnOff own (news.map (·.1)) → Fr g L h' m → News g L h' ((D, listOf vs.toArray c) :: (own ++ news)) → ListsIn own vs orders12 → Q (.ref D) { s with heap := h', toks := tk' }) :
    wpAny (model Challenge.rw_re0025_01.row.prog w) (callerA.deeper (lawEnv L fa cd)) (call (.ref 82) []) Q E s :=
  orders_spec w mean mg mb news _ _ _ _ _ _ _ _ _ _ _ _ _ _ _ _ _ B F X N T rfl (by decide) (by decide +kernel) hret
end Mine
end
section
open PySem PySem.W PyProof.Rows PySem.Calls PySem.Spec PyProof.V
namespace Mine
def upK (o : List Nat) (ks : List Nat) : List Nat := ks.filter (ahead o)
def dnK (o : List Nat) (ks : List Nat) : List Nat := ks.filter fun k => !ahead o k
def labs (nums : List Int) (ks : List Nat) : List Str := ks.map fun k => labelF (stN nums + k)
def addT (acc : List Str) (t : Str) : List Str := if acc.any (· == t) then acc else acc ++ [t]
def pairT (nums : List Int) (o : List Nat) : Nat → Str
  | 0 => prettyF (wholeOf nums (upK o (idxsOf nums)))
  | _ => prettyF (wholeOf nums (dnK o (idxsOf nums)))
def textsO (nums : List Int) (acc : List Str) (o : List Nat) : List Str := addT (addT acc (pairT nums o 0)) (pairT nums o 1)
def textsAt (nums : List Int) (i : Nat) : List Str := (orders12.take i).foldl (textsO nums) []
def pageF (nums : List Int) (o : List Nat) : Str := Txt.join (Str.ofString "") (o.map (rowF nums))
theorem addT_len (acc : List Str) (t : Str) : (addT acc t).length ≤ acc.length + 1 := by
  unfold addT
  split
  · omega
  · simp
theorem textsO_len (nums : List Int) (acc : List Str) (o : List Nat) : (textsO nums acc o).length ≤ acc.length + 2 := by
  unfold textsO
  have h1 := addT_len (addT acc (pairT nums o 0)) (pairT nums o 1)
  have h2 := addT_len acc (pairT nums o 0)
  omega
theorem foldl_len (nums : List Int) : ∀ (os : List (List Nat)) (acc : List Str), (os.foldl (textsO nums) acc).length ≤ acc.length + 2 * os.length
  | [], acc => by simp
  | o :: os, acc => by
    have h1 := foldl_len nums os (textsO nums acc o)
    have h2 := textsO_len nums acc o
    simp only [List.foldl_cons, List.length_cons]
    omega
theorem orders12_len : orders12.length = 12 := by decide +kernel
theorem textsAt_len (nums : List Int) (i : Nat) : (textsAt nums i).length ≤ 24 := by
  have h := foldl_len nums (orders12.take i) []
  have : (orders12.take i).length ≤ 12 := by rw [List.length_take, orders12_len]; omega
  unfold textsAt
  simp only [List.length_nil] at h
  omega
theorem textsAt_succ {nums : List Int} {i : Nat} {o : List Nat} (h : orders12[i]? = some o) : textsAt nums (i + 1) = textsO nums (textsAt nums i) o := by
  unfold textsAt
  rw [List.take_add_one, h, List.foldl_append]
  rfl
def onB (nums : List Int) (k : Nat) : Bool := decide (((nums.getD k 0).fdiv 2).fmod 2 = 1)
def cB (nums : List Int) : Nat := (onB nums 0).toNat + 2 * (onB nums 1).toNat + 4 * (onB nums 2).toNat + 8 * (onB nums 3).toNat
theorem cB_bits : ∀ b0 b1 b2 b3 : Bool, b0.toNat + 2 * b1.toNat + 4 * b2.toNat + 8 * b3.toNat < 16 ∧ bitsF (b0.toNat + 2 * b1.toNat + 4 * b2.toNat + 8 * b3.toNat) 0 = b0 ∧ bitsF (b0.toNat + 2 * b1.toNat + 4 * b2.toNat + 8 * b3.toNat) 1 = b1 ∧
    bitsF (b0.toNat + 2 * b1.toNat + 4 * b2.toNat + 8 * b3.toNat) 2 = b2 ∧ bitsF (b0.toNat + 2 * b1.toNat + 4 * b2.toNat + 8 * b3.toNat) 3 = b3 := by decide
theorem cB_lt (nums : List Int) : cB nums < 16 := (cB_bits _ _ _ _).1
theorem cB_at {nums : List Int} {k : Nat} (hk : k < 4) : bitsF (cB nums) k = onB nums k := by
  obtain ⟨_, h0, h1, h2, h3⟩ := cB_bits (onB nums 0) (onB nums 1) (onB nums 2) (onB nums 3)
  match k, hk with
  | 0, _ => exact h0
  | 1, _ => exact h1
  | 2, _ => exact h2
  | 3, _ => exact h3
theorem mark_mkB {nums : List Int} {k : Nat} (hk : k < 4) : markF nums k = mkB (bitsF (cB nums) k) k := by
  rw [cB_at hk]
  unfold markF mkB onB
  by_cases h : ((nums.getD k 0).fdiv 2).fmod 2 = 1 <;> simp
theorem order_mem : ∀ o ∈ orders12, o.length = 4 ∧ (∀ k ∈ o, k < 4) ∧ (∀ k : _root_.Fin 4, k.1 ∈ o) := by decide +kernel
theorem page_eq {nums : List Int} {o : List Nat} (ho : ∀ k ∈ o, k < 4) : pageF nums o = pageB (cB nums) o := by
  unfold pageF pageB
  congr 1
  apply List.map_congr_left
  intro k hk
  rw [rowF, mark_mkB (ho k hk)]
theorem pAB : ∀ k : _root_.Fin 6, pA k.1 < 4 ∧ pB k.1 < 4 ∧ (pairsZ.getD k.1 (0, 0)).1 = (pA k.1 : Int) ∧ (pairsZ.getD k.1 (0, 0)).2 = (pB k.1 : Int) := by decide
theorem ell_at {nums : List Int} {o : List Nat} {k : Nat} (ho : o ∈ orders12) (hk : k < 6) : ell (markF nums (pA k)) (markF nums (pB k)) (pageF nums o) = ahead o k := by
  obtain ⟨a4, b4, _, _⟩ := pAB ⟨k, hk⟩
  rw [mark_mkB a4, mark_mkB b4, page_eq (order_mem o ho).2.1]
  exact ell_fact ho (cB_lt nums) hk
theorem pat_at {nums : List Int} {k : Nat} (hk : k < 6) : patF nums (pA k) (pB k) = patB (cB nums) k := by
  obtain ⟨a4, b4, _, _⟩ := pAB ⟨k, hk⟩
  unfold patF patB
  rw [mark_mkB a4, mark_mkB b4]
theorem split_at {nums : List Int} {k : Nat} (hk : k < 6) : Txt.split (patF nums (pA k) (pB k)) (Str.ofString "...") = [Str.ofString "", markF nums (pA k), markF nums (pB k), Str.ofString ""] ∧
    (Builtin.Str.occurrences (patF nums (pA k) (pB k)) (Str.ofString "...") 0 (patF nums (pA k) (pB k)).length 1).isEmpty = false := by
  obtain ⟨a4, b4, _, _⟩ := pAB ⟨k, hk⟩
  rw [pat_at hk, mark_mkB a4, mark_mkB b4]
  exact split_facts ⟨cB nums, cB_lt nums⟩ ⟨k, hk⟩
theorem len_app (x y : Str) : (x ++ y).length = x.length + y.length := by
  show (x.cps ++ y.cps).size = _
  rw [Array.size_append]; rfl
theorem pat_len (nums : List Int) (a b : Nat) : (patF nums a b).length ≤ 100 := by
  unfold patF
  have h1 := mark_len nums a
  have h2 := mark_len nums b
  simp only [len_app]
  have h3 : (Str.ofString "...").length = 3 := by decide
  omega
theorem page_lens : ∀ c : _root_.Fin 16, ∀ o ∈ orders12, (pageB c.1 o).length ≤ 100 := by decide +kernel
theorem page_len {nums : List Int} {o : List Nat} (ho : o ∈ orders12) : (pageF nums o).length ≤ 100 := by
  rw [page_eq (order_mem o ho).2.1]
  exact page_lens ⟨cB nums, cB_lt nums⟩ o ho
theorem rows_weight (nums : List Int) : ∀ o : List Nat, ((o.map (rowF nums)).map (·.length)).sum + (o.map (rowF nums)).length ≤ 7 * o.length
  | [] => by simp
  | k :: o => by
    have h := rows_weight nums o
    have h2 : (rowF nums k).length ≤ 6 := by
      unfold rowF
      rw [len_app]
      have h1 := mark_len nums k
      have h3 : (Str.ofString "\x0d\n").length = 2 := by decide
      omega
    simp only [List.map_cons, List.sum_cons, List.length_cons]
    omega
theorem ask_eq {nums : List Int} {k : Nat} (hk : k < 6) : askT nums k = .tuple [.int (pA k : Int), .int (pB k : Int), .int ((2 ^ (stN nums + k) : Nat) : Int), .str (labelF (stN nums + k)), .str (patF nums (pA k) (pB k))] := by
  obtain ⟨_, _, e1, e2⟩ := pAB ⟨k, hk⟩
  dsimp only at e1 e2
  unfold askT
  rw [e1, e2]
  rfl
theorem idxOf_map (x : Nat) : ∀ o : List Nat, (o.map Int.ofNat).idxOf (x : Int) = o.idxOf x
  | [] => rfl
  | y :: o => by
    rw [List.map_cons, List.idxOf_cons, List.idxOf_cons, idxOf_map x o]
    have : (Int.ofNat y == (x : Int)) = (y == x) := by
      rw [Bool.eq_iff_iff, beq_iff_eq, beq_iff_eq]
      exact ⟨fun h => Int.ofNat.inj h, fun h => congrArg Int.ofNat h⟩
    rw [this]
theorem order_lay : ∀ o ∈ orders12, PyData.layable0 (.list ((o.map Int.ofNat).map .int)) = true := by decide +kernel
theorem ask_inv {tl : List (Addr × Obj)} {v : Value} {a b c : Int} {x y : Str} (h : DatIn tl v (.tuple [.int a, .int b, .int c, .str x, .str y])) :
    ∃ d n ta tb tc tx ty, v = .ref d ∧ (d, ({ cls := .type "tuple", data := .seq #[.int a ta, .int b tb, .int c tc, .str x tx, .str y ty] n } : Obj)) ∈ tl := by
  cases h with
  | tuple hm hr =>
    cases hr with
    | cons h1 hr =>
      cases hr with
      | cons h2 hr =>
        cases hr with
        | cons h3 hr =>
          cases hr with
          | cons h4 hr =>
            cases hr with
            | cons h5 hr =>
              cases hr
              cases h1
              cases h2
              cases h3
              cases h4
              cases h5
              exact ⟨_, _, _, _, _, _, _, rfl, hm⟩
section
variable {w : World} {mean : ExcName → Option Value} {mg mb : Str → Option Value} {g : Heap} {L fa : Addr} {cd : Value} {s : Shared} {m : Str → Option Value} {news : List (Addr × Obj)} {Q E : Value → Shared → Prop}
theorem ell_call {nums : List Int} {o : List Nat} {k : Nat} {t u : Tok} (ho : o ∈ orders12) (hk : k < 6) (B : Below callerA g [] g) (F : Fr g L s.heap m) (X : (hd.heap_39 w.params).In g) (N : News g L s.heap news) (T : Top hd.view_39 Lo mean mg mb g)
    (hret : ∀ h' tk', Fr g L h' m → News g L h' news → Q (.bool (decide (((o.idxOf (pA k) : Nat) : Int) < ((o.idxOf (pB k) : Nat) : Int)))) { s with heap := h', toks := tk' }) :
    wpAny (model Challenge.rw_re0025_01.row.prog w) (callerA.deeper (lawEnv L fa cd)) (call (.ref 46) [.str (patF nums (pA k) (pB k)) t, .str (pageF nums o) u]) Q E s := by
  obtain ⟨h1, h2⟩ := split_at (nums := nums) hk
  have e := ell_at (nums := nums) ho hk
  have l1 := pat_len nums (pA k) (pB k)
  have l2 := page_len (nums := nums) ho
  refine ell_law h1 h2 (by omega) (by omega) ?_ ?_ B F X N T ?_
  · rcases mark_len nums (pA k) with h | h <;> omega
  · rcases mark_len nums (pB k) with h | h <;> omega
  · intro h' tk' F' N'
    rw [e]
    have := hret h' tk' F' N'
    have e2 : ahead o k = decide (((o.idxOf (pA k) : Nat) : Int) < ((o.idxOf (pB k) : Nat) : Int)) := by
      unfold ahead
      simp
    rw [e2]
    exact this
theorem ord_index {prog : Program} {A : Around} {d : Addr} {ws : List Value} {o : List Nat} {x : Nat} {t : Tok} (hl : s.heap.IsList d ws.toArray) (hws : IntsAre ws (o.map Int.ofNat)) (ho : o ∈ orders12) (hx : x < 4)
    (h : Q (.int ((o.idxOf x : Nat) : Int) s.toks) { s with toks := s.toks + 1 }) : wpAny (model prog w) A (call (.builtin "list.index") [.ref d, .int (x : Int) t]) Q E s := by
  refine index_list_ints hl hws (order_lay o ho) ?_ ?_
  · exact List.mem_map.mpr ⟨x, (order_mem o ho).2.2 ⟨x, hx⟩, rfl⟩
  · rw [idxOf_map]; exact h
end
end Mine
end
section
open PySem PySem.W PyProof.Rows PySem.Calls PySem.Spec PyProof.V
namespace Mine
/-! plain facts: which places, their words, how many unlike texts -/
def selC (c : Nat) : List Nat := (List.range 6).filter fun k => c.testBit k
theorem code6 : ∀ b0 b1 b2 b3 b4 b5 : Bool, let c := b0.toNat + 2 * b1.toNat + 4 * b2.toNat + 8 * b3.toNat + 16 * b4.toNat + 32 * b5.toNat
    c < 64 ∧ c.testBit 0 = b0 ∧ c.testBit 1 = b1 ∧ c.testBit 2 = b2 ∧ c.testBit 3 = b3 ∧ c.testBit 4 = b4 ∧ c.testBit 5 = b5 := by decide +kernel
theorem sel_code (p : Nat → Bool) : ∃ c, c < 64 ∧ (List.range 6).filter p = selC c := by
  obtain ⟨h, h0, h1, h2, h3, h4, h5⟩ := code6 (p 0) (p 1) (p 2) (p 3) (p 4) (p 5)
  refine ⟨_, h, ?_⟩
  unfold selC
  apply List.filter_congr
  intro k hk
  have hk := List.mem_range.mp hk
  match k, hk with
  | 0, _ => exact h0.symm
  | 1, _ => exact h1.symm
  | 2, _ => exact h2.symm
  | 3, _ => exact h3.symm
  | 4, _ => exact h4.symm
  | 5, _ => exact h5.symm
def whS (s : Nat) (ks : List Nat) : Nat := (ks.map fun k => 2 ^ (s + k)).sum
def dueT (s : Nat) (ks : List Nat) : Str := Txt.join (Str.ofString ", ") (if ks = [] then [Str.ofString "0x0"] else ks.map fun k => labelF (s + k))
theorem names_filter (n : Nat) : ∀ j, namesF n j = ((List.range j).filter fun i => n.testBit i).map labelF
  | 0 => rfl
  | j + 1 => by
    unfold namesF
    rw [names_filter n j, List.range_succ, List.filter_append, List.map_append]
    congr 1
    cases h : n.testBit j <;> simp [h]
theorem due_bits : ∀ s : _root_.Fin 10, ∀ c : _root_.Fin 64, (List.range 15).filter (fun i => (whS s.1 (selC c.1)).testBit i) = (selC c.1).map (fun k => s.1 + k) ∧ (decide (whS s.1 (selC c.1) = 0) = decide (selC c.1 = [])) := by decide +kernel
theorem due_at {s c : Nat} (hs : s < 10) (hc : c < 64) : prettyF (whS s (selC c)) = dueT s (selC c) := by
  obtain ⟨h1, h2⟩ := due_bits ⟨s, hs⟩ ⟨c, hc⟩
  dsimp only at h1 h2
  have h3 : whS s (selC c) = 0 ↔ selC c = [] := by rw [decide_eq_decide] at h2; exact h2
  unfold prettyF dueT
  by_cases h : selC c = []
  · rw [if_pos (h3.mpr h), if_pos h]; rfl
  · rw [if_neg (fun q => h (h3.mp q)), if_neg h, names_filter, h1, List.map_map]; rfl
theorem wh_lt : ∀ s : _root_.Fin 10, ∀ c : _root_.Fin 64, whS s.1 (selC c.1) < 32768 := by decide +kernel
/-! the words' signs as plain lists, and a number for each text -/
def labC (i : Nat) : List Nat := [[79, 80, 84, 73, 77, 73, 90, 69, 68], [78, 69, 87, 76, 79, 67, 65, 76, 83], [86, 65, 82, 65, 82, 71, 83], [86, 65, 82, 75, 69, 89, 87, 79, 82, 68, 83], [78, 69, 83, 84, 69, 68],
  [71, 69, 78, 69, 82, 65, 84, 79, 82], [78, 79, 70, 82, 69, 69], [67, 79, 82, 79, 85, 84, 73, 78, 69], [73, 84, 69, 82, 65, 66, 76, 69, 95, 67, 79, 82, 79, 85, 84, 73, 78, 69], [65, 83, 89, 78, 67, 95, 71, 69, 78, 69, 82, 65, 84, 79, 82],
  [48, 120, 52, 48, 48], [48, 120, 56, 48, 48], [48, 120, 49, 48, 48, 48], [48, 120, 50, 48, 48, 48], [48, 120, 52, 48, 48, 48]].getD i []
theorem lab_codes : ∀ i : _root_.Fin 15, (labelF i.1).cps.toList = labC i.1 := by decide +kernel
def joinL : List (List Nat) → List Nat
  | [] => []
  | [x] => x
  | x :: y :: r => x ++ [44, 32] ++ joinL (y :: r)
theorem join_codes : ∀ ts : List Str, (Str.join (Str.ofString ", ") ts).cps.toList = joinL (ts.map (·.cps.toList))
  | [] => rfl
  | [x] => rfl
  | x :: y :: r => by
    rw [join_cons_cons, List.map_cons, List.map_cons, joinL]
    have h := join_codes (y :: r)
    rw [List.map_cons] at h
    rw [← h]
    show (x.cps ++ (Str.ofString ", ").cps ++ _).toList = _
    rw [Array.toList_append, Array.toList_append]
    rfl
def textL (s : Nat) (ks : List Nat) : List Nat := if ks = [] then [48, 120, 48] else joinL (ks.map fun k => labC (s + k))
def hashL (l : List Nat) : Nat := l.foldl (fun a c => a * 257 + c) 1
def hashS (x : Str) : Nat := hashL x.cps.toList
theorem sel_lt {c k : Nat} (h : k ∈ selC c) : k < 6 := List.mem_range.mp (List.mem_filter.mp h).1
theorem due_codes {s c : Nat} (hs : s < 10) : (dueT s (selC c)).cps.toList = textL s (selC c) := by
  unfold dueT textL
  rw [show Txt.join (Str.ofString ", ") _ = Str.join (Str.ofString ", ") _ from eq_of_beq (join_plain_closes _ _), join_codes]
  by_cases h : selC c = []
  · rw [if_pos h, if_pos h]; rfl
  · rw [if_neg h, if_neg h, List.map_map]
    congr 1
    apply List.map_congr_left
    intro k hk
    have := sel_lt hk
    exact lab_codes ⟨s + k, by omega⟩
def nodupB : List Nat → Bool
  | [] => true
  | a :: l => l.all (fun b => !(a == b)) && nodupB l
theorem nodupB_inj {f : Nat → Nat} : ∀ (l : List Nat), nodupB (l.map f) = true → ∀ a ∈ l, ∀ b ∈ l, f a = f b → a = b
  | [], _, _, h, _, _, _ => nomatch h
  | x :: l, h, a, ha, b, hb, e => by
    simp only [List.map_cons, nodupB, Bool.and_eq_true, List.all_eq_true, List.mem_map, forall_exists_index, and_imp, forall_apply_eq_imp_iff₂, Bool.not_eq_true', beq_eq_false_iff_ne] at h
    rcases List.mem_cons.mp ha with ha1 | ha1
    · rcases List.mem_cons.mp hb with hb1 | hb1
      · rw [ha1, hb1]
      · exact absurd (ha1 ▸ e) (h.1 b hb1)
    · rcases List.mem_cons.mp hb with hb1 | hb1
      · exact absurd (hb1 ▸ e).symm (h.1 a ha1)
      · exact nodupB_inj l h.2 a ha1 b hb1 e
theorem hash_nodup : ∀ s : _root_.Fin 10, nodupB ((List.range 64).map fun c => hashL (textL s.1 (selC c))) = true := by decide +kernel
theorem pretty_inj {s c d : Nat} (hs : s < 10) (hc : c < 64) (hd : d < 64) (h : prettyF (whS s (selC c)) = prettyF (whS s (selC d))) : c = d := by
  rw [due_at hs hc, due_at hs hd] at h
  have q := congrArg hashS h
  unfold hashS at q
  rw [due_codes hs, due_codes hs] at q
  exact nodupB_inj (List.range 64) (hash_nodup ⟨s, hs⟩) c (List.mem_range.mpr hc) d (List.mem_range.mpr hd) q
def addG {α : Type} [BEq α] (acc : List α) (t : α) : List α := if acc.any (· == t) then acc else acc ++ [t]
theorem addG_map {α β : Type} [BEq α] [LawfulBEq α] [BEq β] [LawfulBEq β] {P : α → Prop} {g : α → β} (hg : ∀ a b, P a → P b → g a = g b → a = b) {acc : List α} {t : α} (ha : ∀ a ∈ acc, P a) (ht : P t) : addG (acc.map g) (g t) = (addG acc t).map g := by
  unfold addG
  have e : (acc.map g).any (· == g t) = acc.any (· == t) := by
    rw [Bool.eq_iff_iff, List.any_eq_true, List.any_eq_true]
    constructor
    · rintro ⟨b, hb, e⟩
      obtain ⟨a, ha', rfl⟩ := List.mem_map.mp hb
      exact ⟨a, ha', beq_iff_eq.mpr (hg a t (ha a ha') ht (beq_iff_eq.mp e))⟩
    · rintro ⟨a, ha', e⟩
      exact ⟨g a, List.mem_map.mpr ⟨a, ha', rfl⟩, beq_iff_eq.mpr (congrArg g (beq_iff_eq.mp e))⟩
  rw [e]
  split
  · rfl
  · rw [List.map_append]; rfl
theorem addG_all {α : Type} [BEq α] {P : α → Prop} {acc : List α} {t : α} (ha : ∀ a ∈ acc, P a) (ht : P t) : ∀ a ∈ addG acc t, P a := by
  unfold addG
  split
  · exact ha
  · intro a h
    rcases List.mem_append.mp h with h | h
    · exact ha a h
    · rw [List.mem_singleton.mp h]; exact ht
def upB (o : List Nat) (c : Nat) : List Nat := (selC c).filter (ahead o)
def dnB (o : List Nat) (c : Nat) : List Nat := (selC c).filter fun k => !ahead o k
theorem sub_code (p : Nat → Bool) (c : Nat) : ∃ d, d < 64 ∧ (selC c).filter p = selC d := by
  unfold selC
  rw [List.filter_filter]
  exact sel_code _
def masksF (os : List (List Nat)) (c : Nat) : List (List Nat) := os.foldl (fun acc o => addG (addG acc (upB o c)) (dnB o c)) []
def textsF (s : Nat) (os : List (List Nat)) (c : Nat) : List Str := os.foldl (fun acc o => addG (addG acc (prettyF (whS s (upB o c)))) (prettyF (whS s (dnB o c)))) []
theorem texts_fold {s c : Nat} (hs : s < 10) : ∀ (os : List (List Nat)) (acc : List (List Nat)), (∀ a ∈ acc, ∃ d, d < 64 ∧ a = selC d) →
    os.foldl (fun acc o => addG (addG acc (prettyF (whS s (upB o c)))) (prettyF (whS s (dnB o c)))) (acc.map fun l => prettyF (whS s l)) = (os.foldl (fun acc o => addG (addG acc (upB o c)) (dnB o c)) acc).map fun l => prettyF (whS s l)
  | [], _, _ => rfl
  | o :: os, acc, h => by
    have hinj : ∀ a b : List Nat, (∃ d, d < 64 ∧ a = selC d) → (∃ d, d < 64 ∧ b = selC d) → prettyF (whS s a) = prettyF (whS s b) → a = b := by
      rintro _ _ ⟨d, hd, rfl⟩ ⟨e, he, rfl⟩ q
      rw [pretty_inj hs hd he q]
    have hu : ∃ d, d < 64 ∧ upB o c = selC d := sub_code _ _
    have hd : ∃ d, d < 64 ∧ dnB o c = selC d := sub_code _ _
    have h1 := addG_all h hu
    have h2 := addG_all h1 hd
    rw [List.foldl_cons, List.foldl_cons]
    rw [addG_map (g := fun l => prettyF (whS s l)) (t := upB o c) hinj h hu, addG_map (g := fun l => prettyF (whS s l)) (t := dnB o c) hinj h1 hd]
    exact texts_fold hs os _ h2
theorem texts_masks {s c : Nat} (hs : s < 10) (os : List (List Nat)) : (textsF s os c).length = (masksF os c).length := by
  have h := texts_fold (c := c) hs os [] (fun _ h => nomatch h)
  unfold textsF masksF
  rw [List.map_nil] at h
  rw [h, List.length_map]
/-! the partings, as a plain function -/
def hitF (fs : List (Int × Int)) (h : List Nat) (who : Nat) : List Nat := h.filter fun (one : Nat) => decide (((one : Int), (who : Int)) ∈ fs)
def joinH (hs : List (List Nat)) (k who : Nat) : List (List Nat) := hs.take k ++ [hs.getD k [] ++ [who]] ++ hs.drop (k + 1)
def growK (fs : List (Int × Int)) (who : Nat) (hs : List (List Nat)) (n : Nat) : List (List (List Nat)) := ((List.range n).filter fun k => (hitF fs (hs.getD k []) who).isEmpty).map fun k => joinH hs k who
def growH (fs : List (Int × Int)) (who : Nat) (hs : List (List Nat)) : List (List (List Nat)) := (hs ++ [[who]]) :: growK fs who hs hs.length
def partsAt (fs : List (Int × Int)) : Nat → List (List (List Nat))
  | 0 => [[]]
  | i + 1 => (partsAt fs i).flatMap (growH fs i)
def heapW (n : Nat) : Int := [0, -1, 2, -6, 24].getD n 0
def signedF (fs : List (Int × Int)) : Int := ((partsAt fs 4).map fun hs => heapW hs.length).sum
def foesC (c : Nat) : List (Int × Int) := (selC c).map fun k => [((0 : Int), (1 : Int)), (0, 2), (0, 3), (1, 2), (1, 3), (2, 3)].getD k (0, 0)
theorem count_at : ∀ c : _root_.Fin 64, ((masksF orders12 c.1).length : Int) = signedF (foesC c.1) := by decide +kernel
theorem count_all {s c : Nat} (hs : s < 10) (hc : c < 64) : ((textsF s orders12 c).length : Int) = signedF (foesC c) := by
  rw [texts_masks hs]
  exact count_at ⟨c, hc⟩
end Mine
end
section
open PySem PySem.W PyProof.Rows PySem.Calls PySem.Spec PyProof.V
namespace Mine
local macro_rules | `(tactic| walk_at "pad") => `(tactic| fail)
theorem off_S5a : True := by w_top off; trivial
theorem compFin0 {g h h' : Heap} {L I D : Addr} {io : Obj} {m : Str → Option Value} {ys : Array Value} {cf : Nat} {news : List (Addr × Obj)} (F : Fr g L h m) (N : News g L h news) (hI : h.objs.size = I) (hD : (h.push io).get? D = none)
    (hpl : h'.get? D = some (listOf ys cf)) (hk : ∀ b o, b ∉ [I] → (h.push io).get? b = some o → h'.get? b = some o) : Fr g L h' m ∧ News g L h' ((D, listOf ys cf) :: news) ∧ ∀ p ∈ news, p.1 ≠ D := by
  obtain ⟨h1, h2, h3⟩ := compFin F N hI hD hpl (F.ns.at' fun o e => hk _ o (by
    rw [List.mem_singleton, ← hI]
    exact Nat.ne_of_lt (Heap.lt_size e)) (Heap.get?_push_of_some _ e)) (fun b o _ => hk b o)
  exact ⟨h1, h2, h3⟩
def rowP (nums : List Int) (v y : Value) : Prop := ∃ (k : Int) (t u : Tok), v = .int k t ∧ y = .str (rowF nums k.toNat) u
theorem rows_strs {nums : List Int} : ∀ {ws ys : List Value} {o : List Nat}, IntsAre ws (o.map Int.ofNat) → Paired (rowP nums) ws ys → StrsAre ys (o.map (rowF nums))
  | _, _, [], hi, hp => by
    cases hi
    cases hp
    exact .nil
  | _, _, k :: o, hi, hp => by
    cases hi with
    | cons n t hi =>
      cases hp with
      | cons hf hp =>
        obtain ⟨k', t', u, e1, rfl⟩ := hf
        cases e1
        exact .cons _ _ (rows_strs hi hp)
theorem row_at {nums : List Int} {rv : List Value} (h : StrsAre rv ((List.range 4).map (rowF nums))) {a : Int} (h0 : 0 ≤ a) (h4 : a < 4) : ∃ t, rv[a.toNat]? = some (.str (rowF nums a.toNat) t) := by
  refine StrsAre.at h ?_
  rw [List.getElem?_map, List.getElem?_range (by omega)]
  rfl
theorem int_at : ∀ {ws : List Value} {o : List Nat}, IntsAre ws (o.map Int.ofNat) → ∀ {j : Nat} {v : Value}, ws[j]? = some v → ∃ (k : Nat) (t : Tok), o[j]? = some k ∧ v = .int (k : Int) t
  | _, [], hi, j, v, h => by
    cases hi
    simp at h
  | _, k :: o, hi, 0, v, h => by
    cases hi with
    | cons n t hi =>
      simp at h
      exact ⟨k, t, rfl, h.symm⟩
  | _, k :: o, hi, j + 1, v, h => by
    cases hi with
    | cons n t hi =>
      obtain ⟨k', t', e1, e2⟩ := int_at hi (j := j) (v := v) (by simpa using h)
      exact ⟨k', t', by simpa using e1, e2⟩
/-- the body of the loop over the orders -/
def forBody : Option Stmt → List Stmt
  | some (.For _ _ b _ _) => b
  | _ => []
noncomputable def ordBody : List Stmt := forBody (lawBody[12]?)
/-- the names that the loop over the orders keeps -/
structure MF (m : Str → Option Value) (d tx al fl : Addr) (wh : Int) (tw : Tok) : Prop where
  order : m (Str.ofString "order") = some (.ref d)
  texts : m (Str.ofString "texts") = some (.ref tx)
  whole : m (Str.ofString "whole") = some (.int wh tw)
  asked : m (Str.ofString "asked") = some (.ref al)
  foes : m (Str.ofString "foes") = some (.ref fl)
abbrev MF.ps (d tx al fl : Addr) (wh : Int) (tw : Tok) : List (Str × Value) := [(Str.ofString "order", .ref d), (Str.ofString "texts", .ref tx), (Str.ofString "whole", .int wh tw), (Str.ofString "asked", .ref al), (Str.ofString "foes", .ref fl)]
theorem MF.all {m : Str → Option Value} {d tx al fl : Addr} {wh : Int} {tw : Tok} (h : MF m d tx al fl wh tw) : ∀ p ∈ MF.ps d tx al fl wh tw, m p.1 = some p.2 :=
  List.forall_mem_cons.mpr ⟨h.order, List.forall_mem_cons.mpr ⟨h.texts, List.forall_mem_cons.mpr ⟨h.whole, List.forall_mem_cons.mpr ⟨h.asked, List.forall_mem_cons.mpr ⟨h.foes, List.forall_mem_nil _⟩⟩⟩⟩⟩
structure MP (m : Str → Option Value) (pg : Str) (tp : Tok) (n : Int) (tf : Tok) (ahL beL : Addr) : Prop where
  page : m (Str.ofString "page") = some (.str pg tp)
  flags : m (Str.ofString "flags") = some (.int n tf)
  ahead : m (Str.ofString "ahead") = some (.ref ahL)
  behind : m (Str.ofString "behind") = some (.ref beL)
abbrev MP.ps (pg : Str) (tp : Tok) (n : Int) (tf : Tok) (ahL beL : Addr) : List (Str × Value) := [(Str.ofString "page", .str pg tp), (Str.ofString "flags", .int n tf), (Str.ofString "ahead", .ref ahL), (Str.ofString "behind", .ref beL)]
theorem MP.all {m : Str → Option Value} {pg : Str} {tp : Tok} {n : Int} {tf : Tok} {ahL beL : Addr} (h : MP m pg tp n tf ahL beL) : ∀ p ∈ MP.ps pg tp n tf ahL beL, m p.1 = some p.2 :=
  List.forall_mem_cons.mpr ⟨h.page, List.forall_mem_cons.mpr ⟨h.flags, List.forall_mem_cons.mpr ⟨h.ahead, List.forall_mem_cons.mpr ⟨h.behind, List.forall_mem_nil _⟩⟩⟩⟩
theorem all_app {m : Str → Option Value} {l1 l2 : List (Str × Value)} (h1 : ∀ p ∈ l1, m p.1 = some p.2) (h2 : ∀ p ∈ l2, m p.1 = some p.2) : ∀ p ∈ l1 ++ l2, m p.1 = some p.2 := fun p hp => by
  rcases List.mem_append.mp hp with h | h
  · exact h1 p h
  · exact h2 p h
/-- what stands fixed while one order is looked at -/
structure OFix (f : Fix) (o : List Nat) (d : Addr) (ws : List Value) (cw : Nat) (base : List (Addr × Obj)) : Prop where
  ho : o ∈ orders12
  hd : (d, listOf ws.toArray cw) ∈ base
  hws : IntsAre ws (o.map Int.ofNat)
  rl : (f.rl, listOf f.rv.toArray f.c1) ∈ base
  cel : (f.g.objs.size + 1 + 1, f.o2) ∈ base
  ok : f.Ok
def O1 (f : Fix) (o : List Nat) (d tx : Addr) (tw : Tok) (base : List (Addr × Obj)) (s0 s' : Shared) : Prop :=
  ∃ (h : Heap) (tk : Nat) (m : Str → Option Value) (tp tf : Tok) (ahL beL : Addr) (c1 c2 : Nat), s' = { s0 with heap := h, toks := tk } ∧ Fr f.g f.g.objs.size h m ∧ MF m d tx f.al f.fl (wholeOf f.nums (idxsOf f.nums) : Int) tw ∧ MP m (pageF f.nums o) tp 0 tf ahL beL ∧
    News f.g f.g.objs.size h ((beL, listOf [].toArray c2) :: (ahL, listOf [].toArray c1) :: base) ∧ (∀ p ∈ base, p.1 < ahL) ∧ ahL < beL
local macro_rules | `(tactic| walk_at "subscriptTail") => `(tactic| (k_here; k_dflt (refine anyItem (by k_asm) (by k_mem) (by (try dsimp only); omega) (by assumption) (by (try dsimp only); omega) ?_ (by with_unfolding_all rfl)); (try dsimp only)))
local macro_rules | `(tactic| walk_at "eval Name") => `(tactic| (k_here; k_dflt (refine compLocal (by assumption) (by assumption) ?_)))
local macro_rules | `(tactic| walk_at "call builtin:str.join") => `(tactic| (k_here; k_dflt (refine unhalt ?_)))
local macro_rules | `(tactic| walk_at "eval ListComp") => `(tactic| (k_here; k_dflt (refine unhalt ?_)))
local macro_rules | `(tactic| walk_at "execs cons For") => `(tactic| (k_here; k_dflt (refine unhalt ?_)))
theorem ordA (w : World) (mean : ExcName → Option Value) (mg mb : Str → Option Value) (s : Shared) (fa : Addr) (cd : Value) (Q : Flow → Shared → Prop) (E : Value → Shared → Prop)
    (f : Fix) (o : List Nat) (d tx : Addr) (ws : List Value) (cw : Nat) (tw : Tok) (base : List (Addr × Obj)) (m : Str → Option Value)
    (hnext : ∀ s', O1 f o d tx tw base s s' → wpAny (model Challenge.rw_re0025_01.row.prog w) (callerA.deeper (lawEnv f.g.objs.size fa cd)) (execs (ordBody.drop 4) (lawEnv f.g.objs.size fa cd)) Q E s')
    : (hd.heap_39 w.params).In f.g → ∀ (T : Top hd.view_39 Lo mean mg mb f.g) (B : Below callerA f.g [] f.g) (F0 : Fr f.g f.g.objs.size s.heap m) (N0 : News f.g f.g.objs.size s.heap base) (hM : MF m d tx f.al f.fl (wholeOf f.nums (idxsOf f.nums) : Int) tw) (hO : OFix f o d ws cw base),
    wpAny (model Challenge.rw_re0025_01.row.prog w) (callerA.deeper (lawEnv f.g.objs.size fa cd)) (execs ordBody (lawEnv f.g.objs.size fa cd)) Q E s := by
  k_fill
  intro X T B F0 N0 hM hO
  have F := frKst F0 hM.all
  clear F0
  have kMk := kstMark
  obtain ⟨hom, hd, hws, r2, r3, hOk⟩ := hO
  have hc2 := hOk.hc2
  have hrv := hOk.hrv
  have N := newsDup (newsDup (newsDup N0 r2) (.tail _ r3)) (.tail _ (.tail _ hd))
  clear N0
  obtain ⟨ol4, ok4, oall⟩ := order_mem o hom
  with_unfolding_all dsimp only [ordBody, forBody, lawEnv, lawBody, lawScope, lawPick, Challenge.pw_re0025_01, List.getLast?, List.getLast, List.drop]
  k_steps
  rename Fr _ _ _ _ => F2
  rename News _ _ _ _ => N2
  refine halted ?_
  refine' wpAny_ListComp_free (fun _ => true) (rowP f.nums) ?hclos ?hcell ?hkind ?hnames ?hx ?hC
  case hclos => with_unfolding_all rfl
  case hcell => decide
  case hkind => rfl
  case hnames => decide
  case hx => rfl
  case hC =>
    k_steps
    have hls2 := News.isList N2 (a := d) (items := ws.toArray) (.head _)
    refine wpAny_pyIter_list hls2 ?_
    refine ⟨_, _, _, _, _, _, rfl, Walks.list rfl _ d (Nat.ne_of_lt (Heap.lt_size (N2 _ (.head _)).1)) ws.toArray, ?sz, ⟨⟨_, Heap.get?_push_size _ rfl, rfl, rfl⟩, hls2.push _⟩, ?fp, ⟨?tests, ?elt⟩, ?fin⟩
    case sz => rw [sizeLine_eq, List.size_toArray, IntsAre.length hws, List.length_map]; omega
    case fp =>
      intro b hb
      rw [Heap.size_push]
      rcases List.mem_cons.mp hb with rfl | hb
      · exact Nat.lt_succ_self _
      · rw [List.mem_singleton.mp hb]; exact Nat.lt_succ_of_lt (Heap.lt_size (N2 _ (.head _)).1)
    case tests =>
      intro C j v s₃ m₃ E' hC hP hns hm₃ hk htk
      exact wpAny_pure ⟨rfl, ⟨_, _, rfl, fun _ _ e => e⟩⟩
    case elt =>
      intro C j v s₃ m₃ E' hC hP hp hns hm₃ hk htk
      have N₃ := keepL N2 rfl hk
      have F₃ := keepFr F2 rfl hk
      have hP' : ws[j]? = some v := by simpa using hP
      obtain ⟨k, t, hjk, rfl⟩ := int_at hws hP'
      obtain ⟨t2, hr⟩ := row_at hrv (a := (k : Int)) (by omega) (by have := ok4 k (List.mem_of_getElem? hjk); omega)
      have hk4 := ok4 k (List.mem_of_getElem? hjk)
      clear hk N2 F2 hls2
      k_steps
      · exact ⟨_, _, _, rfl, rfl⟩
      · exact ⟨_, _, rfl, fun _ _ e => e⟩
    case fin =>
      intro D2 h' tk' ys vs hD hl hpl hlen hP hF hk
      dsimp only
      obtain ⟨cf, hpl⟩ := hpl
      obtain ⟨F9, N9, hd9⟩ := compFin0 F2 N2 rfl hD hpl hk
      clear F2 N2
      have evs : vs = ws := by
        refine List.ext_getElem? fun j => ?_
        by_cases hj : j < vs.length
        · have := hP j vs[j] (List.getElem?_eq_getElem hj)
          rw [List.getElem?_eq_getElem hj]
          simpa using this.symm
        · rw [List.getElem?_eq_none (by omega), List.getElem?_eq_none]
          rw [List.size_toArray] at hlen
          omega
      rw [evs, List.filter_eq_self.mpr (fun _ _ => rfl)] at hF
      have hys := rows_strs hws hF
      clear hk hD hP hls2
      k_steps
      refine halted ?_
      refine join_listW (News.isList N9 (.head _)) hys (by decide) (Nat.le_trans (rows_weight f.nums o) (by rw [ol4]; decide)) ?_
      intro tp kp
      replace N9 := nwSub N9 (l' := base) (fun p hp => .tail _ (.tail _ (.tail _ (.tail _ hp))))
      dsimp only
      clear hpl hl hd9 hF evs hlen
      k_steps
      rename Fr _ _ _ _ => F8
      rename News _ _ _ _ => N8
      refine halted ?_
      obtain ⟨m9, em9, F7⟩ := frName F8
      clear F8
      obtain ⟨beL, rfl⟩ := nwName N8
      obtain ⟨ahL, rfl⟩ := nwName2 N8
      rename (ahL < beL ∧ _) => hl2
      rename (∀ p ∈ base, p.1 < ahL) => hl1
      have m1 : m9 (Str.ofString "order") = some (.ref d) := by rw [em9]; rfl
      have m2 : m9 (Str.ofString "texts") = some (.ref tx) := by rw [em9]; rfl
      have m3 : m9 (Str.ofString "whole") = some (.int (wholeOf f.nums (idxsOf f.nums) : Int) tw) := by rw [em9]; rfl
      have m4 : m9 (Str.ofString "asked") = some (.ref f.al) := by rw [em9]; rfl
      have m5 : m9 (Str.ofString "foes") = some (.ref f.fl) := by rw [em9]; rfl
      have m6 : m9 (Str.ofString "page") = some (.str (pageF f.nums o) tp) := by rw [em9]; rfl
      have m7 : ∃ tf, m9 (Str.ofString "flags") = some (.int 0 tf) := ⟨_, by rw [em9]; rfl⟩
      have m8 : m9 (Str.ofString "ahead") = some (.ref ahL) := by rw [em9]; rfl
      have m10 : m9 (Str.ofString "behind") = some (.ref beL) := by rw [em9]; rfl
      obtain ⟨tf, m7⟩ := m7
      exact hnext _ ⟨_, _, m9, tp, tf, ahL, beL, 0, 0, rfl, F7, ⟨m1, m2, m3, m4, m5⟩, ⟨m6, m7, m8, m10⟩, N8, hl1, hl2.1⟩
end Mine
end
section
open PySem PySem.W PyProof.Rows PySem.Calls PySem.Spec PyProof.V
namespace Mine
theorem off_S5b : True := by w_top off; trivial
structure AFix (f : Fix) (av : List Value) (ca : Nat) (tl : List (Addr × Obj)) (base : List (Addr × Obj)) : Prop where
  al : (f.al, listOf av.toArray ca) ∈ base
  sub : ∀ p ∈ tl, p ∈ base
  dat : DatAll tl av ((idxsOf f.nums).map (askT f.nums))
def JA (f : Fix) (o : List Nat) (d tx : Addr) (tw tp : Tok) (ahL beL : Addr) (base : List (Addr × Obj)) (i : Nat) (m : Str → Option Value) (news : List (Addr × Obj)) : Prop :=
  ∃ (ahv bev : List Value) (c1 c2 : Nat) (tf : Tok), MF m d tx f.al f.fl (wholeOf f.nums (idxsOf f.nums) : Int) tw ∧ MP m (pageF f.nums o) tp (wholeOf f.nums (upK o ((idxsOf f.nums).take i)) : Int) tf ahL beL ∧
    news = (beL, listOf bev.toArray c2) :: (ahL, listOf ahv.toArray c1) :: base ∧ StrsAre ahv (labs f.nums (upK o ((idxsOf f.nums).take i))) ∧ StrsAre bev (labs f.nums (dnK o ((idxsOf f.nums).take i)))
def O2 (f : Fix) (o : List Nat) (d tx : Addr) (tw : Tok) (base : List (Addr × Obj)) (s0 s' : Shared) : Prop :=
  ∃ (h : Heap) (tk : Nat) (m : Str → Option Value) (tp tf : Tok) (ahL beL : Addr) (ahv bev : List Value) (c1 c2 : Nat), s' = { s0 with heap := h, toks := tk } ∧ Fr f.g f.g.objs.size h m ∧ MF m d tx f.al f.fl (wholeOf f.nums (idxsOf f.nums) : Int) tw ∧
    MP m (pageF f.nums o) tp (wholeOf f.nums (upK o (idxsOf f.nums)) : Int) tf ahL beL ∧ News f.g f.g.objs.size h ((beL, listOf bev.toArray c2) :: (ahL, listOf ahv.toArray c1) :: base) ∧
    StrsAre ahv (labs f.nums (upK o (idxsOf f.nums))) ∧ StrsAre bev (labs f.nums (dnK o (idxsOf f.nums))) ∧ (∀ p ∈ base, p.1 < ahL) ∧ ahL < beL
theorem take_next {nums : List Int} {i k : Nat} (h : (idxsOf nums)[i]? = some k) : (idxsOf nums).take (i + 1) = (idxsOf nums).take i ++ [k] := by rw [List.take_succ, h]; rfl
theorem up_next {nums : List Int} {o : List Nat} {i k : Nat} (h : (idxsOf nums)[i]? = some k) : upK o ((idxsOf nums).take (i + 1)) = upK o ((idxsOf nums).take i) ++ (if ahead o k = true then [k] else []) := by
  rw [take_next h]
  unfold upK
  rw [List.filter_append]
  congr 1
  cases h' : ahead o k <;> simp [List.filter, h']
theorem dn_next {nums : List Int} {o : List Nat} {i k : Nat} (h : (idxsOf nums)[i]? = some k) : dnK o ((idxsOf nums).take (i + 1)) = dnK o ((idxsOf nums).take i) ++ (if ahead o k = true then [] else [k]) := by
  rw [take_next h]
  unfold dnK
  rw [List.filter_append]
  congr 1
  cases h' : ahead o k <;> simp [List.filter, h']
theorem whole_snoc (nums : List Int) (ks : List Nat) (k : Nat) : (wholeOf nums (ks ++ [k]) : Int) = (wholeOf nums ks : Int) + ((2 ^ (stN nums + k) : Nat) : Int) := by
  unfold wholeOf
  rw [List.map_append, List.sum_append]
  simp
theorem labs_snoc (nums : List Int) (ks : List Nat) (k : Nat) : labs nums (ks ++ [k]) = labs nums ks ++ [labelF (stN nums + k)] := by
  unfold labs
  rw [List.map_append]; rfl
theorem idxs_le (nums : List Int) (i : Nat) : ((idxsOf nums).take i).length ≤ 6 := by
  rw [List.length_take]
  have : (idxsOf nums).length ≤ 6 := Nat.le_trans (List.length_filter_le _ _) (by simp)
  omega
theorem up_le (nums : List Int) (o : List Nat) (i : Nat) : (labs nums (upK o ((idxsOf nums).take i))).length ≤ 6 := by
  unfold labs
  rw [List.length_map]
  exact Nat.le_trans (List.length_filter_le _ _) (idxs_le nums i)
theorem dn_le (nums : List Int) (o : List Nat) (i : Nat) : (labs nums (dnK o ((idxsOf nums).take i))).length ≤ 6 := by
  unfold labs
  rw [List.length_map]
  exact Nat.le_trans (List.length_filter_le _ _) (idxs_le nums i)
theorem ahead_dec (o : List Nat) (k : Nat) : decide (((o.idxOf (pA k) : Nat) : Int) < ((o.idxOf (pB k) : Nat) : Int)) = ahead o k := by
  unfold ahead
  simp
local macro_rules | `(tactic| walk_at "call builtin:list.append") => `(tactic| (k_here; k_dflt (refine unhalt ?_)))
local macro_rules | `(tactic| walk_at "call builtin:list.index") => `(tactic| (k_here; k_dflt (refine ord_index (News.isList (by k_asm) (by k_mem)) (by assumption) (by assumption) (by assumption) ?_)))
local macro_rules | `(tactic| walk_at "call ref") => `(tactic| (k_here; k_dflt (refine ell_call (by assumption) (by assumption) (by k_asm) (by k_asm) (by k_asm) (by k_asm) (by k_asm) ?_); intro h9 tk9 F9 N9; (try dsimp only)))
local macro_rules | `(tactic| walk_at "exec For Tuple Name cons nil") => `(tactic| (k_here; k_dflt (refine For_X ?_ (by intro _; rfl))))
local macro_rules | `(tactic| walk_at "exec For") => `(tactic| (k_here; k_dflt (refine For_X ?_ (by intro _; rfl))))
theorem ordB (w : World) (mean : ExcName → Option Value) (mg mb : Str → Option Value) (s0 s : Shared) (fa : Addr) (cd : Value) (Q : Flow → Shared → Prop) (E : Value → Shared → Prop)
    (f : Fix)
    (hE : PassesOwn (model Challenge.rw_re0025_01.row.prog w) (callerA.deeper (lawEnv f.g.objs.size fa cd)) (lawEnv f.g.objs.size fa cd) E)
    (o : List Nat) (d tx : Addr) (ws : List Value) (cw : Nat) (tw : Tok) (base : List (Addr × Obj)) (av : List Value) (ca : Nat) (tl : List (Addr × Obj))
    (hnext : ∀ s', O2 f o d tx tw base s0 s' → wpAny (model Challenge.rw_re0025_01.row.prog w) (callerA.deeper (lawEnv f.g.objs.size fa cd)) (execs (ordBody.drop 5) (lawEnv f.g.objs.size fa cd)) Q E s')
    : (hd.heap_39 w.params).In f.g → ∀ (T : Top hd.view_39 Lo mean mg mb f.g) (B : Below callerA f.g [] f.g) (hS : O1 f o d tx tw base s0 s) (hO : OFix f o d ws cw base) (hA : AFix f av ca tl base),
    wpAny (model Challenge.rw_re0025_01.row.prog w) (callerA.deeper (lawEnv f.g.objs.size fa cd)) (execs (ordBody.drop 4) (lawEnv f.g.objs.size fa cd)) Q E s := by
  k_fill
  intro X T B hS hO hA
  obtain ⟨h, tk, m, tp, tf, ahL, beL, c1, c2, rfl, F0, hM, hP, N, hlt, hlt2⟩ := hS
  have F := frKst F0 (all_app hM.all hP.all)
  clear F0
  have kMk := kstMark
  obtain ⟨hom, hd, hws, r2, r3, hOk⟩ := hO
  obtain ⟨r1, r4, hdat⟩ := hA
  have N1 := newsDup N (q := (f.al, listOf av.toArray ca)) (.tail _ (.tail _ r1))
  clear N
  with_unfolding_all dsimp only [ordBody, forBody, lawEnv, lawBody, lawScope, lawPick, Challenge.pw_re0025_01, List.getLast?, List.getLast, List.drop]
  k_steps
  rename Fr _ _ _ _ => lF
  rename News _ _ _ _ => lN
  obtain ⟨m0, em, lF2⟩ := frName lF
  have em2 : m0 = m := by rw [em]; exact funext fun z => kstB_eq (all_app hM.all hP.all) fun _ => rfl
  subst em2
  replace lN := nwSub lN (l' := (beL, listOf [].toArray c2) :: (ahL, listOf [].toArray c1) :: base) (fun p hp => .tail _ hp)
  clear lF em
  refine' iter_listXc (vs := av) (JA f o d tx tw tp ahL beL base) (by rfl) ?hl lF2 lN ?h0 ?turn ?done hE
  case hl =>
    rintro i m news ⟨ahv, bev, c1, c2, tf, _, _, rfl, _⟩
    exact .tail _ (.tail _ r1)
  case h0 => exact ⟨[], [], _, _, tf, hM, hP, rfl, .nil, .nil⟩
  case turn =>
    rintro I i v m₁ news₁ h tk io hio hltI hvi ⟨ahv, bev, c1, c2, tf, hM1, hP1, rfl, hav, hbv⟩ hne F₀ N₀
    clear lF2 lN hltI hM hP
    obtain ⟨v', hv1, hv2⟩ := hdat.get (k := i) (by
      have h1 := (List.getElem?_eq_some_iff.mp hvi).1
      have h2 := hdat.length
      omega)
    rw [hvi] at hv1
    cases hv1
    rw [List.getElem_map] at hv2
    have hil : i < (idxsOf f.nums).length := by
      have h1 := (List.getElem?_eq_some_iff.mp hvi).1
      have h2 := hdat.length
      rw [List.length_map] at h2
      omega
    have hik : (idxsOf f.nums)[i]? = some ((idxsOf f.nums)[i]'hil) := List.getElem?_eq_getElem hil
    generalize hk : (idxsOf f.nums)[i]'hil = k at hv2 hik
    have hk6 : k < 6 := List.mem_range.mp (List.mem_filter.mp (List.mem_of_getElem? hik)).1
    rw [ask_eq hk6] at hv2
    obtain ⟨dT, nT, ta, tb, tc, tx1, ty1, rfl, hmem⟩ := ask_inv hv2
    obtain ⟨pa4, pb4, _, _⟩ := pAB ⟨k, hk6⟩
    dsimp only at pa4 pb4
    have F₁ := frKst F₀ (all_app hM1.all hP1.all)
    have N₁ := newsDup (newsDup N₀ (q := (d, listOf ws.toArray cw)) (.tail _ (.tail _ (List.mem_append_left _ hd)))) (q := (dT, _)) (.tail _ (.tail _ (.tail _ (List.mem_append_left _ (r4 _ hmem)))))
    clear F₀ N₀
    have hTup : IsTup h dT #[.int (pA k : Int) ta, .int (pB k : Int) tb, .int ((2 ^ (stN f.nums + k) : Nat) : Int) tc, .str (labelF (stN f.nums + k)) tx1, .str (patF f.nums (pA k) (pB k)) ty1] := ⟨_, (N₁ _ (.head _)).1, rfl, nT, rfl⟩
    refine unpackN_ F₁ N₁ hTup rfl rfl rfl ?_
    intro h9 F9 N9
    clear hTup F₁ N₁
    replace hne := toNeAll hne
    k_steps
    · rename ((_ != _) = true) => hb
      exact absurd hb (by simp)
    · rename Fr _ _ _ _ => F8
      rename News _ _ _ _ => N8
      rename (_ < _) => hcond
      have hah : ahead o k = true := by rw [← ahead_dec]; exact decide_eq_true hcond
      have eu := up_next (o := o) hik
      have ed := dn_next (o := o) hik
      rw [if_pos hah] at eu ed
      obtain ⟨m8, em8, F7⟩ := frName F8
      clear F8
      replace N8 := nwSub N8 (l' := (beL, listOf bev.toArray c2) :: (ahL, listOf ahv.toArray c1) :: (base ++ [(I, io)])) (fun p hp => .tail _ (.tail _ hp))
      have z1 : beL ≠ I := hne _ (.head _)
      have z2 : ahL ≠ I := hne _ (.tail _ (.head _))
      refine halted ?_
      refine append_K F7 N8 (.tail (Ne.symm (Nat.ne_of_lt hlt2)) (.head ?rest)) ?_ (by
        have h1 := StrsAre.len_eq hav
        have h2 := up_le f.nums o i
        rw [sizeLine_eq, List.size_toArray]
        omega)
      case rest =>
        intro p hp
        rcases List.mem_append.mp hp with hp | hp
        · exact Nat.ne_of_lt (hlt p hp)
        · rw [List.mem_singleton.mp hp]; exact Ne.symm z2
      intro h7 F6 N7
      k_steps
      rw [List.push_toArray] at N7
      have y1 : ∃ tt, m8 (Str.ofString "flags") = some (.int (wholeOf f.nums (upK o ((idxsOf f.nums).take (i + 1))) : Int) tt) := ⟨_, by rw [em8, eu, whole_snoc]; rfl⟩
      obtain ⟨tf2, y1⟩ := y1
      refine StepX.go (news' := (beL, listOf bev.toArray c2) :: (ahL, listOf (ahv ++ [Value.str (labelF (stN f.nums + k)) tx1]).toArray (c1 + 1)) :: base) F6 N7 (fun p hp => hp) (List.forall_mem_cons.mpr ⟨z1, List.forall_mem_cons.mpr ⟨z2, fun p hp => hne p (.tail _ (.tail _ hp))⟩⟩)
        ⟨_, _, _, _, tf2, ⟨by rw [em8]; rfl, by rw [em8]; rfl, by rw [em8]; rfl, by rw [em8]; rfl, by rw [em8]; rfl⟩, ⟨by rw [em8]; rfl, y1, by rw [em8]; rfl, by rw [em8]; rfl⟩, rfl, ?_, ?_⟩
      · rw [eu, labs_snoc]
        exact StrsAre.append' hav (.cons _ _ .nil)
      · rw [ed, List.append_nil]
        exact hbv
    · rename Fr _ _ _ _ => F8
      rename News _ _ _ _ => N8
      rename (¬ _ < _) => hcond
      have hah : ahead o k = false := by rw [← ahead_dec]; exact decide_eq_false hcond
      have eu := up_next (o := o) hik
      have ed := dn_next (o := o) hik
      rw [hah] at eu ed
      simp only [Bool.false_eq_true, if_false] at eu ed
      rw [List.append_nil] at eu
      obtain ⟨m8, em8, F7⟩ := frName F8
      clear F8
      replace N8 := nwSub N8 (l' := (beL, listOf bev.toArray c2) :: (ahL, listOf ahv.toArray c1) :: (base ++ [(I, io)])) (fun p hp => .tail _ (.tail _ hp))
      have z1 : beL ≠ I := hne _ (.head _)
      have z2 : ahL ≠ I := hne _ (.tail _ (.head _))
      refine halted ?_
      refine append_K F7 N8 (.head ?rest) ?_ (by
        have h1 := StrsAre.len_eq hbv
        have h2 := dn_le f.nums o i
        rw [sizeLine_eq, List.size_toArray]
        omega)
      case rest =>
        intro p hp
        rcases List.mem_cons.mp hp with rfl | hp
        · exact Nat.ne_of_lt hlt2
        rcases List.mem_append.mp hp with hp | hp
        · exact Nat.ne_of_lt (Nat.lt_trans (hlt p hp) hlt2)
        · rw [List.mem_singleton.mp hp]; exact Ne.symm z1
      intro h7 F6 N7
      k_steps
      rw [List.push_toArray] at N7
      refine StepX.go (news' := (beL, listOf (bev ++ [Value.str (labelF (stN f.nums + k)) tx1]).toArray (c2 + 1)) :: (ahL, listOf ahv.toArray c1) :: base) F6 N7 (fun p hp => hp) (List.forall_mem_cons.mpr ⟨z1, List.forall_mem_cons.mpr ⟨z2, fun p hp => hne p (.tail _ (.tail _ hp))⟩⟩)
        ⟨_, _, _, _, tf, ⟨by rw [em8]; rfl, by rw [em8]; rfl, by rw [em8]; rfl, by rw [em8]; rfl, by rw [em8]; rfl⟩, ⟨by rw [em8]; rfl, by rw [em8, eu]; rfl, by rw [em8]; rfl, by rw [em8]; rfl⟩, rfl, ?_, ?_⟩
      · rw [eu]
        exact hav
      · rw [ed, labs_snoc]
        exact StrsAre.append' hbv (.cons _ _ .nil)
  case done =>
    rintro m₁ news₁ h tk ⟨ahv, bev, c1, c2, tf, hM1, hP1, rfl, hav, hbv⟩ F₁ N₁
    refine wpAny_execs_nil ?_
    have e : (idxsOf f.nums).take av.length = idxsOf f.nums := by
      refine List.take_of_length_le ?_
      have h2 := hdat.length
      rw [List.length_map] at h2
      omega
    rw [e] at hP1 hav hbv
    exact hnext _ ⟨h, tk, m₁, tp, tf, ahL, beL, ahv, bev, c1, c2, rfl, F₁, hM1, hP1, N₁, hav, hbv, hlt, hlt2⟩
end Mine
end
section
open PySem PySem.W PyProof.Rows PySem.Calls PySem.Spec PyProof.V
namespace Mine
theorem off_S5c : True := by w_top off; trivial
theorem canLay_strs : ∀ ts : List Str, (∀ x ∈ ts, PyData.strOk x = true) → PyData.canLayAll0 (ts.map PyData.str) = true
  | [], _ => rfl
  | x :: r, h => by simp [PyData.canLayAll0, PyData.canLay0, canLay_strs r fun y hy => h y (.tail _ hy), h x (.head _)]
theorem depth_strs : ∀ ts : List Str, PyData.depthAll (ts.map PyData.str) = 0
  | [] => rfl
  | _ :: r => by simp [PyData.depthAll, PyData.depth, depth_strs r]
theorem shaped_strs {ts : List Str} (h : ∀ x ∈ ts, PyData.strOk x = true) : SeqAt.shaped (.list (ts.map PyData.str)) = true := by
  simp [SeqAt.shaped, PyData.canLay0, PyData.depth, canLay_strs ts h, depth_strs]
theorem eqv_nil (ts : List Str) : PyData.eqv (.list (ts.map PyData.str)) (.list []) = decide (ts = []) := by
  cases ts <;> simp [PyData.eqv, PyData.eqvAll]
theorem label_ok (i : Nat) : PyData.strOk (labelF i) = true := by
  rcases Nat.lt_or_ge i 15 with h | h
  · have : ∀ j : _root_.Fin 15, PyData.strOk (labelF j.1) = true := by decide +kernel
    exact this ⟨i, h⟩
  · unfold labelF
    rw [List.getD_eq_getElem?_getD, List.getElem?_eq_none (show words.length ≤ i from h)]
    decide +kernel
theorem labs_ok (nums : List Int) (ks : List Nat) : ∀ x ∈ labs nums ks, PyData.strOk x = true := by
  intro x hx
  obtain ⟨k, _, rfl⟩ := List.mem_map.mp hx
  exact label_ok _
section
variable {prog : Program} {w : World} {A : Around} {E : Value → Shared → Prop} {s : Shared} {a b : Addr} {xs : List Value} {nums : List Int} {ks : List Nat} {Q : Value → Shared → Prop}
theorem ne_labs_nil (ha : s.heap.IsList a xs.toArray) (hb : s.heap.IsList b ([] : List Value).toArray) (hi : StrsAre xs (labs nums ks)) (hu : A.units + 64 < cLine) (h : Q (.bool (!decide (labs nums ks = []))) s) :
    wpAny (model prog w) A (compareOp .NotEq (.ref a) (.ref b)) Q E s :=
  ne_dataH (reads_newData ha hi.carried) (reads_newData hb .nil) (shaped_strs (labs_ok nums ks)) (by rfl) hu (by rw [eqv_nil]; exact h)
end
/-! what the plain facts say of the places asked -/
theorem stN_lt (nums : List Int) : stN nums < 10 := by
  have h0 : 0 ≤ nums.sum.fmod 10 := Int.fmod_nonneg_of_pos _ (by decide)
  have h1 : nums.sum.fmod 10 < 10 := Int.fmod_lt_of_pos _ (by decide)
  unfold stN
  omega
theorem idxs_code (nums : List Int) : ∃ c, c < 64 ∧ idxsOf nums = selC c := sel_code _
theorem upK_code (nums : List Int) (o : List Nat) : ∃ c, c < 64 ∧ upK o (idxsOf nums) = selC c := by
  obtain ⟨c, _, e⟩ := idxs_code nums
  rw [e]
  exact sub_code _ _
theorem dnK_code (nums : List Int) (o : List Nat) : ∃ c, c < 64 ∧ dnK o (idxsOf nums) = selC c := by
  obtain ⟨c, _, e⟩ := idxs_code nums
  rw [e]
  exact sub_code _ _
theorem due_of {nums : List Int} {ks : List Nat} (h : ∃ c, c < 64 ∧ ks = selC c) : prettyF (wholeOf nums ks) = dueT (stN nums) ks := by
  obtain ⟨c, hc, rfl⟩ := h
  exact due_at (stN_lt nums) hc
theorem lt_of {nums : List Int} {ks : List Nat} (h : ∃ c, c < 64 ∧ ks = selC c) : wholeOf nums ks < 32768 := by
  obtain ⟨c, hc, rfl⟩ := h
  exact wh_lt ⟨_, stN_lt nums⟩ ⟨c, hc⟩
theorem whole_split (nums : List Int) (o : List Nat) : ∀ ks : List Nat, wholeOf nums ks = wholeOf nums (upK o ks) + wholeOf nums (dnK o ks)
  | [] => rfl
  | k :: ks => by
    have h := whole_split nums o ks
    unfold wholeOf upK dnK at h ⊢
    cases hk : ahead o k <;> simp only [List.filter_cons, hk, if_true, if_false, Bool.not_true, Bool.not_false, Bool.false_eq_true, List.map_cons, List.sum_cons] <;> omega
theorem due_some {nums : List Int} {ks : List Nat} (h : ∃ c, c < 64 ∧ ks = selC c) (hn : labs nums ks ≠ []) : Txt.join (Str.ofString ", ") (labs nums ks) = prettyF (wholeOf nums ks) := by
  rw [due_of h]
  unfold dueT
  rw [if_neg (fun q => hn (by rw [q]; rfl))]
  rfl
theorem due_none {nums : List Int} {ks : List Nat} (h : ∃ c, c < 64 ∧ ks = selC c) (hn : labs nums ks = []) : Txt.join (Str.ofString ", ") [Str.ofString "0x0"] = prettyF (wholeOf nums ks) := by
  rw [due_of h]
  unfold dueT
  rw [if_pos (List.map_eq_nil_iff.mp hn)]
theorem labs_weight (nums : List Int) (ks : List Nat) (hk : ks.length ≤ 6) : ((labs nums ks).map (·.length)).sum + (labs nums ks).length ≤ 1048576 := by
  have h : ∀ ks : List Nat, ((labs nums ks).map (·.length)).sum + (labs nums ks).length ≤ 21 * ks.length := by
    intro ks
    induction ks with
    | nil => simp [labs]
    | cons k ks ih =>
      have h2 := label_len (stN nums + k)
      unfold labs at ih ⊢
      simp only [List.map_cons, List.sum_cons, List.length_cons]
      omega
  have := h ks
  omega
section
variable {w : World} {mean : ExcName → Option Value} {mg mb : Str → Option Value} {g : Heap} {L fa : Addr} {cd : Value} {s : Shared} {m : Str → Option Value} {news : List (Addr × Obj)} {Q E : Value → Shared → Prop}
theorem pretty_sub {a b n : Nat} {t : Tok} (e : a = b + n) (hn : n < 32768) (B : Below callerA g [] g) (F : Fr g L s.heap m) (X : (hd.heap_39 w.params).In g) (N : News g L s.heap news) (T : Top hd.view_39 Lo mean mg mb g)
    (hret : ∀ t h' tk', Fr g L h' m → News g L h' news → Q (.str (prettyF n) t) { s with heap := h', toks := tk' }) :
    wpAny (model Challenge.rw_re0025_01.row.prog w) (callerA.deeper (lawEnv L fa cd)) (call (.ref 39) [.int ((a : Int) - (b : Int)) t]) Q E s := by
  have e2 : (a : Int) - (b : Int) = (n : Int) := by omega
  rw [e2]
  exact pretty_law hn B F X N T hret
end
def textsAdd (nums : List Int) (o : List Nat) (acc : List Str) : Nat → List Str
  | 0 => acc
  | j + 1 => addT (textsAdd nums o acc j) (pairT nums o j)
def J9 (f : Fix) (o : List Nat) (d tx : Addr) (tw : Tok) (acc : List Str) (rest : List (Addr × Obj)) (i : Nat) (m : Str → Option Value) (news : List (Addr × Obj)) : Prop :=
  ∃ (tv : List Value) (ct : Nat), MF m d tx f.al f.fl (wholeOf f.nums (idxsOf f.nums) : Int) tw ∧ news = (tx, listOf tv.toArray ct) :: rest ∧ StrsAre tv (textsAdd f.nums o acc i)
def O3 (f : Fix) (o : List Nat) (d tx : Addr) (tw : Tok) (acc : List Str) (rest : List (Addr × Obj)) (s0 s' : Shared) : Prop :=
  ∃ (h : Heap) (tk : Nat) (m : Str → Option Value) (tv : List Value) (ct : Nat), s' = { s0 with heap := h, toks := tk } ∧ Fr f.g f.g.objs.size h m ∧ MF m d tx f.al f.fl (wholeOf f.nums (idxsOf f.nums) : Int) tw ∧
    News f.g f.g.objs.size h ((tx, listOf tv.toArray ct) :: rest) ∧ StrsAre tv (textsAdd f.nums o acc 2)
local macro_rules | `(tactic| walk_at "call builtin:list.append") => `(tactic| (k_here; k_dflt (refine unhalt ?_)))
local macro_rules | `(tactic| walk_at "call ref") => `(tactic| (k_here; k_dflt (first | refine pretty_law (by assumption) (by k_asm) (by k_asm) (by k_asm) (by k_asm) (by k_asm) ?_ | refine pretty_sub (by assumption) (by assumption) (by k_asm) (by k_asm) (by k_asm) (by k_asm) (by k_asm) ?_); intro t9 h9 tk9 F9 N9; (try dsimp only)))
local macro_rules | `(tactic| walk_at "exec For Tuple Tuple cons nil") => `(tactic| (k_here; k_dflt (refine For_X ?_ (by intro _; rfl))))
local macro_rules | `(tactic| walk_at "exec For") => `(tactic| (k_here; k_dflt (refine For_X ?_ (by intro _; rfl))))
local macro_rules | `(tactic| walk_at "compareOp NotEq ref ref") => `(tactic| (k_here; k_dflt (refine ne_labs_nil (News.isList (by k_asm) (by k_mem)) (News.isList (by k_asm) (by k_mem)) (by assumption) (by units_room) ?_)))
local macro_rules | `(tactic| walk_at "call builtin:str.join") => `(tactic| (k_here; k_dflt (refine join_listW (News.isList (by k_asm) (by k_mem)) (by first | assumption | exact .cons _ _ .nil) (by decide) (by first | assumption | decide +kernel) ?_); intro tj kj; (try dsimp only)))
local macro_rules | `(tactic| walk_at "compareOp NotIn str ref") => `(tactic| (k_here; k_dflt (refine notin_list_strs (News.isList (by k_asm) (by k_mem)) (by assumption) ?_)))
local macro_rules | `(tactic| walk_at "pyIter ref") => `(tactic| (k_here; k_dflt (refine unhalt ?_)))
theorem nm3 {h₀ h : Heap} {L a b c x y : Addr} {p q : Str} {t u : Tok} {r : List (Addr × Obj)} (_ : News h₀ L h ((a, ({ cls := .type "tuple", data := .seq #[.ref c, .ref b] } : Obj)) :: (b, ({ cls := .type "tuple", data := .seq #[.str p t, .ref x] } : Obj)) :: (c, ({ cls := .type "tuple", data := .seq #[.str q u, .ref y] } : Obj)) :: r)) :
    ∃ a' b' c' t' u', a' = a ∧ b' = b ∧ c' = c ∧ t' = t ∧ u' = u := ⟨_, _, _, _, _, rfl, rfl, rfl, rfl, rfl⟩
abbrev dueO (x : Str) (t : Tok) (l : Addr) : Obj := { cls := .type "tuple", data := .seq #[.str x t, .ref l] }
theorem ordC (w : World) (mean : ExcName → Option Value) (mg mb : Str → Option Value) (s0 s : Shared) (fa : Addr) (cd : Value) (Q : Flow → Shared → Prop) (E : Value → Shared → Prop)
    (f : Fix)
    (hE : PassesOwn (model Challenge.rw_re0025_01.row.prog w) (callerA.deeper (lawEnv f.g.objs.size fa cd)) (lawEnv f.g.objs.size fa cd) E)
    (o : List Nat) (d tx : Addr) (tw : Tok) (acc : List Str) (tv0 : List Value) (ct0 : Nat) (rest : List (Addr × Obj))
    (hnext : ∀ s', O3 f o d tx tw acc rest s0 s' → wpAny (model Challenge.rw_re0025_01.row.prog w) (callerA.deeper (lawEnv f.g.objs.size fa cd)) (execs [] (lawEnv f.g.objs.size fa cd)) Q E s')
    : (hd.heap_39 w.params).In f.g → ∀ (T : Top hd.view_39 Lo mean mg mb f.g) (B : Below callerA f.g [] f.g) (hS : O2 f o d tx tw ((tx, listOf tv0.toArray ct0) :: rest) s0 s) (htv : StrsAre tv0 acc) (hacc : acc.length ≤ 100) (hrest : ∀ p ∈ rest, p.1 ≠ tx),
    wpAny (model Challenge.rw_re0025_01.row.prog w) (callerA.deeper (lawEnv f.g.objs.size fa cd)) (execs (ordBody.drop 5) (lawEnv f.g.objs.size fa cd)) Q E s := by
  k_fill
  intro X T B hS htv hacc hrest
  obtain ⟨h, tk, m, tp, tf, ahL, beL, ahv, bev, c1, c2, rfl, F0, hM, hP, N, hav, hbv, hlt, hlt2⟩ := hS
  have F := frKst F0 (all_app hM.all hP.all)
  clear F0
  have kMk := kstMark
  have hup := upK_code f.nums o
  have hdn := dnK_code f.nums o
  have hu1 := lt_of (nums := f.nums) hup
  have hd1 := lt_of (nums := f.nums) hdn
  have hsum := whole_split f.nums o (idxsOf f.nums)
  with_unfolding_all dsimp only [ordBody, forBody, lawEnv, lawBody, lawScope, lawPick, Challenge.pw_re0025_01, List.getLast?, List.getLast, List.drop]
  k_steps
  rename Fr _ _ _ _ => lF
  rename News _ _ _ _ => lN
  obtain ⟨td, t2, t1, tu2, tu1, rfl, rfl, rfl, rfl, rfl⟩ := nm3 lN
  rename (t2 < td ∧ _) => l1
  rename (t1 < t2 ∧ _) => l2
  rename (beL < t1 ∧ _) => l3
  obtain ⟨m0, em, lF2⟩ := frName lF
  have em2 : m0 = m := by rw [em]; exact funext fun z => kstB_eq (all_app hM.all hP.all) fun _ => rfl
  subst em2
  clear lF em
  obtain ⟨rs, hrs⟩ : ∃ rs, rs = (td, ({ cls := .type "tuple", data := .seq #[.ref t1, .ref t2] } : Obj)) :: (t2, dueO (prettyF (wholeOf f.nums (dnK o (idxsOf f.nums)))) tu2 beL) :: (t1, dueO (prettyF (wholeOf f.nums (upK o (idxsOf f.nums)))) tu1 ahL) ::
    (beL, listOf bev.toArray c2) :: (ahL, listOf ahv.toArray c1) :: rest := ⟨_, rfl⟩
  have lN2 := nwSub lN (l' := (tx, listOf tv0.toArray ct0) :: rs) (by
    intro p hp
    rw [hrs] at hp
    rcases List.mem_cons.mp hp with h | hp
    · rw [h]; exact .tail _ (.tail _ (.tail _ (.tail _ (.tail _ (.head _)))))
    simp only [List.mem_cons] at hp ⊢
    rcases hp with h | h | h | h | h | h <;> simp [h])
  have htx : tx < ahL := hlt _ (.head _)
  have hne0 : ∀ p ∈ rs, p.1 ≠ tx := by
    have k1 := ltN htx; have k2 := ltN hlt2; have k3 := ltN l3.1; have k4 := ltN l2.1; have k5 := ltN l1.1
    intro p hp
    rw [hrs] at hp
    simp only [List.mem_cons] at hp
    rcases hp with h | h | h | h | h | h
    · subst h; refine neN ?_; dsimp only; omega
    · subst h; refine neN ?_; dsimp only; omega
    · subst h; refine neN ?_; dsimp only; omega
    · subst h; refine neN ?_; dsimp only; omega
    · subst h; refine neN ?_; dsimp only; omega
    · exact hrest p h
  have g1 : (td, ({ cls := .type "tuple", data := .seq #[.ref t1, .ref t2] } : Obj)) ∈ rs := by rw [hrs]; exact .head _
  have g2 : (t2, dueO (prettyF (wholeOf f.nums (dnK o (idxsOf f.nums)))) tu2 beL) ∈ rs := by rw [hrs]; exact .tail _ (.head _)
  have g3 : (t1, dueO (prettyF (wholeOf f.nums (upK o (idxsOf f.nums)))) tu1 ahL) ∈ rs := by rw [hrs]; exact .tail _ (.tail _ (.head _))
  have g4 : (beL, listOf bev.toArray c2) ∈ rs := by rw [hrs]; exact .tail _ (.tail _ (.tail _ (.head _)))
  have g5 : (ahL, listOf ahv.toArray c1) ∈ rs := by rw [hrs]; exact .tail _ (.tail _ (.tail _ (.tail _ (.head _))))
  have g6 : ∀ p ∈ rest, p ∈ rs := fun p hp => by rw [hrs]; exact .tail _ (.tail _ (.tail _ (.tail _ (.tail _ hp))))
  clear lN hrs
  refine halted ?_
  refine' iter_tupleX (vs := [.ref t1, .ref t2]) (nn := 0) (J9 f o d tx tw acc rs) (by rfl) ?hl lF2 lN2 ?h0 ?turn ?done hE
  case hl =>
    rintro i m news ⟨tv, ct, _, rfl, _⟩
    exact .tail _ g1
  case h0 => exact ⟨tv0, ct0, hM, rfl, htv⟩
  case turn =>
    rintro I i v m₁ news₁ h tk io hio hltI hvi ⟨tv, ct, hM1, rfl, htv1⟩ hne F₀ N₀
    clear lF2 lN2 hltI hM hP
    obtain ⟨tT, tt, dueL, duev, cdue, ks, rfl, hT, hD, hdv, hks, hk6, hpt, hln⟩ : ∃ (tT : Addr) (tt : Tok) (dueL : Addr) (duev : List Value) (cdue : Nat) (ks : List Nat), v = .ref tT ∧ (tT, dueO (prettyF (wholeOf f.nums ks)) tt dueL) ∈ rs ∧ (dueL, listOf duev.toArray cdue) ∈ rs ∧ StrsAre duev (labs f.nums ks) ∧
        (∃ c, c < 64 ∧ ks = selC c) ∧ ks.length ≤ 6 ∧ pairT f.nums o i = prettyF (wholeOf f.nums ks) ∧ (textsAdd f.nums o acc i).length ≤ 200 := by
      have hl6 : (idxsOf f.nums).length ≤ 6 := Nat.le_trans (List.length_filter_le _ _) (by simp)
      match i, hvi with
      | 0, h => exact ⟨t1, tu1, ahL, ahv, c1, _, (Option.some.inj h).symm, g3, g5, hav, hup, Nat.le_trans (List.length_filter_le _ _) hl6, rfl, by show acc.length ≤ 200; omega⟩
      | 1, h => exact ⟨t2, tu2, beL, bev, c2, _, (Option.some.inj h).symm, g2, g4, hbv, hdn, Nat.le_trans (List.length_filter_le _ _) hl6, rfl, by
          have := addT_len acc (pairT f.nums o 0)
          show (addT acc (pairT f.nums o 0)).length ≤ 200
          omega⟩
      | j + 2, h => cases h
    have hwt := labs_weight f.nums ks hk6
    clear g1 g2 g3 g4 g5 hav hbv hup hdn hu1 hd1 hsum hvi
    have F₁ := frKst F₀ hM1.all
    have N₁ := newsDup (newsDup N₀ (q := (dueL, listOf duev.toArray cdue)) (.tail _ (List.mem_append_left _ hD))) (q := (tT, _)) (.tail _ (.tail _ (List.mem_append_left _ hT)))
    clear F₀ N₀
    have hTup : IsTup h tT #[.str (prettyF (wholeOf f.nums ks)) tt, .ref dueL] := ⟨_, (N₁ _ (.head _)).1, rfl, 0, rfl⟩
    refine unpackN_ F₁ N₁ hTup rfl rfl rfl ?_
    intro h9 F9 N9
    clear hTup F₁ N₁
    have hnI : tx ≠ I := hne _ (.head _)
    replace hne := toNeAll hne
    k_steps
    · rename ((_ != _) = true) => hb
      rename (labs _ _ = []) => hn
      rw [due_none hks hn] at hb
      exact absurd hb (by simp)
    · rename Fr _ _ _ _ => F8
      rename News _ _ _ _ => N8
      obtain ⟨m8, em8, F7⟩ := frName F8
      clear F8
      rename (List.any _ _ = true) => hany
      refine StepX.go (news' := (tx, listOf tv.toArray ct) :: rs) F7 (nwSub N8 (l' := (tx, listOf tv.toArray ct) :: rs ++ [(I, io)]) (fun p hp => .tail _ (.tail _ (.tail _ (.tail _ hp))))) (fun p hp => hp) hne
        ⟨_, _, ⟨by rw [em8]; rfl, by rw [em8]; rfl, by rw [em8]; rfl, by rw [em8]; rfl, by rw [em8]; rfl⟩, rfl, ?_⟩
      show StrsAre tv (addT (textsAdd f.nums o acc i) (pairT f.nums o i))
      unfold addT
      rw [hpt, if_pos hany]
      exact htv1
    · rename Fr _ _ _ _ => F8
      rename News _ _ _ _ => N8
      obtain ⟨m8, em8, F7⟩ := frName F8
      clear F8
      rename (List.any _ _ = false) => hany
      replace N8 := nwSub N8 (l' := (tx, listOf tv.toArray ct) :: (rs ++ [(I, io)])) (fun p hp => .tail _ (.tail _ (.tail _ (.tail _ hp))))
      refine halted ?_
      refine append_K F7 N8 (.head ?_) ?_ (by
        have h1 := StrsAre.len_eq htv1
        rw [sizeLine_eq, List.size_toArray]
        omega)
      · intro p hp
        rcases List.mem_append.mp hp with hp | hp
        · exact hne0 p hp
        · rw [List.mem_singleton.mp hp]; exact Ne.symm (hne _ (.head _))
      intro h7 F6 N7
      k_steps
      rw [List.push_toArray] at N7
      refine StepX.go (news' := (tx, listOf (tv ++ [Value.str (prettyF (wholeOf f.nums ks)) tt]).toArray (ct + 1)) :: rs) F6 N7 (fun p hp => hp) (List.forall_mem_cons.mpr ⟨hnI, fun p hp => hne p (.tail _ hp)⟩)
        ⟨_, _, ⟨by rw [em8]; rfl, by rw [em8]; rfl, by rw [em8]; rfl, by rw [em8]; rfl, by rw [em8]; rfl⟩, rfl, ?_⟩
      show StrsAre _ (addT (textsAdd f.nums o acc i) (pairT f.nums o i))
      unfold addT
      rw [hpt, if_neg (by rw [hany]; exact Bool.false_ne_true)]
      exact StrsAre.append' htv1 (.cons _ _ .nil)
    · rename ((_ != _) = true) => hb
      rename (¬ labs _ _ = []) => hn
      rw [due_some hks hn] at hb
      exact absurd hb (by simp)
    · rename Fr _ _ _ _ => F8
      rename News _ _ _ _ => N8
      obtain ⟨m8, em8, F7⟩ := frName F8
      clear F8
      rename (List.any _ _ = true) => hany
      refine StepX.go (news' := (tx, listOf tv.toArray ct) :: rs) F7 (nwSub N8 (l' := (tx, listOf tv.toArray ct) :: rs ++ [(I, io)]) (fun p hp => .tail _ (.tail _ (.tail _ hp)))) (fun p hp => hp) hne
        ⟨_, _, ⟨by rw [em8]; rfl, by rw [em8]; rfl, by rw [em8]; rfl, by rw [em8]; rfl, by rw [em8]; rfl⟩, rfl, ?_⟩
      show StrsAre tv (addT (textsAdd f.nums o acc i) (pairT f.nums o i))
      unfold addT
      rw [hpt, if_pos hany]
      exact htv1
    · rename Fr _ _ _ _ => F8
      rename News _ _ _ _ => N8
      obtain ⟨m8, em8, F7⟩ := frName F8
      clear F8
      rename (List.any _ _ = false) => hany
      replace N8 := nwSub N8 (l' := (tx, listOf tv.toArray ct) :: (rs ++ [(I, io)])) (fun p hp => .tail _ (.tail _ (.tail _ hp)))
      refine halted ?_
      refine append_K F7 N8 (.head ?_) ?_ (by
        have h1 := StrsAre.len_eq htv1
        rw [sizeLine_eq, List.size_toArray]
        omega)
      · intro p hp
        rcases List.mem_append.mp hp with hp | hp
        · exact hne0 p hp
        · rw [List.mem_singleton.mp hp]; exact Ne.symm (hne _ (.head _))
      intro h7 F6 N7
      k_steps
      rw [List.push_toArray] at N7
      refine StepX.go (news' := (tx, listOf (tv ++ [Value.str (prettyF (wholeOf f.nums ks)) tt]).toArray (ct + 1)) :: rs) F6 N7 (fun p hp => hp) (List.forall_mem_cons.mpr ⟨hnI, fun p hp => hne p (.tail _ hp)⟩)
        ⟨_, _, ⟨by rw [em8]; rfl, by rw [em8]; rfl, by rw [em8]; rfl, by rw [em8]; rfl, by rw [em8]; rfl⟩, rfl, ?_⟩
      show StrsAre _ (addT (textsAdd f.nums o acc i) (pairT f.nums o i))
      unfold addT
      rw [hpt, if_neg (by rw [hany]; exact Bool.false_ne_true)]
      exact StrsAre.append' htv1 (.cons _ _ .nil)
  case done =>
    rintro m₁ news₁ h tk ⟨tv, ct, hM1, rfl, htv1⟩ F₁ N₁
    refine wpAny_execs_nil ?_
    exact hnext _ ⟨h, tk, m₁, tv, ct, rfl, F₁, hM1, fun p hp => N₁ p (by
      rcases List.mem_cons.mp hp with rfl | hp
      · exact .head _
      · exact .tail _ (g6 _ hp)), htv1⟩
end Mine
end
section
open PySem PySem.W PyProof.Rows PySem.Calls PySem.Spec PyProof.V
namespace Mine
theorem off_S5 : True := by w_top off; trivial
theorem assign_nm {prog : Program} {w : World} {A : Around} {s : Shared} {env : Env} {h₀ : Heap} {m : Str → Option Value} {news : List (Addr × Obj)} {z : Str} {pz : Pos} {v : Value} {E : Value → Shared → Prop} {Q : Unit → Shared → Prop} (F : Fr h₀ env.locals s.heap m) (N : News h₀ env.locals s.heap news)
    (h : ∀ h' tk', Fr h₀ env.locals h' (fun q => if q = z then some v else m q) → News h₀ env.locals h' news → Q () { s with heap := h', toks := tk' })
    (hz : env.kindOf z = some .local) (hp : (env.scope.kind == .class || (env.scope.kind == .module && env.locals != env.globals)) = false) : wpAny (model prog w) A (assign (.Name z pz) env v) Q E s := by
  refine wpAny_assign_Name (wpAny_storeName_local hz F.ns (fun h₂ hn₂ hs₂ => ?_) hp)
  have hL₀ : h₀.get? env.locals = none := Heap.get?_none_of_le F.above
  exact h h₂ _ ⟨hn₂, fun b o e => hs₂.extBut b o (fun q => by rw [q, hL₀] at e; cases e) (F.keep b o e), F.above⟩ fun p hp => ⟨hs₂.extBut _ _ (N p hp).2.1 (N p hp).1, (N p hp).2⟩
def J8 (f : Fix) (fx : List (Addr × Obj)) (tx : Addr) (tw : Tok) (i : Nat) (m : Str → Option Value) (news : List (Addr × Obj)) : Prop :=
  ∃ (tv : List Value) (ct : Nat), m (Str.ofString "texts") = some (.ref tx) ∧ m (Str.ofString "whole") = some (.int (wholeOf f.nums (idxsOf f.nums) : Int) tw) ∧ m (Str.ofString "asked") = some (.ref f.al) ∧ m (Str.ofString "foes") = some (.ref f.fl) ∧
    news = (tx, listOf tv.toArray ct) :: fx ∧ StrsAre tv (textsAt f.nums i)
def S5 (g : Heap) (s0 s' : Shared) : Prop :=
  ∃ (h : Heap) (tk : Nat) (m : Str → Option Value) (f : Fix) (av : List Value) (ca : Nat) (tl : List (Addr × Obj)) (tx : Addr) (tv : List Value) (ct : Nat),
    s' = { s0 with heap := h, toks := tk } ∧ f.g = g ∧ Fr g g.objs.size h m ∧ m (Str.ofString "texts") = some (.ref tx) ∧ m (Str.ofString "foes") = some (.ref f.fl) ∧
    News g g.objs.size h ((tx, listOf tv.toArray ct) :: f.led av ca tl) ∧ f.Ok ∧ TlOk f av ((idxsOf f.nums).map (askT f.nums)) tl ∧ StrsAre tv (textsAt f.nums 12)
theorem nmO {h₀ h : Heap} {L a b : Addr} {its its2 : List Value} {n n2 : Nat} {own r : List (Addr × Obj)} (_ : News h₀ L h ((a, listOf its.toArray n) :: (own ++ (b, listOf its2.toArray n2) :: r))) : ∃ a' its' n' own' b', a' = a ∧ its' = its ∧ n' = n ∧ own' = own ∧ b' = b := ⟨_, _, _, _, _, rfl, rfl, rfl, rfl, rfl⟩
local macro_rules | `(tactic| walk_at "call ref") => `(tactic| (k_here; k_dflt (refine orders_law (by k_asm) (by k_asm) (by k_asm) (by k_asm) (by k_asm) ?_); intro D9 vs9 c9 own9 h9 tk9 hD9 ho9 hw9 F9 N9 hl9; (try dsimp only)))
local macro_rules | `(tactic| walk_at "exec For Name Call cons nil") => `(tactic| (k_here; k_dflt (refine For_X ?_ (by intro _; rfl))))
local macro_rules | `(tactic| walk_at "exec For") => `(tactic| (k_here; k_dflt (refine For_X ?_ (by intro _; rfl))))
theorem seg5 (w : World) (mean : ExcName → Option Value) (mg mb : Str → Option Value) (g : Heap) (s0 s : Shared) (fa : Addr) (cd : Value) (Q : Flow → Shared → Prop) (E : Value → Shared → Prop)
    (hE : PassesOwn (model Challenge.rw_re0025_01.row.prog w) (callerA.deeper (lawEnv g.objs.size fa cd)) (lawEnv g.objs.size fa cd) E)
    (hnext : ∀ s', S5 g s0 s' → wpAny (model Challenge.rw_re0025_01.row.prog w) (callerA.deeper (lawEnv g.objs.size fa cd)) (execs (lawBody.drop 13) (lawEnv g.objs.size fa cd)) Q E s')
    : (hd.heap_39 w.params).In g → ∀ (T : Top hd.view_39 Lo mean mg mb g) (B : Below callerA g [] g) (hS : S4 g s0 s),
    wpAny (model Challenge.rw_re0025_01.row.prog w) (callerA.deeper (lawEnv g.objs.size fa cd)) (execs (lawBody.drop 11) (lawEnv g.objs.size fa cd)) Q E s := by
  k_fill
  intro X T B hS
  obtain ⟨h, tk, m, f, av, ca, tl, tw, rfl, rfl, F0, hm1, hm2, hm3, N, hOk, hT⟩ := hS
  obtain ⟨fx0, efx, N⟩ := nwAll N
  have F := frKst (ps := [(Str.ofString "whole", .int (wholeOf f.nums (idxsOf f.nums) : Int) tw), (Str.ofString "asked", .ref f.al), (Str.ofString "foes", .ref f.fl)]) F0 (List.forall_mem_cons.mpr ⟨hm1, List.forall_mem_cons.mpr ⟨hm2, List.forall_mem_cons.mpr ⟨hm3, List.forall_mem_nil _⟩⟩⟩)
  clear F0
  have kMk := kstMark
  with_unfolding_all dsimp only [lawEnv, lawBody, lawScope, lawPick, Challenge.pw_re0025_01, List.getLast?, List.getLast, List.drop]
  k_steps
  rename Fr _ _ _ _ => lF
  rename News _ _ _ _ => lN
  rename ListsIn _ _ _ => hls
  rename OwnOff _ _ => hwO
  rename (∀ q ∈ _ :: fx0, q.1 ≠ _) => hdO
  rename (∀ p ∈ fx0, p.1 < _) => hlx
  obtain ⟨D, ov, co, own, tx, rfl, rfl, rfl, rfl, rfl⟩ := nmO lN
  obtain ⟨m0, em, lF2⟩ := frName lF
  have e1 : m0 (Str.ofString "texts") = some (Value.ref tx) := by rw [em]; rfl
  have e2 : m0 (Str.ofString "whole") = some (.int (wholeOf f.nums (idxsOf f.nums) : Int) tw) := by rw [em]; rfl
  have e3 : m0 (Str.ofString "asked") = some (.ref f.al) := by rw [em]; rfl
  have e4 : m0 (Str.ofString "foes") = some (.ref f.fl) := by rw [em]; rfl
  clear em lF
  have lN2 := nwSub lN (l' := (tx, listOf [].toArray 0) :: ((D, listOf ov.toArray co) :: (own ++ fx0))) (by
    intro p hp
    simp only [List.mem_cons, List.mem_append] at hp ⊢
    rcases hp with h | h | h | h <;> simp [h])
  have hfx : ∀ p ∈ (D, listOf ov.toArray co) :: (own ++ fx0), p.1 ≠ tx := by
    intro p hp
    rcases List.mem_cons.mp hp with rfl | hp
    · exact Ne.symm (hdO _ (.head _))
    rcases List.mem_append.mp hp with hp | hp
    · exact hwO p hp _ (.head _)
    · exact Nat.ne_of_lt (hlx p hp)
  obtain ⟨fx, hfxe⟩ : ∃ fx, fx = (D, listOf ov.toArray co) :: (own ++ fx0) := ⟨_, rfl⟩
  rw [← hfxe] at lN2 hfx
  have g1 : (D, listOf ov.toArray co) ∈ fx := by rw [hfxe]; exact .head _
  have g2 : ∀ p ∈ own, p ∈ fx := fun p hp => by rw [hfxe]; exact .tail _ (List.mem_append_left _ hp)
  have g3 : ∀ p ∈ f.led av ca tl, p ∈ fx := fun p hp => by rw [hfxe]; exact .tail _ (List.mem_append_right _ (efx ▸ hp))
  have r1 : (f.al, listOf av.toArray ca) ∈ fx := g3 _ (.head _)
  have r2 : (f.rl, listOf f.rv.toArray f.c1) ∈ fx := g3 _ (.tail _ (.tail _ (.tail _ (.tail _ (.head _)))))
  have r3 : (f.g.objs.size + 1 + 1, f.o2) ∈ fx := g3 _ (.tail _ (.tail _ (.tail _ (.tail _ (.tail _ (.tail _ (.tail _ (.head _))))))))
  have r4 : ∀ p ∈ tl, p ∈ fx := fun p hp => g3 _ (.tail _ (.tail _ (.tail _ (.tail _ (.tail _ (.tail _ (.tail _ (.tail _ (.tail _ hp)))))))))
  have hc2 := hOk.hc2
  have hrv := hOk.hrv
  clear lN hlx hdO hwO
  refine' iter_listXc (vs := ov) (J8 f fx tx tw) (by rfl) ?hl lF2 lN2 ?h0 ?turn ?done hE
  case hl =>
    rintro i m news ⟨tv, ct, _, _, _, _, rfl, _⟩
    exact .tail _ g1
  case h0 => exact ⟨[], 0, e1, e2, e3, e4, rfl, .nil⟩
  case turn =>
    rintro I i v m₁ news₁ h tk io hio hltI hvi ⟨tv, ct, q1, q2, q3, q4, rfl, htv⟩ hne F₀ N₀
    clear lF2 lN2 hltI e1 e2 e3 e4 hm1 hm2 hm3
    obtain ⟨o, ho, d, ws, cw, rfl, hd, hws⟩ := paired_at hls hvi
    have hom := List.mem_of_getElem? ho
    refine assign_nm F₀ N₀ ?_ (by rfl) (by rfl)
    intro h9 tk9 F9 N9
    replace F9 : Fr f.g f.g.objs.size h9 _ := F9
    replace N9 : News f.g f.g.objs.size h9 ((tx, listOf tv.toArray ct) :: (fx ++ [(I, io)])) := N9
    have hM : MF (fun q => if q = Str.ofString "order" then some (Value.ref d) else m₁ q) d tx f.al f.fl (wholeOf f.nums (idxsOf f.nums) : Int) tw := ⟨rfl, q1, q2, q3, q4⟩
    have s1 : ∀ p ∈ fx, p ∈ (tx, listOf tv.toArray ct) :: (fx ++ [(I, io)]) := fun p hp => .tail _ (List.mem_append_left _ hp)
    have hO : OFix f o d ws cw ((tx, listOf tv.toArray ct) :: (fx ++ [(I, io)])) := ⟨hom, s1 _ (g2 _ hd), hws, s1 _ r2, s1 _ r3, hOk⟩
    have hA : AFix f av ca tl ((tx, listOf tv.toArray ct) :: (fx ++ [(I, io)])) := ⟨s1 _ r1, fun p hp => s1 _ (r4 p hp), hT.av⟩
    have hnI : tx ≠ I := hne _ (.head _)
    refine ordA w mean mg mb _ fa cd _ _ f o d tx ws cw tw _ _ ?_ X T B F9 N9 hM hO
    intro s1' hO1
    refine ordB w mean mg mb _ _ fa cd _ _ f hE o d tx ws cw tw _ av ca tl ?_ X T B hO1 hO hA
    intro s2' hO2
    refine ordC w mean mg mb _ _ fa cd _ _ f hE o d tx tw (textsAt f.nums i) tv ct (fx ++ [(I, io)]) ?_ X T B hO2 htv (Nat.le_trans (textsAt_len _ _) (by decide)) (fun p hp => by
      rcases List.mem_append.mp hp with hp | hp
      · exact hfx p hp
      · rw [List.mem_singleton.mp hp]; exact Ne.symm hnI)
    rintro s3' ⟨h3, tk3, m3, tv3, ct3, rfl, F3, hM3, N3, htv3⟩
    refine wpAny_execs_nil ?_
    refine StepX.go (news' := (tx, listOf tv3.toArray ct3) :: fx) F3 N3 (fun p hp => hp) (List.forall_mem_cons.mpr ⟨hnI, fun p hp => hne p (.tail _ hp)⟩)
      ⟨tv3, ct3, hM3.texts, hM3.whole, hM3.asked, hM3.foes, rfl, ?_⟩
    rw [textsAt_succ ho]
    exact htv3
  case done =>
    rintro m₁ news₁ h tk ⟨tv, ct, q1, q2, q3, q4, rfl, htv⟩ F₁ N₁
    refine wpAny_execs_nil ?_
    have e : ov.length = 12 := by rw [Paired.length hls, orders12_len]
    rw [e] at htv
    exact hnext _ ⟨h, tk, m₁, f, av, ca, tl, tx, tv, ct, rfl, rfl, F₁, q1, q4, fun p hp => N₁ p (by
      rcases List.mem_cons.mp hp with rfl | hp
      · exact .head _
      · exact .tail _ (g3 _ hp)), hOk, hT, htv⟩
end Mine
end
section
open PySem PySem.W PyProof.Rows PySem.Calls PySem.Spec PyProof.V
namespace Mine
theorem off_C7a : True := by w_top off; trivial
def sgPick (p : Program) : Option (List Stmt × Scope) := match p.main.body.dropLast.getLast? with
  | some (.FunctionDef _ _ b _ _ _ sc _ _ _) => some (b, sc)
  | _ => none
noncomputable def sgBody : List Stmt := match sgPick Challenge.pw_re0025_01 with | some x => x.1 | none => []
noncomputable def sgScope : Scope := match sgPick Challenge.pw_re0025_01 with | some x => x.2 | none => default
noncomputable abbrev sgEnv (L : Addr) : Env := envOfC (Str.ofString "_law_signed_partings") sgScope L 87 (.ref 86)
noncomputable def whoBody : List Stmt := forBody (sgBody[1]?)
noncomputable def heapsBody : List Stmt := forBody (whoBody[1]?)
noncomputable def kBody : List Stmt := forBody (heapsBody[1]?)
/-- a list of heaps on the ledger -/
def HL (tl : List (Addr × Obj)) (v : Value) (hs : List (List Nat)) : Prop := ∃ d ws c, v = Value.ref d ∧ (d, listOf ws.toArray c) ∈ tl ∧ ListsIn tl ws hs
def PL (tl : List (Addr × Obj)) (vs : List Value) (ps : List (List (List Nat))) : Prop := Paired (HL tl) vs ps
theorem ListsIn.mono {tl tl' : List (Addr × Obj)} {vs : List Value} {os : List (List Nat)} (h : ListsIn tl vs os) (hs : ∀ p ∈ tl, p ∈ tl') : ListsIn tl' vs os :=
  Paired.mono (fun v o ⟨d, ws, c, e1, e2, e3⟩ => ⟨d, ws, c, e1, hs _ e2, e3⟩) h
theorem HL.mono {tl tl' : List (Addr × Obj)} {v : Value} {hs : List (List Nat)} (h : HL tl v hs) (hs' : ∀ p ∈ tl, p ∈ tl') : HL tl' v hs := by
  obtain ⟨d, ws, c, e1, e2, e3⟩ := h
  exact ⟨d, ws, c, e1, hs' _ e2, e3.mono hs'⟩
theorem PL.mono {tl tl' : List (Addr × Obj)} {vs : List Value} {ps : List (List (List Nat))} (h : PL tl vs ps) (hs : ∀ p ∈ tl, p ∈ tl') : PL tl' vs ps := Paired.mono (fun _ _ h => h.mono hs) h
theorem Paired.take {α β : Type} {F : α → β → Prop} : ∀ {l₁ : List α} {l₂ : List β}, Paired F l₁ l₂ → ∀ k, Paired F (l₁.take k) (l₂.take k)
  | _, _, .nil, _ => by rw [List.take_nil, List.take_nil]; exact .nil
  | _, _, .cons _ _, 0 => .nil
  | _, _, .cons h t, k + 1 => .cons h (Paired.take t k)
theorem Paired.drop {α β : Type} {F : α → β → Prop} : ∀ {l₁ : List α} {l₂ : List β}, Paired F l₁ l₂ → ∀ k, Paired F (l₁.drop k) (l₂.drop k)
  | _, _, .nil, _ => by rw [List.drop_nil, List.drop_nil]; exact .nil
  | _, _, .cons h t, 0 => .cons h t
  | _, _, .cons _ t, k + 1 => Paired.drop t k
theorem Paired.app {α β : Type} {F : α → β → Prop} : ∀ {l₁ m₁ : List α} {l₂ m₂ : List β}, Paired F l₁ l₂ → Paired F m₁ m₂ → Paired F (l₁ ++ m₁) (l₂ ++ m₂)
  | _, _, _, _, .nil, h => h
  | _, _, _, _, .cons h t, h' => .cons h (Paired.app t h')
theorem slice_upto {its : List Value} {y : Int} (h : 0 ≤ y) : slicePick its.toArray none (some y) none = (its.take y.toNat).toArray := by
  have e : sliceBounds none (some y) none its.toArray.size = (((0 : Nat) : Int), ((min y.toNat its.toArray.size : Nat) : Int), 1) := by
    simp only [sliceBounds, Option.getD_none, show (1 : Int) > 0 by decide, if_true, if_neg (show ¬ (y < 0) by omega)]
    congr 1
    congr 1
    omega
  rw [kmk_pick_nat _ e, List.drop_zero, Nat.sub_zero, List.size_toArray, kmk_take_min]
theorem slice_from {its : List Value} {x : Int} (h : 0 ≤ x) : slicePick its.toArray (some x) none none = (its.drop x.toNat).toArray := by
  have e : sliceBounds (some x) none none its.toArray.size = (((min x.toNat its.toArray.size : Nat) : Int), ((its.toArray.size : Nat) : Int), 1) := by
    simp only [sliceBounds, Option.getD_none, show (1 : Int) > 0 by decide, if_true, if_neg (show ¬ (x < 0) by omega)]
    congr 1
    omega
  rw [kmk_pick_nat _ e, List.size_toArray, kmk_drop_min, List.take_of_length_le (by rw [List.length_drop]; omega)]
/-- the names of the frame -/
structure MS (m : Str → Option Value) (pl lo : Addr) : Prop where
  partings : m (Str.ofString "partings") = some (.ref pl)
  longer : m (Str.ofString "longer") = some (.ref lo)
abbrev MS.ps (pl lo : Addr) : List (Str × Value) := [(Str.ofString "partings", .ref pl), (Str.ofString "longer", .ref lo)]
theorem MS.all {m : Str → Option Value} {pl lo : Addr} (h : MS m pl lo) : ∀ p ∈ MS.ps pl lo, m p.1 = some p.2 := List.forall_mem_cons.mpr ⟨h.partings, List.forall_mem_cons.mpr ⟨h.longer, List.forall_mem_nil _⟩⟩
structure MK (m : Str → Option Value) (hL : Addr) (k : Int) (tk : Tok) : Prop where
  heaps : m (Str.ofString "heaps") = some (.ref hL)
  k : m (Str.ofString "k") = some (.int k tk)
abbrev MK.ps (hL : Addr) (k : Int) (tk : Tok) : List (Str × Value) := [(Str.ofString "heaps", .ref hL), (Str.ofString "k", .int k tk)]
theorem MK.all {m : Str → Option Value} {hL : Addr} {k : Int} {tk : Tok} (h : MK m hL k tk) : ∀ p ∈ MK.ps hL k tk, m p.1 = some p.2 := List.forall_mem_cons.mpr ⟨h.heaps, List.forall_mem_cons.mpr ⟨h.k, List.forall_mem_nil _⟩⟩
/-- what stands fixed in the callee -/
structure SgFix (fl : Addr) (fs : List (Int × Int)) (L' : Addr) (who : Nat) (base tl : List (Addr × Obj)) : Prop where
  foes : ∃ fv cf tlF, (fl, listOf fv.toArray cf) ∈ base ∧ DatAll tlF fv (fs.map pairD) ∧ ∀ p ∈ tlF, p ∈ base
  few : fs.length ≤ 100
  cellF : ∃ o, (L' + 1, o) ∈ base ∧ o.data = .cell (some (.ref fl))
  cellW : ∃ o t, (L' + 1 + 1, o) ∈ base ∧ o.data = .cell (some (.int (who : Int) t))
  sub : ∀ p ∈ tl, p ∈ base
def KOut (g : Heap) (fl : Addr) (fs : List (Int × Int)) (L' pl lo hL : Addr) (base tl : List (Addr × Obj)) (P : List (List (List Nat))) (s0 s' : Shared) : Prop :=
  ∃ (h : Heap) (tk : Nat) (m : Str → Option Value) (lov : List Value) (c : Nat) (add : List (Addr × Obj)), s' = { s0 with heap := h, toks := tk } ∧ Fr g L' h m ∧ MS m pl lo ∧ m (Str.ofString "heaps") = some (.ref hL) ∧
    News g L' h ((lo, listOf lov.toArray c) :: (add ++ base)) ∧ OwnOff add (lo :: base.map (·.1)) ∧ PL (add ++ tl) lov P
def hitP (fs : List (Int × Int)) (who : Nat) (v : Value) : Bool := match v with | .int one _ => decide ((one, (who : Int)) ∈ fs) | _ => false
theorem hit_ints {fs : List (Int × Int)} {who : Nat} : ∀ {vs ys : List Value} {o : List Nat}, IntsAre vs (o.map Int.ofNat) → Paired (fun v y => y = v) (vs.filter (hitP fs who)) ys → IntsAre ys ((hitF fs o who).map Int.ofNat)
  | _, _, [], hi, hp => by
    cases hi
    cases hp
    exact .nil
  | _, _, k :: o, hi, hp => by
    cases hi with
    | cons n t hi =>
      unfold hitF
      have e : hitP fs who (Value.int (Int.ofNat k) t) = decide ((((k : Nat) : Int), (who : Int)) ∈ fs) := rfl
      cases hb : decide ((((k : Nat) : Int), (who : Int)) ∈ fs) with
      | true =>
        rw [List.filter_cons_of_pos (by rw [e, hb])] at hp
        rw [List.filter_cons_of_pos (by simpa using hb)]
        cases hp with
        | cons hf hr =>
          subst hf
          exact .cons _ _ (hit_ints hi hr)
      | false =>
        rw [List.filter_cons_of_neg (by rw [e, hb]; exact Bool.false_ne_true)] at hp
        rw [List.filter_cons_of_neg (by simpa using hb)]
        exact hit_ints hi hp
theorem foe_ok (fs : List (Int × Int)) : ∀ e ∈ fs.map pairD, kqdOk 8 e = true := by
  intro e he
  obtain ⟨p, _, rfl⟩ := List.mem_map.mp he
  rfl
theorem foe_mem {fs : List (Int × Int)} {a b : Int} : W.Dat.tuple [.int a, .int b] ∈ fs.map pairD ↔ (a, b) ∈ fs := by
  constructor
  · intro h
    obtain ⟨p, hp, e⟩ := List.mem_map.mp h
    simp only [pairD, W.Dat.tuple.injEq, List.cons.injEq, W.Dat.int.injEq, and_true] at e
    obtain ⟨e1, e2⟩ := e
    subst e1 e2
    exact hp
  · intro h
    exact List.mem_map.mpr ⟨_, h, rfl⟩
theorem addL {prog : Program} {w : World} {A : Around} {E : Value → Shared → Prop} {s : Shared} {h₀ : Heap} {L l b : Addr} {m : Str → Option Value} {news : List (Addr × Obj)} {xs ys : List Value} {n n2 : Nat} {Q : Value → Shared → Prop} (F : Fr h₀ L s.heap m) (N : News h₀ L s.heap news)
    (hl : (l, listOf xs.toArray n) ∈ news) (hb : (b, listOf ys.toArray n2) ∈ news) (h : ∀ D h', Fr h₀ L h' m → News h₀ L h' ((D, listOf (xs ++ ys).toArray 0) :: news) → (∀ p ∈ news, p.1 < D) → Q (.ref D) { s with heap := h' }) (hz : xs.length + ys.length ≤ 16777216) :
    wpAny (model prog w) A (binaryOp .Add (.ref l) (.ref b)) Q E s :=
  add_arrays F N (News.isList N hl) (News.isList N hb) (fun h' F' N' => h _ h' F' N' fun p hp => Heap.lt_size (N p hp).1) (by rw [sizeLine_eq, List.size_toArray, List.size_toArray]; exact hz)
local macro_rules | `(tactic| walk_at "subscriptTail") => `(tactic| (k_here; k_dflt (refine anyItem (by k_asm) (by k_mem) (by (try dsimp only); omega) (by assumption) (by (try dsimp only); omega) ?_ (by with_unfolding_all rfl)); (try dsimp only)))
local macro_rules | `(tactic| walk_at "eval Name") => `(tactic| (k_here; k_dflt (refine compLocal (by assumption) (by assumption) ?_)))
local macro_rules | `(tactic| walk_at "eval ListComp") => `(tactic| (k_here; k_dflt (refine unhalt ?_)))
local macro_rules | `(tactic| walk_at "compareOp In") => `(tactic| (k_here; k_dflt (refine unhalt ?_)))
local macro_rules | `(tactic| walk_at "call builtin:list.append") => `(tactic| (k_here; k_dflt (refine unhalt ?_)))
local macro_rules | `(tactic| walk_at "subscriptTail Name Slice ref ref") => `(tactic| (k_here; k_dflt (refine unhalt ?_)))
local macro_rules | `(tactic| walk_at "newTuple") => `(tactic| (k_here; k_dflt (refine unhalt ?_)))
theorem kturn (w : World) (mean : ExcName → Option Value) (mg mb : Str → Option Value) (g : Heap) (s0 s : Shared) (Q : Flow → Shared → Prop) (E : Value → Shared → Prop)
    (dp un : Nat) (gd : Option (List Code)) (cn : Str) (cs : Scope) (L0 a : Addr) (ccd : Value) (cl : List (Str × Addr)) (outer : List Env) (bs : Heap)
    (fl : Addr) (fs : List (Int × Int)) (L' pl lo hL : Addr) (who k : Nat) (tk : Tok) (base tl : List (Addr × Obj)) (P : List (List (List Nat))) (lov hv : List Value) (c ch : Nat) (hs : List (List Nat)) (m : Str → Option Value)
    (hnext : ∀ s', KOut g fl fs L' pl lo hL base tl (P ++ (if (hitF fs (hs.getD k []) who).isEmpty then [joinH hs k who] else [])) s s' → Q .next s')
    : (hd.heap_39 w.params).In g → ∀ (T : Top hd.view_39 Lo mean mg mb g) (B : Below (ktrTop dp un gd cn cs L0 a ccd cl outer) bs (envX cn cs L0 a ccd cl :: outer) g) (hdp : dp + 1 < recursionLimit) (hun : un + 100 < cLine)
      (F0 : Fr g L' s.heap m) (hM : MS m pl lo) (hK : MK m hL (k : Int) tk) (N0 : News g L' s.heap ((lo, listOf lov.toArray c) :: base)) (hS : SgFix fl fs L' who base tl) (hP : PL tl lov P)
      (hh : (hL, listOf hv.toArray ch) ∈ base) (hl : ListsIn tl hv hs) (hk : k < hs.length) (hlo : ∀ p ∈ base, p.1 ≠ lo) (n1 : lov.length ≤ 1000) (n2 : hs.length ≤ 10) (n3 : ∀ x ∈ hs, x.length ≤ 10),
    wpAny (model Challenge.rw_re0025_01.row.prog w) ((ktrTop dp un gd cn cs L0 a ccd cl outer).deeper (sgEnv L')) (execs kBody (sgEnv L')) Q E s := by
  k_fill
  intro X T B hdp hun F0 hM hK N0 hS hP hh hl hk hlo n1 n2 n3
  have F := frKst F0 (all_app hM.all hK.all)
  clear F0
  have kMk := kstMark
  obtain ⟨⟨fv, cf, tlF, hfl, hfd, hfs⟩, hfew, ⟨oF, hoF, hdF⟩, ⟨oW, tW, hoW, hdW⟩, hsub⟩ := hS
  obtain ⟨e, he1, he2⟩ : ∃ e, hv[k]? = some e ∧ ∃ d ws c, e = Value.ref d ∧ (d, listOf ws.toArray c) ∈ tl ∧ IntsAre ws ((hs.getD k []).map Int.ofNat) := by
    have hlen : hv.length = hs.length := Paired.length hl
    have h1 : hv[k]? = some (hv[k]'(by omega)) := List.getElem?_eq_getElem (by omega)
    obtain ⟨o, ho, hx⟩ := paired_at hl h1
    refine ⟨_, h1, ?_⟩
    have : hs.getD k [] = o := by rw [List.getD_eq_getElem?_getD, ho]; rfl
    rw [this]
    exact hx
  obtain ⟨d, ws, cw, rfl, hdm, hws⟩ := he2
  have hk10 : (hs.getD k []).length ≤ 10 := by
    rw [List.getD_eq_getElem?_getD, List.getElem?_eq_getElem hk]
    exact n3 _ (List.getElem_mem _)
  have hkk : ((k : Int)).toNat = k := Int.toNat_natCast k
  have he3 : hv[((k : Int)).toNat]? = some (Value.ref d) := by rw [hkk]; exact he1
  generalize hgo : hs.getD k [] = o at hws hk10
  have N1 := newsDup (newsDup (newsDup (newsDup (newsDup N0 (q := (fl, listOf fv.toArray cf)) (.tail _ hfl)) (q := (L' + 1, oF)) (.tail _ (.tail _ hoF))) (q := (L' + 1 + 1, oW)) (.tail _ (.tail _ (.tail _ hoW)))) (q := (hL, listOf hv.toArray ch)) (.tail _ (.tail _ (.tail _ (.tail _ hh)))))
    (q := (d, listOf ws.toArray cw)) (.tail _ (.tail _ (.tail _ (.tail _ (.tail _ (hsub _ hdm))))))
  clear N0
  with_unfolding_all dsimp only [kBody, heapsBody, whoBody, sgBody, forBody, sgEnv, sgScope, sgPick, Challenge.pw_re0025_01, List.getLast?, List.getLast, List.dropLast, List.drop]
  k_steps
  refine halted ?_
  refine' wpAny_ListComp_free (hitP fs who) (fun v y => y = v) ?hclos ?hcell ?hkind ?hnames ?hx ?hC
  case hclos => with_unfolding_all rfl
  case hcell => decide
  case hkind => rfl
  case hnames => decide
  case hx => rfl
  case hC =>
    k_steps
    rename Fr _ _ _ _ => F2
    rename News _ _ _ _ => N2
    have hls2 := News.isList N2 (a := d) (items := ws.toArray) (.head _)
    refine wpAny_pyIter_list hls2 ?_
    refine ⟨_, _, _, _, _, _, rfl, Walks.list rfl _ d (Nat.ne_of_lt (Heap.lt_size (N2 _ (.head _)).1)) ws.toArray, ?sz, ⟨⟨_, Heap.get?_push_size _ rfl, rfl, rfl⟩, hls2.push _⟩, ?fp, ⟨?tests, ?elt⟩, ?fin⟩
    case sz => rw [sizeLine_eq, List.size_toArray, IntsAre.length hws, List.length_map]; omega
    case fp =>
      intro b hb
      rw [Heap.size_push]
      rcases List.mem_cons.mp hb with rfl | hb
      · exact Nat.lt_succ_self _
      · rw [List.mem_singleton.mp hb]; exact Nat.lt_succ_of_lt (Heap.lt_size (N2 _ (.head _)).1)
    case tests =>
      intro C j v s₃ m₃ E' hC hP hns hm₃ hk htk
      have N₃ := keepL N2 rfl hk
      have F₃ := keepFr F2 rfl hk
      have hP' : ws[j]? = some v := by simpa using hP
      obtain ⟨one, t, hjk, rfl⟩ := int_at hws hP'
      clear hk N2 F2 hls2
      simp only [List.forIn_cons, List.forIn_nil, if_true]
      refine wpAny_bind (wpAny_bind (wpAny_mono (Q := fun ok s₄ => ok = hitP fs who (.int (one : Int) t) ∧ Keeps s₃ s₄) ?_ (fun ok s₄ hq => wpAny_pure (wpAny_pure hq)) (fun _ _ e => e)))
      k_steps
      rename Fr _ _ _ _ => F8
      rename News _ _ _ _ => N8
      refine halted ?_
      refine newTuple_NK F8 N8 ?_ (by rw [sizeLine_eq]; show 2 ≤ 16777216; decide)
      intro h7 F7 N7 hkeep
      clear F8 N8
      k_steps
      refine halted ?_
      refine in_dat (b := hitP fs who (.int (one : Int) t)) N7 (.tail _ (.tail _ (.tail _ (.tail _ (.tail _ (.head _)))))) hfd (fun p hp => .tail _ (.tail _ (.tail _ (.tail _ (.tail _ (.tail _ (.tail _ (hfs p hp)))))))) (DatIn.tuple (vs := [_, _]) (.head _) (.cons (.int _ _) (.cons (.int _ _) .nil))) (fun _ h => h) (foe_ok fs) (by rfl) ?_ (by show un + 3 + 64 < cLine; omega) ?_
      · rw [foe_mem]; exact decide_eq_true_iff
      k_steps
      exact ⟨_, _, rfl, hkeep⟩
    case elt =>
      intro C j v s₃ m₃ E' hC hP hp hns hm₃ hk htk
      have N₃ := keepL N2 rfl hk
      have F₃ := keepFr F2 rfl hk
      clear hk N2 F2 hls2
      k_steps
      exact ⟨_, _, rfl, fun _ _ e => e⟩
    case fin =>
      intro D2 h' tk' ys vs hD hl2 hpl hlen hP2 hF hk2
      dsimp only
      obtain ⟨cf2, hpl⟩ := hpl
      obtain ⟨F9, N9, hd9⟩ := compFin0 F2 N2 rfl hD hpl hk2
      clear F2 N2
      have evs : vs = ws := by
        refine List.ext_getElem? fun j => ?_
        by_cases hj : j < vs.length
        · have := hP2 j vs[j] (List.getElem?_eq_getElem hj)
          rw [List.getElem?_eq_getElem hj]
          simpa using this.symm
        · rw [List.getElem?_eq_none (by omega), List.getElem?_eq_none]
          rw [List.size_toArray] at hlen
          omega
      rw [evs] at hF
      have hys := hit_ints (fs := fs) (who := who) hws hF
      clear hk2 hD hP2 hls2 hF evs hpl hl2 hlen
      k_steps
      · rename Fr _ _ _ _ => F8
        rename News _ _ _ _ => N8
        rename (decide _ = true) => hcond
        replace N8 := nwSub N8 (l' := (d, listOf ws.toArray cw) :: (hL, listOf hv.toArray ch) :: (L' + 1 + 1, oW) :: (lo, listOf lov.toArray c) :: base) (fun p hp => by
          simp only [List.mem_cons] at hp ⊢
          rcases hp with h | h | h | h | h <;> simp [h])
        refine halted ?_
        refine kmk_slice_lit (zs := hv.take k) F8 N8 (News.isList N8 (.tail _ (.head _))) .none (.int _ _) (by rw [slice_upto (Int.natCast_nonneg k), hkk]) ?_ (by with_unfolding_all rfl) (by intro _; with_unfolding_all rfl) (by
          have := Paired.length hl
          rw [sizeLine_eq, List.size_toArray]
          omega)
        intro D3 h3 F3 N3 l3
        dsimp only
        clear F8 N8
        k_steps
        rename Fr _ _ _ _ => F8
        rename News _ _ _ _ => N8
        obtain ⟨l8, rfl⟩ := nwName N8
        obtain ⟨Dw, rfl⟩ := nwName2 N8
        rename (IntsAre _ (_ ++ [_])) => hwi
        obtain ⟨wn, hwn⟩ := intsName hwi
        subst hwn
        rename (_ < Dw ∧ D3 < Dw ∧ _) => hDw
        have hlen : hv.length = hs.length := Paired.length hl
        refine addL (xs := hv.take k) (ys := [.ref Dw]) F8 N8 (.tail _ (.tail _ (.tail _ (.head _)))) (.head _) ?_ (by rw [List.length_take]; simp only [List.length_singleton]; omega)
        intro D5 h5 F5 N5 l5
        clear F8 N8
        k_steps
        rename Fr _ _ _ _ => F8
        rename News _ _ _ _ => N8
        refine halted ?_
        refine kmk_slice_lit (zs := hv.drop (k + 1)) F8 N8 (News.isList N8 (.tail _ (.tail _ (.tail _ (.tail _ (.tail _ (.tail _ (.head _)))))))) (.int _ _) .none (by
          have : ((k : Int) + 1).toNat = k + 1 := by omega
          rw [slice_from (by omega), this]) ?_ (by with_unfolding_all rfl) (by intro _; with_unfolding_all rfl) (by
          rw [sizeLine_eq, List.size_toArray]
          omega)
        intro D6 h6 F6 N6 l6
        dsimp only
        clear F8 N8
        refine addL (xs := hv.take k ++ [.ref Dw]) (ys := hv.drop (k + 1)) F6 N6 (.tail _ (.head _)) (.head _) ?_ (by rw [List.length_append, List.length_take, List.length_drop]; simp only [List.length_singleton]; omega)
        intro Dn h7 F7 N7 l7
        clear F6 N6
        k_steps
        refine halted ?_
        have N9 := nwSub N7 (l' := (lo, listOf lov.toArray c) :: ([(Dn, listOf (hv.take k ++ [Value.ref Dw] ++ hv.drop (k + 1)).toArray 0), (Dw, listOf wn.toArray 0)] ++ base)) (fun p hp => by
          simp only [List.mem_cons, List.cons_append, List.nil_append] at hp ⊢
          rcases hp with h | h | h | h <;> simp [h])
        clear N7
        have j1 := ltN hDw.2.2.2.2.2.1
        have j2 := kst_ltOf hDw.2.2.2.2.2.2
        have j3 := ltN (l7 (lo, listOf lov.toArray c) (by simp))
        have j4 : ∀ p ∈ base, p.1 < Dn := fun p hp => l7 p (by simp [hp])
        refine append_K F7 N9 (.head ?_) ?_ (by rw [sizeLine_eq, List.size_toArray]; omega)
        · intro p hp
          simp only [List.mem_cons, List.cons_append, List.nil_append] at hp
          rcases hp with h | h | h
          · subst h; exact Ne.symm (Nat.ne_of_lt j3)
          · subst h; exact Ne.symm (Nat.ne_of_lt j1)
          · exact hlo p h
        intro h9 F9 N10
        k_steps
        rw [List.push_toArray] at N10
        refine hnext _ ⟨_, _, _, lov ++ [.ref Dn], c + 1, [(Dn, listOf (hv.take k ++ [Value.ref Dw] ++ hv.drop (k + 1)).toArray 0), (Dw, listOf wn.toArray 0)], rfl, F9, ⟨rfl, rfl⟩, rfl, N10, ?_, ?_⟩
        · intro p hp b hb
          simp only [List.mem_cons, List.not_mem_nil, or_false] at hp
          rcases List.mem_cons.mp hb with rfl | hb
          · rcases hp with rfl | rfl
            · exact Ne.symm (Nat.ne_of_lt j3)
            · exact Ne.symm (Nat.ne_of_lt j1)
          · obtain ⟨q, hq, rfl⟩ := List.mem_map.mp hb
            rcases hp with rfl | rfl
            · exact Ne.symm (Nat.ne_of_lt (j4 q hq))
            · exact Ne.symm (Nat.ne_of_lt (j2 q hq))
        · have hcn : (hitF fs (hs.getD k []) who).isEmpty = true := by
            rw [hgo]
            have := of_decide_eq_true hcond
            rw [List.map_eq_nil_iff] at this
            rw [this]; rfl
          rw [if_pos hcn]
          have hmono : ∀ p ∈ tl, p ∈ [(Dn, listOf (hv.take k ++ [Value.ref Dw] ++ hv.drop (k + 1)).toArray 0), (Dw, listOf wn.toArray 0)] ++ tl := fun p hp => List.mem_append_right _ hp
          refine Paired.snoc (hP.mono hmono) ⟨Dn, _, 0, rfl, .head _, ?_⟩
          refine Paired.app (Paired.app (Paired.take (hl.mono hmono) k) (.cons ⟨Dw, wn, 0, rfl, .tail _ (.head _), ?_⟩ .nil)) (Paired.drop (hl.mono hmono) (k + 1))
          rw [hgo, List.map_append]
          exact hwi
      · rename Fr _ _ _ _ => F8
        rename News _ _ _ _ => N8
        rename (decide _ = false) => hcond
        have hcn : ¬ (hitF fs (hs.getD k []) who).isEmpty = true := by
          rw [hgo]
          have := of_decide_eq_false hcond
          rw [List.map_eq_nil_iff] at this
          rw [List.isEmpty_iff]
          exact this
        refine hnext _ ⟨_, _, _, lov, c, [], rfl, F8, ⟨rfl, rfl⟩, rfl, nwSub N8 (fun p hp => ?_), (fun p hp => nomatch hp), ?_⟩
        · simp only [List.mem_cons, List.nil_append] at hp ⊢
          rcases hp with h | h <;> simp [h]
        · rw [if_neg hcn, List.append_nil]
          exact hP
end Mine
end
section
open PySem PySem.W PyProof.Rows PySem.Calls PySem.Spec PyProof.V
namespace Mine
theorem off_C7b : True := by w_top off; trivial
theorem growK_succ (fs : List (Int × Int)) (who : Nat) (hs : List (List Nat)) (i : Nat) : growK fs who hs (i + 1) = growK fs who hs i ++ (if (hitF fs (hs.getD i []) who).isEmpty then [joinH hs i who] else []) := by
  unfold growK
  rw [List.range_succ, List.filter_append, List.map_append]
  congr 1
  by_cases h : (hitF fs (hs.getD i []) who).isEmpty = true
  · rw [if_pos h]
    have e : List.filter (fun k => (hitF fs (hs.getD k []) who).isEmpty) [i] = [i] := List.filter_cons_of_pos (p := fun k => (hitF fs (hs.getD k []) who).isEmpty) h
    rw [e]; rfl
  · rw [if_neg h]
    have e : List.filter (fun k => (hitF fs (hs.getD k []) who).isEmpty) [i] = [] := List.filter_cons_of_neg (p := fun k => (hitF fs (hs.getD k []) who).isEmpty) h
    rw [e]; rfl
theorem growK_len (fs : List (Int × Int)) (who : Nat) (hs : List (List Nat)) (i : Nat) : (growK fs who hs i).length ≤ i := by
  unfold growK
  rw [List.length_map]
  exact Nat.le_trans (List.length_filter_le _ _) (by simp)
theorem SgFix.mono {fl : Addr} {fs : List (Int × Int)} {L' : Addr} {who : Nat} {base base' tl tl' : List (Addr × Obj)} (h : SgFix fl fs L' who base tl) (hb : ∀ p ∈ base, p ∈ base') (ht : ∀ p ∈ tl', p ∈ base') : SgFix fl fs L' who base' tl' := by
  obtain ⟨⟨fv, cf, tlF, h1, h2, h3⟩, h4, ⟨o, h5, h6⟩, ⟨o2, t2, h7, h8⟩, _⟩ := h
  exact ⟨⟨fv, cf, tlF, hb _ h1, h2, fun p hp => hb _ (h3 p hp)⟩, h4, ⟨o, hb _ h5, h6⟩, ⟨o2, t2, hb _ h7, h8⟩, ht⟩
def JK (fl : Addr) (fs : List (Int × Int)) (L' pl lo hL : Addr) (who : Nat) (base tl : List (Addr × Obj)) (P : List (List (List Nat))) (hs : List (List Nat)) (i : Nat) (m : Str → Option Value) (news : List (Addr × Obj)) : Prop :=
  ∃ (lov : List Value) (c : Nat) (add : List (Addr × Obj)), MS m pl lo ∧ m (Str.ofString "heaps") = some (.ref hL) ∧ news = (lo, listOf lov.toArray c) :: (add ++ base) ∧ OwnOff add (lo :: base.map (·.1)) ∧ PL (add ++ tl) lov (P ++ ([hs ++ [[who]]] ++ growK fs who hs i))
theorem range_ok12 {n : Nat} (h : n ≤ 10) : Builtin.Range.small 0 (n : Int) 1 = true ∧ Builtin.Range.rangeSize 0 (n : Int) 1 = (n : Int) := by
  have q : ∀ n : _root_.Fin 11, Builtin.Range.small 0 (n.1 : Int) 1 = true ∧ Builtin.Range.rangeSize 0 (n.1 : Int) 1 = (n.1 : Int) := by decide
  exact q ⟨n, by omega⟩
theorem own_off {D lo : Addr} {o : Obj} {base : List (Addr × Obj)} (h1 : lo < D) (h2 : ∀ p ∈ base, p.1 < D) : OwnOff [(D, o)] (lo :: base.map (·.1)) := by
  intro p hp b hb
  rw [List.mem_singleton.mp hp]
  rcases List.mem_cons.mp hb with rfl | hb
  · exact Ne.symm (Nat.ne_of_lt h1)
  · obtain ⟨q, hq, rfl⟩ := List.mem_map.mp hb
    exact Ne.symm (Nat.ne_of_lt (h2 q hq))
local macro_rules | `(tactic| walk_at "call builtin:list.append") => `(tactic| (k_here; k_dflt (refine unhalt ?_)))
local macro_rules | `(tactic| walk_at "exec For Name Call cons nil") => `(tactic| (k_here; k_dflt (refine For_X ?_ (by intro _; rfl))))
local macro_rules | `(tactic| walk_at "pyIter ref") => `(tactic| (k_here; k_dflt (refine unhalt ?_)))
local macro_rules | `(tactic| walk_at "binaryOp Add ref ref") => `(tactic| (k_here; k_dflt (refine unhalt ?_)))
theorem hturn (w : World) (mean : ExcName → Option Value) (mg mb : Str → Option Value) (g : Heap) (s : Shared) (Q : Flow → Shared → Prop) (E : Value → Shared → Prop)
    (dp un : Nat) (gd : Option (List Code)) (cn : Str) (cs : Scope) (L0 a : Addr) (ccd : Value) (cl : List (Str × Addr)) (outer : List Env) (bs : Heap)
    (fl : Addr) (fs : List (Int × Int)) (L' pl lo hL : Addr) (who : Nat) (base tl : List (Addr × Obj)) (P : List (List (List Nat))) (lov hv : List Value) (c ch : Nat) (hs : List (List Nat)) (m : Str → Option Value)
    (hE : PassesOwn (model Challenge.rw_re0025_01.row.prog w) ((ktrTop dp un gd cn cs L0 a ccd cl outer).deeper (sgEnv L')) (sgEnv L') E)
    (hnext : ∀ s', KOut g fl fs L' pl lo hL base tl (P ++ growH fs who hs) s s' → Q .next s')
    : (hd.heap_39 w.params).In g → ∀ (T : Top hd.view_39 Lo mean mg mb g) (B : Below (ktrTop dp un gd cn cs L0 a ccd cl outer) bs (envX cn cs L0 a ccd cl :: outer) g) (hdp : dp + 1 < recursionLimit) (hun : un + 100 < cLine)
      (F0 : Fr g L' s.heap m) (hM : MS m pl lo) (hK : m (Str.ofString "heaps") = some (.ref hL)) (N0 : News g L' s.heap ((lo, listOf lov.toArray c) :: base)) (hS : SgFix fl fs L' who base tl) (hP : PL tl lov P)
      (hh : (hL, listOf hv.toArray ch) ∈ base) (hl : ListsIn tl hv hs) (hlo : ∀ p ∈ base, p.1 ≠ lo) (n1 : P.length ≤ 500) (n2 : hs.length ≤ 10) (n3 : ∀ x ∈ hs, x.length ≤ 10),
    wpAny (model Challenge.rw_re0025_01.row.prog w) ((ktrTop dp un gd cn cs L0 a ccd cl outer).deeper (sgEnv L')) (execs heapsBody (sgEnv L')) Q E s := by
  k_fill
  intro X T B hdp hun F0 hM hK N0 hS hP hh hl hlo n1 n2 n3
  have F := frKst F0 (all_app hM.all (List.forall_mem_cons.mpr ⟨hK, List.forall_mem_nil _⟩) (l2 := [(Str.ofString "heaps", .ref hL)]))
  clear F0
  have kMk := kstMark
  have hS0 := hS
  obtain ⟨⟨fv, cf, tlF, hfl, hfd, hfs⟩, hfew, ⟨oF, hoF, hdF⟩, ⟨oW, tW, hoW, hdW⟩, hsub⟩ := hS
  have N1 := newsDup (newsDup N0 (q := (L' + 1 + 1, oW)) (.tail _ hoW)) (q := (hL, listOf hv.toArray ch)) (.tail _ (.tail _ hh))
  clear N0
  have hlen : hv.length = hs.length := Paired.length hl
  have hlenP : lov.length = P.length := Paired.length hP
  with_unfolding_all dsimp only [kBody, heapsBody, whoBody, sgBody, forBody, sgEnv, sgScope, sgPick, Challenge.pw_re0025_01, List.getLast?, List.getLast, List.dropLast, List.drop]
  k_steps
  rename Fr _ _ _ _ => F8
  rename News _ _ _ _ => N8
  obtain ⟨l8, rfl⟩ := nwName N8
  obtain ⟨Dw, rfl⟩ := nwName2 N8
  rename (hL < Dw ∧ _) => hDw
  refine halted ?_
  refine addL (xs := hv) (ys := [.ref Dw]) F8 N8 (.tail _ (.tail _ (.head _))) (.head _) ?_ (by simp only [List.length_singleton]; omega)
  intro D5 h5 F5 N5 l5
  clear F8 N8
  k_steps
  refine halted ?_
  have j1 := ltN (l5 (lo, listOf lov.toArray c) (by simp))
  have j2 : ∀ p ∈ base, p.1 < D5 := fun p hp => l5 p (by simp [hp])
  have j3 := ltN hDw.2.2.1
  have j4 := kst_ltOf hDw.2.2.2
  have N9 := nwSub N5 (l' := (lo, listOf lov.toArray c) :: ([(D5, listOf (hv ++ [Value.ref Dw]).toArray 0), (Dw, listOf [Value.int (who : Int) tW].toArray 0)] ++ base)) (fun p hp => by
    simp only [List.mem_cons, List.cons_append, List.nil_append] at hp ⊢
    rcases hp with h | h | h | h <;> simp [h])
  clear N5 l5
  refine append_K F5 N9 (.head ?_) ?_ (by rw [sizeLine_eq, List.size_toArray]; omega)
  · intro p hp
    simp only [List.mem_cons, List.cons_append, List.nil_append] at hp
    rcases hp with h | h | h
    · subst h; exact Ne.symm (Nat.ne_of_lt j1)
    · subst h; exact Ne.symm (Nat.ne_of_lt j3)
    · exact hlo p h
  intro h9 F9 N10
  rw [List.push_toArray] at N10
  clear F5 N9
  obtain ⟨add, hadd⟩ : ∃ add, add = [(D5, listOf (hv ++ [Value.ref Dw]).toArray 0), (Dw, listOf [Value.int (who : Int) tW].toArray 0)] := ⟨_, rfl⟩
  have hoff : OwnOff add (lo :: base.map (·.1)) := by
    rw [hadd]
    intro p hp b hb
    rcases List.mem_cons.mp hp with rfl | hp
    · exact own_off j1 j2 _ (.head _) b hb
    · exact own_off j3 j4 p hp b hb
  have hP1 : PL (add ++ tl) (lov ++ [.ref D5]) (P ++ [hs ++ [[who]]]) := by
    rw [hadd]
    refine Paired.snoc (hP.mono fun p hp => List.mem_append_right _ hp) ⟨D5, _, 0, rfl, .head _, ?_⟩
    refine Paired.app (hl.mono fun p hp => List.mem_append_right _ hp) (.cons ⟨Dw, _, 0, rfl, .tail _ (.head _), .cons _ _ .nil⟩ .nil)
  rw [← hadd] at N10
  clear hadd
  have N11 := newsDup (newsDup N10 (q := (L' + 1 + 1, oW)) (.tail _ (List.mem_append_right _ hoW))) (q := (hL, listOf hv.toArray ch)) (.tail _ (.tail _ (List.mem_append_right _ hh)))
  clear N10
  k_steps
  refine PyProof.Rows.len_list (items := hv.toArray) (News.isList N11 (.head _)) (by rw [List.size_toArray]; omega) ?_
  dsimp only
  rw [List.size_toArray, hlen]
  k_steps
  rename Fr _ _ _ _ => F12
  rename News _ _ _ _ => N12
  rename IsRange _ _ _ _ _ _ _ _ => rgX
  obtain ⟨q1, q2⟩ := range_ok12 n2
  obtain ⟨m0, em, F13⟩ := frName F12
  clear F12
  have e1 : m0 = m := by rw [em]; exact funext fun z => kstB_eq (all_app hM.all (List.forall_mem_cons.mpr ⟨hK, List.forall_mem_nil _⟩) (l2 := [(Str.ofString "heaps", .ref hL)])) fun _ => rfl
  subst e1
  clear em
  have N13 := nwSub N12 (l' := (lo, listOf (lov ++ [Value.ref D5]).toArray (c + 1)) :: (add ++ base)) (fun p hp => .tail _ (.tail _ hp))
  clear N12
  refine halted ?_
  refine' iter_rangeX (JK fl fs L' pl lo hL who base tl P hs) (by rfl) rgX q1 (n := hs.length) q2 F13 N13 ?h0 ?turn ?done (by intros; rfl) hE
  case h0 => exact ⟨_, _, add, hM, hK, rfl, hoff, by rw [show growK fs who hs 0 = [] from rfl, List.append_nil]; exact hP1⟩
  case turn =>
    rintro I i ti m₁ news₁ h tk io hltI hi ⟨lov2, c2, add2, hM2, hK2, rfl, hoff2, hP2⟩ hne F₁ N₁
    clear F13 N13 rgX hltI hP1 hoff
    refine assign_nm F₁ N₁ ?_ (by rfl) (by rfl)
    intro h9 tk9 F9 N9
    have e0 : (0 : Int) + (i : Int) = (i : Int) := Int.zero_add _
    rw [e0] at F9
    have hnI : lo ≠ I := hne _ (.head _)
    have hsub2 : ∀ p ∈ base, p ∈ add2 ++ base ++ [(I, io)] := fun p hp => List.mem_append_left _ (List.mem_append_right _ hp)
    have hsub3 : ∀ p ∈ add2 ++ tl, p ∈ add2 ++ base ++ [(I, io)] := fun p hp => by
      rcases List.mem_append.mp hp with h | h
      · exact List.mem_append_left _ (List.mem_append_left _ h)
      · exact hsub2 _ (hsub _ h)
    refine kturn w mean mg mb g s _ _ E dp un gd cn cs L0 a ccd cl outer bs fl fs L' pl lo hL who i ti (add2 ++ base ++ [(I, io)]) (add2 ++ tl) _ lov2 hv c2 ch hs _ ?_ X T B hdp hun F9 ⟨hM2.partings, hM2.longer⟩ ⟨hK2, rfl⟩ N9 (hS0.mono hsub2 hsub3) hP2
      (hsub2 _ hh) (hl.mono fun p hp => List.mem_append_right _ hp) hi ?_ ?_ n2 n3
    · rintro s' ⟨h3, tk3, m3, lov3, c3, add3, rfl, F3, hM3, hK3, N3, hoff3, hP3⟩
      refine StepX.go (news' := (lo, listOf lov3.toArray c3) :: ((add3 ++ add2) ++ base)) F3 N3 ?_ ?_ ⟨lov3, c3, add3 ++ add2, hM3, hK3, rfl, ?_, ?_⟩
      · intro p hp
        simp only [List.mem_cons, List.mem_append, List.cons_append, List.not_mem_nil, or_false] at hp ⊢
        rcases hp with h | ((h | h) | h) | h <;> simp [h]
      · intro p hp
        rcases List.mem_cons.mp hp with rfl | hp
        · exact hnI
        rcases List.mem_append.mp hp with hp | hp
        · rcases List.mem_append.mp hp with hp | hp
          · exact hoff3 p hp I (.tail _ (List.mem_map.mpr ⟨(I, io), List.mem_append_right _ (.head _), rfl⟩))
          · exact hne p (.tail _ (List.mem_append_left _ hp))
        · exact hne p (.tail _ (List.mem_append_right _ hp))
      · intro p hp b hb
        rcases List.mem_append.mp hp with hp | hp
        · refine hoff3 p hp b ?_
          rcases List.mem_cons.mp hb with rfl | hb
          · exact .head _
          · obtain ⟨q, hq, rfl⟩ := List.mem_map.mp hb
            exact .tail _ (List.mem_map.mpr ⟨q, hsub2 q hq, rfl⟩)
        · exact hoff2 p hp b hb
      · rw [growK_succ, ← List.append_assoc ([hs ++ [[who]]]), ← List.append_assoc P, List.append_assoc add3]
        exact hP3
    · intro p hp
      rcases List.mem_append.mp hp with hp | hp
      · rcases List.mem_append.mp hp with hp | hp
        · exact hoff2 p hp lo (.head _)
        · exact hlo p hp
      · rw [List.mem_singleton.mp hp]; exact Ne.symm hnI
    · have h1 := Paired.length hP2
      have h2 := growK_len fs who hs i
      rw [List.length_append, List.length_append] at h1
      simp only [List.length_singleton] at h1
      omega
  case done =>
    rintro m₁ news₁ h tk ⟨lov2, c2, add2, hM2, hK2, rfl, hoff2, hP2⟩ F₁ N₁
    refine wpAny_execs_nil ?_
    refine wpAny_execs_nil ?_
    exact hnext _ ⟨h, tk, m₁, lov2, c2, add2, rfl, F₁, hM2, hK2, N₁, hoff2, hP2⟩
end Mine
end
section
open PySem PySem.W PyProof.Rows PySem.Calls PySem.Spec PyProof.V
namespace Mine
theorem off_C7c : True := by w_top off; trivial
theorem growH_len (fs : List (Int × Int)) (who : Nat) (hs : List (List Nat)) : (growH fs who hs).length ≤ hs.length + 1 := by
  unfold growH
  have := growK_len fs who hs hs.length
  rw [List.length_cons]
  omega
theorem flat_len {fs : List (Int × Int)} {who b : Nat} : ∀ {Ps : List (List (List Nat))}, (∀ hs ∈ Ps, hs.length ≤ b) → (Ps.flatMap (growH fs who)).length ≤ (b + 1) * Ps.length
  | [], _ => by simp
  | hs :: Ps, h => by
    have h1 := flat_len (fs := fs) (who := who) (Ps := Ps) fun x hx => h x (.tail _ hx)
    have h2 := growH_len fs who hs
    have h3 := h hs (.head _)
    rw [List.flatMap_cons, List.length_append, List.length_cons, Nat.mul_add]
    omega
def JH (fl : Addr) (fs : List (Int × Int)) (L' pl lo : Addr) (who : Nat) (base tl : List (Addr × Obj)) (Ps : List (List (List Nat))) (i : Nat) (m : Str → Option Value) (news : List (Addr × Obj)) : Prop :=
  ∃ (lov : List Value) (c : Nat) (add : List (Addr × Obj)), MS m pl lo ∧ news = (lo, listOf lov.toArray c) :: (add ++ base) ∧ OwnOff add (lo :: base.map (·.1)) ∧ PL (add ++ tl) lov ((Ps.take i).flatMap (growH fs who))
def WOut (g : Heap) (fs : List (Int × Int)) (L' : Addr) (who : Nat) (base tl : List (Addr × Obj)) (Ps : List (List (List Nat))) (s0 s' : Shared) : Prop :=
  ∃ (h : Heap) (tk : Nat) (m : Str → Option Value) (lo : Addr) (lov : List Value) (c : Nat) (add : List (Addr × Obj)), s' = { s0 with heap := h, toks := tk } ∧ Fr g L' h m ∧ m (Str.ofString "partings") = some (.ref lo) ∧
    News g L' h ((lo, listOf lov.toArray c) :: (add ++ base)) ∧ OwnOff add (lo :: base.map (·.1)) ∧ (∀ p ∈ base, p.1 ≠ lo) ∧ PL (add ++ tl) lov (Ps.flatMap (growH fs who))
local macro_rules | `(tactic| walk_at "exec For") => `(tactic| (k_here; k_dflt (refine For_X ?_ (by intro _; rfl))))
local macro_rules | `(tactic| walk_at "pyIter ref") => `(tactic| (k_here; k_dflt (refine unhalt ?_)))
theorem wturn (w : World) (mean : ExcName → Option Value) (mg mb : Str → Option Value) (g : Heap) (s : Shared) (Q : Flow → Shared → Prop) (E : Value → Shared → Prop)
    (dp un : Nat) (gd : Option (List Code)) (cn : Str) (cs : Scope) (L0 a : Addr) (ccd : Value) (cl : List (Str × Addr)) (outer : List Env) (bs : Heap)
    (fl : Addr) (fs : List (Int × Int)) (L' pl : Addr) (who : Nat) (base tl : List (Addr × Obj)) (Ps : List (List (List Nat))) (pv : List Value) (cp : Nat) (m : Str → Option Value)
    (hE : PassesOwn (model Challenge.rw_re0025_01.row.prog w) ((ktrTop dp un gd cn cs L0 a ccd cl outer).deeper (sgEnv L')) (sgEnv L') E)
    (hnext : ∀ s', WOut g fs L' who base tl Ps s s' → Q .next s')
    : (hd.heap_39 w.params).In g → ∀ (T : Top hd.view_39 Lo mean mg mb g) (B : Below (ktrTop dp un gd cn cs L0 a ccd cl outer) bs (envX cn cs L0 a ccd cl :: outer) g) (hdp : dp + 1 < recursionLimit) (hun : un + 100 < cLine)
      (F0 : Fr g L' s.heap m) (hM : m (Str.ofString "partings") = some (.ref pl)) (N0 : News g L' s.heap base) (hS : SgFix fl fs L' who base tl) (hp : (pl, listOf pv.toArray cp) ∈ base) (hP : PL tl pv Ps)
      (n1 : Ps.length ≤ 24) (n2 : ∀ hs ∈ Ps, hs.length ≤ 10 ∧ ∀ x ∈ hs, x.length ≤ 10),
    wpAny (model Challenge.rw_re0025_01.row.prog w) ((ktrTop dp un gd cn cs L0 a ccd cl outer).deeper (sgEnv L')) (execs whoBody (sgEnv L')) Q E s := by
  k_fill
  intro X T B hdp hun F0 hM N0 hS hp hP n1 n2
  have F := frKst F0 (List.forall_mem_cons.mpr ⟨hM, List.forall_mem_nil _⟩ : ∀ p ∈ [(Str.ofString "partings", Value.ref pl)], m p.1 = some p.2)
  clear F0
  have kMk := kstMark
  have N1 := newsDup N0 (q := (pl, listOf pv.toArray cp)) hp
  clear N0
  have hlenP : pv.length = Ps.length := Paired.length hP
  with_unfolding_all dsimp only [kBody, heapsBody, whoBody, sgBody, forBody, sgEnv, sgScope, sgPick, Challenge.pw_re0025_01, List.getLast?, List.getLast, List.dropLast, List.drop]
  k_steps
  rename Fr _ _ _ _ => F8
  rename News _ _ _ _ => N8
  obtain ⟨lo, rfl⟩ := nwName N8
  rename (pl < lo ∧ _) => hlo
  have j1 := kst_ltOf hlo.2
  obtain ⟨m0, em, F13⟩ := frName F8
  have e1 : m0 (Str.ofString "partings") = some (.ref pl) := by rw [em]; rfl
  have e2 : m0 (Str.ofString "longer") = some (.ref lo) := by rw [em]; rfl
  clear em F8
  have N13 := nwSub N8 (l' := (lo, listOf ([] : List Value).toArray 0) :: base) (fun p hp => by
    rcases List.mem_cons.mp hp with rfl | hp
    · exact .head _
    · exact .tail _ (.tail _ hp))
  clear N8
  have hlo2 : ∀ p ∈ base, p.1 ≠ lo := fun p hp => Nat.ne_of_lt (j1 p hp)
  refine halted ?_
  refine' iter_listXc (vs := pv) (JH fl fs L' pl lo who base tl Ps) (by rfl) ?hl F13 N13 ?h0 ?turn ?done hE
  case hl =>
    rintro i m news ⟨lov, c, add, _, rfl, _⟩
    exact .tail _ (List.mem_append_right _ hp)
  case h0 => exact ⟨[], 0, [], ⟨e1, e2⟩, rfl, (fun p hp => nomatch hp), .nil⟩
  case turn =>
    rintro I i v m₁ news₁ h tk io hio hltI hvi ⟨lov2, c2, add2, hM2, rfl, hoff2, hP2⟩ hne F₁ N₁
    clear F13 N13 hltI
    obtain ⟨hs, hs1, hL, hv, ch, rfl, hm1, hm2⟩ := paired_at hP hvi
    refine assign_nm F₁ N₁ ?_ (by rfl) (by rfl)
    intro h9 tk9 F9 N9
    have hnI : lo ≠ I := hne _ (.head _)
    have hsub := hS.sub
    have hsub2 : ∀ p ∈ base, p ∈ add2 ++ base ++ [(I, io)] := fun p hp => List.mem_append_left _ (List.mem_append_right _ hp)
    have hsub3 : ∀ p ∈ add2 ++ tl, p ∈ add2 ++ base ++ [(I, io)] := fun p hp => by
      rcases List.mem_append.mp hp with h | h
      · exact List.mem_append_left _ (List.mem_append_left _ h)
      · exact hsub2 _ (hsub _ h)
    have hsm := List.mem_of_getElem? hs1
    refine hturn w mean mg mb g _ _ E dp un gd cn cs L0 a ccd cl outer bs fl fs L' pl lo hL who (add2 ++ base ++ [(I, io)]) (add2 ++ tl) _ lov2 hv c2 ch hs _ hE ?_ X T B hdp hun F9 ⟨hM2.partings, hM2.longer⟩ rfl N9 (hS.mono hsub2 hsub3) hP2
      (hsub2 _ (hsub _ hm1)) (hm2.mono fun p hp => List.mem_append_right _ hp) ?_ ?_ (n2 _ hsm).1 (n2 _ hsm).2
    · rintro s' ⟨h3, tk3, m3, lov3, c3, add3, rfl, F3, hM3, hK3, N3, hoff3, hP3⟩
      refine StepX.go (news' := (lo, listOf lov3.toArray c3) :: ((add3 ++ add2) ++ base)) F3 N3 ?_ ?_ ⟨lov3, c3, add3 ++ add2, hM3, rfl, ?_, ?_⟩
      · intro p hp
        simp only [List.mem_cons, List.mem_append, List.cons_append, List.not_mem_nil, or_false] at hp ⊢
        rcases hp with h | ((h | h) | h) | h <;> simp [h]
      · intro p hp
        rcases List.mem_cons.mp hp with rfl | hp
        · exact hnI
        rcases List.mem_append.mp hp with hp | hp
        · rcases List.mem_append.mp hp with hp | hp
          · exact hoff3 p hp I (.tail _ (List.mem_map.mpr ⟨(I, io), List.mem_append_right _ (.head _), rfl⟩))
          · exact hne p (.tail _ (List.mem_append_left _ hp))
        · exact hne p (.tail _ (List.mem_append_right _ hp))
      · intro p hp b hb
        rcases List.mem_append.mp hp with hp | hp
        · refine hoff3 p hp b ?_
          rcases List.mem_cons.mp hb with rfl | hb
          · exact .head _
          · obtain ⟨q, hq, rfl⟩ := List.mem_map.mp hb
            exact .tail _ (List.mem_map.mpr ⟨q, hsub2 q hq, rfl⟩)
        · exact hoff2 p hp b hb
      · have e : (Ps.take (i + 1)).flatMap (growH fs who) = (Ps.take i).flatMap (growH fs who) ++ growH fs who hs := by
          rw [List.take_succ, hs1, List.flatMap_append]
          simp
        rw [e, List.append_assoc add3]
        exact hP3
    · intro p hp
      rcases List.mem_append.mp hp with hp | hp
      · rcases List.mem_append.mp hp with hp | hp
        · exact hoff2 p hp lo (.head _)
        · exact hlo2 p hp
      · rw [List.mem_singleton.mp hp]; exact Ne.symm hnI
    · have h1 := flat_len (fs := fs) (who := who) (b := 10) (Ps := Ps.take i) fun x hx => (n2 x (List.mem_of_mem_take hx)).1
      rw [List.length_take] at h1
      omega
  case done =>
    rintro m₁ news₁ h tk ⟨lov2, c2, add2, hM2, rfl, hoff2, hP2⟩ F₁ N₁
    clear F13 N13
    refine wpAny_execs_nil ?_
    have F2 := frKst F₁ hM2.all
    clear F₁
    dsimp only
    k_steps
    rename Fr _ _ _ _ => F9
    rename News _ _ _ _ => N9
    have e : (Ps.take pv.length) = Ps := by rw [hlenP, List.take_length]
    rw [e] at hP2
    refine hnext _ ⟨_, _, _, lo, lov2, c2, add2, rfl, F9, rfl, N9, hoff2, hlo2, hP2⟩
end Mine
end
section
open PySem PySem.W PyProof.Rows PySem.Calls PySem.Spec PyProof.V
namespace Mine
theorem off_C7d : True := by w_top off; trivial
theorem tail5 {prog : Program} {w : World} {A : Around} {E : Value → Shared → Prop} {s : Shared} {value slice : PySem.Expr} {D : Addr} {t0 t1 t2 t3 t4 u : Tok} {k : Int} {h₀ : Heap} {L : Addr} {news : List (Addr × Obj)} {n : Nat} {Q : Value → Shared → Prop}
    (N : News h₀ L s.heap news) (hD : (D, ({ cls := .type "tuple", data := .seq #[.int 0 t0, .int (-1) t1, .int 2 t2, .int (-6) t3, .int 24 t4] n } : Obj)) ∈ news) (h0 : 0 ≤ k) (h3 : k < 5) (h : ∀ t, Q (.int (heapW k.toNat) t) s)
    (hs : subscripted slice false (.ref D) (.int k u) = operate [.ref D, .int k u] (getItem (.ref D) (.int k u))) : wpAny (model prog w) A (subscriptTail value slice (.ref D) (.int k u)) Q E s := by
  have hT : IsTup s.heap D #[.int 0 t0, .int (-1) t1, .int 2 t2, .int (-6) t3, .int 24 t4] := ⟨_, (N _ hD).1, rfl, n, rfl⟩
  have hk : k = 0 ∨ k = 1 ∨ k = 2 ∨ k = 3 ∨ k = 4 := by omega
  rcases hk with rfl | rfl | rfl | rfl | rfl
  · exact item_tupleT (l := [.int 0 t0, .int (-1) t1, .int 2 t2, .int (-6) t3, .int 24 t4]) hT (by decide) (by decide) (j := 0) rfl rfl (h t0) hs
  · exact item_tupleT (l := [.int 0 t0, .int (-1) t1, .int 2 t2, .int (-6) t3, .int 24 t4]) hT (by decide) (by decide) (j := 1) rfl rfl (h t1) hs
  · exact item_tupleT (l := [.int 0 t0, .int (-1) t1, .int 2 t2, .int (-6) t3, .int 24 t4]) hT (by decide) (by decide) (j := 2) rfl rfl (h t2) hs
  · exact item_tupleT (l := [.int 0 t0, .int (-1) t1, .int 2 t2, .int (-6) t3, .int 24 t4]) hT (by decide) (by decide) (j := 3) rfl rfl (h t3) hs
  · exact item_tupleT (l := [.int 0 t0, .int (-1) t1, .int 2 t2, .int (-6) t3, .int 24 t4]) hT (by decide) (by decide) (j := 4) rfl rfl (h t4) hs
def wgtP (base : List (Addr × Obj)) (v y : Value) : Prop := ∃ (d : Addr) (ws : List Value) (c : Nat) (t : Tok), v = Value.ref d ∧ (d, listOf ws.toArray c) ∈ base ∧ y = .int (heapW ws.length) t
theorem wgt_ints {g h : Heap} {L : Addr} {base tl : List (Addr × Obj)} (N : News g L h base) (hs : ∀ p ∈ tl, p ∈ base) : ∀ {vs ys : List Value} {P : List (List (List Nat))}, PL tl vs P → Paired (wgtP base) vs ys → IntsAre ys (P.map fun hs => heapW hs.length)
  | _, _, [], .nil, hp => by
    cases hp
    exact .nil
  | _, _, x :: P, .cons hx hP, hp => by
    cases hp with
    | cons hf hr =>
      obtain ⟨d, ws, c, rfl, h1, h2⟩ := hx
      obtain ⟨d', ws', c', t, e, h3, rfl⟩ := hf
      cases e
      have q := Option.some.inj ((N _ (hs _ h1)).1.symm.trans (N _ h3).1)
      have q2 : ws.toArray = ws'.toArray := by
        have := congrArg Obj.data q
        simp only [Data.seq.injEq] at this
        exact this.1
      have q3 : ws = ws' := by simpa using q2
      have hl : ws.length = x.length := Paired.length h2
      rw [← q3, hl]
      exact .cons _ _ (wgt_ints N hs hP hr)
theorem newTup {M : Model} {A : Around} {E : Value → Shared → Prop} {s : Shared} {h₀ : Heap} {L : Addr} {m : Str → Option Value} {news : List (Addr × Obj)} {vs : List Value} {Q : Value → Shared → Prop} (F : Fr h₀ L s.heap m) (N : News h₀ L s.heap news)
    (h : ∀ D h', Fr h₀ L h' m → News h₀ L h' ((D, { cls := .type "tuple", data := .seq vs.toArray }) :: news) → (∀ b o, s.heap.get? b = some o → h'.get? b = some o) → Q (.ref D) { s with heap := h' }) (hsz : vs.length ≤ sizeLine) :
    wpAny M A (newTuple vs) Q E s := newTuple_NK F N (fun h' a b c => h _ h' a b c) hsz
local macro_rules | `(tactic| walk_at "subscriptTail") => `(tactic| (k_here; k_dflt (refine tail5 (by k_asm) (by k_mem) (by (try dsimp only); omega) (by (try dsimp only); omega) ?_ (by with_unfolding_all rfl)); intro t9; (try dsimp only)))
local macro_rules | `(tactic| walk_at "eval Name") => `(tactic| (k_here; k_dflt (refine compLocal (by assumption) (by assumption) ?_)))
local macro_rules | `(tactic| walk_at "eval ListComp") => `(tactic| (k_here; k_dflt (refine unhalt ?_)))
local macro_rules | `(tactic| walk_at "newTuple") => `(tactic| (k_here; k_dflt (refine unhalt ?_)))
local macro_rules | `(tactic| walk_at "call builtin:len") => `(tactic| (k_here; k_dflt (refine unhalt ?_)))
theorem sgRet (w : World) (mean : ExcName → Option Value) (mg mb : Str → Option Value) (g : Heap) (s : Shared) (Q : Flow → Shared → Prop) (E : Value → Shared → Prop)
    (dp un : Nat) (gd : Option (List Code)) (cn : Str) (cs : Scope) (L0 a : Addr) (ccd : Value) (cl : List (Str × Addr)) (outer : List Env) (bs : Heap)
    (L' pl : Addr) (base tl : List (Addr × Obj)) (P : List (List (List Nat))) (pv : List Value) (cp : Nat) (m : Str → Option Value)
    (hnext : ∀ t m' h' tk', Fr g L' h' m' → News g L' h' base → Q (.ret (.int ((P.map fun hs => heapW hs.length).sum) t)) { s with heap := h', toks := tk' })
    : (hd.heap_39 w.params).In g → ∀ (T : Top hd.view_39 Lo mean mg mb g) (B : Below (ktrTop dp un gd cn cs L0 a ccd cl outer) bs (envX cn cs L0 a ccd cl :: outer) g) (hdp : dp + 1 < recursionLimit) (hun : un + 100 < cLine)
      (F0 : Fr g L' s.heap m) (hM : m (Str.ofString "partings") = some (.ref pl)) (N0 : News g L' s.heap base) (hp : (pl, listOf pv.toArray cp) ∈ base) (hP : PL tl pv P) (hsub : ∀ p ∈ tl, p ∈ base)
      (n1 : P.length ≤ 24) (n2 : ∀ hs ∈ P, hs.length ≤ 4),
    wpAny (model Challenge.rw_re0025_01.row.prog w) ((ktrTop dp un gd cn cs L0 a ccd cl outer).deeper (sgEnv L')) (execs (sgBody.drop 2) (sgEnv L')) Q E s := by
  k_fill
  intro X T B hdp hun F0 hM N0 hp hP hsub n1 n2
  have F := frKst F0 (List.forall_mem_cons.mpr ⟨hM, List.forall_mem_nil _⟩ : ∀ p ∈ [(Str.ofString "partings", Value.ref pl)], m p.1 = some p.2)
  clear F0
  have kMk := kstMark
  have N1 := newsDup N0 (q := (pl, listOf pv.toArray cp)) hp
  clear N0
  have hlenP : pv.length = P.length := Paired.length hP
  with_unfolding_all dsimp only [kBody, heapsBody, whoBody, sgBody, forBody, sgEnv, sgScope, sgPick, Challenge.pw_re0025_01, List.getLast?, List.getLast, List.dropLast, List.drop]
  k_steps
  refine halted ?_
  refine' wpAny_ListComp_free (fun _ => true) (wgtP base) ?hclos ?hcell ?hkind ?hnames ?hx ?hC
  case hclos => with_unfolding_all rfl
  case hcell => decide
  case hkind => rfl
  case hnames => decide
  case hx => rfl
  case hC =>
    k_steps
    rename Fr _ _ _ _ => F2
    rename News _ _ _ _ => N2
    have hls2 := News.isList N2 (a := pl) (items := pv.toArray) (.head _)
    refine wpAny_pyIter_list hls2 ?_
    refine ⟨_, _, _, _, _, _, rfl, Walks.list rfl _ pl (Nat.ne_of_lt (Heap.lt_size (N2 _ (.head _)).1)) pv.toArray, ?sz, ⟨⟨_, Heap.get?_push_size _ rfl, rfl, rfl⟩, hls2.push _⟩, ?fp, ⟨?tests, ?elt⟩, ?fin⟩
    case sz => rw [sizeLine_eq, List.size_toArray]; omega
    case fp =>
      intro b hb
      rw [Heap.size_push]
      rcases List.mem_cons.mp hb with rfl | hb
      · exact Nat.lt_succ_self _
      · rw [List.mem_singleton.mp hb]; exact Nat.lt_succ_of_lt (Heap.lt_size (N2 _ (.head _)).1)
    case tests =>
      intro C j v s₃ m₃ E' hC hP hns hm₃ hk htk
      exact wpAny_pure ⟨rfl, ⟨_, _, rfl, fun _ _ e => e⟩⟩
    case elt =>
      intro C j v s₃ m₃ E' hC hPj hpj hns hm₃ hk htk
      have N₃ := keepL N2 rfl hk
      have F₃ := keepFr F2 rfl hk
      have hP' : pv[j]? = some v := by simpa using hPj
      obtain ⟨hs, hs1, d, ws, cw, rfl, hm1, hm2⟩ := paired_at hP hP'
      have hwl : ws.length = hs.length := Paired.length hm2
      have hw4 : hs.length ≤ 4 := n2 _ (List.mem_of_getElem? hs1)
      clear hk N2 F2 hls2
      k_steps
      rename Fr _ _ _ _ => F8
      rename News _ _ _ _ => N8
      refine halted ?_
      refine newTup F8 N8 ?_ (by rw [sizeLine_eq]; show 5 ≤ 16777216; decide)
      intro D7 h7 F7 N7 hkeep
      clear F8 N8
      have hns7 := hns.at' (fun o e => hkeep _ o e)
      k_steps
      refine halted ?_
      refine PyProof.Rows.len_list (items := ws.toArray) (News.isList N7 (.tail _ (.tail _ (hsub _ hm1)))) (by rw [List.size_toArray]; omega) ?_
      dsimp only
      rw [List.size_toArray]
      k_steps
      · exact ⟨d, ws, cw, _, rfl, hsub _ hm1, rfl⟩
      · exact ⟨_, _, rfl, hkeep⟩
    case fin =>
      intro D2 h' tk' ys vs hD hl2 hpl hlen hP2 hF hk2
      dsimp only
      obtain ⟨cf2, hpl⟩ := hpl
      obtain ⟨F9, N9, hd9⟩ := compFin0 F2 N2 rfl hD hpl hk2
      clear F2 N2
      have evs : vs = pv := by
        refine List.ext_getElem? fun j => ?_
        by_cases hj : j < vs.length
        · have := hP2 j vs[j] (List.getElem?_eq_getElem hj)
          rw [List.getElem?_eq_getElem hj]
          simpa using this.symm
        · rw [List.getElem?_eq_none (by omega), List.getElem?_eq_none]
          rw [List.size_toArray] at hlen
          omega
      rw [evs, List.filter_eq_self.mpr (fun _ _ => rfl)] at hF
      have hys := wgt_ints (nwSub N9 (l' := base) fun p hp => .tail _ (.tail _ hp)) hsub hP hF
      clear hk2 hD hP2 hls2 hF evs hpl hl2 hlen
      k_steps
      rename Fr _ _ _ _ => F8
      rename News _ _ _ _ => N8
      exact hnext _ _ _ _ F8 (nwSub N8 fun p hp => .tail _ (.tail _ hp))
end Mine
end
section
open PySem PySem.W PyProof.Rows PySem.Calls PySem.Spec PyProof.V
namespace Mine
theorem off_C7 : True := by w_top off; trivial
abbrev SgClaim (prog : Program) (w : World) (K : Frag) (p : Program) (loose : List Str) (mean : ExcName → Option Value) (mg mb : Str → Option Value) (fa : Addr) (news : List (Addr × Obj)) (fl : Addr) (fs : List (Int × Int)) : Prop :=
  ∀ (dp un : Nat) (gd : Option (List Code)) (cn : Str) (cs : Scope) (a : Addr) (ccd : Value) (cl : List (Str × Addr)) (outer : List Env) (A₀ : Around) (base h₀ : Heap) (L : Addr) (m : Str → Option Value) (s : Shared) (Q E : Value → Shared → Prop),
    Below A₀ base outer h₀ → Fr h₀ L s.heap m → K.In h₀ → News h₀ L s.heap news → Top p loose mean mg mb h₀ → cs.kind = .function →
    dp + 1 < recursionLimit → un + 100 < cLine → (∀ (t : Tok) (h' : Heap) (tk' : Nat), Fr h₀ L h' m → News h₀ L h' news → Q (.int (signedF fs) t) { s with heap := h', toks := tk' }) →
      wpAny (model prog w) (ktrTop dp un gd cn cs L a ccd cl outer) (call (.ref fa) [.ref fl]) Q E s
theorem growH_mem {fs : List (Int × Int)} {who b : Nat} {hs x : List (List Nat)} (h : hs.length ≤ b ∧ ∀ y ∈ hs, y.length ≤ b) (hx : x ∈ growH fs who hs) : x.length ≤ b + 1 ∧ ∀ y ∈ x, y.length ≤ b + 1 := by
  obtain ⟨h1, h2⟩ := h
  rcases List.mem_cons.mp hx with rfl | hx
  · refine ⟨by rw [List.length_append, List.length_singleton]; omega, fun y hy => ?_⟩
    rcases List.mem_append.mp hy with hy | hy
    · have := h2 y hy; omega
    · rw [List.mem_singleton.mp hy, List.length_singleton]; omega
  · obtain ⟨k, hk, rfl⟩ := List.mem_map.mp hx
    have hk := List.mem_range.mp (List.mem_filter.mp hk).1
    unfold joinH
    refine ⟨by simp only [List.length_append, List.length_take, List.length_drop, List.length_singleton]; omega, fun y hy => ?_⟩
    rcases List.mem_append.mp hy with hy | hy
    · rcases List.mem_append.mp hy with hy | hy
      · have := h2 y (List.mem_of_mem_take hy); omega
      · rw [List.mem_singleton.mp hy, List.length_append, List.length_singleton]
        have : (hs.getD k []).length ≤ b := by
          rw [List.getD_eq_getElem?_getD, List.getElem?_eq_getElem hk]
          exact h2 _ (List.getElem_mem _)
        omega
    · have := h2 y (List.mem_of_mem_drop hy); omega
theorem parts_mem (fs : List (Int × Int)) : ∀ i, ∀ hs ∈ partsAt fs i, hs.length ≤ i ∧ ∀ y ∈ hs, y.length ≤ i
  | 0, hs, h => by
    rw [List.mem_singleton.mp h]
    exact ⟨Nat.le_refl _, fun y hy => nomatch hy⟩
  | i + 1, hs, h => by
    obtain ⟨x, hx, hm⟩ := List.mem_flatMap.mp h
    exact growH_mem (parts_mem fs i x hx) hm
theorem parts_len (fs : List (Int × Int)) : (partsAt fs 1).length ≤ 1 ∧ (partsAt fs 2).length ≤ 2 ∧ (partsAt fs 3).length ≤ 6 ∧ (partsAt fs 4).length ≤ 24 := by
  have h0 : (partsAt fs 1).length ≤ (0 + 1) * (partsAt fs 0).length := flat_len fun x hx => (parts_mem fs 0 x hx).1
  have h1 : (partsAt fs 2).length ≤ (1 + 1) * (partsAt fs 1).length := flat_len fun x hx => (parts_mem fs 1 x hx).1
  have h2 : (partsAt fs 3).length ≤ (2 + 1) * (partsAt fs 2).length := flat_len fun x hx => (parts_mem fs 2 x hx).1
  have h3 : (partsAt fs 4).length ≤ (3 + 1) * (partsAt fs 3).length := flat_len fun x hx => (parts_mem fs 3 x hx).1
  have h4 : (partsAt fs 0).length = 1 := rfl
  omega
theorem parts_le (fs : List (Int × Int)) {i : Nat} (h : i < 5) : (partsAt fs i).length ≤ 24 := by
  obtain ⟨h1, h2, h3, h4⟩ := parts_len fs
  match i, h with
  | 0, _ => exact (by decide : 1 ≤ 24)
  | 1, _ => omega
  | 2, _ => omega
  | 3, _ => omega
  | 4, _ => omega
def JW (fs : List (Int × Int)) (L' : Addr) (base0 : List (Addr × Obj)) (i : Nat) (m : Str → Option Value) (news : List (Addr × Obj)) : Prop :=
  ∃ (pl : Addr) (pv : List Value) (cp : Nat) (own tl : List (Addr × Obj)) (oW : Obj) (cv : Option Value), m (Str.ofString "partings") = some (.ref pl) ∧ news = (L' + 1 + 1, oW) :: (pl, listOf pv.toArray cp) :: tl ∧ tl = own ++ base0 ∧ oW.data = .cell cv ∧ PL own pv (partsAt fs i) ∧
    OwnOff tl [L' + 1 + 1, pl] ∧ pl ≠ L' + 1 + 1
theorem nmC {h₀ h : Heap} {L a b c d : Addr} {oa ob oc od : Obj} {r : List (Addr × Obj)} (_ : News h₀ L h ((a, oa) :: (b, ob) :: (c, oc) :: (d, od) :: r)) : ∃ g' L' a' b' oc' od', g' = h₀ ∧ L' = L ∧ a' = a ∧ b' = b ∧ oc' = oc ∧ od' = od := ⟨_, _, _, _, _, _, rfl, rfl, rfl, rfl, rfl, rfl⟩
local macro_rules | `(tactic| walk_at "exec For") => `(tactic| (k_here; k_dflt (refine For_X ?_ (by intro _; rfl))))
local macro_rules | `(tactic| walk_at "exec For Name Call cons nil") => `(tactic| (k_here; k_dflt (refine For_X ?_ (by intro _; rfl))))
local macro_rules | `(tactic| walk_at "pyIter ref") => `(tactic| (k_here; k_dflt (refine unhalt ?_)))
local macro_rules | `(tactic| walk_at "execs cons Assign cons") => `(tactic| (k_here; k_dflt (refine unhalt ?_)))
theorem signed_spec (w : World) (mean : ExcName → Option Value) (mg mb : Str → Option Value) (news tlF : List (Addr × Obj)) (fl : Addr) (fs : List (Int × Int)) (fv : List Value) (cf : Nat)
    (hfl : (fl, listOf fv.toArray cf) ∈ news) (hfd : DatAll tlF fv (fs.map pairD)) (hfn : ∀ p ∈ tlF, p ∈ news) (hfs : fs.length ≤ 100) :
   SgClaim (Challenge.rw_re0025_01.row.prog) w (hd.heap_39 w.params) hd.view_39 Lo mean mg mb 87 news fl fs := by
  k_fill
  dsimp only [SgClaim]; intros; rename_i hret
  have cbI : CbIn 87 := CbIn.mk
  refine wpAny_call ?_
  k_dflt (refine' code_defC ?k1 ?k2 ?k3 ?k4 ?k5 ?kA ?kF ?kK ?k6 ?k7 ?k8 ?k9 ?kB ?kD ?_ ?c2 ?c3 ?c4; (case kA => exact rfl); (case kF => exact rfl); (case kK => assumption); (case k1 => k_asm); (case k2 => k_asm); (case k3 => k_asm); (case k4 => k_asm); (case k5 => k_asm); (case k6 => k_is); (case k7 => k_is); (case k8 => ktr_room); (case k9 => exact BindsTo.of_eq rfl); (case kB => exact rfl); (case kD => decide +kernel); (case c2 => exact rfl); (case c3 => exact rfl); (case c4 => exact rfl); k_whole; intro g' L' h' tk' cells' FG' F' N' Y' B' X' T' l1; (try k_lt l1); k_cells Y'; (try simp only [List.cons_append, List.nil_append] at N'); (try dsimp only); (try k_lift B'); (try k_fold))
  have kMk := kstMark
  k_steps
  refine halted ?_
  refine wpAny_execs_cons ?_
  k_steps
  rename Fr _ _ _ _ => F8
  rename News _ _ _ _ => N8
  rename (∀ p ∈ news, p.1 < _) => hlow
  obtain ⟨g, L', al2, al1, oW, oF, rfl, rfl, rfl, rfl, rfl, rfl⟩ := nmC N8
  rename IsRange _ _ _ _ _ _ _ _ => rgX
  refine halted ?_
  rename (oF.data = _) => hdF0
  rename (oW.data = _) => hdW0
  have hdF : oF.data = .cell (some (.ref fl)) := hdF0
  have hdW : oW.data = .cell none := hdW0
  clear hdF0 hdW0
  rename (al1 < al2 ∧ _) => q2
  rename (L' + 1 + 1 < al1 ∧ _) => q1
  obtain ⟨m0, em, F9⟩ := frName F8
  have e1 : m0 (Str.ofString "partings") = some (.ref al2) := by rw [em]; rfl
  clear em F8
  have k1 := ltN q1.1
  have k2 := ltN q2.1
  have N9 := nwSub N8 (l' := (L' + 1 + 1, oW) :: (al2, listOf [Value.ref al1].toArray 0) :: ([(al1, listOf ([] : List Value).toArray 0)] ++ ((L' + 1, oF) :: news))) (fun p hp => by
    simp only [List.mem_cons, List.cons_append, List.nil_append] at hp ⊢
    rcases hp with h | h | h | h | h <;> simp [h])
  clear N8
  have h00 : JW fs L' ((L' + 1, oF) :: news) 0 m0 ((L' + 1 + 1, oW) :: (al2, listOf [Value.ref al1].toArray 0) :: ([(al1, listOf ([] : List Value).toArray 0)] ++ ((L' + 1, oF) :: news))) := by
    refine ⟨al2, _, 0, [(al1, listOf ([] : List Value).toArray 0)], _, oW, none, e1, rfl, rfl, hdW, .cons ⟨al1, [], 0, rfl, .head _, .nil⟩ .nil, ?_, ?_⟩
    · intro p hp b hb
      simp only [List.mem_cons, List.not_mem_nil, or_false, List.cons_append, List.nil_append] at hp hb
      refine neN ?_
      rcases hp with rfl | rfl | hp
      · rcases hb with rfl | rfl <;> dsimp only <;> omega
      · rcases hb with rfl | rfl <;> dsimp only <;> omega
      · have := ltN (hlow p hp)
        rcases hb with rfl | rfl <;> omega
    · refine neN ?_; omega
  refine' iter_rangeX (JW fs L' ((L' + 1, oF) :: news)) (by rfl) rgX (by decide) (n := 4) (by decide) F9 N9 h00 ?turn ?done (by intros; rfl) (by passes_own)
  case turn =>
    rintro I i ti m₁ news₁ h tk io hltI hi ⟨pl, pv, cp, own, tl, oW2, cv, hm1, rfl, htl, hdW2, hPL, hoff, n1⟩ hne F₁ N₁
    clear F9 N9 rgX hltI h00 e1
    dsimp only [List.cons_append] at N₁
    have e0 : (0 : Int) + (i : Int) = (i : Int) := Int.zero_add _
    rw [e0]
    have x1 := neN (hne _ (.head _))
    have x2 := neN (hne _ (.tail _ (.head _)))
    replace n1 := neN n1
    dsimp only at x1 x2
    replace hne := toNeAll hne
    k_steps
    rename Fr _ _ _ _ => F8
    rename News _ _ _ _ => N8
    rename (_ = Data.cell (some (Value.int _ _))) => hdW3
    obtain ⟨oW3, rfl⟩ := cellName hdW3
    have hb0 : ∀ p ∈ (L' + 1, oF) :: news, p ∈ (L' + 1 + 1, oW3) :: (pl, listOf pv.toArray cp) :: (tl ++ [(I, io)]) := fun p hp => .tail _ (.tail _ (List.mem_append_left _ (by rw [htl]; exact List.mem_append_right _ hp)))
    have how : ∀ p ∈ own, p ∈ (L' + 1 + 1, oW3) :: (pl, listOf pv.toArray cp) :: (tl ++ [(I, io)]) := fun p hp => .tail _ (.tail _ (List.mem_append_left _ (by rw [htl]; exact List.mem_append_left _ hp)))
    refine halted ?_
    refine wturn w mean mg mb g _ _ _ _ _ _ _ _ _ _ _ _ _ _ fl fs L' pl i ((L' + 1 + 1, oW3) :: (pl, listOf pv.toArray cp) :: (tl ++ [(I, io)])) own (partsAt fs i) pv cp m₁ (by passes_own) ?_ (by assumption) (by assumption) (by assumption) (by assumption) (by assumption) F8 hm1 N8
      ⟨⟨fv, cf, tlF, hb0 _ (.tail _ hfl), hfd, fun p hp => hb0 _ (.tail _ (hfn p hp))⟩, hfs, ⟨oF, hb0 _ (.head _), hdF⟩, ⟨oW3, _, .head _, hdW3⟩, how⟩ (.tail _ (.head _)) hPL (parts_le fs (by omega)) (fun hs hh => by
        obtain ⟨y1, y2⟩ := parts_mem fs i hs hh
        exact ⟨by omega, fun y hy => by have := y2 y hy; omega⟩)
    rintro s' ⟨h3, tk3, m3, lo, lov, c3, add, rfl, F3, hm3, N3, hoff3, hlo, hP3⟩
    have z1 : L' + 1 + 1 ≠ lo := hlo (L' + 1 + 1, oW3) (.head _)
    have z2 : pl ≠ lo := hlo (pl, listOf pv.toArray cp) (.tail _ (.head _))
    have z3 : I ≠ lo := hlo (I, io) (.tail _ (.tail _ (List.mem_append_right _ (.head _))))
    have z4 : ∀ p ∈ tl, p.1 ≠ lo := fun p hp => hlo p (.tail _ (.tail _ (List.mem_append_left _ hp)))
    have z5 : ∀ p ∈ add, p.1 ≠ L' + 1 + 1 := fun p hp => hoff3 p hp _ (.tail _ (.head _))
    have z6 : ∀ p ∈ add, p.1 ≠ lo := fun p hp => hoff3 p hp _ (.head _)
    have z7 : ∀ p ∈ add, p.1 ≠ I := fun p hp => hoff3 p hp _ (.tail _ (List.mem_map.mpr ⟨(I, io), .tail _ (.tail _ (List.mem_append_right _ (.head _))), rfl⟩))
    refine StepX.go (news' := (L' + 1 + 1, oW3) :: (lo, listOf lov.toArray c3) :: (add ++ (pl, listOf pv.toArray cp) :: tl)) F3 N3 ?_ ?_
      ⟨lo, lov, c3, add ++ (pl, listOf pv.toArray cp) :: own, _, oW3, _, hm3, rfl, by rw [htl]; simp, hdW3, ?_, ?_, Ne.symm z1⟩
    · intro p hp
      simp only [List.mem_cons, List.mem_append, List.cons_append, List.append_assoc, List.not_mem_nil, or_false] at hp ⊢
      rcases hp with h | h | h | h | h | h <;> simp [h]
    · intro p hp
      simp only [List.mem_cons, List.mem_append] at hp
      rcases hp with h | h | h | h | h
      · subst h; exact x1
      · subst h; exact Ne.symm z3
      · exact z7 p h
      · subst h; exact x2
      · exact hne p (.tail _ (.tail _ h))
    · refine PL.mono hP3 fun p hp => ?_
      rcases List.mem_append.mp hp with h | h
      · exact List.mem_append_left _ h
      · exact List.mem_append_right _ (.tail _ h)
    · intro p hp b hb
      simp only [List.mem_cons, List.mem_append, List.not_mem_nil, or_false] at hp hb
      rcases hp with h | h | h
      · rcases hb with rfl | rfl
        · exact z5 p h
        · exact z6 p h
      · subst h
        rcases hb with rfl | rfl
        · exact n1
        · exact z2
      · rcases hb with rfl | rfl
        · exact hoff p h _ (.head _)
        · exact z4 p h
  case done =>
    rintro m₁ news₁ h tk ⟨pl, pv, cp, own, tl, oW2, cv, hm1, rfl, htl, hdW2, hPL, hoff, n1⟩ F₁ N₁
    clear F9 N9 rgX h00 e1
    refine wpAny_execs_nil ?_
    dsimp only
    have hb0 : ∀ p ∈ news, p ∈ (L' + 1 + 1, oW2) :: (pl, listOf pv.toArray cp) :: tl := fun p hp => .tail _ (.tail _ (by rw [htl]; exact List.mem_append_right _ (.tail _ hp)))
    refine sgRet w mean mg mb g _ _ _ _ _ _ _ _ _ _ _ _ _ _ L' pl ((L' + 1 + 1, oW2) :: (pl, listOf pv.toArray cp) :: tl) own (partsAt fs 4) pv cp m₁ ?_ (by assumption) (by assumption) (by assumption) (by assumption) (by assumption) F₁ hm1 N₁ (.tail _ (.head _)) hPL
      (fun p hp => .tail _ (.tail _ (by rw [htl]; exact List.mem_append_left _ hp))) (parts_le fs (by decide)) (fun hs hh => (parts_mem fs 4 hs hh).1)
    intro t m' h' tk' F9 N9
    k_steps
    rename Fr _ _ _ _ => F8
    rename News _ _ _ _ => N8
    exact hret _ _ _ F8 (nwSub N8 hb0)
theorem signed_law {w : World} {mean : ExcName → Option Value} {mg mb : Str → Option Value} {g : Heap} {L fa : Addr} {cd : Value} {s : Shared} {m : Str → Option Value} {news tlF : List (Addr × Obj)} {fl : Addr} {fs : List (Int × Int)} {fv : List Value} {cf : Nat} {Q E : Value → Shared → Prop}
    (hfl : (fl, listOf fv.toArray cf) ∈ news) (hfd : DatAll tlF fv (fs.map pairD)) (hfn : ∀ p ∈ tlF, p ∈ news) (hfs : fs.length ≤ 100)
    (B : Below callerA g [] g) (F : Fr g L s.heap m) (X : (hd.heap_39 w.params).In g) (N : News g L s.heap news) (T : Top hd.view_39 Lo mean mg mb g)
    (hret : ∀ (t : Tok) (h' : Heap) (tk' : Nat), Fr g L h' m → News g L h' news → Q (.int (signedF fs) t) { s with heap := h', toks := tk' }) :
    wpAny (model Challenge.rw_re0025_01.row.prog w) (callerA.deeper (lawEnv L fa cd)) (call (.ref 87) [.ref fl]) Q E s :=
  signed_spec w mean mg mb news tlF fl fs fv cf hfl hfd hfn hfs _ _ _ _ _ _ _ _ _ _ _ _ _ _ _ _ _ B F X N T rfl (by decide) (by decide +kernel) hret
end Mine
end
section
open PySem PySem.W PyProof.Rows PySem.Calls PySem.Spec PyProof.V
namespace Mine
theorem off_S6 : True := by w_top off; trivial
theorem count_law (nums : List Int) : ((textsAt nums 12).length : Int) = signedF (foesOf nums) := by
  obtain ⟨c, hc, e⟩ := idxs_code nums
  have e1 : textsAt nums 12 = textsF (stN nums) orders12 c := by
    unfold textsAt textsF
    rw [List.take_of_length_le (by rw [orders12_len]; decide)]
    have e3 : textsO nums = fun acc o => addG (addG acc (prettyF (whS (stN nums) (upB o c)))) (prettyF (whS (stN nums) (dnB o c))) := by
      funext acc o
      unfold textsO pairT
      rw [e]
      rfl
    rw [e3]
  have e2 : foesOf nums = foesC c := by
    show (idxsOf nums).map _ = _
    rw [e]
    rfl
  rw [e1, e2]
  exact count_all (stN_lt nums) hc
theorem signed_lawN {w : World} {mean : ExcName → Option Value} {mg mb : Str → Option Value} {g : Heap} {L fa : Addr} {cd : Value} {s : Shared} {m : Str → Option Value} {news tlF : List (Addr × Obj)} {fl : Addr} {fs : List (Int × Int)} {fv : List Value} {cf : Nat} {Q E : Value → Shared → Prop}
    (B : Below callerA g [] g) (F : Fr g L s.heap m) (X : (hd.heap_39 w.params).In g) (N : News g L s.heap news) (T : Top hd.view_39 Lo mean mg mb g)
    (hfl : (fl, listOf fv.toArray cf) ∈ news) (hfd : DatAll tlF fv (fs.map pairD)) (hfn : ∀ p ∈ tlF, p ∈ news) (hfs : fs.length ≤ 100)
    (hret : ∀ (t : Tok) (h' : Heap) (tk' : Nat), Fr g L h' m → News g L h' news → Q (.int (signedF fs) t) { s with heap := h', toks := tk' }) :
    wpAny (model Challenge.rw_re0025_01.row.prog w) (callerA.deeper (lawEnv L fa cd)) (call (.ref 87) [.ref fl]) Q E s := signed_law hfl hfd hfn hfs B F X N T hret
local macro_rules | `(tactic| walk_at "call ref") => `(tactic| (k_here; k_dflt (refine unhalt ?_)))
local macro_rules | `(tactic| walk_at "call builtin:len") => `(tactic| (k_here; k_dflt (refine PyProof.Rows.len_list (News.isList (by k_asm) (by k_mem)) (by assumption) ?_); (try dsimp only)))
theorem seg6 (w : World) (mean : ExcName → Option Value) (mg mb : Str → Option Value) (g : Heap) (s0 s : Shared) (fa : Addr) (cd : Value) (Q : Flow → Shared → Prop) (E : Value → Shared → Prop)
    (hnext : ∀ h' tk' m', Fr g g.objs.size h' m' → Q (.ret (.bool true)) { s0 with heap := h', toks := tk' })
    : (hd.heap_39 w.params).In g → ∀ (T : Top hd.view_39 Lo mean mg mb g) (B : Below callerA g [] g) (hS : S5 g s0 s),
    wpAny (model Challenge.rw_re0025_01.row.prog w) (callerA.deeper (lawEnv g.objs.size fa cd)) (execs (lawBody.drop 13) (lawEnv g.objs.size fa cd)) Q E s := by
  k_fill
  intro X T B hS
  obtain ⟨h, tk, m, f, av, ca, tl, tx, tv, ct, rfl, rfl, F0, hm1, hm2, N, hOk, hT, htv⟩ := hS
  have F := frKst (ps := [(Str.ofString "texts", .ref tx), (Str.ofString "foes", .ref f.fl)]) F0 (List.forall_mem_cons.mpr ⟨hm1, List.forall_mem_cons.mpr ⟨hm2, List.forall_mem_nil _⟩⟩)
  clear F0
  have kMk := kstMark
  have hfl : (f.fl, listOf f.fv.toArray f.cf) ∈ (tx, listOf tv.toArray ct) :: f.led av ca tl := .tail _ (.tail _ (.head _))
  obtain ⟨led, eled, N⟩ := nwAll N
  have htx : (tx, listOf tv.toArray ct) ∈ led := nwAt eled (.head _)
  have hfl2 : (f.fl, listOf f.fv.toArray f.cf) ∈ led := nwAt eled hfl
  have hfd := hT.fv
  have N1 := newsDup (newsDup N htx) (.tail _ hfl2)
  have hfn : ∀ p ∈ tl, p ∈ (f.fl, listOf f.fv.toArray f.cf) :: (tx, listOf tv.toArray ct) :: led := fun p hp => .tail _ (.tail _ (nwAt eled (by
    show p ∈ (tx, listOf tv.toArray ct) :: f.led av ca tl
    unfold Fix.led
    simp [hp])))
  have hfew : (foesOf f.nums).length ≤ 100 := by
    unfold foesOf
    rw [List.length_map]
    exact Nat.le_trans (List.length_filter_le _ _) (by simp)
  have hln := StrsAre.len_eq htv
  have hl24 := textsAt_len f.nums 12
  have hlz : ((tv.toArray.size : Nat) : Int) < 2 ^ 63 := by rw [List.size_toArray]; omega
  clear N hfl
  with_unfolding_all dsimp only [lawEnv, lawBody, lawScope, lawPick, Challenge.pw_re0025_01, List.getLast?, List.getLast, List.drop]
  k_steps
  rename Fr _ _ _ _ => F8
  rename News _ _ _ _ => N8
  refine halted ?_
  refine signed_law (tlF := tl) (fs := foesOf f.nums) (.head _) hfd hfn hfew B F8 X N8 T ?_
  intro t9 h9 tk9 F9 N9
  clear F8 N8
  k_steps
  have e : (((tv.toArray.size : Nat) : Int) == signedF (foesOf f.nums)) = true := by
    rw [beq_iff_eq, List.size_toArray, hln]
    exact count_law f.nums
  rw [e]
  exact hnext _ _ _ F9
end Mine
end
section
open PySem PySem.W PyProof.Rows PySem.Calls PySem.Spec PyProof.V
namespace Mine
theorem lawWalk (w : World) (mean : ExcName → Option Value) (mg mb : Str → Option Value) (g : Heap) (s : Shared) (fa sc : Addr) (cd : Value) (vs : List Value) (ns : List Int) (m : Str → Option Value) (o1 o2 o3 : Obj) (Q : Flow → Shared → Prop) (E : Value → Shared → Prop)
    (hE : PassesOwn (model Challenge.rw_re0025_01.row.prog w) (callerA.deeper (lawEnv g.objs.size fa cd)) (lawEnv g.objs.size fa cd) E)
    (X : (hd.heap_39 w.params).In g) (T : Top hd.view_39 Lo mean mg mb g) (B : Below callerA g [] g)
    (hL : g.IsList sc vs.toArray) (hI : IntsAre vs ns) (hlen : ns.length ≤ 63) (F : Fr g g.objs.size s.heap m) (hm : m (Str.ofString "script") = some (.ref sc))
    (N : News g g.objs.size s.heap [(g.objs.size + 1 + 1 + 1, o3), (g.objs.size + 1 + 1, o2), (g.objs.size + 1, o1)]) (c1 : o1.data = .cell none) (c2 : o2.data = .cell none) (c3 : o3.data = .cell none)
    (hnext : ∀ h' tk' m', Fr g g.objs.size h' m' → Q (.ret (.bool true)) { s with heap := h', toks := tk' }) :
    wpAny (model Challenge.rw_re0025_01.row.prog w) (callerA.deeper (lawEnv g.objs.size fa cd)) (execs lawBody (lawEnv g.objs.size fa cd)) Q E s :=
  seg1 w mean mg mb g s fa sc cd vs ns m o1 o2 o3 Q E (fun s1 h1 =>
    seg2 w mean mg mb g s s1 fa cd Q E (fun s2 h2 =>
      seg3a w mean mg mb g s s2 fa cd Q E (fun s3 h3 =>
        seg3b w mean mg mb g s s3 fa cd Q E (fun s4 h4 =>
          seg4 w mean mg mb g s s4 fa cd Q E hE (fun s5 h5 =>
            seg5 w mean mg mb g s s5 fa cd Q E hE (fun s6 h6 =>
              seg6 w mean mg mb g s s6 fa cd Q E hnext X T B h6) X T B h5) X T B h4) X T B h3) X T B h2) hE X T B h1) hE X T B hL hI hlen F hm N c1 c2 c3
end Mine
end
theorem PySem.Challenge.cw_re0025_01_holds : PySem.Challenge.rw_re0025_01.Holds := by
  w_top off
  refine Mine.hd ?_
  k_go0
  all_goals try k_fold
  rename Fr _ _ _ _ => F1
  rename News _ _ _ _ => N1
  rename Below _ _ _ _ => B1
  rename Top _ _ _ _ _ _ => T1
  rename Frag.In _ _ => X1
  rename Heap.IsList _ _ _ => hL1
  rename IntsAre _ _ => hI1
  rename (¬ _ < _) => hlen1
  refine Mine.lawWalk _ _ _ _ _ _ _ _ _ _ _ _ _ _ _ _ _ ?hE X1 T1 B1 hL1 hI1 ?len F1 ?hm N1 ?c1 ?c2 ?c3 ?next
  case len => omega
  case hm => rfl
  case c1 => assumption
  case c2 => assumption
  case c3 => assumption
  case hE => passes_own
  case next =>
    intro h' tk' m' F9
    k_steps
    all_goals (try k_data)
    all_goals w_report
