import PyProof.Rows.All
import Wide.All
import OpenK.AllK
import Wide.FinOn
import PySem.Challenge.RW_nb0383_01
open PySem PySem.W PyProof.Rows
set_option Elab.async false
set_option maxRecDepth 100000
set_option maxHeartbeats 8000000
set_option linter.unusedVariables false

/- part Hd -/
namespace Mine
open_top hd for PySem.Challenge.rw_nb0383_01
end Mine

/- part Base -/
namespace Mine

/-- the names of `xs` are forgotten (`u`), the others stand as in `m₀` -/
abbrev forget (xs : List Str) (u m₀ : Str → Option Value) : Str → Option Value := fun z => if xs.contains z then u z else m₀ z
theorem forget_self (xs : List Str) (m₀ : Str → Option Value) : forget xs m₀ m₀ = m₀ := by
  funext z; unfold forget; split <;> rfl
theorem forget_eq {xs : List Str} {m₁ m₀ : Str → Option Value} (h : ∀ z, xs.contains z = false → m₁ z = m₀ z) : m₁ = forget xs m₁ m₀ := by
  funext z
  show m₁ z = if xs.contains z = true then m₁ z else m₀ z
  cases hz : xs.contains z with
  | true => rw [if_pos rfl]
  | false => rw [if_neg Bool.false_ne_true]; exact h z hz
theorem allLt_mem {d : Nat} : ∀ {l : List (Addr × Obj)}, AllLt d l → ∀ p ∈ l, p.1 < d
  | [], _, _, h => nomatch h
  | _ :: _, ⟨h, _⟩, _, .head _ => h
  | _ :: _, ⟨_, h⟩, p, .tail _ hp => allLt_mem h p hp

section
variable {prog : Program} {w : World} {A : Around} {E : Value → Shared → Prop} {s : Shared} {env : Env} {h₀ : Heap} {x : Str} {body : List Stmt} {Q : Flow → Shared → Prop}
/-- a loop over a range, by an invariant over the turn's number, the frame and the ledger -/
theorem iter_rangeJ {r : Addr} {a₀ b₀ : Int} {t₀ u₀ v₀ : Tok} {n : Nat} {m₀ : Str → Option Value} {news : List (Addr × Obj)}
    (J : Nat → (Str → Option Value) → List (Addr × Obj) → Prop)
    (hh : A.handled = none) (hr : IsRange s.heap r a₀ b₀ 1 t₀ u₀ v₀) (hsmall : Builtin.Range.small a₀ b₀ 1 = true) (hn : Builtin.Range.rangeSize a₀ b₀ 1 = (n : Int))
    (F : Fr h₀ env.locals s.heap m₀) (N : News h₀ env.locals s.heap news) (hJ : J 0 m₀ news)
    (turn : ∀ (i : Nat) t m₁ nx h tk own, i < n → nx.map (·.1) = news.map (·.1) → OwnOff own (news.map (·.1)) → J i m₁ nx → Fr h₀ env.locals h (fun y => if y = x then some (.int (a₀ + (i : Int)) t) else m₁ y) → News h₀ env.locals h (nx ++ own) →
      wpAny (model prog w) A (execs body env) (InvPostN h₀ env.locals (J (i + 1)) own (news.map (·.1)) { s with heap := h, toks := tk } Q) E { s with heap := h, toks := tk })
    (done : ∀ m₁ nx h tk, J n m₁ nx → Fr h₀ env.locals h m₁ → News h₀ env.locals h nx → Q .next { s with heap := h, toks := tk }) :
    wpAny (model prog w) A (pyIter (.ref r)) (fun it s₂ => LoopAtV prog w A h₀ env x body Q E it s₂) E s := by
  refine wpAny_pyIter_range hr hsmall ?_
  have W := (Walks.range (prog := prog) (w := w) hh s.heap.objs.size a₀ 1 n).bound
  refine loop_invN J W ?_ ?_ ?_ ?_ (by show IsRangeIter _ _ _ _ _; rw [hn]; simpa using Heap.get?_push_size _ rfl) (F.push _) (fun p hp => ⟨Heap.get?_push_of_some _ (N p hp).1, (N p hp).2⟩) hJ ?_ done
  · intro hm
    exact absurd F.ns.lt ((List.mem_singleton.mp hm) ▸ Nat.lt_irrefl _)
  · intro b hb
    rw [List.mem_singleton.mp hb]
    exact next_is_new F
  · intro p hp hI
    exact absurd (Heap.lt_size (N p hp).1) ((List.mem_singleton.mp hI) ▸ Nat.lt_irrefl _)
  · intro p hp hI
    exact absurd (Heap.lt_size (N p hp).1) ((List.mem_singleton.mp hI) ▸ Nat.lt_irrefl _)
  · rintro i v m₁ nx h tk own hi ⟨_, t, rfl⟩ ha ho hj F' N'
    rw [Int.mul_one] at F'
    exact turn i t m₁ nx h tk own hi ha ho hj F' N'

/-- a loop over a range that grows ONE list of texts -/
theorem iter_rangeW {r d : Addr} {a₀ b₀ : Int} {t₀ u₀ v₀ : Tok} {n : Nat} {m₀ : Str → Option Value} {rest : List (Addr × Obj)} {items₀ : Array Value} {n₀ : Nat}
    (names : List Str) (G : Nat → List Str)
    (hh : A.handled = none) (hr : IsRange s.heap r a₀ b₀ 1 t₀ u₀ v₀) (hsmall : Builtin.Range.small a₀ b₀ 1 = true) (hn : Builtin.Range.rangeSize a₀ b₀ 1 = (n : Int))
    (F : Fr h₀ env.locals s.heap m₀) (N : News h₀ env.locals s.heap ((d, W.listOf items₀ n₀) :: rest)) (hS : StrsAre items₀.toList (G 0))
    (turn : ∀ (i : Nat) t vs n₁ u h tk own, i < n → StrsAre vs (G i) → OwnOff own (d :: rest.map (·.1)) → Fr h₀ env.locals h (fun y => if y = x then some (.int (a₀ + (i : Int)) t) else forget names u m₀ y) → News h₀ env.locals h (((d, W.listOf (List.toArray vs) n₁) :: rest) ++ own) →
      wpAny (model prog w) A (execs body env) (InvPostN h₀ env.locals (fun m' nx => (∃ vs' n', nx = (d, W.listOf (List.toArray vs') n') :: rest ∧ StrsAre vs' (G (i + 1))) ∧ ∀ z, z ≠ x → names.contains z = false → m' z = m₀ z) own (d :: rest.map (·.1)) { s with heap := h, toks := tk } Q) E { s with heap := h, toks := tk })
    (done : ∀ vs n₁ u h tk, StrsAre vs (G n) → Fr h₀ env.locals h (forget (x :: names) u m₀) → News h₀ env.locals h ((d, W.listOf (List.toArray vs) n₁) :: rest) → Q .next { s with heap := h, toks := tk }) :
    wpAny (model prog w) A (pyIter (.ref r)) (fun it s₂ => LoopAtV prog w A h₀ env x body Q E it s₂) E s := by
  refine iter_rangeJ (fun i m nx => (∃ vs n, nx = (d, W.listOf (List.toArray vs) n) :: rest ∧ StrsAre vs (G i)) ∧ ∀ z, z ≠ x → names.contains z = false → m z = m₀ z) hh hr hsmall hn F N ⟨⟨items₀.toList, n₀, by simp, hS⟩, fun _ _ _ => rfl⟩ ?_ ?_
  · rintro i t m₁ nx h tk own hi _ ho ⟨⟨vs, n₁, rfl, hS'⟩, hm⟩ F₁ N₁
    have e : (fun y => if y = x then some (Value.int (a₀ + (i : Int)) t) else m₁ y) = fun y => if y = x then some (Value.int (a₀ + (i : Int)) t) else forget names m₁ m₀ y := by
      funext z
      by_cases h1 : z = x
      · simp [h1]
      · simp only [if_neg h1]
        show m₁ z = if names.contains z = true then m₁ z else m₀ z
        cases hz : names.contains z with
        | true => rw [if_pos rfl]
        | false => rw [if_neg Bool.false_ne_true]; exact hm z h1 hz
    rw [e] at F₁
    exact turn i t vs n₁ m₁ h tk own hi hS' ho F₁ N₁
  · rintro m₁ nx h tk ⟨⟨vs, n₁, rfl, hS'⟩, hm⟩ F₁ N₁
    refine done vs n₁ m₁ h tk hS' ?_ N₁
    have e : m₁ = forget (x :: names) m₁ m₀ := forget_eq fun z hz => by
      rw [List.contains_cons, Bool.or_eq_false_iff] at hz
      exact hm z (by simpa using hz.1) hz.2
    rw [← e]; exact F₁
theorem endW {L d : Addr} {rest own news' : List (Addr × Obj)} {names : List Str} {m₀ m' : Str → Option Value} {h' : Heap} {tk : Nat} {s₁ : Shared} {vs' : List Value} {n' : Nat} {ws' : List Str}
    (F : Fr h₀ L h' m') (N : News h₀ L h' news') (hS : StrsAre vs' ws') (hm : ∀ z, z ≠ x → names.contains z = false → m' z = m₀ z)
    (h1 : ∀ p ∈ (d, W.listOf (List.toArray vs') n') :: rest, p ∈ news') (h2 : ∀ p ∈ own, p ∈ news') :
    InvEndN h₀ L (fun m' nx => (∃ vs' n', nx = (d, W.listOf (List.toArray vs') n') :: rest ∧ StrsAre vs' ws') ∧ ∀ z, z ≠ x → names.contains z = false → m' z = m₀ z) own (d :: rest.map (·.1)) s₁ { s₁ with heap := h', toks := tk } :=
  ⟨h', tk, m', news', _, rfl, F, N, h1, h2, rfl, ⟨⟨vs', n', rfl, hS⟩, hm⟩⟩
theorem endWp {L d : Addr} {rest own : List (Addr × Obj)} {names : List Str} {m₀ m' : Str → Option Value} {h' : Heap} {tk : Nat} {s₁ : Shared} {vs : List Value} {n' : Nat} {ws : List Str} {y : Str} {t : Tok}
    (F : Fr h₀ L h' m') (N : News h₀ L h' ((d, W.listOf ((List.toArray vs).push (.str y t)) n') :: (rest ++ own))) (hS : StrsAre vs ws) (hm : ∀ z, z ≠ x → names.contains z = false → m' z = m₀ z) :
    InvEndN h₀ L (fun m' nx => (∃ vs' n', nx = (d, W.listOf (List.toArray vs') n') :: rest ∧ StrsAre vs' (ws ++ [y])) ∧ ∀ z, z ≠ x → names.contains z = false → m' z = m₀ z) own (d :: rest.map (·.1)) s₁ { s₁ with heap := h', toks := tk } := by
  rw [List.push_toArray] at N
  refine endW (vs' := vs ++ [.str y t]) (n' := n') F N (hS.append' (.cons _ _ .nil)) hm (fun q hq => ?_) fun q hq => ?_
  · rcases List.mem_cons.mp hq with rfl | hq
    · exact .head _
    · exact .tail _ (List.mem_append.mpr (.inl hq))
  · exact .tail _ (List.mem_append.mpr (.inr hq))
end
end Mine

/- part Loops -/
namespace Mine

/-- a turn's end: the frame, the iterator as it was, a ledger of which Jn is true -/
def TurnG (h₀ : Heap) (L : Addr) (Jn : (Str → Option Value) → List (Addr × Obj) → Array GenState → Prop) (I : Addr) (io : Obj) (s₁ : Shared) (f : Flow) (s₂ : Shared) : Prop :=
  f = .next ∧ ∃ h' tk gn m' nx, s₂ = { s₁ with heap := h', toks := tk, gens := gn } ∧ Fr h₀ L h' m' ∧ News h₀ L h' ((I, io) :: nx) ∧ (∀ p ∈ nx, p.1 ≠ I) ∧ Jn m' nx gn

section
variable {prog : Program} {w : World} {A : Around} {s : Shared} {env : Env} {h₀ : Heap}

theorem forLoopG {R : Result → Shared → Prop} {x : Str} {px : Pos} {body : List Stmt} {I : Addr} {fp : List Addr} {n : Nat} {P : Nat → Value → Prop} {St : Nat → Heap → Prop} {m₀ : Str → Option Value} {news : List (Addr × Obj)}
    (fixed : List (Addr × Obj)) (J : Nat → (Str → Option Value) → List (Addr × Obj) → Array GenState → Prop)
    (W : Walks prog w A I fp [I] n P St) (hsI : ∀ i h, St i h → ∃ o, h.get? I = some o)
    (hx : env.kindOf x = some .local) (hp : (env.scope.kind == .class || (env.scope.kind == .module && env.locals != env.globals)) = false)
    (hLI : env.locals ≠ I) (hI₀ : h₀.get? I = none) (hnI : ∀ p ∈ news, p.1 ≠ I)
    (hfp : ∀ b ∈ fp, b = I ∨ ∃ o, (b, o) ∈ fixed) (hfix : ∀ i m nx gn, J i m nx gn → ∀ p ∈ fixed, p ∈ nx)
    (hst : St 0 s.heap) (F : Fr h₀ env.locals s.heap m₀) (N : News h₀ env.locals s.heap news) (hj : J 0 m₀ news s.gens)
    (turn : ∀ i v m₁ nx h tk gn io, i < n → P i v → (∀ p ∈ nx, p.1 ≠ I) → J i m₁ nx gn → Fr h₀ env.locals h (fun y => if y = x then some v else m₁ y) → News h₀ env.locals h ((I, io) :: nx) →
      wpAny (model prog w) A (execs body env) (TurnG h₀ env.locals (J (i + 1)) I io { s with heap := h, toks := tk, gens := gn }) (notedBy (model prog w) A env fun e s' => R (.error e) s') { s with heap := h, toks := tk, gens := gn })
    (done : ∀ m₁ nx h tk gn, J n m₁ nx gn → Fr h₀ env.locals h m₁ → News h₀ env.locals h nx → R (.ok .next) { s with heap := h, toks := tk, gens := gn }) :
    codeAny (model prog w) A (.forLoop (.Name x px) (.ref I) body [] env) R s := by
  have old : ∀ b o, h₀.get? b = some o → b ≠ I := fun b o e hb => by rw [hb, hI₀] at e; cases e
  refine codeAny_forLoop_any
    (fun k s' => ∃ h' tk gn m' nx i, s' = { s with heap := h', toks := tk, gens := gn } ∧ St i h' ∧ Fr h₀ env.locals h' m' ∧ News h₀ env.locals h' nx ∧ (∀ p ∈ nx, p.1 ≠ I) ∧ J i m' nx gn ∧ i ≤ n ∧ k = n + 1 - i) ?_ (n + 1)
    ⟨s.heap, s.toks, s.gens, m₀, news, 0, rfl, hst, F, N, hnI, hj, Nat.zero_le _, rfl⟩
  rintro k s' ⟨h', tk, gn, m', nx, i, rfl, hst', F', N', hnw', hJ, hi, rfl⟩
  have next : ∀ h₁ : Heap, (∀ b o, b ∉ [I] → h'.get? b = some o → h₁.get? b = some o) → Fr h₀ env.locals h₁ m' ∧ News h₀ env.locals h₁ nx := fun h₁ hk₁ =>
    ⟨⟨F'.ns.at' fun o e => hk₁ _ o (by simpa using hLI) e, fun b o e => hk₁ b o (by simpa using old b o e) (F'.keep b o e), F'.above⟩,
      fun p hp => ⟨hk₁ _ _ (by simpa using hnw' p hp) (N' p hp).1, (N' p hp).2⟩⟩
  by_cases hlt : i < n
  · refine W.item i _ _ _ hlt hst' fun v h₁ tk₁ hP hst₁ hk₁ => ?_
    obtain ⟨F₁, N₁⟩ := next h₁ hk₁
    refine wpAny_of_eq (rfl : letOwnedTupleGo (.Name x px) (.ref I) v = pure ()) ?_
    refine wpAny_assign_Name (wpAny_storeName_local hx F₁.ns (fun h₂ hn₂ hs₂ => ?_) hp)
    have F₂ := F₁.set hn₂ hs₂
    have N₂ := N₁.set hs₂
    obtain ⟨io, hio₁⟩ := hsI _ _ hst₁
    have hio : h₂.get? I = some io := hs₂.extBut I io (Ne.symm hLI) hio₁
    have N₃ : News h₀ env.locals h₂ ((I, io) :: nx) := fun p hp => by
      rcases List.mem_cons.mp hp with rfl | hp
      · exact ⟨hio, Ne.symm hLI, hI₀⟩
      · exact N₂ p hp
    refine wpAny_mono (turn i v m' nx h₂ _ gn io hlt hP hnw' hJ F₂ N₃) (fun f s₃ h₃ => ?_) fun _ _ e => e
    obtain ⟨rfl, h₄, tk₄, gn₄, m₄, nx₄, rfl, F₄, N₄, hn₄, hJ₄⟩ := h₃
    refine ⟨n + 1 - (i + 1), by omega, h₄, tk₄, gn₄, m₄, nx₄, i + 1, rfl, ?_, F₄, (fun p hp => N₄ p (.tail _ hp)), hn₄, hJ₄, hlt, rfl⟩
    refine W.frame _ _ _ hst₁ fun b hb o e => ?_
    rcases hfp b hb with rfl | ⟨o', ho'⟩
    · rw [hio₁] at e
      cases e
      exact (N₄ _ (.head _)).1
    · have e1 : h₁.get? b = some o' := (N₁ _ (hfix _ _ _ _ hJ _ ho')).1
      rw [e1] at e
      cases e
      exact (N₄ _ (.tail _ (hfix _ _ _ _ hJ₄ _ ho'))).1
  · have hin : i = n := by omega
    subst hin
    refine W.done _ _ _ hst' fun h₁ tk₁ hk₁ => wpAny_execs_nil ?_
    obtain ⟨F₁, N₁⟩ := next h₁ hk₁
    exact done m' nx h₁ tk₁ gn hJ F₁ N₁

/-- over a list of texts of the ledger, which stays -/
theorem forG_strs {R : Result → Shared → Prop} {E : Value → Shared → Prop} {x : Str} {px : Pos} {body : List Stmt} {l : Addr} {vs : List Value} {ys : List Str} {nn : Nat} {m₀ : Str → Option Value} {news : List (Addr × Obj)}
    (J : Nat → (Str → Option Value) → List (Addr × Obj) → Array GenState → Prop)
    (hh : A.handled = none) (hl : (l, W.listOf (List.toArray vs) nn) ∈ news) (hi : StrsAre vs ys)
    (hx : env.kindOf x = some .local) (hp : (env.scope.kind == .class || (env.scope.kind == .module && env.locals != env.globals)) = false)
    (F : Fr h₀ env.locals s.heap m₀) (N : News h₀ env.locals s.heap news) (hfix : ∀ i m nx gn, J i m nx gn → (l, W.listOf (List.toArray vs) nn) ∈ nx) (hj : J 0 m₀ news s.gens)
    (turn : ∀ i y t m₁ nx h tk gn I io, ys[i]? = some y → (∀ p ∈ nx, p.1 ≠ I) → J i m₁ nx gn → Fr h₀ env.locals h (fun z => if z = x then some (.str y t) else m₁ z) → News h₀ env.locals h ((I, io) :: nx) →
      wpAny (model prog w) A (execs body env) (TurnG h₀ env.locals (J (i + 1)) I io { s with heap := h, toks := tk, gens := gn }) (notedBy (model prog w) A env fun e s' => R (.error e) s') { s with heap := h, toks := tk, gens := gn })
    (done : ∀ m₁ nx h tk gn, J ys.length m₁ nx gn → Fr h₀ env.locals h m₁ → News h₀ env.locals h nx → R (.ok .next) { s with heap := h, toks := tk, gens := gn }) :
    wpAny (model prog w) A (pyIter (.ref l)) (fun it s₂ => codeAny (model prog w) A (.forLoop (.Name x px) it body [] env) R s₂) E s := by
  have hol : s.heap.get? l = some (W.listOf (List.toArray vs) nn) := (N _ hl).1
  have hls : s.heap.IsList l vs.toArray := ⟨_, hol, rfl, nn, rfl⟩
  have hne : l ≠ s.heap.objs.size := Nat.ne_of_lt (Heap.lt_size hol)
  refine wpAny_pyIter_list hls ?_
  have Wk := Walks.list (prog := prog) (w := w) hh s.heap.objs.size l hne vs.toArray
  have hlen : vs.toArray.size = ys.length := by simp [hi.length]
  rw [hlen] at Wk
  refine forLoopG [(l, W.listOf (List.toArray vs) nn)] J Wk ?_ hx hp ?_ (next_is_new F) ?_ ?_ ?_ ⟨⟨_, Heap.get?_push_size _ rfl, rfl, rfl⟩, hls.at fun o e => Heap.get?_push_of_some _ e⟩ (F.push _) (fun p hp => ⟨Heap.get?_push_of_some _ (N p hp).1, (N p hp).2⟩) hj ?_ done
  · rintro i h ⟨⟨o, ho, _⟩, _⟩
    exact ⟨o, ho⟩
  · exact Nat.ne_of_lt F.ns.lt
  · intro p hp
    exact Nat.ne_of_lt (Heap.lt_size (N p hp).1)
  · intro b hb
    rcases List.mem_cons.mp hb with h | h
    · exact .inl h
    · exact .inr ⟨_, by rw [List.mem_singleton.mp h]; exact .head _⟩
  · intro i m nx gn hJ p hp
    rw [List.mem_singleton.mp hp]
    exact hfix i m nx gn hJ
  · intro i v m₁ nx h tk gn io hi' hP hnI hJ F₁ N₁
    obtain ⟨t, hx'⟩ := hi.get i ys[i] (by simp [hi'])
    have hv : v = .str ys[i] t := by
      have hP' : vs[i]? = some v := by simpa using hP
      rw [hx'] at hP'; exact (Option.some.inj hP').symm
    subst hv
    exact turn i ys[i] t m₁ nx h tk gn _ io (by simp [hi']) hnI hJ F₁ N₁

/-- the signs of a text, each as a text -/
def signsOf (x : Str) : List Str := x.cps.toList.map fun c => (⟨#[c]⟩ : Str)
theorem signsOf_length (x : Str) : (signsOf x).length = x.cps.size := by simp [signsOf]

/-- over the signs of a text -/
theorem forG_str {R : Result → Shared → Prop} {E : Value → Shared → Prop} {x : Str} {px : Pos} {body : List Stmt} {tx : Str} {tt : Tok} {m₀ : Str → Option Value} {news : List (Addr × Obj)}
    (J : Nat → (Str → Option Value) → List (Addr × Obj) → Array GenState → Prop)
    (hh : A.handled = none)
    (hx : env.kindOf x = some .local) (hp : (env.scope.kind == .class || (env.scope.kind == .module && env.locals != env.globals)) = false)
    (F : Fr h₀ env.locals s.heap m₀) (N : News h₀ env.locals s.heap news) (hj : J 0 m₀ news s.gens)
    (turn : ∀ i y t m₁ nx h tk gn I io, (signsOf tx)[i]? = some y → (∀ p ∈ nx, p.1 ≠ I) → J i m₁ nx gn → Fr h₀ env.locals h (fun z => if z = x then some (.str y t) else m₁ z) → News h₀ env.locals h ((I, io) :: nx) →
      wpAny (model prog w) A (execs body env) (TurnG h₀ env.locals (J (i + 1)) I io { s with heap := h, toks := tk, gens := gn }) (notedBy (model prog w) A env fun e s' => R (.error e) s') { s with heap := h, toks := tk, gens := gn })
    (done : ∀ m₁ nx h tk gn, J (signsOf tx).length m₁ nx gn → Fr h₀ env.locals h m₁ → News h₀ env.locals h nx → R (.ok .next) { s with heap := h, toks := tk, gens := gn }) :
    wpAny (model prog w) A (pyIter (.str tx tt)) (fun it s₂ => codeAny (model prog w) A (.forLoop (.Name x px) it body [] env) R s₂) E s := by
  have go : ∀ (T : String) (o : Obj), Walks prog w A s.heap.objs.size [s.heap.objs.size] [s.heap.objs.size] tx.cps.size (SignAt tx) (fun i h => h.IsStrIter s.heap.objs.size T tx tt i) →
      (s.heap.push o).IsStrIter s.heap.objs.size T tx tt 0 → codeAny (model prog w) A (.forLoop (.Name x px) (.ref s.heap.objs.size) body [] env) R { s with heap := s.heap.push o } := by
    intro T o W hst
    rw [← signsOf_length] at W
    refine forLoopG [] J W ?_ hx hp ?_ (next_is_new F) ?_ ?_ ?_ hst (F.push _) (fun p hp => ⟨Heap.get?_push_of_some _ (N p hp).1, (N p hp).2⟩) hj ?_ done
    · rintro i h ⟨o, ho, _⟩
      exact ⟨o, ho⟩
    · exact Nat.ne_of_lt F.ns.lt
    · intro p hp
      exact Nat.ne_of_lt (Heap.lt_size (N p hp).1)
    · intro b hb
      exact .inl (List.mem_singleton.mp hb)
    · intro i m nx gn _ p hp
      cases hp
    · rintro i v m₁ nx h tk gn io hi' ⟨c, u, hc, rfl⟩ hnI hJ F₁ N₁
      exact turn i _ u m₁ nx h tk gn _ io (by simp [signsOf, hc]) hnI hJ F₁ N₁
  cases ha : tx.cps.all (· < 128)
  · exact wpAny_pyIter_wide ha (go _ _ (Walks.strWide hh _ tx tt) ⟨_, Heap.get?_push_size _ rfl, rfl, rfl⟩)
  · exact wpAny_pyIter_ascii ha (go _ _ (Walks.strAscii hh _ tx tt) ⟨_, Heap.get?_push_size _ rfl, rfl, rfl⟩)
end
end Mine

/- part W1 -/
namespace Mine
local macro_rules | `(tactic| walk_at "Mstep") => `(tactic| (first | (k_unfold; (try dsimp only)) | walk1 | (dsimp only; walk1)))
local macro_rules | `(tactic| walk_at "MtoSub") => `(tactic| repeat ((fail_if_success (with_reducible show wpAny _ _ (subscriptTail _ _ _ _) _ _ _)); walk_at "Mstep"))
local macro_rules | `(tactic| walk_at "MtoIter") => `(tactic| repeat ((fail_if_success (with_reducible show wpAny _ _ (pyIter _) _ _ _)); walk_at "Mstep"))

def sg : Str := Str.ofString "abcdefgh"
def wordOf (y k : Int) : Str := Txt.slice (Txt.item sg (y.fmod 8) ++ Txt.item sg ((y.fdiv 8 + k).fmod 8) ++ Txt.item sg ((y.fdiv 64 + 3 * k).fmod 8)) none (some (3 - y.fdiv 512))
theorem fit8w {i : Int} (h0 : 0 ≤ i) (h1 : i < 8) : fitsSsize i = true := fitsSsize_of (N := 9) (by omega) (by omega) (by omega)
theorem sg_len : (Str.ofString "abcdefgh").length = 8 := by decide +kernel
theorem fmod8 (a : Int) : 0 ≤ a.fmod 8 ∧ a.fmod 8 < 8 := ⟨Int.fmod_nonneg_of_pos _ (by omega), Int.fmod_lt_of_pos _ (by omega)⟩

def words4 : List Str := [Str.ofString "de", Str.ofString "cd", Str.ofString "bc", Str.ofString "ab"]
def wordsTo (ns : List Int) (i : Nat) : List Str := words4 ++ (List.range i).map fun j => wordOf (ns.getD j 0) (j : Int)
theorem wordsTo_length (ns : List Int) (i : Nat) : (wordsTo ns i).length = 4 + i := by simp [wordsTo, words4]; omega
theorem wordsTo_succ (ns : List Int) (i : Nat) : wordsTo ns (i + 1) = wordsTo ns i ++ [wordOf (ns.getD i 0) (i : Int)] := by
  simp [wordsTo, List.range_succ]

theorem words_claim {w : World} {p : Program} {loose : List Str} {mean : ExcName → Option Value} {mg mb : Str → Option Value}
    {dp un : Nat} {gd : Option (List Code)} {cn : Str} {cs : Scope} {a : Addr} {ccd : Value} {cl : List (Str × Addr)} {outer : List Env} {A₀ : Around} {base h₀ : Heap} {L : Addr} {m : Str → Option Value} {s : Shared} {Q E : Value → Shared → Prop}
    {l : Addr} {ys : List Value} {ns : List Int} {e0 : Nat} {news : List (Addr × Obj)}
    (B : Below A₀ base outer h₀) (F : Fr h₀ L s.heap m) (X : (hd.heap_39 w.params).In h₀) (N : News h₀ L s.heap ((l, W.listOf ys.toArray e0) :: news)) (T : Top p loose mean mg mb h₀) (hk : cs.kind = .function)
    (hI : IntsAre ys ns) (hr : ∀ n ∈ ns, 0 ≤ n ∧ n < 1536) (hlen : ns.length ≤ 63) (hdp : dp + 1 < recursionLimit) (hun : un + 8 < cLine)
    (hret : ∀ d vs n h' tk', Fr h₀ L h' m → News h₀ L h' ((d, W.listOf (List.toArray vs) n) :: (l, W.listOf ys.toArray e0) :: news) → l < d → (∀ p ∈ news, p.1 < d) → StrsAre vs (wordsTo ns ns.length) → Q (.ref d) { s with heap := h', toks := tk' }) :
    wpAny (model Challenge.rw_nb0383_01.row.prog w) (ktrTop dp un gd cn cs L a ccd cl outer) (call (.ref 63) [.ref l]) Q E s := by
  revert X
  k_fill
  intro X
  refine wpAny_call ?_
  k_dflt cell_enter
  walk_at "MtoIter"
  rename IsRange _ _ _ _ _ _ _ _ => hR
  rename Fr _ _ _ _ => F1
  rename News _ _ _ _ => N1
  rename (_ < _) ∧ AllLt _ _ => hLt
  refine iter_rangeW (n := ns.length) [Str.ofString "y", Str.ofString "word"] (wordsTo ns) rfl hR ?_ ?_ F1 N1 ?_ ?_ ?_
  · exact small_one (by omega) (by omega) (by omega) (by omega)
  · unfold Builtin.Range.rangeSize; split <;> omega
  · exact .cons _ _ (.cons _ _ (.cons _ _ (.cons _ _ .nil)))
  · intro i t vs n₁ u h tk own hi hS ho F2 N2
    clear F1 N1
    have hk0 : 0 ≤ (0 : Int) + (i : Int) := by omega
    have hk1 : (0 : Int) + (i : Int) < ns.length := by omega
    walk_at "MtoSub"
    refine item_list_ints (News.isList N2 (.tail _ (.head _))) hI hk0 hk1 (by omega) ?_
    intro ty
    have hsz : vs.toArray.size ≤ sizeLine := by
      rw [List.size_toArray, hS.length, wordsTo_length, sizeLine_eq]; omega
    rw [wordsTo_succ]
    have ei : ((0 : Int) + (i : Int)).toNat = i := by omega
    rw [ei]
    have ek : (0 : Int) + (i : Int) = (i : Int) := by omega
    rw [ek] at F2
    have hy : 0 ≤ ns.getD i 0 ∧ ns.getD i 0 < 1536 := by
      refine hr _ ?_
      simp [List.getD, hi]
    generalize ns.getD i 0 = y at hy ⊢
    walk_at "MtoSub"
    refine item_str (fit8w (fmod8 _).1 (fmod8 _).2) (by have := (fmod8 y).1; omega) (by rw [sg_len]; exact (fmod8 _).2) ?_
    intro _
    dsimp only
    walk_at "MtoSub"
    refine item_str (fit8w (fmod8 _).1 (fmod8 _).2) (by have := (fmod8 (y.fdiv 8 + (i : Int))).1; omega) (by rw [sg_len]; exact (fmod8 _).2) ?_
    intro _
    dsimp only
    walk_at "MtoSub"
    refine item_str (fit8w (fmod8 _).1 (fmod8 _).2) (by have := (fmod8 (y.fdiv 64 + 3 * (i : Int))).1; omega) (by rw [sg_len]; exact (fmod8 _).2) ?_
    intro _
    dsimp only
    walk_at "MtoSub"
    dsimp only
    walk1
    walk1
    rename Fr _ _ _ _ => F3
    rename News _ _ _ _ => N3
    refine append_K F3 N3 (Upd.head ?_) ?_ hsz
    · intro q hq
      rcases List.mem_cons.mp hq with rfl | hq
      · exact Nat.ne_of_lt hLt.1
      · rcases List.mem_append.mp hq with hq | hq
        · exact Nat.ne_of_lt (allLt_mem hLt.2 q hq)
        · exact ho q hq _ (.head _)
    · intro h4 F4 N4
      clear F3 N3
      walk_at "Mstep"
      refine wpAny_execs_nil ?_
      refine endWp (rest := _ :: news) F4 N4 hS ?_
      intro z h1 h2
      have h3 := h2
      simp only [List.contains_cons, List.contains_nil, Bool.or_false, Bool.or_eq_false_iff, beq_eq_false_iff_ne] at h3
      obtain ⟨h3, h4⟩ := h3
      simp only [if_neg h1, if_neg h3, if_neg h4, forget, h2]
      rfl
  · intro vs n₁ u h tk hS F2 N2
    clear F1 N1
    walk1
    walk1
    walk1
    dsimp only
    k_unfold
    dsimp only
    walk1
    rename Fr _ _ _ _ => F3
    rename News _ _ _ _ => N3
    exact hret _ vs n₁ _ _ F3 N3 hLt.1 (allLt_mem hLt.2) hS
end Mine

/- part Acc -/
namespace Mine
/- parts of the given program, reached by their place in it -/
def stBody : Stmt → List Stmt
  | .FunctionDef _ _ b _ _ _ _ _ _ _ => b
  | .For _ _ b _ _ => b
  | .If _ b _ _ => b
  | _ => []
def stScope : Stmt → Scope
  | .FunctionDef _ _ _ _ _ _ s _ _ _ => s
  | _ => default
def stParams : Stmt → Arguments
  | .FunctionDef _ a _ _ _ _ _ _ _ _ => a
  | _ => default
def stTest : Stmt → Expr
  | .If t _ _ _ => t
  | .For t _ _ _ _ => t
  | _ => default
def stValue : Stmt → Expr
  | .Assign _ v _ => v
  | .Expr v _ => v
  | .For _ t _ _ _ => t
  | _ => default
def exLamA : Expr → Arguments
  | .Lambda a _ _ _ => a
  | _ => default
def exLamB : Expr → Expr
  | .Lambda _ b _ _ => b
  | _ => default
def exLamS : Expr → Scope
  | .Lambda _ _ s _ => s
  | _ => default
def stNth : List Stmt → Nat → Stmt
  | [], _ => .Pass ⟨0, 0, 0, 0⟩
  | a :: _, 0 => a
  | _ :: r, n + 1 => stNth r n
def stPos : Stmt → Pos
  | .For _ _ _ _ p => p
  | .If _ _ _ p => p
  | _ => ⟨0, 0, 0, 0⟩
abbrev topS : List Stmt := Challenge.pw_nb0383_01.main.body

abbrev gDefX : {x : Stmt // x = stNth topS 1} := ⟨_, by dsimp only [topS, Challenge.pw_nb0383_01, stNth]⟩
abbrev gScopeX : {x : Scope // x = stScope gDefX.1} := ⟨_, by dsimp only [stScope]⟩
abbrev gScope : Scope := gScopeX.1
abbrev gForX : {x : Stmt // x = stNth (stBody (stNth (stBody gDefX.1) 1)) 1} := ⟨_, by dsimp only [stNth, stBody]⟩
abbrev gBody1X : {x : List Stmt // x = stBody gForX.1} := ⟨_, by dsimp only [stBody]⟩
abbrev gBody1 : List Stmt := gBody1X.1
abbrev gBody2X : {x : List Stmt // x = stBody (stNth gBody1X.1 0)} := ⟨_, by dsimp only [stNth, stBody]⟩
abbrev gBody2 : List Stmt := gBody2X.1

abbrev lamX : {x : Expr // x = stValue (stNth (stBody (stNth topS 5)) 1)} := ⟨_, by dsimp only [topS, Challenge.pw_nb0383_01, stNth, stBody, stValue]⟩
abbrev lamA : {x : Arguments // x = exLamA lamX.1} := ⟨_, by dsimp only [exLamA]⟩
abbrev lamB : {x : Expr // x = exLamB lamX.1} := ⟨_, by dsimp only [exLamB]⟩
abbrev lamS : {x : Scope // x = exLamS lamX.1} := ⟨_, by dsimp only [exLamS]⟩

abbrev selDefX : {x : Stmt // x = stNth (stBody (stNth topS 2)) 0} := ⟨_, by dsimp only [topS, Challenge.pw_nb0383_01, stNth, stBody]⟩
abbrev selBodyX : {x : List Stmt // x = stBody selDefX.1} := ⟨_, by dsimp only [stBody]⟩
abbrev selBody : List Stmt := selBodyX.1
abbrev selParamsX : {x : Arguments // x = stParams selDefX.1} := ⟨_, by dsimp only [stParams]⟩
abbrev selParams : Arguments := selParamsX.1
abbrev selScopeX : {x : Scope // x = stScope selDefX.1} := ⟨_, by dsimp only [stScope]⟩
abbrev selScope : Scope := selScopeX.1
abbrev sForX : {x : Stmt // x = stNth selBodyX.1 2} := ⟨_, by dsimp only [stNth]⟩
abbrev sTargetX : {x : Expr // x = stTest sForX.1} := ⟨_, by dsimp only [stTest]⟩
abbrev sTarget : Expr := sTargetX.1
abbrev sFBodyX : {x : List Stmt // x = stBody sForX.1} := ⟨_, by dsimp only [stBody]⟩
abbrev sFBody : List Stmt := sFBodyX.1

abbrev tDefX : {x : Stmt // x = stNth topS 7} := ⟨_, by dsimp only [topS, Challenge.pw_nb0383_01, stNth]⟩
abbrev tScopeX : {x : Scope // x = stScope tDefX.1} := ⟨_, by dsimp only [stScope]⟩
abbrev tScope : Scope := tScopeX.1
abbrev tForX : {x : Stmt // x = stNth (stBody tDefX.1) 1} := ⟨_, by dsimp only [stNth, stBody]⟩
abbrev tBodyX : {x : List Stmt // x = stBody tForX.1} := ⟨_, by dsimp only [stBody]⟩
abbrev tBody : List Stmt := tBodyX.1
abbrev tSelX : {x : Stmt // x = stNth tBodyX.1 2} := ⟨_, by dsimp only [stNth]⟩
abbrev tSel : Stmt := tSelX.1
abbrev tSBodyX : {x : List Stmt // x = stBody tSelX.1} := ⟨_, by dsimp only [stBody]⟩
abbrev tSBody : List Stmt := tSBodyX.1
abbrev tSTargetX : {x : Expr // x = stTest tSelX.1} := ⟨_, by dsimp only [stTest]⟩
abbrev tSTarget : Expr := tSTargetX.1

abbrev uDefX : {x : Stmt // x = stNth topS 8} := ⟨_, by dsimp only [topS, Challenge.pw_nb0383_01, stNth]⟩
abbrev uScopeX : {x : Scope // x = stScope uDefX.1} := ⟨_, by dsimp only [stScope]⟩
abbrev uScope : Scope := uScopeX.1
abbrev uForX : {x : Stmt // x = stNth (stBody uDefX.1) 2} := ⟨_, by dsimp only [stNth, stBody]⟩
abbrev uBodyX : {x : List Stmt // x = stBody uForX.1} := ⟨_, by dsimp only [stBody]⟩
abbrev uBody : List Stmt := uBodyX.1
abbrev uForSX : {x : Stmt // x = stNth uBodyX.1 1} := ⟨_, by dsimp only [stNth]⟩
abbrev uSBodyX : {x : List Stmt // x = stBody uForSX.1} := ⟨_, by dsimp only [stBody]⟩
abbrev uSBody : List Stmt := uSBodyX.1
end Mine

/- part Dat -/
namespace Mine
abbrev dS (l : List Str) : PyData := .list (l.map PyData.str)
abbrev dSS (l : List (List Str)) : PyData := .list (l.map dS)
theorem canLay_strs : ∀ {l : List Str}, (∀ u ∈ l, PyData.strOk u = true) → PyData.canLayAll0 (l.map PyData.str) = true
  | [], _ => rfl
  | a :: r, h => by
    simp only [List.map_cons, PyData.canLayAll0, PyData.canLay0, h a (.head _), canLay_strs fun u hu => h u (.tail _ hu), Bool.and_true]
theorem depth_strs : ∀ l : List Str, PyData.depthAll (l.map PyData.str) = 0
  | [] => rfl
  | _ :: r => by simp [PyData.depthAll, PyData.depth, depth_strs r]
theorem shaped_dS {l : List Str} (h : ∀ u ∈ l, PyData.strOk u = true) : SeqAt.shaped (dS l) = true := by
  simp [SeqAt.shaped, PyData.canLay0, PyData.depth, canLay_strs h, depth_strs]
theorem canLay_dSS : ∀ {l : List (List Str)}, (∀ x ∈ l, ∀ u ∈ x, PyData.strOk u = true) → PyData.canLayAll0 (l.map dS) = true
  | [], _ => rfl
  | a :: r, h => by
    simp only [List.map_cons, PyData.canLayAll0, PyData.canLay0, canLay_strs (h a (.head _)), canLay_dSS fun u hu => h u (.tail _ hu), Bool.and_true]
theorem depth_dSS : ∀ l : List (List Str), PyData.depthAll (l.map dS) ≤ 1
  | [] => Nat.zero_le _
  | _ :: r => by
    have := depth_dSS r
    simp only [List.map_cons, PyData.depthAll, PyData.depth, depth_strs]
    omega
theorem shaped_dSS {l : List (List Str)} (h : ∀ x ∈ l, ∀ u ∈ x, PyData.strOk u = true) : SeqAt.shaped (dSS l) = true := by
  have := depth_dSS l
  simp only [SeqAt.shaped, PyData.canLay0, PyData.depth, canLay_dSS h, Bool.true_and]
  exact decide_eq_true (by omega)
theorem eqv_strs : ∀ l : List Str, PyData.eqvAll (l.map PyData.str) (l.map PyData.str) = true
  | [] => rfl
  | _ :: r => by simp [PyData.eqvAll, PyData.eqv, eqv_strs r]
theorem eqv_dSS : ∀ l : List (List Str), PyData.eqvAll (l.map dS) (l.map dS) = true
  | [] => rfl
  | a :: r => by simp [PyData.eqvAll, PyData.eqv, eqv_strs a, eqv_dSS r]
theorem eqv_nil : ∀ l : List Str, PyData.eqv (dS l) (dS []) = decide (l = [])
  | [] => rfl
  | _ :: _ => rfl
theorem reads_strs {h : Heap} {l : Addr} {vs : List Value} {n : Nat} {xs : List Str} (e : h.get? l = some (W.listOf (List.toArray vs) n)) (hS : StrsAre vs xs) : Reads h (.ref l) (dS xs) [l] :=
  reads_list_at e rfl rfl (strs_readAll h hS)
end Mine

/- part Pm -/
namespace Mine

/-- the pairs of a dict of texts tell the function f -/
def PmFun (kvs : List (Str × Value)) (f : Str → Option Str) : Prop :=
  ∀ c, (f c = none → valueAt kvs c = none) ∧ ∀ u, f c = some u → ∃ t, valueAt kvs c = some (.str u t)
def updF (f : Str → Option Str) (c u : Str) : Str → Option Str := fun z => if z = c then some u else f z
def pmWord (f : Str → Option Str) (u : Str) : Str → Option Str := (signsOf u).foldl (fun f c => updF f c u) f
def pmOf (ws : List Str) : Str → Option Str := ws.foldl pmWord fun _ => none

theorem find_stored (kvs : List (Str × Value)) (k z : Str) (v : Value) : valueAt (stored kvs k v) z = if z = k then some v else valueAt kvs z := by
  induction kvs with
  | nil =>
    by_cases h : z = k
    · subst h; simp [stored, valueAt]
    · simp [stored, valueAt, h, Ne.symm h]
  | cons p r ih =>
    obtain ⟨a, b⟩ := p
    unfold stored valueAt at *
    by_cases ha : a = k
    · subst ha
      by_cases hz : z = a
      · subst hz; simp
      · have hz' : ¬ a = z := fun e => hz e.symm
        simp only [List.any_cons, decide_true, Bool.true_or, if_true, List.map_cons, List.find?_cons, hz, hz', decide_false, if_false]
        clear ih
        congr 1
        induction r with
        | nil => rfl
        | cons q r ih =>
          by_cases hq : q.1 = a
          · simp only [List.map_cons, hq, if_true, List.find?_cons, hz', decide_false]; exact ih
          · by_cases hq2 : q.1 = z
            · rw [List.map_cons, if_neg hq, List.find?_cons, List.find?_cons, decide_eq_true hq2]
            · simp only [List.map_cons, hq, if_false, List.find?_cons, hq2, decide_false]; exact ih
    · by_cases h2 : (r.any fun kv => decide (kv.1 = k)) = true
      · simp only [List.any_cons, ha, decide_false, Bool.false_or, h2, if_true, List.map_cons, if_false, List.find?_cons] at ih ⊢
        by_cases haz : a = z
        · subst haz; simp [ha]
        · simp only [haz, decide_false]; exact ih
      · simp only [List.any_cons, ha, decide_false, Bool.false_or, h2, Bool.false_eq_true, if_false, List.cons_append, List.find?_cons] at ih ⊢
        by_cases haz : a = z
        · subst haz; simp [ha]
        · simp only [haz, decide_false]; exact ih

theorem PmFun.nil : PmFun [] fun _ => none := fun _ => ⟨fun _ => rfl, fun _ h => by cases h⟩
theorem PmFun.put {kvs : List (Str × Value)} {f : Str → Option Str} (h : PmFun kvs f) (c u : Str) (t : Tok) : PmFun (stored kvs c (.str u t)) (updF f c u) := fun z => by
  rw [find_stored]
  unfold updF
  by_cases hz : z = c
  · simp only [hz, if_true]
    exact ⟨fun e => (by cases e), fun u' e => by cases e; exact ⟨t, rfl⟩⟩
  · simp only [hz, if_false]
    exact h z
def pmTo (f : Str → Option Str) (u : Str) (j : Nat) : Str → Option Str := ((signsOf u).take j).foldl (fun f c => updF f c u) f
theorem pmTo_zero (f : Str → Option Str) (u : Str) : pmTo f u 0 = f := rfl
theorem pmTo_succ {f : Str → Option Str} {u c : Str} {j : Nat} (h : (signsOf u)[j]? = some c) : pmTo f u (j + 1) = updF (pmTo f u j) c u := by
  unfold pmTo
  rw [List.take_add_one, h]
  simp
theorem pmTo_all (f : Str → Option Str) (u : Str) : pmTo f u (signsOf u).length = pmWord f u := by unfold pmTo pmWord; rw [List.take_length]
theorem pmOf_succ {ws : List Str} {u : Str} {i : Nat} (h : ws[i]? = some u) : pmOf (ws.take (i + 1)) = pmWord (pmOf (ws.take i)) u := by
  unfold pmOf
  rw [List.take_add_one, h]
  simp
end Mine

/- part G0 -/
namespace Mine
local macro_rules | `(tactic| walk_at "Mstep") => `(tactic| (first | (k_unfold; (try dsimp only)) | walk1 | (dsimp only; walk1)))

abbrev gEnv (L : Addr) : Env := envOf (Str.ofString "get_parent_map") gScope L 21 (.ref 20)
abbrev gMap (d : Addr) (u : Str) (tu : Tok) (mm : Str → Option Value) : Str → Option Value := fun z => if z = Str.ofString "p" then some (.str u tu) else if z = Str.ofString "parent_map" then some (.ref d) else mm z

/-- ONE word: for e in p: parent_map[e] = p -/
theorem pm_inner {w : World} {A : Around} {R : Result → Shared → Prop} {E : Value → Shared → Prop} {s : Shared} {h₀ : Heap} {L d : Addr} {u : Str} {tu : Tok} {mm : Str → Option Value} {o : Obj} {rest : List (Addr × Obj)} {kvs : List (Str × Value)} {f : Str → Option Str} {px : Pos}
    (X : (hd.heap_39 w.params).In h₀)
    (hh : A.handled = none) (F : Fr h₀ L s.heap (gMap d u tu mm)) (N : News h₀ L s.heap ((d, o) :: rest)) (hr : ∀ p ∈ rest, p.1 ≠ d)
    (hD : o.IsDictOf (strKind Challenge.rw_nb0383_01.row.prog w) kvs) (hf : PmFun kvs f) (hk : kvs.length ≤ 1000) (hu : (signsOf u).length ≤ 3)
    (done : ∀ o' kvs' (v : Str → Option Value) h' tk', o'.IsDictOf (strKind Challenge.rw_nb0383_01.row.prog w) kvs' → PmFun kvs' (pmWord f u) → kvs'.length ≤ kvs.length + 3 → Fr h₀ L h' (fun z => if z = Str.ofString "e" then v z else gMap d u tu mm z) → News h₀ L h' ((d, o') :: rest) → R (.ok .next) { s with heap := h', toks := tk' }) :
    wpAny (model Challenge.rw_nb0383_01.row.prog w) A (pyIter (.str u tu)) (fun it s₂ => codeAny (model Challenge.rw_nb0383_01.row.prog w) A (.forLoop (.Name (Str.ofString "e") px) it gBody2 [] (gEnv L)) R s₂) E s := by
  refine forG_str (env := gEnv L) (h₀ := h₀) (fun j m nx gn => gn = s.gens ∧ ∃ o kvs', nx = (d, o) :: rest ∧ o.IsDictOf (strKind Challenge.rw_nb0383_01.row.prog w) kvs' ∧ PmFun kvs' (pmTo f u j) ∧ kvs'.length ≤ kvs.length + j ∧ ∀ z, z ≠ Str.ofString "e" → m z = gMap d u tu mm z)
    hh rfl rfl F N ⟨rfl, o, kvs, rfl, hD, hf, Nat.le_refl _, fun _ _ => rfl⟩ ?_ ?_
  · rintro j y t m₁ nx h tk gn I io hy hnI ⟨rfl, o₁, kvs₁, rfl, hD₁, hf₁, hl₁, hm₁⟩ F₁ N₁
    rw [map_none hm₁] at F₁
    have hj : j < (signsOf u).length := by
      rcases Nat.lt_or_ge j (signsOf u).length with h | h
      · exact h
      · rw [List.getElem?_eq_none h] at hy; cases hy
    revert X
    k_fill
    intro X
    repeat ((fail_if_success (with_reducible show wpAny _ _ (setItem _ _ _) _ _ _)); walk_at "Mstep")
    dsimp only
    refine kda_set (knd := strKind _ _) F₁ N₁ (UpdF.tail (Ne.symm (hnI _ (.head _))) (UpdF.head hr)) hD₁ (strKind_is _ _ _ _) (by rw [sizeLine_eq]; omega) ?_
    intro h₂ o₂ F₂ N₂ hD₂
    walk_at "Mstep"
    refine wpAny_execs_nil ?_
    refine ⟨rfl, h₂, _, _, _, _, rfl, F₂, N₂, ?_, rfl, o₂, _, rfl, hD₂, ?_, ?_, ?_⟩
    · intro p hp
      rcases List.mem_cons.mp hp with rfl | hp
      · exact hnI (d, o₁) (.head _)
      · exact hnI _ (.tail _ hp)
    · rw [pmTo_succ hy]
      exact hf₁.put y u tu
    · have := stored_length_le kvs₁ y (.str u tu)
      omega
    · intro z hz
      simp only [if_neg hz]
  · rintro m₁ nx h tk gn ⟨rfl, o₁, kvs₁, rfl, hD₁, hf₁, hl₁, hm₁⟩ F₁ N₁
    rw [pmTo_all] at hf₁
    refine done o₁ kvs₁ m₁ h tk hD₁ hf₁ (by omega) ?_ N₁
    rw [done_none hm₁]
    exact F₁

/-- ALL the words: for p in words: for e in p: parent_map[e] = p -/
theorem pm_outer {w : World} {A : Around} {R : Result → Shared → Prop} {E : Value → Shared → Prop} {s : Shared} {h₀ : Heap} {L d lw : Addr} {m₀ : Str → Option Value} {o : Obj} {rest : List (Addr × Obj)} {vs : List Value} {nn : Nat} {ws : List Str} {px : Pos}
    (X : (hd.heap_39 w.params).In h₀)
    (hh : A.handled = none) (F : Fr h₀ L s.heap m₀) (hm : m₀ (Str.ofString "parent_map") = some (.ref d)) (N : News h₀ L s.heap ((d, o) :: rest)) (hr : ∀ p ∈ rest, p.1 ≠ d)
    (hl : (lw, W.listOf (List.toArray vs) nn) ∈ rest) (hS : StrsAre vs ws) (hlen : ws.length ≤ 100) (hw3 : ∀ u ∈ ws, (signsOf u).length ≤ 3)
    (hD : o.IsDictOf (strKind Challenge.rw_nb0383_01.row.prog w) [])
    (done : ∀ o' kvs' (v : Str → Option Value) h' tk', o'.IsDictOf (strKind Challenge.rw_nb0383_01.row.prog w) kvs' → PmFun kvs' (pmOf ws) → Fr h₀ L h' (forget [Str.ofString "p", Str.ofString "e"] v m₀) → News h₀ L h' ((d, o') :: rest) → R (.ok .next) { s with heap := h', toks := tk' }) :
    wpAny (model Challenge.rw_nb0383_01.row.prog w) A (pyIter (.ref lw)) (fun it s₂ => codeAny (model Challenge.rw_nb0383_01.row.prog w) A (.forLoop (.Name (Str.ofString "p") px) it gBody1 [] (gEnv L)) R s₂) E s := by
  refine forG_strs (env := gEnv L) (h₀ := h₀) (nn := nn) (fun i m nx gn => gn = s.gens ∧ ∃ o kvs', nx = (d, o) :: rest ∧ o.IsDictOf (strKind Challenge.rw_nb0383_01.row.prog w) kvs' ∧ PmFun kvs' (pmOf (ws.take i)) ∧ kvs'.length ≤ 3 * i ∧ ∀ z, [Str.ofString "p", Str.ofString "e"].contains z = false → m z = m₀ z)
    hh (.tail _ hl) hS rfl rfl F N ?_ ⟨rfl, o, [], rfl, hD, PmFun.nil, Nat.le_refl _, fun _ _ => rfl⟩ ?_ ?_
  · rintro i m nx gn ⟨_, o₁, _, rfl, _⟩
    exact .tail _ hl
  · rintro i y t m₁ nx h tk gn I io hy hnI ⟨rfl, o₁, kvs₁, rfl, hD₁, hf₁, hl₁, hm₁⟩ F₁ N₁
    have hi : i < ws.length := by
      rcases Nat.lt_or_ge i ws.length with h | h
      · exact h
      · rw [List.getElem?_eq_none h] at hy; cases hy
    have hmem : y ∈ ws := List.mem_of_getElem? hy
    have e : (fun z => if z = Str.ofString "p" then some (Value.str y t) else m₁ z) = gMap d y t m₁ := by
      funext z
      by_cases h1 : z = Str.ofString "p"
      · simp [h1]
      · simp only [if_neg h1]
        by_cases h2 : z = Str.ofString "parent_map"
        · subst h2
          rw [if_pos rfl, hm₁ _ (by decide), hm]
        · rw [if_neg h2]
    rw [e] at F₁
    revert X
    k_fill
    intro X
    repeat ((fail_if_success (with_reducible show wpAny _ _ (exec (Stmt.For _ _ _ _ _) _) _ _ _)); walk_at "Mstep")
    refine wpAny_For ?_
    repeat ((fail_if_success (with_reducible show wpAny _ _ (pyIter _) _ _ _)); walk_at "Mstep")
    have N₂ : News h₀ L h ((d, o₁) :: (I, io) :: rest) := fun p hp => N₁ p (by
      rcases List.mem_cons.mp hp with rfl | hp
      · exact .tail _ (.head _)
      · rcases List.mem_cons.mp hp with rfl | hp
        · exact .head _
        · exact .tail _ (.tail _ hp))
    refine pm_inner X hh F₁ N₂ ?_ hD₁ hf₁ (by omega) (hw3 y hmem) ?_
    · intro p hp
      rcases List.mem_cons.mp hp with rfl | hp
      · exact Ne.symm (hnI (d, o₁) (.head _))
      · exact hr p hp
    intro o₂ kvs₂ v h₂ tk₂ hD₂ hf₂ hl₂ F₂ N₃
    walk_at "Mstep"
    refine ⟨rfl, h₂, _, _, _, (d, o₂) :: rest, rfl, F₂, ?_, ?_, rfl, o₂, kvs₂, rfl, hD₂, ?_, by omega, ?_⟩
    · intro p hp
      refine N₃ p ?_
      rcases List.mem_cons.mp hp with rfl | hp
      · exact .tail _ (.head _)
      · rcases List.mem_cons.mp hp with rfl | hp
        · exact .head _
        · exact .tail _ (.tail _ hp)
    · intro p hp
      rcases List.mem_cons.mp hp with rfl | hp
      · exact hnI (d, o₁) (.head _)
      · exact hnI _ (.tail _ hp)
    · rw [pmOf_succ hy]
      exact hf₂
    · intro z hz
      have h3 := hz
      simp only [List.contains_cons, List.contains_nil, Bool.or_false, Bool.or_eq_false_iff, beq_eq_false_iff_ne] at h3
      obtain ⟨h3, h4⟩ := h3
      simp only [if_neg h4, gMap, if_neg h3]
      by_cases h2 : z = Str.ofString "parent_map"
      · rw [if_pos h2, h2, hm]
      · rw [if_neg h2]
        exact hm₁ z hz
  · rintro m₁ nx h tk gn ⟨rfl, o₁, kvs₁, rfl, hD₁, hf₁, hl₁, hm₁⟩ F₁ N₁
    rw [List.take_length] at hf₁
    refine done o₁ kvs₁ m₁ h tk hD₁ hf₁ ?_ N₁
    rw [← forget_eq hm₁]
    exact F₁
end Mine

/- part G1 -/
namespace Mine
local macro_rules | `(tactic| walk_at "Mstep") => `(tactic| (first | (k_unfold; (try dsimp only)) | walk1 | (dsimp only; walk1)))
local macro_rules | `(tactic| walk_at "MtoFor") => `(tactic| repeat ((fail_if_success (with_reducible show wpAny _ _ (exec (Stmt.For _ _ _ _ _) _) _ _ _)); walk_at "Mstep"))
local macro_rules | `(tactic| walk_at "MtoIter") => `(tactic| repeat ((fail_if_success (with_reducible show wpAny _ _ (pyIter _) _ _ _)); walk_at "Mstep"))

abbrev lamO (lq : Str) (cel c' : Addr) (pm ct : Value) : Obj := kla_obj (Str.ofString "<lambda>") lq lamA.1 lamB.1 lamS.1 [(Str.ofString "words", cel)] pm c' ct

abbrev dRoot (w : World) (t1 : Tok) (rt : Addr) : DictEntry := { hash := PyData.keyHash w.params (Str.ofString "root"), key := Value.str (Str.ofString "root") t1, val := Value.ref rt }
abbrev dPm (w : World) (t1 : Tok) (d : Addr) : DictEntry := { hash := PyData.keyHash w.params (Str.ofString "parent_map"), key := Value.str (Str.ofString "parent_map") t1, val := Value.ref d }
/-- what the first call reads: the context, the root, its lambda, the words -/
abbrev ctxNews (w : World) (ctx dctx rt drt lam cel clam lw : Addr) (t2 t3 : Tok) (lq : Str) (pmod ctl : Value) (oclam ocel : Obj) (vsW : List Value) (nW : Nat) : List (Addr × Obj) :=
  [(ctx, instObj 45 dctx), (rt, instObj 45 drt),
      (drt, dictOf [{ hash := PyData.keyHash w.params (Str.ofString "root"), key := Value.str (Str.ofString "root") t2, val := Value.none }, { hash := PyData.keyHash w.params (Str.ofString "iter"), key := Value.str (Str.ofString "iter") t3, val := Value.ref lam }] 2),
      (lam, lamO lq cel clam pmod ctl), (clam, oclam), (cel, ocel), (lw, W.listOf (List.toArray vsW) nW)]

theorem gpm_new {w : World} {p : Program} {loose : List Str} {mean : ExcName → Option Value} {mg mb : Str → Option Value}
    {dp un : Nat} {gd : Option (List Code)} {cn : Str} {cs : Scope} {a : Addr} {ccd : Value} {cl : List (Str × Addr)} {outer : List Env} {A₀ : Around} {base h₀ : Heap} {L : Addr} {m : Str → Option Value} {s : Shared} {Q E : Value → Shared → Prop}
    {ctx dctx rt drt lam cel clam lw : Addr} {t1 t2 t3 tl : Tok} {lq : Str} {pmod ctl : Value} {oclam ocel : Obj} {vsl : Array Value} {vsW : List Value} {nW : Nat} {ws : List Str} {news : List (Addr × Obj)}
    (B : Below A₀ base outer h₀) (F : Fr h₀ L s.heap m) (X : (hd.heap_39 w.params).In h₀) (T : Top p loose mean mg mb h₀) (hk : cs.kind = .function)
    (N : News h₀ L s.heap ((dctx, dictOf [dRoot w t1 rt] 1) :: (ctxNews w ctx dctx rt drt lam cel clam lw t2 t3 lq pmod ctl oclam ocel vsW nW ++ news)))
    (hcl1 : oclam.data = Data.fields vsl) (hcl2 : vsl[1]? = some (Value.str lq tl)) (hcel : ocel.data = Data.cell (some (.ref lw)))
    (hS : StrsAre vsW ws) (hlen : ws.length ≤ 100) (hw3 : ∀ u ∈ ws, (signsOf u).length ≤ 3)
    (hne : @Ne Nat ctx dctx ∧ @Ne Nat rt dctx ∧ @Ne Nat drt dctx ∧ @Ne Nat lam dctx ∧ @Ne Nat clam dctx ∧ @Ne Nat cel dctx ∧ @Ne Nat lw dctx) (ho : OwnOff news [dctx])
    (hC : CodeHd h₀ 55 51) (hdp : dp + 2 < recursionLimit) (hun : un + 16 < cLine)
    (hret : ∀ d o kvs t h' tk', Fr h₀ L h' m → News h₀ L h' ((d, o) :: (dctx, dictOf [dRoot w t1 rt, dPm w t d] 2) :: (ctxNews w ctx dctx rt drt lam cel clam lw t2 t3 lq pmod ctl oclam ocel vsW nW ++ news)) →
      o.IsDictOf (strKind Challenge.rw_nb0383_01.row.prog w) kvs → PmFun kvs (pmOf ws) → (d == sysModules) = false →
      (∀ p ∈ (dctx, dictOf [dRoot w t1 rt, dPm w t d] 2) :: (ctxNews w ctx dctx rt drt lam cel clam lw t2 t3 lq pmod ctl oclam ocel vsW nW ++ news), p.1 < d) → Q (.ref d) { s with heap := h', toks := tk' }) :
    wpAny (model Challenge.rw_nb0383_01.row.prog w) (ktrTop dp un gd cn cs L a ccd cl outer) (call (.ref 21) [.ref ctx]) Q E s := by
  revert X
  k_fill
  intro X
  simp only [ctxNews, List.cons_append, List.nil_append] at N hret
  refine wpAny_call ?_
  k_dflt cell_enter
  walk_at "MtoFor"
  refine wpAny_For ?_
  repeat ((fail_if_success (with_reducible show wpAny _ _ (call (Value.ref _) _) _ _ _)); walk_at "Mstep")
  refine wpAny_call ?_
  k_dflt (refine' kla_code ?k1 ?k2 ?k3 ?k4 ?k5 ?kA ?kF ?kK ?k6 ?k7 ?k8 ?k9 ?kB ?_ ?c2 ?c3 ?c4 ?c5; (case kA => exact rfl); (case kF => exact rfl); (case kK => exact rfl); (case k1 => k_asm); (case k2 => k_asm); (case k3 => k_asm); (case k4 => k_asm); (case k5 => k_asm); (case k6 => k_mem); (case k7 => exact codeRec_news (by k_asm) (by k_mem) hcl1 hcl2); (case k8 => ktr_room); (case k9 => exact rfl); (case c5 => decide); (case kB => exact locs rfl); (case c2 => exact rfl); (case c3 => exact rfl); (case c4 => exact rfl); k_whole; intro g' L' h' FG' F' N' B' X' T')
  dsimp only
  k_fold
  walk_at "MtoIter"
  rename Fr _ _ _ _ => F1
  rename News _ _ _ _ => N1
  rename Obj.IsDictOf (strKind _ _) _ _ => hD
  rename (_ == sysModules) = false => hlo
  rename (@LT.lt Nat _ dctx _) ∧ _ => hLt
  refine pm_outer (by assumption) rfl F1 rfl N1 ?_ (by k_mem) hS hlen hw3 hD ?_
  · intro q hq
    simp only [List.mem_cons] at hq
    obtain ⟨l1, l2, l3, l4, l5, l6, l7, l8, l9⟩ := hLt
    rcases hq with rfl | rfl | rfl | rfl | rfl | rfl | rfl | rfl | hq
    · exact Nat.ne_of_lt l1
    · exact Nat.ne_of_lt l2
    · exact Nat.ne_of_lt l3
    · exact Nat.ne_of_lt l4
    · exact Nat.ne_of_lt l5
    · exact Nat.ne_of_lt l6
    · exact Nat.ne_of_lt l7
    · exact Nat.ne_of_lt l8
    · exact Nat.ne_of_lt (allLt_mem l9 q hq)
  intro o' kvs' v h2 tk2 hD' hf' F2 N2
  clear F1 N1
  walk_at "Mstep"
  walk_at "Mstep"
  walk_at "Mstep"
  walk_at "Mstep"
  dsimp only
  k_unfold
  dsimp only
  walk1
  rename Fr _ _ _ _ => F3
  rename News _ _ _ _ => N3
  refine hret _ o' kvs' _ _ _ F3 N3 hD' hf' hlo ?_
  intro q hq
  simp only [List.mem_cons] at hq
  obtain ⟨l1, l2, l3, l4, l5, l6, l7, l8, l9⟩ := hLt
  rcases hq with rfl | rfl | rfl | rfl | rfl | rfl | rfl | rfl | hq
  · exact l1
  · exact l2
  · exact l3
  · exact l4
  · exact l5
  · exact l6
  · exact l7
  · exact l8
  · exact allLt_mem l9 q hq
end Mine

/- part G2 -/
namespace Mine
local macro_rules | `(tactic| walk_at "Mstep") => `(tactic| (first | (k_unfold; (try dsimp only)) | walk1 | (dsimp only; walk1)))
theorem gpm_old {w : World} {p : Program} {loose : List Str} {mean : ExcName → Option Value} {mg mb : Str → Option Value}
    {dp un : Nat} {gd : Option (List Code)} {cn : Str} {cs : Scope} {a : Addr} {ccd : Value} {cl : List (Str × Addr)} {outer : List Env} {A₀ : Around} {base h₀ : Heap} {L : Addr} {m : Str → Option Value} {s : Shared} {Q E : Value → Shared → Prop}
    {ctx dctx rt d : Addr} {t1 t2 : Tok} {news : List (Addr × Obj)}
    (B : Below A₀ base outer h₀) (F : Fr h₀ L s.heap m) (X : (hd.heap_39 w.params).In h₀) (T : Top p loose mean mg mb h₀) (hk : cs.kind = .function)
    (N : News h₀ L s.heap ((dctx, dictOf [dRoot w t1 rt, dPm w t2 d] 2) :: (ctx, instObj 45 dctx) :: news))
    (hdp : dp + 2 < recursionLimit)
    (hret : ∀ h' tk', Fr h₀ L h' m → News h₀ L h' ((dctx, dictOf [dRoot w t1 rt, dPm w t2 d] 2) :: (ctx, instObj 45 dctx) :: news) → Q (.ref d) { s with heap := h', toks := tk' }) :
    wpAny (model Challenge.rw_nb0383_01.row.prog w) (ktrTop dp un gd cn cs L a ccd cl outer) (call (.ref 21) [.ref ctx]) Q E s := by
  revert X
  k_fill
  intro X
  refine wpAny_call ?_
  k_dflt cell_enter
  repeat ((fail_if_success (with_reducible show Q _ _)); walk_at "Mstep")
  rename Fr _ _ _ _ => F3
  rename News _ _ _ _ => N3
  exact hret _ _ F3 N3
end Mine

/- part SegR -/
namespace Mine
open Sem (wp)

section
variable {M : Model} {A : Around} {R : GenEnd} {Y : Protocol} {n : Nat} {s₀ : Shared} {c : Code} {fs : List Frame} {s : Shared} {env : Env}
  {K : Flow → Sem Fin} {H : Value → Sem Fin} {gd : Bool → Bool} {lv : List Value → List Value}

theorem seg_If {test : Expr} {body orelse : List Stmt} {pos : Pos}
    (h : wpAny M (A.over c fs) (isTrue test env (eval test env)) (fun b s' => if b = true then Seg M A R Y n s₀ c ((execs body env).wrap K H gd lv) fs s' else Seg M A R Y n s₀ c ((execs orelse env).wrap K H gd lv) fs s')
      (fun x s' => Seg M A R Y n s₀ c (H x) fs s') s) :
    Seg M A R Y n s₀ c ((exec (.If test body orelse pos) env).wrap K H gd lv) fs s := by
  rw [exec_If]
  refine seg_bind_wrap (wpAny_standAt ?_)
  refine seg_bind_wrap (wpAny_mono h (fun b s' hb => ?_) fun _ _ x => x)
  cases b with
  | true => rw [if_pos rfl] at hb; exact hb
  | false => rw [if_neg Bool.false_ne_true] at hb; exact hb

/-- what stands behind a loop's own activation -/
def behindFor (env : Env) (K : Flow → Sem Fin) (H : Value → Sem Fin) (gd : Bool → Bool) (lv : List Value → List Value) : Result → Sem Fin :=
  fun r => ((match r with | .ok f => (.pure f : Sem Flow) | .error e => .raise e).onRaise fun (x : Value) => do
        if (← field x 1) == Value.none then unsupported "frame.own-activation:exception-without-traceback"
        setFlight x env.frame).wrap K H gd lv

theorem seg_For {target iter : Expr} {body orelse : List Stmt} {pos : Pos}
    (h : wpAny M (A.over c fs) (eval iter env) (fun x s₁ => wpAny M (A.over c fs) (pyIter x) (fun it s₂ =>
        ∀ p, Seg M A R Y n s₀ (.forLoop target it body orelse env) (M.den (.forLoop target it body orelse env)) (.ret (behindFor env K H gd lv) none (gd false) (lv []) c p [] :: fs) s₂)
        (fun x s' => Seg M A R Y n s₀ c (H x) fs s') s₁) (fun x s' => Seg M A R Y n s₀ c (H x) fs s') s)
    (hs : ∀ x, foldedSetIterable iter env x = pure x := by intro _; rfl) :
    Seg M A R Y n s₀ c ((exec (.For target iter body orelse pos) env).wrap K H gd lv) fs s := by
  rw [exec_For]
  refine seg_bind_wrap (wpAny_standAt ?_)
  refine seg_bind_wrap (wpAny_mono h (fun x s₁ h₁ => ?_) fun _ _ e => e)
  refine seg_bind_wrap (wpAny_of_eq (hs x) ?_)
  refine seg_bind_wrap (wpAny_standAt ?_)
  refine seg_bind_wrap (wpAny_holding (wpAny_mono h₁ (fun it s₂ h₂ => ?_) fun _ _ e => e))
  exact seg_call h₂
end

section
variable {prog : Program} {w : World} {A : Around} {R : GenEnd} {Y : Protocol} {n : Nat} {s₀ : Shared} {fs : List Frame} {s : Shared} {env : Env}

abbrev forH (env : Env) (e : Value) : Sem Fin := (do noteFrame e env; theTreesLotGoes e : Sem Unit).wrap (fun _ => .raise e) .raise id id
abbrev forK (c : Code) : Flow → Sem Fin := fun f => match f with
  | .next | .cont => .pure (.again c)
  | .brk => .pure (.done .next)
  | .ret v => .pure (.done (.ret v))

theorem seg_forLoop {target : Expr} {it : Value} {body orelse : List Stmt}
    (h : wpAny (model prog w) (A.over (.forLoop target it body orelse env) fs) (pyNext it) (fun r s₁ => match r with
        | none => Seg (model prog w) A R Y n s₀ (.forLoop target it body orelse env) (.pure (.again (.block orelse env))) fs s₁
        | some v => wpAny (model prog w) (A.over (.forLoop target it body orelse env) fs) (letOwnedTupleGo target it v) (fun _ s₂ =>
            wpAny (model prog w) (A.over (.forLoop target it body orelse env) fs) (assign target env v) (fun _ s₃ =>
              Seg (model prog w) A R Y n s₀ (.forLoop target it body orelse env) ((execs body env).wrap (forK (.forLoop target it body orelse env)) (forH env) id id) fs s₃)
              (fun x s' => Seg (model prog w) A R Y n s₀ (.forLoop target it body orelse env) (forH env x) fs s') s₂)
            (fun x s' => Seg (model prog w) A R Y n s₀ (.forLoop target it body orelse env) (forH env x) fs s') s₁)
      (fun x s' => Seg (model prog w) A R Y n s₀ (.forLoop target it body orelse env) (forH env x) fs s') s) :
    Seg (model prog w) A R Y n s₀ (.forLoop target it body orelse env) ((model prog w).den (.forLoop target it body orelse env)) fs s := by
  show Seg _ A R Y n s₀ _ ((forTurn target it body orelse env).onRaise (fun x => do noteFrame x env; theTreesLotGoes x)) fs s
  have eH : (fun e => ((do noteFrame e env; theTreesLotGoes e : Sem Unit).bind fun _ => (.raise e : Sem Fin))) = forH env := by
    funext e
    rw [Sem.bind_eq_wrap]
  unfold forTurn
  rw [Sem.onRaise_eq_wrap, eH]
  refine seg_bind_wrap (wpAny_standAt ?_)
  refine seg_bind_wrap (wpAny_onRaise (wpAny_mono h (fun r s₁ h₁ => ?_) fun _ _ h' => wpAny_standAt h'))
  cases r with
  | none => exact h₁
  | some v =>
    refine seg_bind_wrap (wpAny_mono h₁ (fun _ s₂ h₂ => ?_) fun _ _ e => e)
    refine seg_bind_wrap (wpAny_mono h₂ (fun _ s₃ h₃ => ?_) fun _ _ e => e)
    rw [Sem.bind_eq_wrap', Sem.wrap_wrap]
    have e := Sem.wrap_congr (execs body env) (K := fun a => Sem.wrap (Sem.pure : Fin → Sem Fin) (forH env) id id (match a with
          | .next => again (.forLoop target it body orelse env) | .cont => again (.forLoop target it body orelse env) | .brk => pure (.done .next) | .ret v => pure (.done (.ret v))))
        (K' := forK (.forLoop target it body orelse env)) (H := fun e => Sem.wrap (Sem.pure : Fin → Sem Fin) (forH env) id id (Sem.raise e)) (H' := forH env) id id (fun f => by cases f <;> rfl) (fun e => rfl)
    rw [← e] at h₃
    exact h₃
end
end Mine

/- part Sel1 -/
namespace Mine

abbrev PG : Program := Challenge.rw_nb0383_01.row.prog

abbrev selEnv (sq : Str) (Lg sel : Addr) (cd : Value) : Env := envX sq selScope Lg sel cd []
abbrev selLoop (sq : Str) (Lg sel : Addr) (cd : Value) (It : Addr) : Code := .forLoop sTarget (.ref It) sFBody [] (selEnv sq Lg sel cd)

/-- what the loop in select has in hand -/
structure GI (w : World) (h : Heap) (Lg It pm rm ls : Addr) (opm : Obj) (i : Nat) (rkvs : List (Str × Value)) : Prop where
  ns : ∃ m, h.Ns Lg m ∧ m (Str.ofString "parent_map") = some (.ref pm) ∧ m (Str.ofString "result_map") = some (.ref rm)
  pmO : h.get? pm = some opm
  rmO : h.DictOf (strKind PG w) rm rkvs
  it : h.IsListIter It ls i
def ListAt (h : Heap) (ls : Addr) (zs : List Str) : Prop := ∃ vs, h.IsList ls (List.toArray vs) ∧ StrsAre vs zs
/-- the state moves, and only Lg, It, rm are written -/
def Step3 (Lg It rm : Addr) (s s' : Shared) : Prop := ∃ h' tk, s' = { s with heap := h', toks := tk } ∧ ∀ b o, b ≠ Lg → b ≠ It → b ≠ rm → s.heap.get? b = some o → h'.get? b = some o
structure Apart (Lg It pm rm ls : Addr) : Prop where
  h1 : Lg ≠ It
  h2 : Lg ≠ pm
  h3 : Lg ≠ rm
  h4 : Lg ≠ ls
  h5 : It ≠ pm
  h6 : It ≠ rm
  h7 : It ≠ ls
  h8 : pm ≠ rm
  h9 : rm ≠ ls
  lo1 : (pm == sysModules) = false
  lo2 : (rm == sysModules) = false

section
variable {w : World} {A : Around} {R : GenEnd} {Y : Protocol} {n : Nat} {s₀ : Shared} {fs : List Frame} {s : Shared} {sq : Str} {Lg sel : Addr} {cd : Value} {It pm rm ls : Addr} {opm : Obj} {kvs rkvs : List (Str × Value)} {f : Str → Option Str} {i : Nat} {zs : List Str} {x : Str}

theorem frE {h : Heap} {m : Str → Option Value} (hn : h.Ns Lg m) : Fr {} Lg h m := ⟨hn, (fun b o e => nomatch e), Nat.zero_le _⟩

/-- ONE sign is taken -/
theorem seg_turn (ap : Apart Lg It pm rm ls) (hD : opm.IsDictOf (strKind PG w) kvs) (hf : PmFun kvs f) (g : GI w s.heap Lg It pm rm ls opm i rkvs) (hL : ListAt s.heap ls zs) (hx : zs[i]? = some x) (hr : rkvs.length ≤ 1000)
    (hsp : splitAtGen fs = none) (hgd : fs.any Frame.guarded = false)
    (skip : (f x = none ∨ ∃ p, f x = some p ∧ (valueAt rkvs p).isSome = true) → ∀ s', GI w s'.heap Lg It pm rm ls opm (i + 1) rkvs → ListAt s'.heap ls zs → Step3 Lg It rm s s' →
      Seg (model PG w) A R Y n s₀ (selLoop sq Lg sel cd It) ((model PG w).den (selLoop sq Lg sel cd It)) fs s')
    (yld : ∀ p, f x = some p → (valueAt rkvs p).isSome = false → ∃ n', n = n' + 1 ∧ ∀ s' t, GI w s'.heap Lg It pm rm ls opm (i + 1) (stored rkvs p .none) → ListAt s'.heap ls zs → Step3 Lg It rm s s' →
      ∀ kap : Resume → Shared → Prop, (∀ s'', Seg (model PG w) A R Y n' s'' (selLoop sq Lg sel cd It) ((model PG w).den (selLoop sq Lg sel cd It)) fs s'' → kap (.send .none) s'') → Y n' s₀ (.str p t) s' kap) :
    Seg (model PG w) A R Y n s₀ (selLoop sq Lg sel cd It) ((model PG w).den (selLoop sq Lg sel cd It)) fs s := by
  obtain ⟨⟨m, hn, hm1, hm2⟩, hpm, hrm, hit⟩ := g
  obtain ⟨vs, hl, hS⟩ := hL
  obtain ⟨t, hv⟩ := hS.get i x hx
  refine seg_forLoop ?_
  refine wpAny_pyNext_list_item hit hl (x := .str x t) (by simpa using hv) fun h₁ hit₁ hs₁ => ?_
  refine wpAny_of_eq (rfl : letOwnedTupleGo sTarget (.ref It) (.str x t) = pure ()) ?_
  have hn₁ : h₁.Ns Lg m := hn.at' fun o e => hs₁.extBut _ o ap.h1 e
  refine wpAny_assign_Name (wpAny_storeName_local rfl hn₁ (fun h₂ hn₂ hs₂ => ?_) rfl)
  have k12 : ∀ b o, b ≠ Lg → b ≠ It → s.heap.get? b = some o → h₂.get? b = some o := fun b o e1 e2 e => hs₂.extBut b o e1 (hs₁.extBut b o e2 e)
  have hpm₂ : h₂.get? pm = some opm := k12 _ _ (Ne.symm ap.h2) (Ne.symm ap.h5) hpm
  have hrm₂ : h₂.DictOf (strKind PG w) rm rkvs := by
    obtain ⟨o, ho, hd⟩ := Heap.dictOf_iff.mp hrm
    exact Heap.dictOf_iff.mpr ⟨o, k12 _ _ (Ne.symm ap.h3) (Ne.symm ap.h6) ho, hd⟩
  have hit₂ : h₂.IsListIter It ls (i + 1) := hit₁.at fun o e => hs₂.extBut _ o (Ne.symm ap.h1) e
  have hl₂ : h₂.IsList ls vs.toArray := hl.at fun o e => k12 _ o (Ne.symm ap.h4) (Ne.symm ap.h7) e
  refine seg_execs_cons (seg_If ?_)
  refine wpAny_isTrue_Compare1 ?_
  refine nameX_L (v := .str x t) (frE hn₂) (by simp) ?_
  refine nameX_L (v := .ref pm) (frE hn₂) hm1 ?_
  have hND : News {} Lg h₂ [(pm, opm)] := fun p hp => by
    rw [List.mem_singleton.mp hp]
    exact ⟨hpm₂, Ne.symm ap.h2, rfl⟩
  refine kda_in (knd := strKind _ _) hND (.head _) hD ap.lo1 (strKind_is _ _ _ _) _ rfl ?_
  refine wpAny_truthy_bool ?_
  cases hfx : f x with
  | none =>
    rw [(hf x).1 hfx]
    refine seg_execs_nil ?_
    refine seg_execs_nil ?_
    refine seg_again rfl ?_
    exact skip (.inl hfx) _ ⟨⟨_, hn₂, hm1, hm2⟩, hpm₂, hrm₂, hit₂⟩ ⟨vs, hl₂, hS⟩ ⟨h₂, _, rfl, fun b o e1 e2 _ e => k12 b o e1 e2 e⟩
  | some p =>
    obtain ⟨tp, hvp⟩ := (hf x).2 p hfx
    rw [hvp]
    refine seg_execs_cons (seg_wrap (wpAny_Assign_Name (Subscript_ ?_)))
    refine nameX_L (v := .ref pm) (frE hn₂) hm1 ?_
    refine nameX_L (v := .str x t) (frE hn₂) (by simp) ?_
    refine kda_item (knd := strKind _ _) hND (.head _) hD (strKind_is _ _ _ _) hvp ?_
    refine wpAny_storeName_local rfl hn₂ (fun h₃ hn₃ hs₃ => ?_) rfl
    have k13 : ∀ b o, b ≠ Lg → b ≠ It → s.heap.get? b = some o → h₃.get? b = some o := fun b o e1 e2 e => hs₃.extBut b o e1 (k12 b o e1 e2 e)
    have hpm₃ : h₃.get? pm = some opm := hs₃.extBut _ _ (Ne.symm ap.h2) hpm₂
    obtain ⟨orm, horm, hrd⟩ := Heap.dictOf_iff.mp hrm₂
    have horm₃ : h₃.get? rm = some orm := hs₃.extBut _ _ (Ne.symm ap.h3) horm
    have hit₃ : h₃.IsListIter It ls (i + 1) := hit₂.at fun o e => hs₃.extBut _ o (Ne.symm ap.h1) e
    have hl₃ : h₃.IsList ls vs.toArray := hl₂.at fun o e => hs₃.extBut _ o (Ne.symm ap.h4) e
    have hNR : News {} Lg h₃ [(rm, orm)] := fun q hq => by
      rw [List.mem_singleton.mp hq]
      exact ⟨horm₃, Ne.symm ap.h3, rfl⟩
    refine seg_execs_cons (seg_If ?_)
    refine wpAny_isTrue_Compare1 ?_
    refine nameX_L (v := .str p tp) (frE hn₃) (by simp) ?_
    refine nameX_L (v := .ref rm) (frE hn₃) hm2 ?_
    refine kdg_notin (knd := strKind _ _) hNR (.head _) hrd ap.lo2 (strKind_is _ _ _ _) _ rfl ?_
    refine wpAny_truthy_bool ?_
    cases hq : (valueAt rkvs p).isSome with
    | true =>
      refine seg_execs_nil ?_
      refine seg_execs_nil ?_
      refine seg_execs_nil ?_
      refine seg_again rfl ?_
      exact skip (.inr ⟨p, hfx, hq⟩) _ ⟨⟨_, hn₃, hm1, hm2⟩, hpm₃, Heap.dictOf_iff.mpr ⟨orm, horm₃, hrd⟩, hit₃⟩ ⟨vs, hl₃, hS⟩ ⟨h₃, _, rfl, fun b o e1 e2 _ e => k13 b o e1 e2 e⟩
    | false =>
      obtain ⟨n', rfl, yl⟩ := yld p hfx hq
      refine seg_execs_cons (seg_wrap (wpAny_Assign_Subscript ?_))
      refine wpAny_Constant_none ?_
      refine nameX_L (v := .ref rm) (frE hn₃) hm2 ?_
      refine nameX_L (v := .str p tp) (frE hn₃) (by simp) ?_
      refine wpAny_setItem_pairs (knd := strKind _ _) (strKind_is _ _ p tp) (Heap.dictOf_iff.mpr ⟨orm, horm₃, hrd⟩) (fun h₄ hrm₄ hs₄ => ?_) (by rw [sizeLine_eq]; omega)
      have k14 : ∀ b o, b ≠ Lg → b ≠ It → b ≠ rm → s.heap.get? b = some o → h₄.get? b = some o := fun b o e1 e2 e3 e => hs₄.extBut b o e3 (k13 b o e1 e2 e)
      have hn₄ : h₄.Ns Lg _ := hn₃.at' fun o e => hs₄.extBut _ o ap.h3 e
      refine seg_execs_cons (seg_Expr_Yield hsp rfl hgd ?_)
      refine nameX_L (v := .str p tp) (frE hn₄) (by simp) ?_
      intro kap hkap
      have g4 : ∃ m', h₄.Ns Lg m' ∧ m' (Str.ofString "parent_map") = some (.ref pm) ∧ m' (Str.ofString "result_map") = some (.ref rm) := ⟨_, hn₄, by exact hm1, by exact hm2⟩
      refine yl _ tp ⟨g4, hs₄.extBut _ _ ap.h8 hpm₃, hrm₄, hit₃.at fun o e => hs₄.extBut _ o ap.h6 e⟩ ⟨vs, hl₃.at fun o e => hs₄.extBut _ o (Ne.symm ap.h9) e, hS⟩
        ⟨h₄, _, rfl, fun b o e1 e2 e3 e => k14 b o e1 e2 e3 e⟩ kap fun s'' hs'' => hkap _ _ ?_
      exact seg_again rfl hs''
end
end Mine

/- part Sel2 -/
namespace Mine

/-- the words that are new, in their order -/
def newFrom (f : Str → Option Str) : List Str → List Str → List Str
  | _, [] => []
  | found, x :: r => match f x with
    | none => newFrom f found r
    | some p => if p ∈ found then newFrom f found r else p :: newFrom f (found ++ [p]) r
theorem newFrom_none {f : Str → Option Str} {found : List Str} {x : Str} {r : List Str} (h : f x = none) : newFrom f found (x :: r) = newFrom f found r := by simp [newFrom, h]
theorem newFrom_old {f : Str → Option Str} {found : List Str} {x p : Str} {r : List Str} (h : f x = some p) (hp : p ∈ found) : newFrom f found (x :: r) = newFrom f found r := by simp [newFrom, h, hp]
theorem newFrom_new {f : Str → Option Str} {found : List Str} {x p : Str} {r : List Str} (h : f x = some p) (hp : ¬ p ∈ found) : newFrom f found (x :: r) = p :: newFrom f (found ++ [p]) r := by simp [newFrom, h, hp]

def RK (rkvs : List (Str × Value)) (found : List Str) : Prop := ∀ p, (valueAt rkvs p).isSome = decide (p ∈ found)
theorem RK.nil : RK [] [] := fun _ => rfl
theorem RK.put {rkvs : List (Str × Value)} {found : List Str} (h : RK rkvs found) (p : Str) : RK (stored rkvs p .none) (found ++ [p]) := fun z => by
  rw [find_stored]
  by_cases hz : z = p
  · simp [hz]
  · simp only [hz, if_false, h z, List.mem_append, List.mem_singleton, or_false]

/-- what the generator keeps for its consumer -/
def Kept (Lg dctx : Addr) (s₀ s : Shared) : Prop :=
  ∃ h' tk, s = { s₀ with heap := h', toks := tk } ∧ ∀ b o, b < Lg + 2 → b ≠ Lg → b ≠ dctx → s₀.heap.get? b = some o → h'.get? b = some o
def selY (L lf ls Lg dctx : Addr) (CD : Heap → Prop) (cur ys : List Str) : Protocol := fun m s₀ v s kap =>
  (∃ y t, ys[ys.length - 1 - m]? = some y ∧ v = .str y t) ∧ Kept Lg dctx s₀ s ∧ CD s.heap ∧
    ∀ s'', (∀ b o, b ∉ [L, lf, ls] → s.heap.get? b = some o → s''.heap.get? b = some o) → ListAt s''.heap ls cur → kap (.send .none) s''
def selP (Lg dctx : Addr) (CD : Heap → Prop) (n : Nat) (s₀ s₁ : Shared) : Prop := n = 0 ∧ Kept Lg dctx s₀ s₁ ∧ CD s₁.heap
abbrev selR (Lg dctx : Addr) (CD : Heap → Prop) : GenEnd := fun n s₀ r s₁ => r = .ok (.ret .none) ∧ selP Lg dctx CD n s₀ s₁

theorem Kept.refl (Lg dctx : Addr) (s : Shared) : Kept Lg dctx s s := ⟨s.heap, s.toks, rfl, fun _ _ _ _ _ e => e⟩
theorem Kept.step {Lg dctx It rm : Addr} {s₀ s s' : Shared} (k : Kept Lg dctx s₀ s) (st : Step3 Lg It rm s s') (h1 : Lg + 2 ≤ It) (h2 : Lg + 2 ≤ rm) : Kept Lg dctx s₀ s' := by
  obtain ⟨h', tk, rfl, hk⟩ := k
  obtain ⟨h'', tk', rfl, hk'⟩ := st
  exact ⟨h'', tk', rfl, fun b o hb h3 h4 e => hk' b o h3 (fun q => Nat.not_lt.mpr h1 (q ▸ hb)) (fun q => Nat.not_lt.mpr h2 (q ▸ hb)) (hk b o hb h3 h4 e)⟩

section
variable {w : World} {A : Around} {sq : Str} {Lg sel : Addr} {cd : Value} {It pm rm ls L lf dctx : Addr} {opm odc : Obj} {kvs : List (Str × Value)} {f : Str → Option Str} {CD : Heap → Prop} {cur ys xs : List Str} {more : Str}

abbrev selK0 : Flow → Sem Fin := fun f => .pure (.done (.ret (match f with | .ret v => v | _ => .none)))
abbrev selH0 (env : Env) : Value → Sem Fin := fun e => (leaving env e).wrap (fun _ => .raise e) .raise id id
abbrev selK1 (env : Env) : Flow → Sem Fin := fun f => match f with | .next => (execs [] env).wrap selK0 (selH0 env) id id | f => selK0 f
abbrev selFrame (env : Env) (p : Pos) : Frame := .ret (behindFor env (selK1 env) (selH0 env) id id) none (id false) (id []) (.func selBody env) p []

theorem seg_fin {n : Nat} {s₀ s : Shared} {p : Pos} {c : Code} (h : selP Lg dctx CD n s₀ s) :
    Seg (model PG w) A (selR Lg dctx CD) (selY L lf ls Lg dctx CD cur ys) n s₀ c (.pure (.again (.block [] (selEnv sq Lg sel cd)))) [selFrame (selEnv sq Lg sel cd) p] s := by
  refine seg_again rfl ?_
  show Seg _ _ _ _ _ _ _ (leafOf (.ok .next)) _ _
  refine seg_leaf (.ok .next) ?_
  show Seg _ _ _ _ _ _ _ (leafOf (.ok (.ret .none))) _ _
  exact seg_end (.ok (.ret .none)) ⟨rfl, h⟩

/-- the loop behind the first yield: the list is as long as it gets -/
theorem seg_loop2 (ap : Apart Lg It pm rm ls) (hD : opm.IsDictOf (strKind PG w) kvs) (hf : PmFun kvs f) (hh : A.handled = none) (hIt : Lg + 2 ≤ It) (hrm : Lg + 2 ≤ rm) (hcd : ∀ h : Heap, h.get? dctx = some odc → h.get? pm = some opm → CD h)
    (hd1 : dctx ≠ Lg) (hd2 : dctx ≠ It) (hd3 : dctx ≠ rm) (hcur : cur.length ≤ 900)
    (hout : ∀ b ∈ [Lg, It, pm, rm, dctx], b ∉ [L, lf, ls]) {p : Pos} :
    ∀ (k i n : Nat) (found : List Str) (rkvs : List (Str × Value)) (s₀ s : Shared), cur.length - i = k → i ≤ cur.length → GI w s.heap Lg It pm rm ls opm i rkvs → s.heap.get? dctx = some odc → RK rkvs found → rkvs.length ≤ i → ListAt s.heap ls cur → Kept Lg dctx s₀ s →
      n ≤ ys.length → ys.drop (ys.length - n) = newFrom f found (cur.drop i) →
      Seg (model PG w) A (selR Lg dctx CD) (selY L lf ls Lg dctx CD cur ys) n s₀ (selLoop sq Lg sel cd It) ((model PG w).den (selLoop sq Lg sel cd It)) [selFrame (selEnv sq Lg sel cd) p] s := by
  have hlen : ∀ n : Nat, n ≤ ys.length → (ys.drop (ys.length - n)).length = n := fun n hn => by rw [List.length_drop]; omega
  have hh' : (A.over (selLoop sq Lg sel cd It) [selFrame (selEnv sq Lg sel cd) p]).handled = none := hh
  intro k
  induction k with
  | zero =>
    intro i n found rkvs s₀ s hk hi g hdc _ _ hL kp hn hys
    have hin : i = cur.length := by omega
    have hn0 : n = 0 := by
      have := hlen n hn
      rw [hys, hin, List.drop_length] at this
      simpa [newFrom] using this.symm
    obtain ⟨vs, hl, hS⟩ := hL
    refine seg_forLoop ?_
    refine wpAny_pyNext_list_end hh' g.it hl (by simp [hin, hS.length]) fun h' he' => ?_
    refine seg_fin ⟨hn0, ?_, ?_⟩
    · exact kp.step (It := It) (rm := rm) ⟨h', _, rfl, fun b o _ e2 _ e => he' b o e2 e⟩ hIt hrm
    · exact hcd _ (he' _ _ hd2 hdc) (he' _ _ (Ne.symm ap.h5) g.pmO)
  | succ k ih =>
    intro i n found rkvs s₀ s hk hi g hdc hrk hrl hL kp hn hys
    have hlt : i < cur.length := by omega
    have hx : cur[i]? = some cur[i] := by simp [hlt]
    have hdr : cur.drop i = cur[i] :: cur.drop (i + 1) := List.drop_eq_getElem_cons hlt
    refine seg_turn ap hD hf g hL hx (by omega) rfl rfl ?_ ?_
    · intro hskip s' g' hL' st
      have hdc' : s'.heap.get? dctx = some odc := by
        obtain ⟨h', tk, rfl, hk'⟩ := st
        exact hk' _ _ hd1 hd2 hd3 hdc
      refine ih (i + 1) n found rkvs s₀ s' (by omega) hlt g' hdc' hrk (by omega) hL' (kp.step st hIt hrm) hn ?_
      rw [hys, hdr]
      rcases hskip with h | ⟨q, hq, hq2⟩
      · exact newFrom_none h
      · refine newFrom_old hq ?_
        have := hrk q
        rw [hq2] at this
        exact of_decide_eq_true this.symm
    · intro q hq hq2
      have hnot : ¬ q ∈ found := by
        have := hrk q
        rw [hq2] at this
        exact of_decide_eq_false this.symm
      rw [hdr, newFrom_new hq hnot] at hys
      obtain ⟨n', rfl⟩ : ∃ n', n = n' + 1 := by
        have := hlen n hn
        rw [hys, List.length_cons] at this
        exact ⟨_, this.symm⟩
      have hys' : ys.drop (ys.length - n') = newFrom f (found ++ [q]) (cur.drop (i + 1)) := by
        have e : ys.length - n' = ys.length - (n' + 1) + 1 := by omega
        rw [e, ← List.drop_drop, hys]; rfl
      have hy : ys[ys.length - 1 - n']? = some q := by
        have e : ys.length - 1 - n' = ys.length - (n' + 1) := by omega
        rw [e, ← List.head?_drop, hys]; rfl
      refine ⟨n', rfl, fun s' t g' hL' st kap hkap => ?_⟩
      have hdc' : s'.heap.get? dctx = some odc := by
        obtain ⟨h', tk, rfl, hk'⟩ := st
        exact hk' _ _ hd1 hd2 hd3 hdc
      refine ⟨⟨q, t, hy, rfl⟩, kp.step st hIt hrm, hcd _ hdc' g'.pmO, fun s'' hs'' hL'' => hkap s'' ?_⟩
      have o1 : ∀ b ∈ [Lg, It, pm, rm, dctx], ∀ o, s'.heap.get? b = some o → s''.heap.get? b = some o := fun b hb o e => hs'' b o (hout b hb) e
      refine ih (i + 1) n' (found ++ [q]) _ s'' s'' (by omega) hlt ?_ (o1 _ (by simp) _ hdc') (hrk.put q) (Nat.le_trans (stored_length_le _ _ _) (by omega)) hL'' (Kept.refl _ _ _) (by omega) hys'
      obtain ⟨⟨m, hns, hm1, hm2⟩, hpm, hrm', hit⟩ := g'
      refine ⟨⟨m, hns.at' fun o e => o1 _ (by simp) o e, hm1, hm2⟩, o1 _ (by simp) _ hpm, ?_, hit.at fun o e => o1 _ (by simp) o e⟩
      obtain ⟨o, ho, hd⟩ := Heap.dictOf_iff.mp hrm'
      exact Heap.dictOf_iff.mpr ⟨o, o1 _ (by simp) o ho, hd⟩
end
end Mine

/- part Sel3 -/
namespace Mine
local macro_rules | `(tactic| walk_at "Mstep") => `(tactic| (first | (k_unfold; (try dsimp only)) | walk1 | (dsimp only; walk1)))

section
variable {w : World} {A : Around} {sq : Str} {Lg sel : Addr} {cd : Value} {It pm rm ls L lf dctx : Addr} {opm odc : Obj} {kvs : List (Str × Value)} {f : Str → Option Str} {CD : Heap → Prop} {cur ys xs : List Str} {more : Str}

/-- the loop ahead of the first yield: the list is still the row -/
theorem seg_loop1 (ap : Apart Lg It pm rm ls) (hD : opm.IsDictOf (strKind PG w) kvs) (hf : PmFun kvs f) (hh : A.handled = none) (hIt : Lg + 2 ≤ It) (hrm : Lg + 2 ≤ rm) (hcd : ∀ h : Heap, h.get? dctx = some odc → h.get? pm = some opm → CD h)
    (hd1 : dctx ≠ Lg) (hd2 : dctx ≠ It) (hd3 : dctx ≠ rm) (hcur : (xs ++ [more]).length ≤ 900)
    (hout : ∀ b ∈ [Lg, It, pm, rm, dctx], b ∉ [L, lf, ls]) {p : Pos} :
    ∀ (k i : Nat) (s₀ s : Shared), xs.length - i = k → i ≤ xs.length → GI w s.heap Lg It pm rm ls opm i [] → s.heap.get? dctx = some odc → ListAt s.heap ls xs → Kept Lg dctx s₀ s →
      ys = newFrom f [] (xs.drop i ++ [more]) → (∃ x ∈ xs.drop i, f x ≠ none) →
      Seg (model PG w) A (selR Lg dctx CD) (selY L lf ls Lg dctx CD (xs ++ [more]) ys) ys.length s₀ (selLoop sq Lg sel cd It) ((model PG w).den (selLoop sq Lg sel cd It)) [selFrame (selEnv sq Lg sel cd) p] s := by
  intro k
  induction k with
  | zero =>
    intro i s₀ s hk hi g hdc hL kp hys hit
    have hin : i = xs.length := by omega
    obtain ⟨x, hx, _⟩ := hit
    rw [hin, List.drop_length] at hx
    cases hx
  | succ k ih =>
    intro i s₀ s hk hi g hdc hL kp hys hit
    have hlt : i < xs.length := by omega
    have hx : xs[i]? = some xs[i] := by simp [hlt]
    have hdr : xs.drop i = xs[i] :: xs.drop (i + 1) := List.drop_eq_getElem_cons hlt
    have hr0 : ∀ q : Str, (valueAt ([] : List (Str × Value)) q).isSome = false := fun _ => rfl
    refine seg_turn ap hD hf g hL hx (Nat.zero_le _) rfl rfl ?_ ?_
    · intro hskip s' g' hL' st
      have hnone : f xs[i] = none := by
        rcases hskip with h | ⟨q, _, hq2⟩
        · exact h
        · rw [hr0] at hq2; cases hq2
      have hdc' : s'.heap.get? dctx = some odc := by
        obtain ⟨h', tk, rfl, hk'⟩ := st
        exact hk' _ _ hd1 hd2 hd3 hdc
      refine ih (i + 1) s₀ s' (by omega) hlt g' hdc' hL' (kp.step st hIt hrm) ?_ ?_
      · rw [hys, hdr, List.cons_append, newFrom_none hnone]
      · obtain ⟨x, hx', hne⟩ := hit
        rw [hdr] at hx'
        rcases List.mem_cons.mp hx' with rfl | hx'
        · exact absurd hnone hne
        · exact ⟨x, hx', hne⟩
    · intro q hq _
      rw [hdr, List.cons_append, newFrom_new hq (by simp)] at hys
      have hl : ys.length = (newFrom f ([] ++ [q]) (xs.drop (i + 1) ++ [more])).length + 1 := by rw [hys]; rfl
      refine ⟨_, hl, fun s' t g' hL' st kap hkap => ?_⟩
      have hdc' : s'.heap.get? dctx = some odc := by
        obtain ⟨h', tk, rfl, hk'⟩ := st
        exact hk' _ _ hd1 hd2 hd3 hdc
      refine ⟨⟨q, t, ?_, rfl⟩, kp.step st hIt hrm, hcd _ hdc' g'.pmO, fun s'' hs'' hL'' => hkap s'' ?_⟩
      · have e : ys.length - 1 - (newFrom f ([] ++ [q]) (xs.drop (i + 1) ++ [more])).length = 0 := by omega
        rw [e, hys]; rfl
      have o1 : ∀ b ∈ [Lg, It, pm, rm, dctx], ∀ o, s'.heap.get? b = some o → s''.heap.get? b = some o := fun b hb o e => hs'' b o (hout b hb) e
      refine seg_loop2 ap hD hf hh hIt hrm hcd hd1 hd2 hd3 hcur hout _ (i + 1) _ ([] ++ [q]) _ s'' s'' rfl (by rw [List.length_append]; omega) ?_ (o1 _ (by simp) _ hdc') (RK.nil.put q) (Nat.le_trans (stored_length_le _ _ _) (by simp)) hL'' (Kept.refl _ _ _) (by omega) ?_
      · obtain ⟨⟨m, hns, hm1, hm2⟩, hpm, hrm', hit⟩ := g'
        refine ⟨⟨m, hns.at' fun o e => o1 _ (by simp) o e, hm1, hm2⟩, o1 _ (by simp) _ hpm, ?_, hit.at fun o e => o1 _ (by simp) o e⟩
        obtain ⟨o, ho, hd⟩ := Heap.dictOf_iff.mp hrm'
        exact Heap.dictOf_iff.mpr ⟨o, o1 _ (by simp) o ho, hd⟩
      · have e : ys.length - (newFrom f ([] ++ [q]) (xs.drop (i + 1) ++ [more])).length = 1 := by omega
        rw [e, hys, List.drop_one, List.tail_cons]
        rw [List.drop_append_of_le_length hlt]
end
end Mine

/- part Sel4 -/
namespace Mine
local macro_rules | `(tactic| walk_at "Mstep") => `(tactic| (first | (k_unfold; (try dsimp only)) | walk1 | (dsimp only; walk1)))

/-- what a call of get_parent_map in the generator's frame gives: the map, the context's dict, and all else of the ledger -/
def GpmC (w : World) (A' : Around) (g : Heap) (Lg : Addr) (m₀ : Str → Option Value) (led0 : List (Addr × Obj)) (ctx dctx ls L lf : Addr) (f : Str → Option Str) (CD : Heap → Prop) : Prop :=
  ∀ (Q E : Value → Shared → Prop) (s : Shared), Fr g Lg s.heap m₀ → News g Lg s.heap led0 →
    (∀ pm opm kvs odc led1 h' tk', Fr g Lg h' m₀ → News g Lg h' led1 → (pm, opm) ∈ led1 → (dctx, odc) ∈ led1 → (∀ p ∈ led0, p.1 ≠ dctx → p ∈ led1) → opm.IsDictOf (strKind PG w) kvs → PmFun kvs f → (pm == sysModules) = false →
      (∀ h : Heap, h.get? dctx = some odc → h.get? pm = some opm → CD h) → pm ∉ [L, lf, ls] → Q (.ref pm) { s with heap := h', toks := tk' }) →
    wpAny (model PG w) A' (call (.ref 21) [.ref ctx]) Q E s

section
variable {w : World} {A : Around} {sq : Str} {Lg sel : Addr} {cd : Value} {ls L lf ctx dctx : Addr} {f : Str → Option Str} {CD : Heap → Prop} {ys xs : List Str} {more : Str} {s : Shared} {g : Heap} {led0 : List (Addr × Obj)}
  {p : Program} {loose : List Str} {mean : ExcName → Option Value} {mg mb : Str → Option Value} {vs : List Value} {nn : Nat} {og : Obj}

abbrev selMap (ctx ls : Addr) : Str → Option Value := fun y => [(Str.ofString "context", Value.ref ctx), (Str.ofString "result", Value.ref ls)].reverse.lookup y

theorem seg_start (X : (hd.heap_39 w.params).In g) (T : Top p loose mean mg mb g) (hh : A.handled = none) (F : Fr g Lg s.heap (selMap ctx ls)) (N : News g Lg s.heap led0)
    (hcov : ∀ b o, b < Lg + 2 → b ≠ Lg → s.heap.get? b = some o → g.get? b = some o ∨ (b, o) ∈ led0)
    (hls : (ls, W.listOf (List.toArray vs) nn) ∈ led0) (hS : StrsAre vs xs) (hgo : (Lg + 1, og) ∈ led0) (hd1 : dctx ≠ Lg + 1) (hd2 : dctx ∉ [L, lf, ls]) (hLg : Lg ∉ [L, lf, ls]) (hL1 : ∀ b ∈ [L, lf, ls], b < Lg + 2)
    (hgpm : GpmC w (A.over (.func selBody (selEnv sq Lg sel cd)) []) g Lg (selMap ctx ls) led0 ctx dctx ls L lf f CD)
    (hys : ys = newFrom f [] (xs ++ [more])) (hhit : ∃ x ∈ xs, f x ≠ none) (hlen : (xs ++ [more]).length ≤ 900) :
    Seg (model PG w) A (selR Lg dctx CD) (selY L lf ls Lg dctx CD (xs ++ [more]) ys) ys.length s (.func selBody (selEnv sq Lg sel cd)) ((model PG w).den (.func selBody (selEnv sq Lg sel cd))) [] s := by
  have kfz : (hd.heap_39 w.params).In g → Challenge.rw_nb0383_01 = Challenge.rw_nb0383_01 := by (k_fill; intro _; rfl)
  refine seg_func (seg_execs_cons (seg_wrap ?_))
  repeat ((fail_if_success (with_reducible show wpAny _ _ (call (Value.ref _) _) _ _ _)); walk_at "Mstep")
  refine hgpm _ _ s F N ?_
  intro pm opm kvs odc led1 h1 tk1 F1 N1 hpm hdc hkeep hD hf hlo hcd hpo
  clear F N
  walk_at "Mstep"
  rename Fr _ _ _ _ => F2
  rename News _ _ _ _ => N2
  dsimp only
  refine seg_execs_cons (seg_wrap ?_)
  repeat ((fail_if_success (with_reducible show Seg _ _ _ _ _ _ _ _ _ _)); walk_at "Mstep")
  rename Fr _ _ _ _ => F3
  rename News _ _ _ _ => N3
  rename ∀ p ∈ led1, p.1 < _ => hlt
  rename (_ == sysModules) = false => hlo2
  rename Obj.IsDictOf (strKind _ _) _ [] => hD2
  rename_i h2 rm h3 orm _ _ _ h4
  dsimp only
  have hls1 : (ls, W.listOf (List.toArray vs) nn) ∈ led1 := hkeep _ hls fun e => hd2 (by rw [← e]; simp)
  have hgo1 : (Lg + 1, og) ∈ led1 := hkeep _ hgo fun e => hd1 e.symm
  have hl : h4.IsList ls vs.toArray := News.isList N3 (.tail _ hls1)
  refine seg_execs_cons (seg_For ?_)
  refine nameX_L F3 rfl ?_
  refine wpAny_pyIter_list hl ?_
  intro pos
  have hrmLg : Lg + 2 ≤ rm := hlt _ hgo1
  have hItrm : rm < h4.objs.size := Heap.lt_size (N3 _ (.head _)).1
  have up : ∀ b o, h4.get? b = some o → (h4.push { cls := .type "list_iterator", data := .fields #[.ref ls, .int 0 0] }).get? b = some o := fun b o e => Heap.get?_push_of_some _ e
  have lt : ∀ b o, h4.get? b = some o → b < h4.objs.size := fun b o e => Heap.lt_size e
  have m1 : h4.get? pm = some opm := (N3 _ (.tail _ hpm)).1
  have m2 : h4.get? dctx = some odc := (N3 _ (.tail _ hdc)).1
  have m3 : h4.get? rm = some orm := (N3 _ (.head _)).1
  have m4 : h4.get? ls = some _ := (N3 _ (.tail _ hls1)).1
  have n1 : pm < rm := hlt _ hpm
  have n2 : dctx < rm := hlt _ hdc
  have n4 : ls < rm := hlt _ hls1
  have hLgs : Lg < h4.objs.size := F3.ns.lt
  refine seg_loop1 (pm := pm) (rm := rm) (opm := opm) (odc := odc) (It := h4.objs.size) ⟨Nat.ne_of_lt hLgs, Ne.symm (N3 _ (.tail _ hpm)).2.1, Ne.symm (N3 _ (.head _)).2.1, Ne.symm (N3 _ (.tail _ hls1)).2.1,
      Ne.symm (Nat.ne_of_lt (lt _ _ m1)), Ne.symm (Nat.ne_of_lt hItrm), Ne.symm (Nat.ne_of_lt (lt _ _ m4)), Nat.ne_of_lt n1, Ne.symm (Nat.ne_of_lt n4), hlo, hlo2⟩ hD hf hh (Nat.le_trans hrmLg (Nat.le_of_lt hItrm)) hrmLg hcd
      (N3 _ (.tail _ hdc)).2.1 (Nat.ne_of_lt (lt _ _ m2)) (Nat.ne_of_lt n2) hlen ?_ _ 0 _ _ rfl (Nat.zero_le _) ?_ (up _ _ m2) ⟨vs, hl.at fun o e => up _ _ e, hS⟩ ?_ ?_ ?_
  · intro b hb
    simp only [List.mem_cons, List.not_mem_nil, or_false] at hb
    rcases hb with rfl | rfl | rfl | rfl | rfl
    · exact hLg
    · intro hb
      exact Nat.lt_irrefl _ (Nat.lt_of_lt_of_le (hL1 _ hb) (Nat.le_trans hrmLg (Nat.le_of_lt hItrm)))
    · exact hpo
    · intro hb
      exact Nat.lt_irrefl _ (Nat.lt_of_lt_of_le (hL1 _ hb) hrmLg)
    · exact hd2
  · refine ⟨⟨_, F3.ns.keeps up, rfl, rfl⟩, up _ _ m1, Heap.dictOf_iff.mpr ⟨orm, up _ _ m3, hD2⟩, ⟨_, Heap.get?_push_size _ rfl, rfl, rfl⟩⟩
  · refine ⟨_, _, rfl, fun b o hb h1 h2 e => up _ _ ?_⟩
    rcases hcov b o hb h1 e with h | h
    · exact F3.keep b o h
    · exact (N3 _ (.tail _ (hkeep _ h h2))).1
  · exact hys
  · exact hhit
end
end Mine

/- part T1 -/
namespace Mine
local macro_rules | `(tactic| walk_at "Mstep") => `(tactic| (first | (k_unfold; (try dsimp only)) | walk1 | (dsimp only; walk1)))

abbrev tEnv (L : Addr) : Env := envOf (Str.ofString "_law_told") tScope L 68 (.ref 67)
abbrev tMap (lf ls : Addr) (more : Str) (tm : Tok) (mm : Str → Option Value) : Str → Option Value := fun z => if z = Str.ofString "found" then some (.ref lf) else if z = Str.ofString "signs" then some (.ref ls) else if z = Str.ofString "more" then some (.str more tm) else mm z
/-- ONE word comes out: if found == []: signs.append(more); found.append(word) -/
theorem told_body {w : World} {A : Around} {E : Value → Shared → Prop} {Q : Flow → Shared → Prop} {s : Shared} {h₀ : Heap} {L lf ls : Addr} {more y : Str} {tm ty : Tok} {mm : Str → Option Value} {vsF vsS : List Value} {nF nS : Nat} {fs xs : List Str} {rest : List (Addr × Obj)}
    {p : Program} {loose : List Str} {mean : ExcName → Option Value} {mg mb : Str → Option Value}
    (X : (hd.heap_39 w.params).In h₀) (T : Top p loose mean mg mb h₀) (hh : A.handled = none) (hu : A.units + 64 < cLine)
    (F : Fr h₀ L s.heap (fun z => if z = Str.ofString "word" then some (.str y ty) else tMap lf ls more tm mm z))
    (N : News h₀ L s.heap ((lf, W.listOf (List.toArray vsF) nF) :: (ls, W.listOf (List.toArray vsS) nS) :: rest)) (hne : lf ≠ ls) (hr : ∀ q ∈ rest, q.1 ≠ lf ∧ q.1 ≠ ls)
    (hF : StrsAre vsF fs) (hS : StrsAre vsS xs) (hlF : fs.length ≤ 1000) (hlS : xs.length ≤ 1000) (hok : ∀ u ∈ fs, PyData.strOk u = true)
    (done : ∀ vsF' vsS' nF' nS' h' tk', StrsAre vsF' (fs ++ [y]) → StrsAre vsS' (if fs = [] then xs ++ [more] else xs) → Fr h₀ L h' (fun z => if z = Str.ofString "word" then some (.str y ty) else tMap lf ls more tm mm z) →
      News h₀ L h' ((lf, W.listOf (List.toArray vsF') nF') :: (ls, W.listOf (List.toArray vsS') nS') :: rest) → Q .next { s with heap := h', toks := tk' }) :
    wpAny (model PG w) A (execs tSBody (tEnv L)) Q E s := by
  have kfz : (hd.heap_39 w.params).In h₀ → Challenge.rw_nb0383_01 = Challenge.rw_nb0383_01 := by (k_fill; intro _; rfl)
  repeat ((fail_if_success (with_reducible show wpAny _ _ (compareOp _ _ _) _ _ _)); walk_at "Mstep")
  rename Fr _ _ _ _ => F1
  rename News _ _ _ _ => N1
  rename _ ∧ _ ∧ AllLt _ _ => hlt
  rename_i l1 h1
  have hap : ∀ q ∈ rest, q.1 ≠ lf := fun q hq => (hr q hq).1
  have hap2 : ∀ q ∈ rest, q.1 ≠ ls := fun q hq => (hr q hq).2
  have hap3 : ∀ q ∈ rest, q.1 ≠ l1 := fun q hq => Nat.ne_of_lt (allLt_mem hlt.2.2 q hq)
  refine cmp_ofEq (eq_dataH (reads_strs (N1 _ (.tail _ (.head _))).1 hF) (reads_strs (vs := []) (N1 _ (.head _)).1 .nil) (shaped_dS hok) (shaped_dS fun _ h => nomatch h) hu ?_)
  rw [eqv_nil]
  refine wpAny_truthy_bool ?_
  by_cases hfs : fs = []
  · rw [if_pos (decide_eq_true hfs)]
    rw [if_pos hfs] at done
    repeat ((fail_if_success (with_reducible show wpAny _ _ (call (Value.builtin _) _) _ _ _)); walk_at "Mstep")
    refine append_K (its := List.toArray vsS) F1 N1 (.tail (Ne.symm (Nat.ne_of_lt hlt.2.1)) (.tail hne (.head hap2))) ?_ (by rw [List.size_toArray, hS.length, sizeLine_eq]; omega)
    intro h2 F2 N2
    clear F1 N1
    repeat ((fail_if_success (with_reducible show wpAny _ _ (call (Value.builtin _) _) _ _ _)); walk_at "Mstep")
    refine append_K (its := List.toArray vsF) F2 N2 (.tail (Ne.symm (Nat.ne_of_lt hlt.1)) (.head ?_)) ?_ (by rw [List.size_toArray, hF.length, sizeLine_eq]; omega)
    · intro q hq
      rcases List.mem_cons.mp hq with rfl | hq
      · exact Ne.symm hne
      · exact hap q hq
    intro h3 F3 N3
    clear F2 N2
    refine wpAny_execs_nil ?_
    rw [List.push_toArray, List.push_toArray] at N3
    exact done _ _ _ _ _ _ (hF.append' (.cons _ _ .nil)) (hS.append' (.cons _ _ .nil)) F3 (fun q hq => N3 q (.tail _ hq))
  · rw [if_neg (by rw [decide_eq_false hfs]; exact Bool.false_ne_true)]
    rw [if_neg hfs] at done
    repeat ((fail_if_success (with_reducible show wpAny _ _ (call (Value.builtin _) _) _ _ _)); walk_at "Mstep")
    refine append_K (its := List.toArray vsF) F1 N1 (.tail (Ne.symm (Nat.ne_of_lt hlt.1)) (.head ?_)) ?_ (by rw [List.size_toArray, hF.length, sizeLine_eq]; omega)
    · intro q hq
      rcases List.mem_cons.mp hq with rfl | hq
      · exact Ne.symm hne
      · exact hap q hq
    intro h3 F3 N3
    clear F1 N1
    refine wpAny_execs_nil ?_
    rw [List.push_toArray] at N3
    exact done _ _ _ _ _ _ (hF.append' (.cons _ _ .nil)) hS F3 (fun q hq => N3 q (.tail _ hq))
end Mine

/- part T2 -/
namespace Mine

theorem setGen_push {s : Shared} {gs0 : Array GenState} {x : GenState} {h : Heap} {tk : Nat} (y : GenState) :
    ({ s with heap := h, toks := tk, gens := gs0.push x } : Shared).setGen gs0.size y = { s with heap := h, toks := tk, gens := gs0.push y } := by
  have e : (gs0.push x).setIfInBounds gs0.size y = gs0.push y := by
    apply Array.toList_inj.mp
    rw [Array.toList_setIfInBounds, Array.toList_push, Array.toList_push, ← Array.length_toList, List.set_append_right _ _ (Nat.le_refl _), Nat.sub_self]
    rfl
  show { s with heap := h, toks := tk, gens := (gs0.push x).setIfInBounds gs0.size y } = _
  rw [e]

theorem frKept {h₀ h h₁ : Heap} {L Lg dctx : Addr} {m : Str → Option Value} (F : Fr h₀ L h m) (hk : ∀ b o, b < Lg + 2 → b ≠ Lg → b ≠ dctx → h.get? b = some o → h₁.get? b = some o) (hL : L < Lg) (hd : dctx ≠ L) (h0 : h₀.get? dctx = none) : Fr h₀ L h₁ m :=
  ⟨F.ns.at' fun o e => hk L o (Nat.lt_trans hL (Nat.lt_succ_of_lt (Nat.lt_succ_self _))) (Nat.ne_of_lt hL) (Ne.symm hd) e,
    fun b o e => by
      have hb : b < Lg := Nat.lt_trans (Nat.lt_of_lt_of_le (Heap.lt_size e) F.above) hL
      exact hk b o (Nat.lt_trans hb (Nat.lt_succ_of_lt (Nat.lt_succ_self _))) (Nat.ne_of_lt hb) (fun q => by rw [q, h0] at e; cases e) (F.keep b o e), F.above⟩

section
variable {w : World} {A : Around} {E : Value → Shared → Prop} {Q : Result → Shared → Prop} {s : Shared} {h₀ : Heap} {L Lg lf ls dctx : Addr} {more : Str} {tm : Tok} {mm : Str → Option Value} {vsF vsS : List Value} {nF nS : Nat} {ys xs : List Str} {CD : Heap → Prop}
    {p : Program} {loose : List Str} {mean : ExcName → Option Value} {mg mb : Str → Option Value} {gens0 : Array GenState} {gs₀ : GenState}

/-- for word in select(context, signs), from the generator in hand on -/
theorem told_loop (X : (hd.heap_39 w.params).In h₀) (T : Top p loose mean mg mb h₀) (hh : A.handled = none) (hu : A.units + 64 < cLine) (hroom : A.depth < recursionLimit)
    (F : Fr h₀ L s.heap (tMap lf ls more tm mm)) (hLF : s.heap.get? lf = some (W.listOf (List.toArray []) nF)) (hLS : s.heap.get? ls = some (W.listOf (List.toArray vsS) nS)) (hS : StrsAre vsS xs)
    (hg : s.heap.IsGen (Lg + 1) gens0.size) (hgens : s.gens = gens0.push gs₀)
    (hgo : gs₀.Goes (model PG w) A.in1 (selR Lg dctx CD) (selY L lf ls Lg dctx CD (xs ++ [more]) ys) ys.length (.send .none) { s with gens := gens0.push .running })
    (hN : 0 < ys.length) (hlen : ys.length ≤ 900) (hxl : xs.length ≤ 900) (hok : ∀ u ∈ ys, PyData.strOk u = true) (hmono : ∀ h h' : Heap, (∀ b o, h.get? b = some o → h'.get? b = some o) → CD h → CD h')
    (hb0 : h₀.get? lf = none ∧ h₀.get? ls = none ∧ h₀.get? dctx = none) (hd1 : dctx ≠ L ∧ dctx ≠ lf ∧ dctx ≠ ls ∧ dctx ≠ Lg + 1) (hL1 : L < Lg ∧ lf < Lg ∧ ls < Lg) (hL2 : lf ≠ ls ∧ lf ≠ L ∧ ls ≠ L)
    (done : ∀ h tk vsF nF (u : Str → Option Value), Fr h₀ L h (fun z => if z = Str.ofString "word" then u z else tMap lf ls more tm mm z) → h.get? lf = some (W.listOf (List.toArray vsF) nF) → StrsAre vsF ys →
      (∀ b o, b < Lg + 2 → b ≠ Lg → b ≠ dctx → b ∉ [L, lf, ls] → s.heap.get? b = some o → h.get? b = some o) → CD h → Q (.ok .next) { s with heap := h, toks := tk, gens := gens0.push .finished }) :
    codeAny (model PG w) A (.forLoop tSTarget (.ref (Lg + 1)) tSBody [] (tEnv L)) Q s := by
  refine codeAny_forLoop_any (fun k s' => ∃ j h tk gs vsF nF vsS nS, ∃ u : Str → Option Value, s' = { s with heap := h, toks := tk, gens := gens0.push gs } ∧ Fr h₀ L h (fun z => if z = Str.ofString "word" then u z else tMap lf ls more tm mm z) ∧
      h.get? lf = some (W.listOf (List.toArray vsF) nF) ∧ StrsAre vsF (ys.take j) ∧ h.get? ls = some (W.listOf (List.toArray vsS) nS) ∧ StrsAre vsS (if j = 0 then xs else xs ++ [more]) ∧
      (∀ b o, b < Lg + 2 → b ≠ Lg → b ≠ dctx → b ∉ [L, lf, ls] → s.heap.get? b = some o → h.get? b = some o) ∧
      gs.Goes (model PG w) A.in1 (selR Lg dctx CD) (selY L lf ls Lg dctx CD (xs ++ [more]) ys) (ys.length - j) (.send .none) { s with heap := h, toks := tk, gens := gens0.push .running } ∧ j ≤ ys.length ∧ k = ys.length + 1 - j) ?_ (ys.length + 1) ?_
  · rintro k s' ⟨j, h, tk, gs, vsF, nF, vsS, nS, u, rfl, F, hLF, hF, hLS, hS, hkp, hgo, hj, rfl⟩
    have hGenOld : (Lg + 1) ∉ [L, lf, ls] := by
      intro hm
      simp only [List.mem_cons, List.not_mem_nil, or_false] at hm
      rcases hm with e | e | e
      · exact absurd hL1.1 (by rw [← e]; exact Nat.not_lt.mpr (Nat.le_succ _))
      · exact absurd hL1.2.1 (by rw [← e]; exact Nat.not_lt.mpr (Nat.le_succ _))
      · exact absurd hL1.2.2 (by rw [← e]; exact Nat.not_lt.mpr (Nat.le_succ _))
    have hgj : h.IsGen (Lg + 1) gens0.size := by
      obtain ⟨o, nm, qn, ho, r⟩ := hg
      exact ⟨o, nm, qn, hkp _ _ (Nat.lt_succ_self _) (Nat.succ_ne_self _) (Ne.symm hd1.2.2.2) hGenOld ho, r⟩
    have hnl : h.NoLimit := T.nolimit.keeps F.keep
    have hgs : ({ s with heap := h, toks := tk, gens := gens0.push gs } : Shared).gens[gens0.size]? = some gs := by simp
    refine wpAny_pyNext_gen (n := ys.length - j) (P := selP Lg dctx CD) (Y := selY L lf ls Lg dctx CD (xs ++ [more]) ys) hh hnl hroom hgj hgs (by rw [setGen_push]; exact hgo) ?_ ?_
    · rw [setGen_push]
      rintro v s₁ gs' ⟨⟨y, t, hy, rfl⟩, ⟨h₁, tk₁, rfl, hk₁⟩, hcd, hkap⟩
      have F₁ := frKept F hk₁ hL1.1 hd1.1 hb0.2.2
      have lt2 : ∀ b, b < Lg → b < Lg + 2 := fun b hb => Nat.lt_trans hb (Nat.lt_succ_of_lt (Nat.lt_succ_self _))
      have hLF₁ := hk₁ lf _ (lt2 _ hL1.2.1) (Nat.ne_of_lt hL1.2.1) (Ne.symm hd1.2.1) hLF
      have hLS₁ := hk₁ ls _ (lt2 _ hL1.2.2) (Nat.ne_of_lt hL1.2.2) (Ne.symm hd1.2.2.1) hLS
      cases hm : ys.length - j with
      | zero =>
        rw [hm] at hkap
        have hj0 : ¬ j = 0 := by omega
        rw [if_neg hj0] at hS
        exact False.elim (hkap { s with heap := h₁, toks := tk₁, gens := gens0.push .running } (fun _ _ _ e => e) ⟨vsS, ⟨_, hLS₁, rfl, nS, rfl⟩, hS⟩)
      | succ k =>
        rw [hm] at hkap hy
        have ek : ys.length - 1 - (k + 1 - 1) = j := by omega
        rw [ek] at hy
        rw [setGen_push]
        refine wpAny_of_eq (rfl : letOwnedTupleGo tSTarget (.ref (Lg + 1)) (.str y t) = pure ()) ?_
        refine wpAny_assign_Name (wpAny_storeName_local rfl F₁.ns (fun h₂ hn₂ hs₂ => ?_) rfl)
        have F₂ := F₁.set hn₂ hs₂
        have em : (fun z => if z = Str.ofString "word" then some (Value.str y t) else (fun z => if z = Str.ofString "word" then u z else tMap lf ls more tm mm z) z) = fun z => if z = Str.ofString "word" then some (Value.str y t) else tMap lf ls more tm mm z := by
          funext z
          by_cases hz : z = Str.ofString "word" <;> simp [hz]
        rw [em] at F₂
        have hLF₂ : h₂.get? lf = some _ := hs₂.extBut _ _ hL2.2.1 hLF₁
        have hLS₂ : h₂.get? ls = some _ := hs₂.extBut _ _ hL2.2.2 hLS₁
        have N₂ : News h₀ L h₂ ((lf, W.listOf (List.toArray vsF) nF) :: (ls, W.listOf (List.toArray vsS) nS) :: ownOf h₀ ((List.range h₂.objs.size).filter fun b => !([L, lf, ls].contains b)) h₂) := by
          intro q hq
          rcases List.mem_cons.mp hq with rfl | hq
          · exact ⟨hLF₂, hL2.2.1, hb0.1⟩
          · rcases List.mem_cons.mp hq with rfl | hq
            · exact ⟨hLS₂, hL2.2.2, hb0.2.1⟩
            · exact news_ownOf (by simp) q hq
        have hyin : y ∈ ys := List.mem_of_getElem? hy
        refine told_body X T hh hu F₂ N₂ hL2.1 ?_ hF hS ?_ ?_ ?_ ?_
        · intro q hq
          have := ownOf_sub q hq
          simp only [List.mem_filter, List.contains_cons, List.contains_nil, Bool.or_false, Bool.not_eq_true', Bool.or_eq_false_iff, beq_eq_false_iff_ne] at this
          exact ⟨this.2.2.1, this.2.2.2⟩
        · rw [List.length_take]; omega
        · split
          · omega
          · rw [List.length_append, List.length_singleton]; omega
        · intro v hv
          exact hok v (List.mem_of_mem_take hv)
        · intro vsF' vsS' nF' nS' h₃ tk₃ hF' hS' F₃ N₃
          have keep23 : ∀ b o, b ∉ [L, lf, ls] → h₂.get? b = some o → h₃.get? b = some o := fun b o hb e => by
            cases hq : h₀.get? b with
            | some o' =>
              have e1 := F₂.keep b o' hq
              rw [e] at e1
              cases e1
              exact F₃.keep b o hq
            | none =>
              refine (N₃ _ (.tail _ (.tail _ (mem_ownOf ?_ hq e)))).1
              rw [List.mem_filter]
              refine ⟨List.mem_range.mpr (Heap.lt_size e), ?_⟩
              simpa using hb
          have keep13 : ∀ b o, b ∉ [L, lf, ls] → h₁.get? b = some o → h₃.get? b = some o := fun b o hb e =>
            keep23 b o hb (hs₂.extBut b o (fun q => hb (by rw [q]; exact .head _)) e)
          have hS'' : StrsAre vsS' (xs ++ [more]) := by
            by_cases hj0 : j = 0
            · rw [hj0] at hS'
              simpa using hS'
            · have : ¬ ys.take j = [] := by
                intro q
                have := congrArg List.length q
                rw [List.length_take, List.length_nil] at this
                omega
              rw [if_neg this, if_neg hj0] at hS'
              exact hS'
          refine ⟨ys.length + 1 - (j + 1), by omega, j + 1, h₃, tk₃, gs', vsF', nF', vsS', nS', fun _ => some (.str y t), rfl, F₃, (N₃ _ (.head _)).1, ?_, (N₃ _ (.tail _ (.head _))).1, ?_, ?_, ?_, by omega, rfl⟩
          · rw [List.take_add_one, hy]
            exact hF'
          · rw [if_neg (Nat.succ_ne_zero _)]
            exact hS''
          · intro b o h1 h2 h3 h4 e
            exact keep13 b o h4 (hk₁ b o h1 h2 h3 (hkp b o h1 h2 h3 h4 e))
          · have e1 : ys.length - (j + 1) = k := by omega
            rw [e1]
            exact hkap { s with heap := h₃, toks := tk₃, gens := gens0.push .running } keep13 ⟨vsS', ⟨_, (N₃ _ (.tail _ (.head _))).1, rfl, nS', rfl⟩, hS''⟩
    · rw [setGen_push]
      rintro s₁ ⟨hn0, ⟨h₁, tk₁, rfl, hk₁⟩, hcd⟩ h' hk'
      have F₁ := frKept F hk₁ hL1.1 hd1.1 hb0.2.2
      have lt2 : ∀ b, b < Lg → b < Lg + 2 := fun b hb => Nat.lt_trans hb (Nat.lt_succ_of_lt (Nat.lt_succ_self _))
      have hLF₁ := hk₁ lf _ (lt2 _ hL1.2.1) (Nat.ne_of_lt hL1.2.1) (Ne.symm hd1.2.1) hLF
      have hjN : j = ys.length := by omega
      rw [hjN, List.take_length] at hF
      rw [setGen_push]
      refine wpAny_execs_nil ?_
      exact done h' tk₁ vsF nF u ⟨F₁.ns.keeps hk', fun b o e => hk' b o (F₁.keep b o e), F₁.above⟩ (hk' _ _ hLF₁) hF
        (fun b o h1 h2 h3 h4 e => hk' b o (hk₁ b o h1 h2 h3 (hkp b o h1 h2 h3 h4 e))) (hmono _ _ hk' hcd)
  · refine ⟨0, s.heap, s.toks, gs₀, [], nF, vsS, nS, tMap lf ls more tm mm, ?_, ?_, hLF, .nil, hLS, by simpa using hS, fun _ _ _ _ _ _ e => e, hgo, Nat.zero_le _, rfl⟩
    · rw [← hgens]
    · have em : (fun z => if z = Str.ofString "word" then tMap lf ls more tm mm z else tMap lf ls more tm mm z) = tMap lf ls more tm mm := by
        funext z
        split <;> rfl
      rw [em]
      exact F
end
end Mine

/- part T3 -/
namespace Mine
local macro_rules | `(tactic| walk_at "Mstep") => `(tactic| (first | (k_unfold; (try dsimp only)) | walk1 | (dsimp only; walk1)))

abbrev selO (sq : Str) (doc pmod : Value) (csel : Addr) (ct : Value) : Obj := fnMade (Str.ofString "select") sq selParams selBody selScope [] doc pmod csel ct
abbrev tMap2 (sel ctx : Addr) (mm : Str → Option Value) : Str → Option Value := fun z => if z = Str.ofString "select" then some (.ref sel) else if z = Str.ofString "context" then some (.ref ctx) else mm z

theorem newFrom_pos {f : Str → Option Str} : ∀ {l : List Str}, (∃ x ∈ l, f x ≠ none) → 0 < (newFrom f [] l).length
  | [], ⟨_, h, _⟩ => nomatch h
  | x :: r, ⟨z, hz, hf⟩ => by
    cases hx : f x with
    | none =>
      rw [newFrom_none hx]
      rcases List.mem_cons.mp hz with rfl | hz
      · exact absurd hx hf
      · exact newFrom_pos ⟨z, hz, hf⟩
    | some p => rw [newFrom_new hx (by simp)]; simp

section
variable {w : World} {dp un : Nat} {gd : Option (List Code)} {outer : List Env} {A₀ : Around} {base h₀ : Heap} {L lf ls ctx dctx sel csel : Addr} {s : Shared} {E : Value → Shared → Prop} {Q : Flow → Shared → Prop} {more sq : Str} {tm tq : Tok} {mm : Str → Option Value} {vsS : List Value} {nF nS : Nat} {ys xs : List Str} {CD : Addr → Heap → Prop}
    {p : Program} {loose : List Str} {mean : ExcName → Option Value} {mg mb : Str → Option Value} {f : Str → Option Str} {rest : List (Addr × Obj)} {odc ocs : Obj} {vsc : Array Value} {doc pmod ct : Value}

abbrev tA (dp un : Nat) (gd : Option (List Code)) (L : Addr) (outer : List Env) : Around := ktrTop dp un gd (Str.ofString "_law_told") tScope L 68 (.ref 67) [] outer

theorem told_for (B : Below A₀ base outer h₀) (X : (hd.heap_39 w.params).In h₀) (T : Top p loose mean mg mb h₀) (hdp : dp + 10 < recursionLimit) (hun : un + 100 < cLine)
    (F : Fr h₀ L s.heap (tMap lf ls more tm (tMap2 sel ctx mm)))
    (N : News h₀ L s.heap ((lf, W.listOf (List.toArray []) nF) :: (ls, W.listOf (List.toArray vsS) nS) :: (dctx, odc) :: rest)) (hS : StrsAre vsS xs)
    (hsel : (sel, selO sq doc pmod csel ct) ∈ rest) (hcs : (csel, ocs) ∈ rest) (hc1 : ocs.data = .fields vsc) (hc2 : vsc[1]? = some (.str sq tq))
    (hne : lf ≠ ls ∧ dctx ≠ lf ∧ dctx ≠ ls) 
    (hgpm : ∀ g Lg og, Below (tA dp un gd L outer) base (tEnv L :: outer) g → (hd.heap_39 w.params).In g → Top p loose mean mg mb g → Lg = s.heap.objs.size → h₀.StaysIn g →
      GpmC w ((tA dp un gd L outer).in1.over (.func selBody (selEnv sq Lg sel (.ref csel))) []) g Lg (selMap ctx ls) ((Lg + 1, og) :: (lf, W.listOf (List.toArray []) nF) :: (ls, W.listOf (List.toArray vsS) nS) :: (dctx, odc) :: rest) ctx dctx ls L lf f (CD Lg))
    (hys : ys = newFrom f [] (xs ++ [more])) (hhit : ∃ x ∈ xs, f x ≠ none) (hxl : xs.length ≤ 800) (hyl : ys.length ≤ 900) (hok : ∀ u ∈ ys, PyData.strOk u = true) (hmono : ∀ Lg, ∀ h h' : Heap, (∀ b o, h.get? b = some o → h'.get? b = some o) → CD Lg h → CD Lg h')
    (done : ∀ h tk vsF nF (u : Str → Option Value), Fr h₀ L h (fun z => if z = Str.ofString "word" then u z else tMap lf ls more tm (tMap2 sel ctx mm) z) → h.get? lf = some (W.listOf (List.toArray vsF) nF) → StrsAre vsF ys →
      (∀ b o, b ≠ dctx → b ∉ [L, lf, ls] → s.heap.get? b = some o → h.get? b = some o) → CD s.heap.objs.size h → Q .next { s with heap := h, toks := tk, gens := s.gens.push .finished }) :
    wpAny (model PG w) (tA dp un gd L outer) (exec tSel (tEnv L)) Q E s := by
  have kfz : (hd.heap_39 w.params).In h₀ → Challenge.rw_nb0383_01 = Challenge.rw_nb0383_01 := by (k_fill; intro _; rfl)
  refine wpAny_For ?_
  walk_at "Mstep"
  walk_at "Mstep"
  refine callWith_F (FnAt.of N (.tail _ (.tail _ (.tail _ hsel)))) ?_
  repeat ((fail_if_success (with_reducible show FnAt _ _ ∧ _)); walk_at "Mstep")
  refine ⟨FnAt.of N (.tail _ (.tail _ (.tail _ hsel))), ?_⟩
  have ho : s.heap.get? sel = some (selO sq doc pmod csel ct) := (N _ (.tail _ (.tail _ (.tail _ hsel)))).1
  refine wpAny_call (codeAny_call_generator (a := sel) (by show dp < recursionLimit; omega) ho rfl rfl rfl rfl (codeRec_news N (.tail _ (.tail _ (.tail _ hcs))) hc1 hc2) ?_)
  refine wpAny_of_eq (a := [(Str.ofString "context", Value.ref ctx), (Str.ofString "result", Value.ref ls)]) rfl ?_
  refine wpAny_newFunctionEnv ?_ ?_ (fun h' hns hsb => ?_) rfl
  · show ∀ x ∈ selScope.names, x.2 ≠ .cell
    decide
  · exact locs rfl
  refine ⟨(T.nolimit.keeps F.keep).fresh _ hsb, ?_⟩
  have hsz : h'.objs.size = s.heap.objs.size + 1 := by rw [hsb.1, Heap.size_push]
  have hk1 : ∀ b o, s.heap.get? b = some o → h'.get? b = some o := fun b o e => hsb.extBut b o (Nat.ne_of_lt (Heap.lt_size e)) (Heap.get?_push_of_some _ e)
  refine wpAny_pyIter_gen (g := s.gens.size) ⟨_, _, _, Heap.get?_push_size _ rfl, rfl, rfl, rfl⟩ ?_
  dsimp only
  generalize hog : ({ cls := Value.type "generator", data := Data.fields _ } : Obj) = og
  have hfr : og.isFreed = false := by rw [← hog]; rfl
  have hgen : (h'.push og).IsGen h'.objs.size s.gens.size := by
    rw [← hog]
    exact ⟨_, _, _, Heap.get?_push_size _ rfl, rfl, rfl, rfl⟩
  have hogAt : (h'.push og).get? h'.objs.size = some og := Heap.get?_push_size _ hfr
  have hk2 : ∀ b o, s.heap.get? b = some o → (h'.push og).get? b = some o := fun b o e => Heap.get?_push_of_some _ (hk1 b o e)
  have hLgN : (h'.push og).Ns s.heap.objs.size (selMap ctx ls) := (hns : h'.Ns s.heap.objs.size (selMap ctx ls)).push og
  have hsz2 : (h'.push og).objs.size = s.heap.objs.size + 2 := by rw [Heap.size_push, hsz]
  have hrev : ∀ b o, b < s.heap.objs.size → (h'.push og).get? b = some o → s.heap.get? b = some o := fun b o hb e => by
    rw [Heap.get?_push_ne _ _ _ (by rw [hsz]; exact Nat.ne_of_lt (Nat.lt_succ_of_lt hb)), hsb.2 b (Nat.ne_of_lt hb)] at e
    exact (Heap.get?_push_ne _ _ _ (Nat.ne_of_lt hb)) ▸ e
  generalize hH : h'.push og = H at *
  rw [hsz] at *
  obtain ⟨FG, BG, st, _⟩ := groundX (A := tA dp un gd L outer) (env := tEnv L) (R := fun _ _ => True) B F N rfl rfl rfl
  have nlt : ∀ q ∈ (lf, W.listOf (List.toArray ([] : List Value)) nF) :: (ls, W.listOf (List.toArray vsS) nS) :: (dctx, odc) :: rest, q.1 < s.heap.objs.size := fun q hq => Heap.lt_size (N q hq).1
  have hLlt : L < s.heap.objs.size := F.ns.lt
  have FH : Fr h₀ L H (tMap lf ls more tm (tMap2 sel ctx mm)) := ⟨F.ns.keeps hk2, fun b o e => hk2 b o (F.keep b o e), F.above⟩
  refine told_loop (Lg := s.heap.objs.size) (gens0 := s.gens) (CD := CD s.heap.objs.size) (dctx := dctx) (ys := ys) (xs := xs) X T rfl (by show un + 64 < cLine; omega) (by show dp < recursionLimit; omega) FH (hk2 _ _ (N _ (.head _)).1) (hk2 _ _ (N _ (.tail _ (.head _))).1) hS hgen rfl ?_ ?_ hyl (by omega) hok (hmono _)
    ⟨(N _ (.head _)).2.2, (N _ (.tail _ (.head _))).2.2, (N _ (.tail _ (.tail _ (.head _)))).2.2⟩ ⟨(N _ (.tail _ (.tail _ (.head _)))).2.1, hne.2.1, hne.2.2, Nat.ne_of_lt (Nat.lt_succ_of_lt (nlt _ (.tail _ (.tail _ (.head _)))))⟩
    ⟨hLlt, nlt _ (.head _), nlt _ (.tail _ (.head _))⟩ ⟨hne.1, (N _ (.head _)).2.1, (N _ (.tail _ (.head _))).2.1⟩ ?_
  · refine ⟨rfl, ?_⟩
    have hgsz : (hideAll s.heap (((lf, W.listOf (List.toArray ([] : List Value)) nF) :: (ls, W.listOf (List.toArray vsS) nS) :: (dctx, odc) :: rest).map (·.1))).objs.size = s.heap.objs.size := hideAll_size _ _
    refine seg_start (og := og) (nn := nS) (vs := vsS) (led0 := (s.heap.objs.size + 1, og) :: (lf, W.listOf (List.toArray []) nF) :: (ls, W.listOf (List.toArray vsS) nS) :: (dctx, odc) :: rest) (X.keeps st) (T.keeps st) rfl ⟨hLgN, fun b o e => hk2 b o (of_hideAll _ e), Nat.le_of_eq hgsz⟩ ?_ ?_ (.tail _ (.tail _ (.head _))) hS (.head _) ?_ ?_ ?_ ?_ (hgpm _ _ _ BG (X.keeps st) (T.keeps st) rfl st) hys hhit (by rw [List.length_append, List.length_singleton]; omega)
    · intro q hq
      rcases List.mem_cons.mp hq with rfl | hq
      · refine ⟨hogAt, Nat.succ_ne_self _, ?_⟩
        cases e : (hideAll s.heap (((lf, W.listOf (List.toArray ([] : List Value)) nF) :: (ls, W.listOf (List.toArray vsS) nS) :: (dctx, odc) :: rest).map (·.1))).get? (s.heap.objs.size + 1) with
        | none => rfl
        | some o =>
          have := Heap.lt_size e
          rw [hgsz] at this
          exact absurd this (Nat.not_lt.mpr (Nat.le_succ _))
      · exact ⟨hk2 _ _ (N q hq).1, Nat.ne_of_lt (Heap.lt_size (N q hq).1), hideAll_none _ (List.mem_map_of_mem hq)⟩
    · intro b o hb hb2 e
      rcases Nat.lt_or_ge b s.heap.objs.size with hlt | hge
      · have e1 : s.heap.get? b = some o := hrev b o hlt e
        by_cases hm : b ∈ ((lf, W.listOf (List.toArray ([] : List Value)) nF) :: (ls, W.listOf (List.toArray vsS) nS) :: (dctx, odc) :: rest).map (·.1)
        · obtain ⟨q, hq, rfl⟩ := List.mem_map.mp hm
          have := (N q hq).1
          rw [e1] at this
          refine .inr (.tail _ ?_)
          have e3 : q = (q.1, o) := Prod.ext rfl (Option.some.inj this).symm
          rw [← e3]
          exact hq
        · exact .inl (hideAll_get _ e1 hm)
      · have hb3 : b = s.heap.objs.size + 1 := by
          have hb' : b < s.heap.objs.size + 2 := hb
          exact Nat.le_antisymm (Nat.le_of_lt_succ hb') (Nat.lt_of_le_of_ne hge (Ne.symm hb2))
        subst hb3
        rw [hogAt] at e
        cases e
        exact .inr (.head _)
    · exact Nat.ne_of_lt (Nat.lt_succ_of_lt (nlt _ (.tail _ (.tail _ (.head _)))))
    · intro hm
      simp only [List.mem_cons, List.not_mem_nil, or_false] at hm
      rcases hm with e | e | e
      · exact (N _ (.tail _ (.tail _ (.head _)))).2.1 e
      · exact hne.2.1 e
      · exact hne.2.2 e
    · intro hm
      simp only [List.mem_cons, List.not_mem_nil, or_false] at hm
      rcases hm with e | e | e
      · exact Nat.ne_of_lt hLlt e.symm
      · exact Nat.ne_of_lt (nlt _ (.head _)) e.symm
      · exact Nat.ne_of_lt (nlt _ (.tail _ (.head _))) e.symm
    · intro b hm
      simp only [List.mem_cons, List.not_mem_nil, or_false] at hm
      rcases hm with rfl | rfl | rfl
      · exact Nat.lt_succ_of_lt (Nat.lt_succ_of_lt hLlt)
      · exact Nat.lt_succ_of_lt (Nat.lt_succ_of_lt (nlt _ (.head _)))
      · exact Nat.lt_succ_of_lt (Nat.lt_succ_of_lt (nlt _ (.tail _ (.head _))))
  · rw [hys]
    obtain ⟨x, hx, hfx⟩ := hhit
    exact newFrom_pos ⟨x, List.mem_append_left _ hx, hfx⟩
  · intro h tk vsF nF u F' hl hF' hk hcd
    exact done h tk vsF nF u F' hl hF' (fun b o h1 h2 e => hk b o (Nat.lt_succ_of_lt (Nat.lt_succ_of_lt (Heap.lt_size e))) (Nat.ne_of_lt (Heap.lt_size e)) h1 h2 (hk2 b o e)) hcd
end
end Mine

/- part T4 -/
namespace Mine

section
variable {w : World} {dp un : Nat} {gd : Option (List Code)} {outer : List Env} {base g : Heap} {L Lg lf ls ctx dctx sel csel : Addr} {sq : Str} {nF nS : Nat} {vsF vsS : List Value}
    {p : Program} {loose : List Str} {mean : ExcName → Option Value} {mg mb : Str → Option Value} {f : Str → Option Str} {rest : List (Addr × Obj)} {og : Obj}
    {rt drt lam cel clam lw pm : Addr} {t1 t2 t3 tl tp : Tok} {lq : Str} {pmod ctl : Value} {oclam ocel opm : Obj} {vsl : Array Value} {vsW : List Value} {nW : Nat} {ws : List Str} {kvs : List (Str × Value)}

def CDnew (w : World) (dctx rt : Addr) (t1 : Tok) (f : Str → Option Str) (Lg : Addr) (h : Heap) : Prop :=
  ∃ t pm opm kvs, h.get? dctx = some (dictOf [dRoot w t1 rt, dPm w t pm] 2) ∧ h.get? pm = some opm ∧ opm.IsDictOf (strKind PG w) kvs ∧ PmFun kvs f ∧ (pm == sysModules) = false ∧ Lg < pm
def CDold (w : World) (dctx rt pm : Addr) (t1 tp : Tok) (opm : Obj) (h : Heap) : Prop := h.get? dctx = some (dictOf [dRoot w t1 rt, dPm w tp pm] 2) ∧ h.get? pm = some opm
theorem CDnew.mono (Lg : Addr) (h h' : Heap) (hk : ∀ b o, h.get? b = some o → h'.get? b = some o) (c : CDnew w dctx rt t1 f Lg h) : CDnew w dctx rt t1 f Lg h' := by
  obtain ⟨t, pm, opm, kvs, a, b, r⟩ := c
  exact ⟨t, pm, opm, kvs, hk _ _ a, hk _ _ b, r⟩
theorem CDold.mono (h h' : Heap) (hk : ∀ b o, h.get? b = some o → h'.get? b = some o) (c : CDold w dctx rt pm t1 tp opm h) : CDold w dctx rt pm t1 tp opm h' := ⟨hk _ _ c.1, hk _ _ c.2⟩

theorem gpmC_new (B : Below (tA dp un gd L outer) base (tEnv L :: outer) g) (X : (hd.heap_39 w.params).In g) (T : Top p loose mean mg mb g) (hC : CodeHd g 55 51) (hdp : dp + 10 < recursionLimit) (hun : un + 100 < cLine)
    (hsub : ∀ q ∈ ctxNews w ctx dctx rt drt lam cel clam lw t2 t3 lq pmod ctl oclam ocel vsW nW, q ∈ rest) (hnd : ∀ q ∈ rest, q.1 ≠ dctx) (hne : dctx ≠ lf ∧ dctx ≠ ls ∧ dctx ≠ Lg + 1) (hLL : L < Lg)
    (hcl1 : oclam.data = Data.fields vsl) (hcl2 : vsl[1]? = some (Value.str lq tl)) (hcel : ocel.data = Data.cell (some (.ref lw)))
    (hS : StrsAre vsW ws) (hlen : ws.length ≤ 100) (hw3 : ∀ u ∈ ws, (signsOf u).length ≤ 3) :
    GpmC w ((tA dp un gd L outer).in1.over (.func selBody (selEnv sq Lg sel (.ref csel))) []) g Lg (selMap ctx ls) ((Lg + 1, og) :: (lf, W.listOf (List.toArray vsF) nF) :: (ls, W.listOf (List.toArray vsS) nS) :: (dctx, dictOf [dRoot w t1 rt] 1) :: rest) ctx dctx ls L lf (pmOf ws) (CDnew w dctx rt t1 (pmOf ws) Lg) := by
  intro Q E s F N hret
  refine gpm_new (cs := selScope) (cn := sq) (cl := []) (outer := tEnv L :: outer) (news := (Lg + 1, og) :: (lf, W.listOf (List.toArray vsF) nF) :: (ls, W.listOf (List.toArray vsS) nS) :: rest) (t1 := t1) (rt := rt) (dctx := dctx) (drt := drt) (lam := lam) (cel := cel) (clam := clam) (t2 := t2) (t3 := t3) (pmod := pmod) (ctl := ctl) (nW := nW) B F X T rfl ?_ hcl1 hcl2 hcel hS hlen hw3 ?_ ?_ hC ?_ ?_ ?_
  · intro q hq
    refine N q ?_
    rcases List.mem_cons.mp hq with rfl | hq
    · exact .tail _ (.tail _ (.tail _ (.head _)))
    · rcases List.mem_append.mp hq with hq | hq
      · exact .tail _ (.tail _ (.tail _ (.tail _ (hsub q hq))))
      · rcases List.mem_cons.mp hq with rfl | hq
        · exact .head _
        rcases List.mem_cons.mp hq with rfl | hq
        · exact .tail _ (.head _)
        rcases List.mem_cons.mp hq with rfl | hq
        · exact .tail _ (.tail _ (.head _))
        · exact .tail _ (.tail _ (.tail _ (.tail _ hq)))
  · have k : ∀ q ∈ ctxNews w ctx dctx rt drt lam cel clam lw t2 t3 lq pmod ctl oclam ocel vsW nW, q.1 ≠ dctx := fun q hq => hnd q (hsub q hq)
    exact ⟨k _ (.head _), k _ (.tail _ (.head _)), k _ (.tail _ (.tail _ (.head _))), k _ (.tail _ (.tail _ (.tail _ (.head _)))), k _ (.tail _ (.tail _ (.tail _ (.tail _ (.head _))))), k _ (.tail _ (.tail _ (.tail _ (.tail _ (.tail _ (.head _)))))), k _ (.tail _ (.tail _ (.tail _ (.tail _ (.tail _ (.tail _ (.head _)))))))⟩
  · intro q hq b hb
    rw [List.mem_singleton.mp hb]
    rcases List.mem_cons.mp hq with rfl | hq
    · exact Ne.symm hne.2.2
    rcases List.mem_cons.mp hq with rfl | hq
    · exact Ne.symm hne.1
    rcases List.mem_cons.mp hq with rfl | hq
    · exact Ne.symm hne.2.1
    · exact hnd q hq
  · have hw : (Code.func selBody (selEnv sq Lg sel (Value.ref csel))).weight = 1 := rfl
    show dp + 0 + (Code.func selBody (selEnv sq Lg sel (Value.ref csel))).weight + 2 < recursionLimit
    rw [hw]; omega
  · have hw : (Code.func selBody (selEnv sq Lg sel (Value.ref csel))).cUnits = 3 := rfl
    show un + 1 + 0 + (Code.func selBody (selEnv sq Lg sel (Value.ref csel))).cUnits + 16 < cLine
    rw [hw]; omega
  · intro d o kvs t h' tk' F' N' hD hf hlo hlt
    have hLd : Lg + 1 < d := hlt (Lg + 1, og) (.tail _ (List.mem_append_right _ (.head _)))
    refine hret d o kvs _ _ h' tk' F' N' (.head _) (.tail _ (.head _)) ?_ hD hf hlo (fun h e1 e2 => ⟨t, d, o, kvs, e1, e2, hD, hf, hlo, Nat.lt_of_succ_lt hLd⟩) ?_
    · intro q hq hqd
      refine .tail _ (.tail _ (List.mem_append_right _ ?_))
      rcases List.mem_cons.mp hq with rfl | hq
      · exact .head _
      rcases List.mem_cons.mp hq with rfl | hq
      · exact .tail _ (.head _)
      rcases List.mem_cons.mp hq with rfl | hq
      · exact .tail _ (.tail _ (.head _))
      rcases List.mem_cons.mp hq with rfl | hq
      · exact absurd rfl hqd
      · exact .tail _ (.tail _ (.tail _ hq))
    · intro hm
      simp only [List.mem_cons, List.not_mem_nil, or_false] at hm
      rcases hm with e | e | e
      · exact absurd (Nat.lt_trans hLL (Nat.lt_of_succ_lt hLd)) (by rw [e]; exact Nat.lt_irrefl _)
      · have := hlt (lf, W.listOf (List.toArray vsF) nF) (.tail _ (List.mem_append_right _ (.tail _ (.head _))))
        exact absurd this (by rw [e]; exact Nat.lt_irrefl _)
      · have := hlt (ls, W.listOf (List.toArray vsS) nS) (.tail _ (List.mem_append_right _ (.tail _ (.tail _ (.head _)))))
        exact absurd this (by rw [e]; exact Nat.lt_irrefl _)

theorem gpmC_old (B : Below (tA dp un gd L outer) base (tEnv L :: outer) g) (X : (hd.heap_39 w.params).In g) (T : Top p loose mean mg mb g) (hdp : dp + 10 < recursionLimit)
    (hctx : (ctx, instObj 45 dctx) ∈ rest) (hpm : (pm, opm) ∈ rest) (hD : opm.IsDictOf (strKind PG w) kvs) (hf : PmFun kvs f) (hlo : (pm == sysModules) = false) (hpo : pm ∉ [L, lf, ls]) :
    GpmC w ((tA dp un gd L outer).in1.over (.func selBody (selEnv sq Lg sel (.ref csel))) []) g Lg (selMap ctx ls) ((Lg + 1, og) :: (lf, W.listOf (List.toArray vsF) nF) :: (ls, W.listOf (List.toArray vsS) nS) :: (dctx, dictOf [dRoot w t1 rt, dPm w tp pm] 2) :: rest) ctx dctx ls L lf f (CDold w dctx rt pm t1 tp opm) := by
  intro Q E s F N hret
  refine gpm_old (cs := selScope) (cn := sq) (cl := []) (outer := tEnv L :: outer) (t1 := t1) (t2 := tp) (rt := rt) (d := pm) (ctx := ctx) (dctx := dctx)
    (news := (Lg + 1, og) :: (lf, W.listOf (List.toArray vsF) nF) :: (ls, W.listOf (List.toArray vsS) nS) :: rest) B F X T rfl ?_ ?_ ?_
  · intro q hq
    refine N q ?_
    rcases List.mem_cons.mp hq with rfl | hq
    · exact .tail _ (.tail _ (.tail _ (.head _)))
    rcases List.mem_cons.mp hq with rfl | hq
    · exact .tail _ (.tail _ (.tail _ (.tail _ hctx)))
    rcases List.mem_cons.mp hq with rfl | hq
    · exact .head _
    rcases List.mem_cons.mp hq with rfl | hq
    · exact .tail _ (.head _)
    rcases List.mem_cons.mp hq with rfl | hq
    · exact .tail _ (.tail _ (.head _))
    · exact .tail _ (.tail _ (.tail _ (.tail _ hq)))
  · have hw : (Code.func selBody (selEnv sq Lg sel (Value.ref csel))).weight = 1 := rfl
    show dp + 0 + (Code.func selBody (selEnv sq Lg sel (Value.ref csel))).weight + 2 < recursionLimit
    rw [hw]; omega
  · intro h' tk' F' N'
    refine hret pm opm kvs _ _ h' tk' F' N' (.tail _ (.tail _ (.tail _ (.tail _ (.tail _ hpm))))) (.head _) ?_ hD hf hlo (fun h e1 e2 => ⟨e1, e2⟩) hpo
    intro q hq hqd
    refine .tail _ (.tail _ ?_)
    rcases List.mem_cons.mp hq with rfl | hq
    · exact .head _
    rcases List.mem_cons.mp hq with rfl | hq
    · exact .tail _ (.head _)
    rcases List.mem_cons.mp hq with rfl | hq
    · exact .tail _ (.tail _ (.head _))
    rcases List.mem_cons.mp hq with rfl | hq
    · exact absurd rfl hqd
    · exact .tail _ (.tail _ (.tail _ hq))
end
end Mine

/- part T5 -/
namespace Mine
local macro_rules | `(tactic| walk_at "Mstep") => `(tactic| (first | (k_unfold; (try dsimp only)) | walk1 | (dsimp only; walk1)))

abbrev tMap3 (lt : Addr) (row : Str) (tr : Tok) (mm : Str → Option Value) : Str → Option Value := fun z => if z = Str.ofString "told" then some (.ref lt) else if z = Str.ofString "row" then some (.str row tr) else mm z
theorem with_head {G : Prop} {h₀ h : Heap} {L lf : Addr} {o : Obj} {r : List (Addr × Obj)} (N : News h₀ L h ((lf, o) :: r)) (k : ∀ lf', lf' = lf → G) : G := k lf rfl
theorem fit8 {i : Int} (h0 : 0 ≤ i) (h1 : i < 8) : fitsSsize i = true := fitsSsize_of (N := 9) (by omega) (by omega) (by omega)
section
variable {w : World} {dp un : Nat} {gd : Option (List Code)} {outer : List Env} {A₀ : Around} {base h₀ : Heap} {L lt ctx dctx sel csel : Addr} {s : Shared} {E : Value → Shared → Prop} {Q : Flow → Shared → Prop} {more sq row : Str} {tm tq tr : Tok} {mm : Str → Option Value} {refs : List Value} {nt : Nat} {ys : List Str} {CD : Addr → Heap → Prop}
    {p : Program} {loose : List Str} {mean : ExcName → Option Value} {mg mb : Str → Option Value} {f : Str → Option Str} {rest : List (Addr × Obj)} {odc ocs : Obj} {vsc : Array Value} {doc pmod ct : Value}

def nextRow (ys : List Str) : Str := Txt.join (Str.ofString "") (ys.map fun a => Txt.item a 0)
theorem gnNe_mem {d : Addr} : ∀ {l : List (Addr × Obj)}, GnNe d l → ∀ p ∈ l, p.1 ≠ d
  | [], _, _, h => nomatch h
  | _ :: _, ⟨h, _⟩, _, .head _ => h
  | _ :: _, ⟨_, h⟩, p, .tail _ hp => gnNe_mem h p hp
theorem sum_items : ∀ ys : List Str, (ys.map fun a => (Txt.item a 0).length).sum = ys.length
  | [] => rfl
  | a :: r => by
    rw [List.map_cons, List.sum_cons, sum_items r, len_item, List.length_cons]; omega

theorem told_turn (B : Below A₀ base outer h₀) (X : (hd.heap_39 w.params).In h₀) (T : Top p loose mean mg mb h₀) (hdp : dp + 10 < recursionLimit) (hun : un + 100 < cLine)
    (F : Fr h₀ L s.heap (fun z => if z = Str.ofString "more" then some (.str more tm) else tMap3 lt row tr (tMap2 sel ctx mm) z))
    (N : News h₀ L s.heap ((lt, W.listOf (List.toArray refs) nt) :: (dctx, odc) :: rest))
    (hsel : (sel, selO sq doc pmod csel ct) ∈ rest) (hcs : (csel, ocs) ∈ rest) (hc1 : ocs.data = .fields vsc) (hc2 : vsc[1]? = some (.str sq tq)) (hrl : row.length ≤ 100)
    (hgpm : ∀ g Lg og lf ls nF vsS nS, Below (tA dp un gd L outer) base (tEnv L :: outer) g → (hd.heap_39 w.params).In g → Top p loose mean mg mb g → s.heap.objs.size ≤ Lg → L < Lg → h₀.StaysIn g → dctx ≠ lf → dctx ≠ ls → dctx ≠ Lg + 1 → s.heap.objs.size ≤ lf → s.heap.objs.size ≤ ls →
      GpmC w ((tA dp un gd L outer).in1.over (.func selBody (selEnv sq Lg sel (.ref csel))) []) g Lg (selMap ctx ls) ((Lg + 1, og) :: (lf, W.listOf (List.toArray []) nF) :: (ls, W.listOf (List.toArray vsS) nS) :: (dctx, odc) :: (lt, W.listOf (List.toArray refs) nt) :: rest) ctx dctx ls L lf f (CD Lg))
    (hys : ys = newFrom f [] (signsOf row ++ [more])) (hhit : ∃ x ∈ signsOf row, f x ≠ none) (hyl : ys.length ≤ 900) (hok : ∀ u ∈ ys, PyData.strOk u = true ∧ 0 < u.length) (hmono : ∀ Lg, ∀ h h' : Heap, (∀ b o, h.get? b = some o → h'.get? b = some o) → CD Lg h → CD Lg h')
    (hstab : ∀ Lg lf, ∀ h h' : Heap, s.heap.objs.size ≤ lf → lf < Lg → L < Lg → lt < Lg → (∀ b o, b ∉ [L, lt, lf] → h.get? b = some o → h'.get? b = some o) → CD Lg h → CD Lg h')
    (hld : lt ≠ dctx) (hrd : ∀ q ∈ rest, q.1 ≠ dctx ∧ q.1 ≠ lt) (hrefs : refs.length ≤ 1000) (hys3 : ∀ u ∈ ys, u.length ≤ 100)
    (done : ∀ h tk m' lf vsF nF nt' tr' Lg, Fr h₀ L h m' → m' (Str.ofString "told") = some (.ref lt) → m' (Str.ofString "row") = some (.str (nextRow ys) tr') → m' (Str.ofString "select") = some (.ref sel) → m' (Str.ofString "context") = some (.ref ctx) →
      h.get? lt = some (W.listOf (List.toArray (refs ++ [.ref lf])) nt') → h.get? lf = some (W.listOf (List.toArray vsF) nF) → StrsAre vsF ys → s.heap.objs.size < lf → lf < Lg → (∀ q ∈ rest, h.get? q.1 = some q.2) → CD Lg h → Q .next { s with heap := h, toks := tk, gens := s.gens.push .finished }) :
    wpAny (model PG w) (tA dp un gd L outer) (execs tBody (tEnv L)) Q E s := by
  have kfz : (hd.heap_39 w.params).In h₀ → Challenge.rw_nb0383_01 = Challenge.rw_nb0383_01 := by (k_fill; intro _; rfl)
  repeat ((fail_if_success (with_reducible show wpAny _ _ (storeName _ _ _) _ _ _)); walk_at "Mstep")
  rename NewPlain _ _ _ _ => hP
  rename CarriedAll _ _ => hCa
  rename Fr _ _ _ _ => F1
  rename News _ _ _ _ => N1
  rename h₀.get? s.heap.objs.size = none => hnew
  obtain ⟨nS, N2, hne1⟩ := gn_enter hP F1 N1 hnew
  have hS := CarriedAll.strsOf (f := fun x => x) hCa
  rw [List.map_id'] at hS
  clear N1
  repeat ((fail_if_success (with_reducible show wpAny _ _ (exec (Stmt.For _ _ _ _ _) _) _ _ _)); walk_at "Mstep")
  rename Fr _ _ _ _ => F3
  rename News _ _ _ _ => N3
  rename (s.heap.objs.size < _) ∧ _ => hlt
  rename Heap => h4
  rename List Value => vsS
  refine with_head N3 ?_
  intro lf hlf
  subst hlf
  have hL4 : L < h4.objs.size := F3.ns.lt
  have e1 : (fun y => if y = Str.ofString "found" then some (Value.ref lf) else if y = Str.ofString "signs" then some (Value.ref s.heap.objs.size) else if y = Str.ofString "more" then some (Value.str more tm) else tMap3 lt row tr (tMap2 sel ctx mm) y) =
      tMap lf s.heap.objs.size more tm (tMap2 sel ctx (tMap3 lt row tr mm)) := by
    funext z
    by_cases h1 : z = Str.ofString "told"
    · subst h1; rfl
    by_cases h2 : z = Str.ofString "row"
    · subst h2; rfl
    by_cases h3 : z = Str.ofString "select"
    · subst h3; rfl
    by_cases h4 : z = Str.ofString "context"
    · subst h4; rfl
    simp only [tMap, tMap2, tMap3, if_neg h1, if_neg h2, if_neg h3, if_neg h4]
  have N4 : News h₀ L h4 ((lf, W.listOf (List.toArray []) 0) :: (s.heap.objs.size, W.listOf (List.toArray vsS) nS) :: (dctx, odc) :: (lt, W.listOf (List.toArray refs) nt) :: rest) := fun q hq => N3 q (by
    rcases List.mem_cons.mp hq with rfl | hq
    · exact .head _
    rcases List.mem_cons.mp hq with rfl | hq
    · exact .tail _ (.head _)
    rcases List.mem_cons.mp hq with rfl | hq
    · exact .tail _ (.tail _ (.tail _ (.head _)))
    rcases List.mem_cons.mp hq with rfl | hq
    · exact .tail _ (.tail _ (.head _))
    · exact .tail _ (.tail _ (.tail _ (.tail _ hq))))
  rw [e1] at F3
  have hlf4 : lf < h4.objs.size := Heap.lt_size (N4 _ (.head _)).1
  have hd_ls : dctx ≠ s.heap.objs.size := hne1.2.1
  have hlt_ls : lt ≠ s.heap.objs.size := hne1.1
  refine told_for (s := { s with heap := h4, toks := _ }) (lf := lf) (ls := s.heap.objs.size) (xs := signsOf row) (ys := ys) (f := f) (CD := CD) B X T hdp hun F3 N4 hS (.tail _ hsel) (.tail _ hcs) hc1 hc2 ?_ ?_ hys hhit ?_ hyl ?_ hmono ?_
  · exact ⟨Ne.symm (Nat.ne_of_lt hlt.1), Nat.ne_of_lt hlt.2.2.1, hd_ls⟩
  · intro g Lg og B' X' T' hLg st
    subst hLg
    exact hgpm g _ og lf s.heap.objs.size 0 vsS nS B' X' T' (Nat.le_of_lt (Nat.lt_trans hlt.1 hlf4)) hL4 st (Nat.ne_of_lt hlt.2.2.1) hd_ls (Nat.ne_of_lt (Nat.lt_succ_of_lt (Nat.lt_trans hlt.2.2.1 hlf4))) (Nat.le_of_lt hlt.1) (Nat.le_refl _)
  · rw [signsOf_length]
    have : row.cps.size = row.length := rfl
    omega
  · exact fun v hv => (hok v hv).1
  intro h5 tk5 vsF nF u F5 hlf5 hF5 hk5 hcd5
  dsimp only at hk5 hcd5
  have hltL : lt ≠ L := (N4 _ (.tail _ (.tail _ (.tail _ (.head _))))).2.1
  have hlfL : lf ≠ L := (N4 _ (.head _)).2.1
  have hlt5 : h5.get? lt = some (W.listOf (List.toArray refs) nt) := hk5 _ _ hld (by
    intro hm
    simp only [List.mem_cons, List.not_mem_nil, or_false] at hm
    rcases hm with e | e | e
    · exact hltL e
    · exact Nat.ne_of_lt hlt.2.1 e
    · exact hlt_ls e) (N4 _ (.tail _ (.tail _ (.tail _ (.head _))))).1
  have hrest5 : ∀ q ∈ rest, h5.get? q.1 = some q.2 := fun q hq => hk5 _ _ (hrd q hq).1 (by
    intro hm
    simp only [List.mem_cons, List.not_mem_nil, or_false] at hm
    rcases hm with e | e | e
    · exact (N4 _ (.tail _ (.tail _ (.tail _ (.tail _ hq))))).2.1 e
    · exact Nat.ne_of_lt (allLt_mem hlt.2.2.2 q hq) e
    · exact gnNe_mem hne1 q (.tail _ (.tail _ hq)) e) (N4 _ (.tail _ (.tail _ (.tail _ (.tail _ hq))))).1
  have hlf0 : h₀.get? lf = none := (N4 _ (.head _)).2.2
  have hlt0 : h₀.get? lt = none := (N4 _ (.tail _ (.tail _ (.tail _ (.head _))))).2.2
  have hrestL : ∀ q ∈ rest, q.1 ≠ L ∧ q.1 ≠ lf := fun q hq => ⟨(N4 _ (.tail _ (.tail _ (.tail _ (.tail _ hq))))).2.1, Nat.ne_of_lt (allLt_mem hlt.2.2.2 q hq)⟩
  clear F3 N3 N4
  have N5 : News h₀ L h5 ((lt, W.listOf (List.toArray refs) nt) :: (lf, W.listOf (List.toArray vsF) nF) :: ownOf h₀ ((List.range h5.objs.size).filter fun b => !([L, lt, lf].contains b)) h5) := by
    intro q hq
    rcases List.mem_cons.mp hq with rfl | hq
    · exact ⟨hlt5, hltL, hlt0⟩
    rcases List.mem_cons.mp hq with rfl | hq
    · exact ⟨hlf5, hlfL, hlf0⟩
    · exact news_ownOf (by simp) q hq
  have hro : ∀ b o, b ∉ [L, lt, lf] → h₀.get? b = none → h5.get? b = some o → (b, o) ∈ ownOf h₀ ((List.range h5.objs.size).filter fun b => !([L, lt, lf].contains b)) h5 := fun b o hb hq e => by
    refine mem_ownOf ?_ hq e
    rw [List.mem_filter]
    refine ⟨List.mem_range.mpr (Heap.lt_size e), ?_⟩
    simpa using hb
  have hrn : ∀ q ∈ ownOf h₀ ((List.range h5.objs.size).filter fun b => !([L, lt, lf].contains b)) h5, q.1 ≠ lt := fun q hq => by
    have := ownOf_sub q hq
    simp only [List.mem_filter, List.contains_cons, List.contains_nil, Bool.or_false, Bool.not_eq_true', Bool.or_eq_false_iff, beq_eq_false_iff_ne] at this
    exact this.2.2.1
  generalize hrest : ownOf h₀ ((List.range h5.objs.size).filter fun b => !([L, lt, lf].contains b)) h5 = rest5 at N5 hro hrn
  have k50 : ∀ b o, h₀.get? b = some o → h5.get? b = some o := F5.keep
  repeat ((fail_if_success (with_reducible show wpAny _ _ (call (Value.builtin _) _) _ _ _)); walk_at "Mstep")
  refine append_K F5 N5 (.head ?_) ?_ (by rw [List.size_toArray, sizeLine_eq]; omega)
  · intro q hq
    rcases List.mem_cons.mp hq with rfl | hq
    · exact Ne.symm (Nat.ne_of_lt hlt.2.1)
    · exact hrn q hq
  intro h6 F6 N6
  clear F5 N5
  repeat ((fail_if_success (with_reducible show wpAny _ _ (subscriptTail _ _ _ _) _ _ _)); walk_at "Mstep")
  rename _ ∈ ys => hin
  refine item_str (fit8 (by decide) (by decide)) (by omega) (by have := (hok _ hin).2; omega) ?_
  intro _
  dsimp only
  walk_at "Mstep"
  rename CarriedAll _ _ => hCb
  rename Heap.IsList _ _ (List.toArray _) => hLD
  repeat ((fail_if_success (with_reducible show wpAny _ _ (call (Value.builtin _) _) _ _ _)); walk_at "Mstep")
  have hSb := CarriedAll.strsOf hCb
  have ef : (List.filter (fun _ => true) ys) = ys := List.filter_eq_self.mpr fun _ _ => rfl
  rw [ef] at hSb
  refine join_listW hLD hSb (by decide) ?_ ?_
  · rw [List.map_map]
    have := sum_items ys
    rw [List.length_map]
    have e2 : (List.map ((fun x => x.length) ∘ fun a => Txt.item a 0) ys).sum = ys.length := sum_items ys
    rw [e2]; omega
  intro tr' tk7
  walk_at "Mstep"
  rename Fr _ _ _ _ => F8
  rename News _ _ _ _ => N8
  refine wpAny_execs_nil ?_
  rename_i h8
  have keep58 : ∀ b o, b ∉ [L, lt, lf] → h5.get? b = some o → h8.get? b = some o := fun b o hb e => by
    cases hq : h₀.get? b with
    | some o' =>
      have e3 := k50 b o' hq
      rw [e] at e3
      cases e3
      exact F8.keep b o hq
    | none => exact (N8 _ (.tail _ (.tail _ (hro b o hb hq e)))).1
  refine done h8 _ _ lf vsF nF _ tr' h4.objs.size F8 rfl rfl rfl rfl (N8 _ (.head _)).1 (N8 _ (.tail _ (.head _))).1 hF5 hlt.1 hlf4 ?_ ?_
  · intro q hq
    refine keep58 _ _ ?_ (hrest5 q hq)
    intro hm
    simp only [List.mem_cons, List.not_mem_nil, or_false] at hm
    rcases hm with e | e | e
    · exact (hrestL q hq).1 e
    · exact (hrd q hq).2 e
    · exact (hrestL q hq).2 e
  · exact hstab _ lf h5 h8 (Nat.le_of_lt hlt.1) hlf4 hL4 (Nat.lt_trans hlt.2.1 hlf4) keep58 hcd5
end
end Mine

/- part T6 -/
namespace Mine
local macro_rules | `(tactic| walk_at "Mstep") => `(tactic| (first | (k_unfold; (try dsimp only)) | walk1 | (dsimp only; walk1)))

def mores : List Str := signsOf (Str.ofString "hgfedc")
def ysOf (f : Str → Option Str) (row : Str) (i : Nat) : List Str := newFrom f [] (signsOf row ++ [mores.getD i Str.empty])
def rowAt (f : Str → Option Str) (row : Str) : Nat → Str
  | 0 => row
  | i + 1 => nextRow (ysOf f (rowAt f row i) i)
def ysAt (f : Str → Option Str) (row : Str) (i : Nat) : List Str := ysOf f (rowAt f row i) i
def toldOf (f : Str → Option Str) (row : Str) : List (List Str) := (List.range 6).map (ysAt f row)

/-- what told's turns ask of the map and the row -/
structure GoodRun (f : Str → Option Str) (row : Str) : Prop where
  hit : ∀ i, i < 6 → ∃ x ∈ signsOf (rowAt f row i), f x ≠ none
  len : ∀ i, i < 6 → (rowAt f row i).length ≤ 100
  cnt : ∀ i, i < 6 → (ysAt f row i).length ≤ 900
  ok : ∀ i, i < 6 → ∀ u ∈ ysAt f row i, PyData.strOk u = true ∧ 0 < u.length ∧ u.length ≤ 100

section
variable (w : World) (f : Str → Option Str) (ctx dctx rt : Addr) (t1 : Tok) (rest : List (Addr × Obj))
/-- the context has no map yet: what its first use reads -/
def Fresh : Prop :=
  ∃ drt lam cel clam lw t2 t3 tl lq pmod ctl oclam ocel vsl vsW nW ws, (∀ q ∈ ctxNews w ctx dctx rt drt lam cel clam lw t2 t3 lq pmod ctl oclam ocel vsW nW, q ∈ rest) ∧ oclam.data = Data.fields vsl ∧ vsl[1]? = some (Value.str lq tl) ∧
    ocel.data = Data.cell (some (.ref lw)) ∧ StrsAre vsW ws ∧ ws.length ≤ 100 ∧ (∀ u ∈ ws, (signsOf u).length ≤ 3) ∧ f = pmOf ws
def CtxOld (odc : Obj) (extra : List (Addr × Obj)) : Prop :=
  ∃ t pm opm kvs, odc = dictOf [dRoot w t1 rt, dPm w t pm] 2 ∧ (pm, opm) ∈ extra ++ rest ∧ opm.IsDictOf (strKind PG w) kvs ∧ PmFun kvs f ∧ (pm == sysModules) = false
def CtxSt (odc : Obj) (extra : List (Addr × Obj)) : Prop := (odc = dictOf [dRoot w t1 rt] 1 ∧ extra = [] ∧ Fresh w f ctx dctx rt rest) ∨ CtxOld w f rt t1 rest odc extra
end

/-- the lists that came out so far lie in the ledger -/
def Founds (refs : List Value) (founds : List (Addr × Obj)) (Y : Nat → List Str) (i : Nat) : Prop :=
  refs.length = i ∧ ∀ j, j < i → ∃ a vs n, refs[j]? = some (.ref a) ∧ (a, W.listOf (List.toArray vs) n) ∈ founds ∧ StrsAre vs (Y j)
theorem Founds.nil (Y : Nat → List Str) : Founds [] [] Y 0 := ⟨rfl, fun _ h => absurd h (Nat.not_lt_zero _)⟩
theorem Founds.put {refs : List Value} {founds : List (Addr × Obj)} {Y : Nat → List Str} {i : Nat} (h : Founds refs founds Y i) {a : Addr} {vs : List Value} {n : Nat} (hS : StrsAre vs (Y i)) : Founds (refs ++ [.ref a]) ((a, W.listOf (List.toArray vs) n) :: founds) Y (i + 1) := by
  obtain ⟨h1, h2⟩ := h
  refine ⟨by simp [h1], fun j hj => ?_⟩
  rcases Nat.lt_or_ge j i with hlt | hge
  · obtain ⟨b, vs', n', e1, e2, e3⟩ := h2 j hlt
    exact ⟨b, vs', n', by rw [List.getElem?_append_left (by omega)]; exact e1, .tail _ e2, e3⟩
  · have : j = i := by omega
    subst this
    exact ⟨a, vs, n, by rw [List.getElem?_append_right (by omega)]; simp [h1], .head _, hS⟩

section
variable {w : World} {dp un : Nat} {gd : Option (List Code)} {outer : List Env} {A₀ : Around} {base h₀ : Heap} {L lt ctx dctx sel csel rt : Addr} {s : Shared} {E : Value → Shared → Prop} {Q : Flow → Shared → Prop} {sq row : Str} {tq tr t1 : Tok} {mm : Str → Option Value}
    {p : Program} {loose : List Str} {mean : ExcName → Option Value} {mg mb : Str → Option Value} {f : Str → Option Str} {rest : List (Addr × Obj)} {odc ocs : Obj} {vsc : Array Value} {doc pmod ct : Value} {m₀ : Str → Option Value} {nt : Nat} {px : Pos} {tt : Tok} {R : Result → Shared → Prop}

/-- for more in 'hgfedc': .. -/
theorem told_six (B : Below A₀ base outer h₀) (X : (hd.heap_39 w.params).In h₀) (T : Top p loose mean mg mb h₀) (hC : CodeHd h₀ 55 51) (hdp : dp + 10 < recursionLimit) (hun : un + 100 < cLine)
    (F : Fr h₀ L s.heap m₀) (hm : m₀ (Str.ofString "told") = some (.ref lt) ∧ m₀ (Str.ofString "row") = some (.str row tr) ∧ m₀ (Str.ofString "select") = some (.ref sel) ∧ m₀ (Str.ofString "context") = some (.ref ctx))
    (N : News h₀ L s.heap ((lt, W.listOf (List.toArray []) nt) :: (dctx, odc) :: rest))
    (hsel : (sel, selO sq doc pmod csel ct) ∈ rest) (hcs : (csel, ocs) ∈ rest) (hc1 : ocs.data = .fields vsc) (hc2 : vsc[1]? = some (.str sq tq)) (hctx : (ctx, instObj 45 dctx) ∈ rest)
    (hst : CtxSt w f ctx dctx rt t1 rest odc []) (hgood : GoodRun f row) (hld : lt ≠ dctx) (hrd : ∀ q ∈ rest, q.1 ≠ dctx ∧ q.1 ≠ lt) (hbare : AllBare s.gens)
    (done : ∀ h tk gn m' refs founds nt' odc' extra, Fr h₀ L h m' → m' (Str.ofString "told") = some (.ref lt) → News h₀ L h ((lt, W.listOf (List.toArray refs) nt') :: (dctx, odc') :: (founds ++ (extra ++ rest))) → Founds refs founds (ysAt f row) 6 → CtxOld w f rt t1 rest odc' extra → (∀ q ∈ founds ++ extra, ∀ r ∈ rest, r.1 < q.1) → AllBare gn → R (.ok .next) { s with heap := h, toks := tk, gens := gn }) :
    wpAny (model PG w) (tA dp un gd L outer) (pyIter (.str (Str.ofString "hgfedc") tt)) (fun it s₂ => codeAny (model PG w) (tA dp un gd L outer) (.forLoop (.Name (Str.ofString "more") px) it tBody [] (tEnv L)) R s₂) E s := by
  refine forG_str (env := tEnv L) (h₀ := h₀) (fun i m nx gn => AllBare gn ∧ (∃ tr, m (Str.ofString "told") = some (.ref lt) ∧ m (Str.ofString "row") = some (.str (rowAt f row i) tr) ∧ m (Str.ofString "select") = some (.ref sel) ∧ m (Str.ofString "context") = some (.ref ctx)) ∧
      ∃ refs founds nt' odc' extra, nx = (lt, W.listOf (List.toArray refs) nt') :: (dctx, odc') :: (founds ++ (extra ++ rest)) ∧ Founds refs founds (ysAt f row) i ∧ (i ≠ 0 → CtxOld w f rt t1 rest odc' extra) ∧ CtxSt w f ctx dctx rt t1 rest odc' extra ∧ (∀ q ∈ founds ++ (extra ++ rest), q.1 ≠ dctx ∧ q.1 ≠ lt) ∧ (∀ q ∈ founds ++ extra, ∀ r ∈ rest, r.1 < q.1))
    rfl rfl rfl F N ⟨hbare, ⟨tr, hm⟩, [], [], nt, odc, [], rfl, Founds.nil _, fun h => absurd rfl h, hst, hrd, fun _ h => nomatch h⟩ ?_ ?_
  · rintro i y t m₁ nx h tk gn I io hy hnI ⟨hb₁, ⟨tr₁, hm1, hm2, hm3, hm4⟩, refs, founds, nt', odc', extra, rfl, hfo, _, hst₁, hrd₁, hfar₁⟩ F₁ N₁
    have hi : i < 6 := by
      rcases Nat.lt_or_ge i 6 with h | h
      · exact h
      · rw [List.getElem?_eq_none (by exact h)] at hy; cases hy
    have hyi : y = mores.getD i Str.empty := by
      show y = (signsOf (Str.ofString "hgfedc")).getD i Str.empty
      rw [List.getD_eq_getElem?_getD, hy]; rfl
    have em : (fun z => if z = Str.ofString "more" then some (Value.str y t) else m₁ z) = fun z => if z = Str.ofString "more" then some (Value.str y t) else tMap3 lt (rowAt f row i) tr₁ (tMap2 sel ctx m₁) z := by
      funext z
      by_cases h0 : z = Str.ofString "more"
      · simp [h0]
      simp only [if_neg h0]
      by_cases h1 : z = Str.ofString "told"
      · subst h1; exact hm1
      by_cases h2 : z = Str.ofString "row"
      · subst h2; exact hm2
      by_cases h3 : z = Str.ofString "select"
      · subst h3; exact hm3
      by_cases h4 : z = Str.ofString "context"
      · subst h4; exact hm4
      simp only [tMap2, tMap3, if_neg h1, if_neg h2, if_neg h3, if_neg h4]
    rw [em] at F₁
    have N₂ : News h₀ L h ((lt, W.listOf (List.toArray refs) nt') :: (dctx, odc') :: ((I, io) :: (founds ++ (extra ++ rest)))) := fun q hq => N₁ q (by
      rcases List.mem_cons.mp hq with rfl | hq
      · exact .tail _ (.head _)
      rcases List.mem_cons.mp hq with rfl | hq
      · exact .tail _ (.tail _ (.head _))
      rcases List.mem_cons.mp hq with rfl | hq
      · exact .head _
      · exact .tail _ (.tail _ (.tail _ hq)))
    have hIsz : I < h.objs.size := Heap.lt_size (N₁ _ (.head _)).1
    have hltsz : lt < h.objs.size := Heap.lt_size (N₁ _ (.tail _ (.head _))).1
    have hdsz : dctx < h.objs.size := Heap.lt_size (N₁ _ (.tail _ (.tail _ (.head _)))).1
    have hLsz : L < h.objs.size := F₁.ns.lt
    have hdL : dctx ≠ L := (N₁ _ (.tail _ (.tail _ (.head _)))).2.1
    have hltL : lt ≠ L := (N₁ _ (.tail _ (.head _))).2.1
    have big0 : ∀ b, h.objs.size ≤ b → h₀.get? b = none := fun b hb => by
      cases e : h₀.get? b with
      | none => rfl
      | some o => exact absurd (Nat.lt_of_lt_of_le (Heap.lt_size e) F₁.above) (Nat.not_lt.mpr (Nat.le_trans (Nat.le_of_lt hLsz) hb))
    have hrd₂ : ∀ q ∈ (I, io) :: (founds ++ (extra ++ rest)), q.1 ≠ dctx ∧ q.1 ≠ lt := fun q hq => by
      rcases List.mem_cons.mp hq with rfl | hq
      · exact ⟨Ne.symm (hnI _ (.tail _ (.head _))), Ne.symm (hnI _ (.head _))⟩
      · exact hrd₁ q hq
    have inR : ∀ q ∈ rest, q ∈ (I, io) :: (founds ++ (extra ++ rest)) := fun q hq => .tail _ (List.mem_append_right _ (List.mem_append_right _ hq))
    -- what a turn leaves, whatever the context was
    have fin : ∀ h8 tk8 m8 lf vsF nF nt8 tr8 Lg odc8 extra8, Fr h₀ L h8 m8 → m8 (Str.ofString "told") = some (.ref lt) → m8 (Str.ofString "row") = some (.str (nextRow (ysAt f row i)) tr8) → m8 (Str.ofString "select") = some (.ref sel) → m8 (Str.ofString "context") = some (.ref ctx) →
        h8.get? lt = some (W.listOf (List.toArray (refs ++ [.ref lf])) nt8) → h8.get? lf = some (W.listOf (List.toArray vsF) nF) → StrsAre vsF (ysAt f row i) → h.objs.size < lf → lf < Lg → (∀ q ∈ (I, io) :: (founds ++ (extra ++ rest)), h8.get? q.1 = some q.2) →
        h8.get? dctx = some odc8 → CtxOld w f rt t1 rest odc8 extra8 → (∀ q ∈ extra8, q ∈ extra ∨ (h8.get? q.1 = some q.2 ∧ Lg < q.1)) →
        TurnG h₀ L (fun m nx gn => AllBare gn ∧ (∃ tr, m (Str.ofString "told") = some (.ref lt) ∧ m (Str.ofString "row") = some (.str (rowAt f row (i + 1)) tr) ∧ m (Str.ofString "select") = some (.ref sel) ∧ m (Str.ofString "context") = some (.ref ctx)) ∧
          ∃ refs founds nt' odc' extra, nx = (lt, W.listOf (List.toArray refs) nt') :: (dctx, odc') :: (founds ++ (extra ++ rest)) ∧ Founds refs founds (ysAt f row) (i + 1) ∧ (i + 1 ≠ 0 → CtxOld w f rt t1 rest odc' extra) ∧ CtxSt w f ctx dctx rt t1 rest odc' extra ∧ (∀ q ∈ founds ++ (extra ++ rest), q.1 ≠ dctx ∧ q.1 ≠ lt) ∧ (∀ q ∈ founds ++ extra, ∀ r ∈ rest, r.1 < q.1)) I io
          { s with heap := h, toks := tk, gens := gn } .next { s with heap := h8, toks := tk8, gens := gn.push .finished } := by
      intro h8 tk8 m8 lf vsF nF nt8 tr8 Lg odc8 extra8 F8 e1 e2 e3 e4 g1 g2 hS8 hlf hlfg hk8 g3 hco hex
      have hnf : ∀ q ∈ founds ++ (extra ++ rest), (h8.get? q.1 = some q.2 ∧ q.1 ≠ L ∧ h₀.get? q.1 = none) ∧ q.1 ≠ I := fun q hq =>
        ⟨⟨hk8 q (.tail _ hq), (N₁ q (.tail _ (.tail _ (.tail _ hq)))).2⟩, hnI q (.tail _ (.tail _ hq))⟩
      have hex8 : ∀ q ∈ extra8, ((h8.get? q.1 = some q.2 ∧ q.1 ≠ L ∧ h₀.get? q.1 = none) ∧ q.1 ≠ I) ∧ q.1 ≠ dctx ∧ q.1 ≠ lt := fun q hq => by
        rcases hex q hq with h1 | ⟨h1, h2⟩
        · have hm : q ∈ founds ++ (extra ++ rest) := List.mem_append_right _ (List.mem_append_left _ h1)
          exact ⟨hnf q hm, hrd₁ q hm⟩
        · have hgt : h.objs.size < q.1 := Nat.lt_trans hlf (Nat.lt_trans hlfg h2)
          exact ⟨⟨⟨h1, Ne.symm (Nat.ne_of_lt (Nat.lt_trans hLsz hgt)), big0 _ (Nat.le_of_lt hgt)⟩, Ne.symm (Nat.ne_of_lt (Nat.lt_trans hIsz hgt))⟩, Ne.symm (Nat.ne_of_lt (Nat.lt_trans hdsz hgt)), Ne.symm (Nat.ne_of_lt (Nat.lt_trans hltsz hgt))⟩
      have all8 : ∀ q ∈ (lt, W.listOf (List.toArray (refs ++ [.ref lf])) nt8) :: (dctx, odc8) :: (((lf, W.listOf (List.toArray vsF) nF) :: founds) ++ (extra8 ++ rest)), (h8.get? q.1 = some q.2 ∧ q.1 ≠ L ∧ h₀.get? q.1 = none) ∧ q.1 ≠ I := fun q hq => by
        rcases List.mem_cons.mp hq with rfl | hq
        · exact ⟨⟨g1, (N₁ _ (.tail _ (.head _))).2⟩, hnI (lt, W.listOf (List.toArray refs) nt') (.head _)⟩
        rcases List.mem_cons.mp hq with rfl | hq
        · exact ⟨⟨g3, (N₁ _ (.tail _ (.tail _ (.head _)))).2⟩, hnI (dctx, odc') (.tail _ (.head _))⟩
        rcases List.mem_append.mp hq with hq | hq
        · rcases List.mem_cons.mp hq with rfl | hq
          · exact ⟨⟨g2, Ne.symm (Nat.ne_of_lt (Nat.lt_trans hLsz hlf)), big0 _ (Nat.le_of_lt hlf)⟩, Ne.symm (Nat.ne_of_lt (Nat.lt_trans hIsz hlf))⟩
          · exact hnf q (List.mem_append_left _ hq)
        · rcases List.mem_append.mp hq with hq | hq
          · exact (hex8 q hq).1
          · exact hnf q (List.mem_append_right _ (List.mem_append_right _ hq))
      refine ⟨rfl, h8, tk8, gn.push .finished, m8, _, rfl, F8, ?_, fun q hq => (all8 q hq).2, hb₁.push rfl, ⟨tr8, e1, e2, e3, e4⟩, refs ++ [.ref lf], (lf, W.listOf (List.toArray vsF) nF) :: founds, nt8, odc8, extra8, rfl, hfo.put hS8, fun _ => hco, .inr hco, ?_, ?_⟩
      · intro q hq
        rcases List.mem_cons.mp hq with rfl | hq
        · exact ⟨hk8 _ (.head _), (N₁ _ (.head _)).2⟩
        · exact (all8 q hq).1
      · intro q hq
        rcases List.mem_append.mp hq with hq | hq
        · rcases List.mem_cons.mp hq with rfl | hq
          · exact ⟨Ne.symm (Nat.ne_of_lt (Nat.lt_trans hdsz hlf)), Ne.symm (Nat.ne_of_lt (Nat.lt_trans hltsz hlf))⟩
          · exact hrd₁ q (List.mem_append_left _ hq)
        · rcases List.mem_append.mp hq with hq | hq
          · exact (hex8 q hq).2
          · exact hrd₁ q (List.mem_append_right _ (List.mem_append_right _ hq))
      · intro q hq r hr
        have hrsz : r.1 < h.objs.size := Heap.lt_size (N₂ _ (.tail _ (.tail _ (inR r hr)))).1
        rcases List.mem_append.mp hq with hq | hq
        · rcases List.mem_cons.mp hq with rfl | hq
          · exact Nat.lt_trans hrsz hlf
          · exact hfar₁ q (List.mem_append_left _ hq) r hr
        · rcases hex q hq with h1 | ⟨_, h2⟩
          · exact hfar₁ q (List.mem_append_right _ h1) r hr
          · exact Nat.lt_trans hrsz (Nat.lt_trans hlf (Nat.lt_trans hlfg h2))
    have hys : ysAt f row i = newFrom f [] (signsOf (rowAt f row i) ++ [y]) := by rw [hyi]; rfl
    have hrefs : refs.length ≤ 1000 := by rw [hfo.1]; omega
    rcases hst₁ with ⟨rfl, rfl, drt, lam, cel, clam, lw, t2, t3, tl, lq, pmod', ctl, oclam, ocel, vsl, vsW, nW, ws, hsub, k1, k2, k3, k4, k5, k6, rfl⟩ | ⟨tp, pm, opm, kvs, rfl, hpm, hD, hf, hlo⟩
    · refine told_turn (s := { s with heap := h, toks := tk, gens := gn }) (CD := CDnew w dctx rt t1 (pmOf ws)) (ys := ysAt (pmOf ws) row i) B X T hdp hun F₁ N₂ (inR _ hsel) (inR _ hcs) hc1 hc2 (hgood.len i hi) ?_ hys (hgood.hit i hi) (hgood.cnt i hi) (fun u hu => ⟨(hgood.ok i hi u hu).1, (hgood.ok i hi u hu).2.1⟩) (fun Lg h h' => CDnew.mono Lg h h') ?_ hld hrd₂ hrefs (fun u hu => (hgood.ok i hi u hu).2.2) ?_
      · intro g Lg og lf ls nF vsS nS B' X' T' hLg hLL st hd1 hd2 hd3 _ _
        refine gpmC_new (rest := (lt, W.listOf (List.toArray refs) nt') :: ((I, io) :: (founds ++ ([] ++ rest)))) B' X' T' (CodeHd.keeps hC st) hdp hun (fun q hq => .tail _ (inR _ (hsub q hq))) ?_ ⟨hd1, hd2, hd3⟩ hLL k1 k2 k3 k4 k5 k6
        intro q hq
        rcases List.mem_cons.mp hq with rfl | hq
        · exact hld
        · exact (hrd₂ q hq).1
      · rintro Lg lf h5 h6 hlf hlg hLg hltg hk ⟨t, pm, opm, kvs, c1, c2, c3⟩
        refine ⟨t, pm, opm, kvs, hk _ _ ?_ c1, hk _ _ ?_ c2, c3⟩
        · intro hm
          simp only [List.mem_cons, List.not_mem_nil, or_false] at hm
          rcases hm with e | e | e
          · exact hdL e
          · exact hld e.symm
          · exact Nat.ne_of_lt (Nat.lt_of_lt_of_le hdsz hlf) e
        · intro hm
          have hgt := c3.2.2.2
          simp only [List.mem_cons, List.not_mem_nil, or_false] at hm
          rcases hm with e | e | e
          · exact Nat.ne_of_lt (Nat.lt_trans hLg hgt) e.symm
          · exact Nat.ne_of_lt (Nat.lt_trans hltg hgt) e.symm
          · exact Nat.ne_of_lt (Nat.lt_trans hlg hgt) e.symm
      · rintro h8 tk8 m8 lf vsF nF nt8 tr8 Lg F8 e1 e2 e3 e4 g1 g2 hS8 hlf hlfg hk8 ⟨t, pm, opm, kvs, c1, c2, c3, c4, c5, c6⟩
        exact fin h8 tk8 m8 lf vsF nF nt8 tr8 Lg _ [(pm, opm)] F8 e1 e2 e3 e4 g1 g2 hS8 hlf hlfg hk8 c1 ⟨t, pm, opm, kvs, rfl, .head _, c3, c4, c5⟩ (fun q hq => by rw [List.mem_singleton.mp hq]; exact .inr ⟨c2, c6⟩)
    · have hpmR : (pm, opm) ∈ (I, io) :: (founds ++ (extra ++ rest)) := .tail _ (List.mem_append_right _ hpm)
      have hpmsz : pm < h.objs.size := Heap.lt_size (N₂ _ (.tail _ (.tail _ hpmR))).1
      have hpmL : pm ≠ L := (N₂ _ (.tail _ (.tail _ hpmR))).2.1
      refine told_turn (s := { s with heap := h, toks := tk, gens := gn }) (CD := fun _ => CDold w dctx rt pm t1 tp opm) (f := f) (ys := ysAt f row i) B X T hdp hun F₁ N₂ (inR _ hsel) (inR _ hcs) hc1 hc2 (hgood.len i hi) ?_ hys (hgood.hit i hi) (hgood.cnt i hi) (fun u hu => ⟨(hgood.ok i hi u hu).1, (hgood.ok i hi u hu).2.1⟩) (fun Lg h h' => CDold.mono h h') ?_ hld hrd₂ hrefs (fun u hu => (hgood.ok i hi u hu).2.2) ?_
      · intro g Lg og lf ls nF vsS nS B' X' T' hLg hLL st hd1 hd2 hd3 hlf hls
        refine gpmC_old (rest := (lt, W.listOf (List.toArray refs) nt') :: ((I, io) :: (founds ++ (extra ++ rest)))) B' X' T' hdp (.tail _ (inR _ hctx)) (.tail _ hpmR) hD hf hlo ?_
        intro hm
        simp only [List.mem_cons, List.not_mem_nil, or_false] at hm
        rcases hm with e | e | e
        · exact hpmL e
        · exact Nat.ne_of_lt (Nat.lt_of_lt_of_le hpmsz hlf) e
        · exact Nat.ne_of_lt (Nat.lt_of_lt_of_le hpmsz hls) e
      · rintro Lg lf h5 h6 hlf hlg hLg hltg hk ⟨c1, c2⟩
        refine ⟨hk _ _ ?_ c1, hk _ _ ?_ c2⟩
        · intro hm
          simp only [List.mem_cons, List.not_mem_nil, or_false] at hm
          rcases hm with e | e | e
          · exact hdL e
          · exact hld e.symm
          · exact Nat.ne_of_lt (Nat.lt_of_lt_of_le hdsz hlf) e
        · intro hm
          simp only [List.mem_cons, List.not_mem_nil, or_false] at hm
          rcases hm with e | e | e
          · exact hpmL e
          · exact (hrd₂ _ hpmR).2 e
          · exact Nat.ne_of_lt (Nat.lt_of_lt_of_le hpmsz hlf) e
      · rintro h8 tk8 m8 lf vsF nF nt8 tr8 Lg F8 e1 e2 e3 e4 g1 g2 hS8 hlf hlfg hk8 ⟨c1, c2⟩
        exact fin h8 tk8 m8 lf vsF nF nt8 tr8 Lg _ extra F8 e1 e2 e3 e4 g1 g2 hS8 hlf hlfg hk8 c1 ⟨tp, pm, opm, kvs, rfl, hpm, hD, hf, hlo⟩ (fun q hq => .inl hq)
  · rintro m₁ nx h tk gn ⟨hb₁, ⟨tr₁, hm1, hm2, hm3, hm4⟩, refs, founds, nt', odc', extra, rfl, hfo, hold, _, _, hfar₁⟩ F₁ N₁
    exact done h tk gn m₁ refs founds nt' odc' extra F₁ hm1 N₁ hfo (hold (by decide +kernel)) hfar₁ hb₁
end
end Mine

/- part T7 -/
namespace Mine
local macro_rules | `(tactic| walk_at "Mstep") => `(tactic| (first | (k_unfold; (try dsimp only)) | walk1 | (dsimp only; walk1)))

theorem told_claim {w : World} {p : Program} {loose : List Str} {mean : ExcName → Option Value} {mg mb : Str → Option Value}
    {dp un : Nat} {gd : Option (List Code)} {cn : Str} {cs : Scope} {a : Addr} {ccd : Value} {cl : List (Str × Addr)} {outer : List Env} {A₀ : Around} {base h₀ : Heap} {L : Addr} {m : Str → Option Value} {s : Shared} {Q E : Value → Shared → Prop}
    {ctx dctx sel csel rt : Addr} {sq row : Str} {tq tr t1 : Tok} {f : Str → Option Str} {rest : List (Addr × Obj)} {odc ocs : Obj} {vsc : Array Value} {doc pmod ct : Value}
    (B : Below A₀ base outer h₀) (F : Fr h₀ L s.heap m) (X : (hd.heap_39 w.params).In h₀) (T : Top p loose mean mg mb h₀) (hk : cs.kind = .function) (hC : CodeHd h₀ 55 51)
    (N : News h₀ L s.heap ((dctx, odc) :: rest))
    (hsel : (sel, selO sq doc pmod csel ct) ∈ rest) (hcs : (csel, ocs) ∈ rest) (hc1 : ocs.data = .fields vsc) (hc2 : vsc[1]? = some (.str sq tq)) (hctx : (ctx, instObj 45 dctx) ∈ rest)
    (hst : CtxSt w f ctx dctx rt t1 rest odc []) (hgood : GoodRun f row) (hrd : ∀ q ∈ rest, q.1 ≠ dctx) (hbare : AllBare s.gens)
    (hdp : dp + 20 < recursionLimit) (hun : un + 200 < cLine)
    (hret : ∀ lt refs founds nt odc' extra h' tk' gn, Fr h₀ L h' m → News h₀ L h' ((lt, W.listOf (List.toArray refs) nt) :: (dctx, odc') :: (founds ++ (extra ++ rest))) → Founds refs founds (ysAt f row) 6 → CtxOld w f rt t1 rest odc' extra →
      (∀ q ∈ founds ++ extra, ∀ r ∈ rest, r.1 < q.1) → (∀ r ∈ rest, r.1 < lt) → AllBare gn → Q (.ref lt) { s with heap := h', toks := tk', gens := gn }) :
    wpAny (model Challenge.rw_nb0383_01.row.prog w) (ktrTop dp un gd cn cs L a ccd cl outer) (call (.ref 68) [.ref ctx, .ref sel, .str row tr]) Q E s := by
  revert X
  k_fill
  intro X
  refine wpAny_call ?_
  k_dflt cell_enter
  repeat ((fail_if_success (with_reducible show wpAny _ _ (exec (Stmt.For _ _ _ _ _) _) _ _ _)); walk_at "Mstep")
  rename Fr _ _ _ _ => F1
  rename News _ _ _ _ => N1
  refine wpAny_For ?_
  repeat ((fail_if_success (with_reducible show wpAny _ _ (pyIter _) _ _ _)); walk_at "Mstep")
  rename Fr h₀ L _ m => FG
  rename Below _ _ _ _ => B'
  rename (hd.heap_39 w.params).In _ => X'
  rename Top _ _ _ _ _ _ => T'
  rename _ ∧ AllLt _ _ => hlt
  refine told_six (outer := envX cn cs L a ccd cl :: outer) (tr := tr) (row := row) B' X' T' (CodeHd.keeps hC FG.keep) ?_ ?_ F1 ⟨rfl, rfl, rfl, rfl⟩ N1 hsel hcs hc1 hc2 hctx hst hgood ?_ ?_ hbare ?_
  · ktr_room
  · ktr_units
  · exact Ne.symm (Nat.ne_of_lt hlt.1)
  · exact fun q hq => ⟨hrd q hq, Nat.ne_of_lt (allLt_mem hlt.2 q hq)⟩
  intro h tk' gn m' refs founds nt' odc' extra F2 hm2 N2 hfo hco hfar hb2
  clear F1 N1
  dsimp only
  refine wpAny_execs_cons (wpAny_Return_some ?_)
  refine ld F2 hm2 ?_
  dsimp only
  k_unfold
  dsimp only
  refine leaveK_ F2 N2 ?_
  intro F3 N3
  exact hret _ refs founds nt' odc' extra _ _ gn F3 N3 hfo hco hfar (allLt_mem hlt.2) hb2
end Mine

/- part U1 -/
namespace Mine
local macro_rules | `(tactic| walk_at "Mstep") => `(tactic| (first | (k_unfold; (try dsimp only)) | walk1 | (dsimp only; walk1)))

abbrev uEnv (L : Addr) : Env := envOfC (Str.ofString "_law_due") uScope L 73 (.ref 72)
abbrev uMap (lw : Addr) (mm : Str → Option Value) : Str → Option Value := fun z => if z = Str.ofString "words" then some (.ref lw) else mm z
abbrev uA (dp un : Nat) (gd : Option (List Code)) (L : Addr) (outer : List Env) : Around := { handled := none, depth := dp, frames := some (uEnv L :: outer), guards := gd, units := un }

def holdOf (ws : List Str) (sign : Str) : List Str := ws.filter fun u => (sign != Str.ofString "") && Txt.contains u sign
def headOf (ws : List Str) (sign : Str) : Str := (holdOf ws sign).getLastD (Str.ofString "")
/-- ONE sign -/
theorem due_sign {w : World} {dp un : Nat} {gd : Option (List Code)} {outer : List Env} {E : Value → Shared → Prop} {Q : Flow → Shared → Prop} {s : Shared} {h₀ : Heap} {L lw lh : Addr} {sign : Str} {ts : Tok} {mm : Str → Option Value} {vsW vsH : List Value} {nW nH : Nat} {ws hs : List Str} {rest : List (Addr × Obj)} {o1 o2 : Obj}
    {p : Program} {loose : List Str} {mean : ExcName → Option Value} {mg mb : Str → Option Value}
    (X : (hd.heap_39 w.params).In h₀) (T : Top p loose mean mg mb h₀) (hu : un + 100 < cLine) (hdp : dp + 10 < recursionLimit)
    (F : Fr h₀ L s.heap (uMap lw mm))
    (N : News h₀ L s.heap ((L + 1, o1) :: (L + 2, o2) :: (lh, W.listOf (List.toArray vsH) nH) :: (lw, W.listOf (List.toArray vsW) nW) :: rest)) (ho1 : o1.data = .cell (some (.str sign ts))) (ho2 : o2.data = .cell (some (.ref lh))) (hne : lw ≠ lh) (hr : ∀ q ∈ rest, q.1 ≠ lh)
    (hH : StrsAre vsH hs) (hW : StrsAre vsW ws) (hlH : hs.length ≤ 1000) (hlW : ws.length ≤ 100) (hwl : ∀ u ∈ ws, u.length ≤ 3) (hok : ∀ u ∈ ws, PyData.strOk u = true)
    (hc1 : lh ≠ L + 1 ∧ lh ≠ L + 2)
    (done : ∀ D vsH' nH' h' tk', StrsAre vsH' (hs ++ [headOf ws sign]) → Fr h₀ L h' (fun z => if z = Str.ofString "holders" then some (.ref D) else uMap lw mm z) →
      News h₀ L h' ((L + 1, o1) :: (L + 2, o2) :: (lh, W.listOf (List.toArray vsH') nH') :: (lw, W.listOf (List.toArray vsW) nW) :: rest) → Q .next { s with heap := h', toks := tk' }) :
    wpAny (model Challenge.rw_nb0383_01.row.prog w) (uA dp un gd L outer) (execs uSBody (uEnv L)) Q E s := by
  have kfz : (hd.heap_39 w.params).In h₀ → Challenge.rw_nb0383_01 = Challenge.rw_nb0383_01 := by (k_fill; intro _; rfl)
  walk1
  refine Assign_ListComp_DCn (h₀ := h₀) (L := L) (m := uMap lw mm) (K := ItemKind.str) (pz := fun u => (sign != Str.ofString "") && Txt.contains u sign) (d := fun u => .str u) rfl rfl rfl rfl (by decide) rfl (by decide) rfl rfl rfl ?_ (fun _ => rfl)
  repeat ((fail_if_success (with_reducible show Exists _)); walk_at "Mstep")
  refine ⟨_, lw, vsW, ws, rfl, ?_, ?_, by size_fits, F, N, ?_, ?_, ?_⟩
  · exact News.isList N (n := nW) (d := none) (sl := #[]) (.tail _ (.tail _ (.tail _ (.head _)))) 
  · exact hW.areOf
  · intro C a v s₂ m₂ E' hC hmem hi hns hm hk
    obtain ⟨t, rfl⟩ := ItemKind.str_is hi
    have F2 := Fr.keeps F hk
    have N2 := News.grown N hk
    clear F N
    refine wpAny_tests_one ?_
    repeat ((fail_if_success (with_reducible show wpAny _ _ (truthy (Value.bool _)) _ _ _)); walk_at "Mstep")
    refine wpAny_truthy_bool ?_
    cases hb : sign != Str.ofString ""
    · rw [if_neg Bool.false_ne_true]
      exact ⟨rfl, _, _, rfl, fun _ _ e => e⟩
    · rw [if_pos rfl]
      repeat ((fail_if_success (with_reducible show wpAny _ _ (truthy (Value.bool _)) _ _ _)); walk_at "Mstep")
      refine wpAny_truthy_bool ?_
      cases hc : Txt.contains a sign
      · rw [if_neg (by rw [show (!(Builtin.Str.occurrences a sign 0 a.length 1).isEmpty) = Txt.contains a sign from rfl, hc]; exact Bool.false_ne_true)]
        exact ⟨rfl, _, _, rfl, fun _ _ e => e⟩
      · rw [if_pos (show (!(Builtin.Str.occurrences a sign 0 a.length 1).isEmpty) = true from hc)]
        exact isTrue_and_nil ⟨rfl, _, _, rfl, fun _ _ e => e⟩
  · intro C a v s₂ m₂ E' hC hmem hi hp hns hm hk
    obtain ⟨t, rfl⟩ := ItemKind.str_is hi
    have F2 := Fr.keeps F hk
    have N2 := News.grown N hk
    clear F N
    walk_at "Mstep"
    exact ⟨.str _ _, _, _, rfl, fun _ _ e => e⟩
  · intro D ys h' tk F2 N2 hD hl hp hc
    obtain ⟨⟨n, e⟩, hnp⟩ := hp
    have hDL : D ≠ L := NewPlain.ne_locals ⟨⟨n, e⟩, hnp⟩ F2
    have N3 : News h₀ L h' ((D, W.listOf (List.toArray ys) n) :: _) := fun q hq => by
      rcases List.mem_cons.mp hq with rfl | hq
      · exact ⟨e, hDL, hD⟩
      · exact N2 q hq
    have hY : StrsAre ys (holdOf ws sign) := StrsAre.ofCarried hc
    clear hl hc N2 F N
    repeat ((fail_if_success (with_reducible show wpAny _ _ (compareOp _ _ _) _ _ _)); walk_at "Mstep")
    rename Fr _ _ _ _ => F1
    rename News _ _ _ _ => N1
    rename_i l0 l1 hlt
    refine cmp_ofNotEq (ne_dataH (reads_strs (N1 _ (.tail _ (.head _))).1 hY) (reads_strs (vs := []) (N1 _ (.head _)).1 .nil) (shaped_dS fun u hu => hok u (List.mem_filter.mp hu).1) (shaped_dS fun _ h => nomatch h) (by show un + 64 < cLine; omega) ?_)
    rw [eqv_nil]
    dsimp only
    refine wpAny_truthy_bool ?_
    have hDl : D ≠ lh := Ne.symm (hnp _ (.tail _ (.tail _ (.head _))))
    by_cases hz : holdOf ws sign = []
    · rw [decide_eq_true hz]
      have hH0 : headOf ws sign = Str.ofString "" := by rw [headOf, hz]; rfl
      rw [hH0] at done
      repeat ((fail_if_success (with_reducible show wpAny _ _ (call (Value.builtin _) _) _ _ _)); walk_at "Mstep")
      refine append_K (its := List.toArray vsH) F1 N1 (.tail ?_ (.tail hDl (.tail (Ne.symm hc1.1) (.tail (Ne.symm hc1.2) (.head ?_))))) ?_ (by rw [List.size_toArray, hH.length, sizeLine_eq]; omega)
      · exact Ne.symm (Nat.ne_of_lt hlt.2.2.2.1)
      · intro q hq
        rcases List.mem_cons.mp hq with rfl | hq
        · exact hne
        · exact hr q hq
      intro h3 F3 N3
      clear F1 N1
      walk_at "Mstep"
      refine wpAny_execs_nil ?_
      rw [List.push_toArray] at N3
      exact done _ _ _ _ _ (hH.append' (.cons _ _ .nil)) F3 (fun q hq => N3 q (.tail _ (.tail _ hq)))
    · rw [decide_eq_false hz]
      repeat ((fail_if_success (with_reducible show wpAny _ _ (subscriptTail _ _ _ _) _ _ _)); walk_at "Mstep")
      dsimp only
      have hpos : 0 < (holdOf ws sign).length := List.length_pos_iff.mpr hz
      obtain ⟨t', e'⟩ := hY.get ((holdOf ws sign).length - 1) (headOf ws sign) (by rw [headOf, List.getLastD_eq_getLast?, List.getLast?_eq_getElem?, List.getElem?_eq_getElem (by omega)]; rfl)
      have hil : ({ heap := l1, gens := s.gens, drawn := s.drawn, toks := tk + 1 + 1, os := s.os } : Shared).heap.IsList D (List.toArray ys) := News.isList N1 (n := n) (d := none) (sl := #[]) (.tail _ (.head _))
      refine tail_any hil.typeIs slot_list_getitem.lookup (wpAny_getItem_list_neg (x := .str (headOf ws sign) t') hil ?_ ?_ ?_ ?_ ?_) (show subscripted _ false (Value.ref D) (Value.int (-1) (tk + 1)) = operate [.ref D, .int (-1) (tk + 1)] (getItem (.ref D) (.int (-1) (tk + 1))) from (by with_unfolding_all rfl))
      · decide
      · rw [List.size_toArray, hY.length]; omega
      · decide
      · rw [List.size_toArray, hY.length]
        have e2 : (-1 + ((holdOf ws sign).length : Int)).toNat = (holdOf ws sign).length - 1 := by omega
        rw [e2]
        simpa using e'
      · repeat ((fail_if_success (with_reducible show wpAny _ _ (call (Value.builtin _) _) _ _ _)); walk_at "Mstep")
        refine append_K (its := List.toArray vsH) F1 N1 (.tail ?_ (.tail hDl (.tail (Ne.symm hc1.1) (.tail (Ne.symm hc1.2) (.head ?_))))) ?_ (by rw [List.size_toArray, hH.length, sizeLine_eq]; omega)
        · exact Ne.symm (Nat.ne_of_lt hlt.2.2.2.1)
        · intro q hq
          rcases List.mem_cons.mp hq with rfl | hq
          · exact hne
          · exact hr q hq
        intro h3 F3 N3
        clear F1 N1
        walk_at "Mstep"
        refine wpAny_execs_nil ?_
        rw [List.push_toArray] at N3
        exact done _ _ _ _ _ (hH.append' (.cons _ _ .nil)) F3 (fun q hq => N3 q (.tail _ (.tail _ hq)))
end Mine

/- part U2 -/
namespace Mine
section
variable {prog : Program} {w : World} {A : Around} {s : Shared} {env : Env} {h₀ : Heap}
/-- forLoopG for a target that is a cell: the turn starts before the store -/
theorem forLoopC {R : Result → Shared → Prop} {x : Str} {px : Pos} {body : List Stmt} {I : Addr} {fp : List Addr} {n : Nat} {P : Nat → Value → Prop} {St : Nat → Heap → Prop} {m₀ : Str → Option Value} {news : List (Addr × Obj)}
    (fixed : List (Addr × Obj)) (J : Nat → (Str → Option Value) → List (Addr × Obj) → Array GenState → Prop)
    (W : Walks prog w A I fp [I] n P St) (hsI : ∀ i h, St i h → ∃ o, h.get? I = some o)
    (hLI : env.locals ≠ I) (hI₀ : h₀.get? I = none) (hnI : ∀ p ∈ news, p.1 ≠ I)
    (hfp : ∀ b ∈ fp, b = I ∨ ∃ o, (b, o) ∈ fixed) (hfix : ∀ i m nx gn, J i m nx gn → ∀ p ∈ fixed, p ∈ nx)
    (hst : St 0 s.heap) (F : Fr h₀ env.locals s.heap m₀) (N : News h₀ env.locals s.heap news) (hj : J 0 m₀ news s.gens)
    (turn : ∀ i v m₁ nx h tk gn io, i < n → P i v → (∀ p ∈ nx, p.1 ≠ I) → J i m₁ nx gn → Fr h₀ env.locals h m₁ → News h₀ env.locals h ((I, io) :: nx) →
      wpAny (model prog w) A (assign (.Name x px) env v) (fun _ s₂ => wpAny (model prog w) A (execs body env) (TurnG h₀ env.locals (J (i + 1)) I io { s with heap := h, toks := tk, gens := gn }) (notedBy (model prog w) A env fun e s' => R (.error e) s') s₂) (notedBy (model prog w) A env fun e s' => R (.error e) s') { s with heap := h, toks := tk, gens := gn })
    (done : ∀ m₁ nx h tk gn, J n m₁ nx gn → Fr h₀ env.locals h m₁ → News h₀ env.locals h nx → R (.ok .next) { s with heap := h, toks := tk, gens := gn }) :
    codeAny (model prog w) A (.forLoop (.Name x px) (.ref I) body [] env) R s := by
  have old : ∀ b o, h₀.get? b = some o → b ≠ I := fun b o e hb => by rw [hb, hI₀] at e; cases e
  refine codeAny_forLoop_any
    (fun k s' => ∃ h' tk gn m' nx i, s' = { s with heap := h', toks := tk, gens := gn } ∧ St i h' ∧ Fr h₀ env.locals h' m' ∧ News h₀ env.locals h' nx ∧ (∀ p ∈ nx, p.1 ≠ I) ∧ J i m' nx gn ∧ i ≤ n ∧ k = n + 1 - i) ?_ (n + 1)
    ⟨s.heap, s.toks, s.gens, m₀, news, 0, rfl, hst, F, N, hnI, hj, Nat.zero_le _, rfl⟩
  rintro k s' ⟨h', tk, gn, m', nx, i, rfl, hst', F', N', hnw', hJ, hi, rfl⟩
  have next : ∀ h₁ : Heap, (∀ b o, b ∉ [I] → h'.get? b = some o → h₁.get? b = some o) → Fr h₀ env.locals h₁ m' ∧ News h₀ env.locals h₁ nx := fun h₁ hk₁ =>
    ⟨⟨F'.ns.at' fun o e => hk₁ _ o (by simpa using hLI) e, fun b o e => hk₁ b o (by simpa using old b o e) (F'.keep b o e), F'.above⟩,
      fun p hp => ⟨hk₁ _ _ (by simpa using hnw' p hp) (N' p hp).1, (N' p hp).2⟩⟩
  by_cases hlt : i < n
  · refine W.item i _ _ _ hlt hst' fun v h₁ tk₁ hP hst₁ hk₁ => ?_
    obtain ⟨F₁, N₁⟩ := next h₁ hk₁
    refine wpAny_of_eq (rfl : letOwnedTupleGo (.Name x px) (.ref I) v = pure ()) ?_
    obtain ⟨io, hio₁⟩ := hsI _ _ hst₁
    have N₃ : News h₀ env.locals h₁ ((I, io) :: nx) := fun p hp => by
      rcases List.mem_cons.mp hp with rfl | hp
      · exact ⟨hio₁, Ne.symm hLI, hI₀⟩
      · exact N₁ p hp
    refine wpAny_mono (turn i v m' nx h₁ _ gn io hlt hP hnw' hJ F₁ N₃) (fun _ s₂ h₂ => wpAny_mono h₂ (fun f s₃ h₃ => ?_) fun _ _ e => e) fun _ _ e => e
    obtain ⟨rfl, h₄, tk₄, gn₄, m₄, nx₄, rfl, F₄, N₄, hn₄, hJ₄⟩ := h₃
    refine ⟨n + 1 - (i + 1), by omega, h₄, tk₄, gn₄, m₄, nx₄, i + 1, rfl, ?_, F₄, (fun p hp => N₄ p (.tail _ hp)), hn₄, hJ₄, hlt, rfl⟩
    refine W.frame _ _ _ hst₁ fun b hb o e => ?_
    rcases hfp b hb with rfl | ⟨o', ho'⟩
    · rw [hio₁] at e
      cases e
      exact (N₄ _ (.head _)).1
    · have e1 : h₁.get? b = some o' := (N₁ _ (hfix _ _ _ _ hJ _ ho')).1
      rw [e1] at e
      cases e
      exact (N₄ _ (.tail _ (hfix _ _ _ _ hJ₄ _ ho'))).1
  · have hin : i = n := by omega
    subst hin
    refine W.done _ _ _ hst' fun h₁ tk₁ hk₁ => wpAny_execs_nil ?_
    obtain ⟨F₁, N₁⟩ := next h₁ hk₁
    exact done m' nx h₁ tk₁ gn hJ F₁ N₁

/-- over a list of texts of the ledger, which stays -/
theorem forC_strs {R : Result → Shared → Prop} {E : Value → Shared → Prop} {x : Str} {px : Pos} {body : List Stmt} {l : Addr} {vs : List Value} {ys : List Str} {nn : Nat} {m₀ : Str → Option Value} {news : List (Addr × Obj)}
    (J : Nat → (Str → Option Value) → List (Addr × Obj) → Array GenState → Prop)
    (hh : A.handled = none) (hl : (l, W.listOf (List.toArray vs) nn) ∈ news) (hi : StrsAre vs ys)
    (F : Fr h₀ env.locals s.heap m₀) (N : News h₀ env.locals s.heap news) (hfix : ∀ i m nx gn, J i m nx gn → (l, W.listOf (List.toArray vs) nn) ∈ nx) (hj : J 0 m₀ news s.gens)
    (turn : ∀ i y t m₁ nx h tk gn I io, ys[i]? = some y → (∀ p ∈ nx, p.1 ≠ I) → J i m₁ nx gn → Fr h₀ env.locals h m₁ → News h₀ env.locals h ((I, io) :: nx) →
      wpAny (model prog w) A (assign (.Name x px) env (.str y t)) (fun _ s₂ => wpAny (model prog w) A (execs body env) (TurnG h₀ env.locals (J (i + 1)) I io { s with heap := h, toks := tk, gens := gn }) (notedBy (model prog w) A env fun e s' => R (.error e) s') s₂) (notedBy (model prog w) A env fun e s' => R (.error e) s') { s with heap := h, toks := tk, gens := gn })
    (done : ∀ m₁ nx h tk gn, J ys.length m₁ nx gn → Fr h₀ env.locals h m₁ → News h₀ env.locals h nx → R (.ok .next) { s with heap := h, toks := tk, gens := gn }) :
    wpAny (model prog w) A (pyIter (.ref l)) (fun it s₂ => codeAny (model prog w) A (.forLoop (.Name x px) it body [] env) R s₂) E s := by
  have hol : s.heap.get? l = some (W.listOf (List.toArray vs) nn) := (N _ hl).1
  have hls : s.heap.IsList l vs.toArray := ⟨_, hol, rfl, nn, rfl⟩
  have hne : l ≠ s.heap.objs.size := Nat.ne_of_lt (Heap.lt_size hol)
  refine wpAny_pyIter_list hls ?_
  have Wk := Walks.list (prog := prog) (w := w) hh s.heap.objs.size l hne vs.toArray
  have hlen : vs.toArray.size = ys.length := by simp [hi.length]
  rw [hlen] at Wk
  refine forLoopC [(l, W.listOf (List.toArray vs) nn)] J Wk ?_ ?_ (next_is_new F) ?_ ?_ ?_ ⟨⟨_, Heap.get?_push_size _ rfl, rfl, rfl⟩, hls.at fun o e => Heap.get?_push_of_some _ e⟩ (F.push _) (fun p hp => ⟨Heap.get?_push_of_some _ (N p hp).1, (N p hp).2⟩) hj ?_ done
  · rintro i h ⟨⟨o, ho, _⟩, _⟩
    exact ⟨o, ho⟩
  · exact Nat.ne_of_lt F.ns.lt
  · intro p hp
    exact Nat.ne_of_lt (Heap.lt_size (N p hp).1)
  · intro b hb
    rcases List.mem_cons.mp hb with h | h
    · exact .inl h
    · exact .inr ⟨_, by rw [List.mem_singleton.mp h]; exact .head _⟩
  · intro i m nx gn hJ p hp
    rw [List.mem_singleton.mp hp]
    exact hfix i m nx gn hJ
  · intro i v m₁ nx h tk gn io hi' hP hnI hJ F₁ N₁
    obtain ⟨t, hx'⟩ := hi.get i ys[i] (by simp [hi'])
    have hv : v = .str ys[i] t := by
      have hP' : vs[i]? = some v := by simpa using hP
      rw [hx'] at hP'; exact (Option.some.inj hP').symm
    subst hv
    exact turn i ys[i] t m₁ nx h tk gn _ io (by simp [hi']) hnI hJ F₁ N₁

end
local macro_rules | `(tactic| walk_at "Mstep") => `(tactic| (first | (k_unfold; (try dsimp only)) | walk1 | (dsimp only; walk1)))
theorem pin {m : Str → Option Value} {x : Str} {v : Value} (h : m x = some v) : m = fun z => if z = x then some v else m z := by
  funext z
  split
  · subst_vars; exact h
  · rfl
/-- the loop over the signs -/
theorem due_signs {w : World} {dp un : Nat} {gd : Option (List Code)} {outer : List Env} {E : Value → Shared → Prop} {R : Result → Shared → Prop} {s : Shared} {h₀ : Heap} {L lw lh lx : Addr} {m₀ : Str → Option Value} {px : Pos} {vsW vsX : List Value} {nW nX nH : Nat} {ws xs : List Str} {rest : List (Addr × Obj)} {o1 o2 : Obj} {c0 : Option Value}
    {p : Program} {loose : List Str} {mean : ExcName → Option Value} {mg mb : Str → Option Value}
    (X : (hd.heap_39 w.params).In h₀) (T : Top p loose mean mg mb h₀) (hu : un + 100 < cLine) (hdp : dp + 10 < recursionLimit)
    (F : Fr h₀ L s.heap m₀) (hm : m₀ (Str.ofString "words") = some (.ref lw))
    (N : News h₀ L s.heap ((L + 1, o1) :: (L + 2, o2) :: (lh, W.listOf (List.toArray []) nH) :: (lw, W.listOf (List.toArray vsW) nW) :: rest)) (ho1 : o1.data = .cell c0) (ho2 : o2.data = .cell (some (.ref lh))) (hne : lw ≠ lh) (hr : ∀ q ∈ rest, q.1 ≠ lh)
    (hc1 : lh ≠ L + 1 ∧ lh ≠ L + 2) (hc2 : lw ≠ L + 1) (hr1 : ∀ q ∈ rest, q.1 ≠ L + 1)
    (hX : (lx, W.listOf (List.toArray vsX) nX) ∈ rest) (hxs : StrsAre vsX xs)
    (hW : StrsAre vsW ws) (hlX : xs.length ≤ 900) (hlW : ws.length ≤ 100) (hwl : ∀ u ∈ ws, u.length ≤ 3) (hok : ∀ u ∈ ws, PyData.strOk u = true)
    (done : ∀ m₁ o1' c1 vsH nH h' tk', StrsAre vsH (xs.map (headOf ws)) → o1'.data = .cell c1 → (∀ z, z ≠ Str.ofString "holders" → m₁ z = m₀ z) → Fr h₀ L h' m₁ →
      News h₀ L h' ((L + 1, o1') :: (L + 2, o2) :: (lh, W.listOf (List.toArray vsH) nH) :: (lw, W.listOf (List.toArray vsW) nW) :: rest) → R (.ok .next) { s with heap := h', toks := tk' }) :
    wpAny (model Challenge.rw_nb0383_01.row.prog w) (uA dp un gd L outer) (pyIter (.ref lx)) (fun it s₂ => codeAny (model Challenge.rw_nb0383_01.row.prog w) (uA dp un gd L outer) (.forLoop (.Name (Str.ofString "sign") px) it uSBody [] (uEnv L)) R s₂) E s := by
  refine forC_strs (env := uEnv L) (fun i m nx gn => gn = s.gens ∧ (∀ z, z ≠ Str.ofString "holders" → m z = m₀ z) ∧ ∃ o1' c1 vsH nH, nx = ((L + 1, o1') :: (L + 2, o2) :: (lh, W.listOf (List.toArray vsH) nH) :: (lw, W.listOf (List.toArray vsW) nW) :: rest) ∧ o1'.data = .cell c1 ∧ StrsAre vsH ((xs.take i).map (headOf ws)))
    rfl (.tail _ (.tail _ (.tail _ (.tail _ hX)))) hxs F N ?_ ⟨rfl, fun _ _ => rfl, _, _, _, _, rfl, ho1, .nil⟩ ?_ ?_
  · rintro i m nx gn ⟨_, _, o1', c1, vsH, nH', rfl, _, _⟩
    exact .tail _ (.tail _ (.tail _ (.tail _ hX)))
  · rintro i y t m₁ nx h tk gn I io hy hI ⟨rfl, hmm, o1', c1, vsH, nH', rfl, hd', hH⟩ F1 N1
    have hwm : m₁ (Str.ofString "words") = some (.ref lw) := (hmm _ (by decide)).trans hm
    refine wpAny_assign_Name ?_
    refine storeX_C F1 N1 (c := L + 1) (o := o1') rfl (.tail (hI _ (.head _)).symm (.head ?_)) hd' ?_
    · intro q hq
      rcases List.mem_cons.mp hq with rfl | hq
      · exact Nat.succ_ne_self (L + 1)
      rcases List.mem_cons.mp hq with rfl | hq
      · exact hc1.1
      rcases List.mem_cons.mp hq with rfl | hq
      · exact hc2
      exact hr1 q hq
    · intro h2 o2' F2 N2 hd2
      dsimp only
      have hil : i < xs.length := (List.getElem?_eq_some_iff.mp hy).1
      rw [pin hwm] at F2
      refine due_sign (mm := m₁) (rest := (I, io) :: rest) (nH := nH') (nW := nW) (o1 := o2') (o2 := o2) (sign := y) (ts := t) (hs := (xs.take i).map (headOf ws)) X T hu hdp F2 ?_ hd2 ho2 hne ?_ hH hW ?_ hlW hwl hok hc1 ?_
      · intro q hq
        refine N2 q ?_
        simp only [List.mem_cons] at hq ⊢
        rcases hq with h | h | h | h | h | h <;> simp only [h, true_or, or_true]
      · intro q hq
        rcases List.mem_cons.mp hq with rfl | hq
        · exact Ne.symm (hI _ (.tail _ (.tail _ (.head _))))
        · exact hr q hq
      · rw [List.length_map, List.length_take]; omega
      · intro D vsH' nH' h' tk' hH' F3 N3
        refine ⟨rfl, h', tk', s.gens, _, ((L + 1, o2') :: (L + 2, o2) :: (lh, W.listOf (List.toArray vsH') nH') :: (lw, W.listOf (List.toArray vsW) nW) :: rest), rfl, F3, ?_, ?_, rfl, ?_, _, _, _, _, rfl, hd2, ?_⟩
        · intro q hq
          refine N3 q ?_
          simp only [List.mem_cons] at hq ⊢
          rcases hq with h | h | h | h | h | h <;> simp only [h, true_or, or_true]
        · intro q hq
          rcases List.mem_cons.mp hq with rfl | hq
          · exact hI (L + 1, o1') (.head _)
          rcases List.mem_cons.mp hq with rfl | hq
          · exact hI _ (.tail _ (.head _))
          rcases List.mem_cons.mp hq with rfl | hq
          · exact hI (lh, W.listOf (List.toArray vsH) _) (.tail _ (.tail _ (.head _)))
          exact hI _ (.tail _ (.tail _ (.tail _ hq)))
        · intro z hz
          show (if z = Str.ofString "holders" then some (Value.ref D) else uMap lw m₁ z) = _
          rw [if_neg hz]
          exact (congrFun (pin hwm) z).symm.trans (hmm z hz)
        · rw [List.take_add_one, hy, List.map_append]
          exact hH'
  · rintro m₁ nx h tk gn ⟨rfl, hmm, o1', c1, vsH, nH', rfl, hd', hH⟩ F1 N1
    rw [List.take_length] at hH
    exact done _ _ _ _ _ _ _ hH hd' hmm F1 N1
end Mine

/- part U3 -/
namespace Mine
local macro_rules | `(tactic| walk_at "Mstep") => `(tactic| (first | (k_unfold; (try dsimp only)) | walk1 | (dsimp only; walk1)))
abbrev uM2 (lw ld le : Addr) (more : Str) (tm : Tok) (mm : Str → Option Value) : Str → Option Value := fun z => if z = Str.ofString "words" then some (.ref lw) else if z = Str.ofString "due" then some (.ref ld) else if z = Str.ofString "ends" then some (.ref le) else if z = Str.ofString "more" then some (.str more tm) else mm z

theorem range_mem {a : Int} {n : Nat} (h : a ∈ rangeInts 0 1 n) : 0 ≤ a ∧ a < (n : Int) := by
  obtain ⟨i, hi⟩ := List.getElem?_of_mem h
  have hl := (List.getElem?_eq_some_iff.mp hi).1
  rw [rangeInts_length] at hl
  rw [rangeInts_get hl] at hi
  have := Option.some.inj hi
  omega
def keptAt (hs : List Str) (a : Int) : Bool := (hs.getD a.toNat Str.empty != Str.ofString "") && !((hs.take a.toNat).any (· == hs.getD a.toNat Str.empty))
def dueOf (hs : List Str) : List Str := ((rangeInts 0 1 hs.length).filter (keptAt hs)).map (fun a => hs.getD a.toNat Str.empty)
theorem strs_take : ∀ {vs : List Value} {ns : List Str}, StrsAre vs ns → ∀ k : Nat, StrsAre (vs.take k) (ns.take k)
  | _, _, _, 0 => .nil
  | _, _, .nil, _ + 1 => .nil
  | _, _, .cons _ _ h, k + 1 => .cons _ _ (strs_take h k)
theorem strs_upto {vs : List Value} {ns : List Str} {y : Int} (hi' : StrsAre vs ns) (h : 0 ≤ y) : StrsAre (slicePick vs.toArray none (some y) none).toList (ns.take y.toNat) := by
  have e : sliceBounds none (some y) none vs.toArray.size = (((0 : Nat) : Int), ((min y.toNat vs.toArray.size : Nat) : Int), 1) := by
    simp only [sliceBounds, Option.getD_none, show (1 : Int) > 0 by decide, if_true, if_neg (show ¬ (y < 0) by omega)]
    congr 1
    congr 1
    omega
  rw [kmk_pick_nat _ e]
  show StrsAre ((vs.drop 0).take (min y.toNat vs.toArray.size - 0)) _
  rw [List.drop_zero, Nat.sub_zero, List.size_toArray, kmk_take_min]
  exact strs_take hi' _
theorem slice_keep {prog : Program} {w : World} {A : Around} {E : Value → Shared → Prop} {s : Shared} {x : Str} {t : Tok} {value slice : Expr} {Q : Value → Shared → Prop} {j : Int} {uj : Tok}
    (h : ∀ h' t' k, (∀ b o, s.heap.get? b = some o → h'.get? b = some o) → Q (.str (Txt.slice x none (some j)) t') { s with heap := h', toks := k })
    (hs : subscripted slice false (.str x t) (.ref s.heap.objs.size) = operate [.ref s.heap.objs.size, .str x t] (getItem (.str x t) (.ref s.heap.objs.size)))
    (ht : ∀ r, letTemporaryGo value (.str x t) r = pure ()) (hsz : x.length ≤ sizeLine) :
    wpAny (model prog w) A (subscriptTail value slice (.str x t) (.ref s.heap.objs.size)) Q E { s with heap := s.heap.push { cls := .type "slice", data := .fields #[.none, .int j uj, .none] } } :=
  tail_of_ItemOn (SBH.sliceItem_ns (P := fun h' => ∀ b o, s.heap.get? b = some o → h'.get? b = some o) (fun _ _ p b o e => Heap.get?_push_of_some _ (p b o e)) (fun _ _ e => e) h hsz) hs ht
theorem headOf_len {ws : List Str} {x : Str} (h : ∀ u ∈ ws, u.length ≤ 3) : (headOf ws x).length ≤ 3 := by
  unfold headOf
  cases e : (holdOf ws x).getLast? with
  | none => rw [List.getLastD_eq_getLast?, e]; decide
  | some y =>
    rw [List.getLastD_eq_getLast?, e]
    exact h y (List.mem_filter.mp (List.mem_of_getLast? e)).1
def headsOf (ws es : List Str) (more : Str) : List Str := (es ++ [more]).map (headOf ws)
def endsOf (ws es : List Str) (more : Str) : List Str := (headsOf ws es more).map fun u => Txt.slice u none (some 1)
theorem due_turn {w : World} {dp un : Nat} {gd : Option (List Code)} {outer : List Env} {E : Value → Shared → Prop} {Q : Flow → Shared → Prop} {s : Shared} {h₀ : Heap} {L lw ld le : Addr} {more : Str} {tm : Tok} {mm : Str → Option Value} {vsW vsE refs : List Value} {nW nE nd : Nat} {ws es : List Str} {rest : List (Addr × Obj)} {o1 o2 : Obj} {c1 c2 : Option Value}
    {p : Program} {loose : List Str} {mean : ExcName → Option Value} {mg mb : Str → Option Value}
    (X : (hd.heap_39 w.params).In h₀) (T : Top p loose mean mg mb h₀) (hu : un + 100 < cLine) (hdp : dp + 10 < recursionLimit)
    (F : Fr h₀ L s.heap (uM2 lw ld le more tm mm))
    (N : News h₀ L s.heap ((L + 1, o1) :: (L + 2, o2) :: (le, W.listOf (List.toArray vsE) nE) :: (ld, W.listOf (List.toArray refs) nd) :: (lw, W.listOf (List.toArray vsW) nW) :: rest)) (ho1 : o1.data = .cell c1) (ho2 : o2.data = .cell c2)
    (hW : StrsAre vsW ws) (hE : StrsAre vsE es) (hlE : es.length ≤ 800) (hlW : ws.length ≤ 100) (hwl : ∀ u ∈ ws, u.length ≤ 3) (hok : ∀ u ∈ ws, PyData.strOk u = true)
    (n1 : ∀ q ∈ (le, W.listOf (List.toArray vsE) nE) :: (ld, W.listOf (List.toArray refs) nd) :: (lw, W.listOf (List.toArray vsW) nW) :: rest, q.1 ≠ L + 1 ∧ q.1 ≠ L + 2)
    (nd1 : le ≠ ld ∧ lw ≠ ld ∧ ∀ q ∈ rest, q.1 ≠ ld) (hlR : refs.length ≤ 10)
    (done : ∀ D D2 n7 n2 nd' ys vsE' o1' o2' c1' c2' m' h' tk', StrsAre ys (dueOf (headsOf ws es more)) → StrsAre vsE' (endsOf ws es more) → o1'.data = .cell c1' → o2'.data = .cell c2' → (∀ z, z ≠ Str.ofString "holders" → z ≠ Str.ofString "ends" → m' z = uM2 lw ld le more tm mm z) → m' (Str.ofString "ends") = some (.ref D2) → Fr h₀ L h' m' →
      News h₀ L h' ((L + 1, o1') :: (L + 2, o2') :: (D2, W.listOf (List.toArray vsE') n2) :: (ld, W.listOf (List.toArray (refs ++ [.ref D])) nd') :: (lw, W.listOf (List.toArray vsW) nW) :: (D, W.listOf (List.toArray ys) n7) :: rest) →
      (∀ q ∈ (L + 1, o1) :: (L + 2, o2) :: (le, W.listOf (List.toArray vsE) nE) :: (ld, W.listOf (List.toArray refs) nd) :: (lw, W.listOf (List.toArray vsW) nW) :: rest, q.1 ≠ D ∧ q.1 ≠ D2) → D ≠ D2 → Q .next { s with heap := h', toks := tk' }) :
    wpAny (model Challenge.rw_nb0383_01.row.prog w) (uA dp un gd L outer) (execs uBody (uEnv L)) Q E s := by
  have kfz : (hd.heap_39 w.params).In h₀ → Challenge.rw_nb0383_01 = Challenge.rw_nb0383_01 := by (k_fill; intro _; rfl)
  repeat ((fail_if_success (with_reducible show wpAny _ _ (storeName _ _ _) _ _ _)); walk_at "Mstep")
  rename Fr _ _ _ _ => F1
  rename News _ _ _ _ => N1
  rename_i lh h1 hlt
  refine storeX_C F1 N1 (c := L + 2) (o := o2) rfl (.tail (Ne.symm (Nat.ne_of_lt hlt.2.1)) (.tail (Nat.ne_of_lt (Nat.lt_succ_self _)) (.head ?_))) ho2 ?_
  · intro q hq
    exact (n1 q hq).2
  intro h2 o2' F2 N2 hd2
  dsimp only
  clear F1 N1
  walk_at "Mstep"
  refine wpAny_For ?_
  repeat ((fail_if_success (with_reducible show wpAny _ _ (binaryOp _ _ _) _ _ _)); walk_at "Mstep")
  dsimp only
  rename Fr _ _ _ _ => F3
  rename News _ _ _ _ => N3
  rename_i l1 h3 hlt3
  refine add_lists F3 N3 (News.isList N3 (n := nE) (d := none) (sl := #[]) (.tail _ (.tail _ (.tail _ (.tail _ (.head _)))))) (News.isList (items := List.toArray [Value.str more tm]) N3 (n := 0) (d := none) (sl := #[]) (.head _)) ?_ (by rw [hE.length, sizeLine_eq]; simp only [List.length_singleton]; omega)
  intro h4 F4 N4
  have hlt4 : ∀ q ∈ (l1, W.listOf (List.toArray [Value.str more tm]) 0) :: (lh, W.listOf (List.toArray []) 0) :: (L + 1, o1) :: (L + 2, o2') :: (le, W.listOf (List.toArray vsE) nE) :: (ld, W.listOf (List.toArray refs) nd) :: (lw, W.listOf (List.toArray vsW) nW) :: rest, q.1 < h3.objs.size := fun q hq => Heap.lt_size (N3 q hq).1
  generalize h3.objs.size = lx at *
  clear F3
  have hxs : StrsAre (vsE ++ [Value.str more tm]) (es ++ [more]) := hE.append' (.cons _ _ .nil)
  refine due_signs (nH := 0) (lh := lh) (lw := lw) (o1 := o1) (o2 := o2') (vsX := vsE ++ [Value.str more tm]) (nX := 0) (vsW := vsW) (nW := nW) (ws := ws) (xs := es ++ [more]) (rest := (lx, W.listOf (List.toArray (vsE ++ [Value.str more tm])) 0) :: (l1, W.listOf (List.toArray [Value.str more tm]) 0) :: (le, W.listOf (List.toArray vsE) nE) :: (ld, W.listOf (List.toArray refs) nd) :: rest) X T hu hdp F4 rfl ?_ ho1 hd2 ?_ ?_ ?_ ?_ ?_ (.head _) hxs hW ?_ hlW hwl hok ?_
  · intro q hq
    refine N4 q ?_
    simp only [List.mem_cons] at hq ⊢
    rcases hq with h | h | h | h | h | h | h | h | h <;> simp only [h, true_or, or_true]
  · exact Nat.ne_of_lt hlt.2.2.2.2.1
  · intro q hq
    rcases List.mem_cons.mp hq with rfl | hq
    · exact Ne.symm (Nat.ne_of_lt (hlt4 (lh, _) (.tail _ (.head _))))
    rcases List.mem_cons.mp hq with rfl | hq
    · exact Ne.symm (Nat.ne_of_lt hlt3.1)
    rcases List.mem_cons.mp hq with rfl | hq
    · exact Nat.ne_of_lt hlt.2.2.1
    rcases List.mem_cons.mp hq with rfl | hq
    · exact Nat.ne_of_lt hlt.2.2.2.1
    · exact Nat.ne_of_lt (allLt_mem hlt.2.2.2.2.2 q hq)
  · exact ⟨Ne.symm (Nat.ne_of_lt hlt.1), Ne.symm (Nat.ne_of_lt hlt.2.1)⟩
  · exact (n1 (lw, _) (.tail _ (.tail _ (.head _)))).1
  · intro q hq
    rcases List.mem_cons.mp hq with rfl | hq
    · exact Ne.symm (Nat.ne_of_lt (hlt4 (L + 1, _) (.tail _ (.tail _ (.head _)))))
    rcases List.mem_cons.mp hq with rfl | hq
    · exact Ne.symm (Nat.ne_of_lt hlt3.2.1)
    rcases List.mem_cons.mp hq with rfl | hq
    · exact (n1 _ (.head _)).1
    rcases List.mem_cons.mp hq with rfl | hq
    · exact (n1 _ (.tail _ (.head _))).1
    · exact (n1 _ (.tail _ (.tail _ (.tail _ hq)))).1
  · rw [List.length_append, List.length_singleton]; omega
  · intro m₁ o1' c1' vsH nH h5 tk5 hH hd5 hmm F5 N5
    have e1 : m₁ = uM2 lw ld le more tm m₁ := by
      have a1 : m₁ (Str.ofString "words") = some (.ref lw) := hmm _ (by decide)
      have a2 : m₁ (Str.ofString "due") = some (.ref ld) := hmm _ (by decide)
      have a3 : m₁ (Str.ofString "ends") = some (.ref le) := hmm _ (by decide)
      have a4 : m₁ (Str.ofString "more") = some (.str more tm) := hmm _ (by decide)
      funext z
      unfold uM2
      split
      · subst_vars; exact a1
      split
      · subst_vars; exact a2
      split
      · subst_vars; exact a3
      split
      · subst_vars; exact a4
      rfl
    rw [e1] at F5
    have hhs0 : (es ++ [more]).map (headOf ws) = headsOf ws es more := rfl
    rw [hhs0] at hH
    generalize hhs : headsOf ws es more = hs at *
    dsimp only
    clear N4 F4 N3
    repeat ((fail_if_success (with_reducible show wpAny _ _ (eval (Expr.ListComp _ _ _ _) _) _ _ _)); walk_at "Mstep")
    refine ListComp_DCr (h₀ := h₀) (L := L) (m := uM2 lw ld le more tm m₁) (pz := keptAt hs) (d := fun a => .str (hs.getD a.toNat Str.empty)) rfl rfl (by decide) rfl (by decide) rfl ?_ (fun _ => rfl)
    repeat ((fail_if_success (with_reducible show wpAny _ _ (call (Value.builtin _) _) _ _ _)); walk_at "Mstep")
    have hlen : hs.length ≤ 801 := by rw [← hhs, headsOf, List.length_map, List.length_append, List.length_singleton]; omega
    refine PySem.Calls.call_len_list (News.isList N5 (n := nH) (d := none) (sl := #[]) (.tail _ (.tail _ (.head _)))) (by rw [List.size_toArray, hH.length]; omega) ?_
    rw [List.size_toArray, hH.length]
    dsimp only
    have hcs : (0:Int) ≤ (hs.length : Int) ∧ (hs.length : Int) ≤ 801 := by omega
    repeat ((fail_if_success (with_reducible show Exists _)); walk_at "Mstep")
    rename Fr _ _ _ _ => F6
    rename News _ _ _ _ => N6
    rename IsRange _ _ _ _ _ _ _ _ => hR
    rename_i h6 tk6 _ _ _ hk6
    refine ⟨_, _, _, _, _, _, _, _, hs.length, rfl, hR, small_one (by omega) (by omega) (by omega) (by omega), ?_, ?_, F6, N6, ?_, ?_, ?_⟩
    · unfold Builtin.Range.rangeSize; split <;> omega
    · rw [sizeLine_eq]; omega
    · intro C a v s₂ m₂ E' hC hmem hi hns hm hk
      obtain ⟨t, rfl⟩ := ItemKind.int_is hi
      have F7 := Fr.keeps F6 hk
      have N7 := News.grown N6 hk
      clear F6 N6
      refine wpAny_tests_one ?_
      obtain ⟨hr0, hr1⟩ := range_mem hmem
      repeat ((fail_if_success (with_reducible show wpAny _ _ (subscriptTail _ _ _ _) _ _ _)); walk_at "Mstep")
      refine KTb.item_list (News.isList N7 (n := nH) (d := none) (sl := #[]) (.tail _ (.tail _ (.head _)))) hH hr0 hr1 (by omega) ?_
      intro t1 hin
      repeat ((fail_if_success (with_reducible show wpAny _ _ (truthy (Value.bool _)) _ _ _)); walk_at "Mstep")
      refine wpAny_truthy_bool ?_
      cases hb : hs.getD a.toNat Str.empty != Str.ofString ""
      · rw [if_neg Bool.false_ne_true]
        refine ⟨?_, _, _, rfl, fun _ _ e => e⟩
        rw [keptAt, hb]; rfl
      · rw [if_pos rfl]
        repeat ((fail_if_success (with_reducible show wpAny _ _ (subscriptTail _ _ _ _) _ _ _)); walk_at "Mstep")
        refine KTb.item_list (News.isList N7 (n := nH) (d := none) (sl := #[]) (.tail _ (.tail _ (.head _)))) hH hr0 hr1 (by omega) ?_
        intro t2 hin
        repeat ((fail_if_success (with_reducible show wpAny _ _ (subscriptTail _ _ _ _) _ _ _)); walk_at "Mstep")
        refine slice_listK (News.isList N7 (n := nH) (d := none) (sl := #[]) (.tail _ (.tail _ (.head _)))) .none (.int _ _) ?_ (by with_unfolding_all rfl) (by intro _; with_unfolding_all rfl) (by rw [List.size_toArray, hH.length, sizeLine_eq]; omega)
        dsimp only
        have hup := strs_upto hH hr0
        refine notin_list_strs (vs := (slicePick (List.toArray vsH) none (some a) none).toList) ⟨_, by rw [← Heap.size_push (s₂.heap) { cls := .type "slice", data := .fields #[.none, .int a t, .none] }]; exact Heap.get?_push_size _ rfl, rfl, _, rfl⟩ hup ?_
        refine wpAny_truthy_bool ?_
        have hkk : ∀ b o, s₂.heap.get? b = some o → ((s₂.heap.push { cls := Value.type "slice", data := Data.fields #[Value.none, Value.int a t, Value.none] }).push { cls := Value.type "list", data := Data.seq (slicePick (List.toArray vsH) none (some a) none) }).get? b = some o := fun b o e => Heap.get?_push_of_some _ (Heap.get?_push_of_some _ e)
        cases hc : !((hs.take a.toNat).any (· == hs.getD a.toNat Str.empty))
        · rw [if_neg Bool.false_ne_true]
          exact ⟨by rw [keptAt, hb, hc]; rfl, _, _, rfl, hkk⟩
        · rw [if_pos rfl]
          exact isTrue_and_nil ⟨by rw [keptAt, hb, hc]; rfl, _, _, rfl, hkk⟩
    · intro C a v s₂ m₂ E' hC hmem hi hp hns hm hk
      obtain ⟨t, rfl⟩ := ItemKind.int_is hi
      have F7 := Fr.keeps F6 hk
      have N7 := News.grown N6 hk
      clear F6 N6
      obtain ⟨hr0, hr1⟩ := range_mem hmem
      repeat ((fail_if_success (with_reducible show wpAny _ _ (subscriptTail _ _ _ _) _ _ _)); walk_at "Mstep")
      refine KTb.item_list (News.isList N7 (n := nH) (d := none) (sl := #[]) (.tail _ (.tail _ (.head _)))) hH hr0 hr1 (by omega) ?_
      intro t1 hin
      exact ⟨.str _ _, _, _, rfl, fun _ _ e => e⟩
    · intro D ys h' tk F7 N7 hD hl hp hc
      obtain ⟨⟨n7, e7⟩, hnp⟩ := hp
      have hDL : D ≠ L := NewPlain.ne_locals ⟨⟨n7, e7⟩, hnp⟩ F7
      have N8 : News h₀ L h' ((D, W.listOf (List.toArray ys) n7) :: _) := fun q hq => by
        rcases List.mem_cons.mp hq with rfl | hq
        · exact ⟨e7, hDL, hD⟩
        · exact N7 q hq
      have hY : StrsAre ys (dueOf hs) := StrsAre.ofCarried (by rw [dueOf, List.map_map]; exact hc)
      clear hl hc N7 F6 N6 hR
      dsimp only
      repeat ((fail_if_success (with_reducible show wpAny _ _ (call (Value.builtin _) _) _ _ _)); walk_at "Mstep")
      refine append_K (its := List.toArray refs) F7 N8 (.tail ?_ (.tail ?_ (.tail ?_ (.tail ?_ (.tail ?_ (.tail ?_ (.tail ?_ (.tail ?_ (.head ?_))))))))) ?_ ?_
      · exact Ne.symm (hnp (ld, _) (.tail _ (.tail _ (.tail _ (.tail _ (.tail _ (.tail _ (.tail _ (.head _)))))))))
      · exact Ne.symm (n1 (ld, _) (.tail _ (.head _))).1
      · exact Ne.symm (n1 (ld, _) (.tail _ (.head _))).2
      · exact Ne.symm (Nat.ne_of_lt hlt.2.2.2.1)
      · exact nd1.2.1
      · exact Ne.symm (Nat.ne_of_lt (hlt4 (ld, _) (.tail _ (.tail _ (.tail _ (.tail _ (.tail _ (.head _))))))))
      · exact Ne.symm (Nat.ne_of_lt hlt3.2.2.2.2.1)
      · exact nd1.1
      · exact nd1.2.2
      · intro h9 F9 N9
        dsimp only
        clear F7 N8
        walk_at "Mstep"
        refine Assign_ListComp_DCn (h₀ := h₀) (L := L) (m := uM2 lw ld le more tm m₁) (K := ItemKind.str) (pz := fun u => true) (d := fun u => .str (Txt.slice u none (some 1))) rfl rfl rfl rfl (by decide) rfl (by decide) rfl rfl rfl ?_ (fun _ => rfl)
        repeat ((fail_if_success (with_reducible show Exists _)); walk_at "Mstep")
        refine ⟨_, lh, vsH, hs, rfl, News.isList N9 (n := nH) (d := none) (sl := #[]) (.tail _ (.tail _ (.tail _ (.head _)))), hH.areOf, by rw [sizeLine_eq]; omega, F9, N9, ?_, ?_, ?_⟩
        · intro C a v s₂ m₂ E' hC hmem hi hns hm hk
          exact wpAny_pure (a := true) ⟨rfl, _, _, rfl, fun _ _ e => e⟩
        · intro C a v s₂ m₂ E' hC hmem hi hp hns hm hk
          obtain ⟨t, rfl⟩ := ItemKind.str_is hi
          have F10 := Fr.keeps F9 hk
          have N10 := News.grown N9 hk
          clear F9 N9
          repeat ((fail_if_success (with_reducible show wpAny _ _ (subscriptTail _ _ _ _) _ _ _)); walk_at "Mstep")
          refine slice_keep ?_ (by with_unfolding_all rfl) (by intro _; with_unfolding_all rfl) ?_
          · intro h' t' k hkk
            exact ⟨.str _ _, _, _, rfl, hkk⟩
          · have : a ∈ headsOf ws es more := by rw [hhs]; exact hmem
            obtain ⟨x, _, rfl⟩ := List.mem_map.mp this
            refine Nat.le_trans (headOf_len hwl) ?_
            rw [sizeLine_eq]; omega
        · intro D2 ys2 h10 tk10 F10 N10 hD2 hl2 hp2 hc2
          obtain ⟨⟨n8, e8⟩, hnp2⟩ := hp2
          have hDL2 : D2 ≠ L := by
            rintro rfl
            obtain ⟨o, es', ep, ho, hd, _⟩ := F10.ns
            rw [e8] at ho
            cases ho
            cases hd
          have hY2 : StrsAre ys2 (endsOf ws es more) := StrsAre.ofCarried (by
            rw [endsOf, hhs, List.map_map]
            have : hs.filter (fun _ => true) = hs := List.filter_eq_self.mpr fun _ _ => rfl
            rw [this] at hc2
            exact hc2)
          refine wpAny_execs_nil ?_
          dsimp only
          refine done D D2 n7 n8 (nd + 1) ys ys2 o1' o2' c1' _ _ h10 tk10 hY hY2 hd5 hd2 ?_ ?_ F10 ?_ ?_ ?_
          · intro z z1 z2
            rw [if_neg z2, ← e1]
            exact hmm z z1
          · exact if_pos rfl
          · intro q hq
            rcases List.mem_cons.mp hq with rfl | hq
            · exact N10 _ (.tail _ (.head _))
            rcases List.mem_cons.mp hq with rfl | hq
            · exact N10 _ (.tail _ (.tail _ (.head _)))
            rcases List.mem_cons.mp hq with rfl | hq
            · exact ⟨e8, hDL2, hD2⟩
            rcases List.mem_cons.mp hq with rfl | hq
            · rw [← List.push_toArray]
              exact N10 _ (.tail _ (.tail _ (.tail _ (.tail _ (.tail _ (.tail _ (.tail _ (.tail _ (.head _)))))))))
            rcases List.mem_cons.mp hq with rfl | hq
            · exact N10 _ (.tail _ (.tail _ (.tail _ (.tail _ (.head _)))))
            rcases List.mem_cons.mp hq with rfl | hq
            · exact N10 _ (.head _)
            · exact N10 _ (.tail _ (.tail _ (.tail _ (.tail _ (.tail _ (.tail _ (.tail _ (.tail _ (.tail _ hq)))))))))
          · intro q hq
            rcases List.mem_cons.mp hq with rfl | hq
            · exact ⟨hnp (L + 1, o1') (.head _), hnp2 (L + 1, o1') (.tail _ (.head _))⟩
            rcases List.mem_cons.mp hq with rfl | hq
            · exact ⟨hnp (L + 2, o2') (.tail _ (.head _)), hnp2 (L + 2, o2') (.tail _ (.tail _ (.head _)))⟩
            rcases List.mem_cons.mp hq with rfl | hq
            · exact ⟨hnp (le, _) (.tail _ (.tail _ (.tail _ (.tail _ (.tail _ (.tail _ (.head _))))))), hnp2 (le, _) (.tail _ (.tail _ (.tail _ (.tail _ (.tail _ (.tail _ (.tail _ (.head _))))))))⟩
            rcases List.mem_cons.mp hq with rfl | hq
            · exact ⟨hnp (ld, _) (.tail _ (.tail _ (.tail _ (.tail _ (.tail _ (.tail _ (.tail _ (.head _)))))))), hnp2 (ld, W.listOf ((List.toArray refs).push (.ref D)) (nd + 1)) (.tail _ (.tail _ (.tail _ (.tail _ (.tail _ (.tail _ (.tail _ (.tail _ (.head _)))))))))⟩
            rcases List.mem_cons.mp hq with rfl | hq
            · exact ⟨hnp (lw, _) (.tail _ (.tail _ (.tail _ (.head _)))), hnp2 (lw, _) (.tail _ (.tail _ (.tail _ (.tail _ (.head _)))))⟩
            · exact ⟨hnp q (.tail _ (.tail _ (.tail _ (.tail _ (.tail _ (.tail _ (.tail _ (.tail _ hq)))))))), hnp2 q (.tail _ (.tail _ (.tail _ (.tail _ (.tail _ (.tail _ (.tail _ (.tail _ (.tail _ hq)))))))))⟩
          · exact hnp2 (D, _) (.head _)
      · rw [List.size_toArray, sizeLine_eq]; omega
end Mine

/- part U4 -/
namespace Mine
local macro_rules | `(tactic| walk_at "Mstep") => `(tactic| (first | (k_unfold; (try dsimp only)) | walk1 | (dsimp only; walk1)))
def endsAt (ws : List Str) (row : Str) : Nat → List Str
  | 0 => signsOf row
  | i + 1 => endsOf ws (endsAt ws row i) (mores.getD i Str.empty)
def dueAt (ws : List Str) (row : Str) (i : Nat) : List Str := dueOf (headsOf ws (endsAt ws row i) (mores.getD i Str.empty))
theorem endsAt_len (ws : List Str) (row : Str) : ∀ i, (endsAt ws row i).length = row.cps.size + i
  | 0 => signsOf_length row
  | i + 1 => by
    rw [endsAt, endsOf, List.length_map, headsOf, List.length_map, List.length_append, List.length_singleton, endsAt_len ws row i]
    omega

theorem due_six {w : World} {dp un : Nat} {gd : Option (List Code)} {outer : List Env} {E : Value → Shared → Prop} {R : Result → Shared → Prop} {s : Shared} {h₀ : Heap} {L lw ld le : Addr} {m₀ : Str → Option Value} {px : Pos} {tt : Tok} {row : Str} {vsW vsE : List Value} {nW nE nd : Nat} {ws : List Str} {rest : List (Addr × Obj)} {o1 o2 : Obj} {c1 c2 : Option Value}
    {p : Program} {loose : List Str} {mean : ExcName → Option Value} {mg mb : Str → Option Value}
    (X : (hd.heap_39 w.params).In h₀) (T : Top p loose mean mg mb h₀) (hu : un + 100 < cLine) (hdp : dp + 10 < recursionLimit)
    (F : Fr h₀ L s.heap m₀) (hm : m₀ (Str.ofString "words") = some (.ref lw) ∧ m₀ (Str.ofString "due") = some (.ref ld) ∧ m₀ (Str.ofString "ends") = some (.ref le))
    (N : News h₀ L s.heap ((L + 1, o1) :: (L + 2, o2) :: (le, W.listOf (List.toArray vsE) nE) :: (ld, W.listOf (List.toArray []) nd) :: (lw, W.listOf (List.toArray vsW) nW) :: rest)) (ho1 : o1.data = .cell c1) (ho2 : o2.data = .cell c2)
    (hW : StrsAre vsW ws) (hE : StrsAre vsE (signsOf row)) (hrow : row.cps.size ≤ 100) (hlW : ws.length ≤ 100) (hwl : ∀ u ∈ ws, u.length ≤ 3) (hok : ∀ u ∈ ws, PyData.strOk u = true)
    (n1 : ∀ q ∈ (le, W.listOf (List.toArray vsE) nE) :: (ld, W.listOf (List.toArray []) nd) :: (lw, W.listOf (List.toArray vsW) nW) :: rest, q.1 ≠ L + 1 ∧ q.1 ≠ L + 2)
    (nd1 : le ≠ ld ∧ lw ≠ ld ∧ ∀ q ∈ rest, q.1 ≠ ld)
    (done : ∀ m' refs founds nd' h' tk', Fr h₀ L h' m' → m' (Str.ofString "due") = some (.ref ld) → News h₀ L h' ((ld, W.listOf (List.toArray refs) nd') :: (lw, W.listOf (List.toArray vsW) nW) :: (founds ++ rest)) → Founds refs founds (dueAt ws row) 6 → (∀ q ∈ founds, ∀ r ∈ (lw, W.listOf (List.toArray vsW) nW) :: rest, r.1 ≠ q.1) → R (.ok .next) { s with heap := h', toks := tk' }) :
    wpAny (model PG w) (uA dp un gd L outer) (pyIter (.str (Str.ofString "hgfedc") tt)) (fun it s₂ => codeAny (model PG w) (uA dp un gd L outer) (.forLoop (.Name (Str.ofString "more") px) it uBody [] (uEnv L)) R s₂) E s := by
  refine forG_str (env := uEnv L) (h₀ := h₀) (fun i m nx gn => gn = s.gens ∧ m (Str.ofString "words") = some (.ref lw) ∧ m (Str.ofString "due") = some (.ref ld) ∧ ∃ le o1 o2 c1 c2 vsE nE refs nd' founds, m (Str.ofString "ends") = some (.ref le) ∧
      nx = (L + 1, o1) :: (L + 2, o2) :: (le, W.listOf (List.toArray vsE) nE) :: (ld, W.listOf (List.toArray refs) nd') :: (lw, W.listOf (List.toArray vsW) nW) :: (founds ++ rest) ∧ o1.data = .cell c1 ∧ o2.data = .cell c2 ∧ StrsAre vsE (endsAt ws row i) ∧ Founds refs founds (dueAt ws row) i ∧
      (∀ q ∈ (le, W.listOf (List.toArray vsE) nE) :: (ld, W.listOf (List.toArray refs) nd') :: (lw, W.listOf (List.toArray vsW) nW) :: (founds ++ rest), q.1 ≠ L + 1 ∧ q.1 ≠ L + 2) ∧ (le ≠ ld ∧ lw ≠ ld ∧ ∀ q ∈ founds ++ rest, q.1 ≠ ld) ∧ (∀ q ∈ founds, ∀ r ∈ (lw, W.listOf (List.toArray vsW) nW) :: rest, r.1 ≠ q.1))
    rfl rfl rfl F N ⟨rfl, hm.1, hm.2.1, le, o1, o2, c1, c2, vsE, nE, [], nd, [], hm.2.2, rfl, ho1, ho2, hE, Founds.nil _, n1, nd1, fun _ h => nomatch h⟩ ?_ ?_
  · rintro i y t m₁ nx h tk gn I io hy hnI ⟨rfl, hm1, hm2, le, o1, o2, c1, c2, vsE, nE, refs, nd', founds, hm3, rfl, hd1, hd2, hE1, hfo, n1, nd1, hfr⟩ F₁ N₁
    have hi : i < 6 := by
      rcases Nat.lt_or_ge i 6 with h | h
      · exact h
      · rw [List.getElem?_eq_none (by exact h)] at hy; cases hy
    have hyi : y = mores.getD i Str.empty := by
      show y = (signsOf (Str.ofString "hgfedc")).getD i Str.empty
      rw [List.getD_eq_getElem?_getD, hy]; rfl
    have em : (fun z => if z = Str.ofString "more" then some (Value.str y t) else m₁ z) = uM2 lw ld le y t m₁ := by
      funext z
      unfold uM2
      by_cases h0 : z = Str.ofString "more"
      · subst h0
        rw [if_pos rfl, if_neg (by decide), if_neg (by decide), if_neg (by decide)]
      rw [if_neg h0]
      by_cases h1 : z = Str.ofString "words"
      · subst h1; exact hm1
      by_cases h2 : z = Str.ofString "due"
      · subst h2; exact hm2
      by_cases h3 : z = Str.ofString "ends"
      · subst h3; exact hm3
      simp only [if_neg h1, if_neg h2, if_neg h3]
    rw [em] at F₁
    have N₂ : News h₀ L h ((L + 1, o1) :: (L + 2, o2) :: (le, W.listOf (List.toArray vsE) nE) :: (ld, W.listOf (List.toArray refs) nd') :: (lw, W.listOf (List.toArray vsW) nW) :: ((I, io) :: (founds ++ rest))) := fun q hq => N₁ q (by
      simp only [List.mem_cons] at hq ⊢
      rcases hq with h | h | h | h | h | h | h <;> simp only [h, true_or, or_true])
    have hI2 := fun q hq => hnI q hq
    refine due_turn (rest := (I, io) :: (founds ++ rest)) X T hu hdp F₁ N₂ hd1 hd2 hW hE1 (by rw [endsAt_len]; omega) hlW hwl hok ?_ ?_ (by rw [hfo.1]; omega) ?_
    · intro q hq
      rcases List.mem_cons.mp hq with rfl | hq
      · exact n1 _ (.head _)
      rcases List.mem_cons.mp hq with rfl | hq
      · exact n1 _ (.tail _ (.head _))
      rcases List.mem_cons.mp hq with rfl | hq
      · exact n1 _ (.tail _ (.tail _ (.head _)))
      rcases List.mem_cons.mp hq with rfl | hq
      · exact ⟨Ne.symm (hnI _ (.head _)), Ne.symm (hnI _ (.tail _ (.head _)))⟩
      · exact n1 _ (.tail _ (.tail _ (.tail _ hq)))
    · refine ⟨nd1.1, nd1.2.1, fun q hq => ?_⟩
      rcases List.mem_cons.mp hq with rfl | hq
      · exact Ne.symm (hnI (ld, _) (.tail _ (.tail _ (.tail _ (.head _)))))
      · exact nd1.2.2 q hq
    · intro D D2 n7 n2 nd'' ys vsE' o1' o2' c1' c2' m' h' tk' hY hE' hd1' hd2' hmm' hm3' F' N' hnD hDD
      subst hyi
      refine ⟨rfl, h', tk', s.gens, m', (L + 1, o1') :: (L + 2, o2') :: (D2, W.listOf (List.toArray vsE') n2) :: (ld, W.listOf (List.toArray (refs ++ [.ref D])) nd'') :: (lw, W.listOf (List.toArray vsW) nW) :: (((D, W.listOf (List.toArray ys) n7) :: founds) ++ rest), rfl, F', ?_, ?_, rfl, ?_, ?_, D2, o1', o2', c1', c2', vsE', n2, _, nd'', _, hm3', rfl, hd1', hd2', hE', Founds.put hfo hY, ?_, ?_, ?_⟩
      · intro q hq
        refine N' q ?_
        simp only [List.cons_append, List.mem_cons] at hq ⊢
        rcases hq with h | h | h | h | h | h | h | h <;> simp only [h, true_or, or_true]
      · intro q hq
        have hIm : ∀ q ∈ (L + 1, o1) :: (L + 2, o2) :: (le, W.listOf (List.toArray vsE) nE) :: (ld, W.listOf (List.toArray refs) nd') :: (lw, W.listOf (List.toArray vsW) nW) :: (founds ++ rest), q.1 ≠ I := hnI
        rcases List.mem_cons.mp hq with rfl | hq
        · exact hIm (L + 1, o1) (.head _)
        rcases List.mem_cons.mp hq with rfl | hq
        · exact hIm (L + 2, o2) (.tail _ (.head _))
        rcases List.mem_cons.mp hq with rfl | hq
        · exact Ne.symm (hnD (I, io) (.tail _ (.tail _ (.tail _ (.tail _ (.tail _ (.head _))))))).2
        rcases List.mem_cons.mp hq with rfl | hq
        · exact hIm (ld, W.listOf (List.toArray refs) nd') (.tail _ (.tail _ (.tail _ (.head _))))
        rcases List.mem_cons.mp hq with rfl | hq
        · exact hIm (lw, _) (.tail _ (.tail _ (.tail _ (.tail _ (.head _)))))
        rcases List.mem_cons.mp hq with rfl | hq
        · exact Ne.symm (hnD (I, io) (.tail _ (.tail _ (.tail _ (.tail _ (.tail _ (.head _))))))).1
        · exact hIm q (.tail _ (.tail _ (.tail _ (.tail _ (.tail _ hq)))))
      · rw [hmm' _ (by decide) (by decide)]; rfl
      · rw [hmm' _ (by decide) (by decide)]; rfl
      · intro q hq
        rcases List.mem_cons.mp hq with rfl | hq
        · exact ⟨Ne.symm (hnD (L + 1, o1) (.head _)).2, Ne.symm (hnD (L + 2, o2) (.tail _ (.head _))).2⟩
        rcases List.mem_cons.mp hq with rfl | hq
        · exact n1 (ld, W.listOf (List.toArray refs) nd') (.tail _ (.head _))
        rcases List.mem_cons.mp hq with rfl | hq
        · exact n1 (lw, _) (.tail _ (.tail _ (.head _)))
        rcases List.mem_cons.mp hq with rfl | hq
        · exact ⟨Ne.symm (hnD (L + 1, o1) (.head _)).1, Ne.symm (hnD (L + 2, o2) (.tail _ (.head _))).1⟩
        · exact n1 q (.tail _ (.tail _ (.tail _ hq)))
      · refine ⟨Ne.symm (hnD (ld, _) (.tail _ (.tail _ (.tail _ (.head _))))).2, nd1.2.1, fun q hq => ?_⟩
        rcases List.mem_cons.mp hq with rfl | hq
        · exact Ne.symm (hnD (ld, _) (.tail _ (.tail _ (.tail _ (.head _))))).1
        · exact nd1.2.2 q hq
      · intro q hq r hr
        rcases List.mem_cons.mp hq with rfl | hq
        · rcases List.mem_cons.mp hr with rfl | hr
          · exact (hnD (lw, _) (.tail _ (.tail _ (.tail _ (.tail _ (.head _)))))).1
          · exact (hnD r (.tail _ (.tail _ (.tail _ (.tail _ (.tail _ (.tail _ (List.mem_append_right _ hr)))))))).1
        · exact hfr q hq r hr
  · rintro m₁ nx h tk gn ⟨rfl, hm1, hm2, le, o1, o2, c1, c2, vsE, nE, refs, nd', founds, hm3, rfl, hd1, hd2, hE1, hfo, n1, nd1, hfr⟩ F₁ N₁
    exact done _ _ _ _ _ _ F₁ hm2 (fun q hq => N₁ q (.tail _ (.tail _ (.tail _ hq)))) hfo hfr
end Mine

/- part U5 -/
namespace Mine
local macro_rules | `(tactic| walk_at "Mstep") => `(tactic| (first | (k_unfold; (try dsimp only)) | walk1 | (dsimp only; walk1)))
local macro_rules | `(tactic| walk_at "McellC") => `(tactic| k_dflt (refine' code_defC ?k1 ?k2 ?k3 ?k4 ?k5 ?kA ?kF ?kK ?k6 ?k7 ?k8 ?k9 ?kB ?kD ?_ ?c2 ?c3 ?c4; (case kA => exact rfl); (case kF => exact rfl); (case kK => assumption); (case k1 => k_asm); (case k2 => k_asm); (case k3 => k_asm); (case k4 => k_asm); (case k5 => k_asm); (case k6 => k_is); (case k7 => k_is); (case k8 => ktr_room); (case k9 => exact BindsTo.of_eq rfl); (case kB => exact rfl); (case kD => decide +kernel); (case c2 => exact rfl); (case c3 => exact rfl); (case c4 => exact rfl); k_whole; intro g' L' h' tk' cells' FG' F' N' Y' B' X' T' l1; (try k_lt l1); k_cells Y'; (try simp only [List.cons_append, List.nil_append] at N'); (try dsimp only); (try k_lift B'); (try k_fold)))

section
open PySem.Calls
variable {prog : Program} {w : World} {A : Around} {E : Value → Shared → Prop} {s : Shared} {h₀ : Heap} {L : Addr} {m : Str → Option Value} {env : Env}
theorem Assign_signs_free {elt iter : Expr} {x z : Str} {px pz' : Pos} {scope : Scope} {cl : List (Str × Addr)} {pos spos : Pos} {Q : Flow → Shared → Prop}
    (hsw : swapsWith (.ListComp elt [⟨.Name x px, iter, [], 0⟩] scope pos) (some (.Name z pz')) spos.line env = pure true) (hL : env.locals = L)
    (hh : A.handled = none) (hclos : closureFor scope env = pure cl) (hcell : ∀ z ∈ scope.names, z.2 ≠ .cell) (hkind : scope.kind = .function)
    (hnames : ∀ z ∈ scope.names, z.2 = .local → scope.names.lookup z.1 = some .local) (hx : scope.names.lookup x = some .local)
    (hy : env.kindOf z = some .local) (hp : (env.scope.kind == .class || (env.scope.kind == .module && env.locals != env.globals)) = false)
    (h : wpAny (model prog w) A (eval iter env) (fun xv s₁ => ∃ news : List (Addr × Obj), ∃ y t, xv = .str y t ∧ y.cps.size ≤ sizeLine ∧ Fr h₀ L s₁.heap m ∧ News h₀ L s₁.heap news ∧
      (∀ C a' v s₂ m₂ E', ItemKind.str.is a' v → s₂.heap.Ns (compEnvC scope cl C env).locals m₂ → m₂ x = some v → wpAny (model prog w) A (eval elt (compEnvC scope cl C env)) (fun r s₃ => Carried r (.str a') ∧ Keeps s₂ s₃) E' s₂) ∧
      (∀ D (ys : List Value) h' tk, Fr h₀ L h' (fun q => if q = z then some (.ref D) else m q) → News h₀ L h' news → h₀.get? D = none → NewPlain h' news D ys.toArray → StrsAre ys (signs y) → Q .next { s₁ with heap := h', toks := tk })) E s)
    (hs : ∀ x, foldedSetIterable iter env x = pure x) :
    wpAny (model prog w) A (exec (.Assign [.Name z pz'] (.ListComp elt [⟨.Name x px, iter, [], 0⟩] scope pos) spos) env) Q E s := by
  subst hL
  refine wpAny_Assign_ListComp_free (ItemKind.str.lift fun _ => true) (fun v r => ∃ a, ItemKind.str.is a v ∧ Carried r (.str a)) hsw hclos hcell hkind hnames hx hy hp
    (wpAny_mono h (fun xv s₁ h₁ => ?_) fun _ _ e => e) hs
  obtain ⟨news, y, t, rfl, hsz, F, N, helt, hQ⟩ := h₁
  refine wpAny_pyIter_str fun o St W hst => ?_
  refine ⟨s₁.heap.objs.size, [s₁.heap.objs.size], [s₁.heap.objs.size], y.cps.size, SignAt y, St, m, rfl, W A hh, hsz, hst, ?_, ?_, (F.push o).ns, ⟨?_, ?_⟩, ?_⟩
  · intro b hb
    show b < (s₁.heap.push o).objs.size
    rw [Heap.size_push, List.mem_singleton.mp hb]
    exact Nat.lt_succ_self _
  · intro hm
    exact absurd F.ns.lt ((List.mem_singleton.mp hm) ▸ Nat.lt_irrefl _)
  · intro C i v s₃ m₃ E' hC hP hn hm _ _
    obtain ⟨c, u, _, rfl⟩ := hP
    exact wpAny_pure (a := true) ⟨rfl, _, _, rfl, fun _ _ e => e⟩
  · intro C i v s₃ m₃ E' hC hP hp' hn hm _ _
    obtain ⟨c, u, _, rfl⟩ := hP
    have ha : ItemKind.str.is ⟨#[c]⟩ (.str ⟨#[c]⟩ u) := ⟨u, rfl⟩
    exact wpAny_mono (helt C _ _ s₃ m₃ E' ha hn hm) (fun r s₄ h₄ => ⟨⟨_, ha, h₄.1⟩, h₄.2⟩) fun _ _ e => e
  · intro D h' tk ys vs hnew hlD hplD hlen hP hF hn' hk
    have hc := (areOf_signs hlen hP).paired (fun _ => true) PyData.str _ hF
    rw [List.filter_eq_self.mpr fun _ _ => rfl] at hc
    refine hQ D ys.toList h' tk ⟨hn', fun b o' e => hk b o' (Nat.ne_of_lt (Nat.lt_of_lt_of_le (Heap.lt_size e) F.above)) (old_not_new (F.keep b o' e)) (Heap.get?_push_of_some _ (F.keep b o' e)), F.above⟩
      (fun p hp => ⟨hk _ _ (N p hp).2.1 (old_not_new (N p hp).1) (Heap.get?_push_of_some _ (N p hp).1), (N p hp).2⟩) ?_ ⟨by rw [Array.toArray_toList]; exact hplD, fun p hp e => by rw [← e, Heap.get?_push_of_some _ (N p hp).1] at hnew; cases hnew⟩ (StrsAre.ofCarried hc)
    cases e : h₀.get? D with
    | none => rfl
    | some o' => rw [Heap.get?_push_of_some _ (F.keep _ _ e)] at hnew; cases hnew
end

theorem free_map {G : Prop} {g h : Heap} {L : Addr} {mA : Str → Option Value} {x y z : Str} {a b c : Value} (F : Fr g L h mA) (h1 : mA x = some a) (h2 : mA y = some b) (h3 : mA z = some c)
    (k : ∀ mA, Fr g L h mA → mA x = some a → mA y = some b → mA z = some c → G) : G := k mA F h1 h2 h3
theorem due_claim {w : World} {p : Program} {loose : List Str} {mean : ExcName → Option Value} {mg mb : Str → Option Value}
    {dp un : Nat} {gd : Option (List Code)} {cn : Str} {cs : Scope} {a : Addr} {ccd : Value} {cl : List (Str × Addr)} {outer : List Env} {A₀ : Around} {base h₀ : Heap} {L : Addr} {m : Str → Option Value} {s : Shared} {Q E : Value → Shared → Prop}
    {lw : Addr} {row : Str} {tr : Tok} {rest : List (Addr × Obj)} {vsW : List Value} {nW : Nat} {ws : List Str}
    (B : Below A₀ base outer h₀) (F : Fr h₀ L s.heap m) (X : (hd.heap_39 w.params).In h₀) (T : Top p loose mean mg mb h₀) (hk : cs.kind = .function)
    (N : News h₀ L s.heap ((lw, W.listOf (List.toArray vsW) nW) :: rest))
    (hW : StrsAre vsW ws) (hrow : row.cps.size ≤ 63) (hlW : ws.length ≤ 100) (hwl : ∀ u ∈ ws, u.length ≤ 3) (hok : ∀ u ∈ ws, PyData.strOk u = true)
    (hdp : dp + 20 < recursionLimit) (hun : un + 200 < cLine)
    (hret : ∀ ld refs founds nd h' tk', Fr h₀ L h' m → News h₀ L h' ((ld, W.listOf (List.toArray refs) nd) :: (lw, W.listOf (List.toArray vsW) nW) :: (founds ++ rest)) → Founds refs founds (dueAt ws row) 6 → (∀ q ∈ founds, ∀ r ∈ (lw, W.listOf (List.toArray vsW) nW) :: rest, r.1 ≠ q.1) → (∀ r ∈ (lw, W.listOf (List.toArray vsW) nW) :: rest, r.1 < ld) → Q (.ref ld) { s with heap := h', toks := tk' }) :
    wpAny (model Challenge.rw_nb0383_01.row.prog w) (ktrTop dp un gd cn cs L a ccd cl outer) (call (.ref 73) [.ref lw, .str row tr]) Q E s := by
  revert X
  k_fill
  intro X
  refine wpAny_call ?_
  walk_at "McellC"
  walk_at "Mstep"
  repeat ((fail_if_success (with_reducible show wpAny _ _ (exec (Stmt.Assign _ (Expr.ListComp _ _ _ _) _) _) _ _ _)); walk_at "Mstep")
  rename Fr _ _ _ _ => F1
  rename News _ _ _ _ => N1
  rename Fr h₀ L _ m => FG
  rename Below _ _ _ _ => B'
  rename (hd.heap_39 w.params).In _ => X'
  rename Top _ _ _ _ _ _ => T'
  rename_i g2 L2 h2 tk2 l1a oH oS d1 d2 ld h3 l1b h4
  refine free_map (x := Str.ofString "due") (y := Str.ofString "words") (z := Str.ofString "row") (a := .ref ld) (b := .ref lw) (c := .str row tr) F1 rfl rfl rfl ?_
  clear F1
  intro mA F1 a1 a2 a3
  refine Assign_signs_free (h₀ := g2) (L := L2) (cl := []) (m := mA) rfl rfl rfl rfl (by decide) rfl (by decide) rfl rfl rfl ?_ (fun _ => rfl)
  refine wpAny_Name (wpAny_loadName_local rfl rfl F1.ns a3 ?_) (by decide)
  refine ⟨_, row, tr, rfl, by rw [sizeLine_eq]; omega, F1, N1, ?_, ?_⟩
  · intro C a' v s₂ m₂ E' hi hns hm
    obtain ⟨t, rfl⟩ := ItemKind.str_is hi
    walk_at "Mstep"
    exact ⟨.str _ _, _, _, rfl, fun _ _ e => e⟩
  · intro D ys h' tk F2 N2 hD hp hS
    obtain ⟨⟨n7, e7⟩, hnp⟩ := hp
    have hDL : D ≠ L2 := NewPlain.ne_locals ⟨⟨n7, e7⟩, hnp⟩ F2
    dsimp only
    refine wpAny_execs_cons (wpAny_For ?_)
    walk_at "Mstep"
    refine due_six (nW := nW) (ld := ld) (lw := lw) (le := D) (nE := n7) (nd := 0) (row := row) (ws := ws) (o1 := oS) (o2 := oH) (rest := rest) X' T' ?_ ?_ F2 ⟨?_, ?_, ?_⟩ ?_ d2 d1 hW hS (by omega) hlW hwl hok ?_ ?_ ?_
    · ktr_units
    · ktr_room
    · exact (if_neg (by decide)).trans a2
    · exact (if_neg (by decide)).trans a1
    · exact if_pos rfl
    · intro q hq
      rcases List.mem_cons.mp hq with rfl | hq
      · exact N2 _ (.tail _ (.tail _ (.head _)))
      rcases List.mem_cons.mp hq with rfl | hq
      · exact N2 _ (.tail _ (.head _))
      rcases List.mem_cons.mp hq with rfl | hq
      · exact ⟨e7, hDL, hD⟩
      rcases List.mem_cons.mp hq with rfl | hq
      · exact N2 _ (.head _)
      · exact N2 _ (.tail _ (.tail _ (.tail _ hq)))
    · intro q hq
      rcases List.mem_cons.mp hq with rfl | hq
      · exact ⟨Ne.symm (hnp (L2 + 1, oS) (.tail _ (.tail _ (.head _)))), Ne.symm (hnp (L2 + 1 + 1, oH) (.tail _ (.head _)))⟩
      rcases List.mem_cons.mp hq with rfl | hq
      · exact ⟨Ne.symm (Nat.ne_of_lt l1b.2.1), Ne.symm (Nat.ne_of_lt l1b.1)⟩
      rcases List.mem_cons.mp hq with rfl | hq
      · exact ⟨Nat.ne_of_lt (Nat.lt_succ_of_lt l1a.1), Nat.ne_of_lt (Nat.lt_succ_of_lt (Nat.lt_succ_of_lt l1a.1))⟩
      · exact ⟨Nat.ne_of_lt (Nat.lt_succ_of_lt (allLt_mem l1a.2 q hq)), Nat.ne_of_lt (Nat.lt_succ_of_lt (Nat.lt_succ_of_lt (allLt_mem l1a.2 q hq)))⟩
    · exact ⟨Ne.symm (hnp (ld, _) (.head _)), Nat.ne_of_lt l1b.2.2.1, fun q hq => Nat.ne_of_lt (allLt_mem l1b.2.2.2 q hq)⟩
    · intro m' refs founds nd' h6 tk6 F6 hm6 N6 hfo hfr
      dsimp only
      refine wpAny_execs_cons (wpAny_Return_some ?_)
      refine wpAny_Name (wpAny_loadName_local rfl rfl F6.ns hm6 ?_) (by decide)
      dsimp only
      refine leaveK_ F6 N6 ?_
      intro F7 N7
      refine hret _ refs founds nd' _ _ F7 N7 hfo hfr ?_
      intro r hr
      rcases List.mem_cons.mp hr with rfl | hr
      · exact l1b.2.2.1
      · exact allLt_mem l1b.2.2.2 r hr
end Mine

/- part Acc2 -/
namespace Mine
abbrev lDefX : {x : Stmt // x = stNth topS 9} := ⟨_, by dsimp only [topS, Challenge.pw_nb0383_01, stNth]⟩
abbrev lScopeX : {x : Scope // x = stScope lDefX.1} := ⟨_, by dsimp only [stScope]⟩
abbrev lScope : Scope := lScopeX.1
abbrev lBodyX : {x : List Stmt // x = stBody lDefX.1} := ⟨_, by dsimp only [stBody]⟩
abbrev lRestX : {x : List Stmt // x = List.drop 8 lBodyX.1} := ⟨_, by dsimp only [List.drop]⟩
abbrev lRest : List Stmt := lRestX.1
abbrev lEnv (L fa : Addr) (cd : Value) : Env := envOf (Str.ofString "law") lScope L fa cd
end Mine

/- part Law3 -/
namespace Mine
local macro_rules | `(tactic| walk_at "Mstep") => `(tactic| (first | (k_unfold; (try dsimp only)) | walk1 | (dsimp only; walk1)))
abbrev lMap (ctx sel rt lw : Addr) (row : Str) (tr : Tok) (sg : Str) (ts : Tok) (total : Int) (tt : Tok) (mm : Str → Option Value) : Str → Option Value := fun z =>
  if z = Str.ofString "old" then some (.ref ctx) else if z = Str.ofString "select" then some (.ref sel) else if z = Str.ofString "root" then some (.ref rt) else if z = Str.ofString "words" then some (.ref lw) else
  if z = Str.ofString "row" then some (.str row tr) else if z = Str.ofString "signs" then some (.str sg ts) else if z = Str.ofString "total" then some (.int total tt) else mm z

def more2 (total : Int) : Str := Txt.item (Str.ofString "abcdefgh") ((total + 3).fmod 8) ++ Txt.item (Str.ofString "abcdefgh") ((total.fdiv 8 + 4).fmod 8)
theorem no_dict {w : World} {its : Array Value} {n : Nat} {kvs : List (Str × Value)} (h : (W.listOf its n).IsDictOf (strKind PG w) kvs) : False := by
  obtain ⟨es, ep, _, e, _⟩ := h
  cases e
theorem news_swap {h₀ h : Heap} {L : Addr} {a b : Addr × Obj} {r : List (Addr × Obj)} (N : News h₀ L h (a :: b :: r)) : News h₀ L h (b :: a :: r) := fun q hq => N q (by
  rcases List.mem_cons.mp hq with h | h
  · exact h ▸ .tail _ (.head _)
  rcases List.mem_cons.mp h with h | h
  · exact h ▸ .head _
  · exact .tail _ (.tail _ h))
theorem readsAll_of {h : Heap} : ∀ {refs : List Value} {ys : List (List Str)}, refs.length = ys.length → (∀ (j : Nat) (v : Value) (y : List Str), refs[j]? = some v → ys[j]? = some y → ∃ as, Reads h v (dS y) as) → ∃ as, ReadsAll h refs (ys.map dS) as
  | [], [], _, _ => ⟨_, .nil⟩
  | v :: vs, y :: ys, hl, hr => by
    obtain ⟨as, h1⟩ := hr 0 v y rfl rfl
    obtain ⟨bs, h2⟩ := readsAll_of (refs := vs) (ys := ys) (by simpa using hl) (fun j v y e1 e2 => hr (j + 1) v y (by simpa using e1) (by simpa using e2))
    exact ⟨_, .cons h1 h2⟩
theorem founds_reads {h₀ h : Heap} {L lt : Addr} {news founds : List (Addr × Obj)} {refs : List Value} {nt : Nat} {Y : Nat → List Str} (N : News h₀ L h news) (hl : (lt, W.listOf (List.toArray refs) nt) ∈ news) (hf : Founds refs founds Y 6) (hin : ∀ q ∈ founds, q ∈ news) :
    ∃ as, Reads h (.ref lt) (dSS ((List.range 6).map Y)) as := by
  obtain ⟨as, hA⟩ := readsAll_of (h := h) (refs := refs) (ys := (List.range 6).map Y) (by rw [hf.1, List.length_map, List.length_range]) (fun j v y e1 e2 => by
    have hj : j < 6 := by
      have := (List.getElem?_eq_some_iff.mp e1).1
      rw [hf.1] at this; exact this
    obtain ⟨a, vs, n, g1, g2, g3⟩ := hf.2 j hj
    rw [e1] at g1
    cases g1
    have hy : y = Y j := by
      rw [List.getElem?_map, List.getElem?_range hj] at e2
      exact (Option.some.inj e2).symm
    subst hy
    exact ⟨_, reads_strs (N _ (hin _ g2)).1 g3⟩)
  exact ⟨_, reads_list_at (N _ hl).1 rfl rfl hA⟩
theorem law_tail {w : World} {p : Program} {loose : List Str} {mean : ExcName → Option Value} {mg mb : Str → Option Value} {base h₀ : Heap} {L fa : Addr} {cd : Value} {s : Shared} {Q : Flow → Shared → Prop} {E : Value → Shared → Prop}
    {ctx dctx sel csel rt drt lam cel clam lw : Addr} {sq row lq : Str} {tq tr t1 t2 t3 tl ts tt : Tok} {total : Int} {mm : Str → Option Value} {rest : List (Addr × Obj)} {ocs oclam ocel : Obj} {vsc vsl : Array Value} {doc pmod ct ctl : Value} {vsW : List Value} {nW : Nat} {ws : List Str}
    (B : Below callerA base [] h₀) (X : (hd.heap_39 w.params).In h₀) (T : Top p loose mean mg mb h₀) (hC : CodeHd h₀ 55 51)
    (F : Fr h₀ L s.heap (lMap ctx sel rt lw row tr (Str.ofString "abcdefgh") ts total tt mm))
    (N : News h₀ L s.heap ((dctx, dictOf [dRoot w t1 rt] 1) :: (lw, W.listOf (List.toArray vsW) nW) :: rest))
    (hsel : (sel, selO sq doc pmod csel ct) ∈ rest) (hcs : (csel, ocs) ∈ rest) (hc1 : ocs.data = .fields vsc) (hc2 : vsc[1]? = some (.str sq tq)) (hctx : (ctx, instObj 45 dctx) ∈ rest) (hrt : (rt, instObj 45 drt) ∈ rest)
    (hdrt : (drt, dictOf [{ hash := PyData.keyHash w.params (Str.ofString "root"), key := Value.str (Str.ofString "root") t2, val := Value.none }, { hash := PyData.keyHash w.params (Str.ofString "iter"), key := Value.str (Str.ofString "iter") t3, val := Value.ref lam }] 2) ∈ rest)
    (hlam : (lam, lamO lq cel clam pmod ctl) ∈ rest) (hclam : (clam, oclam) ∈ rest) (hcl1 : oclam.data = Data.fields vsl) (hcl2 : vsl[1]? = some (Value.str lq tl)) (hcel : (cel, ocel) ∈ rest) (hcd : ocel.data = Data.cell (some (.ref lw)))
    (hW : StrsAre vsW ws) (hlW : ws.length ≤ 90) (hwl : ∀ u ∈ ws, u.length ≤ 3) (hok : ∀ u ∈ ws, PyData.strOk u = true) (hrow : row.cps.size ≤ 63)
    (hdw : dctx ≠ lw) (hrd : ∀ q ∈ rest, q.1 ≠ dctx ∧ q.1 ≠ lw) (hdc : dctx < ctx) (hbare : AllBare s.gens)
    (hgood : GoodRun (pmOf ws) row) (hgood2 : GoodRun (pmOf (ws ++ [more2 total])) row) (hm2 : (more2 total).length ≤ 3 ∧ PyData.strOk (more2 total) = true)
    (hlaw : ∀ i, i < 6 → dueAt ws row i = ysAt (pmOf ws) row i) (hlaw2 : ∀ i, i < 6 → dueAt (ws ++ [more2 total]) row i = ysAt (pmOf (ws ++ [more2 total])) row i)
    (done : ∀ h' tk' gn, (∀ b o, h₀.get? b = some o → h'.get? b = some o) → News h₀ L h' rest → AllBare gn → Q (.ret (.bool true)) { s with heap := h', toks := tk', gens := gn }) :
    wpAny (model Challenge.rw_nb0383_01.row.prog w) (callerA.deeper (lEnv L fa cd)) (execs lRest (lEnv L fa cd)) Q E s := by
  have kfz : (hd.heap_39 w.params).In h₀ → Challenge.rw_nb0383_01 = Challenge.rw_nb0383_01 := by (k_fill; intro _; rfl)
  repeat ((fail_if_success (with_reducible show wpAny _ _ (call (Value.ref 68) _) _ _ _)); walk_at "Mstep")
  refine told_claim (rest := (lw, W.listOf (List.toArray vsW) nW) :: rest) B F X T rfl hC N (.tail _ hsel) (.tail _ hcs) hc1 hc2 (.tail _ hctx) (f := pmOf ws) (rt := rt) (t1 := t1) (.inl ⟨rfl, rfl, ?_⟩) hgood ?_ hbare ?_ ?_ ?_
  · refine ⟨drt, lam, cel, clam, lw, t2, t3, tl, lq, pmod, ctl, oclam, ocel, vsl, vsW, nW, ws, ?_, hcl1, hcl2, hcd, hW, by omega, ?_, rfl⟩
    · intro q hq
      simp only [ctxNews, List.mem_cons, List.not_mem_nil, or_false] at hq
      rcases hq with rfl | rfl | rfl | rfl | rfl | rfl | rfl
      · exact .tail _ hctx
      · exact .tail _ hrt
      · exact .tail _ hdrt
      · exact .tail _ hlam
      · exact .tail _ hclam
      · exact .tail _ hcel
      · exact .head _
    · intro u hu
      rw [signsOf_length]
      exact hwl u hu
  · intro q hq
    rcases List.mem_cons.mp hq with rfl | hq
    · exact Ne.symm hdw
    · exact (hrd q hq).1
  · decide
  · decide
  intro lt refs1 founds1 nt1 odc1 extra1 h1 tk1 gn1 F1 N1 hfo1 hco1 hfar1 hlt1 hb1
  clear F
  repeat ((fail_if_success (with_reducible show wpAny _ _ (call (Value.ref 73) _) _ _ _)); walk_at "Mstep")
  rename Fr _ _ _ _ => F2
  rename News _ _ _ _ => N2
  have N2' : News h₀ L _ ((lw, W.listOf (List.toArray vsW) nW) :: ((lt, W.listOf (List.toArray refs1) nt1) :: (dctx, odc1) :: (founds1 ++ (extra1 ++ rest)))) := fun q hq => N2 q (by
    simp only [List.mem_cons, List.mem_append] at hq ⊢
    rcases hq with h | h | h | h | h | h <;> simp only [h, true_or, or_true])
  refine due_claim B F2 X T rfl N2' hW hrow (by omega) hwl hok (by decide) (by decide) ?_
  intro ld refsD foundsD nd h3 tk3 F3 N3 hfoD hfrD hltD
  clear F2 N2 N2'
  repeat ((fail_if_success (with_reducible show wpAny _ _ (subscriptTail _ _ _ _) _ _ _)); walk_at "Mstep")
  dsimp only
  refine item_str (fit8w (fmod8 _).1 (fmod8 _).2) (by have := (fmod8 (total + 3)).1; omega) (by rw [show (Str.ofString "abcdefgh").length = 8 from rfl]; exact (fmod8 _).2) ?_
  intro _
  dsimp only
  repeat ((fail_if_success (with_reducible show wpAny _ _ (subscriptTail _ _ _ _) _ _ _)); walk_at "Mstep")
  dsimp only
  refine item_str (fit8w (fmod8 _).1 (fmod8 _).2) (by have := (fmod8 (total.fdiv 8 + 4)).1; omega) (by rw [show (Str.ofString "abcdefgh").length = 8 from rfl]; exact (fmod8 _).2) ?_
  intro _
  dsimp only
  repeat ((fail_if_success (with_reducible show wpAny _ _ (call (Value.builtin _) _) _ _ _)); walk_at "Mstep")
  rename Fr _ _ _ _ => F4
  rename News _ _ _ _ => N4
  have hnw : ∀ q ∈ foundsD ++ ((lt, W.listOf (List.toArray refs1) nt1) :: (dctx, odc1) :: (founds1 ++ (extra1 ++ rest))), q.1 ≠ lw := by
    intro q hq
    rcases List.mem_append.mp hq with hq | hq
    · exact Ne.symm (hfrD q hq (lw, _) (.head _))
    rcases List.mem_cons.mp hq with rfl | hq
    · exact Ne.symm (Nat.ne_of_lt (hlt1 (lw, _) (.head _)))
    rcases List.mem_cons.mp hq with rfl | hq
    · exact hdw
    rcases List.mem_append.mp hq with hq | hq
    · exact Ne.symm (Nat.ne_of_lt (hfar1 q (List.mem_append_left _ hq) (lw, _) (.head _)))
    rcases List.mem_append.mp hq with hq | hq
    · exact Ne.symm (Nat.ne_of_lt (hfar1 q (List.mem_append_right _ hq) (lw, _) (.head _)))
    · exact (hrd q hq).2
  have hldw : ld ≠ lw := Ne.symm (Nat.ne_of_lt (hltD (lw, _) (.head _)))
  refine append_K (its := List.toArray vsW) F4 N4 (.tail hldw (.head hnw)) ?_ (by rw [List.size_toArray, hW.length, sizeLine_eq]; omega)
  intro h5 F5 N5
  clear F4 N4
  dsimp only
  rw [List.push_toArray] at N5
  rename_i t5 k5 hl5
  have hW5 : StrsAre (vsW ++ [Value.str (Txt.item (Str.ofString "abcdefgh") ((total + 3).fmod 8) ++ Txt.item (Str.ofString "abcdefgh") ((total.fdiv 8 + 4).fmod 8)) t5]) (ws ++ [more2 total]) := hW.append' (.cons _ _ .nil)
  generalize hv5 : vsW ++ [Value.str (Txt.item (Str.ofString "abcdefgh") ((total + 3).fmod 8) ++ Txt.item (Str.ofString "abcdefgh") ((total.fdiv 8 + 4).fmod 8)) t5] = vsW5 at *
  clear hv5
  repeat ((fail_if_success (with_reducible show wpAny _ _ (call (Value.ref 68) _) _ _ _)); walk_at "Mstep")
  rename Fr _ _ _ _ => F6
  rename News _ _ _ _ => N6
  have N6' : News h₀ L _ ((dctx, odc1) :: ((ld, W.listOf (List.toArray refsD) nd) :: (lw, W.listOf (List.toArray vsW5) (nW + 1)) :: (lt, W.listOf (List.toArray refs1) nt1) :: (foundsD ++ (founds1 ++ (extra1 ++ rest))))) := fun q hq => N6 q (by
    simp only [List.mem_cons, List.mem_append] at hq ⊢
    rcases hq with h | h | h | h | h | h | h | h <;> simp only [h, true_or, or_true])
  have hin6 : ∀ q ∈ rest, q ∈ ((ld, W.listOf (List.toArray refsD) nd) :: (lw, W.listOf (List.toArray vsW5) (nW + 1)) :: (lt, W.listOf (List.toArray refs1) nt1) :: (foundsD ++ (founds1 ++ (extra1 ++ rest)))) := fun q hq => .tail _ (.tail _ (.tail _ (List.mem_append_right _ (List.mem_append_right _ (List.mem_append_right _ hq)))))
  have hrd6 : ∀ q ∈ ((ld, W.listOf (List.toArray refsD) nd) :: (lw, W.listOf (List.toArray vsW5) (nW + 1)) :: (lt, W.listOf (List.toArray refs1) nt1) :: (foundsD ++ (founds1 ++ (extra1 ++ rest)))), q.1 ≠ dctx := by
    intro q hq
    rcases List.mem_cons.mp hq with rfl | hq
    · exact Ne.symm (Nat.ne_of_lt (hltD (dctx, odc1) (.tail _ (.tail _ (.head _)))))
    rcases List.mem_cons.mp hq with rfl | hq
    · exact Ne.symm hdw
    rcases List.mem_cons.mp hq with rfl | hq
    · exact Ne.symm (Nat.ne_of_lt (Nat.lt_trans hdc (hlt1 _ (.tail _ hctx))))
    rcases List.mem_append.mp hq with hq | hq
    · exact Ne.symm (hfrD q hq (dctx, odc1) (.tail _ (.tail _ (.head _))))
    rcases List.mem_append.mp hq with hq | hq
    · exact Ne.symm (Nat.ne_of_lt (Nat.lt_trans hdc (hfar1 q (List.mem_append_left _ hq) _ (.tail _ hctx))))
    rcases List.mem_append.mp hq with hq | hq
    · exact Ne.symm (Nat.ne_of_lt (Nat.lt_trans hdc (hfar1 q (List.mem_append_right _ hq) _ (.tail _ hctx))))
    · exact (hrd q hq).1
  refine told_claim B F6 X T rfl hC N6' (hin6 _ hsel) (hin6 _ hcs) hc1 hc2 (hin6 _ hctx) (f := pmOf ws) (rt := rt) (t1 := t1) (.inr ?_) hgood hrd6 hb1 (by decide) (by decide) ?_
  · obtain ⟨t, pm, opm, kvs, e1, e2, e3, e4, e5⟩ := hco1
    refine ⟨t, pm, opm, kvs, e1, ?_, e3, e4, e5⟩
    rcases List.mem_append.mp e2 with h | h
    · exact .tail _ (.tail _ (.tail _ (List.mem_append_right _ (List.mem_append_right _ (List.mem_append_left _ h)))))
    rcases List.mem_cons.mp h with h | h
    · cases h
      exact (no_dict e3).elim
    · exact hin6 _ h
  intro lt2 refs2 founds2 nt2 odc2 extra2 h7 tk7 gn7 F7 N7 hfo2 hco2 hfar2 hlt2 hb2
  clear F6 N6 N6'
  repeat ((fail_if_success (with_reducible show wpAny _ _ (call (Value.ref 68) _) _ _ _)); walk_at "Mstep")
  rename Fr _ _ _ _ => F8
  rename News _ _ _ _ => N8
  rename (_ < _ ∧ _ < _ ∧ AllLt _ _) => l1n
  rename (_ < _) => l2n
  have hwl2 : ∀ u ∈ ws ++ [more2 total], u.length ≤ 3 := fun u hu => by
    rcases List.mem_append.mp hu with h | h
    · exact hwl u h
    · rw [List.mem_singleton.mp h]; exact hm2.1
  have hok2 : ∀ u ∈ ws ++ [more2 total], PyData.strOk u = true := fun u hu => by
    rcases List.mem_append.mp hu with h | h
    · exact hok u h
    · rw [List.mem_singleton.mp h]; exact hm2.2
  have hl2 : (ws ++ [more2 total]).length ≤ 91 := by rw [List.length_append, List.length_singleton]; omega
  refine told_claim B F8 X T rfl hC (news_swap N8) (.tail _ (.tail _ (.tail _ (List.mem_append_right _ (List.mem_append_right _ (hin6 _ hsel)))))) (.tail _ (.tail _ (.tail _ (List.mem_append_right _ (List.mem_append_right _ (hin6 _ hcs)))))) hc1 hc2 (.head _) (f := pmOf (ws ++ [more2 total])) (rt := rt) (.inl ⟨rfl, rfl, ?_⟩) hgood2 ?_ hb2 (by decide) (by decide) ?_
  · refine ⟨drt, lam, cel, clam, lw, t2, t3, tl, lq, pmod, ctl, oclam, ocel, vsl, vsW5, nW + 1, ws ++ [more2 total], ?_, hcl1, hcl2, hcd, hW5, by omega, ?_, rfl⟩
    · intro q hq
      simp only [ctxNews, List.mem_cons, List.not_mem_nil, or_false] at hq
      rcases hq with rfl | rfl | rfl | rfl | rfl | rfl | rfl
      · exact .head _
      · exact .tail _ (.tail _ (.tail _ (List.mem_append_right _ (List.mem_append_right _ (hin6 _ hrt)))))
      · exact .tail _ (.tail _ (.tail _ (List.mem_append_right _ (List.mem_append_right _ (hin6 _ hdrt)))))
      · exact .tail _ (.tail _ (.tail _ (List.mem_append_right _ (List.mem_append_right _ (hin6 _ hlam)))))
      · exact .tail _ (.tail _ (.tail _ (List.mem_append_right _ (List.mem_append_right _ (hin6 _ hclam)))))
      · exact .tail _ (.tail _ (.tail _ (List.mem_append_right _ (List.mem_append_right _ (hin6 _ hcel)))))
      · exact .tail _ (.tail _ (.tail _ (List.mem_append_right _ (List.mem_append_right _ (.tail _ (.head _))))))
    · intro u hu
      rw [signsOf_length]
      exact hwl2 u hu
  · intro q hq
    rcases List.mem_cons.mp hq with rfl | hq
    · exact Ne.symm (Nat.ne_of_lt l2n)
    rcases List.mem_cons.mp hq with rfl | hq
    · exact Nat.ne_of_lt l1n.1
    rcases List.mem_cons.mp hq with rfl | hq
    · exact Nat.ne_of_lt l1n.2.1
    · exact Nat.ne_of_lt (allLt_mem l1n.2.2 q hq)
  intro lt3 refs3 founds3 nt3 odc3 extra3 h9 tk9 gn9 F9 N9 hfo3 hco3 hfar3 hlt3 hb3
  clear F8 N8
  repeat ((fail_if_success (with_reducible show wpAny _ _ (compareOp _ _ _) _ _ _)); walk_at "Mstep")
  rename Fr _ _ _ _ => F10
  rename News _ _ _ _ => N10
  have N11 : News h₀ L _ ((ld, W.listOf (List.toArray refsD) nd) :: (lw, W.listOf (List.toArray vsW5) (nW + 1)) :: (lt, W.listOf (List.toArray refs1) nt1) :: (foundsD ++ (founds1 ++ (extra1 ++ rest)))) := fun q hq => N10 q (.tail _ (.tail _ (List.mem_append_right founds3 (List.mem_append_right extra3 (.tail _ (.tail _ (.tail _ (List.mem_append_right founds2 (List.mem_append_right extra2 hq)))))))))
  have N12 : News h₀ L _ ((lt2, W.listOf (List.toArray refs2) nt2) :: (dctx, odc2) :: (founds2 ++ extra2)) := fun q hq => by
    rcases List.mem_cons.mp hq with h | h
    · exact h ▸ N10 _ (.tail _ (.tail _ (List.mem_append_right founds3 (List.mem_append_right extra3 (.tail _ (.head _))))))
    rcases List.mem_cons.mp h with h | h
    · exact h ▸ N10 _ (.tail _ (.tail _ (List.mem_append_right founds3 (List.mem_append_right extra3 (.tail _ (.tail _ (.head _)))))))
    rcases List.mem_append.mp h with h | h
    · exact N10 q (.tail _ (.tail _ (List.mem_append_right founds3 (List.mem_append_right extra3 (.tail _ (.tail _ (.tail _ (List.mem_append_left _ h))))))))
    · exact N10 q (.tail _ (.tail _ (List.mem_append_right founds3 (List.mem_append_right extra3 (.tail _ (.tail _ (.tail _ (List.mem_append_right founds2 (List.mem_append_left _ h)))))))))
  have N13 : News h₀ L _ ((lw, W.listOf (List.toArray vsW5) (nW + 1)) :: (lt3, W.listOf (List.toArray refs3) nt3) :: (founds3 ++ rest)) := fun q hq => by
    rcases List.mem_cons.mp hq with h | h
    · exact h ▸ N11 _ (.tail _ (.head _))
    rcases List.mem_cons.mp h with h | h
    · exact h ▸ N10 _ (.head _)
    rcases List.mem_append.mp h with h | h
    · exact N10 q (.tail _ (.tail _ (List.mem_append_left _ h)))
    · exact N11 q (hin6 q h)
  have e1 : (List.range 6).map (dueAt ws row) = (List.range 6).map (ysAt (pmOf ws) row) := List.map_congr_left fun i hi => hlaw i (List.mem_range.mp hi)
  have e2 : (List.range 6).map (dueAt (ws ++ [more2 total]) row) = (List.range 6).map (ysAt (pmOf (ws ++ [more2 total])) row) := List.map_congr_left fun i hi => hlaw2 i (List.mem_range.mp hi)
  have ok1 : ∀ x ∈ (List.range 6).map (ysAt (pmOf ws) row), ∀ u ∈ x, PyData.strOk u = true := fun x hx u hu => by
    obtain ⟨i, hi, rfl⟩ := List.mem_map.mp hx
    exact (hgood.ok i (List.mem_range.mp hi) u hu).1
  have ok2 : ∀ x ∈ (List.range 6).map (ysAt (pmOf (ws ++ [more2 total])) row), ∀ u ∈ x, PyData.strOk u = true := fun x hx u hu => by
    obtain ⟨i, hi, rfl⟩ := List.mem_map.mp hx
    exact (hgood2.ok i (List.mem_range.mp hi) u hu).1
  obtain ⟨as1, r1⟩ := founds_reads N11 (.tail _ (.tail _ (.head _))) hfo1 (fun q hq => .tail _ (.tail _ (.tail _ (List.mem_append_right _ (List.mem_append_left _ hq)))))
  obtain ⟨asD, rD⟩ := founds_reads N11 (.head _) hfoD (fun q hq => .tail _ (.tail _ (.tail _ (List.mem_append_left _ hq))))
  rw [e1] at rD
  obtain ⟨as2, r2⟩ := founds_reads N12 (.head _) hfo2 (fun q hq => .tail _ (.tail _ (List.mem_append_left _ hq)))
  refine eq_dataH r1 rD (shaped_dSS ok1) (shaped_dSS ok1) (by show callerA.units + 3 + 64 < cLine; decide) ?_
  rw [show PyData.eqv (dSS ((List.range 6).map (ysAt (pmOf ws) row))) (dSS ((List.range 6).map (ysAt (pmOf ws) row))) = true from eqv_dSS _]
  repeat ((fail_if_success (with_reducible show wpAny _ _ (compareOp _ _ _) _ _ _)); walk_at "Mstep")
  refine eq_dataH r2 rD (shaped_dSS ok1) (shaped_dSS ok1) (by show callerA.units + 3 + 64 < cLine; decide) ?_
  rw [show PyData.eqv (dSS ((List.range 6).map (ysAt (pmOf ws) row))) (dSS ((List.range 6).map (ysAt (pmOf ws) row))) = true from eqv_dSS _]
  repeat ((fail_if_success (with_reducible show wpAny _ _ (call (Value.ref 73) _) _ _ _)); walk_at "Mstep")
  refine due_claim B F10 X T rfl N13 hW5 hrow (by omega) hwl2 hok2 (by decide) (by decide) ?_
  intro ld2 refsE foundsE ne h14 tk14 F14 N14 hfoE hfrE hltE
  dsimp only
  obtain ⟨as3, r3⟩ := founds_reads N14 (.tail _ (.tail _ (List.mem_append_right _ (.head _)))) hfo3 (fun q hq => .tail _ (.tail _ (List.mem_append_right _ (.tail _ (List.mem_append_left _ hq)))))
  obtain ⟨asE, rE⟩ := founds_reads N14 (.head _) hfoE (fun q hq => .tail _ (.tail _ (List.mem_append_left _ hq)))
  rw [e2] at rE
  refine eq_dataH r3 rE (shaped_dSS ok2) (shaped_dSS ok2) (by show callerA.units + 3 + 64 < cLine; decide) ?_
  rw [show PyData.eqv (dSS ((List.range 6).map (ysAt (pmOf (ws ++ [more2 total])) row))) (dSS ((List.range 6).map (ysAt (pmOf (ws ++ [more2 total])) row))) = true from eqv_dSS _]
  refine done h14 tk14 gn9 F14.keep (fun q hq => N14 q (.tail _ (.tail _ (List.mem_append_right _ (.tail _ (List.mem_append_right _ hq)))))) hb3
end Mine

/- part P1 -/
namespace Mine
/-- first occurrences, in order -/
def ddS (acc : List Str) (x : Str) : List Str := if x ∈ acc then acc else acc ++ [x]
def dd (l : List Str) : List Str := l.foldl ddS []
theorem dd_snoc (l : List Str) (x : Str) : dd (l ++ [x]) = ddS (dd l) x := by simp [dd, List.foldl_append]
theorem ddS_mem {acc : List Str} {x y : Str} : y ∈ ddS acc x ↔ y ∈ acc ∨ y = x := by
  unfold ddS
  split
  · constructor
    · exact .inl
    · rintro (h | rfl)
      · exact h
      · assumption
  · simp [List.mem_append]
theorem foldl_mem {x : Str} : ∀ (l acc : List Str), x ∈ l.foldl ddS acc ↔ x ∈ acc ∨ x ∈ l
  | [], acc => by simp
  | a :: r, acc => by
    rw [List.foldl_cons, foldl_mem r, ddS_mem, List.mem_cons]
    constructor
    · rintro ((h | h) | h)
      · exact .inl h
      · exact .inr (.inl h)
      · exact .inr (.inr h)
    · rintro (h | h | h)
      · exact .inl (.inl h)
      · exact .inl (.inr h)
      · exact .inr h
theorem dd_mem {l : List Str} {x : Str} : x ∈ dd l ↔ x ∈ l := by rw [dd, foldl_mem]; simp
theorem ddS_len (acc : List Str) (x : Str) : (ddS acc x).length ≤ acc.length + 1 := by unfold ddS; split <;> simp
theorem foldl_len : ∀ (l acc : List Str), (l.foldl ddS acc).length ≤ acc.length + l.length
  | [], acc => by simp
  | a :: r, acc => by
    have h1 := foldl_len r (ddS acc a)
    have h2 := ddS_len acc a
    rw [List.foldl_cons, List.length_cons]
    omega
theorem dd_len (l : List Str) : (dd l).length ≤ l.length := by have := foldl_len l []; simpa [dd] using this
theorem rev_ind {P : List Str → Prop} (h0 : P []) (hs : ∀ l x, P l → P (l ++ [x])) (l : List Str) : P l := by
  have : ∀ r : List Str, P r.reverse := fun r => by
    induction r with
    | nil => exact h0
    | cons a r ih => rw [List.reverse_cons]; exact hs _ _ ih
  have h := this l.reverse
  rwa [List.reverse_reverse] at h
theorem dd_filterMap (g : Str → Option Str) (l : List Str) : dd ((dd l).filterMap g) = dd (l.filterMap g) := by
  induction l using rev_ind with
  | h0 => rfl
  | hs l x ih =>
    have hmem : ∀ y, y ∈ (dd l).filterMap g ↔ y ∈ l.filterMap g := fun y => by simp only [List.mem_filterMap, dd_mem]
    rw [dd_snoc, List.filterMap_append]
    unfold ddS
    cases hg : g x with
    | none =>
      have e : [x].filterMap g = [] := by simp [hg]
      rw [e, List.append_nil]
      split
      · exact ih
      · rw [List.filterMap_append, e, List.append_nil]; exact ih
    | some y =>
      have e : [x].filterMap g = [y] := by simp [hg]
      rw [e, dd_snoc]
      split
      · rename_i hx
        have hy : y ∈ dd (l.filterMap g) := dd_mem.mpr (List.mem_filterMap.mpr ⟨x, dd_mem.mp hx, hg⟩)
        rw [ddS, if_pos hy]; exact ih
      · rw [List.filterMap_append, e, dd_snoc, ih]
theorem dd_snoc_eq {l k : List Str} (h : dd l = dd k) (x : Str) : dd (l ++ [x]) = dd (k ++ [x]) := by rw [dd_snoc, dd_snoc, h]
theorem newFrom_foldl (f : Str → Option Str) : ∀ (l found : List Str), (l.filterMap f).foldl ddS found = found ++ newFrom f found l
  | [], found => by simp [newFrom]
  | x :: r, found => by
    cases hf : f x with
    | none => rw [newFrom_none hf, List.filterMap_cons_none hf]; exact newFrom_foldl f r found
    | some y =>
      rw [List.filterMap_cons_some hf, List.foldl_cons]
      by_cases hy : y ∈ found
      · rw [newFrom_old hf hy, ddS, if_pos hy]; exact newFrom_foldl f r found
      · rw [newFrom_new hf hy, ddS, if_neg hy, newFrom_foldl f r (found ++ [y])]; simp
theorem newFrom_dd (f : Str → Option Str) (l : List Str) : newFrom f [] l = dd (l.filterMap f) := by
  have := newFrom_foldl f l []
  rw [dd, this]; rfl
/-- the due side -/
theorem range_snoc (n : Nat) : rangeInts 0 1 (n + 1) = rangeInts 0 1 n ++ [(n : Int)] := by
  simp [rangeInts, List.range_succ]
theorem keptAt_app (hs : List Str) (h : Str) {a : Int} (ha : a ∈ rangeInts 0 1 hs.length) : keptAt (hs ++ [h]) a = keptAt hs a ∧ (hs ++ [h]).getD a.toNat Str.empty = hs.getD a.toNat Str.empty := by
  obtain ⟨h0, h1⟩ := range_mem ha
  have hl : a.toNat < hs.length := by omega
  have e : (hs ++ [h]).getD a.toNat Str.empty = hs.getD a.toNat Str.empty := by
    rw [List.getD_eq_getElem?_getD, List.getD_eq_getElem?_getD, List.getElem?_append_left hl]
  have e2 : (hs ++ [h]).take a.toNat = hs.take a.toNat := List.take_append_of_le_length (Nat.le_of_lt hl)
  exact ⟨by rw [keptAt, keptAt, e, e2], e⟩
theorem dueOf_dd (hs : List Str) : dueOf hs = dd (hs.filter fun u => u != Str.ofString "") := by
  induction hs using rev_ind with
  | h0 => rfl
  | hs l x ih =>
    have hl : (l ++ [x]).length = l.length + 1 := by simp
    rw [dueOf, hl, range_snoc, List.filter_append, List.map_append, List.filter_append]
    have e1 : (rangeInts 0 1 l.length).filter (keptAt (l ++ [x])) = (rangeInts 0 1 l.length).filter (keptAt l) := List.filter_congr fun a ha => (keptAt_app l x ha).1
    have e2 : ((rangeInts 0 1 l.length).filter (keptAt l)).map (fun a => (l ++ [x]).getD a.toNat Str.empty) = ((rangeInts 0 1 l.length).filter (keptAt l)).map (fun a => l.getD a.toNat Str.empty) := List.map_congr_left fun a ha => (keptAt_app l x (List.mem_filter.mp ha).1).2
    rw [e1, e2]
    have e3 : ((rangeInts 0 1 l.length).filter (keptAt l)).map (fun a => l.getD a.toNat Str.empty) = dueOf l := rfl
    rw [e3, ih]
    have eg : (l ++ [x]).getD ((l.length : Int)).toNat Str.empty = x := by
      rw [List.getD_eq_getElem?_getD, Int.toNat_natCast, List.getElem?_append_right (Nat.le_refl _), Nat.sub_self]; rfl
    have et : (l ++ [x]).take ((l.length : Int)).toNat = l := by rw [Int.toNat_natCast, List.take_append_of_le_length (Nat.le_refl _), List.take_length]
    have ek : keptAt (l ++ [x]) (l.length : Int) = ((x != Str.ofString "") && !(l.any (· == x))) := by rw [keptAt, eg, et]
    cases hx : x != Str.ofString "" with
    | false =>
      have : keptAt (l ++ [x]) (l.length : Int) = false := by rw [ek, hx]; rfl
      simp [this, hx]
    | true =>
      have e4 : [x].filter (fun u => u != Str.ofString "") = [x] := by simp [hx]
      rw [e4, dd_snoc]
      cases hm : l.any (· == x) with
      | true =>
        have : keptAt (l ++ [x]) (l.length : Int) = false := by rw [ek, hx, hm]; rfl
        obtain ⟨y, hy, hyx⟩ := List.any_eq_true.mp hm
        have hxl : x ∈ l := by rw [← eq_of_beq hyx]; exact hy
        rw [ddS, if_pos (dd_mem.mpr (List.mem_filter.mpr ⟨hxl, hx⟩))]
        simp [this]
      | false =>
        have : keptAt (l ++ [x]) (l.length : Int) = true := by rw [ek, hx, hm]; rfl
        have hxl : ¬ x ∈ dd (l.filter fun u => u != Str.ofString "") := fun h => by
          have h1 := (List.mem_filter.mp (dd_mem.mp h)).1
          have : l.any (· == x) = true := List.any_eq_true.mpr ⟨x, h1, by simp⟩
          rw [hm] at this; cases this
        rw [ddS, if_neg hxl]
        have e5 : [(l.length : Int)].filter (keptAt (l ++ [x])) = [(l.length : Int)] := by simp [this]
        rw [e5, List.map_cons, List.map_nil, eg]
end Mine

/- part P2 -/
namespace Mine
abbrev one (c : Nat) : Str := ⟨#[c]⟩
theorem nil_cps : (Str.ofString "") = Str.empty := by rw [Str.ofString_eq_toList]; rfl
theorem one_ne (c : Nat) : (one c != Str.ofString "") = true := by
  rw [nil_cps]
  refine bne_iff_ne.mpr fun h => ?_
  have := congrArg (fun s : Str => s.cps.size) h
  simp [Str.empty] at this
theorem mem_signs {z u : Str} : z ∈ signsOf u ↔ ∃ c, c ∈ u.cps.toList ∧ z = one c := by
  simp only [signsOf, List.mem_map]
  exact ⟨fun ⟨c, h, e⟩ => ⟨c, h, e.symm⟩, fun ⟨c, h, e⟩ => ⟨c, h, e.symm⟩⟩
theorem one_mem {c : Nat} {u : Str} : one c ∈ signsOf u ↔ c ∈ u.cps.toList := by
  rw [mem_signs]
  constructor
  · rintro ⟨d, hd, e⟩
    have : c = d := by
      have := congrArg (fun s : Str => s.cps.toList) e
      simpa using this
    rw [this]; exact hd
  · exact fun h => ⟨c, h, rfl⟩
theorem upd_foldl (u z : Str) : ∀ (l : List Str) (f : Str → Option Str), (l.foldl (fun f c => updF f c u) f) z = if z ∈ l then some u else f z
  | [], f => by simp
  | c :: r, f => by
    rw [List.foldl_cons, upd_foldl u z r]
    by_cases h : z ∈ r
    · simp [h]
    · by_cases hc : z = c
      · simp [hc, updF]
      · simp [h, hc, updF]
theorem pmWord_eq (f : Str → Option Str) (u z : Str) : pmWord f u z = if z ∈ signsOf u then some u else f z := upd_foldl u z _ f
theorem pm_foldl (z : Str) : ∀ (ws : List Str) (f : Str → Option Str), (ws.foldl pmWord f) z = ((ws.filter fun u => decide (z ∈ signsOf u)).getLast?).or (f z)
  | [], f => by simp
  | u :: r, f => by
    rw [List.foldl_cons, pm_foldl z r, pmWord_eq]
    by_cases h : z ∈ signsOf u
    · rw [if_pos h, List.filter_cons_of_pos (by simpa using h), List.getLast?_cons]
      cases e : (r.filter fun u => decide (z ∈ signsOf u)).getLast? with
      | none => simp
      | some y => simp
    · rw [if_neg h, List.filter_cons_of_neg (by simpa using h)]
theorem pmOf_eq (ws : List Str) (z : Str) : pmOf ws z = (ws.filter fun u => decide (z ∈ signsOf u)).getLast? := by
  rw [pmOf, pm_foldl]; simp
theorem headOf_one (ws : List Str) (c : Nat) : headOf ws (one c) = (pmOf ws (one c)).getD (Str.ofString "") := by
  rw [headOf, holdOf, pmOf_eq, List.getLastD_eq_getLast?]
  congr 2
  refine List.filter_congr fun u _ => ?_
  rw [one_ne c, Bool.true_and]
  exact (PySem.StrLaws.found_one u c).trans (decide_eq_decide.mpr one_mem.symm)
theorem headOf_nil (ws : List Str) : headOf ws (Str.ofString "") = Str.ofString "" := by
  have : holdOf ws (Str.ofString "") = [] := by
    rw [holdOf]
    refine List.filter_eq_nil_iff.mpr fun u _ => ?_
    simp
  rw [headOf, this]; rfl
/-- a word of one to three signs -/
structure Word (u : Str) : Prop where
  pos : 0 < u.cps.size
  le : u.cps.size ≤ 3
  ok : PyData.strOk u = true
theorem word_cases {u : Str} (h : Word u) : (∃ a, u = ⟨#[a]⟩) ∨ (∃ a b, u = ⟨#[a, b]⟩) ∨ ∃ a b c, u = ⟨#[a, b, c]⟩ := by
  obtain ⟨⟨l⟩⟩ := u
  have h1 := h.pos
  have h2 := h.le
  match l with
  | [] => simp at h1
  | [a] => exact .inl ⟨a, rfl⟩
  | [a, b] => exact .inr (.inl ⟨a, b, rfl⟩)
  | [a, b, c] => exact .inr (.inr ⟨a, b, c, rfl⟩)
  | _ :: _ :: _ :: _ :: _ => simp at h2
theorem word_first {u : Str} (h : Word u) : ∃ c, c ∈ u.cps.toList ∧ Txt.item u 0 = one c ∧ Txt.slice u none (some 1) = one c := by
  rcases word_cases h with ⟨a, rfl⟩ | ⟨a, b, rfl⟩ | ⟨a, b, c, rfl⟩
  · exact ⟨a, by simp, rfl, rfl⟩
  · exact ⟨a, by simp, rfl, rfl⟩
  · exact ⟨a, by simp, rfl, rfl⟩
theorem slice_nil : Txt.slice (Str.ofString "") none (some 1) = Str.ofString "" := by rw [nil_cps]; rfl
theorem glue_cps : ∀ (l : List Str) (acc : Array Nat), (l.foldl (fun acc p => acc ++ Str.empty.cps ++ p.cps) acc).toList = acc.toList ++ (l.flatMap fun p => p.cps.toList)
  | [], acc => by simp
  | a :: r, acc => by
    rw [List.foldl_cons, glue_cps r]
    simp [Str.empty]
theorem join_signs (l : List Str) (h : ∀ x ∈ l, ∃ c, x = one c) : signsOf (Txt.join (Str.ofString "") l) = l := by
  rw [nil_cps]
  have key : (Txt.join Str.empty l).cps.toList = l.flatMap fun p => p.cps.toList := by
    cases l with
    | nil => rfl
    | cons a r =>
      show ((r.foldl (fun acc p => acc ++ Str.empty.cps ++ p.cps) a.cps)).toList = _
      rw [glue_cps]; simp
  rw [signsOf, key]
  clear key
  induction l with
  | nil => rfl
  | cons a r ih =>
    obtain ⟨c, rfl⟩ := h a (.head _)
    rw [List.flatMap_cons, List.map_append, ih fun x hx => h x (.tail _ hx)]
    rfl
end Mine

/- part P3 -/
namespace Mine
abbrev ne0 (u : Str) : Bool := u != Str.ofString ""
theorem ne0_nil : ne0 (Str.ofString "") = false := by simp [ne0]
theorem ne0_word {u : Str} (h : Word u) : ne0 u = true := by
  refine bne_iff_ne.mpr fun e => ?_
  have := h.pos
  rw [e, nil_cps] at this
  simp [Str.empty] at this
theorem pm_val {ws : List Str} {z u : Str} (h : pmOf ws z = some u) : u ∈ ws ∧ z ∈ signsOf u := by
  rw [pmOf_eq] at h
  have := List.mem_filter.mp (List.mem_of_getLast? h)
  exact ⟨this.1, by simpa using this.2⟩
theorem pm_some {ws : List Str} {z u : Str} (hu : u ∈ ws) (hz : z ∈ signsOf u) : pmOf ws z ≠ none := by
  rw [pmOf_eq]
  intro h
  have := List.getLast?_eq_none_iff.mp h
  have h2 : u ∈ ws.filter fun u => decide (z ∈ signsOf u) := List.mem_filter.mpr ⟨hu, by simpa using hz⟩
  rw [this] at h2
  cases h2
def EndOk (e : Str) : Prop := e = Str.ofString "" ∨ ∃ c, e = one c
theorem heads_filter {ws : List Str} (hw : ∀ u ∈ ws, Word u) : ∀ (l : List Str), (∀ e ∈ l, EndOk e) → (l.map (headOf ws)).filter ne0 = (l.filter ne0).filterMap (pmOf ws)
  | [], _ => rfl
  | e :: r, h => by
    have ih := heads_filter hw r fun x hx => h x (.tail _ hx)
    rcases h e (.head _) with rfl | ⟨c, rfl⟩
    · rw [List.map_cons, headOf_nil, List.filter_cons_of_neg (by rw [ne0_nil]; exact Bool.false_ne_true), List.filter_cons_of_neg (by rw [ne0_nil]; exact Bool.false_ne_true), ih]
    · rw [List.map_cons, headOf_one, List.filter_cons_of_pos (p := ne0) (a := one c) (one_ne c)]
      cases hf : pmOf ws (one c) with
      | none => rw [List.filterMap_cons_none hf, Option.getD_none, List.filter_cons_of_neg (by rw [ne0_nil]; exact Bool.false_ne_true), ih]
      | some u => rw [List.filterMap_cons_some hf, Option.getD_some, List.filter_cons_of_pos (ne0_word (hw u (pm_val hf).1)), ih]
theorem ends_filter {ws : List Str} (hw : ∀ u ∈ ws, Word u) : ∀ (l : List Str), (∀ e ∈ l, EndOk e) → ((l.map (headOf ws)).map fun u => Txt.slice u none (some 1)).filter ne0 = ((l.filter ne0).filterMap (pmOf ws)).map fun u => Txt.item u 0
  | [], _ => rfl
  | e :: r, h => by
    have ih := ends_filter hw r fun x hx => h x (.tail _ hx)
    rcases h e (.head _) with rfl | ⟨c, rfl⟩
    · rw [List.map_cons, List.map_cons, headOf_nil, slice_nil, List.filter_cons_of_neg (by rw [ne0_nil]; exact Bool.false_ne_true), List.filter_cons_of_neg (by rw [ne0_nil]; exact Bool.false_ne_true), ih]
    · rw [List.map_cons, List.map_cons, headOf_one, List.filter_cons_of_pos (p := ne0) (a := one c) (one_ne c)]
      cases hf : pmOf ws (one c) with
      | none => rw [List.filterMap_cons_none hf, Option.getD_none, slice_nil, List.filter_cons_of_neg (by rw [ne0_nil]; exact Bool.false_ne_true), ih]
      | some u =>
        obtain ⟨d, _, e1, e2⟩ := word_first (hw u (pm_val hf).1)
        rw [List.filterMap_cons_some hf, Option.getD_some, e2, List.filter_cons_of_pos (p := ne0) (one_ne d), List.map_cons, e1, ih]
theorem endOk_head {ws : List Str} (hw : ∀ u ∈ ws, Word u) {e : Str} (h : EndOk e) : EndOk (Txt.slice (headOf ws e) none (some 1)) := by
  rcases h with rfl | ⟨c, rfl⟩
  · rw [headOf_nil, slice_nil]; exact .inl rfl
  · rw [headOf_one]
    cases hf : pmOf ws (one c) with
    | none => rw [Option.getD_none, slice_nil]; exact .inl rfl
    | some u =>
      obtain ⟨d, _, _, e2⟩ := word_first (hw u (pm_val hf).1)
      rw [Option.getD_some, e2]; exact .inr ⟨d, rfl⟩
theorem more_one {i : Nat} (hi : i < 6) : ∃ c, mores.getD i Str.empty = one c := by
  have hl : mores.length = 6 := by
    rw [mores, signsOf_length, Str.ofString_eq_toList]; rfl
  have hm : mores.getD i Str.empty ∈ mores := by
    rw [List.getD_eq_getElem?_getD, List.getElem?_eq_getElem (by omega)]
    exact List.getElem_mem _
  obtain ⟨c, _, e⟩ := mem_signs.mp hm
  exact ⟨c, e⟩
theorem signs_ends {row e : Str} (h : e ∈ signsOf row) : EndOk e := by
  obtain ⟨c, _, e⟩ := mem_signs.mp h
  exact .inr ⟨c, e⟩
theorem signs_filter (row : Str) : (signsOf row).filter ne0 = signsOf row := List.filter_eq_self.mpr fun e h => by
  obtain ⟨c, _, rfl⟩ := mem_signs.mp h
  exact one_ne c
theorem map_as_filterMap (g : Str → Str) (l : List Str) : l.map g = l.filterMap (fun u => some (g u)) := by simp
theorem ys_words {ws : List Str} {row : Str} {i : Nat} {u : Str} (h : u ∈ ysAt (pmOf ws) row i) : u ∈ ws := by
  rw [ysAt, ysOf, newFrom_dd, dd_mem, List.mem_filterMap] at h
  obtain ⟨x, _, e⟩ := h
  exact (pm_val e).1
theorem row_signs {ws : List Str} (hw : ∀ u ∈ ws, Word u) (row : Str) (i : Nat) : signsOf (rowAt (pmOf ws) row (i + 1)) = (ysAt (pmOf ws) row i).map fun u => Txt.item u 0 := by
  show signsOf (nextRow (ysAt (pmOf ws) row i)) = _
  rw [nextRow]
  refine join_signs _ fun x hx => ?_
  obtain ⟨u, hu, rfl⟩ := List.mem_map.mp hx
  obtain ⟨c, _, e, _⟩ := word_first (hw u (ys_words hu))
  exact ⟨c, e⟩
theorem inv {ws : List Str} (hw : ∀ u ∈ ws, Word u) (row : Str) : ∀ i, i ≤ 6 → (∀ e ∈ endsAt ws row i, EndOk e) ∧ dd ((endsAt ws row i).filter ne0) = dd (signsOf (rowAt (pmOf ws) row i))
  | 0, _ => ⟨fun _ h => signs_ends h, by rw [endsAt, signs_filter, rowAt]⟩
  | i + 1, hi => by
    obtain ⟨h1, h2⟩ := inv hw row i (by omega)
    obtain ⟨c, hc⟩ := more_one (i := i) (by omega)
    have hall : ∀ e ∈ endsAt ws row i ++ [mores.getD i Str.empty], EndOk e := fun e he => by
      rcases List.mem_append.mp he with h | h
      · exact h1 e h
      · rw [List.mem_singleton.mp h, hc]; exact .inr ⟨c, rfl⟩
    refine ⟨fun e he => ?_, ?_⟩
    · rw [endsAt, endsOf, headsOf, List.map_map] at he
      obtain ⟨x, hx, rfl⟩ := List.mem_map.mp he
      exact endOk_head hw (hall x hx)
    · rw [endsAt, endsOf, headsOf, ends_filter hw _ hall, row_signs hw, map_as_filterMap, map_as_filterMap, ysAt, ysOf, newFrom_dd, dd_filterMap, List.filter_append]
      rw [← dd_filterMap _ ((List.filterMap (pmOf ws) _)), ← dd_filterMap (pmOf ws), hc]
      have e4 : [one c].filter ne0 = [one c] := List.filter_cons_of_pos (one_ne c)
      rw [e4, dd_snoc_eq h2, dd_filterMap, ← dd_filterMap _ (List.filterMap (pmOf ws) (dd (signsOf (rowAt (pmOf ws) row i) ++ [one c]))), dd_filterMap (pmOf ws), dd_filterMap]
theorem due_told {ws : List Str} (hw : ∀ u ∈ ws, Word u) (row : Str) (i : Nat) (hi : i < 6) : dueAt ws row i = ysAt (pmOf ws) row i := by
  obtain ⟨h1, h2⟩ := inv hw row i (by omega)
  obtain ⟨c, hc⟩ := more_one hi
  have hall : ∀ e ∈ endsAt ws row i ++ [mores.getD i Str.empty], EndOk e := fun e he => by
    rcases List.mem_append.mp he with h | h
    · exact h1 e h
    · rw [List.mem_singleton.mp h, hc]; exact .inr ⟨c, rfl⟩
  have e4 : [one c].filter ne0 = [one c] := List.filter_cons_of_pos (one_ne c)
  rw [dueAt, dueOf_dd, headsOf]
  show dd (List.filter ne0 _) = _
  rw [heads_filter hw _ hall, ysAt, ysOf, newFrom_dd, List.filter_append, hc, e4, ← dd_filterMap, dd_snoc_eq h2, dd_filterMap]
theorem good_run {ws : List Str} (hw : ∀ u ∈ ws, Word u) {row : Str} (hr : row.cps.size ≤ 63) (hhit : ∃ x ∈ signsOf row, pmOf ws x ≠ none) : GoodRun (pmOf ws) row := by
  have hit : ∀ i, ∃ x ∈ signsOf (rowAt (pmOf ws) row i), pmOf ws x ≠ none := fun i => by
    induction i with
    | zero => exact hhit
    | succ i ih =>
      obtain ⟨x, hx, hp⟩ := ih
      cases hf : pmOf ws x with
      | none => exact absurd hf hp
      | some u =>
        have hu : u ∈ ysAt (pmOf ws) row i := by
          rw [ysAt, ysOf, newFrom_dd, dd_mem, List.mem_filterMap]
          exact ⟨x, List.mem_append_left _ hx, hf⟩
        obtain ⟨c, h1, h2, _⟩ := word_first (hw u (ys_words hu))
        rw [row_signs hw]
        exact ⟨one c, List.mem_map.mpr ⟨u, hu, h2⟩, pm_some (ys_words hu) (one_mem.mpr h1)⟩
  have cnt : ∀ i, (ysAt (pmOf ws) row i).length ≤ (rowAt (pmOf ws) row i).cps.size + 1 := fun i => by
    rw [ysAt, ysOf, newFrom_dd]
    refine Nat.le_trans (dd_len _) (Nat.le_trans (List.length_filterMap_le _ _) ?_)
    rw [List.length_append, signsOf_length, List.length_singleton]
    exact Nat.le_refl _
  have len : ∀ i, (rowAt (pmOf ws) row i).cps.size ≤ 63 + i := fun i => by
    induction i with
    | zero => exact hr
    | succ i ih =>
      rw [← signsOf_length, row_signs hw, List.length_map]
      have := cnt i
      omega
  refine ⟨fun i _ => hit i, fun i hi => ?_, fun i hi => ?_, fun i _ u hu => ?_⟩
  · have := len i
    show (rowAt (pmOf ws) row i).cps.size ≤ 100
    omega
  · have := len i
    have := cnt i
    omega
  · have hW := hw u (ys_words hu)
    refine ⟨hW.ok, hW.pos, ?_⟩
    have := hW.le
    show u.cps.size ≤ 100
    omega
end Mine

/- part P4 -/
namespace Mine
theorem sg_cps : Str.ofString "abcdefgh" = ⟨#[97, 98, 99, 100, 101, 102, 103, 104]⟩ := by rw [Str.ofString_eq_toList]; rfl
theorem item_one (i : Int) : ∃ c, c < 0x110000 ∧ Txt.item (Str.ofString "abcdefgh") i = one c := by
  refine ⟨(Txt.charAt (Str.ofString "abcdefgh") i).getD 0, ?_, rfl⟩
  cases h : Txt.charAt (Str.ofString "abcdefgh") i with
  | none => decide
  | some c =>
    rw [Option.getD_some]
    unfold Txt.charAt at h
    obtain ⟨j, _, hj⟩ := Option.bind_eq_some_iff.mp h
    have hm := Array.mem_of_getElem? hj
    rw [sg_cps] at hm
    simp only [List.mem_toArray, List.mem_cons, List.not_mem_nil, or_false] at hm
    omega
theorem ok3 {a b c : Nat} (ha : a < 0x110000) (hb : b < 0x110000) (hc : c < 0x110000) : Word ⟨#[a]⟩ ∧ Word ⟨#[a, b]⟩ ∧ Word ⟨#[a, b, c]⟩ := by
  refine ⟨⟨by simp, by simp, ?_⟩, ⟨by simp, by simp, ?_⟩, ⟨by simp, by simp, ?_⟩⟩
  · simp [PyData.strOk, ha]
  · simp [PyData.strOk, ha, hb]
  · simp [PyData.strOk, ha, hb, hc]
theorem wordOf_word {y : Int} (k : Int) (h0 : 0 ≤ y) (h1 : y < 1536) : Word (wordOf y k) := by
  obtain ⟨a, ha, e1⟩ := item_one (y.fmod 8)
  obtain ⟨b, hb, e2⟩ := item_one ((y.fdiv 8 + k).fmod 8)
  obtain ⟨c, hc, e3⟩ := item_one ((y.fdiv 64 + 3 * k).fmod 8)
  have hw := ok3 ha hb hc
  have hd : y.fdiv 512 = 0 ∨ y.fdiv 512 = 1 ∨ y.fdiv 512 = 2 := by
    have : y.fdiv 512 = y / 512 := Int.fdiv_eq_ediv_of_nonneg _ (by omega)
    omega
  unfold wordOf sg
  rw [e1, e2, e3]
  rcases hd with h | h | h <;> rw [h]
  · exact hw.2.2
  · exact hw.2.1
  · exact hw.1
theorem words4_word : ∀ u ∈ words4, Word u := by
  intro u hu
  have e : words4 = [⟨#[100, 101]⟩, ⟨#[99, 100]⟩, ⟨#[98, 99]⟩, ⟨#[97, 98]⟩] := by
    unfold words4
    rw [Str.ofString_eq_toList, Str.ofString_eq_toList, Str.ofString_eq_toList, Str.ofString_eq_toList]; rfl
  rw [e] at hu
  simp only [List.mem_cons, List.not_mem_nil, or_false] at hu
  rcases hu with rfl | rfl | rfl | rfl <;> exact (ok3 (c := 0) (by decide) (by decide) (by decide)).2.1
theorem words_word {ns : List Int} (hr : ∀ n ∈ ns, 0 ≤ n ∧ n < 1536) : ∀ u ∈ wordsTo ns ns.length, Word u := by
  intro u hu
  rcases List.mem_append.mp hu with h | h
  · exact words4_word u h
  · obtain ⟨j, hj, rfl⟩ := List.mem_map.mp h
    have hm : ns.getD j 0 ∈ ns := by
      have := List.mem_range.mp hj
      rw [List.getD_eq_getElem?_getD, List.getElem?_eq_getElem this]
      exact List.getElem_mem _
    exact wordOf_word _ (hr _ hm).1 (hr _ hm).2
theorem more2_word (total : Int) : Word (more2 total) := by
  obtain ⟨a, ha, e1⟩ := item_one ((total + 3).fmod 8)
  obtain ⟨b, hb, e2⟩ := item_one ((total.fdiv 8 + 4).fmod 8)
  unfold more2
  rw [e1, e2]
  exact (ok3 (c := 0) ha hb (by decide)).2.1
theorem row_size (t : Option Int) : (Txt.slice (Str.ofString "abcdefgh") t none ++ Str.ofString "abcdefgh").cps.size ≤ 63 := by
  have h1 := Txt.slice_le (Str.ofString "abcdefgh") t none
  have h2 : (Str.ofString "abcdefgh").cps.size = 8 := by rw [sg_cps]; rfl
  show ((Txt.slice (Str.ofString "abcdefgh") t none).cps ++ (Str.ofString "abcdefgh").cps).size ≤ 63
  rw [Array.size_append, h2]
  have h3 : (Txt.slice (Str.ofString "abcdefgh") t none).cps.size ≤ (Str.ofString "abcdefgh").cps.size := h1
  omega
theorem row_hit (t : Option Int) {ws : List Str} (h : Str.ofString "ab" ∈ ws) : ∃ x ∈ signsOf (Txt.slice (Str.ofString "abcdefgh") t none ++ Str.ofString "abcdefgh"), pmOf ws x ≠ none := by
  refine ⟨one 97, one_mem.mpr ?_, pm_some h (one_mem.mpr ?_)⟩
  · show 97 ∈ ((Txt.slice (Str.ofString "abcdefgh") t none).cps ++ (Str.ofString "abcdefgh").cps).toList
    rw [Array.toList_append, sg_cps]
    exact List.mem_append_right _ (by simp)
  · rw [Str.ofString_eq_toList]
    simp
theorem ab_mem (ns : List Int) (i : Nat) : Str.ofString "ab" ∈ wordsTo ns i := List.mem_append_left _ (by simp [words4])
end Mine

/- part Law4 -/
namespace Mine
/-- as GoodW, but generators may have been made -/
def GoodWB (c : ClaimW) (cl : Str → Option Addr) (mean : ExcName → Option Value) (args : List WData) (s₁ : Shared) (res : Result) (s' : Shared) : Prop :=
  (∃ v d as, res = .ok (.ret v) ∧ (∀ cls, c.raises args cls = false) ∧ ReadsW c.records cl s'.heap v d as ∧ c.post args d args = true ∧
      (c.unshared = true → as.Nodup ∧ ∀ a ∈ as, s₁.heap.get? a = none)) ∧
  (∀ b o, s₁.heap.get? b = some o → s'.heap.get? b = some o) ∧ s'.os = s₁.os ∧ AllBare s'.gens

theorem kn_postG {M : Model} {A : Around} {cd : Code} {s s₁ : Shared} {cw : ClaimW} {cl : Str → Option Addr} {mean : ExcName → Option Value} {args : List WData} {tabs : List (Addr × Addr)} (hT : TabsAt tabs s₁.heap)
    (h : codeAny M A cd (fun r s' => GoodWB cw cl mean args { s₁ with heap := ghostOf s₁.heap tabs } r s' ∧ GrownAll tabs s'.heap) s) : codeAny M A cd (GoodWG cw cl mean args s₁) s :=
  codeAny_mono h fun r s' ⟨⟨hc, hk, hos, hg⟩, hgr⟩ => by
    have keep : ∀ b o, b ∉ tabs.map (·.2) → s₁.heap.get? b = some o → s'.heap.get? b = some o := fun b o hb e => hk b o (ghost_ne e hb)
    have grown : ∀ b o, b ∈ tabs.map (·.2) → s₁.heap.get? b = some o → isCodeTable s₁.heap b ∧ o = tabObj #[] ∧ ∃ ps, s'.heap.get? b = some (tabObj ps) := fun b o hb e => by
      obtain ⟨q, hq, rfl⟩ := List.mem_map.mp hb
      have e2 := (hT q hq).2
      rw [e] at e2
      exact ⟨((hT q hq).1.tab (hT q hq).2).isCodeTable, Option.some.inj e2, hgr.get q hq⟩
    refine ⟨?_, ⟨fun b o e => ?_, fun b o e => ?_⟩, hos, hg⟩
    · obtain ⟨v, d, as, r1, r2, r3, r4, r5⟩ := hc
      refine .inl ⟨v, d, as, r1, r2, r3, r4, fun q => ⟨(r5 q).1, fun a ha => ?_⟩⟩
      cases q1 : s₁.heap.get? a with
      | none => rfl
      | some o =>
        by_cases hb : a ∈ tabs.map (·.2)
        · obtain ⟨_, _, ps, hP⟩ := grown a o hb q1
          exact absurd ha (readsW_apart hP rfl r3)
        · have e3 := (r5 q).2 a ha
          rw [show (ghostOf s₁.heap tabs).get? a = some o from ghost_ne q1 hb] at e3
          cases e3
    · by_cases hb : b ∈ tabs.map (·.2)
      · obtain ⟨ht, rfl, ps, hP⟩ := grown b o hb e
        exact .inr (.inl ⟨ht, rfl, #[], ps, rfl, by rw [Array.empty_append]; exact hP⟩)
      · exact .inl (keep b o hb e)
    · by_cases hb : b ∈ tabs.map (·.2)
      · obtain ⟨_, _, ps, hP⟩ := grown b o hb e
        exact ⟨_, hP⟩
      · exact ⟨o, keep b o hb e⟩
local macro_rules | `(tactic| kn_posts) => `(tactic| refine kn_postG (by assumption) ?_)
local macro_rules | `(tactic| walk_at "Mstep") => `(tactic| (first | (k_unfold; (try dsimp only)) | walk1 | (dsimp only; walk1)))
local macro_rules | `(tactic| walk_at "MtoW") => `(tactic| repeat ((fail_if_success (with_reducible show wpAny _ _ (call (Value.ref 63) _) _ _ _)); walk_at "Mstep"))
local macro_rules | `(tactic| walk_at "MtoT") => `(tactic| repeat ((fail_if_success (with_reducible show wpAny _ _ (call (Value.ref 68) _) _ _ _)); walk_at "Mstep"))

theorem all_cons {α : Type} {P : α → Prop} {a : α} {l : List α} (h : P a) (t : ∀ q ∈ l, P q) : ∀ q ∈ a :: l, P q := fun q hq => by
  rcases List.mem_cons.mp hq with rfl | hq
  · exact h
  · exact t q hq
theorem news_pick {h₀ h : Heap} {L : Addr} {a0 a1 a2 a3 a4 a5 a6 a7 a8 a9 a10 a11 a12 a13 a14 : Addr × Obj} (N : News h₀ L h [a0, a1, a2, a3, a4, a5, a6, a7, a8, a9, a10, a11, a12, a13, a14]) :
    News h₀ L h (a1 :: a10 :: [a0, a2, a3, a4, a5, a6, a7, a8, a9, a11, a12, a13, a14]) := fun q hq => N q (by
  simp only [List.mem_cons, List.not_mem_nil, or_false] at hq ⊢
  rcases hq with h | h | h | h | h | h | h | h | h | h | h | h | h | h | h <;> simp only [h, true_or, or_true])
theorem look1 : PySem.Challenge.rw_nb0383_01.Holds := by
  refine hd ?_
  k_go0
  all_goals try k_fold
  walk_at "MtoW"
  rename IntsAre _ (List.map _ _) => hI8
  rename Fr _ _ _ _ => F1
  rename News _ _ _ _ => N1
  rename (_ ∧ _) => hne1
  have hns : ∀ l : List Int, ∀ n ∈ l.map (fun k' => k'.fmod 1536), 0 ≤ n ∧ n < 1536 := fun l n hn => by
    obtain ⟨x, _, rfl⟩ := List.mem_map.mp hn
    exact ⟨Int.fmod_nonneg_of_pos _ (by omega), Int.fmod_lt_of_pos _ (by omega)⟩
  refine words_claim (by assumption) F1 (by assumption) N1 (by assumption) rfl hI8 (hns _) ?_ ?_ ?_ ?_
  · rw [List.length_map, List.length_take]; omega
  · decide
  · decide
  · intro d vs n h' tk' F2 N2 hl1 hl2 hS
    clear F1 N1
    dsimp only
    replace hl2 := allLt_of hl2
    simp only [AllLt, and_true] at hl2
    generalize hws : wordsTo _ _ = ws at hS
    repeat ((fail_if_success (with_reducible show wpAny _ _ (execs (Stmt.Assign [Expr.Name (Str.ofString "told") _] _ _ :: _) _) _ _ _)); walk_at "Mstep")
    rename Fr _ _ _ _ => F3
    rename News _ _ _ _ => N3
    have hwd : ∀ u ∈ ws, Word u := hws ▸ words_word (hns _)
    have hab : Str.ofString "ab" ∈ ws := hws ▸ ab_mem _ _
    have hlen : ws.length ≤ 90 := by rw [← hws, wordsTo_length, List.length_map, List.length_take]; omega
    have hwd2 : ∀ t, ∀ u ∈ ws ++ [more2 t], Word u := fun t u hu => by
      rcases List.mem_append.mp hu with h | h
      · exact hwd u h
      · rw [List.mem_singleton.mp h]; exact more2_word t
    rename Obj.data _ = Data.cell _ => hcel
    refine law_tail (by assumption) (by assumption) (by assumption) (by assumption) F3 (news_pick N3) (.tail _ (.head _)) (.tail _ (.tail _ (.head _))) (by assumption) (by assumption) (.head _) (.tail _ (.tail _ (.tail _ (.tail _ (.tail _ (.tail _ (.head _))))))) (.tail _ (.tail _ (.tail _ (.tail _ (.tail _ (.tail _ (.tail _ (.head _)))))))) (.tail _ (.tail _ (.tail _ (.tail _ (.head _))))) (.tail _ (.tail _ (.tail _ (.tail _ (.tail _ (.head _)))))) (by assumption) (by assumption) (.tail _ (.tail _ (.tail _ (.tail _ (.tail _ (.tail _ (.tail _ (.tail _ (.head _))))))))) hcel hS hlen (fun u hu => (hwd u hu).le) (fun u hu => (hwd u hu).ok) (row_size _) ?_ ?_ ?_ ?_ (good_run hwd (row_size _) (row_hit _ hab)) (good_run (hwd2 _) (row_size _) (row_hit _ (List.mem_append_left _ hab))) ⟨(more2_word _).le, (more2_word _).ok⟩ (fun i hi => due_told hwd _ i hi) (fun i hi => due_told (hwd2 _) _ i hi) ?_
    · show @Ne Nat _ _
      omega
    · repeat (refine all_cons ⟨?_, ?_⟩ ?_ <;> (try (show @Ne Nat _ _; dsimp only; first | omega | exact Nat.ne_of_lt hl1)))
      exact fun _ h => nomatch h
    · omega
    · exact AllBare.of_eq (by assumption)
    · intro h9 tk9 gn9 hk9 N9 hb9
      refine ⟨⟨⟨.bool true, .bool true, [], rfl, fun _ => rfl, ?_, ?_, fun _ => ⟨List.nodup_nil, fun _ h => nomatch h⟩⟩, hk9, rfl, hb9⟩, ⟨_, (N9 (51, _) (.tail _ (.tail _ (.tail _ (.tail _ (.tail _ (.tail _ (.tail _ (.tail _ (.tail _ (.tail _ (.tail _ (.head _))))))))))))).1⟩, ⟨_, (N9 (23, _) (.tail _ (.tail _ (.tail _ (.tail _ (.tail _ (.tail _ (.tail _ (.tail _ (.tail _ (.tail _ (.tail _ (.tail _ (.head _)))))))))))))).1⟩, trivial⟩
      · exact .bool ..
      · wrow_post
end Mine

theorem PySem.Challenge.cw_nb0383_01_holds : PySem.Challenge.rw_nb0383_01.Holds := by
  exact Mine.look1
