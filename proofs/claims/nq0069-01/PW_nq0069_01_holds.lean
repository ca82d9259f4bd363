import PyProof.Rows.All
import Wide.All
import OpenK.AllK
import Wide.FinOn
import PySem.Challenge.RW_nq0069_01
open PySem PySem.W PyProof.Rows
set_option Elab.async false
set_option maxRecDepth 100000
set_option maxHeartbeats 8000000
namespace Mine
noncomputable section
-- spares the congruence lemma of the written part K (3.6 MB in the compiled file), which the head makes and never uses
local macro_rules | `(tactic| o_head ($f:ident $k $a $e)) => `(tactic| ((try (have : Function.const (Params → Frag) true $k = true := by (set_option maxHeartbeats 1 in k_qdec))); o_head (@$f $k $a $e)))
open_top hd for PySem.Challenge.rw_nq0069_01

section
open PySem.Calls
theorem kind_issub_q : (builtinKind "issubclass.nested").isNone = true := by k_qdec
theorem kind_issub_nested : builtinKind "issubclass.nested" = none := Option.isNone_iff_eq_none.mp kind_issub_q
theorem plain_issub_nested : plainId "issubclass.nested" = true := by k_qdec
theorem args_issub_nested (a b c : Value) : argsOk "issubclass.nested" ⟨[a, b, c], []⟩ := by unfold argsOk; kernel_rfl
theorem sub_str : isSubtype (.type "str") (.type "str") = pure true := by rw [isSubtype_type]; kernel_rfl
theorem ty_str : typeOf (.type "str") = pure (.type "type") := by kernel_rfl

section
variable {prog : Program} {w : World} {A : Around} {E : Value → Shared → Prop}
theorem issub_str {k : Value} {dep : Int} {tk : Tok} {s : Shared} {Q : Fin → Shared → Prop} (hk : k = .int dep tk) (hq : Q (.done (.ret (.bool true))) s) :
    wpAny (model prog w) A (Builtin.«issubclass.nested» ⟨[.type "str", .type "str", k], []⟩) Q E s := by
  subst hk
  have hm := ty_str
  have hself := sub_str
  repeat (any_goals (first | assumption | (rw [if_pos hm]) | (rw [hself]) | wp_step))
theorem issub_meets (k : Int) (tk : Tok) : Meets (Builtin.«issubclass.nested» ⟨[.type "str", .type "str", .int k tk], []⟩) (fun _ R s => R (.ok (.ret (.bool true))) s) :=
  fun _ _ _ _ _ hs => issub_str rfl hs
theorem issub_tuple {tp : Addr} {c : Value} {tk : Tok} {s : Shared} {Q : Fin → Shared → Prop}
    (htp : s.heap.get? tp = some { cls := .type "tuple", data := .seq #[.type "str", c] })
    (hq : ∀ tk', Q (.done (.ret (.bool true))) { s with toks := tk' }) : wpAny (model prog w) A (Builtin.«issubclass.nested» ⟨[.type "str", .ref tp, .int 0 tk], []⟩) Q E s := by
  obtain ⟨h, g, d, t, os⟩ := s
  have hT2 : (⟨h, g, d, t, os⟩ : Shared).TypeIs (.ref tp) "tuple" := ⟨_, htp, rfl⟩
  have f1 := F.isi_sub_tuple
  repeat (any_goals (first | assumption | ((with_reducible show wpAny _ _ (call (Value.builtin "issubclass.nested") _ _) _ _ _); refine call_function_meets kind_issub_nested plain_issub_nested F.entry_issubclass_nested (args_issub_nested _ _ _) (issub_meets _ _) ?_) | wp_step))
  exact hq t
theorem issub_top {tp : Addr} {c : Value} {s : Shared} {Q : Value → Shared → Prop}
    (htp : s.heap.get? tp = some { cls := .type "tuple", data := .seq #[.type "str", c] })
    (hq : ∀ tk', Q (.bool true) { s with toks := tk' }) : wpAny (model prog w) A (call (.builtin "issubclass") [.type "str", .ref tp]) Q E s :=
  call_issubclass (S := fun _ R s => s.heap.get? tp = some { cls := .type "tuple", data := .seq #[.type "str", c] } ∧ ∀ tk', R (.ok (.ret (.bool true))) { s with toks := tk' })
    (fun _ _ _ _ _ hs => issubclass_outer (issub_tuple hs.1 hs.2)) ⟨htp, fun tk' => hq tk'⟩
end

end
section
open PySem.Calls
section
variable {prog : Program} {w : World} {A : Around} {E : Value → Shared → Prop} {s : Shared} {env : Env} {h₀ : Heap} {x : Str} {body : List Stmt} {Q : Flow → Shared → Prop}

/-- a turn's end: the loop's own iterator and list stand, and J holds of the frame's map and the rest of the ledger -/
def TurnEnd (h₀ : Heap) (L : Addr) (J : (Str → Option Value) → List (Addr × Obj) → Prop) (I : Addr) (oI : Obj) (l : Addr) (o : Obj) (s₁ s₂ : Shared) : Prop :=
  ∃ h' tk m' news', s₂ = { s₁ with heap := h', toks := tk } ∧ Fr h₀ L h' m' ∧ News h₀ L h' ((I, oI) :: (l, o) :: news') ∧ (∀ p ∈ news', p.1 ≠ I) ∧ J m' news'
def TurnPost (h₀ : Heap) (L : Addr) (J : (Str → Option Value) → List (Addr × Obj) → Prop) (I : Addr) (oI : Obj) (l : Addr) (o : Obj) (s₁ : Shared) (Q : Flow → Shared → Prop) (f : Flow) (s₂ : Shared) : Prop :=
  match f with
  | .ret v => Q (.ret v) s₂
  | .brk => Q .next s₂
  | _ => TurnEnd h₀ L J I oI l o s₁ s₂

theorem iter_led {l : Addr} {o : Obj} {vs : List Value} {m₀ : Str → Option Value} {news : List (Addr × Obj)} (J : Nat → (Str → Option Value) → List (Addr × Obj) → Prop)
    (hh : A.handled = none) (hc : o.cls = .type "list") (hd : ∃ k, o.data = .seq vs.toArray k) (F : Fr h₀ env.locals s.heap m₀) (N : News h₀ env.locals s.heap ((l, o) :: news)) (hj : J 0 m₀ news)
    (turn : ∀ i v m₁ news₁ h tk I oI, vs[i]? = some v → J i m₁ news₁ → (∀ p ∈ news₁, p.1 ≠ I) → (@Ne Nat l I) → Fr h₀ env.locals h (fun y => if y = x then some v else m₁ y) → News h₀ env.locals h ((I, oI) :: (l, o) :: news₁) →
      wpAny (model prog w) A (execs body env) (TurnPost h₀ env.locals (J (i + 1)) I oI l o { s with heap := h, toks := tk } Q) E { s with heap := h, toks := tk })
    (done : ∀ m₁ news₁ h tk, J vs.length m₁ news₁ → Fr h₀ env.locals h m₁ → News h₀ env.locals h ((l, o) :: news₁) → Q .next { s with heap := h, toks := tk }) :
    wpAny (model prog w) A (pyIter (.ref l)) (fun it s₂ => LoopAtV prog w A h₀ env x body Q E it s₂) E s := by
  have hlo := N (l, o) List.mem_cons_self
  have hls : s.heap.IsList l vs.toArray := ⟨o, hlo.1, hc, hd⟩
  have hlt : l < s.heap.objs.size := Heap.lt_size hlo.1
  have hne : l ≠ s.heap.objs.size := Nat.ne_of_lt hlt
  refine wpAny_pyIter_list hls ?_
  have W := Walks.list (prog := prog) (w := w) hh s.heap.objs.size l hne vs.toArray
  rw [List.size_toArray] at W
  let J' : Nat → (Str → Option Value) → List (Addr × Obj) → Prop := fun i m₁ news₁ => ∃ n₂, news₁ = (l, o) :: n₂ ∧ J i m₁ n₂
  refine ⟨_, _, _, vs.length, _, _, m₀, (l, o) :: news, J', rfl, W, ?_, ?_, ?_, ⟨⟨_, Heap.get?_push_size _ rfl, rfl, rfl⟩, hls.at fun o e => Heap.get?_push_of_some _ e⟩, F.push _, (fun p hp => ⟨Heap.get?_push_of_some _ (N p hp).1, (N p hp).2⟩), ⟨news, rfl, hj⟩, ?_, ?_⟩
  · intro hm
    rcases List.mem_cons.mp hm with e | hm
    · exact absurd F.ns.lt (e ▸ Nat.lt_irrefl _)
    · exact hlo.2.1 (List.mem_singleton.mp hm).symm
  · intro b hb
    rw [List.mem_singleton.mp hb]
    exact next_is_new F
  · intro p hp hI
    exact absurd (Heap.lt_size (N p hp).1) ((List.mem_singleton.mp hI) ▸ Nat.lt_irrefl _)
  · rintro i v m₁ news₁ s₁ own ⟨hh', tk', rfl⟩ hin hP ⟨n₂, rfl, hJ⟩ hoff hown hget hall hst F₁ N₁
    obtain ⟨oI, hoI, _⟩ := hst.1
    have hI₀ : h₀.get? s.heap.objs.size = none := next_is_new F
    have hIown : (s.heap.objs.size, oI) ∈ own := hall _ List.mem_cons_self hI₀ oI hoI
    have hlown : (l, o) ∈ own ++ (l, o) :: n₂ := List.mem_append_right _ List.mem_cons_self
    have N₂ : News h₀ env.locals hh' ((s.heap.objs.size, oI) :: (l, o) :: n₂) := fun p hp => by
      rcases List.mem_cons.mp hp with rfl | hp
      · exact N₁ _ (List.mem_append_left _ hIown)
      · exact N₁ _ (List.mem_append_right _ hp)
    have hoffI : ∀ p ∈ n₂, p.1 ≠ s.heap.objs.size := fun p hp e => hoff p (List.mem_cons_of_mem _ hp) (List.mem_singleton.mpr e)
    have hP' : vs[i]? = some v := by simpa using hP
    refine wpAny_mono (turn i v m₁ n₂ hh' tk' _ oI hP' hJ hoffI hne F₁ N₂) (fun f s₂ p => ?_) fun _ _ e => e
    have hown' : ∀ q ∈ own, q = (s.heap.objs.size, oI) ∨ q = (l, o) := fun q hq => by
      rcases List.mem_cons.mp (hown q hq) with e | e
      · left
        have := hget q hq
        rw [e, hoI] at this
        exact Prod.ext e (Option.some.inj this).symm
      · right
        have e' := List.mem_singleton.mp e
        have := hget q hq
        have h2 := (N₂ (l, o) (List.mem_cons_of_mem _ List.mem_cons_self)).1
        rw [e'] at this
        exact Prod.ext e' (Option.some.inj (this.symm.trans h2))
    have fin : TurnEnd h₀ env.locals (J (i + 1)) s.heap.objs.size oI l o { s with heap := hh', toks := tk' } s₂ → LoopStepU h₀ env.locals [s.heap.objs.size] own (J' (i + 1)) { s with heap := hh', toks := tk' } .next s₂ := by
      rintro ⟨h', tk, m', news', e, F', N', hn, hm⟩
      refine ⟨rfl, h', tk, m', (l, o) :: news', e, F', fun p hp => ?_, fun p hp hq => ?_, news', rfl, hm⟩
      · rcases List.mem_append.mp hp with hp | hp
        · rcases hown' p hp with rfl | rfl
          · exact N' _ List.mem_cons_self
          · exact N' _ (List.mem_cons_of_mem _ List.mem_cons_self)
        · exact N' _ (List.mem_cons_of_mem _ hp)
      · rcases List.mem_cons.mp hp with rfl | hp
        · exact hne (List.mem_singleton.mp hq)
        · exact hn p hp (List.mem_singleton.mp hq)
    cases f with
    | ret v => exact .ret p
    | brk => exact .brk p
    | next => exact .next (fin p)
    | cont => exact .cont (fin p)
  · rintro h' tk m' news' F' N' _ ⟨n₂, rfl, hJ⟩
    exact done m' n₂ h' tk hJ F' N'

/-- a turn's end, the frame's map told by a state -/
def TurnEndS {σ : Type} (h₀ : Heap) (L : Addr) (x : Str) (M : σ → Str → Option Value) (J : σ → List (Addr × Obj) → Prop) (I : Addr) (oI : Obj) (l : Addr) (o : Obj) (s₁ s₂ : Shared) : Prop :=
  ∃ h' tk a cv news', s₂ = { s₁ with heap := h', toks := tk } ∧ Fr h₀ L h' (fun y => if y = x then cv else M a y) ∧ News h₀ L h' ((I, oI) :: (l, o) :: news') ∧ (∀ p ∈ news', p.1 ≠ I) ∧ J a news'
def TurnPostS {σ : Type} (h₀ : Heap) (L : Addr) (x : Str) (M : σ → Str → Option Value) (J : σ → List (Addr × Obj) → Prop) (I : Addr) (oI : Obj) (l : Addr) (o : Obj) (s₁ : Shared) (Q : Flow → Shared → Prop) (f : Flow) (s₂ : Shared) : Prop :=
  match f with
  | .ret v => Q (.ret v) s₂
  | .brk => Q .next s₂
  | _ => TurnEndS h₀ L x M J I oI l o s₁ s₂
theorem TurnEndS.intro {σ : Type} {L : Addr} {M : σ → Str → Option Value} {J : σ → List (Addr × Obj) → Prop} {I : Addr} {oI : Obj} {l : Addr} {o : Obj} {s₁ : Shared} {h' : Heap} {tk : Nat} {all : List (Addr × Obj)} (a : σ) {cv : Option Value} (news' : List (Addr × Obj))
    (F : Fr h₀ L h' (fun y => if y = x then cv else M a y)) (N : News h₀ L h' all) (hs : ∀ p ∈ (I, oI) :: (l, o) :: news', p ∈ all) (hI : ∀ p ∈ news', p.1 ≠ I) (hJ : J a news') :
    TurnEndS h₀ L x M J I oI l o s₁ { s₁ with heap := h', toks := tk } := ⟨h', tk, a, cv, news', rfl, F, fun p hp => N p (hs p hp), hI, hJ⟩

theorem iter_ledS {σ : Type} {L l : Addr} {o : Obj} {vs : List Value} {news : List (Addr × Obj)} (M : σ → Str → Option Value) (a₀ : σ) (J : Nat → σ → List (Addr × Obj) → Prop)
    (hh : A.handled = none) (hc : o.cls = .type "list") (hd : ∃ k, o.data = .seq vs.toArray k) (F : Fr h₀ L s.heap (M a₀)) (N : News h₀ L s.heap ((l, o) :: news)) (hL : env.locals = L) (hj : J 0 a₀ news)
    (turn : ∀ i v a news₁ h tk I oI, vs[i]? = some v → J i a news₁ → (∀ p ∈ news₁, p.1 ≠ I) → (@Ne Nat l I) → Fr h₀ L h (fun y => if y = x then some v else M a y) → News h₀ L h ((I, oI) :: (l, o) :: news₁) →
      wpAny (model prog w) A (execs body env) (TurnPostS h₀ L x M (J (i + 1)) I oI l o { s with heap := h, toks := tk } Q) E { s with heap := h, toks := tk })
    (done : ∀ a cv news₁ h tk, J vs.length a news₁ → Fr h₀ L h (fun y => if y = x then cv else M a y) → News h₀ L h ((l, o) :: news₁) → Q .next { s with heap := h, toks := tk }) :
    wpAny (model prog w) A (pyIter (.ref l)) (fun it s₂ => LoopAtV prog w A h₀ env x body Q E it s₂) E s := by
  subst hL
  refine iter_led (fun i m nws => ∃ a cv, m = (fun y => if y = x then cv else M a y) ∧ J i a nws) hh hc hd F N ⟨a₀, M a₀ x, ?_, hj⟩ ?_ ?_
  · funext y
    by_cases h : y = x
    · simp [h]
    · simp [h]
  · rintro i v m₁ news₁ h tk I oI hv ⟨a, cv, rfl, hJ⟩ hI hl F₁ N₁
    have e : (fun y => if y = x then some v else if y = x then cv else M a y) = fun y => if y = x then some v else M a y := by
      funext y
      by_cases h : y = x
      · simp [h]
      · simp [h]
    rw [e] at F₁
    refine wpAny_mono (turn i v a news₁ h tk I oI hv hJ hI hl F₁ N₁) (fun f s₂ p => ?_) fun _ _ e => e
    have fin : TurnEndS h₀ env.locals x M (J (i + 1)) I oI l o { s with heap := h, toks := tk } s₂ → TurnEnd h₀ env.locals (fun m nws => ∃ a cv, m = (fun y => if y = x then cv else M a y) ∧ J (i + 1) a nws) I oI l o { s with heap := h, toks := tk } s₂ := by
      rintro ⟨h', tk, a', cv', news', e, F', N', hn, hm⟩
      exact ⟨h', tk, _, news', e, F', N', hn, a', cv', rfl, hm⟩
    cases f with
    | ret v => exact p
    | brk => exact p
    | next => exact fin p
    | cont => exact fin p
  · rintro m₁ news₁ h tk ⟨a, cv, rfl, hJ⟩ F₁ N₁
    exact done a cv news₁ h tk hJ F₁ N₁

theorem For_F {L : Addr} {m : Str → Option Value} {px pos : Pos} {iter : Expr} (F : Fr h₀ L s.heap m) (hx : env.kindOf x = some .local)
    (hp : (env.scope.kind == .class || (env.scope.kind == .module && env.locals != env.globals)) = false)
    (h : wpAny (model prog w) A (eval iter env) (fun xv s₁ => wpAny (model prog w) A (pyIter xv) (fun it s₂ => LoopAtV prog w A h₀ env x body Q E it s₂) E s₁) E s)
    (hs : ∀ x, foldedSetIterable iter env x = pure x := by intro _; rfl)
    (hE : PassesOwn (model prog w) A env E := by passes_own) :
    wpAny (model prog w) A (exec (.For (.Name x px) iter body [] pos) env) Q E s := For_invV h₀ hx hp h hs hE
end

end
section
open PySem.Calls PySem.Builtin.Str
theorem line_of {n : Nat} (h : n ≤ 100000) : n ≤ sizeLine := by rw [sizeLine_eq]; omega
theorem strs_snoc {y : Str} {t : Tok} {vs : List Value} {ys : List Str} (h : StrsAre vs ys) : StrsAre (vs ++ [.str y t]) (ys ++ [y]) := StrsAre.append' h (.cons y t .nil)
theorem strs_len {vs : List Value} {ys : List Str} (h : StrsAre vs ys) : vs.length = ys.length := h.length
theorem strs_last {us : List Value} {l : List Str} (hi : StrsAre us l) : 0 < us.length → ∃ y t, us = us.dropLast ++ [y] ∧ y = Value.str (l.getLastD Str.empty) t ∧ StrsAre us.dropLast l.dropLast := by
  induction hi with
  | nil => intro h; exact absurd h (Nat.lt_irrefl 0)
  | cons k t r ih =>
    intro _
    cases r with
    | nil => exact ⟨.str k t, t, rfl, rfl, .nil⟩
    | cons k' t' r' =>
      obtain ⟨y, u, h1, h2, h3⟩ := ih (Nat.succ_pos _)
      exact ⟨y, u, congrArg (List.cons (Value.str k t)) h1, h2, .cons k t h3⟩
section
variable {prog : Program} {w : World} {A : Around} {E : Value → Shared → Prop} {s : Shared} {h₀ : Heap} {L D : Addr} {m : Str → Option Value} {news news' : List (Addr × Obj)} {n : Nat} {vs : List Value} {ys : List Str}
theorem append_T {x : Value} {Q : Value → Shared → Prop} (F : Fr h₀ L s.heap m) (N : News h₀ L s.heap news) (U : Upd D (listOf vs.toArray n) (listOf (vs ++ [x]).toArray (n + 1)) news news')
    (hz : vs.length ≤ 100000) (h : ∀ h', Fr h₀ L h' m → News h₀ L h' news' → Q .none { s with heap := h' }) : wpAny (model prog w) A (call (.builtin "list.append") [.ref D, x]) Q E s :=
  append_K F N (by rw [List.push_toArray]; exact U) h (line_of (by simpa using hz))
theorem pop_T {Q : Value → Shared → Prop} (F : Fr h₀ L s.heap m) (N : News h₀ L s.heap news) (U : Upd D (listOf vs.toArray n) (listOf vs.dropLast.toArray (n + 1)) news news') (hi : StrsAre vs ys) (hne : 0 < vs.length)
    (hz : vs.length ≤ 100000) (h : ∀ h' t, Fr h₀ L h' m → News h₀ L h' news' → StrsAre vs.dropLast ys.dropLast → Q (.str (ys.getLastD Str.empty) t) { s with heap := h' }) : wpAny (model prog w) A (call (.builtin "list.pop") [.ref D]) Q E s := by
  obtain ⟨y, t, h1, h2, h3⟩ := strs_last hi hne
  subst h2
  refine kl_pop F N (p := vs.dropLast) (y := .str (ys.getLastD Str.empty) t) ?_ U (by simpa using line_of hz) fun h' F' N' => h h' t F' N' h3
  have e := kpa_last (.str (ys.getLastD Str.empty) t) vs.dropLast
  rw [← h1] at e
  simpa using e
theorem truthy_T {Q : Bool → Shared → Prop} (N : News h₀ L s.heap news) (hm : (D, listOf vs.toArray n) ∈ news) (hz : vs.length ≤ 100000) (h : Q (decide (0 < vs.length)) { s with toks := s.toks + 1 + 1 }) :
    wpAny (model prog w) A (truthy (.ref D)) Q E s :=
  wpAny_truthy_list ⟨_, (N _ hm).1, rfl, _, rfl⟩ (by rw [List.size_toArray]; omega) (by cases vs <;> simpa using h)
theorem last_T {value slice : Expr} {u : Tok} {Q : Value → Shared → Prop} (N : News h₀ L s.heap news) (hm : (D, listOf vs.toArray n) ∈ news) (hi : StrsAre vs ys) (hne : 0 < vs.length) (h : ∀ t, Q (.str (ys.getLastD Str.empty) t) s)
    (hs : subscripted slice false (.ref D) (.int (-1) u) = operate [.ref D, .int (-1) u] (getItem (.ref D) (.int (-1) u)) := by with_unfolding_all rfl) (hg : ∀ r, letTemporaryGo value (.ref D) r = pure () := by intro _; with_unfolding_all rfl) :
    wpAny (model prog w) A (subscriptTail value slice (.ref D) (.int (-1) u)) Q E s := by
  obtain ⟨y, t, h1, h2, h3⟩ := strs_last hi hne
  subst h2
  refine kim_back N hm rfl rfl (by omega) (by omega) (by omega) ?_ (h t) hs hg
  have hl : ((-1 : Int) + (vs.length : Int)).toNat = vs.dropLast.length := by rw [List.length_dropLast]; omega
  rw [hl]
  conv => lhs; arg 1; rw [h1]
  simp
theorem split_T {x y : Str} {t u : Tok} {Q : Value → Shared → Prop} (F : Fr h₀ L s.heap m) (N : News h₀ L s.heap news) (hy : (y.length == 0) = false) (hz : x.length ≤ 100000)
    (h : ∀ D us h' k, StrsAre us (Txt.split x y) → Fr h₀ L h' m → News h₀ L h' ((D, listOf us.toArray 0) :: news) → (∀ p ∈ news, p.1 < D) → Q (.ref D) { s with heap := h', toks := k }) :
    wpAny (model prog w) A (call (.builtin "str.split") [.str x t, .str y u]) Q E s :=
  splitN1 F N hy (fun l h' k e F' N' => h _ (strValues l) h' k (by rw [← e]; exact strsAre_of_values l) F' N' (fun p hp => Heap.lt_size (N p hp).1)) (by rw [sizeLine_eq]; omega)
theorem join_T {x : Str} {t : Tok} {Q : Value → Shared → Prop} (N : News h₀ L s.heap news) (hm : (D, listOf vs.toArray n) ∈ news) (hi : StrsAre vs ys) (hsep : x.length ≤ 16) (hw : (ys.map (·.length)).sum + ys.length ≤ 1048576)
    (h : ∀ t' k, Q (.str (Txt.join x ys) t') { s with toks := k }) : wpAny (model prog w) A (call (.builtin "str.join") [.str x t, .ref D]) Q E s :=
  join_listW (items := vs.toArray) ⟨_, (N _ hm).1, rfl, _, rfl⟩ (by simpa using hi) hsep hw h
theorem in_T {k : Str} {t : Tok} {Q : Value → Shared → Prop} (N : News h₀ L s.heap news) (hm : (D, listOf vs.toArray n) ∈ news) (hi : StrsAre vs ys)
    (h : Q (.bool (ys.any (· == k))) s) : wpAny (model prog w) A (compareOp .In (.str k t) (.ref D)) Q E s :=
  in_list_strs ⟨_, (N _ hm).1, rfl, _, rfl⟩ hi h
end

end
section
open PySem.Calls
section
variable {M : Model} {A : Around} {E : Value → Shared → Prop} {s : Shared}
theorem note_first {base : Heap} {env : Env} {outer : List Env} {L e : Addr} {oe : Obj} {vs : Array Value} {a0 : Value} {Q : Unit → Shared → Prop}
    (hfr : A.frames = some (env :: outer)) (hl : s.heap.FunFrames base (env :: outer)) (hf : env.frame = some L)
    (he : s.heap.get? e = some oe) (hkb : base.StaysIn s.heap) (hen : base.get? e = none) (hd : oe.data = .fields vs) (h1 : vs[1]? = some .none) (h0 : vs[0]? = some a0)
    (h : ∀ h', Heap.HeldW base (env :: outer) e oe.cls a0 L h' → s.heap.UpToSlots h' → Q () { s with heap := h' }) : wpAny M A (noteFrame (.ref e) env) Q E s := by
  unfold noteFrame
  simp only [hf]
  refine wpAny_bind (wpAny_field he hd h1 ?_)
  rw [if_neg (by decide)]
  exact wpAny_entryW hfr hl hf he hkb hen hd (Array.getElem?_eq_some_iff.mp h1).1 h0 fun h' ⟨x1, x2, x3, x4⟩ => h h' ⟨x1, hen, x2, x3⟩ x4
end
section
variable {prog : Program} {w : World} {A₀ : Around} {s' : Shared} {base g g₀ h : Heap} {outer : List Env} {L a e : Addr} {m : Str → Option Value} {name : Str} {scope : Scope} {cd : Value}
  {b₀ : Stmt} {suite : List Stmt} {pos : Pos} {rest : List ExceptHandler} {Q : Flow → Shared → Prop} {news : List (Addr × Obj)} {KF : Frag} {tt : Expr} {X : String}
  {p : Program} {loose : List Str} {mean : ExcName → Option Value} {mg mb : Str → Option Value}
/-- an exception that the frame's own try takes: the ground turns in the frames' slots alone -/
theorem caught_here (hx : Heap.NewExc h s'.heap e X) (K : Below A₀ base outer g) (F : Fr g L h m) (N : News g L h news) (XB : KF.In base) (TB : Top p loose mean mg mb base)
    (D : KtsDicts (outer.filterMap (·.frame)) g) (T0 : KtsTurn (outer.filterMap (·.frame)) g₀ g) (T : KtsTest prog w KF p loose mg mb name scope L a cd (.type X) tt true) (hk : scope.kind = .function)
    (k : ∀ h' g', KtsTurn (outer.filterMap (·.frame)) g₀ g' → Fr g' L h' m → News g' L h' news → Below A₀ base outer g' → KF.In g' → Top p loose mean mg mb g' → KtsDicts (outer.filterMap (·.frame)) g' →
      wpAny (model prog w) ((A₀.deeper (envOf name scope L a cd)).mark (some (.ref e))) (execs (b₀ :: suite) (envOf name scope L a cd)) Q (fun _ _ => False) { s' with heap := h' }) :
    wpAny (model prog w) (A₀.deeper (envOf name scope L a cd)) (noteFrame (.ref e) (envOf name scope L a cd))
      (fun _ s₂ => wpAny (model prog w) (A₀.deeper (envOf name scope L a cd)) (setFlight (.ref e) none) (fun _ s₃ =>
        wpAny (model prog w) (A₀.deeper (envOf name scope L a cd)) (handleBy (.ref e) (envOf name scope L a cd) (.ExceptHandler (some tt) none (b₀ :: suite) pos :: rest)) Q (fun _ _ => False) s₃) (fun _ _ => False) s₂) (fun _ _ => False) s' := by
  have K' := K.push (name := name) (a := a) (cd := cd) F hk
  have hin : ∀ env ∈ (envOf name scope L a cd :: outer), ∀ b, env.frame = some b → b ∈ (envOf name scope L a cd :: outer).filterMap (·.frame) := fun env he b hb => List.mem_filterMap.mpr ⟨env, he, hb⟩
  have st : base.StaysIn (hideAll h ((envOf name scope L a cd :: outer).filterMap (·.frame))) := fun b o q => hideAll_get _ (K'.stays b o q) fun hm => by
    rw [(K'.frames.mem hm).1] at q; cases q
  have sg : ∀ b o, h.get? b = some o → b ∉ (envOf name scope L a cd :: outer).filterMap (·.frame) → (hideAll h ((envOf name scope L a cd :: outer).filterMap (·.frame))).get? b = some o := fun b o q nm => hideAll_get _ q nm
  have hl : ∀ q ∈ news, (hideAll h ((envOf name scope L a cd :: outer).filterMap (·.frame))).get? q.1 = some q.2 := fun q hq => by
    refine hideAll_get _ (N q hq).1 fun hm => ?_
    obtain ⟨env, he, hf⟩ := List.mem_filterMap.mp hm
    rcases List.mem_cons.mp he with rfl | he
    · exact (N q hq).2.1 (Option.some.inj hf).symm
    · obtain ⟨o, ho, _⟩ := (K.frames.mem (List.mem_filterMap.mpr ⟨env, he, hf⟩)).2
      rw [(N q hq).2.2] at ho; cases ho
  obtain ⟨ob, tp, he, hcls, hd⟩ := hx.there
  have hen : (hideAll h ((envOf name scope L a cd :: outer).filterMap (·.frame))).get? e = none := by
    cases q : (hideAll h ((envOf name scope L a cd :: outer).filterMap (·.frame))).get? e with
    | none => rfl
    | some o => have := of_hideAll _ q; rw [hx.new] at this; cases this
  have nm : ∀ b o, g.get? b = some o → b ∉ news.map (·.1) := fun b o e q => by
    obtain ⟨p, hp, rfl⟩ := List.mem_map.mp q
    rw [(N p hp).2.2] at e; cases e
  have FG : Fr g L (hideAll h (news.map (·.1))) m := ⟨F.ns.at' fun o q => hideAll_get _ q fun hm => by
      obtain ⟨p, hp, z⟩ := List.mem_map.mp hm
      exact (N p hp).2.1 z, fun b o q => hideAll_get _ (F.keep b o q) (nm b o q), F.above⟩
  refine note_first (a0 := tp) (Around.frames_deeper K.stack) ((funFrames_hide K'.frames hin).of_keeps fun b o hb _ => ⟨o, hx.keeps b o hb, rfl⟩) rfl he (fun b o hb => hx.keeps b o (of_hideAll _ hb)) hen hd rfl rfl fun h₁ hheld hsm₁ => ?_
  refine wpAny_landsW hheld fun h₂ hfl hsm₂ => ?_
  rw [hcls] at hfl
  have hsm : (hideAll h (news.map (·.1))).UpToSlots h₂ := (((Heap.UpToSlots.of_keeps (fun b o q => of_hideAll _ q)).trans (Heap.UpToSlots.of_keeps hx.keeps)).trans hsm₁).trans hsm₂
  have R : RaisedSN base (hideAll h (news.map (·.1))) (envOf name scope L a cd :: outer) e (.type X) news h₂ :=
    ⟨_, tp, st, fun b o q nf => sg b o (of_hideAll _ q) nf, fun q hq => ⟨hl q hq, hideAll_none _ (List.mem_map_of_mem hq), fresh_of_stays K.stays (N q hq).2.2⟩, hfl⟩
  exact hit_SN0 (s' := { s' with heap := h₂ }) R FG K hsm XB TB D T0 T k
end
section
variable {prog : Program} {w : World} {A : Around} {s : Shared} {env : Env} {Q : Flow → Shared → Prop}
/-- a while by an invariant over the whole state, where nothing leaves by an exception -/
theorem While_I {test : Expr} {body : List Stmt} {pos : Pos} (I : Nat → Shared → Prop) (n : Nat) (h0 : I n s)
    (turn : ∀ n s, I n s → wpAny (model prog w) A (isTrue test env (eval test env)) (fun b s₂ =>
      if b = true then wpAny (model prog w) A (execs body env) (fun f s₃ => match f with
          | .next | .cont => ∃ m, m < n ∧ I m s₃
          | .brk => Q .next s₃
          | .ret v => Q (.ret v) s₃) (fun _ _ => False) s₂
      else Q .next s₂) (fun _ _ => False) s) :
    wpAny (model prog w) A (exec (.While test body [] pos) env) Q (fun _ _ => False) s := by
  refine wpAny_While (codeAny_whileLoop I (fun n s hI => wpAny_mono (turn n s hI) (fun b s₂ h₂ => ?_) fun _ _ x => x.elim) n h0)
  cases b with
  | true =>
    simp only [if_true] at h₂ ⊢
    refine wpAny_mono h₂ (fun f s₃ h₃ => ?_) fun _ _ x => x.elim
    cases f <;> exact h₃
  | false =>
    simp only [Bool.false_eq_true, if_false] at h₂ ⊢
    exact wpAny_execs_nil h₂
end
theorem strs_split {vs : List Value} {ys : List Str} (h : StrsAre vs ys) {k : Str} (hk : k ∈ ys) : ∃ vp vq t p q, vs = vp ++ Value.str k t :: vq ∧ ys = p ++ k :: q ∧ k ∉ p ∧ StrsAre vp p ∧ StrsAre vq q := by
  induction h with
  | nil => cases hk
  | cons y t r ih =>
    by_cases hy : y = k
    · subst hy
      exact ⟨[], _, t, [], _, rfl, rfl, by simp, .nil, r⟩
    · rcases List.mem_cons.mp hk with h | h
      · exact absurd h.symm hy
      · obtain ⟨vp, vq, t', p, q, rfl, rfl, hn, h1, h2⟩ := ih h
        exact ⟨_ :: vp, vq, t', _ :: p, q, rfl, rfl, by simp [Ne.symm hy, hn], .cons y t h1, h2⟩
section
variable {prog : Program} {w : World} {A : Around} {E : Value → Shared → Prop} {s : Shared} {h₀ : Heap} {L D : Addr} {m : Str → Option Value} {news : List (Addr × Obj)} {n : Nat} {vs : List Value} {ys : List Str}
theorem remove_T {k : Str} {t : Tok} {Q : Value → Shared → Prop} {pre post : List (Addr × Obj)} (F : Fr h₀ L s.heap m) (N : News h₀ L s.heap (pre ++ (D, listOf vs.toArray n) :: post)) (a : ∀ p ∈ pre, p.1 ≠ D) (b : ∀ p ∈ post, p.1 ≠ D) (hi : StrsAre vs ys) (hk : k ∈ ys) (hz : vs.length ≤ 100000)
    (h : ∀ h' us, StrsAre us (ys.erase k) → Fr h₀ L h' m → News h₀ L h' (pre ++ (D, listOf us.toArray (n + 1)) :: post) → Q .none { s with heap := h' }) :
    wpAny (model prog w) A (call (.builtin "list.remove") [.ref D, .str k t]) Q E s := by
  obtain ⟨vp, vq, t', p, q, rfl, rfl, hn, h1, h2⟩ := strs_split hi hk
  have z := N (D, listOf (vp ++ Value.str k t' :: vq).toArray n) (List.mem_append.mpr (.inr (.head _)))
  have hlt : vp.length < (vp ++ Value.str k t' :: vq).toArray.size := by simp
  have hit : isStrOf k ((vp ++ Value.str k t' :: vq).toArray[vp.length]'hlt) = true := by simp [isStrOf]
  have hno : ∀ i (hm : i < (vp ++ Value.str k t' :: vq).toArray.size), i < vp.length → isStrOf k ((vp ++ Value.str k t' :: vq).toArray[i]'hm) = false := by
    intro i hm hl
    have e : (vp ++ Value.str k t' :: vq).toArray[i]'hm = vp[i] := by simp [List.getElem_append_left, hl]
    rw [e]
    obtain ⟨y, ty, hy, hyi⟩ := StrsAre.item h1 i _ (List.getElem?_eq_getElem hl)
    rw [hy]
    show (y == k) = false
    have : y ≠ k := fun e => hn (e ▸ List.mem_of_getElem? hyi)
    simpa using this
  refine call_meets PySem.F.slot_list_remove ⟨_, z.1, rfl⟩ PySem.F.entry_list_remove (PySem.F.args_list_remove_2 _ _)
    (PySem.MeetsSeq.list_remove D _ n (.str k t) (isStrOf k) (fun y hy => eq_isStrOf k t hi y (by simpa using hy)) vp.length hlt hit hno (by simpa using line_of hz))
    ⟨z.1, h _ (vp ++ vq) ?_ (F.change (Heap.SameBut.update ..) z.2.1 z.2.2) (kl_turn _ N a b ?_ ?_)⟩
  · rw [List.erase_append_right _ hn, List.erase_cons_head]
    exact StrsAre.append' h1 h2
  · exact kl_erase vp vq _
  · simp
theorem remove_none {k : Str} {t : Tok} {Q : Value → Shared → Prop} (hh : A.handled = none) (N : News h₀ L s.heap news) (hm : (D, listOf vs.toArray n) ∈ news) (hi : StrsAre vs ys) (hk : k ∉ ys)
    (h : ∀ h' tk e, Heap.NewExc s.heap h' e "ValueError" → E (.ref e) { s with heap := h', toks := tk }) :
    wpAny (model prog w) A (call (.builtin "list.remove") [.ref D, .str k t]) Q E s := by
  refine call_meets PySem.F.slot_list_remove ⟨_, (N _ hm).1, rfl⟩ PySem.F.entry_list_remove (PySem.F.args_list_remove_2 _ _)
    (PySem.MeetsSeq.list_remove_none D vs.toArray n (.str k t) (isStrOf k) (fun y hy => eq_isStrOf k t hi y (by simpa using hy)) ?_) ⟨(N _ hm).1, hh, h⟩
  intro i hi'
  have hl : i < vs.length := by simpa using hi'
  have e : vs.toArray[i]'hi' = vs[i] := by simp
  rw [e]
  obtain ⟨y, ty, hy, hyi⟩ := StrsAre.item hi i _ (List.getElem?_eq_getElem hl)
  rw [hy]
  show (y == k) = false
  have : y ≠ k := fun e => hk (e ▸ List.mem_of_getElem? hyi)
  simpa using this
end

end
section
open PySem.Calls
section
variable {prog : Program} {w : World} {A : Around} {h₀ : Heap} {L : Addr} {m : Str → Option Value} {env : Env} {ct elt : Expr} {x : Str} {scope : Scope} {cl : List (Str × Addr)} {s : Shared} {S : List (Addr × Obj) → Prop}
  {Fin : List Value → List (Addr × Obj) → Prop} {news : List (Addr × Obj)} {us : List Value} {ds : List Str}
/-- an element's end: a text, the ledger as it was -/
def TxtEnd (h₀ : Heap) (L : Addr) (m : Str → Option Value) (all : List (Addr × Obj)) (s : Shared) (r : Str) (y : Value) (s₂ : Shared) : Prop :=
  ∃ h' tk' t', s₂ = { s with heap := h', toks := tk' } ∧ y = .str r t' ∧ Fr h₀ L h' m ∧ News h₀ L h' all
theorem comp_map (g : Str → Str) (hS : StrsAre us ds) (hs : S news)
    (turn : ∀ d t I oI C oC D m₂ ys h tk (E' : Value → Shared → Prop), d ∈ ds → LCg.NsObj oC m₂ → m₂ x = some (.str d t) → Fr h₀ L h m → News h₀ L h ((I, oI) :: (C, oC) :: (D, LCg.lst ys) :: news) →
      wpAny (model prog w) A (eval elt (compEnvC scope cl C env)) (TxtEnd h₀ L m ((I, oI) :: (C, oC) :: (D, LCg.lst ys) :: news) s (g d)) E' { s with heap := h, toks := tk })
    (fin : ∀ ys, StrsAre ys (ds.map g) → Fin ys news) :
    LCg.CompRest prog w A h₀ L m env elt x scope cl s S (fun i v => us.toArray[i]? = some v) Fin us.toArray.size 0 [] news := by
  have key : ∀ (j i : Nat) (ys : List Value), i + j = us.length → StrsAre ys ((ds.take i).map g) → LCg.CompRest prog w A h₀ L m env elt x scope cl s S (fun i v => us.toArray[i]? = some v) Fin j i ys news := by
    intro j
    induction j with
    | zero =>
      intro i ys hi hy
      rw [show i = ds.length by rw [← hS.length]; omega, List.take_length] at hy
      exact LCg.CompRest.zero (fin ys hy)
    | succ j ih =>
      intro i ys hi hy
      refine LCg.CompRest.succ ?_
      intro v I oI C oC D m₂ h tk E' hv hC hx F N off ne
      obtain ⟨d, t, rfl, hd⟩ := StrsAre.item hS i v (by simpa using hv)
      refine wpAny_mono (turn d t I oI C oC D m₂ ys h tk E' (List.mem_of_getElem? hd) hC hx F N) (fun y s₂ hq => ?_) fun _ _ e => e
      obtain ⟨h', tk', t', rfl, rfl, F', N'⟩ := hq
      refine ⟨h', tk', news, rfl, F', N', off, hs, ih (i + 1) _ (by omega) ?_⟩
      rw [List.take_add_one, hd]
      simpa using strs_snoc hy
  have := key us.length 0 [] (by omega) (by simpa using .nil)
  simpa using this
/-- a turn with a test: the ledger may go on from state to state, the test's answer hangs on the item alone -/
def TestEnd {σ : Type} (prog : Program) (w : World) (A : Around) (h₀ : Heap) (L : Addr) (m : Str → Option Value) (elt : Expr) (ce : Env) (led : σ → List (Addr × Obj)) (inv : σ → Prop) (I : Addr) (oI : Obj) (C : Addr) (oC : Obj) (D : Addr) (ys : List Value) (s : Shared) (b : Bool) (r : Str) (ok : Bool) (s' : Shared) : Prop :=
  ∃ a h' tk', ok = b ∧ s' = { s with heap := h', toks := tk' } ∧ inv a ∧ Fr h₀ L h' m ∧ News h₀ L h' ((I, oI) :: (C, oC) :: (D, LCg.lst ys) :: led a) ∧ LCg.Off3 I C D (led a) ∧
    (b = true → ∀ E', wpAny (model prog w) A (eval elt ce) (TxtEnd h₀ L m ((I, oI) :: (C, oC) :: (D, LCg.lst ys) :: led a) s r) E' s')
theorem TestEnd.intro {σ : Type} {elt : Expr} {ce : Env} {led : σ → List (Addr × Obj)} {inv : σ → Prop} {I C D : Addr} {oI oC : Obj} {ys : List Value} {b ok : Bool} {r : Str} {h' : Heap} {tk' : Nat} {all : List (Addr × Obj)} (a : σ) (hok : ok = b) (hI : inv a) (F : Fr h₀ L h' m) (N : News h₀ L h' all)
    (sub : ∀ p ∈ (I, oI) :: (C, oC) :: (D, LCg.lst ys) :: led a, p ∈ all) (off : LCg.Off3 I C D (led a))
    (hel : b = true → News h₀ L h' ((I, oI) :: (C, oC) :: (D, LCg.lst ys) :: led a) → ∀ E', wpAny (model prog w) A (eval elt ce) (TxtEnd h₀ L m ((I, oI) :: (C, oC) :: (D, LCg.lst ys) :: led a) s r) E' { s with heap := h', toks := tk' }) :
    TestEnd prog w A h₀ L m elt ce led inv I oI C oC D ys s b r ok { s with heap := h', toks := tk' } :=
  ⟨a, h', tk', hok, rfl, hI, F, fun p hp => N p (sub p hp), off, fun e => hel e fun p hp => N p (sub p hp)⟩
theorem off1_mem {D : Addr} : ∀ {l : List (Addr × Obj)}, LCg.Off1 D l → ∀ p ∈ l, p.1 ≠ D
  | [], _, _, h => nomatch h
  | _ :: _, x, p, h => by
    rcases List.mem_cons.mp h with rfl | h
    · exact x.1
    · exact off1_mem x.2 p h
theorem comp_filter {σ α : Type} (led : σ → List (Addr × Obj)) (inv : Nat → σ → Prop) (val : α → Tok → Value) {xs : List α} (p : α → Bool) (g : α → Str) (hlen : us.length = xs.length) (hsrc : ∀ (i : Nat) v, us[i]? = some v → ∃ a t, v = val a t ∧ xs[i]? = some a) (hs : ∀ a, S (led a)) (a₀ : σ) (h0 : inv 0 a₀)
    (turn : ∀ i a d t I oI C oC D m₂ ys h tk (E' : Value → Shared → Prop), xs[i]? = some d → inv i a → LCg.NsObj oC m₂ → m₂ x = some (val d t) → Fr h₀ L h m → News h₀ L h ((I, oI) :: (C, oC) :: (D, LCg.lst ys) :: led a) → LCg.Off3 I C D (led a) → ((@Ne Nat I C) ∧ (@Ne Nat I D) ∧ (@Ne Nat C D)) →
      wpAny (model prog w) A (isTrue ct (compEnvC scope cl C env) (eval ct (compEnvC scope cl C env))) (TestEnd prog w A h₀ L m elt (compEnvC scope cl C env) led (inv (i + 1)) I oI C oC D ys s (p d) (g d)) E' { s with heap := h, toks := tk })
    (fin : ∀ a ys, inv xs.length a → StrsAre ys ((xs.filter p).map g) → Fin ys (led a)) :
    LCt.CompRestT prog w A h₀ L m env ct elt x scope cl s S (fun i v => us.toArray[i]? = some v) Fin us.toArray.size 0 [] (led a₀) := by
  have key : ∀ (j i : Nat) (ys : List Value) (a : σ), i + j = us.length → inv i a → StrsAre ys (((xs.take i).filter p).map g) → LCt.CompRestT prog w A h₀ L m env ct elt x scope cl s S (fun i v => us.toArray[i]? = some v) Fin j i ys (led a) := by
    intro j
    induction j with
    | zero =>
      intro i ys a hi hI hy
      rw [show i = xs.length by omega] at hy hI
      rw [List.take_length] at hy
      exact LCt.CompRestT.zero (fin a ys hI hy)
    | succ j ih =>
      intro i ys a hi hI hy
      refine LCt.CompRestT.succ ?_
      intro v I oI C oC D m₂ h tk E' hv hC hx F N off ne
      obtain ⟨d, t, rfl, hd⟩ := hsrc i v (by simpa using hv)
      refine wpAny_mono (turn i a d t I oI C oC D m₂ ys h tk E' hd hI hC hx F N off ne) (fun ok s₂ hq => ?_) fun _ _ e => e
      obtain ⟨a', h', tk', rfl, rfl, hI', F', N', off', hel⟩ := hq
      cases hp : p d with
      | true =>
        simp only [if_true]
        refine wpAny_mono (hel hp E') (fun y s₃ hr => ?_) fun _ _ e => e
        obtain ⟨h5, tk5, t5, rfl, rfl, F5, N5⟩ := hr
        refine ⟨h5, tk5, led a', rfl, F5, N5, off', hs a', ih (i + 1) _ a' (by omega) hI' ?_⟩
        rw [List.take_add_one, hd]
        simpa [hp] using strs_snoc hy
      | false =>
        simp only [Bool.false_eq_true, if_false]
        refine ⟨h', tk', led a', rfl, F', N', off', hs a', ih (i + 1) _ a' (by omega) hI' ?_⟩
        rw [List.take_add_one, hd]
        simpa [hp] using hy
  have := key us.length 0 [] a₀ (by omega) h0 (by simpa using .nil)
  simpa using this
theorem comp_filter1 {α : Type} (val : α → Tok → Value) {xs : List α} (p : α → Bool) (g : α → Str) (hlen : us.length = xs.length) (hsrc : ∀ (i : Nat) v, us[i]? = some v → ∃ a t, v = val a t ∧ xs[i]? = some a) (hs : S news)
    (turn : ∀ d t I oI C oC D m₂ ys h tk (E' : Value → Shared → Prop), d ∈ xs → LCg.NsObj oC m₂ → m₂ x = some (val d t) → Fr h₀ L h m → News h₀ L h ((I, oI) :: (C, oC) :: (D, LCg.lst ys) :: news) → LCg.Off3 I C D news → ((@Ne Nat I C) ∧ (@Ne Nat I D) ∧ (@Ne Nat C D)) →
      wpAny (model prog w) A (isTrue ct (compEnvC scope cl C env) (eval ct (compEnvC scope cl C env))) (TestEnd prog w A h₀ L m elt (compEnvC scope cl C env) (fun _ : Unit => news) (fun _ => True) I oI C oC D ys s (p d) (g d)) E' { s with heap := h, toks := tk })
    (fin : ∀ ys, StrsAre ys ((xs.filter p).map g) → Fin ys news) :
    LCt.CompRestT prog w A h₀ L m env ct elt x scope cl s S (fun i v => us.toArray[i]? = some v) Fin us.toArray.size 0 [] news :=
  comp_filter (fun _ : Unit => news) (fun _ _ => True) val p g hlen hsrc (fun _ => hs) () trivial (fun i a d t I oI C oC D m₂ ys h tk E' hd _ => turn d t I oI C oC D m₂ ys h tk E' (List.mem_of_getElem? hd)) (fun _ ys _ => fin ys)
theorem src_strs (hS : StrsAre us ds) : ∀ (i : Nat) v, us[i]? = some v → ∃ a t, v = Value.str a t ∧ ds[i]? = some a := fun i v h => StrsAre.item hS i v h
end

end
section
open PySem.Calls
theorem slot_setiter_next : Slot "set_iterator" "__next__" "set_iterator.__next__" :=
  .of (owner := "set_iterator") (n := "__next__") (by rw [typeLookup_type, builtinLookup_eq_fast]; kernel_rfl) (by decide +kernel) (by decide +kernel) (by decide +kernel)
    (by first | exact .inl (by decide +kernel) | exact .inr (by decide +kernel)) (by rw [isSubtype_type]; kernel_rfl)
theorem entry_setiter_next : entryFor table "set_iterator.__next__" = some Builtin.«set_iterator.__next__» := entryFor_of_tree (by kernel_rfl)
theorem canon_setiter : (Manifest.canonical (String.map (fun c => if (c.isAlphanum || c == '_' || c == '.') = true then c else '_') "set_iterator.__iter__") ++ "" == "dict_keyiterator.__iter__") = true := by k_qdec
theorem canon_set : (Manifest.canonical (String.map (fun c => if (c.isAlphanum || c == '_' || c == '.') = true then c else '_') "set.__iter__") ++ "" == "frozenset.__iter__") = true := by k_qdec
theorem slot_setiter_iter : Slot "set_iterator" "__iter__" "set_iterator.__iter__" :=
  .of (owner := "set_iterator") (n := "__iter__") (by rw [typeLookup_type, builtinLookup_eq_fast]; kernel_rfl) (by decide +kernel) (by decide +kernel) (by decide +kernel)
    (by first | exact .inl (by decide +kernel) | exact .inr (by decide +kernel)) (by rw [isSubtype_type]; kernel_rfl)
theorem entry_setiter_iter : entryFor table "set_iterator.__iter__" = some Builtin.«dict_keyiterator.__iter__» := entryFor_alias (id' := "dict_keyiterator.__iter__") (by rw [fastTable_eq_tree]; kernel_rfl) rfl (eq_of_beq canon_setiter) (by rw [fastTable_eq_tree]; kernel_rfl)
theorem args_setiter_iter (a : Value) : argsOk "set_iterator.__iter__" ⟨[a], []⟩ := by unfold argsOk; kernel_rfl
theorem args_setiter_next (a : Value) : argsOk "set_iterator.__next__" ⟨[a], []⟩ := by unfold argsOk; kernel_rfl
theorem entry_set_iter : entryFor table "set.__iter__" = some Builtin.«frozenset.__iter__» := entryFor_alias (id' := "frozenset.__iter__") (by rw [fastTable_eq_tree]; kernel_rfl) rfl (eq_of_beq canon_set) (by rw [fastTable_eq_tree]; kernel_rfl)
section
variable {prog : Program} {w : World} {A : Around} {E : Value → Shared → Prop} {s : Shared}
abbrev setNil (led : Bool) : Obj := { cls := .type "set", data := .set #[] 0 (SetTable.fresh 0 0 led) }
abbrev setIt (S : Addr) : Obj := { cls := .type "set_iterator", data := .fields #[.int 0 0, .int 0 0, .ref S, .int 0 0, .int 0 0] }
theorem iter_set {S : Addr} {led : Bool} {Q : Value → Shared → Prop} (ho : s.heap.get? S = some (setNil led)) (hQ : Q (.ref s.heap.objs.size) { s with heap := s.heap.push (setIt S) }) :
    wpAny (model prog w) A (pyIter (.ref S)) Q E s := by
  have hT : s.TypeIs (.ref S) "set" := ⟨_, ho, rfl⟩
  refine wpAny_pyIter_slot hT PySem.F.slot_set_iter (wpAny_call_entry PySem.F.slot_set_iter hT entry_set_iter ?_ (PySem.F.args_set_iter_1 _))
  unfold Builtin.«frozenset.__iter__»
  repeat (any_goals (first | assumption | wp_step))
  refine wpAny_askSetting ?_
  generalize (model prog w).w.params.followText "set-order" = b
  refine wpAny_pure (wpAny_pure ?_)
  cases b
  all_goals (
    show wpAny _ _ (if false = true then _ else _) _ _ _
    rw [if_neg (by decide)]
    repeat (any_goals (first | assumption | wp_step)))
  all_goals exact ⟨_, rfl, "set_iterator", _, ⟨_, Heap.get?_push_size _ rfl, rfl⟩, slot_setiter_next.lookup, hQ⟩
theorem next_set {I S : Addr} {led : Bool} {Q : Option Value → Shared → Prop} (hh : A.handled = none) (hI : s.heap.get? I = some (setIt S)) (ho : s.heap.get? S = some (setNil led))
    (hQ : ∀ h', Heap.ExtBut I s.heap h' → Q none { s with heap := h' }) : wpAny (model prog w) A (pyNext (.ref I)) Q E s := by
  have hT : s.TypeIs (.ref I) "set_iterator" := ⟨_, hI, rfl⟩
  unfold pyNext
  refine wpAny_bind (wpAny_attempt (wpAny_callSpecial?_slot (name := Str.ofString "__next__") hT slot_setiter_next
    (wpAny_call_entry slot_setiter_next hT entry_setiter_next ?_ (args_setiter_next _))))
  unfold Builtin.«set_iterator.__next__»
  repeat (any_goals (first | assumption | wp_step))
  refine wpAny_askSetting ?_
  generalize hb : (model prog w).w.params.followText "set-order" = b
  refine wpAny_pure ?_
  cases b
  · simp only [Bool.false_eq_true, if_false]
    repeat (any_goals (first | assumption | wp_step))
    simp only [raiseNew]
    refine wpAny_bind (wpAny_handled ?_)
    rw [show A.in1.handled = none from hh]
    refine wpAny_bind (wpAny_pure (wpAny_throw ?_))
    refine wpAny_bind (wpAny_isInstance (T := "StopIteration") (b := true) ⟨_, Heap.get?_push_size _ rfl, rfl⟩ isSubtype_stop ?_)
    exact wpAny_pure (hQ _ (((Heap.SameBut.update ..).extBut.push _).push _))
  · simp only [if_true]
    repeat (any_goals (first | assumption | wp_step))
    refine wpAny_askSetting ?_
    rw [hb]
    refine wpAny_pure ?_
    simp only [if_true]
    repeat (any_goals (first | assumption | wp_step))
    refine wpAny_askSetting ?_
    refine wpAny_pure ?_
    repeat (any_goals (first | assumption | wp_step))
    simp only [raiseNew]
    refine wpAny_bind (wpAny_handled ?_)
    rw [show A.in1.handled = none from hh]
    refine wpAny_bind (wpAny_pure (wpAny_throw ?_))
    refine wpAny_bind (wpAny_isInstance (T := "StopIteration") (b := true) ⟨_, Heap.get?_push_size _ rfl, rfl⟩ isSubtype_stop ?_)
    exact wpAny_pure (hQ _ (((Heap.SameBut.update ..).extBut.push _).push _))
theorem iter_setit {I S : Addr} {Q : Value → Shared → Prop} (hI : s.heap.get? I = some (setIt S)) (hQ : Q (.ref I) s) : wpAny (model prog w) A (pyIter (.ref I)) Q E s := by
  have hT : s.TypeIs (.ref I) "set_iterator" := ⟨_, hI, rfl⟩
  refine wpAny_pyIter_slot hT slot_setiter_iter (wpAny_call_entry slot_setiter_iter hT entry_setiter_iter ?_ (args_setiter_iter _))
  show wpAny _ _ (ret (.ref I)) _ _ s
  exact wpAny_pure ⟨_, rfl, "set_iterator", _, hT, slot_setiter_next.lookup, hQ⟩
theorem walks_set (hh : A.handled = none) (I S : Addr) (led : Bool) :
    Walks prog w A I [I, S] [I] 0 (fun _ _ => False) (fun _ h => h.get? I = some (setIt S) ∧ h.get? S = some (setNil led)) where
  sub := fun b hb => by simp at hb; simp [hb]
  frame := fun _ _ _ st hk => ⟨hk I (by simp) _ st.1, hk S (by simp) _ st.2⟩
  item := fun i s Q E hi st hQ => absurd hi (Nat.not_lt_zero _)
  done := fun s Q E st hQ => next_set hh st.1 st.2 fun h' he' => hQ h' s.toks fun b o hb e => he' b o (fun h => hb (by simp [h])) e
  self := fun _ _ _ _ st hQ => iter_setit st.1 hQ
/-- a loop over an empty set -/
theorem iter_setN {env : Env} {h₀ : Heap} {x : Str} {body : List Stmt} {Q : Flow → Shared → Prop} {L S : Addr} {led : Bool} {m : Str → Option Value} {news : List (Addr × Obj)} (hh : A.handled = none) (F : Fr h₀ L s.heap m) (N : News h₀ L s.heap news) (hm : (S, setNil led) ∈ news) (hL : env.locals = L)
    (done : ∀ h tk, Fr h₀ L h m → News h₀ L h news → Q .next { s with heap := h, toks := tk }) :
    wpAny (model prog w) A (pyIter (.ref S)) (fun it s₂ => LoopAtV prog w A h₀ env x body Q E it s₂) E s := by
  subst hL
  have hlo := N _ hm
  have hlt : S < s.heap.objs.size := Heap.lt_size hlo.1
  have hne : S ≠ s.heap.objs.size := Nat.ne_of_lt hlt
  refine iter_set hlo.1 ?_
  refine ⟨_, _, _, 0, _, _, m, news, fun _ m' n' => m' = m ∧ n' = news, rfl, walks_set hh s.heap.objs.size S led, ?_, ?_, ?_, ⟨Heap.get?_push_size _ rfl, Heap.get?_push_of_some _ hlo.1⟩, F.push _, (fun p hp => ⟨Heap.get?_push_of_some _ (N p hp).1, (N p hp).2⟩), ⟨rfl, rfl⟩, ?_, ?_⟩
  · intro hm
    rcases List.mem_cons.mp hm with e | hm
    · exact absurd F.ns.lt (e ▸ Nat.lt_irrefl _)
    · exact hlo.2.1 (List.mem_singleton.mp hm).symm
  · intro b hb
    rw [List.mem_singleton.mp hb]
    exact next_is_new F
  · intro p hp hI
    exact absurd (Heap.lt_size (N p hp).1) ((List.mem_singleton.mp hI) ▸ Nat.lt_irrefl _)
  · intro i v m₁ news₁ s₁ own _ hi
    exact absurd hi (Nat.not_lt_zero _)
  · rintro h' tk m' news' F' N' _ ⟨rfl, rfl⟩
    exact done h' tk F' N'
theorem in_setN {h₀ : Heap} {L S : Addr} {led : Bool} {k : Str} {t : Tok} {news : List (Addr × Obj)} {Q : Value → Shared → Prop} (N : News h₀ L s.heap news) (hm : (S, setNil led) ∈ news) (h : Q (.bool false) { s with toks := s.toks + 1 }) :
    wpAny (model prog w) A (compareOp .In (.str k t) (.ref S)) Q E s :=
  wpAny_inSet_of (knd := PySem.strKind prog w) (k := k) (strKind_is _ _ _ _) rfl ((setObjOf_fresh led).setOf (N _ hm).1 (by decide)) h
end

end
section
open PySem.Calls
theorem strs_carried : ∀ {vs : List Value} {ys : List Str}, StrsAre vs ys → CarriedAll vs (ys.map PyData.str)
  | _, _, .nil => .nil
  | _, _, .cons _ t r => .cons (.str _ t) (strs_carried r)
theorem strs_canLay (ys : List Str) (h : ys.all PyData.strOk = true) : PyData.canLayAll0 (ys.map PyData.str) = true := by rw [canLayAll_strs']; exact h
theorem strs_depth : ∀ ys : List Str, PyData.depthAll (ys.map PyData.str) = 0
  | [] => rfl
  | _ :: r => by simp [PyData.depthAll, PyData.depth, strs_depth r]
theorem strs_shaped (ys : List Str) (h : ys.all PyData.strOk = true) : SeqAt.shaped (.list (ys.map PyData.str)) = true := by
  simp [SeqAt.shaped, PyData.canLay0, PyData.depth, strs_canLay ys h, strs_depth]
theorem strs_sameAll : ∀ xs ys : List Str, PySem.Spec.sameAll (xs.map PyData.str) (ys.map PyData.str) = decide (xs = ys)
  | [], [] => by simp [PySem.Spec.sameAll]
  | [], _ :: _ => by simp [PySem.Spec.sameAll]
  | _ :: _, [] => by simp [PySem.Spec.sameAll]
  | a :: r, b :: t => by
    simp only [List.map_cons, PySem.Spec.sameAll, PySem.Spec.same, strs_sameAll r t]
    by_cases h : a = b <;> by_cases h' : r = t <;> simp [h, h']
theorem strs_same (xs ys : List Str) : PySem.Spec.same (.list (xs.map PyData.str)) (.list (ys.map PyData.str)) = decide (xs = ys) := by
  simp only [PySem.Spec.same]; exact strs_sameAll xs ys
theorem ok_filter {xs : List Str} (p : Str → Bool) (h : xs.all PyData.strOk = true) : (xs.filter p).all PyData.strOk = true := by
  rw [List.all_eq_true] at h ⊢
  exact fun x hx => h x (List.mem_filter.mp hx).1
section
variable {prog : Program} {w : World} {A : Around} {E : Value → Shared → Prop} {s : Shared} {h₀ : Heap} {L a b : Addr} {news : List (Addr × Obj)} {vs us : List Value} {xs ys : List Str} {n k : Nat} {Q : Value → Shared → Prop}
theorem reads_T (N : News h₀ L s.heap news) (hm : (a, listOf vs.toArray n) ∈ news) (hi : StrsAre vs xs) : Reads s.heap (.ref a) (.list (xs.map PyData.str)) [a] := reads_newData ⟨_, (N _ hm).1, rfl, _, rfl⟩ (strs_carried hi)
theorem eq_T (N : News h₀ L s.heap news) (ha : (a, listOf vs.toArray n) ∈ news) (hb : (b, listOf us.toArray k) ∈ news) (hi : StrsAre vs xs) (hj : StrsAre us ys) (kx : xs.all PyData.strOk = true) (ky : ys.all PyData.strOk = true) (hu : A.units + 64 < cLine) (h : Q (.bool (decide (xs = ys))) s) :
    wpAny (model prog w) A (compareOp .Eq (.ref a) (.ref b)) Q E s :=
  eq_dataH_same (reads_T N ha hi) (reads_T N hb hj) (strs_shaped _ kx) (strs_shaped _ ky) hu (SeqAt.noMix_of_shape (.list .str) rfl _ _ (list_map_has fun _ => rfl) (list_map_has fun _ => rfl)) (by rw [strs_same]; exact h)
theorem ne_T (N : News h₀ L s.heap news) (ha : (a, listOf vs.toArray n) ∈ news) (hb : (b, listOf us.toArray k) ∈ news) (hi : StrsAre vs xs) (hj : StrsAre us ys) (kx : xs.all PyData.strOk = true) (ky : ys.all PyData.strOk = true) (hu : A.units + 64 < cLine) (h : Q (.bool (!decide (xs = ys))) s) :
    wpAny (model prog w) A (compareOp .NotEq (.ref a) (.ref b)) Q E s :=
  ne_dataH_same (reads_T N ha hi) (reads_T N hb hj) (strs_shaped _ kx) (strs_shaped _ ky) hu (SeqAt.noMix_of_shape (.list .str) rfl _ _ (list_map_has fun _ => rfl) (list_map_has fun _ => rfl)) (by rw [strs_same]; exact h)
end

end

/-- the surroundings of a def's body: no exception at hand, its frame on top, room for n calls more -/
structure Ar (n : Nat) (A : Around) (env : Env) (outer : List Env) (L : Addr) : Prop where
  handled : A.handled = none
  frames : A.frames = some (env :: outer)
  frame : env.frame = some L
  kind : env.scope.kind = .function
  depth : A.depth + n < recursionLimit
  units : A.units + 8 * n < cLine
theorem Ar.le {n k : Nat} {A : Around} {env : Env} {outer : List Env} {L : Addr} (H : Ar n A env outer L) (h : k ≤ n) : Ar k A env outer L :=
  ⟨H.handled, H.frames, H.frame, H.kind, by have := H.depth; omega, by have := H.units; omega⟩
theorem Ar.deeper {n : Nat} {A : Around} {env : Env} {outer : List Env} {L L' f : Addr} {qual : Str} {scope : Scope} {cdv : Value} (H : Ar (n + 1) A env outer L) (hk : scope.kind = .function) :
    Ar n (A.deeper (envOf qual scope L' f cdv)) (envOf qual scope L' f cdv) (env :: outer) L' :=
  ⟨H.handled, by show A.frames.map _ = _; rw [H.frames]; rfl, rfl, hk, by have := H.depth; show A.depth + 1 + n < _; omega, by have := H.units; show A.units + 3 + 8 * n < _; omega⟩

/-- the top's facts, in short -/
abbrev Tp (mean : ExcName → Option Value) (mg mb : Str → Option Value) (h : Heap) : Prop := Top hd.view_39 (looseW hd.view_39 [Str.ofString "normpath_posixpath", Str.ofString "normpath_path"]) mean mg mb h

/-- what a call promises: from any frame and any ledger it ends, handing back v with the ledger news' that R tells of -/
def Ctr (n : Nat) (w : World) (mean : ExcName → Option Value) (mg mb : Str → Option Value) (f : Value) (news : List (Addr × Obj)) (vs : List Value) (R : Value → List (Addr × Obj) → Prop) : Prop :=
  ∀ (A : Around) (env : Env) (outer : List Env) (A₀ : Around) (base h₀ : Heap) (L : Addr) (m : Str → Option Value) (s : Shared) (Q E : Value → Shared → Prop),
    Ar n A env outer L → Below A₀ base outer h₀ → Fr h₀ L s.heap m → (hd.heap_39 w.params).In h₀ → News h₀ L s.heap news → Top hd.view_39 (looseW hd.view_39 [Str.ofString "normpath_posixpath", Str.ofString "normpath_path"]) mean mg mb h₀ →
    (∀ v news' h' tk', R v news' → Fr h₀ L h' m → News h₀ L h' news' → Q v { s with heap := h', toks := tk' }) →
    wpAny (model Challenge.rw_nq0069_01.row.prog w) A (call f vs) Q E s

/-- the same of a body -/
def Bod (n : Nat) (w : World) (mean : ExcName → Option Value) (mg mb : Str → Option Value) (mk : Addr → Env) (m₀ : Str → Option Value) (body : List Stmt) (news : List (Addr × Obj)) (R : Value → List (Addr × Obj) → Prop) : Prop :=
  ∀ (A : Around) (outer : List Env) (A₀ : Around) (base g : Heap) (L : Addr) (s : Shared) (Q : Flow → Shared → Prop),
    Ar n A (mk L) outer L → Below A₀ base outer g → Fr g L s.heap m₀ → (hd.heap_39 w.params).In g → News g L s.heap news → Top hd.view_39 (looseW hd.view_39 [Str.ofString "normpath_posixpath", Str.ofString "normpath_path"]) mean mg mb g →
    (∀ v news' h' tk' m', R v news' → Fr g L h' m' → News g L h' news' → Q (.ret v) { s with heap := h', toks := tk' }) →
    wpAny (model Challenge.rw_nq0069_01.row.prog w) A (execs body (mk L)) Q (fun _ _ => False) s

theorem Ctr.use {n : Nat} {w : World} {mean : ExcName → Option Value} {mg mb : Str → Option Value} {f : Value} {news : List (Addr × Obj)} {vs : List Value} {R : Value → List (Addr × Obj) → Prop}
    (C : Ctr n w mean mg mb f news vs R) {k : Nat} {A : Around} {env : Env} {outer : List Env} {A₀ : Around} {base h₀ : Heap} {L : Addr} {m : Str → Option Value} {s : Shared} {Q E : Value → Shared → Prop}
    (H : Ar k A env outer L) (hk : n ≤ k) (B : Below A₀ base outer h₀) (F : Fr h₀ L s.heap m) (X : (hd.heap_39 w.params).In h₀) (N : News h₀ L s.heap news)
    (T : Top hd.view_39 (looseW hd.view_39 [Str.ofString "normpath_posixpath", Str.ofString "normpath_path"]) mean mg mb h₀)
    (hret : ∀ v news' h' tk', R v news' → Fr h₀ L h' m → News h₀ L h' news' → Q v { s with heap := h', toks := tk' }) :
    wpAny (model Challenge.rw_nq0069_01.row.prog w) A (call f vs) Q E s :=
  C _ _ _ _ _ _ _ _ _ _ _ (H.le hk) B F X N T hret

theorem ctr_of {n : Nat} {w : World} {mean : ExcName → Option Value} {mg mb : Str → Option Value} {f : Addr} {news : List (Addr × Obj)} {vs : List Value} {R : Value → List (Addr × Obj) → Prop}
    {name qual : Str} {params : Arguments} {body : List Stmt} {scope : Scope} {dV kV doc pm cdv ct oc : Value} {an od : Option Addr} {osl : Array (Option Value)} {binds : List (Str × Value)}
    (ho : (hd.heap_39 w.params).lookup f = some ⟨oc, od, .func (fnOf name qual params body scope dV kV doc pm an cdv ct), osl⟩) (hcd : codeIn (hd.heap_39 w.params) cdv qual = true)
    (hbind : ∀ s : Shared, (hd.heap_39 w.params).In s.heap → BindsTo s (fnOf name qual params body scope dV kV doc pm an cdv ct) ⟨vs, []⟩ binds) (hloc : ∀ y ∈ binds, scope.names.lookup y.1 = some .local)
    (hco : scope.isCoroutine = false) (hgen : scope.isGenerator = false) (hk : scope.kind = .function) (hcell : ∀ x ∈ scope.names, x.2 ≠ .cell)
    (h : Bod n w mean mg mb (fun L => envOf qual scope L f cdv) (fun y => binds.reverse.lookup y) body news R) :
    Ctr (n + 1) w mean mg mb (.ref f) news vs R := by
  intro A env outer A₀ base h₀ L m s Q E H B F X N T hret
  refine wpAny_call (code_def B F X N T H.frames H.frame H.kind ho hcd (by have := H.depth; omega) (hbind s (X.keeps F.keep)) hloc ?_ hco hgen hk hcell)
  intro g L' h₁ FG F' N' B' X' T'
  refine wpAny_mono (h _ _ _ _ g L' _ (fun fl s' => LeaveK h₀ L m g (fun r s' => match r with | .ok (.ret v) => Q v s' | .ok _ => False | .error e => E e s') (match fl with | .ret v => v | _ => .none) s') (H.deeper hk) B' F' X' N' T' ?_) (fun _ _ x => x) (fun _ _ x => x.elim)
  intro v news' h' tk' m' hR F'' N''
  exact leaveK_ (s' := { s with heap := h', toks := tk' }) F'' N'' (fun F3 N3 => hret v news' h' tk' hR F3 N3)

theorem news_sub {h₀ h : Heap} {L : Addr} {news news' : List (Addr × Obj)} (N : News h₀ L h news') (hs : ∀ p ∈ news, p ∈ news') : News h₀ L h news := fun p hp => N p (hs p hp)
theorem allLt_mem {d : Nat} : ∀ {l : List (Addr × Obj)}, AllLt d l → ∀ p ∈ l, p.1 < d
  | [], _, _, h => nomatch h
  | _ :: _, x, p, h => by
    rcases List.mem_cons.mp h with rfl | h
    · exact x.1
    · exact allLt_mem x.2 p h


/-- a mark that names the top's written part, for the walk's own look -/
def Fill (_ : Params → Frag) (_ : OpenLaw) : Prop := True

theorem fspath_ctr (w : World) (mean : ExcName → Option Value) (mg mb : Str → Option Value) (news : List (Addr × Obj)) (x : Str) (t : Tok) :
    Ctr 1 w mean mg mb (.ref 108) news [.str x t] (fun v news' => v = .str x t ∧ news' = news) := by
  w_top off
  have hfill : Fill hd.heap_39 Challenge.rw_nq0069_01 := by (k_fill; exact trivial)
  clear hfill
  refine' ctr_of ?h1 ?h2 ?h3 ?h4 ?h5 ?h6 ?h7 ?h8 ?_; (case h1 => k_is); (case h2 => k_is); (case h3 => intro s hX; first | exact BindsTo.of_eq rfl | exact binds_K hX rfl (by k_is) rfl rfl rfl); (case h4 => exact locs rfl); (case h5 => exact rfl); (case h6 => exact rfl); (case h7 => exact rfl); (case h8 => decide)
  intro A outer A₀ base g L s Q H B F X N T hret; dsimp only at H ⊢; have hh := H.handled
  repeat' (first | ((with_reducible show wpAny _ _ (call (Value.builtin "issubclass") [Value.type "str", Value.ref _]) _ _ _); k_dflt (refine issub_top (News.get (by k_asm) (by k_mem)) ?_); intro tk') | (k_end; wrow_close) | walk1 | (dsimp only; walk1) | fail "no step")
  exact hret _ _ _ _ _ ⟨rfl, rfl⟩ (by assumption) (news_sub (by assumption) (fun _ hp => List.mem_cons_of_mem _ hp))


/-- a tuple of three texts on the ledger -/
abbrev tup3 (a b c : Value) : Obj := { cls := .type "tuple", data := .seq #[a, b, c] }

def rootOf (x : Str) : Str := if (Txt.slice x none (some 1) != Str.ofString "/") = true then Str.ofString "" else if (Txt.slice x (some 1) (some 2) != Str.ofString "/") = true then Str.ofString "/" else if (Txt.slice x (some 2) (some 3) == Str.ofString "/") = true then Str.ofString "/" else Txt.slice x none (some 2)
def tailOf (x : Str) : Str := if (Txt.slice x none (some 1) != Str.ofString "/") = true then x else if (Txt.slice x (some 1) (some 2) != Str.ofString "/") = true then Txt.slice x (some 1) none else if (Txt.slice x (some 2) (some 3) == Str.ofString "/") = true then Txt.slice x (some 1) none else Txt.slice x (some 2) none

def SplitR (news : List (Addr × Obj)) (x : Str) (v : Value) (news' : List (Addr × Obj)) : Prop :=
  ∃ D t1 t2 t3, v = .ref D ∧ news' = (D, tup3 (.str (Str.ofString "") t1) (.str (rootOf x) t2) (.str (tailOf x) t3)) :: news ∧ ∀ p ∈ news, p.1 < D
theorem split_intro {news : List (Addr × Obj)} {x r t : Str} {D : Addr} {t1 t2 t3 : Tok} (hr : rootOf x = r) (ht : tailOf x = t) (hl : ∀ p ∈ news, p.1 < D) :
    SplitR news x (.ref D) ((D, tup3 (.str (Str.ofString "") t1) (.str r t2) (.str t t3)) :: news) := ⟨D, t1, t2, t3, rfl, by rw [hr, ht], hl⟩

theorem splitroot_ctr (w : World) (mean : ExcName → Option Value) (mg mb : Str → Option Value) (news : List (Addr × Obj)) (x : Str) (t : Tok) (hx : x.length ≤ 4096) :
    Ctr 2 w mean mg mb (.ref 115) news [.str x t] (SplitR news x) := by
  w_top off
  have hfill : Fill hd.heap_39 Challenge.rw_nq0069_01 := by (k_fill; exact trivial)
  clear hfill
  refine' ctr_of ?h1 ?h2 ?h3 ?h4 ?h5 ?h6 ?h7 ?h8 ?_; (case h1 => k_is); (case h2 => k_is); (case h3 => intro s hX; first | exact BindsTo.of_eq rfl | exact binds_K hX rfl (by k_is) rfl rfl rfl); (case h4 => exact locs rfl); (case h5 => exact rfl); (case h6 => exact rfl); (case h7 => exact rfl); (case h8 => decide)
  intro A outer A₀ base g L s Q H B F X N T hret; dsimp only at H ⊢; have hh := H.handled
  repeat' (first | ((with_reducible show wpAny _ _ (call (Value.ref 108) [Value.str _ _]) _ _ _); k_dflt (refine' Ctr.use (fspath_ctr _ _ _ _ _ _ _) (by assumption) (by decide) (by assumption) (by k_asm) (by assumption) (by k_asm) (by assumption) ?_); rintro v' nw' h' tk' ⟨hv', hn'⟩ F' N'; cases hv'; cases hn'; (try dsimp only)) | (k_end; wrow_close) | walk1 | (dsimp only; walk1) | fail "no step")
  all_goals exact hret _ _ _ _ _ (split_intro (by simp only [rootOf, *]; rfl) (by simp only [tailOf, *]; rfl) (by assumption)) (by assumption) (by assumption)

theorem usplitroot_ctr (w : World) (mean : ExcName → Option Value) (mg mb : Str → Option Value) (news : List (Addr × Obj)) (x : Str) (t : Tok) (hx : x.length ≤ 4096) :
    Ctr 1 w mean mg mb (.ref 150) news [.str x t] (SplitR news x) := by
  w_top off
  have hfill : Fill hd.heap_39 Challenge.rw_nq0069_01 := by (k_fill; exact trivial)
  clear hfill
  refine' ctr_of ?h1 ?h2 ?h3 ?h4 ?h5 ?h6 ?h7 ?h8 ?_; (case h1 => k_is); (case h2 => k_is); (case h3 => intro s hX; first | exact BindsTo.of_eq rfl | exact binds_K hX rfl (by k_is) rfl rfl rfl); (case h4 => exact locs rfl); (case h5 => exact rfl); (case h6 => exact rfl); (case h7 => exact rfl); (case h8 => decide)
  intro A outer A₀ base g L s Q H B F X N T hret; dsimp only at H ⊢; have hh := H.handled
  repeat' (first | ((with_reducible show wpAny _ _ (call (Value.ref 108) [Value.str _ _]) _ _ _); k_dflt (refine' Ctr.use (fspath_ctr _ _ _ _ _ _ _) (by assumption) (by decide) (by assumption) (by k_asm) (by assumption) (by k_asm) (by assumption) ?_); rintro v' nw' h' tk' ⟨hv', hn'⟩ F' N'; cases hv'; cases hn'; (try dsimp only)) | (k_end; wrow_close) | walk1 | (dsimp only; walk1) | fail "no step")
  all_goals exact hret _ _ _ _ _ (split_intro (by simp only [rootOf, *]; rfl) (by simp only [tailOf, *]; rfl) (by assumption)) (by assumption) (by assumption)

/-- one component more of a rooted path -/
def normStep (acc : List Str) (c : Str) : List Str := if (c.length : Int) = 0 then acc else if (c == Str.ofString ".") = true then acc else if (c != Str.ofString "..") = true then acc ++ [c] else acc.dropLast
def compsOf (x : Str) : List Str := Txt.split (tailOf x) (Str.ofString "/")
def normComps (x : Str) : List Str := (compsOf x).foldl normStep []
def nrm (x : Str) : Str := rootOf x ++ Txt.join (Str.ofString "/") (normComps x)
/-- what is asked of a path: all of it comes out by computation for a given text -/
structure PathOk (x : Str) : Prop where
  len : x.length ≤ 4096
  some : (x.length : Int) ≠ 0
  root : ((rootOf x).length : Int) ≠ 0
  tail : (tailOf x).length ≤ 4096
  comps : (compsOf x).length ≤ 1000
  each : ∀ c ∈ compsOf x, c.length ≤ 4096
  sums : ((normComps x).map (·.length)).sum + (normComps x).length ≤ 10000
  rlen : (rootOf x).length ≤ 4096
  jlen : (Txt.join (Str.ofString "/") (normComps x)).length ≤ 10000

theorem step_len (acc : List Str) (c : Str) : (normStep acc c).length ≤ acc.length + 1 := by
  unfold normStep
  split
  · omega
  · split
    · omega
    · split
      · simp
      · simp; omega
theorem fold_len (cs : List Str) : ∀ acc, (cs.foldl normStep acc).length ≤ acc.length + cs.length := by
  induction cs with
  | nil => intro acc; simp
  | cons c cs ih => intro acc; rw [List.foldl_cons]; have h1 := ih (normStep acc c); have h2 := step_len acc c; simp only [List.length_cons]; omega
theorem ns_empty {acc : List Str} {c : Str} (h : (c.length : Int) = 0) : normStep acc c = acc := if_pos h
theorem ns_dot {acc : List Str} {c : Str} (h : (c.length : Int) ≠ 0) (h1 : (c == Str.ofString ".") = true) : normStep acc c = acc := (if_neg h).trans (if_pos h1)
theorem ns_app {acc : List Str} {c : Str} (h : (c.length : Int) ≠ 0) (h1 : (c == Str.ofString ".") = false) (h2 : (c != Str.ofString "..") = true) : normStep acc c = acc ++ [c] :=
  (if_neg h).trans ((if_neg (by rw [h1]; decide)).trans (if_pos h2))
theorem ns_up {acc : List Str} {c : Str} (h : (c.length : Int) ≠ 0) (h1 : (c == Str.ofString ".") = false) (h2 : (c != Str.ofString "..") = false) : normStep acc c = acc.dropLast :=
  (if_neg h).trans ((if_neg (by rw [h1]; decide)).trans (if_neg (by rw [h2]; decide)))
theorem drop_none {acc : List Str} {vs : List Value} (hS : StrsAre vs acc) (h : ¬ 0 < vs.length) : acc.dropLast = acc := by
  have : acc.length = 0 := by rw [← strs_len hS]; omega
  rw [List.length_eq_zero_iff.mp this]; rfl
/-- no component is the word for the folder above -/
def NoUp (l : List Str) : Prop := ∀ c ∈ l, (c == Str.ofString "..") = false
theorem step_noUp {acc : List Str} (c : Str) (h : NoUp acc) : NoUp (normStep acc c) := by
  unfold normStep
  split
  · exact h
  · split
    · exact h
    · split
      · rename_i hc
        intro d hd
        rcases List.mem_append.mp hd with hd | hd
        · exact h d hd
        · rw [List.mem_singleton.mp hd]; simpa [bne] using hc
      · exact fun d hd => h d (List.dropLast_subset _ hd)
theorem fold_noUp (cs : List Str) : ∀ acc, NoUp acc → NoUp (cs.foldl normStep acc) := by
  induction cs with
  | nil => intro acc h; exact h
  | cons c cs ih => intro acc h; rw [List.foldl_cons]; exact ih _ (step_noUp c h)
theorem getLastD_mem {l : List Str} (d : Str) (hne : 0 < l.length) : l.getLastD d ∈ l := by
  have hl : l ≠ [] := fun e => by simp [e] at hne
  rw [List.getLastD_eq_getLast?, List.getLast?_eq_some_getLast hl]
  exact List.getLast_mem hl
theorem noUp_last {l : List Str} (h : NoUp l) (hne : 0 < l.length) : (l.getLastD Str.empty == Str.ofString "..") = false := h _ (getLastD_mem _ hne)
theorem norm_fin {x c : Str} {i : Nat} {vs' : List Value} {r : List Str} (hc : (compsOf x)[i]? = some c) (hr : StrsAre vs' r) (e : normStep ((List.take i (compsOf x)).foldl normStep []) c = r) : StrsAre vs' ((List.take (i + 1) (compsOf x)).foldl normStep []) := by
  rw [List.take_add_one, hc]
  simp only [Option.toList_some, List.foldl_append, List.foldl_cons, List.foldl_nil]
  rw [e]; exact hr
theorem norm_no {x : Str} {i : Nat} {vs : List Value} (hS : StrsAre vs ((List.take i (compsOf x)).foldl normStep [])) (h1 : 0 < vs.length) (h2 : (((List.take i (compsOf x)).foldl normStep []).getLastD Str.empty == Str.ofString "..") = true) : False := by
  rw [noUp_last (fold_noUp _ [] (fun c hc => by cases hc)) (by rw [← strs_len hS]; exact h1)] at h2
  cases h2

theorem normpath_ctr (w : World) (mean : ExcName → Option Value) (mg mb : Str → Option Value) (news : List (Addr × Obj)) (x : Str) (t : Tok) (ok : PathOk x) :
    Ctr 3 w mean mg mb (.ref 129) news [.str x t] (fun v news' => news' = news ∧ ∃ t', v = .str (nrm x) t') := by
  w_top off
  have hfill : Fill hd.heap_39 Challenge.rw_nq0069_01 := by (k_fill; exact trivial)
  clear hfill
  refine' ctr_of ?h1 ?h2 ?h3 ?h4 ?h5 ?h6 ?h7 ?h8 ?_; (case h1 => k_is); (case h2 => k_is); (case h3 => intro s hX; first | exact BindsTo.of_eq rfl | exact binds_K hX rfl (by k_is) rfl rfl rfl); (case h4 => exact locs rfl); (case h5 => exact rfl); (case h6 => exact rfl); (case h7 => exact rfl); (case h8 => decide)
  intro A outer A₀ base g L s Q H B F X N T hret; dsimp only at H ⊢; have hh := H.handled
  have hx := ok.len
  have hx1 := ok.some
  have hx2 := ok.tail
  repeat' (first | ((with_reducible show wpAny _ _ (call (Value.ref 108) [Value.str _ _]) _ _ _); k_dflt (refine' Ctr.use (fspath_ctr _ _ _ _ _ _ _) (by assumption) (by decide) (by assumption) (by k_asm) (by assumption) (by k_asm) (by assumption) ?_); rintro v' nw' h' tk' ⟨hv', hn'⟩ F' N'; cases hv'; cases hn'; (try dsimp only)) | ((with_reducible show wpAny _ _ (call (Value.ref 115) [Value.str _ _]) _ _ _); k_dflt (refine' Ctr.use (splitroot_ctr _ _ _ _ _ _ _ (by assumption)) (by assumption) (by decide) (by assumption) (by k_asm) (by assumption) (by k_asm) (by assumption) ?_); rintro v' nw' h' tk' ⟨DR, tR1, tR2, tR3, hv', hn', lR⟩ F' N'; cases hv'; cases hn'; (try dsimp only)) | ((with_reducible show wpAny _ _ (assign (Expr.Tuple _ _ _) _ (Value.ref _)) _ _ _); k_dflt (refine' unpackN_ ?u1 ?u2 ?u3 ?u4 ?u5 ?u6 ?_; (case u1 => k_asm); (case u2 => k_asm); (case u3 => exact News.isTup (by k_asm) (by k_mem)); (case u4 => first | assumption | exact rfl); (case u5 => first | assumption | exact rfl); (case u6 => first | assumption | exact rfl)); intro h' F' N'; (try k_sweep)) | ((with_reducible show wpAny _ _ (call (Value.builtin "str.split") [Value.str _ _, Value.str _ _]) _ _ _); k_dflt (refine' split_T (by k_asm) (by k_asm) (by decide) (by omega) ?_); intro DS usS h' tk' hSS F' N' lS) | (k_end; wrow_close) | walk1 | (dsimp only; walk1) | fail "no step")
  · with_reducible rename Fr _ _ _ _ => F1
    with_reducible rename News _ _ _ _ => N1
    rename_i NC hh3 lNC hh4
    have hap : ∀ p ∈ news, p.1 ≠ NC := fun p hp => Nat.ne_of_lt (allLt_mem lNC.2.2 p hp)
    have hus : usS.length ≤ 1000 := by rw [strs_len hSS]; exact ok.comps
    refine For_F F1 (by with_unfolding_all rfl) (by with_unfolding_all rfl) ?_
    walk1
    refine iter_ledS (σ := Unit) (o := listOf usS.toArray 0) (vs := usS) (news := (NC, listOf [].toArray 0) :: news) (fun _ => _) () (fun i _ nws => ∃ vs n, nws = (NC, listOf vs.toArray n) :: news ∧ StrsAre vs ((List.take i (compsOf x)).foldl normStep [])) H.handled rfl ⟨_, rfl⟩ F1 (news_sub N1 ?_) rfl ⟨[], 0, rfl, .nil⟩ ?_ ?_
    · intro p hp
      simp only [List.mem_cons] at hp ⊢
      rcases hp with h | h | h
      · exact .inr (.inl h)
      · exact .inl h
      · exact .inr (.inr (.inr h))
    · rintro i v - nws h tk I oI hv ⟨vs, n, rfl, hS⟩ hI hl F2 N2
      obtain ⟨c, tc, rfl, hc⟩ := StrsAre.item hSS i v hv
      have hne1 : @Ne Nat I NC := Ne.symm (hI _ List.mem_cons_self)
      have hle : i ≤ usS.length := Nat.le_of_lt (by rcases Nat.lt_or_ge i usS.length with h | h; exact h; rw [List.getElem?_eq_none h] at hv; cases hv)
      have hvl : vs.length ≤ 1000 := by
        rw [strs_len hS]
        have := fold_len (List.take i (compsOf x)) []
        simp only [List.length_nil, List.length_take] at this
        omega
      have hcl : c.length ≤ 4096 := ok.each c (List.mem_of_getElem? hc)
      have hrt := ok.root
      have hrl := ok.rlen
      have hI2 : ∀ o', ∀ p ∈ (NC, o') :: news, p.1 ≠ I := fun o' p hp => by
        rcases List.mem_cons.mp hp with rfl | hp
        · exact Ne.symm hne1
        · exact hI p (List.mem_cons_of_mem _ hp)
      have hfin : ∀ {vs' r}, StrsAre vs' r → normStep ((List.take i (compsOf x)).foldl normStep []) c = r → StrsAre vs' ((List.take (i + 1) (compsOf x)).foldl normStep []) := fun hr e => norm_fin hc hr e
      have hno : 0 < vs.length → ((((List.take i (compsOf x)).foldl normStep []).getLastD Str.empty == Str.ofString "..") = true) → False := fun h1 h2 => norm_no hS h1 h2
      clear F1 N1 ok hx hx1 hx2 hret
      repeat' (first | ((with_reducible show wpAny _ _ (truthy (Value.ref _)) _ _ _); k_dflt (refine' truthy_T (by k_asm) (by k_mem) (by omega) ?_)) | ((with_reducible show wpAny _ _ (subscriptTail _ _ (Value.ref _) (Value.int _ _)) _ _ _); k_dflt (refine' last_T (by k_asm) (by k_mem) (by assumption) (by omega) ?_); intro t') | ((with_reducible show wpAny _ _ (call (Value.builtin "list.append") [Value.ref _, _]) _ _ _); k_dflt (refine' append_T (by k_asm) (by k_asm) (by first | exact Upd.head (by repeat' (first | assumption | (refine List.forall_mem_cons.mpr ⟨by k_ne, ?_⟩))) | exact Upd.tail (by k_ne) (Upd.head (by repeat' (first | assumption | (refine List.forall_mem_cons.mpr ⟨by k_ne, ?_⟩)))) | exact Upd.tail (by k_ne) (Upd.tail (by k_ne) (Upd.head (by repeat' (first | assumption | (refine List.forall_mem_cons.mpr ⟨by k_ne, ?_⟩))))) | exact Upd.tail (by k_ne) (Upd.tail (by k_ne) (Upd.tail (by k_ne) (Upd.head (by repeat' (first | assumption | (refine List.forall_mem_cons.mpr ⟨by k_ne, ?_⟩)))))) | exact Upd.tail (by k_ne) (Upd.tail (by k_ne) (Upd.tail (by k_ne) (Upd.tail (by k_ne) (Upd.head (by repeat' (first | assumption | (refine List.forall_mem_cons.mpr ⟨by k_ne, ?_⟩))))))) | exact Upd.tail (by k_ne) (Upd.tail (by k_ne) (Upd.tail (by k_ne) (Upd.tail (by k_ne) (Upd.tail (by k_ne) (Upd.head (by repeat' (first | assumption | (refine List.forall_mem_cons.mpr ⟨by k_ne, ?_⟩))))))))) (by omega) ?_); intro h' F' N'; (try k_sweep)) | ((with_reducible show wpAny _ _ (call (Value.builtin "list.pop") [Value.ref _]) _ _ _); k_dflt (refine' pop_T (by k_asm) (by k_asm) (by first | exact Upd.head (by repeat' (first | assumption | (refine List.forall_mem_cons.mpr ⟨by k_ne, ?_⟩))) | exact Upd.tail (by k_ne) (Upd.head (by repeat' (first | assumption | (refine List.forall_mem_cons.mpr ⟨by k_ne, ?_⟩)))) | exact Upd.tail (by k_ne) (Upd.tail (by k_ne) (Upd.head (by repeat' (first | assumption | (refine List.forall_mem_cons.mpr ⟨by k_ne, ?_⟩))))) | exact Upd.tail (by k_ne) (Upd.tail (by k_ne) (Upd.tail (by k_ne) (Upd.head (by repeat' (first | assumption | (refine List.forall_mem_cons.mpr ⟨by k_ne, ?_⟩)))))) | exact Upd.tail (by k_ne) (Upd.tail (by k_ne) (Upd.tail (by k_ne) (Upd.tail (by k_ne) (Upd.head (by repeat' (first | assumption | (refine List.forall_mem_cons.mpr ⟨by k_ne, ?_⟩))))))) | exact Upd.tail (by k_ne) (Upd.tail (by k_ne) (Upd.tail (by k_ne) (Upd.tail (by k_ne) (Upd.tail (by k_ne) (Upd.head (by repeat' (first | assumption | (refine List.forall_mem_cons.mpr ⟨by k_ne, ?_⟩))))))))) (by assumption) (by omega) (by omega) ?_); intro h' t' F' N' hS'; (try k_sweep)) | (k_end; wrow_close) | walk1 | (dsimp only; walk1) | fail "no step")
      all_goals (try (exfalso; omega))
      all_goals (first
        | exact TurnEndS.intro () _ (by k_asm) (by k_asm) (fun _ h => h) (hI2 _) ⟨_, _, rfl, hfin hS (ns_empty (by assumption))⟩
        | exact TurnEndS.intro () _ (by k_asm) (by k_asm) (fun _ h => h) (hI2 _) ⟨_, _, rfl, hfin hS (ns_dot (by assumption) (by assumption))⟩
        | exact TurnEndS.intro () _ (by k_asm) (by k_asm) (fun _ h => h) (hI2 _) ⟨_, _, rfl, hfin (strs_snoc hS) (ns_app (by assumption) (by assumption) (by assumption))⟩
        | exact TurnEndS.intro () _ (by k_asm) (by k_asm) (fun _ h => h) (hI2 _) ⟨_, _, rfl, hfin (by assumption) (ns_up (by assumption) (by assumption) (by assumption))⟩
        | exact TurnEndS.intro () _ (by k_asm) (by k_asm) (fun _ h => h) (hI2 _) ⟨_, _, rfl, hfin hS ((ns_up (by assumption) (by assumption) (by assumption)).trans (drop_none hS (by assumption)))⟩
        | (exfalso; exact hno (by assumption) (by assumption)))
    · rintro - cv nws h tk ⟨vs, n, rfl, hS⟩ F2 N2
      clear F1 N1
      have hS' : StrsAre vs (normComps x) := by rw [strs_len hSS] at hS; simpa [normComps, compsOf] using hS
      have hsum := ok.sums
      have hjl := ok.jlen
      have hrt := ok.root
      have hrl := ok.rlen
      clear ok
      repeat' (first | ((with_reducible show wpAny _ _ (call (Value.builtin "str.join") [Value.str _ _, Value.ref _]) _ _ _); k_dflt (refine' join_T (by k_asm) (by k_mem) (by assumption) (by decide) (by omega) ?_); intro t' tk') | (k_end; wrow_close) | walk1 | (dsimp only; walk1) | fail "no step")
      · exact hret _ _ _ _ _ ⟨rfl, _, rfl⟩ (by assumption) (news_sub (by assumption) (fun _ hp => List.mem_cons_of_mem _ (List.mem_cons_of_mem _ hp)))
      · exfalso; omega
  · exfalso; omega

theorem unormpath_ctr (w : World) (mean : ExcName → Option Value) (mg mb : Str → Option Value) (news : List (Addr × Obj)) (x : Str) (t : Tok) (ok : PathOk x) :
    Ctr 2 w mean mg mb (.ref 157) news [.str x t] (fun v news' => news' = news ∧ ∃ t', v = .str (nrm x) t') := by
  w_top off
  have hfill : Fill hd.heap_39 Challenge.rw_nq0069_01 := by (k_fill; exact trivial)
  clear hfill
  refine' ctr_of ?h1 ?h2 ?h3 ?h4 ?h5 ?h6 ?h7 ?h8 ?_; (case h1 => k_is); (case h2 => k_is); (case h3 => intro s hX; first | exact BindsTo.of_eq rfl | exact binds_K hX rfl (by k_is) rfl rfl rfl); (case h4 => exact locs rfl); (case h5 => exact rfl); (case h6 => exact rfl); (case h7 => exact rfl); (case h8 => decide)
  intro A outer A₀ base g L s Q H B F X N T hret; dsimp only at H ⊢; have hh := H.handled
  have hx := ok.len
  have hx1 := ok.some
  have hx2 := ok.tail
  repeat' (first | ((with_reducible show wpAny _ _ (call (Value.ref 150) [Value.str _ _]) _ _ _); k_dflt (refine' Ctr.use (usplitroot_ctr _ _ _ _ _ _ _ (by assumption)) (by assumption) (by decide) (by assumption) (by k_asm) (by assumption) (by k_asm) (by assumption) ?_); rintro v' nw' h' tk' ⟨DR, tR1, tR2, tR3, hv', hn', lR⟩ F' N'; cases hv'; cases hn'; (try dsimp only)) | ((with_reducible show wpAny _ _ (assign (Expr.Tuple _ _ _) _ (Value.ref _)) _ _ _); k_dflt (refine' unpackN_ ?u1 ?u2 ?u3 ?u4 ?u5 ?u6 ?_; (case u1 => k_asm); (case u2 => k_asm); (case u3 => exact News.isTup (by k_asm) (by k_mem)); (case u4 => first | assumption | exact rfl); (case u5 => first | assumption | exact rfl); (case u6 => first | assumption | exact rfl)); intro h' F' N'; (try k_sweep)) | ((with_reducible show wpAny _ _ (call (Value.builtin "str.split") [Value.str _ _, Value.str _ _]) _ _ _); k_dflt (refine' split_T (by k_asm) (by k_asm) (by decide) (by omega) ?_); intro DS usS h' tk' hSS F' N' lS) | (k_end; wrow_close) | walk1 | (dsimp only; walk1) | fail "no step")
  · with_reducible rename Fr _ _ _ _ => F1
    with_reducible rename News _ _ _ _ => N1
    rename_i NC hh3 lNC hh4
    have hap : ∀ p ∈ news, p.1 ≠ NC := fun p hp => Nat.ne_of_lt (allLt_mem lNC.2.2 p hp)
    have hus : usS.length ≤ 1000 := by rw [strs_len hSS]; exact ok.comps
    refine For_F F1 (by with_unfolding_all rfl) (by with_unfolding_all rfl) ?_
    walk1
    refine iter_ledS (σ := Unit) (o := listOf usS.toArray 0) (vs := usS) (news := (NC, listOf [].toArray 0) :: news) (fun _ => _) () (fun i _ nws => ∃ vs n, nws = (NC, listOf vs.toArray n) :: news ∧ StrsAre vs ((List.take i (compsOf x)).foldl normStep [])) H.handled rfl ⟨_, rfl⟩ F1 (news_sub N1 ?_) rfl ⟨[], 0, rfl, .nil⟩ ?_ ?_
    · intro p hp
      simp only [List.mem_cons] at hp ⊢
      rcases hp with h | h | h
      · exact .inr (.inl h)
      · exact .inl h
      · exact .inr (.inr (.inr h))
    · rintro i v - nws h tk I oI hv ⟨vs, n, rfl, hS⟩ hI hl F2 N2
      obtain ⟨c, tc, rfl, hc⟩ := StrsAre.item hSS i v hv
      have hne1 : @Ne Nat I NC := Ne.symm (hI _ List.mem_cons_self)
      have hle : i ≤ usS.length := Nat.le_of_lt (by rcases Nat.lt_or_ge i usS.length with h | h; exact h; rw [List.getElem?_eq_none h] at hv; cases hv)
      have hvl : vs.length ≤ 1000 := by
        rw [strs_len hS]
        have := fold_len (List.take i (compsOf x)) []
        simp only [List.length_nil, List.length_take] at this
        omega
      have hcl : c.length ≤ 4096 := ok.each c (List.mem_of_getElem? hc)
      have hrt := ok.root
      have hrl := ok.rlen
      have hI2 : ∀ o', ∀ p ∈ (NC, o') :: news, p.1 ≠ I := fun o' p hp => by
        rcases List.mem_cons.mp hp with rfl | hp
        · exact Ne.symm hne1
        · exact hI p (List.mem_cons_of_mem _ hp)
      have hfin : ∀ {vs' r}, StrsAre vs' r → normStep ((List.take i (compsOf x)).foldl normStep []) c = r → StrsAre vs' ((List.take (i + 1) (compsOf x)).foldl normStep []) := fun hr e => norm_fin hc hr e
      have hno : 0 < vs.length → ((((List.take i (compsOf x)).foldl normStep []).getLastD Str.empty == Str.ofString "..") = true) → False := fun h1 h2 => norm_no hS h1 h2
      clear F1 N1 ok hx hx1 hx2 hret
      repeat' (first | ((with_reducible show wpAny _ _ (truthy (Value.ref _)) _ _ _); k_dflt (refine' truthy_T (by k_asm) (by k_mem) (by omega) ?_)) | ((with_reducible show wpAny _ _ (subscriptTail _ _ (Value.ref _) (Value.int _ _)) _ _ _); k_dflt (refine' last_T (by k_asm) (by k_mem) (by assumption) (by omega) ?_); intro t') | ((with_reducible show wpAny _ _ (call (Value.builtin "list.append") [Value.ref _, _]) _ _ _); k_dflt (refine' append_T (by k_asm) (by k_asm) (by first | exact Upd.head (by repeat' (first | assumption | (refine List.forall_mem_cons.mpr ⟨by k_ne, ?_⟩))) | exact Upd.tail (by k_ne) (Upd.head (by repeat' (first | assumption | (refine List.forall_mem_cons.mpr ⟨by k_ne, ?_⟩)))) | exact Upd.tail (by k_ne) (Upd.tail (by k_ne) (Upd.head (by repeat' (first | assumption | (refine List.forall_mem_cons.mpr ⟨by k_ne, ?_⟩))))) | exact Upd.tail (by k_ne) (Upd.tail (by k_ne) (Upd.tail (by k_ne) (Upd.head (by repeat' (first | assumption | (refine List.forall_mem_cons.mpr ⟨by k_ne, ?_⟩)))))) | exact Upd.tail (by k_ne) (Upd.tail (by k_ne) (Upd.tail (by k_ne) (Upd.tail (by k_ne) (Upd.head (by repeat' (first | assumption | (refine List.forall_mem_cons.mpr ⟨by k_ne, ?_⟩))))))) | exact Upd.tail (by k_ne) (Upd.tail (by k_ne) (Upd.tail (by k_ne) (Upd.tail (by k_ne) (Upd.tail (by k_ne) (Upd.head (by repeat' (first | assumption | (refine List.forall_mem_cons.mpr ⟨by k_ne, ?_⟩))))))))) (by omega) ?_); intro h' F' N'; (try k_sweep)) | ((with_reducible show wpAny _ _ (call (Value.builtin "list.pop") [Value.ref _]) _ _ _); k_dflt (refine' pop_T (by k_asm) (by k_asm) (by first | exact Upd.head (by repeat' (first | assumption | (refine List.forall_mem_cons.mpr ⟨by k_ne, ?_⟩))) | exact Upd.tail (by k_ne) (Upd.head (by repeat' (first | assumption | (refine List.forall_mem_cons.mpr ⟨by k_ne, ?_⟩)))) | exact Upd.tail (by k_ne) (Upd.tail (by k_ne) (Upd.head (by repeat' (first | assumption | (refine List.forall_mem_cons.mpr ⟨by k_ne, ?_⟩))))) | exact Upd.tail (by k_ne) (Upd.tail (by k_ne) (Upd.tail (by k_ne) (Upd.head (by repeat' (first | assumption | (refine List.forall_mem_cons.mpr ⟨by k_ne, ?_⟩)))))) | exact Upd.tail (by k_ne) (Upd.tail (by k_ne) (Upd.tail (by k_ne) (Upd.tail (by k_ne) (Upd.head (by repeat' (first | assumption | (refine List.forall_mem_cons.mpr ⟨by k_ne, ?_⟩))))))) | exact Upd.tail (by k_ne) (Upd.tail (by k_ne) (Upd.tail (by k_ne) (Upd.tail (by k_ne) (Upd.tail (by k_ne) (Upd.head (by repeat' (first | assumption | (refine List.forall_mem_cons.mpr ⟨by k_ne, ?_⟩))))))))) (by assumption) (by omega) (by omega) ?_); intro h' t' F' N' hS'; (try k_sweep)) | (k_end; wrow_close) | walk1 | (dsimp only; walk1) | fail "no step")
      all_goals (try (exfalso; omega))
      all_goals (first
        | exact TurnEndS.intro () _ (by k_asm) (by k_asm) (fun _ h => h) (hI2 _) ⟨_, _, rfl, hfin hS (ns_empty (by assumption))⟩
        | exact TurnEndS.intro () _ (by k_asm) (by k_asm) (fun _ h => h) (hI2 _) ⟨_, _, rfl, hfin hS (ns_dot (by assumption) (by assumption))⟩
        | exact TurnEndS.intro () _ (by k_asm) (by k_asm) (fun _ h => h) (hI2 _) ⟨_, _, rfl, hfin (strs_snoc hS) (ns_app (by assumption) (by assumption) (by assumption))⟩
        | exact TurnEndS.intro () _ (by k_asm) (by k_asm) (fun _ h => h) (hI2 _) ⟨_, _, rfl, hfin (by assumption) (ns_up (by assumption) (by assumption) (by assumption))⟩
        | exact TurnEndS.intro () _ (by k_asm) (by k_asm) (fun _ h => h) (hI2 _) ⟨_, _, rfl, hfin hS ((ns_up (by assumption) (by assumption) (by assumption)).trans (drop_none hS (by assumption)))⟩
        | (exfalso; exact hno (by assumption) (by assumption)))
    · rintro - cv nws h tk ⟨vs, n, rfl, hS⟩ F2 N2
      clear F1 N1
      have hS' : StrsAre vs (normComps x) := by rw [strs_len hSS] at hS; simpa [normComps, compsOf] using hS
      have hsum := ok.sums
      have hjl := ok.jlen
      have hrt := ok.root
      have hrl := ok.rlen
      clear ok
      repeat' (first | ((with_reducible show wpAny _ _ (call (Value.builtin "str.join") [Value.str _ _, Value.ref _]) _ _ _); k_dflt (refine' join_T (by k_asm) (by k_mem) (by assumption) (by decide) (by omega) ?_); intro t' tk') | (k_end; wrow_close) | walk1 | (dsimp only; walk1) | fail "no step")
      · exact hret _ _ _ _ _ ⟨rfl, _, rfl⟩ (by assumption) (news_sub (by assumption) (fun _ hp => List.mem_cons_of_mem _ (List.mem_cons_of_mem _ hp)))
      · exfalso; omega
  · exfalso; omega

abbrev pieces : List Str := [Str.ofString "a", Str.ofString "b", Str.ofString "..", Str.ofString ".", Str.ofString "", Str.ofString "ab"]
abbrev slashes : List Str := [Str.ofString "/", Str.ofString "//"]
/-- the path of four draws -/
def pth (i j k l : Nat) : Str := slashes.getD i Str.empty ++ Txt.join (Str.ofString "/") [pieces.getD j Str.empty, pieces.getD k Str.empty, pieces.getD l Str.empty]
def lawPath (n : Int) : Str := pth ((n.fdiv 2).fmod 2).toNat ((n.fdiv 4).fmod 6).toNat ((n.fdiv 24).fmod 6).toNat ((n.fdiv 144).fmod 6).toNat
def paths : List Str := (List.range 2).flatMap fun i => (List.range 6).flatMap fun j => (List.range 6).flatMap fun k => (List.range 6).map fun l => pth i j k l
theorem fmod_lt {n : Int} {m : Nat} (hm : 0 < m) : (n.fmod (m : Int)).toNat < m := by
  have h1 := Int.fmod_lt_of_pos n (show (0 : Int) < m by omega)
  have h2 := Int.fmod_nonneg_of_pos n (show (0 : Int) < m by omega)
  omega
theorem pth_mem {i j k l : Nat} (hi : i < 2) (hj : j < 6) (hk : k < 6) (hl : l < 6) : pth i j k l ∈ paths := by
  unfold paths
  exact List.mem_flatMap.mpr ⟨i, List.mem_range.mpr hi, List.mem_flatMap.mpr ⟨j, List.mem_range.mpr hj, List.mem_flatMap.mpr ⟨k, List.mem_range.mpr hk, List.mem_map.mpr ⟨l, List.mem_range.mpr hl, rfl⟩⟩⟩⟩
theorem lawPath_mem (n : Int) : lawPath n ∈ paths := pth_mem (fmod_lt (m := 2) (by decide)) (fmod_lt (m := 6) (by decide)) (fmod_lt (m := 6) (by decide)) (fmod_lt (m := 6) (by decide))
theorem piece_len (k : Nat) : (pieces.getD k Str.empty).length ≤ 2 := KOpn.len_getD (by decide)
theorem slash_len (k : Nat) : (slashes.getD k Str.empty).length ≤ 2 := KOpn.len_getD (by decide)
theorem joined_len {j k l : Nat} (hj : j < 6) (hk : k < 6) (hl : l < 6) : (Txt.join (Str.ofString "/") [pieces.getD j Str.empty, pieces.getD k Str.empty, pieces.getD l Str.empty]).length ≤ 16 := by
  have h : (List.range 6).all (fun j => (List.range 6).all fun k => (List.range 6).all fun l => decide ((Txt.join (Str.ofString "/") [pieces.getD j Str.empty, pieces.getD k Str.empty, pieces.getD l Str.empty]).length ≤ 16)) = true := by decide +kernel
  have h1 := List.all_eq_true.mp h j (List.mem_range.mpr hj)
  have h2 := List.all_eq_true.mp h1 k (List.mem_range.mpr hk)
  exact of_decide_eq_true (List.all_eq_true.mp h2 l (List.mem_range.mpr hl))

theorem lawpath_ctr (w : World) (mean : ExcName → Option Value) (mg mb : Str → Option Value) (news : List (Addr × Obj)) (n : Int) (t : Tok) :
    Ctr 1 w mean mg mb (.ref 198) news [.int n t] (fun v news' => news' = news ∧ ∃ t', v = .str (lawPath n) t') := by
  w_top off
  have hfill : Fill hd.heap_39 Challenge.rw_nq0069_01 := by (k_fill; exact trivial)
  clear hfill
  refine' ctr_of ?h1 ?h2 ?h3 ?h4 ?h5 ?h6 ?h7 ?h8 ?_; (case h1 => k_is); (case h2 => k_is); (case h3 => intro s hX; first | exact BindsTo.of_eq rfl | exact binds_K hX rfl (by k_is) rfl rfl rfl); (case h4 => exact locs rfl); (case h5 => exact rfl); (case h6 => exact rfl); (case h7 => exact rfl); (case h8 => decide)
  intro A outer A₀ base g L s Q H B F X N T hret; dsimp only at H ⊢; have hh := H.handled
  k_with "table" => skip
  repeat' (first | (k_end; wrow_close) | walk1 | (dsimp only; walk1) | fail "no step")
  have b1 := piece_len ((n.fdiv 4).fmod 6).toNat
  have b2 := piece_len ((n.fdiv 24).fmod 6).toNat
  have b3 := piece_len ((n.fdiv 144).fmod 6).toNat
  have b4 := slash_len ((n.fdiv 2).fmod 2).toNat
  have b5 := joined_len (j := ((n.fdiv 4).fmod 6).toNat) (k := ((n.fdiv 24).fmod 6).toNat) (l := ((n.fdiv 144).fmod 6).toNat) (fmod_lt (m := 6) (by decide)) (fmod_lt (m := 6) (by decide)) (fmod_lt (m := 6) (by decide))
  unfold pieces at b1 b2 b3 b5
  unfold slashes at b4
  refine join_T (by k_asm) (by k_mem) (.cons _ _ (.cons _ _ (.cons _ _ .nil))) (by decide) (by simp only [List.map_cons, List.map_nil, List.sum_cons, List.sum_nil, List.length_cons, List.length_nil]; omega) ?_
  intro tj kj
  repeat' (first | (k_end; wrow_close) | walk1 | (dsimp only; walk1) | fail "no step")
  exact hret _ _ _ _ _ ⟨rfl, _, rfl⟩ (by assumption) (news_sub (by assumption) (fun _ hp => List.mem_cons_of_mem _ (List.mem_cons_of_mem _ (List.mem_cons_of_mem _ hp))))

theorem getsep_ctr (w : World) (mean : ExcName → Option Value) (mg mb : Str → Option Value) (news : List (Addr × Obj)) (x : Str) (t : Tok) :
    Ctr 1 w mean mg mb (.ref 35) news [.str x t] (fun v news' => news' = news ∧ ∃ t', v = .str (Str.ofString "/") t') := by
  w_top off
  have hfill : Fill hd.heap_39 Challenge.rw_nq0069_01 := by (k_fill; exact trivial)
  clear hfill
  refine' ctr_of ?h1 ?h2 ?h3 ?h4 ?h5 ?h6 ?h7 ?h8 ?_; (case h1 => k_is); (case h2 => k_is); (case h3 => intro s hX; first | exact BindsTo.of_eq rfl | exact binds_K hX rfl (by k_is) rfl rfl rfl); (case h4 => exact locs rfl); (case h5 => exact rfl); (case h6 => exact rfl); (case h7 => exact rfl); (case h8 => decide)
  intro A outer A₀ base g L s Q H B F X N T hret; dsimp only at H ⊢; have hh := H.handled
  repeat' (first | (k_end; wrow_close) | walk1 | (dsimp only; walk1) | fail "no step")
  exact hret _ _ _ _ _ ⟨rfl, _, rfl⟩ (by assumption) (by assumption)
def headOf (x : Str) : Str := Txt.slice x none (some (Txt.rfind x (Str.ofString "/") + 1))
def dirOf (x : Str) : Str := if ((headOf x).length : Int) = 0 then headOf x else if (headOf x != Txt.mul (Str.ofString "/") ((headOf x).length : Int)) = true then Txt.rstripChars (headOf x) (Str.ofString "/") else headOf x
theorem dir_none {x : Str} (h : ((headOf x).length : Int) = 0) : dirOf x = headOf x := if_pos h
theorem dir_cut {x : Str} (h : ((headOf x).length : Int) ≠ 0) (h1 : (headOf x != Txt.mul (Str.ofString "/") ((headOf x).length : Int)) = true) : dirOf x = Txt.rstripChars (headOf x) (Str.ofString "/") := (if_neg h).trans (if_pos h1)
theorem dir_all {x : Str} (h : ((headOf x).length : Int) ≠ 0) (h1 : (headOf x != Txt.mul (Str.ofString "/") ((headOf x).length : Int)) = false) : dirOf x = headOf x := (if_neg h).trans (if_neg (by rw [h1]; decide))
theorem dirname_ctr (w : World) (mean : ExcName → Option Value) (mg mb : Str → Option Value) (news : List (Addr × Obj)) (x : Str) (t : Tok) (hx : x.length ≤ 4096) :
    Ctr 2 w mean mg mb (.ref 122) news [.str x t] (fun v news' => news' = news ∧ ∃ t', v = .str (dirOf x) t') := by
  w_top off
  have hfill : Fill hd.heap_39 Challenge.rw_nq0069_01 := by (k_fill; exact trivial)
  clear hfill
  refine' ctr_of ?h1 ?h2 ?h3 ?h4 ?h5 ?h6 ?h7 ?h8 ?_; (case h1 => k_is); (case h2 => k_is); (case h3 => intro s hX; first | exact BindsTo.of_eq rfl | exact binds_K hX rfl (by k_is) rfl rfl rfl); (case h4 => exact locs rfl); (case h5 => exact rfl); (case h6 => exact rfl); (case h7 => exact rfl); (case h8 => decide)
  intro A outer A₀ base g L s Q H B F X N T hret; dsimp only at H ⊢; have hh := H.handled
  repeat' (first | ((with_reducible show wpAny _ _ (call (Value.ref 108) [Value.str _ _]) _ _ _); k_dflt (refine' Ctr.use (fspath_ctr _ _ _ _ _ _ _) (by assumption) (by decide) (by assumption) (by k_asm) (by assumption) (by k_asm) (by assumption) ?_); rintro v' nw' h' tk' ⟨hv', hn'⟩ F' N'; cases hv'; cases hn'; (try dsimp only)) | ((with_reducible show wpAny _ _ (call (Value.ref 35) [Value.str _ _]) _ _ _); k_dflt (refine' Ctr.use (getsep_ctr _ _ _ _ _ _ _) (by assumption) (by decide) (by assumption) (by k_asm) (by assumption) (by k_asm) (by assumption) ?_); rintro v' nw' h' tk' ⟨hn', tS, hv'⟩ F' N'; cases hv'; cases hn'; (try dsimp only)) | (k_end; wrow_close) | walk1 | (dsimp only; walk1) | fail "no step")
  · exact hret _ _ _ _ _ ⟨rfl, _, congrArg (Value.str · _) (dir_cut (by assumption) (by assumption)).symm⟩ (by assumption) (by assumption)
  · exact hret _ _ _ _ _ ⟨rfl, _, congrArg (Value.str · _) (dir_all (by assumption) (by assumption)).symm⟩ (by assumption) (by assumption)
  · exact hret _ _ _ _ _ ⟨rfl, _, congrArg (Value.str · _) (dir_none (by assumption)).symm⟩ (by assumption) (by assumption)

theorem kind_ctr (w : World) (mean : ExcName → Option Value) (mg mb : Str → Option Value) (news : List (Addr × Obj)) (y : Str) (u : Tok) (x : Str) (t : Tok) :
    Ctr 1 w mean mg mb (.ref 136) news [.str y u, .str x t] (fun v news' => news' = news ∧ ∃ t', v = .str (Str.ofString "") t') := by
  w_top off
  have hfill : Fill hd.heap_39 Challenge.rw_nq0069_01 := by (k_fill; exact trivial)
  clear hfill
  refine' ctr_of ?h1 ?h2 ?h3 ?h4 ?h5 ?h6 ?h7 ?h8 ?_; (case h1 => k_is); (case h2 => k_is); (case h3 => intro s hX; first | exact BindsTo.of_eq rfl | exact binds_K hX rfl (by k_is) rfl rfl rfl); (case h4 => exact locs rfl); (case h5 => exact rfl); (case h6 => exact rfl); (case h7 => exact rfl); (case h8 => decide)
  intro A outer A₀ base g L s Q H B F X N T hret; dsimp only at H ⊢; have hh := H.handled
  repeat' (first | (k_end; wrow_close) | walk1 | (dsimp only; walk1) | fail "no step")
  exact hret _ _ _ _ _ ⟨rfl, _, rfl⟩ (by assumption) (by assumption)
theorem cpath_ctr (w : World) (mean : ExcName → Option Value) (mg mb : Str → Option Value) (news : List (Addr × Obj)) (y1 y2 y3 : Str) (u1 u2 u3 : Tok) (x : Str) (t : Tok) (C D : Addr) (o : Obj)
    (hs : o.IsDictOf (strKind Challenge.rw_nq0069_01.row.prog w) ([] : List (Str × Value))) (fs : PyProof.V.FlatPairs PyData.str ([] : List (Str × Value)) []) (lo : (D == sysModules) = false) :
    Ctr 2 w mean mg mb (.ref 143) ((D, o) :: (C, { cls := .type "tuple", data := .seq [.str x t].toArray }) :: news) [.str y1 u1, .str y2 u2, .str y3 u3, .ref C, .ref D] (fun v news' => news' = news ∧ v = .str x t) := by
  w_top off
  have hfill : Fill hd.heap_39 Challenge.rw_nq0069_01 := by (k_fill; exact trivial)
  clear hfill
  refine' ctr_of ?h1 ?h2 ?h3 ?h4 ?h5 ?h6 ?h7 ?h8 ?_; (case h1 => k_is); (case h2 => k_is); (case h3 => intro s hX; first | exact BindsTo.of_eq rfl | exact binds_K hX rfl (by k_is) rfl rfl rfl); (case h4 => exact locs rfl); (case h5 => exact rfl); (case h6 => exact rfl); (case h7 => exact rfl); (case h8 => decide)
  intro A outer A₀ base g L s Q H B F X N T hret; dsimp only at H ⊢; have hh := H.handled
  repeat' (first | ((with_reducible show wpAny _ _ (call (Value.ref 136) [Value.str _ _, Value.str _ _]) _ _ _); k_dflt (refine' Ctr.use (kind_ctr _ _ _ _ _ _ _ _ _) (by assumption) (by decide) (by assumption) (by k_asm) (by assumption) (by k_asm) (by assumption) ?_); rintro v' nw' h' tk' ⟨hn', tS, hv'⟩ F' N'; cases hv'; cases hn'; (try dsimp only)) | (k_end; wrow_close) | walk1 | (dsimp only; walk1) | fail "no step")
  exact hret _ _ _ _ _ ⟨rfl, rfl⟩ (by assumption) (news_sub (by assumption) (fun _ hp => List.mem_cons_of_mem _ (List.mem_cons_of_mem _ hp)))
/-- as ctr_of, for a def of *rest and **more that is called by place alone -/
theorem ctr_both {n : Nat} {w : World} {mean : ExcName → Option Value} {mg mb : Str → Option Value} {f : Addr} {news : List (Addr × Obj)} {vs : List Value} {R : Value → List (Addr × Obj) → Prop}
    {name qual : Str} {params : Arguments} {body : List Stmt} {scope : Scope} {dV kV doc pm cdv ct oc : Value} {an od : Option Addr} {osl : Array (Option Value)} {rs : List Value} {nm nr : Str} {front : List (Str × Value)} {g₁ : Addr → Sem (List (Str × Value))} {g₂ : Addr → Addr → Sem (List (Str × Value))}
    (ho : (hd.heap_39 w.params).lookup f = some ⟨oc, od, .func (fnOf name qual params body scope dV kV doc pm an cdv ct), osl⟩) (hcd : codeIn (hd.heap_39 w.params) cdv qual = true)
    (hv : vs.drop (params.posonlyargs.length + params.args.length) = rs) (hnr : params.vararg.map (·.arg) = some nr) (hnm : params.kwarg.map (·.arg) = some nm)
    (hfr : peek (hd.heap_39 w.params) ⟨Challenge.rw_nq0069_01.row.prog, w.params⟩ (bindArgs (fnCut (fnOf name qual params body scope dV kV doc pm an cdv ct)) (argsCut params ⟨vs, []⟩)) = some front)
    (hp : peekA (hd.heap_39 w.params) ⟨Challenge.rw_nq0069_01.row.prog, w.params⟩ (bindArgs (fnOf name qual params body scope dV kV doc pm an cdv ct) ⟨vs, []⟩) = some (({ cls := .type "tuple", data := .seq rs.toArray } : Obj), g₁))
    (hp₂ : ∀ D, peekA (hd.heap_39 w.params) ⟨Challenge.rw_nq0069_01.row.prog, w.params⟩ (g₁ D) = some (dictOf [] 0, g₂ D))
    (hk₂ : ∀ C D, g₂ C D = (forIn ([] : List (Str × Value)) PUnit.unit (fun x _ => (nsSet D x.1 x.2 >>= fun _ => pure (ForInStep.yield PUnit.unit))) >>= fun _ => pure (front ++ [(nr, Value.ref C)] ++ [(nm, Value.ref D)])))
    (hloc : ∀ C D, ∀ y ∈ front ++ [(nr, Value.ref C)] ++ [(nm, Value.ref D)], scope.names.lookup y.1 = some .local)
    (hco : scope.isCoroutine = false) (hgen : scope.isGenerator = false) (hk : scope.kind = .function) (hcell : ∀ x ∈ scope.names, x.2 ≠ .cell)
    (h : ∀ C D o, (∀ p ∈ news, p.1 < C) → C < D → (D == sysModules) = false → o.IsDictOf (strKind Challenge.rw_nq0069_01.row.prog w) ([] : List (Str × Value)) →
      Bod n w mean mg mb (fun L => envOf qual scope L f cdv) (fun y => (front ++ [(nr, Value.ref C)] ++ [(nm, Value.ref D)]).reverse.lookup y) body ((D, o) :: (C, ({ cls := .type "tuple", data := .seq rs.toArray } : Obj)) :: news) R) :
    Ctr (n + 1) w mean mg mb (.ref f) news vs R := by
  intro A env outer A₀ base h₀ L m s Q E H B F X N T hret
  refine wpAny_call (kp_both (ex := []) (DD := []) B F X N T H.frames H.frame H.kind ho hcd (by have := H.depth; omega) hv rfl hnr hnm rfl .nil hfr hp hp₂ hk₂ hloc ?_ hco hgen hk hcell)
  intro C D o g L' h₁ tk l1 l2 lo hs fs FG F' N' B' X' T'
  refine wpAny_mono (h C D o l1 l2 lo hs _ _ _ _ g L' _ (fun fl s' => LeaveK h₀ L m g (fun r s' => match r with | .ok (.ret v) => Q v s' | .ok _ => False | .error e => E e s') (match fl with | .ret v => v | _ => .none) s') (H.deeper hk) B' F' X' N' T' ?_) (fun _ _ x => x) (fun _ _ x => x.elim)
  intro v news' h' tk' m' hR F'' N''
  exact leaveK_ (s' := { s with heap := h', toks := tk' }) F'' N'' (fun F3 N3 => hret v news' h' tk' hR F3 N3)
theorem npath_ctr (w : World) (mean : ExcName → Option Value) (mg mb : Str → Option Value) (news : List (Addr × Obj)) (x : Str) (t : Tok) (ok : PathOk x) :
    Ctr 3 w mean mg mb (.ref 164) news [.str x t] (fun v news' => news' = news ∧ ∃ t', v = .str (nrm x) t') := by
  w_top off
  have hfill : Fill hd.heap_39 Challenge.rw_nq0069_01 := by (k_fill; exact trivial)
  clear hfill
  refine' ctr_both ?h1 ?h2 ?hV ?hQ ?hM ?hR ?hP ?hS ?hT ?hB ?c2 ?c3 ?c4 ?c5 ?_; (case h1 => k_is); (case h2 => k_is); (case hV => kp_lit); (case hQ => exact rfl); (case hM => exact rfl); (case hR => exact rfl); (case hP => exact rfl); (case hS => exact fun _ => rfl); (case hT => exact fun _ _ => rfl); (case hB => exact fun _ _ => locs rfl); (case c5 => decide); (case c2 => exact rfl); (case c3 => exact rfl); (case c4 => exact rfl)
  intro C D o lC lD lo hs
  have fs : PyProof.V.FlatPairs PyData.str ([] : List (Str × Value)) [] := .nil
  intro A outer A₀ base g L s Q H B F X N T hret; dsimp only at H ⊢; have hh := H.handled
  repeat' (first | ((with_reducible show wpAny _ _ (call (Value.ref 143) [Value.str _ _, Value.str _ _, Value.str _ _, Value.ref _, Value.ref _]) _ _ _); k_dflt (refine' Ctr.use (cpath_ctr _ _ _ _ _ _ _ _ _ _ _ _ _ _ _ _ (by assumption) (by assumption) (by assumption)) (by assumption) (by decide) (by assumption) (by k_asm) (by assumption) (by k_asm) (by assumption) ?_); rintro v' nw' h' tk' ⟨hn', hv'⟩ F' N'; cases hv'; cases hn'; (try dsimp only)) | ((with_reducible show wpAny _ _ (call (Value.ref 157) [Value.str _ _]) _ _ _); k_dflt (refine' Ctr.use (unormpath_ctr _ _ _ _ _ _ _ (by assumption)) (by assumption) (by decide) (by assumption) (by k_asm) (by assumption) (by k_asm) (by assumption) ?_); rintro v' nw' h' tk' ⟨hn', tS, hv'⟩ F' N'; cases hv'; cases hn'; (try dsimp only)) | (k_end; wrow_close) | walk1 | (dsimp only; walk1) | fail "no step")
  exact hret _ _ _ _ _ ⟨rfl, _, rfl⟩ (by assumption) (by assumption)

/-- a contract of a def that may take an exception by itself: the ground may turn in the slots of the frames below -/
def CtrS (n : Nat) (w : World) (mean : ExcName → Option Value) (mg mb : Str → Option Value) (f : Value) (news : List (Addr × Obj)) (vs : List Value) (R : Value → List (Addr × Obj) → Prop) : Prop :=
  ∀ (A : Around) (cn : Str) (cs : Scope) (a : Addr) (ccd : Value) (outer : List Env) (A₀ : Around) (base h₀ : Heap) (L : Addr) (m : Str → Option Value) (s : Shared) (Q E : Value → Shared → Prop),
    Ar n A (envOf cn cs L a ccd) outer L → Below A₀ base outer h₀ → Fr h₀ L s.heap m → (hd.heap_39 w.params).In h₀ → News h₀ L s.heap news → Top hd.view_39 (looseW hd.view_39 [Str.ofString "normpath_posixpath", Str.ofString "normpath_path"]) mean mg mb h₀ →
    (hd.heap_39 w.params).In base → Top hd.view_39 (looseW hd.view_39 [Str.ofString "normpath_posixpath", Str.ofString "normpath_path"]) mean mg mb base → KtsDicts (outer.filterMap (·.frame)) h₀ →
    (∀ v news' h' tk' h₁, R v news' → Fr h₁ L h' m → News h₁ L h' news' → Below A₀ base outer h₁ → (hd.heap_39 w.params).In h₁ → Top hd.view_39 (looseW hd.view_39 [Str.ofString "normpath_posixpath", Str.ofString "normpath_path"]) mean mg mb h₁ → KtsDicts (outer.filterMap (·.frame)) h₁ →
      KtsTurn (outer.filterMap (·.frame)) h₀ h₁ → Q v { s with heap := h', toks := tk' }) →
    wpAny (model Challenge.rw_nq0069_01.row.prog w) A (call f vs) Q E s
def BodS (w : World) (mean : ExcName → Option Value) (mg mb : Str → Option Value) (mk : Addr → Env) (m₀ : Str → Option Value) (body : List Stmt) (news : List (Addr × Obj)) (R : Value → List (Addr × Obj) → Prop) : Prop :=
  ∀ (A : Around) (outer : List Env) (base g : Heap) (L : Addr) (s : Shared) (Q : Flow → Shared → Prop),
    A.handled = none → Below A base outer g → Fr g L s.heap m₀ → (hd.heap_39 w.params).In g → News g L s.heap news → Top hd.view_39 (looseW hd.view_39 [Str.ofString "normpath_posixpath", Str.ofString "normpath_path"]) mean mg mb g →
    (hd.heap_39 w.params).In base → Top hd.view_39 (looseW hd.view_39 [Str.ofString "normpath_posixpath", Str.ofString "normpath_path"]) mean mg mb base → KtsDicts (outer.filterMap (·.frame)) g →
    (∀ v news' h' tk' m' g', R v news' → KtsTurn (outer.filterMap (·.frame)) g g' → Fr g' L h' m' → News g' L h' news' → Q (.ret v) { s with heap := h', toks := tk' }) →
    wpAny (model Challenge.rw_nq0069_01.row.prog w) (A.deeper (mk L)) (execs body (mk L)) Q (fun _ _ => False) s
theorem ctrS_of {n : Nat} {w : World} {mean : ExcName → Option Value} {mg mb : Str → Option Value} {f : Addr} {news : List (Addr × Obj)} {vs : List Value} {R : Value → List (Addr × Obj) → Prop}
    {name qual : Str} {params : Arguments} {body : List Stmt} {scope : Scope} {dV kV doc pm cdv ct oc : Value} {an od : Option Addr} {osl : Array (Option Value)} {binds : List (Str × Value)}
    (ho : (hd.heap_39 w.params).lookup f = some ⟨oc, od, .func (fnOf name qual params body scope dV kV doc pm an cdv ct), osl⟩) (hcd : codeIn (hd.heap_39 w.params) cdv qual = true)
    (hbind : ∀ s, BindsTo s (fnOf name qual params body scope dV kV doc pm an cdv ct) ⟨vs, []⟩ binds) (hloc : ∀ y ∈ binds, scope.names.lookup y.1 = some .local)
    (hco : scope.isCoroutine = false) (hgen : scope.isGenerator = false) (hk : scope.kind = .function) (hcell : ∀ x ∈ scope.names, x.2 ≠ .cell)
    (h : BodS w mean mg mb (fun L => envOf qual scope L f cdv) (fun y => binds.reverse.lookup y) body news R) :
    CtrS (n + 1) w mean mg mb (.ref f) news vs R := by
  intro A cn cs a ccd outer A₀ base h₀ L m s Q E H B F X N T XB TB D hret
  refine wpAny_call (code_defS B F X N T XB TB D KtsTurn.refl H.frames ho hcd (by have := H.depth; omega) (hbind s) hloc ?_ H.kind hco hgen hk hcell)
  intro g L' h₁ FG F' N' B' X' T' D'
  refine wpAny_mono (h _ _ _ g L' _ (fun fl s' => LeaveS _ A₀ base outer (hd.heap_39 w.params) _ _ mean mg mb h₀ h₀ L m g (fun r s' => match r with | .ok (.ret v) => Q v s' | .ok _ => False | .error e => E e s') (match fl with | .ret v => v | _ => .none) s') H.handled B' F' X' N' T' XB TB D' ?_) (fun _ _ x => x) (fun _ _ x => x.elim)
  intro v news' h' tk' m' g' hR T1 F'' N''
  exact leaveS_r (s' := { s with heap := h', toks := tk' }) F'' N'' T1 (fun h₁ T2 F3 N3 B3 X3 T3 D3 => hret v news' h' tk' h₁ hR F3 N3 B3 X3 T3 D3 T2)
theorem CtrS.use {n : Nat} {w : World} {mean : ExcName → Option Value} {mg mb : Str → Option Value} {f : Value} {news : List (Addr × Obj)} {vs : List Value} {R : Value → List (Addr × Obj) → Prop}
    (C : CtrS n w mean mg mb f news vs R) {k : Nat} {A : Around} {cn : Str} {cs : Scope} {a : Addr} {ccd : Value} {outer : List Env} {A₀ : Around} {base h₀ : Heap} {L : Addr} {m : Str → Option Value} {s : Shared} {Q E : Value → Shared → Prop}
    (H : Ar k A (envOf cn cs L a ccd) outer L) (hk : n ≤ k) (B : Below A₀ base outer h₀) (F : Fr h₀ L s.heap m) (X : (hd.heap_39 w.params).In h₀) (N : News h₀ L s.heap news)
    (T : Top hd.view_39 (looseW hd.view_39 [Str.ofString "normpath_posixpath", Str.ofString "normpath_path"]) mean mg mb h₀)
    (XB : (hd.heap_39 w.params).In base) (TB : Top hd.view_39 (looseW hd.view_39 [Str.ofString "normpath_posixpath", Str.ofString "normpath_path"]) mean mg mb base) (D : KtsDicts (outer.filterMap (·.frame)) h₀)
    (hret : ∀ v news' h' tk' h₁, R v news' → Fr h₁ L h' m → News h₁ L h' news' → Below A₀ base outer h₁ → (hd.heap_39 w.params).In h₁ → Top hd.view_39 (looseW hd.view_39 [Str.ofString "normpath_posixpath", Str.ofString "normpath_path"]) mean mg mb h₁ → KtsDicts (outer.filterMap (·.frame)) h₁ →
      KtsTurn (outer.filterMap (·.frame)) h₀ h₁ → Q v { s with heap := h', toks := tk' }) :
    wpAny (model Challenge.rw_nq0069_01.row.prog w) A (call f vs) Q E s :=
  C _ _ _ _ _ _ _ _ _ _ _ _ _ _ (H.le hk) B F X N T XB TB D hret
def uldStep (acc : List Str × List Str) (x : Str) : List Str × List Str := if x ∈ acc.2 then (acc.1, acc.2.erase x) else (acc.1 ++ [x], acc.2)
def uld (es as : List Str) : List Str × List Str := es.reverse.foldl uldStep ([], as)
theorem uld_some {acc : List Str × List Str} {x : Str} (h : x ∈ acc.2) : uldStep acc x = (acc.1, acc.2.erase x) := if_pos h
theorem uld_none {acc : List Str × List Str} {x : Str} (h : x ∉ acc.2) : uldStep acc x = (acc.1 ++ [x], acc.2) := if_neg h
theorem rev_fold {α β : Type} (f : β → α → β) (l : List α) (d : α) (b : β) (h : 0 < l.length) : l.reverse.foldl f b = l.dropLast.reverse.foldl f (f b (l.getLastD d)) := by
  have hl : l ≠ [] := fun e => by simp [e] at h
  obtain ⟨r, x, rfl⟩ : ∃ r x, l = r ++ [x] := ⟨l.dropLast, l.getLast hl, (List.dropLast_concat_getLast hl).symm⟩
  simp
/-- what it hands back: a pair of the list of those that were missing, and of the other list, what is left of it -/
def UldR (news : List (Addr × Obj)) (a2 : Addr) (es as : List Str) (v : Value) (news' : List (Addr × Obj)) : Prop :=
  ∃ T M vsM nM vs2 n2, v = .ref T ∧ news' = (T, ({ cls := .type "tuple", data := .seq #[.ref M, .ref a2] } : Obj)) :: (M, listOf vsM.toArray nM) :: (a2, listOf vs2.toArray n2) :: news ∧ StrsAre vsM (uld es as).1 ∧ StrsAre vs2 (uld es as).2 ∧
    (∀ p ∈ news, p.1 < M) ∧ a2 < M ∧ M < T
/-- what holds between the turns: the expected texts that are left, the missing ones, what is left of the others -/
def UInv (w : World) (mean : ExcName → Option Value) (mg mb : Str → Option Value) (A : Around) (base : Heap) (outer : List Env) (g : Heap) (L : Addr) (m₁ : Str → Option Value) (news : List (Addr × Obj)) (a1 a2 M : Addr) (es as : List Str) (s : Shared) (k : Nat) (s' : Shared) : Prop :=
  ∃ h tk g' ys1 us1 k1 mi usM kM ac us2 k2 iv, s' = { s with heap := h, toks := tk } ∧ k = ys1.length ∧ uld es as = ys1.reverse.foldl uldStep (mi, ac) ∧ us2.length ≤ 1000 ∧ usM.length + us1.length ≤ 1000 ∧ StrsAre us1 ys1 ∧ StrsAre usM mi ∧ StrsAre us2 ac ∧
    KtsTurn (outer.filterMap (·.frame)) g g' ∧ Fr g' L h (fun y => if y = Str.ofString "item" then iv else m₁ y) ∧ News g' L h ((M, listOf usM.toArray kM) :: (a1, listOf us1.toArray k1) :: (a2, listOf us2.toArray k2) :: news) ∧
    Below A base outer g' ∧ (hd.heap_39 w.params).In g' ∧ Top hd.view_39 (looseW hd.view_39 [Str.ofString "normpath_posixpath", Str.ofString "normpath_path"]) mean mg mb g' ∧ KtsDicts (outer.filterMap (·.frame)) g'
theorem fr_same {g h : Heap} {L : Addr} {m : Str → Option Value} (x : Str) (F : Fr g L h m) : Fr g L h (fun y => if y = x then m x else m y) := by
  have e : (fun y => if y = x then m x else m y) = m := by
    funext y
    by_cases h : y = x
    · simp [h]
    · simp [h]
  rw [e]; exact F
theorem fr_twice {g h : Heap} {L : Addr} {m : Str → Option Value} {x : Str} {a b : Option Value} (F : Fr g L h (fun y => if y = x then a else if y = x then b else m y)) : Fr g L h (fun y => if y = x then a else m y) := by
  have e : (fun y => if y = x then a else if y = x then b else m y) = fun y => if y = x then a else m y := by
    funext y
    by_cases h : y = x
    · simp [h]
    · simp [h]
  rw [e] at F; exact F
theorem UInv.start {w : World} {mean : ExcName → Option Value} {mg mb : Str → Option Value} {A : Around} {base : Heap} {outer : List Env} {g h : Heap} {L : Addr} {m₁ : Str → Option Value} {news : List (Addr × Obj)} {a1 a2 M : Addr} {es as : List Str} {s : Shared} {tk : Nat} {vs1 vs2 : List Value} {n1 n2 : Nat}
    (h1 : StrsAre vs1 es) (h2 : StrsAre vs2 as) (l1 : vs1.length ≤ 1000) (l2 : vs2.length ≤ 1000) (F : Fr g L h m₁) (N : News g L h ((M, listOf [].toArray 0) :: (a1, listOf vs1.toArray n1) :: (a2, listOf vs2.toArray n2) :: news)) (B : Below A base outer g)
    (X : (hd.heap_39 w.params).In g) (T : Top hd.view_39 (looseW hd.view_39 [Str.ofString "normpath_posixpath", Str.ofString "normpath_path"]) mean mg mb g) (D : KtsDicts (outer.filterMap (·.frame)) g) :
    UInv w mean mg mb A base outer g L m₁ news a1 a2 M es as s es.length { s with heap := h, toks := tk } :=
  ⟨h, tk, g, es, vs1, n1, [], [], 0, as, vs2, n2, _, rfl, rfl, rfl, l2, by simpa using l1, h1, .nil, h2, KtsTurn.refl, fr_same _ F, N, B, X, T, D⟩
theorem uld_ctr (w : World) (mean : ExcName → Option Value) (mg mb : Str → Option Value) (news : List (Addr × Obj)) (a1 a2 : Addr) (vs1 vs2 : List Value) (n1 n2 : Nat) (es as : List Str)
    (h1 : StrsAre vs1 es) (h2 : StrsAre vs2 as) (l1 : vs1.length ≤ 1000) (l2 : vs2.length ≤ 1000) (ne : @Ne Nat a1 a2) (o1 : ∀ p ∈ news, p.1 ≠ a1) (o2 : ∀ p ∈ news, p.1 ≠ a2) :
    CtrS 1 w mean mg mb (.ref 28) ((a1, listOf vs1.toArray n1) :: (a2, listOf vs2.toArray n2) :: news) [.ref a1, .ref a2] (UldR news a2 es as) := by
  w_top off
  have hfill : Fill hd.heap_39 Challenge.rw_nq0069_01 := by (k_fill; exact trivial)
  clear hfill
  refine' ctrS_of ?h1 ?h2 ?h3 ?h4 ?h5 ?h6 ?h7 ?h8 ?_; (case h1 => k_is); (case h2 => k_is); (case h3 => intro s; exact BindsTo.of_eq rfl); (case h4 => exact locs rfl); (case h5 => exact rfl); (case h6 => exact rfl); (case h7 => exact rfl); (case h8 => decide)
  intro A outer base g L s Q hh B F X N T XB TB D hret
  dsimp only
  repeat' (first | ((fail_if_success (first | (with_reducible show wpAny _ _ (exec (Stmt.While _ _ _ _) _) _ _ _) | (with_reducible show wpAny _ _ (exec (Stmt.For _ _ _ _ _) _) _ _ _) | (with_reducible show wpAny _ _ (exec (Stmt.Try _ _ _ _ _) _) _ _ _) | (with_reducible show wpAny _ _ (eval (Expr.ListComp _ _ _ _) _) _ _ _) | (with_reducible show wpAny _ _ (exec (Stmt.Assign _ (Expr.ListComp _ _ _ _) _) _) _ _ _) | (with_reducible show wpAny _ _ (call (Value.ref _) _) _ _ _) | (with_reducible show Exists _))); walk1) | (dsimp only; first | ((fail_if_success (first | (with_reducible show wpAny _ _ (exec (Stmt.While _ _ _ _) _) _ _ _) | (with_reducible show wpAny _ _ (exec (Stmt.For _ _ _ _ _) _) _ _ _) | (with_reducible show wpAny _ _ (exec (Stmt.Try _ _ _ _ _) _) _ _ _) | (with_reducible show wpAny _ _ (eval (Expr.ListComp _ _ _ _) _) _ _ _) | (with_reducible show wpAny _ _ (exec (Stmt.Assign _ (Expr.ListComp _ _ _ _) _) _) _ _ _) | (with_reducible show wpAny _ _ (call (Value.ref _) _) _ _ _) | (with_reducible show Exists _))); walk1)) | fail "no step")
  with_reducible rename Fr _ _ _ _ => F1
  with_reducible rename News _ _ _ _ => N1
  rename_i M hh3 lM hh4
  have oM : ∀ p ∈ news, p.1 ≠ M := fun p hp => Nat.ne_of_lt (allLt_mem lM.2.2 p hp)
  have lM1 := lM.1
  have lM2 := lM.2.1
  refine While_I (UInv w mean mg mb A base outer g L _ news a1 a2 M es as s) es.length (UInv.start h1 h2 l1 l2 F1 N1 B X T D) ?_
  clear F1 N1
  rintro k s' ⟨h, tk, g', ys1, us1, k1, mi, usM, kM, ac, us2, k2, iv, rfl, rfl, hu, b2, b1, S1, SM, S2, TT, F2, N2, B2, X2, T2, D2⟩
  repeat' (first | ((with_reducible show wpAny _ _ (truthy (Value.ref _)) _ _ _); k_dflt (refine' truthy_T (by k_asm) (by k_mem) (by omega) ?_)) | ((with_reducible show wpAny _ _ (call (Value.builtin "list.pop") [Value.ref _]) _ _ _); k_dflt (refine' pop_T (by k_asm) (by k_asm) (by first | exact Upd.head (by repeat' (first | assumption | (refine List.forall_mem_cons.mpr ⟨by k_ne, ?_⟩))) | exact Upd.tail (by k_ne) (Upd.head (by repeat' (first | assumption | (refine List.forall_mem_cons.mpr ⟨by k_ne, ?_⟩)))) | exact Upd.tail (by k_ne) (Upd.tail (by k_ne) (Upd.head (by repeat' (first | assumption | (refine List.forall_mem_cons.mpr ⟨by k_ne, ?_⟩))))) | exact Upd.tail (by k_ne) (Upd.tail (by k_ne) (Upd.tail (by k_ne) (Upd.head (by repeat' (first | assumption | (refine List.forall_mem_cons.mpr ⟨by k_ne, ?_⟩)))))) | exact Upd.tail (by k_ne) (Upd.tail (by k_ne) (Upd.tail (by k_ne) (Upd.tail (by k_ne) (Upd.head (by repeat' (first | assumption | (refine List.forall_mem_cons.mpr ⟨by k_ne, ?_⟩))))))) | exact Upd.tail (by k_ne) (Upd.tail (by k_ne) (Upd.tail (by k_ne) (Upd.tail (by k_ne) (Upd.tail (by k_ne) (Upd.head (by repeat' (first | assumption | (refine List.forall_mem_cons.mpr ⟨by k_ne, ?_⟩))))))))) (by assumption) (by omega) (by omega) ?_); intro h' t' F' N' hS'; (try k_sweep)) | ((fail_if_success (first | (with_reducible show wpAny _ _ (exec (Stmt.While _ _ _ _) _) _ _ _) | (with_reducible show wpAny _ _ (exec (Stmt.For _ _ _ _ _) _) _ _ _) | (with_reducible show wpAny _ _ (exec (Stmt.Try _ _ _ _ _) _) _ _ _) | (with_reducible show wpAny _ _ (eval (Expr.ListComp _ _ _ _) _) _ _ _) | (with_reducible show wpAny _ _ (exec (Stmt.Assign _ (Expr.ListComp _ _ _ _) _) _) _ _ _) | (with_reducible show wpAny _ _ (call (Value.ref _) _) _ _ _) | (with_reducible show Exists _))); walk1) | (dsimp only; first | ((with_reducible show wpAny _ _ (truthy (Value.ref _)) _ _ _); k_dflt (refine' truthy_T (by k_asm) (by k_mem) (by omega) ?_)) | ((with_reducible show wpAny _ _ (call (Value.builtin "list.pop") [Value.ref _]) _ _ _); k_dflt (refine' pop_T (by k_asm) (by k_asm) (by first | exact Upd.head (by repeat' (first | assumption | (refine List.forall_mem_cons.mpr ⟨by k_ne, ?_⟩))) | exact Upd.tail (by k_ne) (Upd.head (by repeat' (first | assumption | (refine List.forall_mem_cons.mpr ⟨by k_ne, ?_⟩)))) | exact Upd.tail (by k_ne) (Upd.tail (by k_ne) (Upd.head (by repeat' (first | assumption | (refine List.forall_mem_cons.mpr ⟨by k_ne, ?_⟩))))) | exact Upd.tail (by k_ne) (Upd.tail (by k_ne) (Upd.tail (by k_ne) (Upd.head (by repeat' (first | assumption | (refine List.forall_mem_cons.mpr ⟨by k_ne, ?_⟩)))))) | exact Upd.tail (by k_ne) (Upd.tail (by k_ne) (Upd.tail (by k_ne) (Upd.tail (by k_ne) (Upd.head (by repeat' (first | assumption | (refine List.forall_mem_cons.mpr ⟨by k_ne, ?_⟩))))))) | exact Upd.tail (by k_ne) (Upd.tail (by k_ne) (Upd.tail (by k_ne) (Upd.tail (by k_ne) (Upd.tail (by k_ne) (Upd.head (by repeat' (first | assumption | (refine List.forall_mem_cons.mpr ⟨by k_ne, ?_⟩))))))))) (by assumption) (by omega) (by omega) ?_); intro h' t' F' N' hS'; (try k_sweep)) | ((fail_if_success (first | (with_reducible show wpAny _ _ (exec (Stmt.While _ _ _ _) _) _ _ _) | (with_reducible show wpAny _ _ (exec (Stmt.For _ _ _ _ _) _) _ _ _) | (with_reducible show wpAny _ _ (exec (Stmt.Try _ _ _ _ _) _) _ _ _) | (with_reducible show wpAny _ _ (eval (Expr.ListComp _ _ _ _) _) _ _ _) | (with_reducible show wpAny _ _ (exec (Stmt.Assign _ (Expr.ListComp _ _ _ _) _) _) _ _ _) | (with_reducible show wpAny _ _ (call (Value.ref _) _) _ _ _) | (with_reducible show Exists _))); walk1)) | fail "no step")
  · have hrv : uld es as = ys1.dropLast.reverse.foldl uldStep (uldStep (mi, ac) (ys1.getLastD Str.empty)) := by rw [hu]; exact rev_fold _ _ _ _ (by rw [← strs_len S1]; assumption)
    have hd1 : us1.dropLast.length + 1 = us1.length := by rw [List.length_dropLast]; omega
    have hd2 : ys1.dropLast.length < ys1.length := by rw [List.length_dropLast, ← strs_len S1]; omega
    refine wpAny_Try_except ?_
    by_cases hmem : ys1.getLastD Str.empty ∈ ac
    · repeat' (first | ((fail_if_success (first | (with_reducible show wpAny _ _ (exec (Stmt.While _ _ _ _) _) _ _ _) | (with_reducible show wpAny _ _ (exec (Stmt.For _ _ _ _ _) _) _ _ _) | (with_reducible show wpAny _ _ (exec (Stmt.Try _ _ _ _ _) _) _ _ _) | (with_reducible show wpAny _ _ (eval (Expr.ListComp _ _ _ _) _) _ _ _) | (with_reducible show wpAny _ _ (exec (Stmt.Assign _ (Expr.ListComp _ _ _ _) _) _) _ _ _) | (with_reducible show wpAny _ _ (call (Value.ref _) _) _ _ _) | (with_reducible show Exists _))); walk1) | (dsimp only; first | ((fail_if_success (first | (with_reducible show wpAny _ _ (exec (Stmt.While _ _ _ _) _) _ _ _) | (with_reducible show wpAny _ _ (exec (Stmt.For _ _ _ _ _) _) _ _ _) | (with_reducible show wpAny _ _ (exec (Stmt.Try _ _ _ _ _) _) _ _ _) | (with_reducible show wpAny _ _ (eval (Expr.ListComp _ _ _ _) _) _ _ _) | (with_reducible show wpAny _ _ (exec (Stmt.Assign _ (Expr.ListComp _ _ _ _) _) _) _ _ _) | (with_reducible show wpAny _ _ (call (Value.ref _) _) _ _ _) | (with_reducible show Exists _))); walk1)) | fail "no step")
      refine remove_T (pre := [(M, _), (a1, _)]) (by k_asm) (by k_asm) (by
        intro p hp
        simp only [List.mem_cons, List.not_mem_nil, or_false] at hp
        rcases hp with rfl | rfl
        · exact Ne.symm (Nat.ne_of_lt lM2)
        · exact ne) o2 S2 hmem (by omega) ?_
      intro h' us hE F' N'
      have hEl : us.length ≤ 1000 := by
        have q1 := strs_len hE
        have q2 := strs_len S2
        have q3 := List.length_erase_of_mem hmem
        omega
      repeat' (first | ((fail_if_success (first | (with_reducible show wpAny _ _ (exec (Stmt.While _ _ _ _) _) _ _ _) | (with_reducible show wpAny _ _ (exec (Stmt.For _ _ _ _ _) _) _ _ _) | (with_reducible show wpAny _ _ (exec (Stmt.Try _ _ _ _ _) _) _ _ _) | (with_reducible show wpAny _ _ (eval (Expr.ListComp _ _ _ _) _) _ _ _) | (with_reducible show wpAny _ _ (exec (Stmt.Assign _ (Expr.ListComp _ _ _ _) _) _) _ _ _) | (with_reducible show wpAny _ _ (call (Value.ref _) _) _ _ _) | (with_reducible show Exists _))); walk1) | (dsimp only; first | ((fail_if_success (first | (with_reducible show wpAny _ _ (exec (Stmt.While _ _ _ _) _) _ _ _) | (with_reducible show wpAny _ _ (exec (Stmt.For _ _ _ _ _) _) _ _ _) | (with_reducible show wpAny _ _ (exec (Stmt.Try _ _ _ _ _) _) _ _ _) | (with_reducible show wpAny _ _ (eval (Expr.ListComp _ _ _ _) _) _ _ _) | (with_reducible show wpAny _ _ (exec (Stmt.Assign _ (Expr.ListComp _ _ _ _) _) _) _ _ _) | (with_reducible show wpAny _ _ (call (Value.ref _) _) _ _ _) | (with_reducible show Exists _))); walk1)) | fail "no step")
      exact ⟨_, hd2, _, _, _, _, _, _, _, _, _, _, _, _, _, rfl, rfl, by rw [hrv, uld_some hmem], hEl, by omega, hS', SM, hE, TT, fr_twice (by assumption), by assumption, B2, X2, T2, D2⟩
    · repeat' (first | ((fail_if_success (first | (with_reducible show wpAny _ _ (exec (Stmt.While _ _ _ _) _) _ _ _) | (with_reducible show wpAny _ _ (exec (Stmt.For _ _ _ _ _) _) _ _ _) | (with_reducible show wpAny _ _ (exec (Stmt.Try _ _ _ _ _) _) _ _ _) | (with_reducible show wpAny _ _ (eval (Expr.ListComp _ _ _ _) _) _ _ _) | (with_reducible show wpAny _ _ (exec (Stmt.Assign _ (Expr.ListComp _ _ _ _) _) _) _ _ _) | (with_reducible show wpAny _ _ (call (Value.ref _) _) _ _ _) | (with_reducible show Exists _))); walk1) | (dsimp only; first | ((fail_if_success (first | (with_reducible show wpAny _ _ (exec (Stmt.While _ _ _ _) _) _ _ _) | (with_reducible show wpAny _ _ (exec (Stmt.For _ _ _ _ _) _) _ _ _) | (with_reducible show wpAny _ _ (exec (Stmt.Try _ _ _ _ _) _) _ _ _) | (with_reducible show wpAny _ _ (eval (Expr.ListComp _ _ _ _) _) _ _ _) | (with_reducible show wpAny _ _ (exec (Stmt.Assign _ (Expr.ListComp _ _ _ _) _) _) _ _ _) | (with_reducible show wpAny _ _ (call (Value.ref _) _) _ _ _) | (with_reducible show Exists _))); walk1)) | fail "no step")
      refine remove_none hh (by k_asm) (by k_mem) S2 hmem ?_
      intro h' tk' e hx
      refine caught_here hx B2 (by assumption) (by assumption) XB TB D2 TT (by kts_test) rfl ?_
      intro h5 g5 T5 F5 N5 B5 X5 P5 D5
      repeat' (first | ((with_reducible show wpAny _ _ (call (Value.builtin "list.append") [Value.ref _, _]) _ _ _); k_dflt (refine' append_T (by k_asm) (by k_asm) (by first | exact Upd.head (by repeat' (first | assumption | (refine List.forall_mem_cons.mpr ⟨by k_ne, ?_⟩))) | exact Upd.tail (by k_ne) (Upd.head (by repeat' (first | assumption | (refine List.forall_mem_cons.mpr ⟨by k_ne, ?_⟩)))) | exact Upd.tail (by k_ne) (Upd.tail (by k_ne) (Upd.head (by repeat' (first | assumption | (refine List.forall_mem_cons.mpr ⟨by k_ne, ?_⟩))))) | exact Upd.tail (by k_ne) (Upd.tail (by k_ne) (Upd.tail (by k_ne) (Upd.head (by repeat' (first | assumption | (refine List.forall_mem_cons.mpr ⟨by k_ne, ?_⟩)))))) | exact Upd.tail (by k_ne) (Upd.tail (by k_ne) (Upd.tail (by k_ne) (Upd.tail (by k_ne) (Upd.head (by repeat' (first | assumption | (refine List.forall_mem_cons.mpr ⟨by k_ne, ?_⟩))))))) | exact Upd.tail (by k_ne) (Upd.tail (by k_ne) (Upd.tail (by k_ne) (Upd.tail (by k_ne) (Upd.tail (by k_ne) (Upd.head (by repeat' (first | assumption | (refine List.forall_mem_cons.mpr ⟨by k_ne, ?_⟩))))))))) (by omega) ?_); intro h' F' N'; (try k_sweep)) | ((fail_if_success (first | (with_reducible show wpAny _ _ (exec (Stmt.While _ _ _ _) _) _ _ _) | (with_reducible show wpAny _ _ (exec (Stmt.For _ _ _ _ _) _) _ _ _) | (with_reducible show wpAny _ _ (exec (Stmt.Try _ _ _ _ _) _) _ _ _) | (with_reducible show wpAny _ _ (eval (Expr.ListComp _ _ _ _) _) _ _ _) | (with_reducible show wpAny _ _ (exec (Stmt.Assign _ (Expr.ListComp _ _ _ _) _) _) _ _ _) | (with_reducible show wpAny _ _ (call (Value.ref _) _) _ _ _) | (with_reducible show Exists _))); walk1) | (dsimp only; first | ((with_reducible show wpAny _ _ (call (Value.builtin "list.append") [Value.ref _, _]) _ _ _); k_dflt (refine' append_T (by k_asm) (by k_asm) (by first | exact Upd.head (by repeat' (first | assumption | (refine List.forall_mem_cons.mpr ⟨by k_ne, ?_⟩))) | exact Upd.tail (by k_ne) (Upd.head (by repeat' (first | assumption | (refine List.forall_mem_cons.mpr ⟨by k_ne, ?_⟩)))) | exact Upd.tail (by k_ne) (Upd.tail (by k_ne) (Upd.head (by repeat' (first | assumption | (refine List.forall_mem_cons.mpr ⟨by k_ne, ?_⟩))))) | exact Upd.tail (by k_ne) (Upd.tail (by k_ne) (Upd.tail (by k_ne) (Upd.head (by repeat' (first | assumption | (refine List.forall_mem_cons.mpr ⟨by k_ne, ?_⟩)))))) | exact Upd.tail (by k_ne) (Upd.tail (by k_ne) (Upd.tail (by k_ne) (Upd.tail (by k_ne) (Upd.head (by repeat' (first | assumption | (refine List.forall_mem_cons.mpr ⟨by k_ne, ?_⟩))))))) | exact Upd.tail (by k_ne) (Upd.tail (by k_ne) (Upd.tail (by k_ne) (Upd.tail (by k_ne) (Upd.tail (by k_ne) (Upd.head (by repeat' (first | assumption | (refine List.forall_mem_cons.mpr ⟨by k_ne, ?_⟩))))))))) (by omega) ?_); intro h' F' N'; (try k_sweep)) | ((fail_if_success (first | (with_reducible show wpAny _ _ (exec (Stmt.While _ _ _ _) _) _ _ _) | (with_reducible show wpAny _ _ (exec (Stmt.For _ _ _ _ _) _) _ _ _) | (with_reducible show wpAny _ _ (exec (Stmt.Try _ _ _ _ _) _) _ _ _) | (with_reducible show wpAny _ _ (eval (Expr.ListComp _ _ _ _) _) _ _ _) | (with_reducible show wpAny _ _ (exec (Stmt.Assign _ (Expr.ListComp _ _ _ _) _) _) _ _ _) | (with_reducible show wpAny _ _ (call (Value.ref _) _) _ _ _) | (with_reducible show Exists _))); walk1)) | fail "no step")
      exact ⟨_, hd2, _, _, _, _, _, _, _, _, _, _, _, _, _, rfl, rfl, by rw [hrv, uld_none hmem], b2, by rw [List.length_append, List.length_singleton]; omega, hS', strs_snoc SM, S2, T5, fr_twice (by assumption), by assumption, B5, X5, P5, D5⟩
  · rename (M < _ ∧ _) => lD
    have e : ys1 = [] := List.length_eq_zero_iff.mp (by rw [← strs_len S1]; omega)
    subst e
    exact hret _ _ _ _ _ _ ⟨_, _, _, _, _, _, rfl, rfl, by rw [hu]; exact SM, by rw [hu]; exact S2, fun p hp => allLt_mem lM.2.2 p hp, lM2, lD.1⟩ TT (by assumption) (news_sub (by assumption) (fun p hp => by
      simp only [List.mem_cons] at hp ⊢
      rcases hp with h | h | h | h
      · exact .inl h
      · exact .inr (.inl h)
      · exact .inr (.inr (.inr (.inl h)))
      · exact .inr (.inr (.inr (.inr h)))))

theorem Ar.under {n : Nat} {A : Around} {env : Env} {outer : List Env} {L C : Addr} {pos : List Value} {kw : List (Str × Value)} (H : Ar (n + 1) A env outer L) : Ar n (A.under (.builtin "type.__call__" ⟨.ref C :: pos, kw⟩)) env outer L :=
  ⟨H.handled, H.frames, H.frame, H.kind, by have := H.depth; show A.depth + 1 + n < _; omega, by have := H.units; show A.units + 1 + 8 * n < _; omega⟩
/-- a body that ends without a return -/
def BodI (n : Nat) (w : World) (mean : ExcName → Option Value) (mg mb : Str → Option Value) (mk : Addr → Env) (m₀ : Str → Option Value) (body : List Stmt) (news : List (Addr × Obj)) (R : List (Addr × Obj) → Prop) : Prop :=
  ∀ (A : Around) (outer : List Env) (A₀ : Around) (base g : Heap) (L : Addr) (s : Shared) (Q : Flow → Shared → Prop),
    Ar n A (mk L) outer L → Below A₀ base outer g → Fr g L s.heap m₀ → (hd.heap_39 w.params).In g → News g L s.heap news → Top hd.view_39 (looseW hd.view_39 [Str.ofString "normpath_posixpath", Str.ofString "normpath_path"]) mean mg mb g →
    (∀ news' h' tk' m', R news' → Fr g L h' m' → News g L h' news' → Q .next { s with heap := h', toks := tk' }) →
    wpAny (model Challenge.rw_nq0069_01.row.prog w) A (execs body (mk L)) Q (fun _ _ => False) s
theorem ctr_cls {n : Nat} {w : World} {mean : ExcName → Option Value} {mg mb : Str → Option Value} {C f : Addr} {news : List (Addr × Obj)} {vs : List Value} {R : Value → List (Addr × Obj) → Prop}
    {name qual : Str} {params : Arguments} {body : List Stmt} {scope : Scope} {dV kV doc pm cdv ct oc : Value} {an od : Option Addr} {osl : Array (Option Value)} {binds : Addr → List (Str × Value)}
    (hm : makesIn (hd.heap_39 w.params) C = true) (hi : findIn (hd.heap_39 w.params) (.ref C) "__init__" = some (some (.ref f))) (hf : isFn (hd.heap_39 w.params) (.ref f) = true)
    (ho : (hd.heap_39 w.params).lookup f = some ⟨oc, od, .func (fnOf name qual params body scope dV kV doc pm an cdv ct), osl⟩) (hcd : codeIn (hd.heap_39 w.params) cdv qual = true)
    (hbind : ∀ (x : Addr) (s : Shared), (hd.heap_39 w.params).In s.heap → BindsTo s (fnOf name qual params body scope dV kV doc pm an cdv ct) ⟨.ref x :: vs, []⟩ (binds x)) (hloc : ∀ x, ∀ y ∈ binds x, scope.names.lookup y.1 = some .local)
    (hco : scope.isCoroutine = false) (hgen : scope.isGenerator = false) (hk : scope.kind = .function) (hcell : ∀ x ∈ scope.names, x.2 ≠ .cell)
    (h : ∀ x dx, (∀ p ∈ news, p.1 < dx) → dx < x → BodI n w mean mg mb (fun L => envOf qual scope L f cdv) (fun y => (binds x).reverse.lookup y) body ((x, instObj C dx) :: (dx, dictOf [] 0) :: news) (R (.ref x))) :
    Ctr (n + 2) w mean mg mb (.ref C) news vs R := by
  intro A env outer A₀ base h₀ L m s Q E H B F X N T hret
  refine call_cls F X N hm hi hf ?_
  intro x dx h1 F1 N1 lx ldx
  refine code_def (s := { s with heap := h1 }) B F1 X N1 T (H.under (pos := vs) (kw := []) (C := C)).frames H.frame H.kind ho hcd (by have := (H.under (pos := vs) (kw := []) (C := C)).depth; omega) (hbind x _ (X.keeps F1.keep)) (hloc x) ?_ hco hgen hk hcell
  intro g L' h₁ FG F' N' B' X' T'
  refine wpAny_mono (h x dx lx ldx _ _ _ _ g L' _ (fun fl s' => LeaveK h₀ L m g (InitBack x fun r s' => match r with | .ok (.ret v) => Q v s' | .ok _ => False | .error e => E e s') (match fl with | .ret v => v | _ => .none) s') (H.under.deeper hk) B' F' X' N' T' ?_) (fun _ _ x => x) (fun _ _ x => x.elim)
  intro news' h' tk' m' hR F'' N''
  exact leaveK_ (s' := { s with heap := h', toks := tk' }) F'' N'' (fun F3 N3 => ⟨rfl, hret _ news' h' tk' hR F3 N3⟩)
abbrev readDict (w : World) (t1 t2 t3 : Tok) (S Dl G : Addr) : Obj := dictOf [⟨PyData.keyHash w.params (Str.ofString "_mods"), .str (Str.ofString "_mods") t1, .ref S⟩, ⟨PyData.keyHash w.params (Str.ofString "_dirs"), .str (Str.ofString "_dirs") t2, .ref Dl⟩, ⟨PyData.keyHash w.params (Str.ofString "_ignore"), .str (Str.ofString "_ignore") t3, .ref G⟩] 3
/-- a reader just made, on the ledger -/
def IgnR (w : World) (news : List (Addr × Obj)) (ds : List Str) (v : Value) (news' : List (Addr × Obj)) : Prop :=
  ∃ x dx S Dl G led t1 t2 t3 usD o kvs, v = .ref x ∧ news' = (G, o) :: (Dl, LCg.lst usD) :: (S, setNil led) :: (x, instObj 187 dx) :: (dx, readDict w t1 t2 t3 S Dl G) :: news ∧ StrsAre usD (ds.map nrm) ∧
    o.IsDictOf (strKind Challenge.rw_nq0069_01.row.prog w) kvs ∧ PyProof.V.FlatPairs PyData.str kvs [(.str (Str.ofString "<string>"), .int 1)] ∧ (G == sysModules) = false ∧
    (∀ p ∈ news, p.1 < G) ∧ (@LT.lt Nat _ x G) ∧ (@LT.lt Nat _ dx G) ∧ (@LT.lt Nat _ S G) ∧ (@LT.lt Nat _ Dl G)
theorem ignore_ctr (w : World) (mean : ExcName → Option Value) (mg mb : Str → Option Value) (news : List (Addr × Obj)) (am ad : Addr) (us : List Value) (k : Nat) (ds : List Str) (hS : StrsAre us ds) (hl : us.length ≤ 1000) (hne : 0 < us.length) (hok : ∀ d ∈ ds, PathOk d) :
    Ctr 5 w mean mg mb (.ref 187) ((am, listOf [].toArray 0) :: (ad, listOf us.toArray k) :: news) [.ref am, .ref ad] (IgnR w ((am, listOf [].toArray 0) :: (ad, listOf us.toArray k) :: news) ds) := by
  w_top off
  have hfill : Fill hd.heap_39 Challenge.rw_nq0069_01 := by (k_fill; exact trivial)
  clear hfill
  refine' ctr_cls ?hM ?hI ?hF ?h1 ?h2 ?h3 ?h4 ?h5 ?h6 ?h7 ?h8 ?_; (case hM => k_is); (case hI => k_is); (case hF => k_is); (case h1 => k_is); (case h2 => k_is); (case h3 => intro x s hX; exact binds_K hX rfl (by k_is) rfl rfl rfl); (case h4 => intro x; exact locs rfl); (case h5 => exact rfl); (case h6 => exact rfl); (case h7 => exact rfl); (case h8 => decide)
  intro x dx lx ldx
  have o1 : ∀ p ∈ news, p.1 ≠ x := fun p hp => Nat.ne_of_lt (Nat.lt_trans (lx p (List.mem_cons_of_mem _ (List.mem_cons_of_mem _ hp))) ldx)
  have o2 : ∀ p ∈ news, p.1 ≠ dx := fun p hp => Nat.ne_of_lt (lx p (List.mem_cons_of_mem _ (List.mem_cons_of_mem _ hp)))
  have n1 : @LT.lt Nat _ dx x := ldx
  have n2 : @LT.lt Nat _ am dx := lx _ List.mem_cons_self
  have n3 : @LT.lt Nat _ ad dx := lx _ (List.mem_cons_of_mem _ List.mem_cons_self)
  intro A outer A₀ base g L s Q H B F X N T hret; dsimp only at H ⊢; have hh := H.handled
  repeat' (first | ((with_reducible show wpAny _ _ (truthy (Value.ref _)) _ _ _); k_dflt (refine' truthy_T (by k_asm) (by k_mem) (by omega) ?_)) | ((with_reducible show wpAny _ _ (setAttr (Value.ref _) _ _) _ _ _); k_dflt (refine' set_dict ?k1 ?k2 ?k3 ?k4 ?k5 ?k6 ?k7 ?k8 ?k9 ?k10 ?k11 ?k12 ?k13 ?_; (case k1 => k_asm); (case k2 => k_asm); (case k3 => k_asm); (case k4 => k_inst); (case k5 => exact rfl); (case k6 => k_is); (case k7 => k_is); (case k8 => k_is); (case k9 => k_is); (case k10 => k_get); (case k11 => k_put); (case k12 => exact (by first | exact Upd.head (by repeat' (first | assumption | (refine List.forall_mem_cons.mpr ⟨by k_ne, ?_⟩))) | exact Upd.tail (by k_ne) (Upd.head (by repeat' (first | assumption | (refine List.forall_mem_cons.mpr ⟨by k_ne, ?_⟩)))) | exact Upd.tail (by k_ne) (Upd.tail (by k_ne) (Upd.head (by repeat' (first | assumption | (refine List.forall_mem_cons.mpr ⟨by k_ne, ?_⟩))))) | exact Upd.tail (by k_ne) (Upd.tail (by k_ne) (Upd.tail (by k_ne) (Upd.head (by repeat' (first | assumption | (refine List.forall_mem_cons.mpr ⟨by k_ne, ?_⟩)))))) | exact Upd.tail (by k_ne) (Upd.tail (by k_ne) (Upd.tail (by k_ne) (Upd.tail (by k_ne) (Upd.head (by repeat' (first | assumption | (refine List.forall_mem_cons.mpr ⟨by k_ne, ?_⟩))))))) | exact Upd.tail (by k_ne) (Upd.tail (by k_ne) (Upd.tail (by k_ne) (Upd.tail (by k_ne) (Upd.tail (by k_ne) (Upd.head (by repeat' (first | assumption | (refine List.forall_mem_cons.mpr ⟨by k_ne, ?_⟩)))))))))); (case k13 => exact Nat.le_of_ble_eq_true rfl)); intro h' F' N'; (try k_sweep)) | ((fail_if_success (first | (with_reducible show wpAny _ _ (exec (Stmt.While _ _ _ _) _) _ _ _) | (with_reducible show wpAny _ _ (exec (Stmt.For _ _ _ _ _) _) _ _ _) | (with_reducible show wpAny _ _ (exec (Stmt.Try _ _ _ _ _) _) _ _ _) | (with_reducible show wpAny _ _ (eval (Expr.ListComp _ _ _ _) _) _ _ _) | (with_reducible show wpAny _ _ (exec (Stmt.Assign _ (Expr.ListComp _ _ _ _) _) _) _ _ _) | (with_reducible show wpAny _ _ (call (Value.ref _) _) _ _ _) | (with_reducible show Exists _))); walk1) | (dsimp only; first | ((with_reducible show wpAny _ _ (truthy (Value.ref _)) _ _ _); k_dflt (refine' truthy_T (by k_asm) (by k_mem) (by omega) ?_)) | ((with_reducible show wpAny _ _ (setAttr (Value.ref _) _ _) _ _ _); k_dflt (refine' set_dict ?k1 ?k2 ?k3 ?k4 ?k5 ?k6 ?k7 ?k8 ?k9 ?k10 ?k11 ?k12 ?k13 ?_; (case k1 => k_asm); (case k2 => k_asm); (case k3 => k_asm); (case k4 => k_inst); (case k5 => exact rfl); (case k6 => k_is); (case k7 => k_is); (case k8 => k_is); (case k9 => k_is); (case k10 => k_get); (case k11 => k_put); (case k12 => exact (by first | exact Upd.head (by repeat' (first | assumption | (refine List.forall_mem_cons.mpr ⟨by k_ne, ?_⟩))) | exact Upd.tail (by k_ne) (Upd.head (by repeat' (first | assumption | (refine List.forall_mem_cons.mpr ⟨by k_ne, ?_⟩)))) | exact Upd.tail (by k_ne) (Upd.tail (by k_ne) (Upd.head (by repeat' (first | assumption | (refine List.forall_mem_cons.mpr ⟨by k_ne, ?_⟩))))) | exact Upd.tail (by k_ne) (Upd.tail (by k_ne) (Upd.tail (by k_ne) (Upd.head (by repeat' (first | assumption | (refine List.forall_mem_cons.mpr ⟨by k_ne, ?_⟩)))))) | exact Upd.tail (by k_ne) (Upd.tail (by k_ne) (Upd.tail (by k_ne) (Upd.tail (by k_ne) (Upd.head (by repeat' (first | assumption | (refine List.forall_mem_cons.mpr ⟨by k_ne, ?_⟩))))))) | exact Upd.tail (by k_ne) (Upd.tail (by k_ne) (Upd.tail (by k_ne) (Upd.tail (by k_ne) (Upd.tail (by k_ne) (Upd.head (by repeat' (first | assumption | (refine List.forall_mem_cons.mpr ⟨by k_ne, ?_⟩)))))))))); (case k13 => exact Nat.le_of_ble_eq_true rfl)); intro h' F' N'; (try k_sweep)) | ((fail_if_success (first | (with_reducible show wpAny _ _ (exec (Stmt.While _ _ _ _) _) _ _ _) | (with_reducible show wpAny _ _ (exec (Stmt.For _ _ _ _ _) _) _ _ _) | (with_reducible show wpAny _ _ (exec (Stmt.Try _ _ _ _ _) _) _ _ _) | (with_reducible show wpAny _ _ (eval (Expr.ListComp _ _ _ _) _) _ _ _) | (with_reducible show wpAny _ _ (exec (Stmt.Assign _ (Expr.ListComp _ _ _ _) _) _) _ _ _) | (with_reducible show wpAny _ _ (call (Value.ref _) _) _ _ _) | (with_reducible show Exists _))); walk1)) | fail "no step")
  with_reducible rename Fr _ _ _ _ => F1
  with_reducible rename News _ _ _ _ => N1
  dsimp only
  k_dflt (refine LCg.ListComp_U (F₀ := F1) (by with_unfolding_all rfl) (by decide) (by rfl) (by decide) (by rfl) ?_)
  walk1
  refine LCg.CompSrc.ledger hh F1 N1 (by k_mem) (by simpa using line_of (by omega : us.length ≤ 100000)) ?_
  intro g1
  dsimp only
  refine comp_map nrm hS (.inr ⟨_, by k_mem, rfl, _, rfl⟩) ?_ ?_
  · intro d t I oI C oC D' m₂ ys h tk E' hd' hC hx F2 N2
    have okd := hok d hd'
    clear F1 N1
    dsimp only
    repeat' (first | ((with_reducible show wpAny _ _ (call (Value.ref 164) [Value.str _ _]) _ _ _); k_dflt (refine' Ctr.use (npath_ctr _ _ _ _ _ _ _ (by assumption)) (by assumption) (by decide) (by assumption) (by k_asm) (by assumption) (by k_asm) (by assumption) ?_); rintro v' nw' h' tk' ⟨hn', tS, hv'⟩ F' N'; cases hv'; cases hn'; (try dsimp only)) | ((fail_if_success (first | (with_reducible show wpAny _ _ (exec (Stmt.While _ _ _ _) _) _ _ _) | (with_reducible show wpAny _ _ (exec (Stmt.For _ _ _ _ _) _) _ _ _) | (with_reducible show wpAny _ _ (exec (Stmt.Try _ _ _ _ _) _) _ _ _) | (with_reducible show wpAny _ _ (eval (Expr.ListComp _ _ _ _) _) _ _ _) | (with_reducible show wpAny _ _ (exec (Stmt.Assign _ (Expr.ListComp _ _ _ _) _) _) _ _ _) | (with_reducible show wpAny _ _ (call (Value.ref _) _) _ _ _) | (with_reducible show Exists _))); walk1) | (dsimp only; first | ((with_reducible show wpAny _ _ (call (Value.ref 164) [Value.str _ _]) _ _ _); k_dflt (refine' Ctr.use (npath_ctr _ _ _ _ _ _ _ (by assumption)) (by assumption) (by decide) (by assumption) (by k_asm) (by assumption) (by k_asm) (by assumption) ?_); rintro v' nw' h' tk' ⟨hn', tS, hv'⟩ F' N'; cases hv'; cases hn'; (try dsimp only)) | ((fail_if_success (first | (with_reducible show wpAny _ _ (exec (Stmt.While _ _ _ _) _) _ _ _) | (with_reducible show wpAny _ _ (exec (Stmt.For _ _ _ _ _) _) _ _ _) | (with_reducible show wpAny _ _ (exec (Stmt.Try _ _ _ _ _) _) _ _ _) | (with_reducible show wpAny _ _ (eval (Expr.ListComp _ _ _ _) _) _ _ _) | (with_reducible show wpAny _ _ (exec (Stmt.Assign _ (Expr.ListComp _ _ _ _) _) _) _ _ _) | (with_reducible show wpAny _ _ (call (Value.ref _) _) _ _ _) | (with_reducible show Exists _))); walk1)) | fail "no step")
    exact ⟨_, _, _, rfl, rfl, by assumption, by assumption⟩
  · intro ys hY D' h tk F2 N2 off
    clear F1 N1
    simp only [LCg.Off1] at off
    dsimp only
    repeat' (first | ((with_reducible show wpAny _ _ (setAttr (Value.ref _) _ _) _ _ _); k_dflt (refine' set_dict ?k1 ?k2 ?k3 ?k4 ?k5 ?k6 ?k7 ?k8 ?k9 ?k10 ?k11 ?k12 ?k13 ?_; (case k1 => k_asm); (case k2 => k_asm); (case k3 => k_asm); (case k4 => k_inst); (case k5 => exact rfl); (case k6 => k_is); (case k7 => k_is); (case k8 => k_is); (case k9 => k_is); (case k10 => k_get); (case k11 => k_put); (case k12 => exact (by first | exact Upd.head (by repeat' (first | assumption | (refine List.forall_mem_cons.mpr ⟨by k_ne, ?_⟩))) | exact Upd.tail (by k_ne) (Upd.head (by repeat' (first | assumption | (refine List.forall_mem_cons.mpr ⟨by k_ne, ?_⟩)))) | exact Upd.tail (by k_ne) (Upd.tail (by k_ne) (Upd.head (by repeat' (first | assumption | (refine List.forall_mem_cons.mpr ⟨by k_ne, ?_⟩))))) | exact Upd.tail (by k_ne) (Upd.tail (by k_ne) (Upd.tail (by k_ne) (Upd.head (by repeat' (first | assumption | (refine List.forall_mem_cons.mpr ⟨by k_ne, ?_⟩)))))) | exact Upd.tail (by k_ne) (Upd.tail (by k_ne) (Upd.tail (by k_ne) (Upd.tail (by k_ne) (Upd.head (by repeat' (first | assumption | (refine List.forall_mem_cons.mpr ⟨by k_ne, ?_⟩))))))) | exact Upd.tail (by k_ne) (Upd.tail (by k_ne) (Upd.tail (by k_ne) (Upd.tail (by k_ne) (Upd.tail (by k_ne) (Upd.head (by repeat' (first | assumption | (refine List.forall_mem_cons.mpr ⟨by k_ne, ?_⟩)))))))))); (case k13 => exact Nat.le_of_ble_eq_true rfl)); intro h' F' N'; (try k_sweep)) | (k_end; wrow_close) | walk1 | (dsimp only; walk1) | fail "no step")
    rename (D' < _ ∧ _) => lG
    refine hret _ _ _ _ ⟨_, _, _, _, _, _, _, _, _, _, _, _, rfl, rfl, hY, by assumption, by assumption, by assumption, ?_, lG.2.2.1, lG.2.2.2.1, lG.2.1, lG.1⟩ (by assumption) (by assumption)
    exact List.forall_mem_cons.mpr ⟨lG.2.2.2.2.1, List.forall_mem_cons.mpr ⟨lG.2.2.2.2.2.1, allLt_mem lG.2.2.2.2.2.2⟩⟩

/-- a file lies in one of the folders, told by its letters -/
def hit (es : List Str) (f : Str) : Bool := es.any fun d => Txt.startswith f (d ++ Str.ofString "/")
def hitV (b : Bool) : Int := if b then 1 else 0
/-- a reader's cache: what stands in it of a file is right -/
def Good (w : World) (es : List Str) (n : Nat) (o : Obj) : Prop :=
  ∃ kvs, o.IsDictOf (strKind Challenge.rw_nq0069_01.row.prog w) kvs ∧ kvs.length ≤ n ∧ ∀ f v, valueAt kvs (Str.ofString "m" ++ f) = some v → ∃ t, v = .int (hitV (hit es f)) t
abbrev rdr (w : World) (x dx S Dl G : Addr) (led : Bool) (t1 t2 t3 : Tok) (usD : List Value) (nD : Nat) (o : Obj) (news : List (Addr × Obj)) : List (Addr × Obj) :=
  (G, o) :: (Dl, listOf usD.toArray nD) :: (S, setNil led) :: (x, instObj 187 dx) :: (dx, readDict w t1 t2 t3 S Dl G) :: news
theorem hit_yes {es : List Str} {f d : Str} {i : Nat} (hd : es[i]? = some d) (h : Txt.startswith f (d ++ Str.ofString "/") = true) : hit es f = true := List.any_eq_true.mpr ⟨d, List.mem_of_getElem? hd, h⟩
theorem hit_step {es : List Str} {f d : Str} {i : Nat} (hd : es[i]? = some d) (h0 : hit (es.take i) f = false) (h : Txt.startswith f (d ++ Str.ofString "/") = false) : hit (es.take (i + 1)) f = false := by
  unfold hit at *
  rw [List.take_add_one, hd, List.any_append, h0]
  simpa using h
theorem cps_inj {a b : Str} (h : a.cps.toList = b.cps.toList) : a = b := by
  cases a; cases b; simp only [Array.toList_inj] at h; exact congrArg _ h
theorem app_inj {m a b : Str} (h : m ++ a = m ++ b) : a = b := by
  have e : (m ++ a).cps.toList = (m ++ b).cps.toList := by rw [h]
  have e2 : ∀ x y : Str, (x ++ y).cps.toList = x.cps.toList ++ y.cps.toList := fun x y => Array.toList_append
  rw [e2, e2] at e
  exact cps_inj (List.append_cancel_left e)
theorem good_set {w : World} {es : List Str} {n : Nat} {o' : Obj} {kvs : List (Str × Value)} {f : Str} {b : Int} {t : Tok} (hl : kvs.length ≤ n) (hc : ∀ f v, valueAt kvs (Str.ofString "m" ++ f) = some v → ∃ t, v = .int (hitV (hit es f)) t)
    (hn : (valueAt kvs (Str.ofString "m" ++ f)).isSome = false) (hs : o'.IsDictOf (strKind Challenge.rw_nq0069_01.row.prog w) (stored kvs (Str.ofString "m" ++ f) (.int b t))) (hb : b = hitV (hit es f)) : Good w es (n + 1) o' := by
  have hno : kvs.any (fun kv => kv.1 = Str.ofString "m" ++ f) = false := by
    cases h : kvs.any (fun kv => kv.1 = Str.ofString "m" ++ f) with
    | false => rfl
    | true =>
      obtain ⟨kv, hm, hk⟩ := List.any_eq_true.mp h
      rw [valueAt, Option.isSome_map, List.find?_isSome.mpr ⟨kv, hm, hk⟩] at hn
      cases hn
  unfold stored at hs
  rw [hno, if_neg (by decide)] at hs
  refine ⟨_, hs, by simpa using hl, fun g v hv => ?_⟩
  unfold valueAt at hv
  rw [List.find?_append] at hv
  cases hq : kvs.find? (fun kv => kv.1 = Str.ofString "m" ++ g) with
  | some kv =>
    rw [hq] at hv
    exact hc g v (by unfold valueAt; rw [hq]; exact hv)
  | none =>
    rw [hq] at hv
    simp only [Option.none_or] at hv
    by_cases hfg : Str.ofString "m" ++ f = Str.ofString "m" ++ g
    · rw [List.find?_cons_of_pos (by simpa using hfg)] at hv
      have := app_inj hfg
      subst this
      subst hb
      exact ⟨t, (Option.some.inj hv).symm⟩
    · rw [List.find?_cons_of_neg (by simpa using hfg)] at hv
      cases hv
theorem names_ctr (w : World) (mean : ExcName → Option Value) (mg mb : Str → Option Value) (news : List (Addr × Obj)) (x dx S Dl G : Addr) (led : Bool) (t1 t2 t3 : Tok) (usD : List Value) (nD n : Nat) (es : List Str) (o : Obj)
    (f : Str) (tf tm : Tok) (hS : StrsAre usD es) (hf : f.length ≤ 100) (hG : Good w es n o) (hn : n ≤ 1000) (lo : (G == sysModules) = false)
    (hus : usD.length ≤ 1000) (hes : ∀ d ∈ es, d.length ≤ 100) (lG1 : @LT.lt Nat _ x G) (lG2 : @LT.lt Nat _ dx G) (lG3 : @LT.lt Nat _ S G) (lG4 : @LT.lt Nat _ Dl G) (lG5 : ∀ p ∈ news, p.1 ≠ G) :
    Ctr 1 w mean mg mb (.ref 184) (rdr w x dx S Dl G led t1 t2 t3 usD nD o news) [.ref x, .str f tf, .str (Str.ofString "m" ++ f) tm]
      (fun v news' => ∃ t o', v = .int (hitV (hit es f)) t ∧ news' = rdr w x dx S Dl G led t1 t2 t3 usD nD o' news ∧ Good w es (n + 1) o') := by
  w_top off
  have hfill : Fill hd.heap_39 Challenge.rw_nq0069_01 := by (k_fill; exact trivial)
  clear hfill
  obtain ⟨kvs, hs, hl, hc⟩ := hG
  unfold rdr
  have hsz : kvs.length ≤ sizeLine := line_of (by omega)
  refine' ctr_of ?h1 ?h2 ?h3 ?h4 ?h5 ?h6 ?h7 ?h8 ?_; (case h1 => k_is); (case h2 => k_is); (case h3 => intro s hX; first | exact BindsTo.of_eq rfl | exact binds_K hX rfl (by k_is) rfl rfl rfl); (case h4 => exact locs rfl); (case h5 => exact rfl); (case h6 => exact rfl); (case h7 => exact rfl); (case h8 => decide)
  intro A outer A₀ base g L s Q H B F X N T hret; dsimp only at H ⊢; have hh := H.handled
  repeat' (first | ((with_reducible show wpAny _ _ (compareOp CmpOp.In (Value.str _ _) (Value.ref G)) _ _ _); k_dflt (refine kda_in (knd := PySem.strKind _ _) (by k_asm) (by k_mem) hs lo (strKind_is _ _ _ _) _ rfl ?_)) | ((with_reducible show wpAny _ _ (compareOp CmpOp.In (Value.str _ _) (Value.ref S)) _ _ _); k_dflt (refine in_setN (by k_asm) (by k_mem) ?_)) | ((with_reducible show wpAny _ _ (setItem (Value.ref G) (Value.str _ _) _) _ _ _); k_dflt (refine kda_set (knd := PySem.strKind _ _) (by k_asm) (by k_asm) (by first | exact UpdF.head (by repeat' (first | assumption | (refine List.forall_mem_cons.mpr ⟨by k_ne, ?_⟩))) | exact UpdF.tail (by k_ne) (UpdF.head (by repeat' (first | assumption | (refine List.forall_mem_cons.mpr ⟨by k_ne, ?_⟩)))) | exact UpdF.tail (by k_ne) (UpdF.tail (by k_ne) (UpdF.head (by repeat' (first | assumption | (refine List.forall_mem_cons.mpr ⟨by k_ne, ?_⟩))))) | exact UpdF.tail (by k_ne) (UpdF.tail (by k_ne) (UpdF.tail (by k_ne) (UpdF.head (by repeat' (first | assumption | (refine List.forall_mem_cons.mpr ⟨by k_ne, ?_⟩))))))) hs (strKind_is _ _ _ _) hsz ?_); intro h' o' F' N' hs'; (try k_sweep)) | ((fail_if_success (first | (with_reducible show wpAny _ _ (exec (Stmt.While _ _ _ _) _) _ _ _) | (with_reducible show wpAny _ _ (exec (Stmt.For _ _ _ _ _) _) _ _ _) | (with_reducible show wpAny _ _ (exec (Stmt.Try _ _ _ _ _) _) _ _ _) | (with_reducible show wpAny _ _ (eval (Expr.ListComp _ _ _ _) _) _ _ _) | (with_reducible show wpAny _ _ (exec (Stmt.Assign _ (Expr.ListComp _ _ _ _) _) _) _ _ _) | (with_reducible show wpAny _ _ (call (Value.ref _) _) _ _ _) | (with_reducible show Exists _))); walk1) | (dsimp only; first | ((with_reducible show wpAny _ _ (compareOp CmpOp.In (Value.str _ _) (Value.ref G)) _ _ _); k_dflt (refine kda_in (knd := PySem.strKind _ _) (by k_asm) (by k_mem) hs lo (strKind_is _ _ _ _) _ rfl ?_)) | ((with_reducible show wpAny _ _ (compareOp CmpOp.In (Value.str _ _) (Value.ref S)) _ _ _); k_dflt (refine in_setN (by k_asm) (by k_mem) ?_)) | ((with_reducible show wpAny _ _ (setItem (Value.ref G) (Value.str _ _) _) _ _ _); k_dflt (refine kda_set (knd := PySem.strKind _ _) (by k_asm) (by k_asm) (by first | exact UpdF.head (by repeat' (first | assumption | (refine List.forall_mem_cons.mpr ⟨by k_ne, ?_⟩))) | exact UpdF.tail (by k_ne) (UpdF.head (by repeat' (first | assumption | (refine List.forall_mem_cons.mpr ⟨by k_ne, ?_⟩)))) | exact UpdF.tail (by k_ne) (UpdF.tail (by k_ne) (UpdF.head (by repeat' (first | assumption | (refine List.forall_mem_cons.mpr ⟨by k_ne, ?_⟩))))) | exact UpdF.tail (by k_ne) (UpdF.tail (by k_ne) (UpdF.tail (by k_ne) (UpdF.head (by repeat' (first | assumption | (refine List.forall_mem_cons.mpr ⟨by k_ne, ?_⟩))))))) hs (strKind_is _ _ _ _) hsz ?_); intro h' o' F' N' hs'; (try k_sweep)) | ((fail_if_success (first | (with_reducible show wpAny _ _ (exec (Stmt.While _ _ _ _) _) _ _ _) | (with_reducible show wpAny _ _ (exec (Stmt.For _ _ _ _ _) _) _ _ _) | (with_reducible show wpAny _ _ (exec (Stmt.Try _ _ _ _ _) _) _ _ _) | (with_reducible show wpAny _ _ (eval (Expr.ListComp _ _ _ _) _) _ _ _) | (with_reducible show wpAny _ _ (exec (Stmt.Assign _ (Expr.ListComp _ _ _ _) _) _) _ _ _) | (with_reducible show wpAny _ _ (call (Value.ref _) _) _ _ _) | (with_reducible show Exists _))); walk1)) | fail "no step")
  · rename (Option.isSome _ = true) => hsome
    obtain ⟨v, hv⟩ := Option.isSome_iff_exists.mp hsome
    obtain ⟨t, rfl⟩ := hc f v hv
    k_dflt (refine kdt_getItem (knd := PySem.strKind _ _) (by k_asm) (by k_mem) (by k_asm) (strKind_is _ _ _ _) hv ?_)
    dsimp only
    exact hret _ _ _ _ _ ⟨_, _, rfl, rfl, kvs, hs, by omega, hc⟩ (by assumption) (by assumption)
  · rename (Option.isSome _ = false) => hnone
    refine For_F F (by with_unfolding_all rfl) (by with_unfolding_all rfl) ?_
    repeat' (first | ((fail_if_success (first | (with_reducible show wpAny _ _ (exec (Stmt.While _ _ _ _) _) _ _ _) | (with_reducible show wpAny _ _ (exec (Stmt.For _ _ _ _ _) _) _ _ _) | (with_reducible show wpAny _ _ (exec (Stmt.Try _ _ _ _ _) _) _ _ _) | (with_reducible show wpAny _ _ (eval (Expr.ListComp _ _ _ _) _) _ _ _) | (with_reducible show wpAny _ _ (exec (Stmt.Assign _ (Expr.ListComp _ _ _ _) _) _) _ _ _) | (with_reducible show wpAny _ _ (call (Value.ref _) _) _ _ _) | (with_reducible show Exists _))); walk1) | (dsimp only; first | ((fail_if_success (first | (with_reducible show wpAny _ _ (exec (Stmt.While _ _ _ _) _) _ _ _) | (with_reducible show wpAny _ _ (exec (Stmt.For _ _ _ _ _) _) _ _ _) | (with_reducible show wpAny _ _ (exec (Stmt.Try _ _ _ _ _) _) _ _ _) | (with_reducible show wpAny _ _ (eval (Expr.ListComp _ _ _ _) _) _ _ _) | (with_reducible show wpAny _ _ (exec (Stmt.Assign _ (Expr.ListComp _ _ _ _) _) _) _ _ _) | (with_reducible show wpAny _ _ (call (Value.ref _) _) _ _ _) | (with_reducible show Exists _))); walk1)) | fail "no step")
    refine iter_setN hh F N (by k_mem) rfl ?_
    clear F N
    intro h1 tk1 F N
    dsimp only
    repeat' (first | ((fail_if_success (first | (with_reducible show wpAny _ _ (exec (Stmt.While _ _ _ _) _) _ _ _) | (with_reducible show wpAny _ _ (exec (Stmt.For _ _ _ _ _) _) _ _ _) | (with_reducible show wpAny _ _ (exec (Stmt.Try _ _ _ _ _) _) _ _ _) | (with_reducible show wpAny _ _ (eval (Expr.ListComp _ _ _ _) _) _ _ _) | (with_reducible show wpAny _ _ (exec (Stmt.Assign _ (Expr.ListComp _ _ _ _) _) _) _ _ _) | (with_reducible show wpAny _ _ (call (Value.ref _) _) _ _ _) | (with_reducible show Exists _))); walk1) | (dsimp only; first | ((fail_if_success (first | (with_reducible show wpAny _ _ (exec (Stmt.While _ _ _ _) _) _ _ _) | (with_reducible show wpAny _ _ (exec (Stmt.For _ _ _ _ _) _) _ _ _) | (with_reducible show wpAny _ _ (exec (Stmt.Try _ _ _ _ _) _) _ _ _) | (with_reducible show wpAny _ _ (eval (Expr.ListComp _ _ _ _) _) _ _ _) | (with_reducible show wpAny _ _ (exec (Stmt.Assign _ (Expr.ListComp _ _ _ _) _) _) _ _ _) | (with_reducible show wpAny _ _ (call (Value.ref _) _) _ _ _) | (with_reducible show Exists _))); walk1)) | fail "no step")
    refine For_F F (by with_unfolding_all rfl) (by with_unfolding_all rfl) ?_
    repeat' (first | ((fail_if_success (first | (with_reducible show wpAny _ _ (exec (Stmt.While _ _ _ _) _) _ _ _) | (with_reducible show wpAny _ _ (exec (Stmt.For _ _ _ _ _) _) _ _ _) | (with_reducible show wpAny _ _ (exec (Stmt.Try _ _ _ _ _) _) _ _ _) | (with_reducible show wpAny _ _ (eval (Expr.ListComp _ _ _ _) _) _ _ _) | (with_reducible show wpAny _ _ (exec (Stmt.Assign _ (Expr.ListComp _ _ _ _) _) _) _ _ _) | (with_reducible show wpAny _ _ (call (Value.ref _) _) _ _ _) | (with_reducible show Exists _))); walk1) | (dsimp only; first | ((fail_if_success (first | (with_reducible show wpAny _ _ (exec (Stmt.While _ _ _ _) _) _ _ _) | (with_reducible show wpAny _ _ (exec (Stmt.For _ _ _ _ _) _) _ _ _) | (with_reducible show wpAny _ _ (exec (Stmt.Try _ _ _ _ _) _) _ _ _) | (with_reducible show wpAny _ _ (eval (Expr.ListComp _ _ _ _) _) _ _ _) | (with_reducible show wpAny _ _ (exec (Stmt.Assign _ (Expr.ListComp _ _ _ _) _) _) _ _ _) | (with_reducible show wpAny _ _ (call (Value.ref _) _) _ _ _) | (with_reducible show Exists _))); walk1)) | fail "no step")
    refine iter_ledS (σ := Unit) (o := listOf usD.toArray nD) (vs := usD) (news := (G, o) :: (S, setNil led) :: (x, instObj 187 dx) :: (dx, readDict w t1 t2 t3 S Dl G) :: news) (fun _ => _) () (fun i _ nws => nws = (G, o) :: (S, setNil led) :: (x, instObj 187 dx) :: (dx, readDict w t1 t2 t3 S Dl G) :: news ∧ hit (es.take i) f = false) hh rfl ⟨_, rfl⟩ F (news_sub N ?_) rfl ⟨rfl, rfl⟩ ?_ ?_
    · intro p hp
      simp only [List.mem_cons] at hp ⊢
      rcases hp with h | h | h
      · exact .inr (.inl h)
      · exact .inl h
      · exact .inr (.inr h)
    · rintro i v - nws h tk I oI hv ⟨rfl, hno⟩ hI hl2 F2 N2
      obtain ⟨d, td, rfl, hd⟩ := StrsAre.item hS i v hv
      have hdl := hes d (List.mem_of_getElem? hd)
      clear F N
      have hI0 : @Ne Nat I G := Ne.symm (hI _ List.mem_cons_self)
      repeat' (first | ((with_reducible show wpAny _ _ (setItem (Value.ref G) (Value.str _ _) _) _ _ _); k_dflt (refine kda_set (knd := PySem.strKind _ _) (by k_asm) (by k_asm) (by first | exact UpdF.head (by repeat' (first | assumption | (refine List.forall_mem_cons.mpr ⟨by k_ne, ?_⟩))) | exact UpdF.tail (by k_ne) (UpdF.head (by repeat' (first | assumption | (refine List.forall_mem_cons.mpr ⟨by k_ne, ?_⟩)))) | exact UpdF.tail (by k_ne) (UpdF.tail (by k_ne) (UpdF.head (by repeat' (first | assumption | (refine List.forall_mem_cons.mpr ⟨by k_ne, ?_⟩))))) | exact UpdF.tail (by k_ne) (UpdF.tail (by k_ne) (UpdF.tail (by k_ne) (UpdF.head (by repeat' (first | assumption | (refine List.forall_mem_cons.mpr ⟨by k_ne, ?_⟩))))))) hs (strKind_is _ _ _ _) hsz ?_); intro h' o' F' N' hs'; (try k_sweep)) | ((fail_if_success (first | (with_reducible show wpAny _ _ (exec (Stmt.While _ _ _ _) _) _ _ _) | (with_reducible show wpAny _ _ (exec (Stmt.For _ _ _ _ _) _) _ _ _) | (with_reducible show wpAny _ _ (exec (Stmt.Try _ _ _ _ _) _) _ _ _) | (with_reducible show wpAny _ _ (eval (Expr.ListComp _ _ _ _) _) _ _ _) | (with_reducible show wpAny _ _ (exec (Stmt.Assign _ (Expr.ListComp _ _ _ _) _) _) _ _ _) | (with_reducible show wpAny _ _ (call (Value.ref _) _) _ _ _) | (with_reducible show Exists _))); walk1) | (dsimp only; first | ((with_reducible show wpAny _ _ (setItem (Value.ref G) (Value.str _ _) _) _ _ _); k_dflt (refine kda_set (knd := PySem.strKind _ _) (by k_asm) (by k_asm) (by first | exact UpdF.head (by repeat' (first | assumption | (refine List.forall_mem_cons.mpr ⟨by k_ne, ?_⟩))) | exact UpdF.tail (by k_ne) (UpdF.head (by repeat' (first | assumption | (refine List.forall_mem_cons.mpr ⟨by k_ne, ?_⟩)))) | exact UpdF.tail (by k_ne) (UpdF.tail (by k_ne) (UpdF.head (by repeat' (first | assumption | (refine List.forall_mem_cons.mpr ⟨by k_ne, ?_⟩))))) | exact UpdF.tail (by k_ne) (UpdF.tail (by k_ne) (UpdF.tail (by k_ne) (UpdF.head (by repeat' (first | assumption | (refine List.forall_mem_cons.mpr ⟨by k_ne, ?_⟩))))))) hs (strKind_is _ _ _ _) hsz ?_); intro h' o' F' N' hs'; (try k_sweep)) | ((fail_if_success (first | (with_reducible show wpAny _ _ (exec (Stmt.While _ _ _ _) _) _ _ _) | (with_reducible show wpAny _ _ (exec (Stmt.For _ _ _ _ _) _) _ _ _) | (with_reducible show wpAny _ _ (exec (Stmt.Try _ _ _ _ _) _) _ _ _) | (with_reducible show wpAny _ _ (eval (Expr.ListComp _ _ _ _) _) _ _ _) | (with_reducible show wpAny _ _ (exec (Stmt.Assign _ (Expr.ListComp _ _ _ _) _) _) _ _ _) | (with_reducible show wpAny _ _ (call (Value.ref _) _) _ _ _) | (with_reducible show Exists _))); walk1)) | fail "no step")
      · have hb : (1 : Int) = hitV (hit es f) := by rw [hit_yes hd (by assumption)]; rfl
        refine hret _ _ _ _ _ ⟨_, _, congrArg (Value.int · _) hb, rfl, good_set hl hc hnone hs' hb⟩ F' (news_sub N' fun p hp => ?_)
        simp only [List.mem_cons] at hp ⊢
        rcases hp with h | h | h
        · exact .inr (.inr (.inl h))
        · exact .inr (.inl h)
        · exact .inr (.inr (.inr h))
      · exact TurnEndS.intro () _ (by k_asm) (by k_asm) (fun _ h => h) hI ⟨rfl, hit_step hd hno (by assumption)⟩
    · rintro - cv nws h tk ⟨rfl, hno⟩ F2 N2
      clear F N
      have hno' : hit es f = false := by rw [strs_len hS, List.take_length] at hno; exact hno
      repeat' (first | ((with_reducible show wpAny _ _ (setItem (Value.ref G) (Value.str _ _) _) _ _ _); k_dflt (refine kda_set (knd := PySem.strKind _ _) (by k_asm) (by k_asm) (by first | exact UpdF.head (by repeat' (first | assumption | (refine List.forall_mem_cons.mpr ⟨by k_ne, ?_⟩))) | exact UpdF.tail (by k_ne) (UpdF.head (by repeat' (first | assumption | (refine List.forall_mem_cons.mpr ⟨by k_ne, ?_⟩)))) | exact UpdF.tail (by k_ne) (UpdF.tail (by k_ne) (UpdF.head (by repeat' (first | assumption | (refine List.forall_mem_cons.mpr ⟨by k_ne, ?_⟩))))) | exact UpdF.tail (by k_ne) (UpdF.tail (by k_ne) (UpdF.tail (by k_ne) (UpdF.head (by repeat' (first | assumption | (refine List.forall_mem_cons.mpr ⟨by k_ne, ?_⟩))))))) hs (strKind_is _ _ _ _) hsz ?_); intro h' o' F' N' hs'; (try k_sweep)) | ((fail_if_success (first | (with_reducible show wpAny _ _ (exec (Stmt.While _ _ _ _) _) _ _ _) | (with_reducible show wpAny _ _ (exec (Stmt.For _ _ _ _ _) _) _ _ _) | (with_reducible show wpAny _ _ (exec (Stmt.Try _ _ _ _ _) _) _ _ _) | (with_reducible show wpAny _ _ (eval (Expr.ListComp _ _ _ _) _) _ _ _) | (with_reducible show wpAny _ _ (exec (Stmt.Assign _ (Expr.ListComp _ _ _ _) _) _) _ _ _) | (with_reducible show wpAny _ _ (call (Value.ref _) _) _ _ _) | (with_reducible show Exists _))); walk1) | (dsimp only; first | ((with_reducible show wpAny _ _ (setItem (Value.ref G) (Value.str _ _) _) _ _ _); k_dflt (refine kda_set (knd := PySem.strKind _ _) (by k_asm) (by k_asm) (by first | exact UpdF.head (by repeat' (first | assumption | (refine List.forall_mem_cons.mpr ⟨by k_ne, ?_⟩))) | exact UpdF.tail (by k_ne) (UpdF.head (by repeat' (first | assumption | (refine List.forall_mem_cons.mpr ⟨by k_ne, ?_⟩)))) | exact UpdF.tail (by k_ne) (UpdF.tail (by k_ne) (UpdF.head (by repeat' (first | assumption | (refine List.forall_mem_cons.mpr ⟨by k_ne, ?_⟩))))) | exact UpdF.tail (by k_ne) (UpdF.tail (by k_ne) (UpdF.tail (by k_ne) (UpdF.head (by repeat' (first | assumption | (refine List.forall_mem_cons.mpr ⟨by k_ne, ?_⟩))))))) hs (strKind_is _ _ _ _) hsz ?_); intro h' o' F' N' hs'; (try k_sweep)) | ((fail_if_success (first | (with_reducible show wpAny _ _ (exec (Stmt.While _ _ _ _) _) _ _ _) | (with_reducible show wpAny _ _ (exec (Stmt.For _ _ _ _ _) _) _ _ _) | (with_reducible show wpAny _ _ (exec (Stmt.Try _ _ _ _ _) _) _ _ _) | (with_reducible show wpAny _ _ (eval (Expr.ListComp _ _ _ _) _) _ _ _) | (with_reducible show wpAny _ _ (exec (Stmt.Assign _ (Expr.ListComp _ _ _ _) _) _) _ _ _) | (with_reducible show wpAny _ _ (call (Value.ref _) _) _ _ _) | (with_reducible show Exists _))); walk1)) | fail "no step")
      have hb : (0 : Int) = hitV (hit es f) := by rw [hno']; rfl
      refine hret _ _ _ _ _ ⟨_, _, congrArg (Value.int · _) hb, rfl, good_set hl hc hnone hs' hb⟩ F' (news_sub N' fun p hp => ?_)
      simp only [List.mem_cons] at hp ⊢
      rcases hp with h | h | h
      · exact .inr (.inl h)
      · exact .inl h
      · exact .inr (.inr h)

theorem Ar.deeperC {n : Nat} {A : Around} {env : Env} {outer : List Env} {L L' f : Addr} {qual : Str} {scope : Scope} {cdv : Value} (H : Ar (n + 1) A env outer L) (hk : scope.kind = .function) :
    Ar n (A.deeper (envOfC qual scope L' f cdv)) (envOfC qual scope L' f cdv) (env :: outer) L' :=
  ⟨H.handled, by show A.frames.map _ = _; rw [H.frames]; rfl, rfl, hk, by have := H.depth; show A.depth + 1 + n < _; omega, by have := H.units; show A.units + 3 + 8 * n < _; omega⟩
/-- a body of a def that has cells -/
def BodC (n : Nat) (w : World) (mean : ExcName → Option Value) (mg mb : Str → Option Value) (mk : Addr → Env) (m₀ : Addr → Str → Option Value) (cm : Addr → Str → Option Value) (cs : Addr → List (Str × Addr)) (body : List Stmt) (news : List (Addr × Obj)) (R : Value → List (Addr × Obj) → Prop) : Prop :=
  ∀ (A : Around) (outer : List Env) (A₀ : Around) (base g : Heap) (L : Addr) (cells : List (Addr × Obj)) (s : Shared) (Q : Flow → Shared → Prop),
    Ar n A (mk L) outer L → Below A₀ base outer g → Fr g L s.heap (m₀ L) → (hd.heap_39 w.params).In g → News g L s.heap (cells ++ news) → CellsAre (cm L) (cs L) cells → (∀ p ∈ news, p.1 < L) → Top hd.view_39 (looseW hd.view_39 [Str.ofString "normpath_posixpath", Str.ofString "normpath_path"]) mean mg mb g →
    (∀ v news' h' tk' m', R v news' → Fr g L h' m' → News g L h' news' → Q (.ret v) { s with heap := h', toks := tk' }) →
    wpAny (model Challenge.rw_nq0069_01.row.prog w) A (execs body (mk L)) Q (fun _ _ => False) s
theorem ctr_ofC {n : Nat} {w : World} {mean : ExcName → Option Value} {mg mb : Str → Option Value} {f : Addr} {news : List (Addr × Obj)} {vs : List Value} {R : Value → List (Addr × Obj) → Prop}
    {name qual : Str} {params : Arguments} {body : List Stmt} {scope : Scope} {dV kV doc pm cdv ct oc : Value} {an od : Option Addr} {osl : Array (Option Value)} {binds : List (Str × Value)}
    (ho : (hd.heap_39 w.params).lookup f = some ⟨oc, od, .func (fnOf name qual params body scope dV kV doc pm an cdv ct), osl⟩) (hcd : codeIn (hd.heap_39 w.params) cdv qual = true)
    (hbind : ∀ s : Shared, (hd.heap_39 w.params).In s.heap → BindsTo s (fnOf name qual params body scope dV kV doc pm an cdv ct) ⟨vs, []⟩ binds) (hkind : (binds.all fun y => scope.names.lookup y.1 == some .local || scope.names.lookup y.1 == some .cell) = true)
    (hnd : ((cellsFrom 0 scope.names []).map (·.1)).Nodup) (hco : scope.isCoroutine = false) (hgen : scope.isGenerator = false) (hk : scope.kind = .function)
    (h : BodC n w mean mg mb (fun L => envOfC qual scope L f cdv) (fun L => bindL (envOfC qual scope L f cdv).kindOf binds fun _ => none) (fun L => bindC (envOfC qual scope L f cdv).kindOf binds fun _ => none) (fun L => cellsFrom (L + 1) scope.names []) body news R) :
    Ctr (n + 1) w mean mg mb (.ref f) news vs R := by
  intro A env outer A₀ base h₀ L m s Q E H B F X N T hret
  refine wpAny_call (code_defC B F X N T H.frames H.frame H.kind ho hcd (by have := H.depth; omega) (hbind s (X.keeps F.keep)) hkind hnd ?_ hco hgen hk)
  intro g L' h₁ tk cells FG F' N' Y B' X' T' l1
  refine wpAny_mono (h _ _ _ _ g L' cells _ (fun fl s' => LeaveK h₀ L m g (fun r s' => match r with | .ok (.ret v) => Q v s' | .ok _ => False | .error e => E e s') (match fl with | .ret v => v | _ => .none) s') (H.deeperC hk) B' F' X' N' Y l1 T' ?_) (fun _ _ x => x) (fun _ _ x => x.elim)
  intro v news' h' tk' m' hR F'' N''
  exact leaveK_ (s' := { s with heap := h', toks := tk' }) F'' N'' (fun F3 N3 => hret v news' h' tk' hR F3 N3)
theorem lawkept_ctr (w : World) (mean : ExcName → Option Value) (mg mb : Str → Option Value) (news : List (Addr × Obj)) (x dx S Dl G fl : Addr) (led : Bool) (t1 t2 t3 : Tok) (usD : List Value) (nD : Nat) (es : List Str) (o : Obj) (us : List Value) (k : Nat) (fs : List Str)
    (hU : StrsAre us fs) (hul : us.length ≤ 500) (hfs : ∀ f ∈ fs, f.length ≤ 100) (hS : StrsAre usD es) (hG : Good w es 1 o) (lo : (G == sysModules) = false)
    (hus : usD.length ≤ 1000) (hes : ∀ d ∈ es, d.length ≤ 100) (lG1 : @LT.lt Nat _ x G) (lG2 : @LT.lt Nat _ dx G) (lG3 : @LT.lt Nat _ S G) (lG4 : @LT.lt Nat _ Dl G) (lG6 : @Ne Nat fl G) (lG5 : ∀ p ∈ news, p.1 ≠ G) :
    Ctr 3 w mean mg mb (.ref 203) (rdr w x dx S Dl G led t1 t2 t3 usD nD o ((fl, listOf us.toArray k) :: news)) [.ref x, .ref fl]
      (fun v news' => ∃ D ys, v = .ref D ∧ news' = (D, LCg.lst ys) :: (fl, listOf us.toArray k) :: news ∧ StrsAre ys (fs.filter fun f => !hit es f) ∧ @Ne Nat fl D ∧ ∀ p ∈ news, p.1 ≠ D) := by
  w_top off
  have hfill : Fill hd.heap_39 Challenge.rw_nq0069_01 := by (k_fill; exact trivial)
  clear hfill
  unfold rdr
  refine' ctr_ofC ?h1 ?h2 ?h3 ?h4 ?hD ?h5 ?h6 ?h7 ?_; (case h1 => k_is); (case h2 => k_is); (case h3 => intro s hX; first | exact BindsTo.of_eq rfl | exact binds_K hX rfl (by k_is) rfl rfl rfl); (case h4 => exact rfl); (case hD => decide +kernel); (case h5 => exact rfl); (case h6 => exact rfl); (case h7 => exact rfl)
  intro A outer A₀ base g L cells s Q H B F X N Y l1 T hret; dsimp only at H ⊢; have hh := H.handled
  obtain ⟨oc, rfl, hoc'⟩ := CellsAre.one Y
  have hoc : oc.data = .cell (some (.ref x)) := hoc'
  clear hoc' Y
  simp only [List.cons_append, List.nil_append] at N
  repeat' (first | ((fail_if_success (first | (with_reducible show wpAny _ _ (exec (Stmt.While _ _ _ _) _) _ _ _) | (with_reducible show wpAny _ _ (exec (Stmt.For _ _ _ _ _) _) _ _ _) | (with_reducible show wpAny _ _ (exec (Stmt.Try _ _ _ _ _) _) _ _ _) | (with_reducible show wpAny _ _ (eval (Expr.ListComp _ _ _ _) _) _ _ _) | (with_reducible show wpAny _ _ (exec (Stmt.Assign _ (Expr.ListComp _ _ _ _) _) _) _ _ _) | (with_reducible show wpAny _ _ (call (Value.ref _) _) _ _ _) | (with_reducible show Exists _))); walk1) | (dsimp only; first | ((fail_if_success (first | (with_reducible show wpAny _ _ (exec (Stmt.While _ _ _ _) _) _ _ _) | (with_reducible show wpAny _ _ (exec (Stmt.For _ _ _ _ _) _) _ _ _) | (with_reducible show wpAny _ _ (exec (Stmt.Try _ _ _ _ _) _) _ _ _) | (with_reducible show wpAny _ _ (eval (Expr.ListComp _ _ _ _) _) _ _ _) | (with_reducible show wpAny _ _ (exec (Stmt.Assign _ (Expr.ListComp _ _ _ _) _) _) _ _ _) | (with_reducible show wpAny _ _ (call (Value.ref _) _) _ _ _) | (with_reducible show Exists _))); walk1)) | fail "no step")
  k_dflt (refine LCt.ListComp_T (F₀ := F) (by with_unfolding_all rfl) (by decide) (by rfl) (by decide) (by rfl) ?_)
  walk1
  refine LCt.CompSrcT.ledger hh F N (by k_mem) (by simpa using line_of (by omega : us.length ≤ 100000)) ?_
  intro g1
  dsimp only
  refine comp_filter (fun o => (L + 1, oc) :: rdr w x dx S Dl G led t1 t2 t3 usD nD o ((fl, listOf us.toArray k) :: news)) (fun i o => Good w es (1 + i) o) Value.str (fun f => !hit es f) id hU.length (src_strs hU) (fun a => Or.inr ⟨_, by k_mem, rfl, _, rfl⟩) o hG ?_ ?_
  · intro i a d t I oI C oC D' m₂ ys h tk E' hd hGi hC hx F2 N2 off ne
    have hdl := hfs d (List.mem_of_getElem? hd)
    have hil : i < us.length := by
      rcases Nat.lt_or_ge i us.length with h | h
      · exact h
      · rw [hU.length] at h; rw [List.getElem?_eq_none h] at hd; cases hd
    have lL : @Ne Nat (L + 1) G := Ne.symm (Nat.ne_of_lt (Nat.lt_succ_of_lt (l1 _ List.mem_cons_self)))
    clear F N
    dsimp only
    have hN := fun tf tm => names_ctr w mean mg mb ((I, oI) :: (C, oC) :: (D', LCg.lst ys) :: (L + 1, oc) :: (fl, listOf us.toArray k) :: news) x dx S Dl G led t1 t2 t3 usD nD (1 + i) es a d tf tm hS hdl hGi (by omega) lo hus hes lG1 lG2 lG3 lG4 (by
      have h3 := off.2.1
      exact List.forall_mem_cons.mpr ⟨Ne.symm h3.1, List.forall_mem_cons.mpr ⟨Ne.symm h3.2.1, List.forall_mem_cons.mpr ⟨Ne.symm h3.2.2, List.forall_mem_cons.mpr ⟨lL, List.forall_mem_cons.mpr ⟨lG6, lG5⟩⟩⟩⟩⟩)
    have hsub : ∀ p ∈ rdr w x dx S Dl G led t1 t2 t3 usD nD a ((I, oI) :: (C, oC) :: (D', LCg.lst ys) :: (L + 1, oc) :: (fl, listOf us.toArray k) :: news), p ∈ (I, oI) :: (C, oC) :: (D', LCg.lst ys) :: (L + 1, oc) :: rdr w x dx S Dl G led t1 t2 t3 usD nD a ((fl, listOf us.toArray k) :: news) := fun p hp => by
      simp only [rdr, List.mem_cons] at hp ⊢
      rcases hp with h | h | h | h | h | h | h | h | h | h | h <;> simp only [h, true_or, or_true]
    repeat' (first | ((with_reducible show wpAny _ _ (call (Value.ref 184) _) _ _ _); k_dflt (refine' Ctr.use (hN _ _) (by assumption) (by decide) (by assumption) (by k_asm) (by assumption) (news_sub (by k_asm) hsub) (by assumption) ?_); rintro v' nw' h' tk' ⟨tS, o', hv', hn', hG'⟩ F' N'; cases hv'; cases hn'; (try dsimp only)) | ((fail_if_success (first | (with_reducible show wpAny _ _ (exec (Stmt.While _ _ _ _) _) _ _ _) | (with_reducible show wpAny _ _ (exec (Stmt.For _ _ _ _ _) _) _ _ _) | (with_reducible show wpAny _ _ (exec (Stmt.Try _ _ _ _ _) _) _ _ _) | (with_reducible show wpAny _ _ (eval (Expr.ListComp _ _ _ _) _) _ _ _) | (with_reducible show wpAny _ _ (exec (Stmt.Assign _ (Expr.ListComp _ _ _ _) _) _) _ _ _) | (with_reducible show wpAny _ _ (call (Value.ref _) _) _ _ _) | (with_reducible show Exists _))); walk1) | (dsimp only; first | ((with_reducible show wpAny _ _ (call (Value.ref 184) _) _ _ _); k_dflt (refine' Ctr.use (hN _ _) (by assumption) (by decide) (by assumption) (by k_asm) (by assumption) (news_sub (by k_asm) hsub) (by assumption) ?_); rintro v' nw' h' tk' ⟨tS, o', hv', hn', hG'⟩ F' N'; cases hv'; cases hn'; (try dsimp only)) | ((fail_if_success (first | (with_reducible show wpAny _ _ (exec (Stmt.While _ _ _ _) _) _ _ _) | (with_reducible show wpAny _ _ (exec (Stmt.For _ _ _ _ _) _) _ _ _) | (with_reducible show wpAny _ _ (exec (Stmt.Try _ _ _ _ _) _) _ _ _) | (with_reducible show wpAny _ _ (eval (Expr.ListComp _ _ _ _) _) _ _ _) | (with_reducible show wpAny _ _ (exec (Stmt.Assign _ (Expr.ListComp _ _ _ _) _) _) _ _ _) | (with_reducible show wpAny _ _ (call (Value.ref _) _) _ _ _) | (with_reducible show Exists _))); walk1)) | fail "no step")
    refine TestEnd.intro o' ?_ hG' F' N' ?_ off ?_
    · cases hit es d <;> rfl
    · intro p hp
      simp only [rdr, List.mem_cons] at hp ⊢
      rcases hp with h | h | h | h | h | h | h | h | h | h | h <;> simp only [h, true_or, or_true]
    · intro _ N3 E3
      clear N' N2 F2
      repeat' (first | ((fail_if_success (first | (with_reducible show wpAny _ _ (exec (Stmt.While _ _ _ _) _) _ _ _) | (with_reducible show wpAny _ _ (exec (Stmt.For _ _ _ _ _) _) _ _ _) | (with_reducible show wpAny _ _ (exec (Stmt.Try _ _ _ _ _) _) _ _ _) | (with_reducible show wpAny _ _ (eval (Expr.ListComp _ _ _ _) _) _ _ _) | (with_reducible show wpAny _ _ (exec (Stmt.Assign _ (Expr.ListComp _ _ _ _) _) _) _ _ _) | (with_reducible show wpAny _ _ (call (Value.ref _) _) _ _ _) | (with_reducible show Exists _))); walk1) | (dsimp only; first | ((fail_if_success (first | (with_reducible show wpAny _ _ (exec (Stmt.While _ _ _ _) _) _ _ _) | (with_reducible show wpAny _ _ (exec (Stmt.For _ _ _ _ _) _) _ _ _) | (with_reducible show wpAny _ _ (exec (Stmt.Try _ _ _ _ _) _) _ _ _) | (with_reducible show wpAny _ _ (eval (Expr.ListComp _ _ _ _) _) _ _ _) | (with_reducible show wpAny _ _ (exec (Stmt.Assign _ (Expr.ListComp _ _ _ _) _) _) _ _ _) | (with_reducible show wpAny _ _ (call (Value.ref _) _) _ _ _) | (with_reducible show Exists _))); walk1)) | fail "no step")
      exact ⟨_, _, _, rfl, rfl, by assumption, by assumption⟩
  · intro a ys hGi hY D' h tk F2 N2 off
    clear F N
    refine hret _ _ _ _ _ ⟨D', ys, rfl, rfl, by simpa using hY, off.2.2.2.2.2.2.1, fun p hp => ?_⟩ F2 (news_sub N2 fun p hp => ?_)
    · exact off1_mem off.2.2.2.2.2.2.2 p hp
    · simp only [rdr, List.mem_cons] at hp ⊢
      rcases hp with h | h | h
      · exact .inl h
      · simp only [h, true_or, or_true]
      · simp only [h, true_or, or_true]

/-- the folders above a path, as dirname tells them -/
def ups : Nat → Str → List Str
  | 0, _ => []
  | n + 1, x => if (dirOf x != x) = true then dirOf x :: ups n (dirOf x) else []
def ends : Nat → Str → Bool
  | 0, x => decide (x.length ≤ 100) && (dirOf x == x)
  | n + 1, x => decide (x.length ≤ 100) && (dirOf x == x || ends n (dirOf x))
theorem ends_len : ∀ {n : Nat} {x : Str}, ends n x = true → x.length ≤ 100
  | 0, _, h => by simp only [ends, Bool.and_eq_true, decide_eq_true_eq] at h; exact h.1
  | _ + 1, _, h => by simp only [ends, Bool.and_eq_true, decide_eq_true_eq] at h; exact h.1
theorem ends_go : ∀ {n : Nat} {x : Str}, ends n x = true → (dirOf x != x) = true → ∃ k, n = k + 1 ∧ ends k (dirOf x) = true ∧ ups n x = dirOf x :: ups k (dirOf x)
  | 0, x, h, hd => by simp only [ends, Bool.and_eq_true, decide_eq_true_eq] at h; rw [bne, h.2] at hd; cases hd
  | n + 1, x, h, hd => by
    simp only [ends, Bool.and_eq_true, Bool.or_eq_true, decide_eq_true_eq] at h
    refine ⟨n, rfl, h.2.resolve_left fun e => ?_, if_pos hd⟩
    rw [bne, e] at hd; cases hd
theorem ups_end : ∀ {n : Nat} {x : Str}, (dirOf x != x) = false → ups n x = []
  | 0, _, _ => rfl
  | _ + 1, _, h => if_neg (by rw [h]; decide)
def inUps (x : Str) (e : Str) : Bool := (ups 8 x).any (· == e) && (Txt.stripChars e (Str.ofString "/") != Str.ofString "")
theorem inUps_tt {x d : Str} {acc : List Str} (h : acc = ups 8 x) (h1 : (acc.any fun y => y == d) = true) (h2 : (Txt.stripChars d (Str.ofString "/") != Str.ofString "") = true) : true = inUps x d := by
  subst h; rw [inUps, h1, h2]; rfl
theorem inUps_tf {x d : Str} {acc : List Str} (h : acc = ups 8 x) (h1 : (acc.any fun y => y == d) = true) (h2 : (Txt.stripChars d (Str.ofString "/") != Str.ofString "") = false) : false = inUps x d := by
  subst h; rw [inUps, h1, h2]; rfl
theorem inUps_f {x d : Str} {acc : List Str} (h : acc = ups 8 x) (h1 : (acc.any fun y => y == d) = false) : false = inUps x d := by
  subst h; rw [inUps, h1]; rfl
theorem any_filter (p : Str → Bool) : ∀ es : List Str, (!decide ((es.filter p).map id = [])) = es.any p
  | [] => rfl
  | e :: r => by
    cases h : p e with
    | true => simp [h]
    | false => simpa [h] using any_filter p r
def UpInv (g : Heap) (L AB : Addr) (m₁ : Str → Option Value) (rest : List (Addr × Obj)) (x : Str) (s : Shared) (k : Nat) (s' : Shared) : Prop :=
  ∃ h tk p tp acc us n oc, s' = { s with heap := h, toks := tk } ∧ ends k p = true ∧ acc ++ ups k p = ups 8 x ∧ StrsAre us acc ∧ us.length + k ≤ 8 ∧ oc.data = Data.cell (some (.ref AB)) ∧
    Fr g L h (fun y => if y = Str.ofString "path" then some (.str p tp) else m₁ y) ∧ News g L h ((L + 1, oc) :: (AB, listOf us.toArray n) :: rest)
theorem lawin_ctr (w : World) (mean : ExcName → Option Value) (mg mb : Str → Option Value) (news : List (Addr × Obj)) (st : Addr) (us : List Value) (k : Nat) (es : List Str) (x : Str) (t : Tok)
    (hU : StrsAre us es) (hul : us.length ≤ 500) (hes : ∀ d ∈ es, d.length ≤ 100) (hok : es.all PyData.strOk = true) (hend : ends 8 x = true) :
    Ctr 10 w mean mg mb (.ref 208) ((st, listOf us.toArray k) :: news) [.str x t, .ref st]
      (fun v news' => v = .bool (es.any (inUps x)) ∧ news' = (st, listOf us.toArray k) :: news) := by
  w_top off
  have hfill : Fill hd.heap_39 Challenge.rw_nq0069_01 := by (k_fill; exact trivial)
  clear hfill
  refine' ctr_ofC ?h1 ?h2 ?h3 ?h4 ?hD ?h5 ?h6 ?h7 ?_; (case h1 => k_is); (case h2 => k_is); (case h3 => intro s hX; first | exact BindsTo.of_eq rfl | exact binds_K hX rfl (by k_is) rfl rfl rfl); (case h4 => exact rfl); (case hD => decide +kernel); (case h5 => exact rfl); (case h6 => exact rfl); (case h7 => exact rfl)
  intro A outer A₀ base g L cells s Q H B F X N Y l1 T hret; dsimp only at H ⊢; have hh := H.handled
  obtain ⟨oc, rfl, hoc'⟩ := CellsAre.one Y
  have hoc : oc.data = .cell none := hoc'
  clear hoc' Y
  simp only [List.cons_append, List.nil_append] at N
  have hu : A.units + 64 < cLine := by have := H.units; omega
  have oN : ∀ p ∈ news, p.1 ≠ L + 1 := fun p hp => Nat.ne_of_lt (Nat.lt_succ_of_lt (l1 p (List.mem_cons_of_mem _ hp)))
  have oS : @LT.lt Nat _ st L := l1 _ List.mem_cons_self
  repeat' (first | ((with_reducible show wpAny _ _ (storeName (envOfC _ _ _ _ _) _ _) _ _ _); k_dflt (refine' storeX_C ?F ?N ?c ?U ?d ?_ ?a ?b; (case a => rfl); (case b => rfl); (case F => k_asm); (case N => k_asm); (case c => rfl); (case U => first | exact UpdF.head (by repeat' (first | assumption | (refine List.forall_mem_cons.mpr ⟨by k_ne, ?_⟩))) | exact UpdF.tail (by k_ne) (UpdF.head (by repeat' (first | assumption | (refine List.forall_mem_cons.mpr ⟨by k_ne, ?_⟩)))) | exact UpdF.tail (by k_ne) (UpdF.tail (by k_ne) (UpdF.head (by repeat' (first | assumption | (refine List.forall_mem_cons.mpr ⟨by k_ne, ?_⟩))))) | exact UpdF.tail (by k_ne) (UpdF.tail (by k_ne) (UpdF.tail (by k_ne) (UpdF.head (by repeat' (first | assumption | (refine List.forall_mem_cons.mpr ⟨by k_ne, ?_⟩)))))) | exact UpdF.tail (by k_ne) (UpdF.tail (by k_ne) (UpdF.tail (by k_ne) (UpdF.tail (by k_ne) (UpdF.head (by repeat' (first | assumption | (refine List.forall_mem_cons.mpr ⟨by k_ne, ?_⟩)))))))); (case d => k_asm)); intro h' o' F' N' d'; (try dsimp only at N'); (try k_sweep)) | ((fail_if_success (first | (with_reducible show wpAny _ _ (exec (Stmt.While _ _ _ _) _) _ _ _) | (with_reducible show wpAny _ _ (exec (Stmt.For _ _ _ _ _) _) _ _ _) | (with_reducible show wpAny _ _ (exec (Stmt.Try _ _ _ _ _) _) _ _ _) | (with_reducible show wpAny _ _ (eval (Expr.ListComp _ _ _ _) _) _ _ _) | (with_reducible show wpAny _ _ (exec (Stmt.Assign _ (Expr.ListComp _ _ _ _) _) _) _ _ _) | (with_reducible show wpAny _ _ (call (Value.ref _) _) _ _ _) | (with_reducible show Exists _))); walk1) | (dsimp only; first | ((with_reducible show wpAny _ _ (storeName (envOfC _ _ _ _ _) _ _) _ _ _); k_dflt (refine' storeX_C ?F ?N ?c ?U ?d ?_ ?a ?b; (case a => rfl); (case b => rfl); (case F => k_asm); (case N => k_asm); (case c => rfl); (case U => first | exact UpdF.head (by repeat' (first | assumption | (refine List.forall_mem_cons.mpr ⟨by k_ne, ?_⟩))) | exact UpdF.tail (by k_ne) (UpdF.head (by repeat' (first | assumption | (refine List.forall_mem_cons.mpr ⟨by k_ne, ?_⟩)))) | exact UpdF.tail (by k_ne) (UpdF.tail (by k_ne) (UpdF.head (by repeat' (first | assumption | (refine List.forall_mem_cons.mpr ⟨by k_ne, ?_⟩))))) | exact UpdF.tail (by k_ne) (UpdF.tail (by k_ne) (UpdF.tail (by k_ne) (UpdF.head (by repeat' (first | assumption | (refine List.forall_mem_cons.mpr ⟨by k_ne, ?_⟩)))))) | exact UpdF.tail (by k_ne) (UpdF.tail (by k_ne) (UpdF.tail (by k_ne) (UpdF.tail (by k_ne) (UpdF.head (by repeat' (first | assumption | (refine List.forall_mem_cons.mpr ⟨by k_ne, ?_⟩)))))))); (case d => k_asm)); intro h' o' F' N' d'; (try dsimp only at N'); (try k_sweep)) | ((fail_if_success (first | (with_reducible show wpAny _ _ (exec (Stmt.While _ _ _ _) _) _ _ _) | (with_reducible show wpAny _ _ (exec (Stmt.For _ _ _ _ _) _) _ _ _) | (with_reducible show wpAny _ _ (exec (Stmt.Try _ _ _ _ _) _) _ _ _) | (with_reducible show wpAny _ _ (eval (Expr.ListComp _ _ _ _) _) _ _ _) | (with_reducible show wpAny _ _ (exec (Stmt.Assign _ (Expr.ListComp _ _ _ _) _) _) _ _ _) | (with_reducible show wpAny _ _ (call (Value.ref _) _) _ _ _) | (with_reducible show Exists _))); walk1)) | fail "no step")
  with_reducible rename Fr _ _ _ _ => F1
  with_reducible rename News _ _ _ _ => N1
  rename (L + 1 < _ ∧ _) => lAB
  rename_i AB hA1
  have lA1 := lAB.1
  have lA2 := lAB.2.1
  have oA : ∀ p ∈ news, p.1 ≠ AB := fun p hp => Nat.ne_of_lt (allLt_mem lAB.2.2 p hp)
  refine While_I (UpInv g L AB _ ((st, listOf us.toArray k) :: news) x s) 8 ⟨_, _, x, t, [], [], 0, _, rfl, hend, rfl, .nil, Nat.le_refl _, by assumption, fr_same (Str.ofString "path") F1, news_sub N1 ?_⟩ ?_
  · intro p hp
    simp only [List.mem_cons] at hp ⊢
    rcases hp with h | h | h | h
    · simp only [h, true_or, or_true]
    · simp only [h, true_or, or_true]
    · simp only [h, true_or, or_true]
    · simp only [h, true_or, or_true]
  clear F1 N1
  rintro kk s' ⟨h, tk, p, tp, acc, vs, n, ob, rfl, he, hacc, hS, hlen, hob, F2, N2⟩
  have hpl := ends_len he
  repeat' (first | ((with_reducible show wpAny _ _ (call (Value.ref 122) [Value.str _ _]) _ _ _); k_dflt (refine' Ctr.use (dirname_ctr _ _ _ _ _ _ _ (by omega)) (by assumption) (by decide) (by assumption) (by k_asm) (by assumption) (by k_asm) (by assumption) ?_); rintro v' nw' h' tk' ⟨hn', tS, hv'⟩ F' N'; cases hv'; cases hn'; (try dsimp only)) | ((with_reducible show wpAny _ _ (call (Value.builtin "list.append") [Value.ref _, _]) _ _ _); k_dflt (refine' append_T (by k_asm) (by k_asm) (by first | exact Upd.head (by repeat' (first | assumption | (refine List.forall_mem_cons.mpr ⟨by k_ne, ?_⟩))) | exact Upd.tail (by k_ne) (Upd.head (by repeat' (first | assumption | (refine List.forall_mem_cons.mpr ⟨by k_ne, ?_⟩)))) | exact Upd.tail (by k_ne) (Upd.tail (by k_ne) (Upd.head (by repeat' (first | assumption | (refine List.forall_mem_cons.mpr ⟨by k_ne, ?_⟩))))) | exact Upd.tail (by k_ne) (Upd.tail (by k_ne) (Upd.tail (by k_ne) (Upd.head (by repeat' (first | assumption | (refine List.forall_mem_cons.mpr ⟨by k_ne, ?_⟩)))))) | exact Upd.tail (by k_ne) (Upd.tail (by k_ne) (Upd.tail (by k_ne) (Upd.tail (by k_ne) (Upd.head (by repeat' (first | assumption | (refine List.forall_mem_cons.mpr ⟨by k_ne, ?_⟩))))))) | exact Upd.tail (by k_ne) (Upd.tail (by k_ne) (Upd.tail (by k_ne) (Upd.tail (by k_ne) (Upd.tail (by k_ne) (Upd.head (by repeat' (first | assumption | (refine List.forall_mem_cons.mpr ⟨by k_ne, ?_⟩))))))))) (by omega) ?_); intro h' F' N'; (try k_sweep)) | ((fail_if_success (first | (with_reducible show wpAny _ _ (exec (Stmt.While _ _ _ _) _) _ _ _) | (with_reducible show wpAny _ _ (exec (Stmt.For _ _ _ _ _) _) _ _ _) | (with_reducible show wpAny _ _ (exec (Stmt.Try _ _ _ _ _) _) _ _ _) | (with_reducible show wpAny _ _ (eval (Expr.ListComp _ _ _ _) _) _ _ _) | (with_reducible show wpAny _ _ (exec (Stmt.Assign _ (Expr.ListComp _ _ _ _) _) _) _ _ _) | (with_reducible show wpAny _ _ (call (Value.ref _) _) _ _ _) | (with_reducible show Exists _))); walk1) | (dsimp only; first | ((with_reducible show wpAny _ _ (call (Value.ref 122) [Value.str _ _]) _ _ _); k_dflt (refine' Ctr.use (dirname_ctr _ _ _ _ _ _ _ (by omega)) (by assumption) (by decide) (by assumption) (by k_asm) (by assumption) (by k_asm) (by assumption) ?_); rintro v' nw' h' tk' ⟨hn', tS, hv'⟩ F' N'; cases hv'; cases hn'; (try dsimp only)) | ((with_reducible show wpAny _ _ (call (Value.builtin "list.append") [Value.ref _, _]) _ _ _); k_dflt (refine' append_T (by k_asm) (by k_asm) (by first | exact Upd.head (by repeat' (first | assumption | (refine List.forall_mem_cons.mpr ⟨by k_ne, ?_⟩))) | exact Upd.tail (by k_ne) (Upd.head (by repeat' (first | assumption | (refine List.forall_mem_cons.mpr ⟨by k_ne, ?_⟩)))) | exact Upd.tail (by k_ne) (Upd.tail (by k_ne) (Upd.head (by repeat' (first | assumption | (refine List.forall_mem_cons.mpr ⟨by k_ne, ?_⟩))))) | exact Upd.tail (by k_ne) (Upd.tail (by k_ne) (Upd.tail (by k_ne) (Upd.head (by repeat' (first | assumption | (refine List.forall_mem_cons.mpr ⟨by k_ne, ?_⟩)))))) | exact Upd.tail (by k_ne) (Upd.tail (by k_ne) (Upd.tail (by k_ne) (Upd.tail (by k_ne) (Upd.head (by repeat' (first | assumption | (refine List.forall_mem_cons.mpr ⟨by k_ne, ?_⟩))))))) | exact Upd.tail (by k_ne) (Upd.tail (by k_ne) (Upd.tail (by k_ne) (Upd.tail (by k_ne) (Upd.tail (by k_ne) (Upd.head (by repeat' (first | assumption | (refine List.forall_mem_cons.mpr ⟨by k_ne, ?_⟩))))))))) (by omega) ?_); intro h' F' N'; (try k_sweep)) | ((fail_if_success (first | (with_reducible show wpAny _ _ (exec (Stmt.While _ _ _ _) _) _ _ _) | (with_reducible show wpAny _ _ (exec (Stmt.For _ _ _ _ _) _) _ _ _) | (with_reducible show wpAny _ _ (exec (Stmt.Try _ _ _ _ _) _) _ _ _) | (with_reducible show wpAny _ _ (eval (Expr.ListComp _ _ _ _) _) _ _ _) | (with_reducible show wpAny _ _ (exec (Stmt.Assign _ (Expr.ListComp _ _ _ _) _) _) _ _ _) | (with_reducible show wpAny _ _ (call (Value.ref _) _) _ _ _) | (with_reducible show Exists _))); walk1)) | fail "no step")
  · obtain ⟨kk', rfl, he', hup⟩ := ends_go he (by assumption)
    exact ⟨kk', Nat.lt_succ_self _, _, _, dirOf p, _, acc ++ [dirOf p], _, _, ob, rfl, he', by rw [← hacc, hup]; simp, strs_snoc hS, by rw [List.length_append, List.length_singleton]; omega, hob, fr_twice (by assumption), by assumption⟩
  · have hac : acc = ups 8 x := by rw [← hacc, ups_end (by assumption), List.append_nil]
    with_reducible rename Fr _ _ _ _ => F3
    with_reducible rename News _ _ _ _ => N3
    k_dflt (refine LCt.ListComp_T (F₀ := F3) (by with_unfolding_all rfl) (by decide) (by rfl) (by decide) (by rfl) ?_)
    walk1
    refine LCt.CompSrcT.ledger hh F3 N3 (by k_mem) (by simpa using line_of (by omega : us.length ≤ 100000)) ?_
    intro g1
    dsimp only
    refine comp_filter (fun _ : Unit => (L + 1, ob) :: (AB, listOf vs.toArray n) :: (st, listOf us.toArray k) :: news) (fun _ _ => True) Value.str (inUps x) id hU.length (src_strs hU) (fun a => Or.inr ⟨_, by k_mem, rfl, _, rfl⟩) () trivial ?_ ?_
    · intro i a d td I oI C oC D' m₂ ys h5 tk5 E' hd _ hC hx5 F5 N5 off ne
      have hdl := hes d (List.mem_of_getElem? hd)
      clear F3 N3
      dsimp only
      repeat' (first | ((with_reducible show wpAny _ _ (compareOp CmpOp.In (Value.str _ _) (Value.ref _)) _ _ _); k_dflt (refine in_T (by k_asm) (by k_mem) (by assumption) ?_)) | ((fail_if_success (first | (with_reducible show wpAny _ _ (exec (Stmt.While _ _ _ _) _) _ _ _) | (with_reducible show wpAny _ _ (exec (Stmt.For _ _ _ _ _) _) _ _ _) | (with_reducible show wpAny _ _ (exec (Stmt.Try _ _ _ _ _) _) _ _ _) | (with_reducible show wpAny _ _ (eval (Expr.ListComp _ _ _ _) _) _ _ _) | (with_reducible show wpAny _ _ (exec (Stmt.Assign _ (Expr.ListComp _ _ _ _) _) _) _ _ _) | (with_reducible show wpAny _ _ (call (Value.ref _) _) _ _ _) | (with_reducible show Exists _))); walk1) | (dsimp only; first | ((with_reducible show wpAny _ _ (compareOp CmpOp.In (Value.str _ _) (Value.ref _)) _ _ _); k_dflt (refine in_T (by k_asm) (by k_mem) (by assumption) ?_)) | ((fail_if_success (first | (with_reducible show wpAny _ _ (exec (Stmt.While _ _ _ _) _) _ _ _) | (with_reducible show wpAny _ _ (exec (Stmt.For _ _ _ _ _) _) _ _ _) | (with_reducible show wpAny _ _ (exec (Stmt.Try _ _ _ _ _) _) _ _ _) | (with_reducible show wpAny _ _ (eval (Expr.ListComp _ _ _ _) _) _ _ _) | (with_reducible show wpAny _ _ (exec (Stmt.Assign _ (Expr.ListComp _ _ _ _) _) _) _ _ _) | (with_reducible show wpAny _ _ (call (Value.ref _) _) _ _ _) | (with_reducible show Exists _))); walk1)) | fail "no step")
      · refine TestEnd.intro () (inUps_tt hac (by assumption) (by assumption)) trivial (by assumption) (by assumption) (fun _ h => h) off ?_
        intro _ N6 E6
        clear N5 N2 F2
        repeat' (first | ((fail_if_success (first | (with_reducible show wpAny _ _ (exec (Stmt.While _ _ _ _) _) _ _ _) | (with_reducible show wpAny _ _ (exec (Stmt.For _ _ _ _ _) _) _ _ _) | (with_reducible show wpAny _ _ (exec (Stmt.Try _ _ _ _ _) _) _ _ _) | (with_reducible show wpAny _ _ (eval (Expr.ListComp _ _ _ _) _) _ _ _) | (with_reducible show wpAny _ _ (exec (Stmt.Assign _ (Expr.ListComp _ _ _ _) _) _) _ _ _) | (with_reducible show wpAny _ _ (call (Value.ref _) _) _ _ _) | (with_reducible show Exists _))); walk1) | (dsimp only; first | ((fail_if_success (first | (with_reducible show wpAny _ _ (exec (Stmt.While _ _ _ _) _) _ _ _) | (with_reducible show wpAny _ _ (exec (Stmt.For _ _ _ _ _) _) _ _ _) | (with_reducible show wpAny _ _ (exec (Stmt.Try _ _ _ _ _) _) _ _ _) | (with_reducible show wpAny _ _ (eval (Expr.ListComp _ _ _ _) _) _ _ _) | (with_reducible show wpAny _ _ (exec (Stmt.Assign _ (Expr.ListComp _ _ _ _) _) _) _ _ _) | (with_reducible show wpAny _ _ (call (Value.ref _) _) _ _ _) | (with_reducible show Exists _))); walk1)) | fail "no step")
        exact ⟨_, _, _, rfl, rfl, by assumption, by assumption⟩
      · exact TestEnd.intro () (inUps_tf hac (by assumption) (by assumption)) trivial (by assumption) (by assumption) (fun _ h => h) off (fun e => by rw [← inUps_tf hac (by assumption) (by assumption)] at e; cases e)
      · exact TestEnd.intro () (inUps_f hac (by assumption)) trivial (by assumption) (by assumption) (fun _ h => h) off (fun e => by rw [← inUps_f hac (by assumption)] at e; cases e)
    · intro a ys _ hY D' h5 tk5 F5 N5 off
      clear F3 N3
      have hok' : (((es.filter (inUps x)).map id)).all PyData.strOk = true := by rw [List.map_id]; exact ok_filter _ hok
      dsimp only
      repeat' (first | ((with_reducible show wpAny _ _ (compareOp CmpOp.NotEq (Value.ref _) (Value.ref _)) _ _ _); k_dflt (refine ne_T (by k_asm) (by k_mem) (by k_mem) (by assumption) (by first | assumption | exact StrsAre.nil) (by assumption) (by first | assumption | exact rfl) hu ?_)) | ((fail_if_success (first | (with_reducible show wpAny _ _ (exec (Stmt.While _ _ _ _) _) _ _ _) | (with_reducible show wpAny _ _ (exec (Stmt.For _ _ _ _ _) _) _ _ _) | (with_reducible show wpAny _ _ (exec (Stmt.Try _ _ _ _ _) _) _ _ _) | (with_reducible show wpAny _ _ (eval (Expr.ListComp _ _ _ _) _) _ _ _) | (with_reducible show wpAny _ _ (exec (Stmt.Assign _ (Expr.ListComp _ _ _ _) _) _) _ _ _) | (with_reducible show wpAny _ _ (call (Value.ref _) _) _ _ _) | (with_reducible show Exists _))); walk1) | (dsimp only; first | ((with_reducible show wpAny _ _ (compareOp CmpOp.NotEq (Value.ref _) (Value.ref _)) _ _ _); k_dflt (refine ne_T (by k_asm) (by k_mem) (by k_mem) (by assumption) (by first | assumption | exact StrsAre.nil) (by assumption) (by first | assumption | exact rfl) hu ?_)) | ((fail_if_success (first | (with_reducible show wpAny _ _ (exec (Stmt.While _ _ _ _) _) _ _ _) | (with_reducible show wpAny _ _ (exec (Stmt.For _ _ _ _ _) _) _ _ _) | (with_reducible show wpAny _ _ (exec (Stmt.Try _ _ _ _ _) _) _ _ _) | (with_reducible show wpAny _ _ (eval (Expr.ListComp _ _ _ _) _) _ _ _) | (with_reducible show wpAny _ _ (exec (Stmt.Assign _ (Expr.ListComp _ _ _ _) _) _) _ _ _) | (with_reducible show wpAny _ _ (call (Value.ref _) _) _ _ _) | (with_reducible show Exists _))); walk1)) | fail "no step")
      exact hret _ _ _ _ _ ⟨by rw [any_filter], rfl⟩ (by assumption) (news_sub (by assumption) (fun _ hp => List.mem_cons_of_mem _ (List.mem_cons_of_mem _ (List.mem_cons_of_mem _ (List.mem_cons_of_mem _ hp)))))

def bare (e : Str) : Bool := Txt.stripChars e (Str.ofString "/") == Str.ofString ""
def slashy (es : List Str) : List Str := (es.filter bare).map (· ++ Str.ofString "/")
def lead (f : Str) : Str := Txt.slice f none (some ((f.length : Int) - ((Txt.lstripChars f (Str.ofString "/")).length : Int)))
def due (es : List Str) (f : Str) : Bool := es.any (inUps f) || (slashy es).any (· == lead f)
theorem due_t {es : List Str} {f : Str} (h : es.any (inUps f) = true) : true = due es f := by rw [due, h]; rfl
theorem due_ft {es : List Str} {f : Str} (h : es.any (inUps f) = false) (h1 : ((slashy es).any fun x => x == Txt.slice f none (some ((f.length : Int) - ((Txt.lstripChars f (Str.ofString "/")).length : Int)))) = true) : true = due es f := by rw [due, h]; exact h1.symm
theorem due_ff {es : List Str} {f : Str} (h : es.any (inUps f) = false) (h1 : ((slashy es).any fun x => x == Txt.slice f none (some ((f.length : Int) - ((Txt.lstripChars f (Str.ofString "/")).length : Int)))) = false) : false = due es f := by rw [due, h]; exact h1.symm
/-- what both sides are, as data -/
def datum (b : Bool) (m1 m2 ss more : List Str) : PyData := .list [.bool b, .tuple [.list (m1.map PyData.str), .list (m2.map PyData.str)], .list (ss.map PyData.str), .list (more.map PyData.str)]
theorem news_add {h₀ h : Heap} {L : Addr} {news : List (Addr × Obj)} {p : Addr × Obj} (N : News h₀ L h news) (hp : p ∈ news) : News h₀ L h (p :: news) := fun q hq => by
  rcases List.mem_cons.mp hq with rfl | hq
  · exact N _ hp
  · exact N _ hq
theorem reads_datum {g h : Heap} {L R T S M a1 a2 : Addr} {news : List (Addr × Obj)} {b : Bool} {k0 kt kS kM k1 k2 : Nat} {v1 v2 vS vM : List Value} {m1 m2 ss more : List Str} (N : News g L h news) (hR : (R, listOf #[.bool b, .ref T, .ref S, .ref M] k0) ∈ news)
    (hT : (T, ({ cls := .type "tuple", data := .seq #[.ref a1, .ref a2] kt } : Obj)) ∈ news) (h1 : (a1, listOf v1.toArray k1) ∈ news) (h2 : (a2, listOf v2.toArray k2) ∈ news) (hS : (S, listOf vS.toArray kS) ∈ news) (hM : (M, listOf vM.toArray kM) ∈ news)
    (i1 : StrsAre v1 m1) (i2 : StrsAre v2 m2) (iS : StrsAre vS ss) (iM : StrsAre vM more) : ∃ as, Reads h (.ref R) (datum b m1 m2 ss more) as :=
  ⟨_, reads_list_at (N.get hR) rfl rfl (.cons (.bool b) (.cons (reads_tuple_at (N.get hT) rfl rfl (.cons (reads_newData ⟨_, (N _ h1).1, rfl, _, rfl⟩ (strs_carried i1)) (.cons (reads_newData ⟨_, (N _ h2).1, rfl, _, rfl⟩ (strs_carried i2)) .nil)))
    (.cons (reads_newData ⟨_, (N _ hS).1, rfl, _, rfl⟩ (strs_carried iS)) (.cons (reads_newData ⟨_, (N _ hM).1, rfl, _, rfl⟩ (strs_carried iM)) .nil))))⟩
def DueR (old : List (Addr × Obj)) (fs es : List Str) (v : Value) (news' : List (Addr × Obj)) : Prop :=
  ∃ ss, ss.Perm (fs.filter (due es)) ∧ sortedS ss = true ∧ (∀ g L h, News g L h news' → ∃ as, Reads h v (datum true [] [] ss []) as) ∧ ∀ p ∈ old, p ∈ news'
theorem lawdue_ctr (w : World) (mean : ExcName → Option Value) (mg mb : Str → Option Value) (news : List (Addr × Obj)) (fl ol : Addr) (us vs : List Value) (k n : Nat) (fs ds : List Str)
    (hU : StrsAre us fs) (hV : StrsAre vs ds) (hul : us.length ≤ 50) (hvl : vs.length ≤ 50) (hds : ∀ d ∈ ds, PathOk d) (hes : ∀ e ∈ ds.map nrm, e.length ≤ 100) (hok : (ds.map nrm).all PyData.strOk = true) (hfe : ∀ f ∈ fs, ends 8 f = true) :
    Ctr 14 w mean mg mb (.ref 220) ((fl, listOf us.toArray k) :: (ol, listOf vs.toArray n) :: news) [.ref fl, .ref ol] (DueR ((fl, listOf us.toArray k) :: (ol, listOf vs.toArray n) :: news) fs (ds.map nrm)) := by
  w_top off
  have hfill : Fill hd.heap_39 Challenge.rw_nq0069_01 := by (k_fill; exact trivial)
  clear hfill
  refine' ctr_ofC ?h1 ?h2 ?h3 ?h4 ?hD ?h5 ?h6 ?h7 ?_; (case h1 => k_is); (case h2 => k_is); (case h3 => intro s hX; first | exact BindsTo.of_eq rfl | exact binds_K hX rfl (by k_is) rfl rfl rfl); (case h4 => exact rfl); (case hD => decide +kernel); (case h5 => exact rfl); (case h6 => exact rfl); (case h7 => exact rfl)
  intro A outer A₀ base g L cells s Q H B F X N Y l1 T hret; dsimp only at H ⊢; have hh := H.handled
  obtain ⟨oc2, oc1, rfl, hoc2', hoc1'⟩ := CellsAre.two Y
  have hoc1 : oc1.data = .cell none := hoc1'
  have hoc2 : oc2.data = .cell none := hoc2'
  clear hoc1' hoc2' Y
  simp only [List.cons_append, List.nil_append] at N
  have oN1 : ∀ p ∈ news, p.1 ≠ L + 1 := fun p hp => Nat.ne_of_lt (Nat.lt_succ_of_lt (l1 p (List.mem_cons_of_mem _ (List.mem_cons_of_mem _ hp))))
  have oN2 : ∀ p ∈ news, p.1 ≠ L + 1 + 1 := fun p hp => Nat.ne_of_lt (Nat.lt_succ_of_lt (Nat.lt_succ_of_lt (l1 p (List.mem_cons_of_mem _ (List.mem_cons_of_mem _ hp)))))
  have oS1 : @LT.lt Nat _ fl L := l1 _ List.mem_cons_self
  have oS2 : @LT.lt Nat _ ol L := l1 _ (List.mem_cons_of_mem _ List.mem_cons_self)
  repeat' (first | ((fail_if_success (first | (with_reducible show wpAny _ _ (exec (Stmt.While _ _ _ _) _) _ _ _) | (with_reducible show wpAny _ _ (exec (Stmt.For _ _ _ _ _) _) _ _ _) | (with_reducible show wpAny _ _ (exec (Stmt.Try _ _ _ _ _) _) _ _ _) | (with_reducible show wpAny _ _ (eval (Expr.ListComp _ _ _ _) _) _ _ _) | (with_reducible show wpAny _ _ (exec (Stmt.Assign _ (Expr.ListComp _ _ _ _) _) _) _ _ _) | (with_reducible show wpAny _ _ (call (Value.ref _) _) _ _ _) | (with_reducible show Exists _))); walk1) | (dsimp only; first | ((fail_if_success (first | (with_reducible show wpAny _ _ (exec (Stmt.While _ _ _ _) _) _ _ _) | (with_reducible show wpAny _ _ (exec (Stmt.For _ _ _ _ _) _) _ _ _) | (with_reducible show wpAny _ _ (exec (Stmt.Try _ _ _ _ _) _) _ _ _) | (with_reducible show wpAny _ _ (eval (Expr.ListComp _ _ _ _) _) _ _ _) | (with_reducible show wpAny _ _ (exec (Stmt.Assign _ (Expr.ListComp _ _ _ _) _) _) _ _ _) | (with_reducible show wpAny _ _ (call (Value.ref _) _) _ _ _) | (with_reducible show Exists _))); walk1)) | fail "no step")
  refine wpAny_Assign_Name ?_
  k_dflt (refine LCg.ListComp_U (F₀ := F) (by with_unfolding_all rfl) (by decide) (by rfl) (by decide) (by rfl) ?_)
  walk1
  refine LCg.CompSrc.ledger hh F N (by k_mem) (by simpa using line_of (by omega : vs.length ≤ 100000)) ?_
  intro g1
  dsimp only
  refine comp_map nrm hV (.inr ⟨_, by k_mem, rfl, _, rfl⟩) ?_ ?_
  · intro d t I oI C oC D' m₂ ys h tk E' hd' hC hx F2 N2
    have okd := hds d hd'
    clear F N
    dsimp only
    repeat' (first | ((with_reducible show wpAny _ _ (call (Value.ref 129) [Value.str _ _]) _ _ _); k_dflt (refine' Ctr.use (normpath_ctr _ _ _ _ _ _ _ (by assumption)) (by assumption) (by decide) (by assumption) (by k_asm) (by assumption) (by k_asm) (by assumption) ?_); rintro v' nw' h' tk' ⟨hn', tS, hv'⟩ F' N'; cases hv'; cases hn'; (try dsimp only)) | ((fail_if_success (first | (with_reducible show wpAny _ _ (exec (Stmt.While _ _ _ _) _) _ _ _) | (with_reducible show wpAny _ _ (exec (Stmt.For _ _ _ _ _) _) _ _ _) | (with_reducible show wpAny _ _ (exec (Stmt.Try _ _ _ _ _) _) _ _ _) | (with_reducible show wpAny _ _ (eval (Expr.ListComp _ _ _ _) _) _ _ _) | (with_reducible show wpAny _ _ (exec (Stmt.Assign _ (Expr.ListComp _ _ _ _) _) _) _ _ _) | (with_reducible show wpAny _ _ (call (Value.ref _) _) _ _ _) | (with_reducible show Exists _))); walk1) | (dsimp only; first | ((with_reducible show wpAny _ _ (call (Value.ref 129) [Value.str _ _]) _ _ _); k_dflt (refine' Ctr.use (normpath_ctr _ _ _ _ _ _ _ (by assumption)) (by assumption) (by decide) (by assumption) (by k_asm) (by assumption) (by k_asm) (by assumption) ?_); rintro v' nw' h' tk' ⟨hn', tS, hv'⟩ F' N'; cases hv'; cases hn'; (try dsimp only)) | ((fail_if_success (first | (with_reducible show wpAny _ _ (exec (Stmt.While _ _ _ _) _) _ _ _) | (with_reducible show wpAny _ _ (exec (Stmt.For _ _ _ _ _) _) _ _ _) | (with_reducible show wpAny _ _ (exec (Stmt.Try _ _ _ _ _) _) _ _ _) | (with_reducible show wpAny _ _ (eval (Expr.ListComp _ _ _ _) _) _ _ _) | (with_reducible show wpAny _ _ (exec (Stmt.Assign _ (Expr.ListComp _ _ _ _) _) _) _ _ _) | (with_reducible show wpAny _ _ (call (Value.ref _) _) _ _ _) | (with_reducible show Exists _))); walk1)) | fail "no step")
    exact ⟨_, _, _, rfl, rfl, by assumption, by assumption⟩
  · intro ys1 hY1 D1 h1 tk1 F1 N1 off1
    clear F N
    have oD1 : ∀ p ∈ news, p.1 ≠ D1 := off1_mem off1.2.2.2.2
    have oD2 := off1.1
    have oD3 := off1.2.1
    have oD4 := off1.2.2.1
    have oD5 := off1.2.2.2.1
    have hyl1 : ys1.length ≤ 50 := by have q1 := strs_len hY1; have q2 := strs_len hV; rw [List.length_map] at q1; omega
    dsimp only
    repeat' (first | ((with_reducible show wpAny _ _ (storeName (envOfC _ _ _ _ _) _ _) _ _ _); k_dflt (refine' storeX_C ?F ?N ?c ?U ?d ?_ ?a ?b; (case a => rfl); (case b => rfl); (case F => k_asm); (case N => k_asm); (case c => rfl); (case U => first | exact UpdF.head (by repeat' (first | assumption | (refine List.forall_mem_cons.mpr ⟨by k_ne, ?_⟩))) | exact UpdF.tail (by k_ne) (UpdF.head (by repeat' (first | assumption | (refine List.forall_mem_cons.mpr ⟨by k_ne, ?_⟩)))) | exact UpdF.tail (by k_ne) (UpdF.tail (by k_ne) (UpdF.head (by repeat' (first | assumption | (refine List.forall_mem_cons.mpr ⟨by k_ne, ?_⟩))))) | exact UpdF.tail (by k_ne) (UpdF.tail (by k_ne) (UpdF.tail (by k_ne) (UpdF.head (by repeat' (first | assumption | (refine List.forall_mem_cons.mpr ⟨by k_ne, ?_⟩)))))) | exact UpdF.tail (by k_ne) (UpdF.tail (by k_ne) (UpdF.tail (by k_ne) (UpdF.tail (by k_ne) (UpdF.head (by repeat' (first | assumption | (refine List.forall_mem_cons.mpr ⟨by k_ne, ?_⟩)))))))); (case d => k_asm)); intro h' o' F' N' d'; (try dsimp only at N'); (try k_sweep)) | ((fail_if_success (first | (with_reducible show wpAny _ _ (exec (Stmt.While _ _ _ _) _) _ _ _) | (with_reducible show wpAny _ _ (exec (Stmt.For _ _ _ _ _) _) _ _ _) | (with_reducible show wpAny _ _ (exec (Stmt.Try _ _ _ _ _) _) _ _ _) | (with_reducible show wpAny _ _ (eval (Expr.ListComp _ _ _ _) _) _ _ _) | (with_reducible show wpAny _ _ (exec (Stmt.Assign _ (Expr.ListComp _ _ _ _) _) _) _ _ _) | (with_reducible show wpAny _ _ (call (Value.ref _) _) _ _ _) | (with_reducible show Exists _))); walk1) | (dsimp only; first | ((with_reducible show wpAny _ _ (storeName (envOfC _ _ _ _ _) _ _) _ _ _); k_dflt (refine' storeX_C ?F ?N ?c ?U ?d ?_ ?a ?b; (case a => rfl); (case b => rfl); (case F => k_asm); (case N => k_asm); (case c => rfl); (case U => first | exact UpdF.head (by repeat' (first | assumption | (refine List.forall_mem_cons.mpr ⟨by k_ne, ?_⟩))) | exact UpdF.tail (by k_ne) (UpdF.head (by repeat' (first | assumption | (refine List.forall_mem_cons.mpr ⟨by k_ne, ?_⟩)))) | exact UpdF.tail (by k_ne) (UpdF.tail (by k_ne) (UpdF.head (by repeat' (first | assumption | (refine List.forall_mem_cons.mpr ⟨by k_ne, ?_⟩))))) | exact UpdF.tail (by k_ne) (UpdF.tail (by k_ne) (UpdF.tail (by k_ne) (UpdF.head (by repeat' (first | assumption | (refine List.forall_mem_cons.mpr ⟨by k_ne, ?_⟩)))))) | exact UpdF.tail (by k_ne) (UpdF.tail (by k_ne) (UpdF.tail (by k_ne) (UpdF.tail (by k_ne) (UpdF.head (by repeat' (first | assumption | (refine List.forall_mem_cons.mpr ⟨by k_ne, ?_⟩)))))))); (case d => k_asm)); intro h' o' F' N' d'; (try dsimp only at N'); (try k_sweep)) | ((fail_if_success (first | (with_reducible show wpAny _ _ (exec (Stmt.While _ _ _ _) _) _ _ _) | (with_reducible show wpAny _ _ (exec (Stmt.For _ _ _ _ _) _) _ _ _) | (with_reducible show wpAny _ _ (exec (Stmt.Try _ _ _ _ _) _) _ _ _) | (with_reducible show wpAny _ _ (eval (Expr.ListComp _ _ _ _) _) _ _ _) | (with_reducible show wpAny _ _ (exec (Stmt.Assign _ (Expr.ListComp _ _ _ _) _) _) _ _ _) | (with_reducible show wpAny _ _ (call (Value.ref _) _) _ _ _) | (with_reducible show Exists _))); walk1)) | fail "no step")
    with_reducible rename Fr _ _ _ _ => FA
    with_reducible rename News _ _ _ _ => NA
    have dA := d'
    clear d' hoc1
    refine wpAny_Assign_Name ?_
    k_dflt (refine LCt.ListComp_T (F₀ := FA) (by with_unfolding_all rfl) (by decide) (by rfl) (by decide) (by rfl) ?_)
    walk1
    refine LCt.CompSrcT.ledger hh FA NA (by k_mem) (by simpa using line_of (by omega : ys1.length ≤ 100000)) ?_
    intro g2
    dsimp only
    refine comp_filter1 Value.str bare (· ++ Str.ofString "/") hY1.length (src_strs hY1) (.inr ⟨_, by k_mem, rfl, _, rfl⟩) ?_ ?_
    · intro d t I oI C oC D' m₂ ys h tk E' hd hC hx F2 N2 off ne
      have hdl := hes d hd
      clear FA NA
      dsimp only
      repeat' (first | ((fail_if_success (first | (with_reducible show wpAny _ _ (exec (Stmt.While _ _ _ _) _) _ _ _) | (with_reducible show wpAny _ _ (exec (Stmt.For _ _ _ _ _) _) _ _ _) | (with_reducible show wpAny _ _ (exec (Stmt.Try _ _ _ _ _) _) _ _ _) | (with_reducible show wpAny _ _ (eval (Expr.ListComp _ _ _ _) _) _ _ _) | (with_reducible show wpAny _ _ (exec (Stmt.Assign _ (Expr.ListComp _ _ _ _) _) _) _ _ _) | (with_reducible show wpAny _ _ (call (Value.ref _) _) _ _ _) | (with_reducible show Exists _))); walk1) | (dsimp only; first | ((fail_if_success (first | (with_reducible show wpAny _ _ (exec (Stmt.While _ _ _ _) _) _ _ _) | (with_reducible show wpAny _ _ (exec (Stmt.For _ _ _ _ _) _) _ _ _) | (with_reducible show wpAny _ _ (exec (Stmt.Try _ _ _ _ _) _) _ _ _) | (with_reducible show wpAny _ _ (eval (Expr.ListComp _ _ _ _) _) _ _ _) | (with_reducible show wpAny _ _ (exec (Stmt.Assign _ (Expr.ListComp _ _ _ _) _) _) _ _ _) | (with_reducible show wpAny _ _ (call (Value.ref _) _) _ _ _) | (with_reducible show Exists _))); walk1)) | fail "no step")
      refine TestEnd.intro () rfl trivial (by assumption) (by assumption) (fun _ h => h) off ?_
      intro _ N6 E6
      clear N2
      repeat' (first | ((fail_if_success (first | (with_reducible show wpAny _ _ (exec (Stmt.While _ _ _ _) _) _ _ _) | (with_reducible show wpAny _ _ (exec (Stmt.For _ _ _ _ _) _) _ _ _) | (with_reducible show wpAny _ _ (exec (Stmt.Try _ _ _ _ _) _) _ _ _) | (with_reducible show wpAny _ _ (eval (Expr.ListComp _ _ _ _) _) _ _ _) | (with_reducible show wpAny _ _ (exec (Stmt.Assign _ (Expr.ListComp _ _ _ _) _) _) _ _ _) | (with_reducible show wpAny _ _ (call (Value.ref _) _) _ _ _) | (with_reducible show Exists _))); walk1) | (dsimp only; first | ((fail_if_success (first | (with_reducible show wpAny _ _ (exec (Stmt.While _ _ _ _) _) _ _ _) | (with_reducible show wpAny _ _ (exec (Stmt.For _ _ _ _ _) _) _ _ _) | (with_reducible show wpAny _ _ (exec (Stmt.Try _ _ _ _ _) _) _ _ _) | (with_reducible show wpAny _ _ (eval (Expr.ListComp _ _ _ _) _) _ _ _) | (with_reducible show wpAny _ _ (exec (Stmt.Assign _ (Expr.ListComp _ _ _ _) _) _) _ _ _) | (with_reducible show wpAny _ _ (call (Value.ref _) _) _ _ _) | (with_reducible show Exists _))); walk1)) | fail "no step")
      exact ⟨_, _, _, rfl, rfl, by assumption, by assumption⟩
    · intro ys2 hY2 D2 h2 tk2 F2 N2 off2
      clear FA NA
      have oE1 : ∀ p ∈ news, p.1 ≠ D2 := off1_mem off2.2.2.2.2.2
      have oE2 := off2.1
      have oE3 := off2.2.1
      have oE4 := off2.2.2.1
      have oE5 := off2.2.2.2.1
      have oE6 := off2.2.2.2.2.1
      have hY2' : StrsAre ys2 (slashy (ds.map nrm)) := hY2
      clear hY2
      dsimp only
      repeat' (first | ((with_reducible show wpAny _ _ (storeName (envOfC _ _ _ _ _) _ _) _ _ _); k_dflt (refine' storeX_C ?F ?N ?c ?U ?d ?_ ?a ?b; (case a => rfl); (case b => rfl); (case F => k_asm); (case N => k_asm); (case c => rfl); (case U => first | exact UpdF.head (by repeat' (first | assumption | (refine List.forall_mem_cons.mpr ⟨by k_ne, ?_⟩))) | exact UpdF.tail (by k_ne) (UpdF.head (by repeat' (first | assumption | (refine List.forall_mem_cons.mpr ⟨by k_ne, ?_⟩)))) | exact UpdF.tail (by k_ne) (UpdF.tail (by k_ne) (UpdF.head (by repeat' (first | assumption | (refine List.forall_mem_cons.mpr ⟨by k_ne, ?_⟩))))) | exact UpdF.tail (by k_ne) (UpdF.tail (by k_ne) (UpdF.tail (by k_ne) (UpdF.head (by repeat' (first | assumption | (refine List.forall_mem_cons.mpr ⟨by k_ne, ?_⟩)))))) | exact UpdF.tail (by k_ne) (UpdF.tail (by k_ne) (UpdF.tail (by k_ne) (UpdF.tail (by k_ne) (UpdF.head (by repeat' (first | assumption | (refine List.forall_mem_cons.mpr ⟨by k_ne, ?_⟩)))))))); (case d => k_asm)); intro h' o' F' N' d'; (try dsimp only at N'); (try k_sweep)) | ((fail_if_success (first | (with_reducible show wpAny _ _ (exec (Stmt.While _ _ _ _) _) _ _ _) | (with_reducible show wpAny _ _ (exec (Stmt.For _ _ _ _ _) _) _ _ _) | (with_reducible show wpAny _ _ (exec (Stmt.Try _ _ _ _ _) _) _ _ _) | (with_reducible show wpAny _ _ (eval (Expr.ListComp _ _ _ _) _) _ _ _) | (with_reducible show wpAny _ _ (exec (Stmt.Assign _ (Expr.ListComp _ _ _ _) _) _) _ _ _) | (with_reducible show wpAny _ _ (call (Value.ref _) _) _ _ _) | (with_reducible show Exists _))); walk1) | (dsimp only; first | ((with_reducible show wpAny _ _ (storeName (envOfC _ _ _ _ _) _ _) _ _ _); k_dflt (refine' storeX_C ?F ?N ?c ?U ?d ?_ ?a ?b; (case a => rfl); (case b => rfl); (case F => k_asm); (case N => k_asm); (case c => rfl); (case U => first | exact UpdF.head (by repeat' (first | assumption | (refine List.forall_mem_cons.mpr ⟨by k_ne, ?_⟩))) | exact UpdF.tail (by k_ne) (UpdF.head (by repeat' (first | assumption | (refine List.forall_mem_cons.mpr ⟨by k_ne, ?_⟩)))) | exact UpdF.tail (by k_ne) (UpdF.tail (by k_ne) (UpdF.head (by repeat' (first | assumption | (refine List.forall_mem_cons.mpr ⟨by k_ne, ?_⟩))))) | exact UpdF.tail (by k_ne) (UpdF.tail (by k_ne) (UpdF.tail (by k_ne) (UpdF.head (by repeat' (first | assumption | (refine List.forall_mem_cons.mpr ⟨by k_ne, ?_⟩)))))) | exact UpdF.tail (by k_ne) (UpdF.tail (by k_ne) (UpdF.tail (by k_ne) (UpdF.tail (by k_ne) (UpdF.head (by repeat' (first | assumption | (refine List.forall_mem_cons.mpr ⟨by k_ne, ?_⟩)))))))); (case d => k_asm)); intro h' o' F' N' d'; (try dsimp only at N'); (try k_sweep)) | ((fail_if_success (first | (with_reducible show wpAny _ _ (exec (Stmt.While _ _ _ _) _) _ _ _) | (with_reducible show wpAny _ _ (exec (Stmt.For _ _ _ _ _) _) _ _ _) | (with_reducible show wpAny _ _ (exec (Stmt.Try _ _ _ _ _) _) _ _ _) | (with_reducible show wpAny _ _ (eval (Expr.ListComp _ _ _ _) _) _ _ _) | (with_reducible show wpAny _ _ (exec (Stmt.Assign _ (Expr.ListComp _ _ _ _) _) _) _ _ _) | (with_reducible show wpAny _ _ (call (Value.ref _) _) _ _ _) | (with_reducible show Exists _))); walk1)) | fail "no step")
      with_reducible rename Fr _ _ _ _ => FB
      with_reducible rename News _ _ _ _ => NB
      have dB := d'
      clear d' hoc2
      k_dflt (refine LCt.Assign_ListComp_T (F₀ := FB) (by rfl) (by with_unfolding_all rfl) (by with_unfolding_all rfl) (by decide) (by rfl) (by decide) (by rfl) (by rfl) (by rfl) ?_)
      walk1
      refine LCt.CompSrcT.ledger hh FB NB (by k_mem) (by simpa using line_of (by omega : us.length ≤ 100000)) ?_
      intro g3
      dsimp only
      refine comp_filter1 Value.str (due (ds.map nrm)) id hU.length (src_strs hU) (.inr ⟨_, by k_mem, rfl, _, rfl⟩) ?_ ?_
      · intro f t I oI C oC D' m₂ ys h tk E' hf hC hx F3 N3 off ne
        have hfd := hfe f hf
        have hfl := ends_len hfd
        clear FB NB
        dsimp only
        repeat' (first | ((with_reducible show wpAny _ _ (call (Value.ref 208) _) _ _ _); k_dflt (refine' Ctr.use (lawin_ctr _ _ _ _ _ _ _ _ _ _ _ hY1 (by omega) hes hok hfd) (by assumption) (by decide) (by assumption) (by k_asm) (by assumption) (news_add (by k_asm) (by k_mem)) (by assumption) ?_); rintro v' nw' h' tk' ⟨hv', hn'⟩ F' N'; cases hv'; cases hn'; (try dsimp only)) | ((with_reducible show wpAny _ _ (compareOp CmpOp.In (Value.str _ _) (Value.ref _)) _ _ _); k_dflt (refine in_T (by k_asm) (by k_mem) (by assumption) ?_)) | ((fail_if_success (first | (with_reducible show wpAny _ _ (exec (Stmt.While _ _ _ _) _) _ _ _) | (with_reducible show wpAny _ _ (exec (Stmt.For _ _ _ _ _) _) _ _ _) | (with_reducible show wpAny _ _ (exec (Stmt.Try _ _ _ _ _) _) _ _ _) | (with_reducible show wpAny _ _ (eval (Expr.ListComp _ _ _ _) _) _ _ _) | (with_reducible show wpAny _ _ (exec (Stmt.Assign _ (Expr.ListComp _ _ _ _) _) _) _ _ _) | (with_reducible show wpAny _ _ (call (Value.ref _) _) _ _ _) | (with_reducible show Exists _))); walk1) | (dsimp only; first | ((with_reducible show wpAny _ _ (call (Value.ref 208) _) _ _ _); k_dflt (refine' Ctr.use (lawin_ctr _ _ _ _ _ _ _ _ _ _ _ hY1 (by omega) hes hok hfd) (by assumption) (by decide) (by assumption) (by k_asm) (by assumption) (news_add (by k_asm) (by k_mem)) (by assumption) ?_); rintro v' nw' h' tk' ⟨hv', hn'⟩ F' N'; cases hv'; cases hn'; (try dsimp only)) | ((with_reducible show wpAny _ _ (compareOp CmpOp.In (Value.str _ _) (Value.ref _)) _ _ _); k_dflt (refine in_T (by k_asm) (by k_mem) (by assumption) ?_)) | ((fail_if_success (first | (with_reducible show wpAny _ _ (exec (Stmt.While _ _ _ _) _) _ _ _) | (with_reducible show wpAny _ _ (exec (Stmt.For _ _ _ _ _) _) _ _ _) | (with_reducible show wpAny _ _ (exec (Stmt.Try _ _ _ _ _) _) _ _ _) | (with_reducible show wpAny _ _ (eval (Expr.ListComp _ _ _ _) _) _ _ _) | (with_reducible show wpAny _ _ (exec (Stmt.Assign _ (Expr.ListComp _ _ _ _) _) _) _ _ _) | (with_reducible show wpAny _ _ (call (Value.ref _) _) _ _ _) | (with_reducible show Exists _))); walk1)) | fail "no step")
        · have hb : true = due (ds.map nrm) f := due_t (by with_reducible assumption)
          refine TestEnd.intro () hb trivial F' N' (fun p hp => List.mem_cons_of_mem _ hp) off ?_
          intro _ N6 E6
          clear N' N3 F3
          repeat' (first | ((fail_if_success (first | (with_reducible show wpAny _ _ (exec (Stmt.While _ _ _ _) _) _ _ _) | (with_reducible show wpAny _ _ (exec (Stmt.For _ _ _ _ _) _) _ _ _) | (with_reducible show wpAny _ _ (exec (Stmt.Try _ _ _ _ _) _) _ _ _) | (with_reducible show wpAny _ _ (eval (Expr.ListComp _ _ _ _) _) _ _ _) | (with_reducible show wpAny _ _ (exec (Stmt.Assign _ (Expr.ListComp _ _ _ _) _) _) _ _ _) | (with_reducible show wpAny _ _ (call (Value.ref _) _) _ _ _) | (with_reducible show Exists _))); walk1) | (dsimp only; first | ((fail_if_success (first | (with_reducible show wpAny _ _ (exec (Stmt.While _ _ _ _) _) _ _ _) | (with_reducible show wpAny _ _ (exec (Stmt.For _ _ _ _ _) _) _ _ _) | (with_reducible show wpAny _ _ (exec (Stmt.Try _ _ _ _ _) _) _ _ _) | (with_reducible show wpAny _ _ (eval (Expr.ListComp _ _ _ _) _) _ _ _) | (with_reducible show wpAny _ _ (exec (Stmt.Assign _ (Expr.ListComp _ _ _ _) _) _) _ _ _) | (with_reducible show wpAny _ _ (call (Value.ref _) _) _ _ _) | (with_reducible show Exists _))); walk1)) | fail "no step")
          exact ⟨_, _, _, rfl, rfl, by assumption, by assumption⟩
        · clear N3 F3
          have hb : true = due (ds.map nrm) f := due_ft (by with_reducible assumption) (by with_reducible assumption)
          refine TestEnd.intro () hb trivial (by assumption) (by assumption) (fun p hp => List.mem_cons_of_mem _ hp) off ?_
          intro _ N6 E6
          repeat' (first | ((fail_if_success (first | (with_reducible show wpAny _ _ (exec (Stmt.While _ _ _ _) _) _ _ _) | (with_reducible show wpAny _ _ (exec (Stmt.For _ _ _ _ _) _) _ _ _) | (with_reducible show wpAny _ _ (exec (Stmt.Try _ _ _ _ _) _) _ _ _) | (with_reducible show wpAny _ _ (eval (Expr.ListComp _ _ _ _) _) _ _ _) | (with_reducible show wpAny _ _ (exec (Stmt.Assign _ (Expr.ListComp _ _ _ _) _) _) _ _ _) | (with_reducible show wpAny _ _ (call (Value.ref _) _) _ _ _) | (with_reducible show Exists _))); walk1) | (dsimp only; first | ((fail_if_success (first | (with_reducible show wpAny _ _ (exec (Stmt.While _ _ _ _) _) _ _ _) | (with_reducible show wpAny _ _ (exec (Stmt.For _ _ _ _ _) _) _ _ _) | (with_reducible show wpAny _ _ (exec (Stmt.Try _ _ _ _ _) _) _ _ _) | (with_reducible show wpAny _ _ (eval (Expr.ListComp _ _ _ _) _) _ _ _) | (with_reducible show wpAny _ _ (exec (Stmt.Assign _ (Expr.ListComp _ _ _ _) _) _) _ _ _) | (with_reducible show wpAny _ _ (call (Value.ref _) _) _ _ _) | (with_reducible show Exists _))); walk1)) | fail "no step")
          exact ⟨_, _, _, rfl, rfl, by assumption, by assumption⟩
        · clear N3 F3
          have hb : false = due (ds.map nrm) f := due_ff (by with_reducible assumption) (by with_reducible assumption)
          exact TestEnd.intro () hb trivial (by assumption) (by assumption) (fun p hp => List.mem_cons_of_mem _ hp) off (fun e => by rw [← hb] at e; cases e)
      · intro ys3 hY3 D3 h3 tk3 F3 N3 off3
        clear FB NB
        have hyl3 : ys3.length < 64 := by
          have q1 := strs_len hY3
          have q2 := strs_len hU
          have q3 := List.length_filter_le (due (ds.map nrm)) fs
          rw [List.length_map] at q1
          omega
        dsimp only
        repeat' (first | ((with_reducible show wpAny _ _ (call (Value.builtin "sorted") [Value.ref _]) _ _ _); k_dflt (refine sorted_N_str (by k_asm) (by k_asm) (News.isList (by k_asm) (by k_mem)) (by assumption) (by assumption) ?_); intro h' usS ssS eS F' N' hSS hPS hOS) | ((fail_if_success (first | (with_reducible show wpAny _ _ (exec (Stmt.While _ _ _ _) _) _ _ _) | (with_reducible show wpAny _ _ (exec (Stmt.For _ _ _ _ _) _) _ _ _) | (with_reducible show wpAny _ _ (exec (Stmt.Try _ _ _ _ _) _) _ _ _) | (with_reducible show wpAny _ _ (eval (Expr.ListComp _ _ _ _) _) _ _ _) | (with_reducible show wpAny _ _ (exec (Stmt.Assign _ (Expr.ListComp _ _ _ _) _) _) _ _ _) | (with_reducible show wpAny _ _ (call (Value.ref _) _) _ _ _) | (with_reducible show Exists _))); walk1) | (dsimp only; first | ((with_reducible show wpAny _ _ (call (Value.builtin "sorted") [Value.ref _]) _ _ _); k_dflt (refine sorted_N_str (by k_asm) (by k_asm) (News.isList (by k_asm) (by k_mem)) (by assumption) (by assumption) ?_); intro h' usS ssS eS F' N' hSS hPS hOS) | ((fail_if_success (first | (with_reducible show wpAny _ _ (exec (Stmt.While _ _ _ _) _) _ _ _) | (with_reducible show wpAny _ _ (exec (Stmt.For _ _ _ _ _) _) _ _ _) | (with_reducible show wpAny _ _ (exec (Stmt.Try _ _ _ _ _) _) _ _ _) | (with_reducible show wpAny _ _ (eval (Expr.ListComp _ _ _ _) _) _ _ _) | (with_reducible show wpAny _ _ (exec (Stmt.Assign _ (Expr.ListComp _ _ _ _) _) _) _ _ _) | (with_reducible show wpAny _ _ (call (Value.ref _) _) _ _ _) | (with_reducible show Exists _))); walk1)) | fail "no step")
        with_reducible rename News _ _ _ _ => N7
        refine hret _ _ _ _ _ ?dr (by assumption) N7
        refine ⟨ssS, by rw [List.map_id] at hPS; exact hPS, hOS, fun g5 L5 h5 N5 => reads_datum N5 (by k_mem) (by k_mem) (by k_mem) (by k_mem) (by k_mem) (by k_mem) .nil .nil hSS .nil, fun p hp => ?_⟩
        simp only [List.mem_cons] at hp ⊢
        rcases hp with h | h | h
        · simp only [h, true_or, or_true]
        · simp only [h, true_or, or_true]
        · simp only [h, true_or, or_true]

theorem news_add2 {h₀ h : Heap} {L : Addr} {news : List (Addr × Obj)} {p q : Addr × Obj} (N : News h₀ L h news) (hp : p ∈ news) (hq : q ∈ news) : News h₀ L h (p :: q :: news) := news_add (news_add N hq) (List.mem_cons_of_mem _ hp)
/-- as Ctr, of a def that is called where no frame lies below -/
def Ctr0 (n : Nat) (w : World) (mean : ExcName → Option Value) (mg mb : Str → Option Value) (f : Value) (news : List (Addr × Obj)) (vs : List Value) (R : Value → List (Addr × Obj) → Prop) : Prop :=
  ∀ (A : Around) (cn : Str) (cs : Scope) (a : Addr) (ccd : Value) (A₀ : Around) (base h₀ : Heap) (L : Addr) (m : Str → Option Value) (s : Shared) (Q E : Value → Shared → Prop),
    Ar n A (envOf cn cs L a ccd) [] L → Below A₀ base [] h₀ → Fr h₀ L s.heap m → (hd.heap_39 w.params).In h₀ → News h₀ L s.heap news → Top hd.view_39 (looseW hd.view_39 [Str.ofString "normpath_posixpath", Str.ofString "normpath_path"]) mean mg mb h₀ →
    (hd.heap_39 w.params).In base → Top hd.view_39 (looseW hd.view_39 [Str.ofString "normpath_posixpath", Str.ofString "normpath_path"]) mean mg mb base →
    (∀ v news' h' tk', R v news' → Fr h₀ L h' m → News h₀ L h' news' → Q v { s with heap := h', toks := tk' }) →
    wpAny (model Challenge.rw_nq0069_01.row.prog w) A (call f vs) Q E s
def BodT (n : Nat) (w : World) (mean : ExcName → Option Value) (mg mb : Str → Option Value) (mk : Addr → Env) (m₀ : Str → Option Value) (body : List Stmt) (news : List (Addr × Obj)) (R : Value → List (Addr × Obj) → Prop) : Prop :=
  ∀ (A : Around) (outer : List Env) (A₀ : Around) (base g : Heap) (L : Addr) (s : Shared) (Q : Flow → Shared → Prop),
    Ar n A (mk L) outer L → Below A₀ base outer g → Fr g L s.heap m₀ → (hd.heap_39 w.params).In g → News g L s.heap news → Top hd.view_39 (looseW hd.view_39 [Str.ofString "normpath_posixpath", Str.ofString "normpath_path"]) mean mg mb g →
    (hd.heap_39 w.params).In base → Top hd.view_39 (looseW hd.view_39 [Str.ofString "normpath_posixpath", Str.ofString "normpath_path"]) mean mg mb base → KtsDicts (outer.filterMap (·.frame)) g →
    (∀ v news' h' tk' m' g', R v news' → KtsTurn (outer.filterMap (·.frame)) g g' → Fr g' L h' m' → News g' L h' news' → Q (.ret v) { s with heap := h', toks := tk' }) →
    wpAny (model Challenge.rw_nq0069_01.row.prog w) A (execs body (mk L)) Q (fun _ _ => False) s
theorem ctr0_of {n : Nat} {w : World} {mean : ExcName → Option Value} {mg mb : Str → Option Value} {f : Addr} {news : List (Addr × Obj)} {vs : List Value} {R : Value → List (Addr × Obj) → Prop}
    {name qual : Str} {params : Arguments} {body : List Stmt} {scope : Scope} {dV kV doc pm cdv ct oc : Value} {an od : Option Addr} {osl : Array (Option Value)} {binds : List (Str × Value)}
    (ho : (hd.heap_39 w.params).lookup f = some ⟨oc, od, .func (fnOf name qual params body scope dV kV doc pm an cdv ct), osl⟩) (hcd : codeIn (hd.heap_39 w.params) cdv qual = true)
    (hbind : ∀ s : Shared, (hd.heap_39 w.params).In s.heap → BindsTo s (fnOf name qual params body scope dV kV doc pm an cdv ct) ⟨vs, []⟩ binds) (hloc : ∀ y ∈ binds, scope.names.lookup y.1 = some .local)
    (hco : scope.isCoroutine = false) (hgen : scope.isGenerator = false) (hk : scope.kind = .function) (hcell : ∀ x ∈ scope.names, x.2 ≠ .cell)
    (h : BodT n w mean mg mb (fun L => envOf qual scope L f cdv) (fun y => binds.reverse.lookup y) body news R) :
    Ctr0 (n + 1) w mean mg mb (.ref f) news vs R := by
  intro A cn cs a ccd A₀ base h₀ L m s Q E H B F X N T XB TB hret
  refine wpAny_call (code_defS0 B F X N T H.frames ho hcd (by have := H.depth; omega) (hbind s (X.keeps F.keep)) hloc ?_ H.kind hco hgen hk hcell)
  intro g L' h₁ FG F' N' B' X' T' D'
  refine wpAny_mono (h _ _ _ _ g L' _ (fun fl s' => LeaveS0 _ h₀ L m g (fun r s' => match r with | .ok (.ret v) => Q v s' | .ok _ => False | .error e => E e s') (match fl with | .ret v => v | _ => .none) s') (H.deeper hk) B' F' X' N' T' XB TB D' ?_) (fun _ _ x => x) (fun _ _ x => x.elim)
  intro v news' h' tk' m' g' hR T1 F'' N''
  exact leaveS0_ (s' := { s with heap := h', toks := tk' }) F'' N'' T1 (fun F3 N3 => hret v news' h' tk' hR F3 N3)
section
variable {prog : Program} {w : World} {A : Around} {E : Value → Shared → Prop} {s : Shared} {env : Env} {h₀ : Heap} {x z : Str} {body : List Stmt} {Q : Flow → Shared → Prop} {m₁ : Str → Option Value}
theorem iter_ledM {L l : Addr} {o : Obj} {vs : List Value} {news : List (Addr × Obj)} {a₀ : Addr} (J : Nat → Addr → List (Addr × Obj) → Prop)
    (hh : A.handled = none) (hc : o.cls = .type "list") (hd : ∃ k, o.data = .seq vs.toArray k) (F : Fr h₀ L s.heap (fun y => if y = z then some (.ref a₀) else m₁ y)) (N : News h₀ L s.heap ((l, o) :: news)) (hL : env.locals = L) (hj : J 0 a₀ news)
    (turn : ∀ i v a news₁ h tk I oI, vs[i]? = some v → J i a news₁ → (∀ p ∈ news₁, p.1 ≠ I) → (@Ne Nat l I) → Fr h₀ L h (fun y => if y = x then some v else if y = z then some (.ref a) else m₁ y) → News h₀ L h ((I, oI) :: (l, o) :: news₁) →
      wpAny (model prog w) A (execs body env) (TurnPostS h₀ L x (fun a y => if y = z then some (Value.ref a) else m₁ y) (J (i + 1)) I oI l o { s with heap := h, toks := tk } Q) E { s with heap := h, toks := tk })
    (done : ∀ a cv news₁ h tk, J vs.length a news₁ → Fr h₀ L h (fun y => if y = x then cv else if y = z then some (.ref a) else m₁ y) → News h₀ L h ((l, o) :: news₁) → Q .next { s with heap := h, toks := tk }) :
    wpAny (model prog w) A (pyIter (.ref l)) (fun it s₂ => LoopAtV prog w A h₀ env x body Q E it s₂) E s :=
  iter_ledS (fun a y => if y = z then some (Value.ref a) else m₁ y) a₀ J hh hc hd F N hL hj turn done
end
theorem fr_swap {g h : Heap} {L : Addr} {m : Str → Option Value} {x z : Str} {a b c : Option Value} (hxz : x ≠ z) (F : Fr g L h (fun y => if y = z then a else if y = x then b else if y = z then c else m y)) : Fr g L h (fun y => if y = x then b else if y = z then a else m y) := by
  have e : (fun y => if y = z then a else if y = x then b else if y = z then c else m y) = fun y => if y = x then b else if y = z then a else m y := by
    funext y
    by_cases h : y = z
    · by_cases h1 : y = x
      · exact absurd (h1.symm.trans h) hxz
      · rw [if_pos h, if_neg h1, if_pos h]
    · rw [if_neg h, if_neg h, if_neg h]
  rw [e] at F; exact F
section
variable {prog : Program} {w : World} {A : Around} {E : Value → Shared → Prop} {s : Shared} {h₀ : Heap} {L a b l : Addr} {m : Str → Option Value} {news : List (Addr × Obj)} {vs us : List Value} {xs : List Str} {n k : Nat} {Q : Value → Shared → Prop} {value slice : PySem.Expr}
theorem copy_T (F : Fr h₀ L s.heap m) (N : News h₀ L s.heap news) (hm : (l, listOf vs.toArray n) ∈ news) (hz : vs.length ≤ 100000)
    (h : ∀ D h', Fr h₀ L h' m → News h₀ L h' ((D, listOf vs.toArray 0) :: news) → (∀ p ∈ news, p.1 < D) → Q (.ref D) { s with heap := h' })
    (hs : subscripted slice false (.ref l) (.ref s.heap.objs.size) = operate [.ref s.heap.objs.size, .ref l] (getItem (.ref l) (.ref s.heap.objs.size))) (ht : ∀ r, letTemporaryGo value (.ref l) r = pure ()) :
    wpAny (model prog w) A (subscriptTail value slice (.ref l) (.ref s.heap.objs.size)) Q E { s with heap := s.heap.push { cls := .type "slice", data := .fields #[.none, .none, .none] } } :=
  kmk_slice_lit F N ⟨_, (N _ hm).1, rfl, _, rfl⟩ .none .none (by rw [slicePick_all]) h hs ht (by simpa using line_of hz)
theorem eq_TS (N : News h₀ L s.heap news) (ha : (a, listOf vs.toArray n) ∈ news) (hb : (b, listOf us.toArray k) ∈ news) (hi : StrsAre vs xs) (hj : StrsAre us xs) (kx : xs.all PyData.strOk = true) (hu : A.units + 64 < cLine) (h : Q (.bool true) s) :
    wpAny (model prog w) A (compareOp .Eq (.ref a) (.ref b)) Q E s := eq_T N ha hb hi hj kx kx hu (by rw [decide_eq_true rfl]; exact h)
end
theorem news_swap {h₀ h : Heap} {L : Addr} {rest : List (Addr × Obj)} {p q : Addr × Obj} (N : News h₀ L h (p :: q :: rest)) : News h₀ L h (q :: p :: rest) := fun r hr => by
  simp only [List.mem_cons] at hr
  rcases hr with h | h | h
  · exact N _ (by simp only [List.mem_cons, h, true_or, or_true])
  · exact N _ (by simp only [List.mem_cons, h, true_or])
  · exact N _ (by simp only [List.mem_cons, h, or_true])
theorem uld_len (l : List Str) : ∀ (acc : List Str × List Str), (l.foldl uldStep acc).1.length ≤ acc.1.length + l.length := by
  induction l with
  | nil => intro acc; simp
  | cons x l ih =>
    intro acc
    rw [List.foldl_cons]
    have h := ih (uldStep acc x)
    have h2 : (uldStep acc x).1.length ≤ acc.1.length + 1 := by
      unfold uldStep
      split
      · exact Nat.le_succ _
      · simp
    rw [List.length_cons]; omega
theorem news_cons {h₀ h : Heap} {L : Addr} {all r : List (Addr × Obj)} {p : Addr × Obj} (N : News h₀ L h all) (hp : p ∈ all) (M : News h₀ L h r) : News h₀ L h (p :: r) := fun q hq => by
  rcases List.mem_cons.mp hq with rfl | hq
  · exact N _ hp
  · exact M _ hq
theorem news_ins {h₀ h : Heap} {L : Addr} {rest : List (Addr × Obj)} {p1 p2 p3 p4 p5 q : Addr × Obj} (N : News h₀ L h (p1 :: p2 :: p3 :: p4 :: p5 :: rest)) (hq : q ∈ rest) : News h₀ L h (p1 :: p2 :: p3 :: p4 :: p5 :: q :: rest) := fun p hp => by
  simp only [List.mem_cons] at hp
  rcases hp with h | h | h | h | h | h | h
  · exact N _ (by simp only [List.mem_cons, h, true_or])
  · exact N _ (by simp only [List.mem_cons, h, true_or, or_true])
  · exact N _ (by simp only [List.mem_cons, h, true_or, or_true])
  · exact N _ (by simp only [List.mem_cons, h, true_or, or_true])
  · exact N _ (by simp only [List.mem_cons, h, true_or, or_true])
  · subst h; exact N _ (by simp only [List.mem_cons, hq, or_true])
  · exact N _ (by simp only [List.mem_cons, h, or_true])
theorem good_start {w : World} {es : List Str} {o : Obj} {kvs : List (Str × Value)} (hs : o.IsDictOf (strKind Challenge.rw_nq0069_01.row.prog w) kvs) (fs : PyProof.V.FlatPairs PyData.str kvs [(.str (Str.ofString "<string>"), .int 1)]) : Good w es 1 o := by
  cases fs with
  | cons hv r =>
    cases r
    refine ⟨_, hs, Nat.le_refl _, fun f v h => ?_⟩
    have hk : ¬ Str.ofString "<string>" = Str.ofString "m" ++ f := fun e => by
      have e1 : (Str.ofString "<string>").cps.toList = (Str.ofString "m" ++ f).cps.toList := by rw [← e]
      rw [show (Str.ofString "m" ++ f).cps.toList = (Str.ofString "m").cps.toList ++ f.cps.toList from Array.toList_append] at e1
      have e2 : (Str.ofString "<string>").cps.toList.head? = ((Str.ofString "m").cps.toList ++ f.cps.toList).head? := by rw [e1]
      rw [show (Str.ofString "m").cps.toList = [109] by decide +kernel] at e2
      rw [show (Str.ofString "<string>").cps.toList.head? = some 60 by decide +kernel] at e2
      cases e2
    rw [valueAt, List.find?_cons_of_neg (by simpa using hk)] at h
    cases h
theorem hit_split {es : List Str} {d : Str} {i : Nat} (hd : es[i]? = some d) (fs : List Str) : (fs.filter fun f => !hit (es.take i) f).filter (fun f => !hit [d] f) = fs.filter fun f => !hit (es.take (i + 1)) f := by
  rw [List.filter_filter]
  refine List.filter_congr fun f _ => ?_
  unfold hit
  rw [List.take_add_one, hd, List.any_append]
  simp only [Option.toList_some]
  cases (es.take i).any _ <;> cases [d].any _ <;> rfl
def TldR (old : List (Addr × Obj)) (fs es : List Str) (v : Value) (news' : List (Addr × Obj)) : Prop :=
  ∃ ss, ss.Perm (uld fs (fs.filter fun f => !hit es f)).1 ∧ sortedS ss = true ∧ (∀ g L h, News g L h news' → ∃ as, Reads h v (datum true (uld (fs.filter fun f => !hit es f) (fs.filter fun f => !hit es f)).1 (uld (fs.filter fun f => !hit es f) (fs.filter fun f => !hit es f)).2 ss (uld fs (fs.filter fun f => !hit es f)).2) as) ∧ ∀ p ∈ old, p ∈ news'
theorem lawtold_ctr (w : World) (mean : ExcName → Option Value) (mg mb : Str → Option Value) (news : List (Addr × Obj)) (fl ol : Addr) (us vs : List Value) (k n : Nat) (fs ds : List Str)
    (hU : StrsAre us fs) (hV : StrsAre vs ds) (hul : us.length ≤ 50) (hvl : vs.length ≤ 50) (hvn : 0 < vs.length) (hds : ∀ d ∈ ds, PathOk d) (hes : ∀ e ∈ ds.map nrm, e.length ≤ 100) (hfe : ∀ f ∈ fs, f.length ≤ 100) (hok : fs.all PyData.strOk = true) :
    Ctr0 14 w mean mg mb (.ref 215) ((fl, listOf us.toArray k) :: (ol, listOf vs.toArray n) :: news) [.ref fl, .ref ol] (TldR ((fl, listOf us.toArray k) :: (ol, listOf vs.toArray n) :: news) fs (ds.map nrm)) := by
  w_top off
  have hfill : Fill hd.heap_39 Challenge.rw_nq0069_01 := by (k_fill; exact trivial)
  clear hfill
  refine' ctr0_of ?h1 ?h2 ?h3 ?h4 ?h5 ?h6 ?h7 ?h8 ?_; (case h1 => k_is); (case h2 => k_is); (case h3 => intro s hX; first | exact BindsTo.of_eq rfl | exact binds_K hX rfl (by k_is) rfl rfl rfl); (case h4 => exact locs rfl); (case h5 => exact rfl); (case h6 => exact rfl); (case h7 => exact rfl); (case h8 => decide)
  intro A outer A₀ base g L s Q H B F X N T XB TB KD hret
  dsimp only at H ⊢
  have hh := H.handled
  repeat' (first | ((fail_if_success (first | (with_reducible show wpAny _ _ (exec (Stmt.While _ _ _ _) _) _ _ _) | (with_reducible show wpAny _ _ (exec (Stmt.For _ _ _ _ _) _) _ _ _) | (with_reducible show wpAny _ _ (exec (Stmt.Try _ _ _ _ _) _) _ _ _) | (with_reducible show wpAny _ _ (eval (Expr.ListComp _ _ _ _) _) _ _ _) | (with_reducible show wpAny _ _ (exec (Stmt.Assign _ (Expr.ListComp _ _ _ _) _) _) _ _ _) | (with_reducible show wpAny _ _ (call (Value.ref _) _) _ _ _) | (with_reducible show Exists _))); walk1) | (dsimp only; first | ((fail_if_success (first | (with_reducible show wpAny _ _ (exec (Stmt.While _ _ _ _) _) _ _ _) | (with_reducible show wpAny _ _ (exec (Stmt.For _ _ _ _ _) _) _ _ _) | (with_reducible show wpAny _ _ (exec (Stmt.Try _ _ _ _ _) _) _ _ _) | (with_reducible show wpAny _ _ (eval (Expr.ListComp _ _ _ _) _) _ _ _) | (with_reducible show wpAny _ _ (exec (Stmt.Assign _ (Expr.ListComp _ _ _ _) _) _) _ _ _) | (with_reducible show wpAny _ _ (call (Value.ref _) _) _ _ _) | (with_reducible show Exists _))); walk1)) | fail "no step")
  with_reducible rename Fr _ _ _ _ => F1
  with_reducible rename News _ _ _ _ => N1
  refine For_F F1 (by with_unfolding_all rfl) (by with_unfolding_all rfl) ?_
  walk1
  refine iter_ledM (o := listOf vs.toArray n) (vs := vs) (news := (fl, listOf us.toArray k) :: (fl, listOf us.toArray k) :: news)
    (fun i a nws => ∃ ul kl, nws = (a, listOf ul.toArray kl) :: (fl, listOf us.toArray k) :: news ∧ StrsAre ul (fs.filter fun f => !hit ((ds.map nrm).take i) f)) hh rfl ⟨_, rfl⟩ F1 (news_sub N1 ?_) rfl ⟨us, k, rfl, ?_⟩ ?_ ?_
  · intro p hp
    simp only [List.mem_cons] at hp ⊢
    rcases hp with h | h | h | h
    · simp only [h, true_or, or_true]
    · simp only [h, true_or, or_true]
    · simp only [h, true_or, or_true]
    · simp only [h, true_or, or_true]
  · rw [List.take_zero, List.filter_eq_self.mpr (fun f _ => by rfl)]; exact hU
  · rintro i v a nws h tk I oI hv ⟨ul, kl, rfl, hUl⟩ hI hl F2 N2
    obtain ⟨d, td, rfl, hd⟩ := StrsAre.item hV i v hv
    have okd : ∀ e ∈ [d], PathOk e := fun e he => by rw [List.mem_singleton.mp he]; exact hds d (List.mem_of_getElem? hd)
    have hIg := fun nw am ad => ignore_ctr w mean mg mb nw am ad [Value.str d td] 0 [d] (.cons d td .nil) (Nat.le_of_ble_eq_true rfl) Nat.zero_lt_one okd
    clear F1 N1
    dsimp only
    repeat' (first | ((with_reducible show wpAny _ _ (call (Value.ref 187) [Value.ref _, Value.ref _]) _ _ _); k_dflt (refine' Ctr.use (hIg _ _ _) (by assumption) (by decide) (by assumption) (by k_asm) (by assumption) (news_add2 (by k_asm) (by k_mem) (by k_mem)) (by assumption) ?_); rintro v' nw' h' tk' ⟨x, dx, S, Dl, G, led, t1, t2, t3, usD, o, kvs, hv', hn', hSD, hs', fs', lo, lG5, lG1, lG2, lG3, lG4⟩ F' N'; cases hv'; cases hn'; (try dsimp only)) | ((fail_if_success (first | (with_reducible show wpAny _ _ (exec (Stmt.While _ _ _ _) _) _ _ _) | (with_reducible show wpAny _ _ (exec (Stmt.For _ _ _ _ _) _) _ _ _) | (with_reducible show wpAny _ _ (exec (Stmt.Try _ _ _ _ _) _) _ _ _) | (with_reducible show wpAny _ _ (eval (Expr.ListComp _ _ _ _) _) _ _ _) | (with_reducible show wpAny _ _ (exec (Stmt.Assign _ (Expr.ListComp _ _ _ _) _) _) _ _ _) | (with_reducible show wpAny _ _ (call (Value.ref _) _) _ _ _) | (with_reducible show Exists _))); walk1) | (dsimp only; first | ((with_reducible show wpAny _ _ (call (Value.ref 187) [Value.ref _, Value.ref _]) _ _ _); k_dflt (refine' Ctr.use (hIg _ _ _) (by assumption) (by decide) (by assumption) (by k_asm) (by assumption) (news_add2 (by k_asm) (by k_mem) (by k_mem)) (by assumption) ?_); rintro v' nw' h' tk' ⟨x, dx, S, Dl, G, led, t1, t2, t3, usD, o, kvs, hv', hn', hSD, hs', fs', lo, lG5, lG1, lG2, lG3, lG4⟩ F' N'; cases hv'; cases hn'; (try dsimp only)) | ((fail_if_success (first | (with_reducible show wpAny _ _ (exec (Stmt.While _ _ _ _) _) _ _ _) | (with_reducible show wpAny _ _ (exec (Stmt.For _ _ _ _ _) _) _ _ _) | (with_reducible show wpAny _ _ (exec (Stmt.Try _ _ _ _ _) _) _ _ _) | (with_reducible show wpAny _ _ (eval (Expr.ListComp _ _ _ _) _) _ _ _) | (with_reducible show wpAny _ _ (exec (Stmt.Assign _ (Expr.ListComp _ _ _ _) _) _) _ _ _) | (with_reducible show wpAny _ _ (call (Value.ref _) _) _ _ _) | (with_reducible show Exists _))); walk1)) | fail "no step")
    have lGa : @LT.lt Nat _ a G := lG5 (a, listOf ul.toArray kl) (by k_mem)
    have hdn : ∀ e ∈ [d].map nrm, e.length ≤ 100 := fun e he => by
      rw [List.map_singleton, List.mem_singleton] at he
      subst he
      exact hes _ (List.mem_map_of_mem (List.mem_of_getElem? hd))
    have hul2 : ul.length ≤ 50 := by
      have q1 := strs_len hUl
      have q2 := strs_len hU
      have q3 := List.length_filter_le (fun f => !hit ((ds.map nrm).take i) f) fs
      omega
    have hud : usD.length ≤ 1000 := by have q1 := strs_len hSD; simp only [List.length_map, List.length_singleton] at q1; omega
    have hKe := fun (_ : Unit) (_ : Unit) => lawkept_ctr w mean mg mb _ x dx S Dl G a led t1 t2 t3 usD usD.length ([d].map nrm) o ul kl _ hUl (by omega) (fun f hf => hfe f (List.mem_filter.mp hf).1) hSD (good_start hs' fs') lo hud hdn lG1 lG2 lG3 lG4 (Nat.ne_of_lt lGa) (fun p hp => Nat.ne_of_lt (lG5 p hp))
    repeat' (first | ((with_reducible show wpAny _ _ (call (Value.ref 203) [Value.ref _, Value.ref _]) _ _ _); k_dflt (refine' Ctr.use (hKe () ()) (by assumption) (by decide) (by assumption) (by k_asm) (by assumption) (news_ins (by k_asm) (by k_mem)) (by assumption) ?_); rintro v' nw' h' tk' ⟨D, ys, hv', hn', hY, nD, oD⟩ F' N'; cases hv'; cases hn'; (try dsimp only)) | ((fail_if_success (first | (with_reducible show wpAny _ _ (exec (Stmt.While _ _ _ _) _) _ _ _) | (with_reducible show wpAny _ _ (exec (Stmt.For _ _ _ _ _) _) _ _ _) | (with_reducible show wpAny _ _ (exec (Stmt.Try _ _ _ _ _) _) _ _ _) | (with_reducible show wpAny _ _ (eval (Expr.ListComp _ _ _ _) _) _ _ _) | (with_reducible show wpAny _ _ (exec (Stmt.Assign _ (Expr.ListComp _ _ _ _) _) _) _ _ _) | (with_reducible show wpAny _ _ (call (Value.ref _) _) _ _ _) | (with_reducible show Exists _))); walk1) | (dsimp only; first | ((with_reducible show wpAny _ _ (call (Value.ref 203) [Value.ref _, Value.ref _]) _ _ _); k_dflt (refine' Ctr.use (hKe () ()) (by assumption) (by decide) (by assumption) (by k_asm) (by assumption) (news_ins (by k_asm) (by k_mem)) (by assumption) ?_); rintro v' nw' h' tk' ⟨D, ys, hv', hn', hY, nD, oD⟩ F' N'; cases hv'; cases hn'; (try dsimp only)) | ((fail_if_success (first | (with_reducible show wpAny _ _ (exec (Stmt.While _ _ _ _) _) _ _ _) | (with_reducible show wpAny _ _ (exec (Stmt.For _ _ _ _ _) _) _ _ _) | (with_reducible show wpAny _ _ (exec (Stmt.Try _ _ _ _ _) _) _ _ _) | (with_reducible show wpAny _ _ (eval (Expr.ListComp _ _ _ _) _) _ _ _) | (with_reducible show wpAny _ _ (exec (Stmt.Assign _ (Expr.ListComp _ _ _ _) _) _) _ _ _) | (with_reducible show wpAny _ _ (call (Value.ref _) _) _ _ _) | (with_reducible show Exists _))); walk1)) | fail "no step")
    refine TurnEndS.intro D _ (fr_swap (by decide) (by k_asm)) (by k_asm) (fun p hp => ?_) (fun p hp => ?_) ⟨ys, ys.length, rfl, by rw [← hit_split (by rw [List.getElem?_map, hd]; rfl)]; exact hY⟩
    · simp only [List.mem_cons] at hp ⊢
      rcases hp with h | h | h | h | h
      · simp only [h, true_or, or_true]
      · simp only [h, true_or, or_true]
      · exact .inl h
      · simp only [h, true_or, or_true]
      · simp only [h, true_or, or_true]
    · rcases List.mem_cons.mp hp with rfl | hp
      · exact Ne.symm (oD (I, oI) (by k_mem))
      · exact hI p (List.mem_cons_of_mem _ hp)
  · rintro a cv nws h tk ⟨ul, kl, rfl, hUl⟩ F2 N2
    clear F1 N1
    have hUl' : StrsAre ul (fs.filter fun f => !hit (ds.map nrm) f) := by rw [strs_len hV, ← List.length_map (f := nrm), List.take_length] at hUl; exact hUl
    have hIg := fun nw am ad => ignore_ctr w mean mg mb nw am ad vs n ds hV (by omega) hvn hds
    dsimp only
    repeat' (first | ((with_reducible show wpAny _ _ (call (Value.ref 187) [Value.ref _, Value.ref _]) _ _ _); k_dflt (refine' Ctr.use (hIg _ _ _) (by assumption) (by decide) (by assumption) (by k_asm) (by assumption) (news_add2 (by k_asm) (by k_mem) (by k_mem)) (by assumption) ?_); rintro v' nw' h' tk' ⟨x, dx, S, Dl, G, led, t1, t2, t3, usD, o, kvs, hv', hn', hSD, hs', fs', lo, lG5, lG1, lG2, lG3, lG4⟩ F' N'; cases hv'; cases hn'; (try dsimp only)) | ((fail_if_success (first | (with_reducible show wpAny _ _ (exec (Stmt.While _ _ _ _) _) _ _ _) | (with_reducible show wpAny _ _ (exec (Stmt.For _ _ _ _ _) _) _ _ _) | (with_reducible show wpAny _ _ (exec (Stmt.Try _ _ _ _ _) _) _ _ _) | (with_reducible show wpAny _ _ (eval (Expr.ListComp _ _ _ _) _) _ _ _) | (with_reducible show wpAny _ _ (exec (Stmt.Assign _ (Expr.ListComp _ _ _ _) _) _) _ _ _) | (with_reducible show wpAny _ _ (call (Value.ref _) _) _ _ _) | (with_reducible show Exists _))); walk1) | (dsimp only; first | ((with_reducible show wpAny _ _ (call (Value.ref 187) [Value.ref _, Value.ref _]) _ _ _); k_dflt (refine' Ctr.use (hIg _ _ _) (by assumption) (by decide) (by assumption) (by k_asm) (by assumption) (news_add2 (by k_asm) (by k_mem) (by k_mem)) (by assumption) ?_); rintro v' nw' h' tk' ⟨x, dx, S, Dl, G, led, t1, t2, t3, usD, o, kvs, hv', hn', hSD, hs', fs', lo, lG5, lG1, lG2, lG3, lG4⟩ F' N'; cases hv'; cases hn'; (try dsimp only)) | ((fail_if_success (first | (with_reducible show wpAny _ _ (exec (Stmt.While _ _ _ _) _) _ _ _) | (with_reducible show wpAny _ _ (exec (Stmt.For _ _ _ _ _) _) _ _ _) | (with_reducible show wpAny _ _ (exec (Stmt.Try _ _ _ _ _) _) _ _ _) | (with_reducible show wpAny _ _ (eval (Expr.ListComp _ _ _ _) _) _ _ _) | (with_reducible show wpAny _ _ (exec (Stmt.Assign _ (Expr.ListComp _ _ _ _) _) _) _ _ _) | (with_reducible show wpAny _ _ (call (Value.ref _) _) _ _ _) | (with_reducible show Exists _))); walk1)) | fail "no step")
    have lGa : @LT.lt Nat _ fl G := lG5 (fl, listOf us.toArray k) (by k_mem)
    have hud : usD.length ≤ 1000 := by have q1 := strs_len hSD; have q2 := strs_len hV; rw [List.length_map] at q1; omega
    have hKe := fun (_ : Unit) (_ : Unit) => lawkept_ctr w mean mg mb _ x dx S Dl G fl led t1 t2 t3 usD usD.length (ds.map nrm) o us k _ hU (by omega) hfe hSD (good_start hs' fs') lo hud hes lG1 lG2 lG3 lG4 (Nat.ne_of_lt lGa) (fun p hp => Nat.ne_of_lt (lG5 p hp))
    have hokL : (fs.filter fun f => !hit (ds.map nrm) f).all PyData.strOk = true := ok_filter _ hok
    have hu : A.units + 64 < cLine := by have := H.units; omega
    k_dflt (refine Ctr.use (hKe () ()) H (by decide) B (by k_asm) X (news_ins (by k_asm) (by k_mem)) T ?_)
    rintro v' nw' h' tk' ⟨D, ys, hv', hn', hY, nD, oD⟩ F5 N5
    cases hv'; cases hn'
    have N6 : News g L h' ((D, LCg.lst ys) :: (fl, listOf us.toArray k) :: (ol, listOf vs.toArray n) :: (a, listOf ul.toArray kl) :: news) :=
      news_cons N5 (by k_mem) (news_cons N5 (by k_mem) (news_cons N5 (by k_mem) (news_cons N5 (by k_mem) (fun p hp => N5 p (by repeat (first | exact hp | refine List.mem_cons_of_mem _ ?_))))))
    clear N5 hKe lG1 lG2 lG3 lG4 lG5 lGa lo hs' fs' hSD hud oD nD hIg
    dsimp only
    repeat' (first | ((with_reducible show wpAny _ _ (subscriptTail (Expr.Name (Str.ofString "files") _) (Expr.Slice none none none _) (Value.ref _) (Value.ref _)) _ _ _); k_dflt (refine' copy_T ?F ?N ?l ?z ?_ ?s ?t; (case F => k_asm); (case N => k_asm); (case l => k_mem); (case z => omega); (case s => with_unfolding_all rfl); (case t => kmk_pure)); intro c1 hc1 Fc1 Nc1 lc1; (try k_sweep)) | ((fail_if_success (first | (with_reducible show wpAny _ _ (exec (Stmt.While _ _ _ _) _) _ _ _) | (with_reducible show wpAny _ _ (exec (Stmt.For _ _ _ _ _) _) _ _ _) | (with_reducible show wpAny _ _ (exec (Stmt.Try _ _ _ _ _) _) _ _ _) | (with_reducible show wpAny _ _ (eval (Expr.ListComp _ _ _ _) _) _ _ _) | (with_reducible show wpAny _ _ (exec (Stmt.Assign _ (Expr.ListComp _ _ _ _) _) _) _ _ _) | (with_reducible show wpAny _ _ (call (Value.ref _) _) _ _ _) | (with_reducible show Exists _))); walk1) | (dsimp only; first | ((with_reducible show wpAny _ _ (subscriptTail (Expr.Name (Str.ofString "files") _) (Expr.Slice none none none _) (Value.ref _) (Value.ref _)) _ _ _); k_dflt (refine' copy_T ?F ?N ?l ?z ?_ ?s ?t; (case F => k_asm); (case N => k_asm); (case l => k_mem); (case z => omega); (case s => with_unfolding_all rfl); (case t => kmk_pure)); intro c1 hc1 Fc1 Nc1 lc1; (try k_sweep)) | ((fail_if_success (first | (with_reducible show wpAny _ _ (exec (Stmt.While _ _ _ _) _) _ _ _) | (with_reducible show wpAny _ _ (exec (Stmt.For _ _ _ _ _) _) _ _ _) | (with_reducible show wpAny _ _ (exec (Stmt.Try _ _ _ _ _) _) _ _ _) | (with_reducible show wpAny _ _ (eval (Expr.ListComp _ _ _ _) _) _ _ _) | (with_reducible show wpAny _ _ (exec (Stmt.Assign _ (Expr.ListComp _ _ _ _) _) _) _ _ _) | (with_reducible show wpAny _ _ (call (Value.ref _) _) _ _ _) | (with_reducible show Exists _))); walk1)) | fail "no step")
    have hyl : ys.length ≤ 50 := by
      have q1 := strs_len hY
      have q2 := strs_len hU
      have q3 := List.length_filter_le (fun f => !hit (ds.map nrm) f) fs
      omega
    have hull : ul.length ≤ 50 := by
      have q1 := strs_len hUl'
      have q2 := strs_len hY
      omega
    repeat' (first | ((with_reducible show wpAny _ _ (subscriptTail (Expr.Name (Str.ofString "one") _) (Expr.Slice none none none _) (Value.ref _) (Value.ref _)) _ _ _); k_dflt (refine' copy_T ?F ?N ?l ?z ?_ ?s ?t; (case F => k_asm); (case N => k_asm); (case l => k_mem); (case z => omega); (case s => with_unfolding_all rfl); (case t => kmk_pure)); intro c2 hc2 Fc2 Nc2 lc2; (try k_sweep)) | ((fail_if_success (first | (with_reducible show wpAny _ _ (exec (Stmt.While _ _ _ _) _) _ _ _) | (with_reducible show wpAny _ _ (exec (Stmt.For _ _ _ _ _) _) _ _ _) | (with_reducible show wpAny _ _ (exec (Stmt.Try _ _ _ _ _) _) _ _ _) | (with_reducible show wpAny _ _ (eval (Expr.ListComp _ _ _ _) _) _ _ _) | (with_reducible show wpAny _ _ (exec (Stmt.Assign _ (Expr.ListComp _ _ _ _) _) _) _ _ _) | (with_reducible show wpAny _ _ (call (Value.ref _) _) _ _ _) | (with_reducible show Exists _))); walk1) | (dsimp only; first | ((with_reducible show wpAny _ _ (subscriptTail (Expr.Name (Str.ofString "one") _) (Expr.Slice none none none _) (Value.ref _) (Value.ref _)) _ _ _); k_dflt (refine' copy_T ?F ?N ?l ?z ?_ ?s ?t; (case F => k_asm); (case N => k_asm); (case l => k_mem); (case z => omega); (case s => with_unfolding_all rfl); (case t => kmk_pure)); intro c2 hc2 Fc2 Nc2 lc2; (try k_sweep)) | ((fail_if_success (first | (with_reducible show wpAny _ _ (exec (Stmt.While _ _ _ _) _) _ _ _) | (with_reducible show wpAny _ _ (exec (Stmt.For _ _ _ _ _) _) _ _ _) | (with_reducible show wpAny _ _ (exec (Stmt.Try _ _ _ _ _) _) _ _ _) | (with_reducible show wpAny _ _ (eval (Expr.ListComp _ _ _ _) _) _ _ _) | (with_reducible show wpAny _ _ (exec (Stmt.Assign _ (Expr.ListComp _ _ _ _) _) _) _ _ _) | (with_reducible show wpAny _ _ (call (Value.ref _) _) _ _ _) | (with_reducible show Exists _))); walk1)) | fail "no step")
    k_dflt (refine CtrS.use (uld_ctr w mean mg mb _ c1 c2 us ys 0 0 fs _ hU hY (by omega) (by omega) (Nat.ne_of_lt (lc2 _ List.mem_cons_self)) (fun p hp => Nat.ne_of_lt (lc1 p hp)) (fun p hp => Nat.ne_of_lt (lc2 p (List.mem_cons_of_mem _ hp)))) H (by decide) B (by k_asm) X (news_swap (by k_asm)) T XB TB KD ?_)
    rintro v' nw' h' tk' g1 ⟨T1, M1, uM1, nM1, u21, n21, hv', hn', hM1, h21, lM1, lM2, lM3⟩ F' N' B' X' T' KD' TT1
    cases hv'; cases hn'
    clear B X T KD
    with_reducible rename Fr g1 _ _ _ => F6
    with_reducible rename News g1 _ _ _ => N6
    dsimp only
    repeat' (first | ((with_reducible show wpAny _ _ (assign (Expr.Tuple _ _ _) _ (Value.ref _)) _ _ _); k_dflt (refine' unpackN_ ?u1 ?u2 ?u3 ?u4 ?u5 ?u6 ?_; (case u1 => k_asm); (case u2 => k_asm); (case u3 => exact News.isTup (by k_asm) (by k_mem)); (case u4 => first | assumption | exact rfl); (case u5 => first | assumption | exact rfl); (case u6 => first | assumption | exact rfl)); intro h' F' N'; (try k_sweep)) | ((with_reducible show wpAny _ _ (compareOp CmpOp.Eq (Value.ref _) (Value.ref _)) _ _ _); k_dflt (refine eq_TS (by k_asm) (by k_mem) (by k_mem) hUl' hY hokL hu ?_)) | ((with_reducible show wpAny _ _ (subscriptTail (Expr.Name (Str.ofString "left") _) (Expr.Slice none none none _) (Value.ref _) (Value.ref _)) _ _ _); k_dflt (refine' copy_T ?F ?N ?l ?z ?_ ?s ?t; (case F => k_asm); (case N => k_asm); (case l => k_mem); (case z => omega); (case s => with_unfolding_all rfl); (case t => kmk_pure)); intro c3 hc3 Fc3 Nc3 lc3; (try k_sweep)) | ((with_reducible show wpAny _ _ (subscriptTail (Expr.Name (Str.ofString "one") _) (Expr.Slice none none none _) (Value.ref _) (Value.ref _)) _ _ _); k_dflt (refine' copy_T ?F ?N ?l ?z ?_ ?s ?t; (case F => k_asm); (case N => k_asm); (case l => k_mem); (case z => omega); (case s => with_unfolding_all rfl); (case t => kmk_pure)); intro c4 hc4 Fc4 Nc4 lc4; (try k_sweep)) | ((fail_if_success (first | (with_reducible show wpAny _ _ (exec (Stmt.While _ _ _ _) _) _ _ _) | (with_reducible show wpAny _ _ (exec (Stmt.For _ _ _ _ _) _) _ _ _) | (with_reducible show wpAny _ _ (exec (Stmt.Try _ _ _ _ _) _) _ _ _) | (with_reducible show wpAny _ _ (eval (Expr.ListComp _ _ _ _) _) _ _ _) | (with_reducible show wpAny _ _ (exec (Stmt.Assign _ (Expr.ListComp _ _ _ _) _) _) _ _ _) | (with_reducible show wpAny _ _ (call (Value.ref _) _) _ _ _) | (with_reducible show Exists _))); walk1) | (dsimp only; first | ((with_reducible show wpAny _ _ (assign (Expr.Tuple _ _ _) _ (Value.ref _)) _ _ _); k_dflt (refine' unpackN_ ?u1 ?u2 ?u3 ?u4 ?u5 ?u6 ?_; (case u1 => k_asm); (case u2 => k_asm); (case u3 => exact News.isTup (by k_asm) (by k_mem)); (case u4 => first | assumption | exact rfl); (case u5 => first | assumption | exact rfl); (case u6 => first | assumption | exact rfl)); intro h' F' N'; (try k_sweep)) | ((with_reducible show wpAny _ _ (compareOp CmpOp.Eq (Value.ref _) (Value.ref _)) _ _ _); k_dflt (refine eq_TS (by k_asm) (by k_mem) (by k_mem) hUl' hY hokL hu ?_)) | ((with_reducible show wpAny _ _ (subscriptTail (Expr.Name (Str.ofString "left") _) (Expr.Slice none none none _) (Value.ref _) (Value.ref _)) _ _ _); k_dflt (refine' copy_T ?F ?N ?l ?z ?_ ?s ?t; (case F => k_asm); (case N => k_asm); (case l => k_mem); (case z => omega); (case s => with_unfolding_all rfl); (case t => kmk_pure)); intro c3 hc3 Fc3 Nc3 lc3; (try k_sweep)) | ((with_reducible show wpAny _ _ (subscriptTail (Expr.Name (Str.ofString "one") _) (Expr.Slice none none none _) (Value.ref _) (Value.ref _)) _ _ _); k_dflt (refine' copy_T ?F ?N ?l ?z ?_ ?s ?t; (case F => k_asm); (case N => k_asm); (case l => k_mem); (case z => omega); (case s => with_unfolding_all rfl); (case t => kmk_pure)); intro c4 hc4 Fc4 Nc4 lc4; (try k_sweep)) | ((fail_if_success (first | (with_reducible show wpAny _ _ (exec (Stmt.While _ _ _ _) _) _ _ _) | (with_reducible show wpAny _ _ (exec (Stmt.For _ _ _ _ _) _) _ _ _) | (with_reducible show wpAny _ _ (exec (Stmt.Try _ _ _ _ _) _) _ _ _) | (with_reducible show wpAny _ _ (eval (Expr.ListComp _ _ _ _) _) _ _ _) | (with_reducible show wpAny _ _ (exec (Stmt.Assign _ (Expr.ListComp _ _ _ _) _) _) _ _ _) | (with_reducible show wpAny _ _ (call (Value.ref _) _) _ _ _) | (with_reducible show Exists _))); walk1)) | fail "no step")
    k_dflt (refine CtrS.use (uld_ctr w mean mg mb _ c3 c4 ul ys 0 0 _ _ hUl' hY (by omega) (by omega) (Nat.ne_of_lt (lc4 _ List.mem_cons_self)) (fun p hp => Nat.ne_of_lt (lc3 p hp)) (fun p hp => Nat.ne_of_lt (lc4 p (List.mem_cons_of_mem _ hp)))) H (by decide) B' (by k_asm) X' (news_swap (by k_asm)) T' XB TB KD' ?_)
    rintro v' nw' h' tk' g2 ⟨T2, M2, uM2, nM2, u22, n22, hv', hn', hM2, h22, lN1, lN2, lN3⟩ F7 N7 B7 X7 T7 KD7 TT2
    cases hv'; cases hn'
    clear B' X' T' KD'
    with_reducible rename Fr g2 _ _ _ => F8
    with_reducible rename News g2 _ _ _ => N8
    have hml : uM1.length < 64 := by
      have q1 := strs_len hM1
      have q2 := uld_len fs.reverse ([], fs.filter fun f => !hit (ds.map nrm) f)
      have q3 := strs_len hU
      rw [List.length_reverse] at q2
      simp only [List.length_nil] at q2
      rw [uld] at q1
      omega
    dsimp only
    repeat' (first | ((with_reducible show wpAny _ _ (call (Value.builtin "sorted") [Value.ref _]) _ _ _); k_dflt (refine sorted_N_str (by k_asm) (by k_asm) (News.isList (by k_asm) (by k_mem)) (by assumption) (by assumption) ?_); intro h' usS ssS eS F' N' hSS hPS hOS) | ((fail_if_success (first | (with_reducible show wpAny _ _ (exec (Stmt.While _ _ _ _) _) _ _ _) | (with_reducible show wpAny _ _ (exec (Stmt.For _ _ _ _ _) _) _ _ _) | (with_reducible show wpAny _ _ (exec (Stmt.Try _ _ _ _ _) _) _ _ _) | (with_reducible show wpAny _ _ (eval (Expr.ListComp _ _ _ _) _) _ _ _) | (with_reducible show wpAny _ _ (exec (Stmt.Assign _ (Expr.ListComp _ _ _ _) _) _) _ _ _) | (with_reducible show wpAny _ _ (call (Value.ref _) _) _ _ _) | (with_reducible show Exists _))); walk1) | (dsimp only; first | ((with_reducible show wpAny _ _ (call (Value.builtin "sorted") [Value.ref _]) _ _ _); k_dflt (refine sorted_N_str (by k_asm) (by k_asm) (News.isList (by k_asm) (by k_mem)) (by assumption) (by assumption) ?_); intro h' usS ssS eS F' N' hSS hPS hOS) | ((fail_if_success (first | (with_reducible show wpAny _ _ (exec (Stmt.While _ _ _ _) _) _ _ _) | (with_reducible show wpAny _ _ (exec (Stmt.For _ _ _ _ _) _) _ _ _) | (with_reducible show wpAny _ _ (exec (Stmt.Try _ _ _ _ _) _) _ _ _) | (with_reducible show wpAny _ _ (eval (Expr.ListComp _ _ _ _) _) _ _ _) | (with_reducible show wpAny _ _ (exec (Stmt.Assign _ (Expr.ListComp _ _ _ _) _) _) _ _ _) | (with_reducible show wpAny _ _ (call (Value.ref _) _) _ _ _) | (with_reducible show Exists _))); walk1)) | fail "no step")
    with_reducible rename News _ _ _ _ => N9
    refine hret _ _ _ _ _ _ ?dr (TT1.trans TT2) (by assumption) N9
    refine ⟨ssS, hPS, hOS, fun g5 L5 h5 N5 => reads_datum N5 (by k_mem) (by k_mem) (by k_mem) (by k_mem) (by k_mem) (by k_mem) hM2 h22 hSS h21, fun p hp => ?_⟩
    simp only [List.mem_cons] at hp ⊢
    rcases hp with h | h | h
    · simp only [h, true_or, or_true]
    · simp only [h, true_or, or_true]
    · simp only [h, true_or, or_true]

noncomputable def nrms : List Str := [⟨#[47, 97, 47, 97, 47, 97]⟩, ⟨#[47, 97, 47, 97, 47, 98]⟩, ⟨#[47, 97]⟩, ⟨#[47, 97, 47, 97]⟩, ⟨#[47, 97, 47, 97, 47, 97, 98]⟩, ⟨#[47, 97, 47, 98, 47, 97]⟩, ⟨#[47, 97, 47, 98, 47, 98]⟩, ⟨#[47, 97, 47, 98]⟩, ⟨#[47, 97, 47, 98, 47, 97, 98]⟩, ⟨#[47, 98]⟩, ⟨#[47]⟩, ⟨#[47, 97, 98]⟩, ⟨#[47, 97, 47, 97, 98]⟩, ⟨#[47, 97, 47, 97, 98, 47, 97]⟩, ⟨#[47, 97, 47, 97, 98, 47, 98]⟩, ⟨#[47, 97, 47, 97, 98, 47, 97, 98]⟩, ⟨#[47, 98, 47, 97, 47, 97]⟩, ⟨#[47, 98, 47, 97, 47, 98]⟩, ⟨#[47, 98, 47, 97]⟩, ⟨#[47, 98, 47, 97, 47, 97, 98]⟩, ⟨#[47, 98, 47, 98, 47, 97]⟩, ⟨#[47, 98, 47, 98, 47, 98]⟩, ⟨#[47, 98, 47, 98]⟩, ⟨#[47, 98, 47, 98, 47, 97, 98]⟩, ⟨#[47, 98, 47, 97, 98]⟩, ⟨#[47, 98, 47, 97, 98, 47, 97]⟩, ⟨#[47, 98, 47, 97, 98, 47, 98]⟩, ⟨#[47, 98, 47, 97, 98, 47, 97, 98]⟩, ⟨#[47, 97, 98, 47, 97]⟩, ⟨#[47, 97, 98, 47, 98]⟩, ⟨#[47, 97, 98, 47, 97, 98]⟩, ⟨#[47, 47, 97, 47, 97]⟩, ⟨#[47, 47, 97, 47, 98]⟩, ⟨#[47, 47]⟩, ⟨#[47, 47, 97]⟩, ⟨#[47, 47, 97, 47, 97, 98]⟩, ⟨#[47, 47, 98, 47, 97]⟩, ⟨#[47, 47, 98, 47, 98]⟩, ⟨#[47, 47, 98]⟩, ⟨#[47, 47, 98, 47, 97, 98]⟩, ⟨#[47, 47, 97, 98]⟩, ⟨#[47, 47, 97, 98, 47, 97]⟩, ⟨#[47, 47, 97, 98, 47, 98]⟩, ⟨#[47, 47, 97, 98, 47, 97, 98]⟩, ⟨#[47, 97, 98, 47, 97, 47, 97]⟩, ⟨#[47, 97, 98, 47, 97, 47, 98]⟩, ⟨#[47, 97, 98, 47, 97, 47, 97, 98]⟩, ⟨#[47, 97, 98, 47, 98, 47, 97]⟩, ⟨#[47, 97, 98, 47, 98, 47, 98]⟩, ⟨#[47, 97, 98, 47, 98, 47, 97, 98]⟩, ⟨#[47, 97, 98, 47, 97, 98, 47, 97]⟩, ⟨#[47, 97, 98, 47, 97, 98, 47, 98]⟩, ⟨#[47, 97, 98, 47, 97, 98, 47, 97, 98]⟩, ⟨#[47, 47, 97, 47, 97, 47, 97]⟩, ⟨#[47, 47, 97, 47, 97, 47, 98]⟩, ⟨#[47, 47, 97, 47, 97, 47, 97, 98]⟩, ⟨#[47, 47, 97, 47, 98, 47, 97]⟩, ⟨#[47, 47, 97, 47, 98, 47, 98]⟩, ⟨#[47, 47, 97, 47, 98, 47, 97, 98]⟩, ⟨#[47, 47, 97, 47, 97, 98, 47, 97]⟩, ⟨#[47, 47, 97, 47, 97, 98, 47, 98]⟩, ⟨#[47, 47, 97, 47, 97, 98, 47, 97, 98]⟩, ⟨#[47, 47, 98, 47, 97, 47, 97]⟩, ⟨#[47, 47, 98, 47, 97, 47, 98]⟩, ⟨#[47, 47, 98, 47, 97, 47, 97, 98]⟩, ⟨#[47, 47, 98, 47, 98, 47, 97]⟩, ⟨#[47, 47, 98, 47, 98, 47, 98]⟩, ⟨#[47, 47, 98, 47, 98, 47, 97, 98]⟩, ⟨#[47, 47, 98, 47, 97, 98, 47, 97]⟩, ⟨#[47, 47, 98, 47, 97, 98, 47, 98]⟩, ⟨#[47, 47, 98, 47, 97, 98, 47, 97, 98]⟩, ⟨#[47, 47, 97, 98, 47, 97, 47, 97]⟩, ⟨#[47, 47, 97, 98, 47, 97, 47, 98]⟩, ⟨#[47, 47, 97, 98, 47, 97, 47, 97, 98]⟩, ⟨#[47, 47, 97, 98, 47, 98, 47, 97]⟩, ⟨#[47, 47, 97, 98, 47, 98, 47, 98]⟩, ⟨#[47, 47, 97, 98, 47, 98, 47, 97, 98]⟩, ⟨#[47, 47, 97, 98, 47, 97, 98, 47, 97]⟩, ⟨#[47, 47, 97, 98, 47, 97, 98, 47, 98]⟩, ⟨#[47, 47, 97, 98, 47, 97, 98, 47, 97, 98]⟩]
def odd (n : Int) : Bool := n.fmod 2 == 1
def even (n : Int) : Bool := n.fmod 2 == 0
def filesOf (dr : List Int) : List Str := [Str.ofString "/a/b/ab", Str.ofString "/a/b", Str.ofString "/a/b/ab"] ++ (dr.filter odd).map fun n => nrm (lawPath n)
def outOf (dr : List Int) : List Str := (dr.filter even).map lawPath
theorem fold_perm : ∀ (xs : List Str) (acc as : List Str), xs.Perm as → xs.foldl uldStep (acc, as) = (acc, [])
  | [], acc, as, h => by rw [h.nil_eq.symm]; rfl
  | x :: r, acc, as, h => by
    obtain ⟨hm, hp⟩ := List.cons_perm_iff_perm_erase.mp h
    rw [List.foldl_cons, uld_some (acc := (acc, as)) hm]
    exact fold_perm r acc (as.erase x) hp
theorem uld_self (l : List Str) : uld l l = ([], []) := fold_perm l.reverse [] l (List.reverse_perm l)
theorem fold_filter (p : Str → Bool) : ∀ (xs : List Str) (acc as : List Str), (xs.filter p).Perm as → xs.foldl uldStep (acc, as) = (acc ++ xs.filter (fun x => !p x), [])
  | [], acc, as, h => by
    have e : as = [] := (List.Perm.nil_eq h).symm
    subst e; simp
  | x :: r, acc, as, h => by
    cases hx : p x with
    | true =>
      rw [List.filter_cons_of_pos hx] at h
      obtain ⟨hm, hp⟩ := List.cons_perm_iff_perm_erase.mp h
      rw [List.foldl_cons, uld_some (acc := (acc, as)) hm, fold_filter p r acc (as.erase x) hp, List.filter_cons_of_neg (by simp [hx])]
    | false =>
      rw [List.filter_cons_of_neg (by simp [hx])] at h
      have hm : x ∉ as := fun hm => by
        have := (List.mem_filter.mp (h.mem_iff.mpr hm)).2
        rw [hx] at this; cases this
      rw [List.foldl_cons, uld_none (acc := (acc, as)) hm, fold_filter p r (acc ++ [x]) as h, List.filter_cons_of_pos (by simp [hx])]
      simp
theorem uld_filter (p : Str → Bool) (l : List Str) : uld l (l.filter p) = (l.reverse.filter (fun x => !p x), []) := by
  have := fold_filter p l.reverse [] (l.filter p) ((List.reverse_perm l).filter p)
  rw [List.nil_append] at this
  exact this
theorem rising_all : ∀ (l : List Str) (p : Str), risingS p l = true → ∀ x ∈ l, p.cps.toList ≤ x.cps.toList
  | [], _, _, x, hx => by cases hx
  | y :: r, p, h, x, hx => by
    have h' : (!PySem.Spec.ltCps y.cps.toList p.cps.toList && risingS y r) = true := h
    rw [Bool.and_eq_true, ltCps_eq] at h'
    have hy : p.cps.toList ≤ y.cps.toList := List.not_lt.mp (by simpa using h'.1)
    rcases List.mem_cons.mp hx with rfl | hx
    · exact hy
    · exact List.le_trans hy (rising_all r y h'.2 x hx)
theorem rising_tail {p : Str} : ∀ {l : List Str}, risingS p l = true → sortedS l = true
  | [], _ => rfl
  | y :: r, h => by
    have h' : (!PySem.Spec.ltCps y.cps.toList p.cps.toList && risingS y r) = true := h
    exact (Bool.and_eq_true _ _ ▸ h').2
theorem sort_eq : ∀ (l m : List Str), l.Perm m → sortedS l = true → sortedS m = true → l = m
  | [], m, h, _, _ => h.nil_eq
  | x :: r, [], h, _, _ => by have := h.length_eq; cases this
  | x :: r, y :: t, h, hl, hm => by
    have hxy : x = y := by
      have h1 : x ∈ y :: t := h.mem_iff.mp List.mem_cons_self
      have h2 : y ∈ x :: r := h.mem_iff.mpr List.mem_cons_self
      rcases List.mem_cons.mp h1 with e | h1
      · exact e
      · rcases List.mem_cons.mp h2 with e | h2
        · exact e.symm
        · exact cps_inj (List.le_antisymm (rising_all r x hl y h2) (rising_all t y hm x h1))
    subst hxy
    rw [sort_eq r t (List.Perm.cons_inv h) (rising_tail hl) (rising_tail hm)]
def ok1 (f d : Str) : Bool := Txt.startswith f (d ++ Str.ofString "/") == (inUps f d || (bare d && (d ++ Str.ofString "/" == lead f)))
theorem hit_due {f : Str} : ∀ {es : List Str}, (∀ d ∈ es, ok1 f d = true) → hit es f = due es f
  | [], _ => rfl
  | d :: r, h => by
    have h1 : Txt.startswith f (d ++ Str.ofString "/") = (inUps f d || (bare d && (d ++ Str.ofString "/" == lead f))) := by
      have := h d List.mem_cons_self
      unfold ok1 at this
      exact beq_iff_eq.mp this
    have h2 := hit_due (es := r) fun e he => h e (List.mem_cons_of_mem _ he)
    unfold hit due slashy at h2 ⊢
    rw [List.any_cons, List.any_cons, h2, h1]
    cases hb : bare d with
    | true => rw [List.filter_cons_of_pos hb, List.map_cons, List.any_cons]; cases inUps f d <;> cases (d ++ Str.ofString "/" == lead f) <;> cases r.any (inUps f) <;> simp
    | false => rw [List.filter_cons_of_neg (by rw [hb]; decide)]; cases inUps f d <;> cases r.any (inUps f) <;> simp
theorem base_mem : nrms.contains (Str.ofString "/a/b/ab") = true ∧ nrms.contains (Str.ofString "/a/b") = true := by decide +kernel
/-- a text's letters -/
abbrev tl (x : Str) : List Nat := x.cps.toList
theorem tl_inj {a b : Str} (h : tl a = tl b) : a = b := cps_inj h
def splitL : List Nat → List (List Nat)
  | [] => [[]]
  | c :: r => match splitL r with
    | [] => [[c]]
    | p :: ps => if c = 47 then [] :: p :: ps else (c :: p) :: ps
def joinL : List (List Nat) → List Nat
  | [] => []
  | [p] => p
  | p :: q :: r => p ++ 47 :: joinL (q :: r)
theorem splitL_ne : ∀ l, splitL l ≠ []
  | [] => by simp [splitL]
  | c :: r => by
    unfold splitL
    split
    · simp
    · split <;> simp
theorem splitL_free : ∀ p : List Nat, 47 ∉ p → splitL p = [p]
  | [], _ => rfl
  | c :: r, h => by
    have h1 : c ≠ 47 := fun e => h (e ▸ List.mem_cons_self)
    rw [splitL, splitL_free r fun m => h (List.mem_cons_of_mem _ m)]
    simp only [if_neg h1]
theorem splitL_app (t : List Nat) : ∀ p : List Nat, 47 ∉ p → splitL (p ++ 47 :: t) = p :: splitL t
  | [], _ => by
    rw [List.nil_append, splitL]
    cases h : splitL t with
    | nil => exact absurd h (splitL_ne t)
    | cons q ps => simp
  | c :: r, h => by
    have h1 : c ≠ 47 := fun e => h (e ▸ List.mem_cons_self)
    rw [List.cons_append, splitL, splitL_app t r fun m => h (List.mem_cons_of_mem _ m)]
    simp only [if_neg h1]
theorem splitL_join : ∀ ps : List (List Nat), ps ≠ [] → (∀ p ∈ ps, 47 ∉ p) → splitL (joinL ps) = ps
  | [], h, _ => absurd rfl h
  | [p], _, h => splitL_free p (h p List.mem_cons_self)
  | p :: q :: r, _, h => by
    rw [joinL, splitL_app _ p (h p List.mem_cons_self), splitL_join (q :: r) (by simp) fun d hd => h d (List.mem_cons_of_mem _ hd)]
theorem join_list : ∀ ps : List Str, tl (Str.join ⟨#[47]⟩ ps) = joinL (ps.map tl)
  | [] => rfl
  | [p] => rfl
  | p :: q :: r => by
    have ih := join_list (q :: r)
    show ((p.cps ++ #[47]) ++ (Str.join ⟨#[47]⟩ (q :: r)).cps).toList = _
    rw [Array.toList_append, Array.toList_append, List.append_assoc]
    show tl p ++ ([47] ++ tl (Str.join ⟨#[47]⟩ (q :: r))) = _
    rw [ih]; rfl
theorem slash_is : Str.ofString "/" = ⟨#[47]⟩ := by decide +kernel
theorem split_list (x : Str) : (Txt.split x (Str.ofString "/")).map tl = splitL (tl x) := by
  rw [slash_is]
  have h := congrArg tl (StrLaws.join_split x ⟨#[47]⟩)
  rw [join_list] at h
  rw [← h]
  refine (splitL_join _ ?_ ?_).symm
  · intro e
    have := split_pos x ⟨#[47]⟩
    rw [List.map_eq_nil_iff.mp e] at this
    exact absurd this (by decide)
  · intro p hp
    obtain ⟨q, hq, rfl⟩ := List.mem_map.mp hp
    exact StrLaws.split_free x 47 q hq
def stepL (acc : List (List Nat)) (c : List Nat) : List (List Nat) := if c = [] then acc else if c = [46] then acc else if c ≠ [46, 46] then acc ++ [c] else acc.dropLast
theorem tl_len (c : Str) : (tl c).length = c.length := rfl
theorem eq_tl {c y : Str} {l : List Nat} (e : tl y = l) : (c == y) = decide (tl c = l) := by
  subst e
  rw [Bool.eq_iff_iff, beq_iff_eq, decide_eq_true_eq]
  exact ⟨fun h => by rw [h], tl_inj⟩
theorem dot_is : tl (Str.ofString ".") = [46] := by decide +kernel
theorem dots_is : tl (Str.ofString "..") = [46, 46] := by decide +kernel
theorem slash_tl : tl (Str.ofString "/") = [47] := by rw [slash_is]
theorem nil_tl : tl (Str.ofString "") = [] := by decide +kernel
theorem step_list (acc : List Str) (c : Str) : (normStep acc c).map tl = stepL (acc.map tl) (tl c) := by
  have h0 : ((c.length : Int) = 0) ↔ tl c = [] := by rw [← List.length_eq_zero_iff, tl_len]; omega
  unfold normStep stepL
  simp only [bne, eq_tl dot_is, eq_tl dots_is, decide_eq_true_eq, Bool.not_eq_true', decide_eq_false_iff_not]
  by_cases e0 : tl c = []
  · rw [if_pos (h0.mpr e0), if_pos e0]
  · rw [if_neg (fun q => e0 (h0.mp q)), if_neg e0]
    by_cases e1 : tl c = [46]
    · rw [if_pos e1, if_pos e1]
    · rw [if_neg e1, if_neg e1]
      by_cases e2 : tl c = [46, 46]
      · rw [if_neg (fun q => q e2), if_neg (fun q => q e2), List.map_dropLast]
      · rw [if_pos e2, if_pos e2, List.map_append]; rfl
theorem fold_list : ∀ (cs acc : List Str), (cs.foldl normStep acc).map tl = (cs.map tl).foldl stepL (acc.map tl)
  | [], _ => rfl
  | c :: cs, acc => by rw [List.foldl_cons, fold_list cs, step_list]; rfl
def rootL (l : List Nat) : List Nat := if l.take 1 ≠ [47] then [] else if (l.drop 1).take 1 ≠ [47] then [47] else if (l.drop 2).take 1 = [47] then [47] else l.take 2
def tailL (l : List Nat) : List Nat := if l.take 1 ≠ [47] then l else if (l.drop 1).take 1 ≠ [47] then l.drop 1 else if (l.drop 2).take 1 = [47] then l.drop 1 else l.drop 2
section
variable {x : Str} (h : 3 ≤ x.length)
include h
theorem sl01 : tl (Txt.slice x none (some 1)) = (tl x).take 1 := by
  rw [beq_iff_eq.mp (slice_closes_to (x := x) (j := 1) ⟨by omega, by have e : x.cps.toList.length = x.length := rfl; omega⟩)]; simp
theorem sl02 : tl (Txt.slice x none (some 2)) = (tl x).take 2 := by
  rw [beq_iff_eq.mp (slice_closes_to (x := x) (j := 2) ⟨by omega, by have e : x.cps.toList.length = x.length := rfl; omega⟩)]; simp
theorem sl12 : tl (Txt.slice x (some 1) (some 2)) = ((tl x).drop 1).take 1 := by
  rw [beq_iff_eq.mp (slice_closes (x := x) (i := 1) (j := 2) ⟨by omega, by omega, by have e : x.cps.toList.length = x.length := rfl; omega⟩)]; simp
theorem sl23 : tl (Txt.slice x (some 2) (some 3)) = ((tl x).drop 2).take 1 := by
  rw [beq_iff_eq.mp (slice_closes (x := x) (i := 2) (j := 3) ⟨by omega, by omega, by have e : x.cps.toList.length = x.length := rfl; omega⟩)]; simp
theorem sl1 : tl (Txt.slice x (some 1) none) = (tl x).drop 1 := by
  rw [beq_iff_eq.mp (slice_closes_from (x := x) (i := 1) ⟨by omega, by have e : x.cps.toList.length = x.length := rfl; omega⟩)]
  exact List.take_of_length_le (by simp)
theorem sl2 : tl (Txt.slice x (some 2) none) = (tl x).drop 2 := by
  rw [beq_iff_eq.mp (slice_closes_from (x := x) (i := 2) ⟨by omega, by have e : x.cps.toList.length = x.length := rfl; omega⟩)]
  exact List.take_of_length_le (by simp; omega)
theorem root_list : tl (rootOf x) = rootL (tl x) := by
  unfold rootOf rootL
  simp only [bne, eq_tl slash_tl, decide_eq_true_eq, Bool.not_eq_true', decide_eq_false_iff_not, sl01 h, sl12 h, sl23 h]
  split
  · exact nil_tl
  · split
    · exact slash_tl
    · split
      · exact slash_tl
      · exact sl02 h
theorem tail_list : tl (tailOf x) = tailL (tl x) := by
  unfold tailOf tailL
  simp only [bne, eq_tl slash_tl, decide_eq_true_eq, Bool.not_eq_true', decide_eq_false_iff_not, sl01 h, sl12 h, sl23 h]
  split
  · rfl
  · split
    · exact sl1 h
    · split
      · exact sl1 h
      · exact sl2 h
end
theorem tl_append (a b : Str) : tl (a ++ b) = tl a ++ tl b := Array.toList_append
theorem txtjoin_list (ps : List Str) : tl (Txt.join (Str.ofString "/") ps) = joinL (ps.map tl) := by
  rw [slash_is, ← join_list]
  exact congrArg tl (StrLaws.glued_eq_join _ _)
def nrmL (l : List Nat) : List Nat := rootL l ++ joinL ((splitL (tailL l)).foldl stepL [])
theorem nrm_list {x : Str} (h : 3 ≤ x.length) : tl (nrm x) = nrmL (tl x) := by
  unfold nrm nrmL
  rw [tl_append, root_list h, txtjoin_list]
  unfold normComps compsOf
  rw [fold_list, split_list, tail_list h]
  rfl
abbrev piecesL : List (List Nat) := [[97], [98], [46, 46], [46], [], [97, 98]]
abbrev slashesL : List (List Nat) := [[47], [47, 47]]
theorem pieces_list : pieces.map tl = piecesL := by decide +kernel
theorem slashes_list : slashes.map tl = slashesL := by decide +kernel
theorem getD_tl (l : List Str) (i : Nat) : tl (l.getD i Str.empty) = (l.map tl).getD i [] := by
  rw [List.getD_eq_getElem?_getD, List.getD_eq_getElem?_getD, List.getElem?_map]
  cases l[i]? <;> rfl
def pthL (i j k l : Nat) : List Nat := slashesL.getD i [] ++ (piecesL.getD j [] ++ 47 :: (piecesL.getD k [] ++ 47 :: piecesL.getD l []))
theorem pth_list (i j k l : Nat) : tl (pth i j k l) = pthL i j k l := by
  unfold pth pthL
  rw [tl_append, txtjoin_list, getD_tl, slashes_list]
  simp only [List.map_cons, List.map_nil, getD_tl, pieces_list]
  rfl
/-- what is computed of a path's letters, once: their number, its root, and which of the 80 normal forms is its own -/
noncomputable def pathB (l : List Nat) (m : Nat) : Bool := decide (3 ≤ l.length) && decide (l.length ≤ 16) && !(rootL l).isEmpty && Fast.lEq (nrmL l) (tl (nrms.getD m Str.empty)) && decide (m < 80)
noncomputable def idx4 : List (List (List (List Nat))) := [[[[0, 1, 2, 3, 3, 4], [5, 6, 2, 7, 7, 8], [2, 9, 10, 10, 10, 11], [3, 7, 10, 2, 2, 12], [3, 7, 10, 2, 2, 12], [13, 14, 2, 12, 12, 15]], [[16, 17, 9, 18, 18, 19], [20, 21, 9, 22, 22, 23], [2, 9, 10, 10, 10, 11], [18, 22, 10, 9, 9, 24], [18, 22, 10, 9, 9, 24], [25, 26, 9, 24, 24, 27]], [[3, 7, 10, 2, 2, 12], [18, 22, 10, 9, 9, 24], [2, 9, 10, 10, 10, 11], [2, 9, 10, 10, 10, 11], [2, 9, 10, 10, 10, 11], [28, 29, 10, 11, 11, 30]], [[3, 7, 10, 2, 2, 12], [18, 22, 10, 9, 9, 24], [2, 9, 10, 10, 10, 11], [2, 9, 10, 10, 10, 11], [2, 9, 10, 10, 10, 11], [28, 29, 10, 11, 11, 30]], [[31, 32, 33, 34, 34, 35], [36, 37, 33, 38, 38, 39], [34, 38, 33, 33, 33, 40], [34, 38, 33, 33, 33, 40], [2, 9, 10, 10, 10, 11], [41, 42, 33, 40, 40, 43]], [[44, 45, 11, 28, 28, 46], [47, 48, 11, 29, 29, 49], [2, 9, 10, 10, 10, 11], [28, 29, 10, 11, 11, 30], [28, 29, 10, 11, 11, 30], [50, 51, 11, 30, 30, 52]]], [[[53, 54, 34, 31, 31, 55], [56, 57, 34, 32, 32, 58], [34, 38, 33, 33, 33, 40], [31, 32, 33, 34, 34, 35], [31, 32, 33, 34, 34, 35], [59, 60, 34, 35, 35, 61]], [[62, 63, 38, 36, 36, 64], [65, 66, 38, 37, 37, 67], [34, 38, 33, 33, 33, 40], [36, 37, 33, 38, 38, 39], [36, 37, 33, 38, 38, 39], [68, 69, 38, 39, 39, 70]], [[31, 32, 33, 34, 34, 35], [36, 37, 33, 38, 38, 39], [34, 38, 33, 33, 33, 40], [34, 38, 33, 33, 33, 40], [34, 38, 33, 33, 33, 40], [41, 42, 33, 40, 40, 43]], [[31, 32, 33, 34, 34, 35], [36, 37, 33, 38, 38, 39], [34, 38, 33, 33, 33, 40], [34, 38, 33, 33, 33, 40], [34, 38, 33, 33, 33, 40], [41, 42, 33, 40, 40, 43]], [[3, 7, 10, 2, 2, 12], [18, 22, 10, 9, 9, 24], [2, 9, 10, 10, 10, 11], [2, 9, 10, 10, 10, 11], [2, 9, 10, 10, 10, 11], [28, 29, 10, 11, 11, 30]], [[71, 72, 40, 41, 41, 73], [74, 75, 40, 42, 42, 76], [34, 38, 33, 33, 33, 40], [41, 42, 33, 40, 40, 43], [41, 42, 33, 40, 40, 43], [77, 78, 40, 43, 43, 79]]]]
noncomputable def at4 (i j k l : Nat) : Nat := (((idx4.getD i []).getD j []).getD k []).getD l 80
theorem paths_all : ((List.range 2).all fun i => (List.range 6).all fun j => (List.range 6).all fun k => (List.range 6).all fun l => pathB (pthL i j k l) (at4 i j k l)) = true := by decide +kernel
theorem paths_mem {x : Str} (h : x ∈ paths) : ∃ i < 2, ∃ j < 6, ∃ k < 6, ∃ l < 6, x = pth i j k l := by
  unfold paths at h
  simp only [List.mem_flatMap, List.mem_map, List.mem_range] at h
  obtain ⟨i, hi, j, hj, k, hk, l, hl, e⟩ := h
  exact ⟨i, hi, j, hj, k, hk, l, hl, e.symm⟩
theorem nrms_len : nrms.length = 80 ∧ nrms.all (fun f => decide (f.length ≤ 16)) = true := by decide +kernel
theorem path_facts {x : Str} (h : x ∈ paths) : 3 ≤ x.length ∧ x.length ≤ 16 ∧ 0 < (rootOf x).length ∧ nrm x ∈ nrms := by
  obtain ⟨i, hi, j, hj, k, hk, l, hl, rfl⟩ := paths_mem h
  have hm := List.all_eq_true.mp (List.all_eq_true.mp (List.all_eq_true.mp (List.all_eq_true.mp paths_all i (List.mem_range.mpr hi)) j (List.mem_range.mpr hj)) k (List.mem_range.mpr hk)) l (List.mem_range.mpr hl)
  rw [← pth_list] at hm
  generalize at4 i j k l = m at hm
  generalize pth i j k l = x at hm ⊢
  unfold pathB at hm
  simp only [Bool.and_eq_true, decide_eq_true_eq, Bool.not_eq_true'] at hm
  obtain ⟨⟨⟨⟨h1, h2⟩, h3⟩, h4⟩, h5⟩ := hm
  have h1' : 3 ≤ x.length := h1
  refine ⟨h1', h2, ?_, ?_⟩
  · rw [← tl_len, root_list h1']
    cases hr : rootL (tl x) with
    | nil => rw [hr] at h3; cases h3
    | cons a r => simp
  · rw [tl_inj ((nrm_list h1').trans (Fast.lEq_iff.mp h4))]
    have h5' : m < nrms.length := by rw [nrms_len.1]; exact h5
    rw [List.getD_eq_getElem?_getD, List.getElem?_eq_getElem h5']
    exact List.getElem_mem h5'
theorem nrm_mem {x : Str} (h : x ∈ paths) : nrm x ∈ nrms := (path_facts h).2.2.2
theorem tail_le (x : Str) : (tailOf x).length ≤ x.length := by
  unfold tailOf
  split
  · exact Nat.le_refl _
  · split
    · exact Txt.slice_le _ _ _
    · split
      · exact Txt.slice_le _ _ _
      · exact Txt.slice_le _ _ _
theorem step_sub {acc : List Str} {c d : Str} (h : d ∈ normStep acc c) : d ∈ acc ∨ d = c := by
  unfold normStep at h
  split at h
  · exact .inl h
  · split at h
    · exact .inl h
    · split at h
      · rcases List.mem_append.mp h with h | h
        · exact .inl h
        · exact .inr (List.mem_singleton.mp h)
      · exact .inl (List.dropLast_subset _ h)
theorem fold_sub (cs : List Str) : ∀ acc, ∀ d ∈ cs.foldl normStep acc, d ∈ acc ∨ d ∈ cs := by
  induction cs with
  | nil => intro acc d h; exact .inl h
  | cons c cs ih =>
    intro acc d h
    rcases ih _ d h with h | h
    · rcases step_sub h with h | rfl
      · exact .inl h
      · exact .inr List.mem_cons_self
    · exact .inr (List.mem_cons_of_mem _ h)
theorem sum_le (l : List Str) (h : ∀ c ∈ l, c.length ≤ 16) : (l.map (·.length)).sum ≤ 16 * l.length := by
  induction l with
  | nil => simp
  | cons c l ih =>
    have h1 := ih fun d hd => h d (List.mem_cons_of_mem _ hd)
    have h2 := h c List.mem_cons_self
    simp only [List.map_cons, List.sum_cons, List.length_cons]
    omega
theorem append_length (a b : Str) : (a ++ b).length = a.length + b.length := Array.size_append
theorem path_ok {x : Str} (h : x ∈ paths) : PathOk x := by
  obtain ⟨h1, h2, h3, h4⟩ := path_facts h
  have hn : (nrm x).length ≤ 16 := of_decide_eq_true (List.all_eq_true.mp nrms_len.2 _ h4)
  have ht := tail_le x
  have hc : (compsOf x).length ≤ (tailOf x).length + 2 := split_le _ _
  have he : ∀ c ∈ compsOf x, c.length ≤ (tailOf x).length := fun c hc => part_short hc
  have hf : (normComps x).length ≤ (compsOf x).length := by simpa [normComps] using fold_len (compsOf x) []
  have hs := sum_le (normComps x) fun c hc => by
    rcases fold_sub _ _ c hc with h | h
    · cases h
    · have := he c h; omega
  have ha : (nrm x).length = (rootOf x).length + (Txt.join (Str.ofString "/") (normComps x)).length := append_length _ _
  exact ⟨by omega, by omega, by omega, by omega, by omega, fun c hc => by have := he c hc; omega, by omega, by omega, by omega⟩
theorem starts_list (x y : Str) : Txt.startswith x y = (tl y).isPrefixOf (tl x) := by
  rw [Bool.eq_iff_iff, List.isPrefixOf_iff_prefix]
  unfold Txt.startswith Builtin.Str.subAt
  simp only [Bool.and_eq_true, decide_eq_true_eq, beq_iff_eq, Nat.zero_add]
  constructor
  · rintro ⟨-, h⟩
    have e : tl y = (tl x).take y.length := by
      have := congrArg Array.toList h
      simpa [Array.toList_extract] using this.symm
    rw [e]; exact List.take_prefix _ _
  · rintro ⟨r, h⟩
    have hl : (tl y).length + r.length = (tl x).length := by rw [← h, List.length_append]
    refine ⟨by rw [tl_len, tl_len] at hl; omega, Array.toList_inj.mp ?_⟩
    have : (tl x).take y.length = tl y := by rw [← h, ← tl_len]; simp
    simpa [Array.toList_extract] using this
theorem beq_sEq (a b : Str) : (a == b) = Fast.sEq a b := by rw [Bool.eq_iff_iff, beq_iff_eq, Fast.sEq_iff]
noncomputable def nfm (i : Nat) : Str := nrms.getD i Str.empty
noncomputable def dirs : List Nat := [3, 3, 10, 2, 3, 7, 7, 2, 7, 10, 10, 10, 2, 12, 12, 12, 18, 18, 9, 18, 22, 22, 9, 22, 9, 24, 24, 24, 11, 11, 11, 34, 34, 33, 33, 34, 38, 38, 33, 38, 33, 40, 40, 40, 28, 28, 28, 29, 29, 29, 30, 30, 30, 31, 31, 31, 32, 32, 32, 35, 35, 35, 36, 36, 36, 37, 37, 37, 39, 39, 39, 41, 41, 41, 42, 42, 42, 43, 43, 43]
noncomputable def nfd (i : Nat) : Nat := dirs.getD i 80
noncomputable def upsI : Nat → Nat → List Nat
  | 0, _ => []
  | n + 1, i => if nfd i = i then [] else nfd i :: upsI n (nfd i)
noncomputable def endsI : Nat → Nat → Bool
  | 0, i => Nat.beq (nfd i) i
  | n + 1, i => Nat.beq (nfd i) i || endsI n (nfd i)
noncomputable def oneB (p : Str × Nat) : Bool := Fast.sEq (dirOf p.1) (nfm (nfd p.2)) && decide (nfd p.2 < 80) && decide (p.1.length ≤ 100) && PyData.strOk p.1 && endsI 8 p.2
noncomputable def twoB (p q : Str × Nat) : Bool := (Fast.sEq p.1 q.1 == Nat.beq p.2 q.2) && (List.isPrefixOf (tl q.1 ++ [47]) (tl p.1) == (((upsI 8 p.2).any fun a => Nat.beq a q.2) && !bare q.1 || (bare q.1 && Fast.sEq (q.1 ++ Str.ofString "/") (lead p.1))))
theorem one_all : nrms.zipIdx.all oneB = true := by decide +kernel
theorem two_all : nrms.zipIdx.all (fun p => nrms.zipIdx.all (twoB p)) = true := by decide +kernel
theorem mem_N {f : Str} (h : f ∈ nrms) : ∃ i, (f, i) ∈ nrms.zipIdx := by
  obtain ⟨i, hi⟩ := List.mem_iff_getElem?.mp h
  exact ⟨i, List.mem_zipIdx_iff_getElem?.mpr hi⟩
theorem N_of {f : Str} {i : Nat} (h : (f, i) ∈ nrms.zipIdx) : nfm i = f := by
  unfold nfm
  rw [List.getD_eq_getElem?_getD, List.mem_zipIdx_iff_getElem?.mp h]; rfl
theorem N_mem {i : Nat} (h : i < 80) : (nfm i, i) ∈ nrms.zipIdx := by
  have h' : i < nrms.length := by rw [nrms_len.1]; exact h
  refine List.mem_zipIdx_iff_getElem?.mpr ?_
  show nrms[i]? = some (nfm i)
  unfold nfm
  rw [List.getD_eq_getElem?_getD, List.getElem?_eq_getElem h']; rfl
theorem nf_one {f : Str} {i : Nat} (h : (f, i) ∈ nrms.zipIdx) : dirOf f = nfm (nfd i) ∧ nfd i < 80 ∧ f.length ≤ 100 ∧ PyData.strOk f = true ∧ endsI 8 i = true := by
  have h1 := List.all_eq_true.mp one_all _ h
  unfold oneB at h1
  simp only [Bool.and_eq_true, decide_eq_true_eq] at h1
  exact ⟨Fast.sEq_iff.mp h1.1.1.1.1, h1.1.1.1.2, h1.1.1.2, h1.1.2, h1.2⟩
theorem nf_two {f d : Str} {i j : Nat} (h : (f, i) ∈ nrms.zipIdx) (h' : (d, j) ∈ nrms.zipIdx) : (f == d) = Nat.beq i j ∧
    Txt.startswith f (d ++ Str.ofString "/") = (((upsI 8 i).any fun a => Nat.beq a j) && !bare d || (bare d && (d ++ Str.ofString "/" == lead f))) := by
  have h1 := List.all_eq_true.mp (List.all_eq_true.mp two_all _ h) _ h'
  unfold twoB at h1
  rw [Bool.and_eq_true, beq_iff_eq, beq_iff_eq] at h1
  rw [beq_sEq, beq_sEq, starts_list, tl_append, slash_tl]
  exact h1
theorem beq_N {i j : Nat} (hi : i < 80) (hj : j < 80) : (nfm i == nfm j) = Nat.beq i j := (nf_two (N_mem hi) (N_mem hj)).1
theorem ups_N : ∀ (n : Nat) {i : Nat}, i < 80 → ups n (nfm i) = (upsI n i).map nfm ∧ ∀ a ∈ upsI n i, a < 80
  | 0, i, _ => ⟨rfl, fun a h => by cases h⟩
  | n + 1, i, hi => by
    obtain ⟨hd, hl, -⟩ := nf_one (N_mem hi)
    have hb : (dirOf (nfm i) == nfm i) = Nat.beq (nfd i) i := by rw [hd]; exact beq_N hl hi
    have ih := ups_N n hl
    unfold ups upsI
    simp only [bne, hb]
    by_cases e : nfd i = i
    · rw [if_pos e, if_neg (by rw [e]; simp)]
      exact ⟨rfl, fun a h => by cases h⟩
    · rw [if_neg e, if_pos (by cases hq : Nat.beq (nfd i) i with | true => exact absurd (Nat.eq_of_beq_eq_true hq) e | false => rfl), hd, ih.1]
      refine ⟨rfl, fun a ha => ?_⟩
      rcases List.mem_cons.mp ha with rfl | ha
      · exact hl
      · exact ih.2 a ha
theorem ends_N : ∀ (n : Nat) {i : Nat}, i < 80 → endsI n i = true → ends n (nfm i) = true
  | 0, i, hi, h => by
    obtain ⟨hd, hl, hn, -⟩ := nf_one (N_mem hi)
    unfold ends
    rw [hd, beq_N hl hi, Bool.and_eq_true, decide_eq_true_eq]
    exact ⟨hn, h⟩
  | n + 1, i, hi, h => by
    obtain ⟨hd, hl, hn, -⟩ := nf_one (N_mem hi)
    unfold ends
    rw [hd, beq_N hl hi, Bool.and_eq_true, decide_eq_true_eq]
    refine ⟨hn, ?_⟩
    unfold endsI at h
    rw [Bool.or_eq_true] at h ⊢
    exact h.imp id (ends_N n hl)
theorem lt_of {f : Str} {i : Nat} (h : (f, i) ∈ nrms.zipIdx) : i < 80 := by
  have h1 := (List.getElem?_eq_some_iff.mp (List.mem_zipIdx_iff_getElem?.mp h)).1
  rw [nrms_len.1] at h1; exact h1
theorem dom {f : Str} (h : f ∈ nrms) : ends 8 f = true ∧ PyData.strOk f = true ∧ ∀ d ∈ nrms, ok1 f d = true := by
  obtain ⟨i, hi⟩ := mem_N h
  have hl := lt_of hi
  obtain ⟨-, -, -, hs, he⟩ := nf_one hi
  have e := N_of hi
  refine ⟨e ▸ ends_N 8 hl he, hs, fun d hd => ?_⟩
  obtain ⟨j, hj⟩ := mem_N hd
  have hu := ups_N 8 hl
  rw [e] at hu
  have ha : ((ups 8 f).any (· == d)) = (upsI 8 i).any fun a => Nat.beq a j := by
    rw [hu.1, List.any_map]
    rw [Bool.eq_iff_iff, List.any_eq_true, List.any_eq_true]
    refine exists_congr fun a => and_congr_right fun m => ?_
    show (nfm a == d) = true ↔ _
    rw [← N_of hj, beq_N (hu.2 a m) (lt_of hj)]
  unfold ok1 inUps
  rw [(nf_two hi hj).2, ha]
  exact beq_self_eq_true _
theorem file_mem {dr : List Int} {f : Str} (h : f ∈ filesOf dr) : f ∈ nrms := by
  unfold filesOf at h
  rcases List.mem_append.mp h with h | h
  · simp only [List.mem_cons, List.not_mem_nil, or_false] at h
    rcases h with rfl | rfl | rfl
    · exact List.contains_iff_mem.mp base_mem.1
    · exact List.contains_iff_mem.mp base_mem.2
    · exact List.contains_iff_mem.mp base_mem.1
  · obtain ⟨n, _, rfl⟩ := List.mem_map.mp h
    exact nrm_mem (lawPath_mem n)
theorem out_mem {dr : List Int} {e : Str} (h : e ∈ (outOf dr).map nrm) : e ∈ nrms := by
  obtain ⟨d, hd, rfl⟩ := List.mem_map.mp h
  obtain ⟨n, _, rfl⟩ := List.mem_map.mp hd
  exact nrm_mem (lawPath_mem n)
theorem files_ends (dr : List Int) : ∀ f ∈ filesOf dr, ends 8 f = true := fun f hf => (dom (file_mem hf)).1
theorem files_ok (dr : List Int) : (filesOf dr).all PyData.strOk = true := List.all_eq_true.mpr fun f hf => (dom (file_mem hf)).2.1
theorem out_ok (dr : List Int) : ∀ d ∈ outOf dr, PathOk d := fun d hd => by
  obtain ⟨n, _, rfl⟩ := List.mem_map.mp hd
  exact path_ok (lawPath_mem n)
theorem out_len (dr : List Int) : ∀ e ∈ (outOf dr).map nrm, e.length ≤ 100 := fun e he => ends_len (dom (out_mem he)).1
theorem out_strOk (dr : List Int) : ((outOf dr).map nrm).all PyData.strOk = true := List.all_eq_true.mpr fun f hf => (dom (out_mem hf)).2.1
theorem plain (dr : List Int) (ss1 ss2 : List Str) (p1 : ss1.Perm (uld (filesOf dr) ((filesOf dr).filter fun f => !hit ((outOf dr).map nrm) f)).1) (s1 : sortedS ss1 = true) (p2 : ss2.Perm ((filesOf dr).filter (due ((outOf dr).map nrm)))) (s2 : sortedS ss2 = true) :
    datum true (uld ((filesOf dr).filter fun f => !hit ((outOf dr).map nrm) f) ((filesOf dr).filter fun f => !hit ((outOf dr).map nrm) f)).1 (uld ((filesOf dr).filter fun f => !hit ((outOf dr).map nrm) f) ((filesOf dr).filter fun f => !hit ((outOf dr).map nrm) f)).2 ss1 (uld (filesOf dr) ((filesOf dr).filter fun f => !hit ((outOf dr).map nrm) f)).2 = datum true [] [] ss2 [] := by
  rw [uld_filter] at p1 ⊢
  rw [uld_self]
  have e : ss1 = ss2 := by
    refine sort_eq _ _ (p1.trans (List.Perm.trans ?_ p2.symm)) s1 s2
    have e2 : (filesOf dr).filter (due ((outOf dr).map nrm)) = (filesOf dr).filter (fun f => !!hit ((outOf dr).map nrm) f) :=
      List.filter_congr fun f hf => by rw [Bool.not_not]; exact (hit_due fun d hd => (dom (file_mem hf)).2.2 d (out_mem hd)).symm
    rw [e2]
    exact (List.reverse_perm _).filter _
  rw [e]
theorem eqvAll_strs : ∀ l : List Str, PyData.eqvAll (l.map PyData.str) (l.map PyData.str) = true
  | [] => by simp [PyData.eqvAll]
  | x :: r => by simp [PyData.eqvAll, PyData.eqv, eqvAll_strs r]
theorem datum_eqv (b : Bool) (m1 m2 ss more : List Str) : PyData.eqv (datum b m1 m2 ss more) (datum b m1 m2 ss more) = true := by
  simp [datum, PyData.eqv, PyData.eqvAll, eqvAll_strs]
theorem datum_shaped (b : Bool) (m1 m2 ss more : List Str) (h1 : m1.all PyData.strOk = true) (h2 : m2.all PyData.strOk = true) (h3 : ss.all PyData.strOk = true) (h4 : more.all PyData.strOk = true) : SeqAt.shaped (datum b m1 m2 ss more) = true := by
  simp [SeqAt.shaped, datum, PyData.canLay0, PyData.canLayAll0, PyData.depth, PyData.depthAll, strs_canLay _ h1, strs_canLay _ h2, strs_canLay _ h3, strs_canLay _ h4, strs_depth]

theorem law_go {w : World} {L : Addr} {env : Env} {body : List Stmt} {A : Around} {s : Shared} {g : Heap} {Q : Flow → Shared → Prop} {E : Value → Shared → Prop} {m : Str → Option Value} (_ : Fr g L s.heap m) (H : Ar 20 A env [] L) (hQ : ∀ h' tk m', Fr g L h' m' → Q (.ret (.bool true)) { s with heap := h', toks := tk })
    (h : ∀ A' Q', Ar 20 A' env [] L → (∀ h' tk m', Fr g L h' m' → Q' (.ret (.bool true)) { s with heap := h', toks := tk }) → wpAny (model Challenge.rw_nq0069_01.row.prog w) A' (execs body env) Q' (fun _ _ => False) s) : wpAny (model Challenge.rw_nq0069_01.row.prog w) A (execs body env) Q E s :=
  wpAny_mono (h A Q H hQ) (fun _ _ x => x) fun _ _ x => x.elim
theorem src_ints {vs : List Value} {ns : List Int} (h : IntsAre vs ns) : ∀ (i : Nat) v, vs[i]? = some v → ∃ a t, v = Value.int a t ∧ ns[i]? = some a := by
  induction h with
  | nil => intro i v h; cases h
  | cons n t r ih =>
    intro i v h
    cases i with
    | zero => exact ⟨n, t, (Option.some.inj h).symm, rfl⟩
    | succ i => exact ih i v h
theorem ints_len {vs : List Value} {ns : List Int} (h : IntsAre vs ns) : vs.length = ns.length := by
  induction h with
  | nil => rfl
  | cons n t r ih => simp [ih]
section
variable {prog : Program} {w : World} {A : Around} {E : Value → Shared → Prop} {s : Shared} {h₀ : Heap} {L a b : Addr} {m : Str → Option Value} {news : List (Addr × Obj)} {vs us : List Value} {n k : Nat} {Q : Value → Shared → Prop}
theorem cat_T (F : Fr h₀ L s.heap m) (N : News h₀ L s.heap news) (ha : (a, listOf vs.toArray n) ∈ news) (hb : (b, listOf us.toArray k) ∈ news) (hz : vs.length + us.length ≤ 100000)
    (h : ∀ D h', Fr h₀ L h' m → News h₀ L h' ((D, listOf (vs ++ us).toArray 0) :: news) → (∀ p ∈ news, p.1 < D) → Q (.ref D) { s with heap := h' }) : wpAny (model prog w) A (binaryOp .Add (.ref a) (.ref b)) Q E s :=
  kmk_add_lit F N ⟨_, (N _ ha).1, rfl, _, rfl⟩ ⟨_, (N _ hb).1, rfl, _, rfl⟩ rfl h (by simpa using line_of hz)
end
theorem draw_facts {ws : List Value} {ns : List Int} {k : Nat} (h : IntsAre ws ([7, 600, 44, 7, 3] ++ ns)) (h6 : ns.length = min 6 k) : ∃ dr, IntsAre ws dr ∧ (600 : Int) ∈ dr ∧ dr.length ≤ 11 :=
  ⟨_, h, by simp, by rw [List.length_append, h6]; simp only [List.length_cons, List.length_nil]; omega⟩
theorem law_holds : Challenge.rw_nq0069_01.Holds := hd (by
  w_top off
  k_go0
  with_reducible rename Fr _ _ _ _ => F
  with_reducible rename News _ _ _ _ => N
  with_reducible rename Below _ _ _ _ => B
  with_reducible rename Top _ _ _ _ _ _ => T
  with_reducible rename Frag.In _ _ => X
  refine law_go F ⟨rfl, rfl, rfl, rfl, Nat.le_of_ble_eq_true rfl, Nat.le_of_ble_eq_true rfl⟩ ?_ ?_
  · intro h' tk m' F'
    clear F N
    dsimp only
    first | (wrow_close; done) | (k_end; wrow_close; done)
  intro A Q H hQ
  dsimp only at F H ⊢
  have hh := H.handled
  repeat' (first | ((fail_if_success (first | (with_reducible show wpAny _ _ (exec (Stmt.While _ _ _ _) _) _ _ _) | (with_reducible show wpAny _ _ (exec (Stmt.For _ _ _ _ _) _) _ _ _) | (with_reducible show wpAny _ _ (exec (Stmt.Try _ _ _ _ _) _) _ _ _) | (with_reducible show wpAny _ _ (eval (Expr.ListComp _ _ _ _) _) _ _ _) | (with_reducible show wpAny _ _ (exec (Stmt.Assign _ (Expr.ListComp _ _ _ _) _) _) _ _ _) | (with_reducible show wpAny _ _ (call (Value.ref _) _) _ _ _) | (with_reducible show Exists _))); walk1) | (dsimp only; first | ((fail_if_success (first | (with_reducible show wpAny _ _ (exec (Stmt.While _ _ _ _) _) _ _ _) | (with_reducible show wpAny _ _ (exec (Stmt.For _ _ _ _ _) _) _ _ _) | (with_reducible show wpAny _ _ (exec (Stmt.Try _ _ _ _ _) _) _ _ _) | (with_reducible show wpAny _ _ (eval (Expr.ListComp _ _ _ _) _) _ _ _) | (with_reducible show wpAny _ _ (exec (Stmt.Assign _ (Expr.ListComp _ _ _ _) _) _) _ _ _) | (with_reducible show wpAny _ _ (call (Value.ref _) _) _ _ _) | (with_reducible show Exists _))); walk1)) | fail "no step")
  with_reducible rename Fr _ _ _ _ => F1
  with_reducible rename News _ _ _ _ => N1
  rename (IntsAre _ (_ ++ _)) => hDr
  rename (List.length (List.take 6 _) = _) => h6
  replace hDr := draw_facts hDr h6
  obtain ⟨dr, hDr, h600, hdr⟩ := hDr
  have hdl := ints_len hDr
  k_dflt (refine LCt.ListComp_T (F₀ := F1) (by with_unfolding_all rfl) (by decide) (by rfl) (by decide) (by rfl) ?_)
  walk1
  refine LCt.CompSrcT.ledger hh F1 N1 (by k_mem) (by simpa using line_of (by omega)) ?_
  intro g1
  dsimp only
  refine comp_filter1 Value.int odd (fun n => nrm (lawPath n)) (ints_len hDr) (src_ints hDr) (.inr ⟨_, by k_mem, rfl, _, rfl⟩) ?_ ?_
  · intro d t I oI C oC D' m₂ ys h tk E' hd hC hx F2 N2 off ne
    clear F1 N1
    dsimp only
    repeat' (first | ((fail_if_success (first | (with_reducible show wpAny _ _ (exec (Stmt.While _ _ _ _) _) _ _ _) | (with_reducible show wpAny _ _ (exec (Stmt.For _ _ _ _ _) _) _ _ _) | (with_reducible show wpAny _ _ (exec (Stmt.Try _ _ _ _ _) _) _ _ _) | (with_reducible show wpAny _ _ (eval (Expr.ListComp _ _ _ _) _) _ _ _) | (with_reducible show wpAny _ _ (exec (Stmt.Assign _ (Expr.ListComp _ _ _ _) _) _) _ _ _) | (with_reducible show wpAny _ _ (call (Value.ref _) _) _ _ _) | (with_reducible show Exists _))); walk1) | (dsimp only; first | ((fail_if_success (first | (with_reducible show wpAny _ _ (exec (Stmt.While _ _ _ _) _) _ _ _) | (with_reducible show wpAny _ _ (exec (Stmt.For _ _ _ _ _) _) _ _ _) | (with_reducible show wpAny _ _ (exec (Stmt.Try _ _ _ _ _) _) _ _ _) | (with_reducible show wpAny _ _ (eval (Expr.ListComp _ _ _ _) _) _ _ _) | (with_reducible show wpAny _ _ (exec (Stmt.Assign _ (Expr.ListComp _ _ _ _) _) _) _ _ _) | (with_reducible show wpAny _ _ (call (Value.ref _) _) _ _ _) | (with_reducible show Exists _))); walk1)) | fail "no step")
    refine TestEnd.intro () rfl trivial (by assumption) (by assumption) (fun _ h => h) off ?_
    intro _ N6 E6
    clear N2
    have okd := path_ok (lawPath_mem d)
    repeat' (first | ((with_reducible show wpAny _ _ (call (Value.ref 198) [Value.int _ _]) _ _ _); k_dflt (refine' Ctr.use (lawpath_ctr _ _ _ _ _ _ _) (by assumption) (by decide) (by assumption) (by k_asm) (by assumption) (by k_asm) (by assumption) ?_); rintro v' nw' h' tk' ⟨hn', tS, hv'⟩ F' N'; cases hv'; cases hn'; (try dsimp only)) | ((with_reducible show wpAny _ _ (call (Value.ref 129) [Value.str _ _]) _ _ _); k_dflt (refine' Ctr.use (normpath_ctr _ _ _ _ _ _ _ (by assumption)) (by assumption) (by decide) (by assumption) (by k_asm) (by assumption) (by k_asm) (by assumption) ?_); rintro v' nw' h' tk' ⟨hn', tS, hv'⟩ F' N'; cases hv'; cases hn'; (try dsimp only)) | ((fail_if_success (first | (with_reducible show wpAny _ _ (exec (Stmt.While _ _ _ _) _) _ _ _) | (with_reducible show wpAny _ _ (exec (Stmt.For _ _ _ _ _) _) _ _ _) | (with_reducible show wpAny _ _ (exec (Stmt.Try _ _ _ _ _) _) _ _ _) | (with_reducible show wpAny _ _ (eval (Expr.ListComp _ _ _ _) _) _ _ _) | (with_reducible show wpAny _ _ (exec (Stmt.Assign _ (Expr.ListComp _ _ _ _) _) _) _ _ _) | (with_reducible show wpAny _ _ (call (Value.ref _) _) _ _ _) | (with_reducible show Exists _))); walk1) | (dsimp only; first | ((with_reducible show wpAny _ _ (call (Value.ref 198) [Value.int _ _]) _ _ _); k_dflt (refine' Ctr.use (lawpath_ctr _ _ _ _ _ _ _) (by assumption) (by decide) (by assumption) (by k_asm) (by assumption) (by k_asm) (by assumption) ?_); rintro v' nw' h' tk' ⟨hn', tS, hv'⟩ F' N'; cases hv'; cases hn'; (try dsimp only)) | ((with_reducible show wpAny _ _ (call (Value.ref 129) [Value.str _ _]) _ _ _); k_dflt (refine' Ctr.use (normpath_ctr _ _ _ _ _ _ _ (by assumption)) (by assumption) (by decide) (by assumption) (by k_asm) (by assumption) (by k_asm) (by assumption) ?_); rintro v' nw' h' tk' ⟨hn', tS, hv'⟩ F' N'; cases hv'; cases hn'; (try dsimp only)) | ((fail_if_success (first | (with_reducible show wpAny _ _ (exec (Stmt.While _ _ _ _) _) _ _ _) | (with_reducible show wpAny _ _ (exec (Stmt.For _ _ _ _ _) _) _ _ _) | (with_reducible show wpAny _ _ (exec (Stmt.Try _ _ _ _ _) _) _ _ _) | (with_reducible show wpAny _ _ (eval (Expr.ListComp _ _ _ _) _) _ _ _) | (with_reducible show wpAny _ _ (exec (Stmt.Assign _ (Expr.ListComp _ _ _ _) _) _) _ _ _) | (with_reducible show wpAny _ _ (call (Value.ref _) _) _ _ _) | (with_reducible show Exists _))); walk1)) | fail "no step")
    exact ⟨_, _, _, rfl, rfl, by assumption, by assumption⟩
  · intro ys1 hY1 D1 h1 tk1 F2 N2 off1
    clear F1 N1
    have hyl1 : ys1.length ≤ 11 := by
      have q1 := strs_len hY1
      have q2 := ints_len hDr
      rw [List.length_map] at q1
      have q3 := List.length_filter_le odd dr
      omega
    dsimp only
    repeat' (first | ((with_reducible show wpAny _ _ (binaryOp Operator.Add (Value.ref _) (Value.ref _)) _ _ _); k_dflt (refine cat_T (by k_asm) (by k_asm) (by k_mem) (by k_mem) ?z ?_; (case z => first | omega | (simp only [List.length_cons, List.length_nil]; omega))); intro DF hF FF NF lF) | ((fail_if_success (first | (with_reducible show wpAny _ _ (exec (Stmt.While _ _ _ _) _) _ _ _) | (with_reducible show wpAny _ _ (exec (Stmt.For _ _ _ _ _) _) _ _ _) | (with_reducible show wpAny _ _ (exec (Stmt.Try _ _ _ _ _) _) _ _ _) | (with_reducible show wpAny _ _ (eval (Expr.ListComp _ _ _ _) _) _ _ _) | (with_reducible show wpAny _ _ (exec (Stmt.Assign _ (Expr.ListComp _ _ _ _) _) _) _ _ _) | (with_reducible show wpAny _ _ (call (Value.ref _) _) _ _ _) | (with_reducible show Exists _))); walk1) | (dsimp only; first | ((with_reducible show wpAny _ _ (binaryOp Operator.Add (Value.ref _) (Value.ref _)) _ _ _); k_dflt (refine cat_T (by k_asm) (by k_asm) (by k_mem) (by k_mem) ?z ?_; (case z => first | omega | (simp only [List.length_cons, List.length_nil]; omega))); intro DF hF FF NF lF) | ((fail_if_success (first | (with_reducible show wpAny _ _ (exec (Stmt.While _ _ _ _) _) _ _ _) | (with_reducible show wpAny _ _ (exec (Stmt.For _ _ _ _ _) _) _ _ _) | (with_reducible show wpAny _ _ (exec (Stmt.Try _ _ _ _ _) _) _ _ _) | (with_reducible show wpAny _ _ (eval (Expr.ListComp _ _ _ _) _) _ _ _) | (with_reducible show wpAny _ _ (exec (Stmt.Assign _ (Expr.ListComp _ _ _ _) _) _) _ _ _) | (with_reducible show wpAny _ _ (call (Value.ref _) _) _ _ _) | (with_reducible show Exists _))); walk1)) | fail "no step")
    with_reducible rename Fr _ _ _ _ => F3
    with_reducible rename News _ _ _ _ => N3
    k_dflt (refine LCt.Assign_ListComp_T (F₀ := F3) (by rfl) (by with_unfolding_all rfl) (by with_unfolding_all rfl) (by decide) (by rfl) (by decide) (by rfl) (by rfl) (by rfl) ?_)
    walk1
    refine LCt.CompSrcT.ledger hh F3 N3 (by k_mem) (by simpa using line_of (by omega)) ?_
    intro g2
    dsimp only
    refine comp_filter1 Value.int even lawPath (ints_len hDr) (src_ints hDr) (.inr ⟨_, by k_mem, rfl, _, rfl⟩) ?_ ?_
    · intro d t I oI C oC D' m₂ ys h tk E' hd hC hx F4 N4 off ne
      clear F3 N3
      dsimp only
      repeat' (first | ((fail_if_success (first | (with_reducible show wpAny _ _ (exec (Stmt.While _ _ _ _) _) _ _ _) | (with_reducible show wpAny _ _ (exec (Stmt.For _ _ _ _ _) _) _ _ _) | (with_reducible show wpAny _ _ (exec (Stmt.Try _ _ _ _ _) _) _ _ _) | (with_reducible show wpAny _ _ (eval (Expr.ListComp _ _ _ _) _) _ _ _) | (with_reducible show wpAny _ _ (exec (Stmt.Assign _ (Expr.ListComp _ _ _ _) _) _) _ _ _) | (with_reducible show wpAny _ _ (call (Value.ref _) _) _ _ _) | (with_reducible show Exists _))); walk1) | (dsimp only; first | ((fail_if_success (first | (with_reducible show wpAny _ _ (exec (Stmt.While _ _ _ _) _) _ _ _) | (with_reducible show wpAny _ _ (exec (Stmt.For _ _ _ _ _) _) _ _ _) | (with_reducible show wpAny _ _ (exec (Stmt.Try _ _ _ _ _) _) _ _ _) | (with_reducible show wpAny _ _ (eval (Expr.ListComp _ _ _ _) _) _ _ _) | (with_reducible show wpAny _ _ (exec (Stmt.Assign _ (Expr.ListComp _ _ _ _) _) _) _ _ _) | (with_reducible show wpAny _ _ (call (Value.ref _) _) _ _ _) | (with_reducible show Exists _))); walk1)) | fail "no step")
      refine TestEnd.intro () rfl trivial (by assumption) (by assumption) (fun _ h => h) off ?_
      intro _ N6 E6
      clear N4
      repeat' (first | ((with_reducible show wpAny _ _ (call (Value.ref 198) [Value.int _ _]) _ _ _); k_dflt (refine' Ctr.use (lawpath_ctr _ _ _ _ _ _ _) (by assumption) (by decide) (by assumption) (by k_asm) (by assumption) (by k_asm) (by assumption) ?_); rintro v' nw' h' tk' ⟨hn', tS, hv'⟩ F' N'; cases hv'; cases hn'; (try dsimp only)) | ((fail_if_success (first | (with_reducible show wpAny _ _ (exec (Stmt.While _ _ _ _) _) _ _ _) | (with_reducible show wpAny _ _ (exec (Stmt.For _ _ _ _ _) _) _ _ _) | (with_reducible show wpAny _ _ (exec (Stmt.Try _ _ _ _ _) _) _ _ _) | (with_reducible show wpAny _ _ (eval (Expr.ListComp _ _ _ _) _) _ _ _) | (with_reducible show wpAny _ _ (exec (Stmt.Assign _ (Expr.ListComp _ _ _ _) _) _) _ _ _) | (with_reducible show wpAny _ _ (call (Value.ref _) _) _ _ _) | (with_reducible show Exists _))); walk1) | (dsimp only; first | ((with_reducible show wpAny _ _ (call (Value.ref 198) [Value.int _ _]) _ _ _); k_dflt (refine' Ctr.use (lawpath_ctr _ _ _ _ _ _ _) (by assumption) (by decide) (by assumption) (by k_asm) (by assumption) (by k_asm) (by assumption) ?_); rintro v' nw' h' tk' ⟨hn', tS, hv'⟩ F' N'; cases hv'; cases hn'; (try dsimp only)) | ((fail_if_success (first | (with_reducible show wpAny _ _ (exec (Stmt.While _ _ _ _) _) _ _ _) | (with_reducible show wpAny _ _ (exec (Stmt.For _ _ _ _ _) _) _ _ _) | (with_reducible show wpAny _ _ (exec (Stmt.Try _ _ _ _ _) _) _ _ _) | (with_reducible show wpAny _ _ (eval (Expr.ListComp _ _ _ _) _) _ _ _) | (with_reducible show wpAny _ _ (exec (Stmt.Assign _ (Expr.ListComp _ _ _ _) _) _) _ _ _) | (with_reducible show wpAny _ _ (call (Value.ref _) _) _ _ _) | (with_reducible show Exists _))); walk1)) | fail "no step")
      exact ⟨_, _, _, rfl, rfl, by assumption, by assumption⟩
    · intro ys2 hY2 D2 h2 tk2 F4 N4 off2
      clear F3 N3
      have hyl2 : ys2.length ≤ 11 := by
        have q1 := strs_len hY2
        have q2 := ints_len hDr
        rw [List.length_map] at q1
        have q3 := List.length_filter_le even dr
        omega
      have hyn : 0 < ys2.length := by
        rw [strs_len hY2]
        exact List.length_pos_of_mem (List.mem_map_of_mem (List.mem_filter.mpr ⟨h600, by decide⟩))
      have hFs : ∀ ta tb tc, StrsAre ([Value.str (Str.ofString "/a/b/ab") ta, Value.str (Str.ofString "/a/b") tb, Value.str (Str.ofString "/a/b/ab") tc] ++ ys1) (filesOf dr) := fun ta tb tc => StrsAre.append' (.cons _ ta (.cons _ tb (.cons _ tc .nil))) hY1
      have hOs : StrsAre ys2 (outOf dr) := hY2
      have hu : A.units + 64 < cLine := by have := H.units; omega
      dsimp only
      repeat' (first | ((fail_if_success (first | (with_reducible show wpAny _ _ (exec (Stmt.While _ _ _ _) _) _ _ _) | (with_reducible show wpAny _ _ (exec (Stmt.For _ _ _ _ _) _) _ _ _) | (with_reducible show wpAny _ _ (exec (Stmt.Try _ _ _ _ _) _) _ _ _) | (with_reducible show wpAny _ _ (eval (Expr.ListComp _ _ _ _) _) _ _ _) | (with_reducible show wpAny _ _ (exec (Stmt.Assign _ (Expr.ListComp _ _ _ _) _) _) _ _ _) | (with_reducible show wpAny _ _ (call (Value.ref _) _) _ _ _) | (with_reducible show Exists _))); walk1) | (dsimp only; first | ((fail_if_success (first | (with_reducible show wpAny _ _ (exec (Stmt.While _ _ _ _) _) _ _ _) | (with_reducible show wpAny _ _ (exec (Stmt.For _ _ _ _ _) _) _ _ _) | (with_reducible show wpAny _ _ (exec (Stmt.Try _ _ _ _ _) _) _ _ _) | (with_reducible show wpAny _ _ (eval (Expr.ListComp _ _ _ _) _) _ _ _) | (with_reducible show wpAny _ _ (exec (Stmt.Assign _ (Expr.ListComp _ _ _ _) _) _) _ _ _) | (with_reducible show wpAny _ _ (call (Value.ref _) _) _ _ _) | (with_reducible show Exists _))); walk1)) | fail "no step")
      refine (lawtold_ctr _ _ _ _ _ _ _ _ _ _ _ _ _ (hFs _ _ _) hOs ?l1 ?l2 hyn (out_ok dr) (out_len dr) (fun f hf => ends_len (files_ends dr f hf)) (files_ok dr)) A _ _ _ _ _ _ _ _ _ _ _ _ (H.le (by decide)) B F4 X (news_add2 N4 (by k_mem) (by k_mem)) T X T ?_
      case l1 => rw [List.length_append]; simp only [List.length_cons, List.length_nil]; omega
      case l2 => omega
      rintro v1 nw1 h5 tk5 ⟨ss1, p1, s1, r1, o1⟩ F5 N5
      clear F4 N4
      dsimp only
      repeat' (first | ((fail_if_success (first | (with_reducible show wpAny _ _ (exec (Stmt.While _ _ _ _) _) _ _ _) | (with_reducible show wpAny _ _ (exec (Stmt.For _ _ _ _ _) _) _ _ _) | (with_reducible show wpAny _ _ (exec (Stmt.Try _ _ _ _ _) _) _ _ _) | (with_reducible show wpAny _ _ (eval (Expr.ListComp _ _ _ _) _) _ _ _) | (with_reducible show wpAny _ _ (exec (Stmt.Assign _ (Expr.ListComp _ _ _ _) _) _) _ _ _) | (with_reducible show wpAny _ _ (call (Value.ref _) _) _ _ _) | (with_reducible show Exists _))); walk1) | (dsimp only; first | ((fail_if_success (first | (with_reducible show wpAny _ _ (exec (Stmt.While _ _ _ _) _) _ _ _) | (with_reducible show wpAny _ _ (exec (Stmt.For _ _ _ _ _) _) _ _ _) | (with_reducible show wpAny _ _ (exec (Stmt.Try _ _ _ _ _) _) _ _ _) | (with_reducible show wpAny _ _ (eval (Expr.ListComp _ _ _ _) _) _ _ _) | (with_reducible show wpAny _ _ (exec (Stmt.Assign _ (Expr.ListComp _ _ _ _) _) _) _ _ _) | (with_reducible show wpAny _ _ (call (Value.ref _) _) _ _ _) | (with_reducible show Exists _))); walk1)) | fail "no step")
      k_dflt (refine Ctr.use (lawdue_ctr _ _ _ _ _ _ _ _ _ _ _ _ _ (hFs _ _ _) hOs ?l1 ?l2 (out_ok dr) (out_len dr) (out_strOk dr) (files_ends dr)) H (by decide) B F5 X (news_add2 N5 (o1 _ List.mem_cons_self) (o1 _ (List.mem_cons_of_mem _ List.mem_cons_self))) T ?_)
      case l1 => rw [List.length_append]; simp only [List.length_cons, List.length_nil]; omega
      case l2 => omega
      rintro v2 nw2 h6 tk6 ⟨ss2, p2, s2, r2, o2⟩ F6 N6
      clear F5 N5
      dsimp only
      repeat' (first | ((fail_if_success (first | (with_reducible show wpAny _ _ (exec (Stmt.While _ _ _ _) _) _ _ _) | (with_reducible show wpAny _ _ (exec (Stmt.For _ _ _ _ _) _) _ _ _) | (with_reducible show wpAny _ _ (exec (Stmt.Try _ _ _ _ _) _) _ _ _) | (with_reducible show wpAny _ _ (eval (Expr.ListComp _ _ _ _) _) _ _ _) | (with_reducible show wpAny _ _ (exec (Stmt.Assign _ (Expr.ListComp _ _ _ _) _) _) _ _ _) | (with_reducible show wpAny _ _ (call (Value.ref _) _) _ _ _) | (with_reducible show Exists _))); walk1) | (dsimp only; first | ((fail_if_success (first | (with_reducible show wpAny _ _ (exec (Stmt.While _ _ _ _) _) _ _ _) | (with_reducible show wpAny _ _ (exec (Stmt.For _ _ _ _ _) _) _ _ _) | (with_reducible show wpAny _ _ (exec (Stmt.Try _ _ _ _ _) _) _ _ _) | (with_reducible show wpAny _ _ (eval (Expr.ListComp _ _ _ _) _) _ _ _) | (with_reducible show wpAny _ _ (exec (Stmt.Assign _ (Expr.ListComp _ _ _ _) _) _) _ _ _) | (with_reducible show wpAny _ _ (call (Value.ref _) _) _ _ _) | (with_reducible show Exists _))); walk1)) | fail "no step")
      obtain ⟨as1, q1⟩ := r1 _ _ _ (news_sub N6 (fun p hp => o2 p (List.mem_cons_of_mem _ (List.mem_cons_of_mem _ hp))))
      obtain ⟨as2, q2⟩ := r2 _ _ _ N6
      rw [plain dr ss1 ss2 p1 s1 p2 s2] at q1
      have hss : ss2.all PyData.strOk = true := List.all_eq_true.mpr fun x hx => List.all_eq_true.mp (ok_filter _ (files_ok dr)) x (p2.mem_iff.mp hx)
      refine eq_dataH q1 q2 (datum_shaped _ _ _ _ _ rfl rfl hss rfl) (datum_shaped _ _ _ _ _ rfl rfl hss rfl) hu ?_
      rw [datum_eqv]
      exact hQ _ _ _ F6)

end
end Mine
theorem PySem.Challenge.cw_nq0069_01_holds : PySem.Challenge.rw_nq0069_01.Holds :=
  Mine.law_holds
