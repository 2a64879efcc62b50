import PyProof.Rows.All
import Wide.All
import OpenK.AllK
import Wide.FinOn
import PySem.Challenge.RW_fe0287_01
set_option Elab.async false
/- The proof in parts: the head of the row; loop rules of our own; a contract for each function, walked once;
   the plain law over lists of signs; the law's own walk. -/
section
open PySem PySem.W PyProof.Rows
namespace Mine
set_option maxRecDepth 100000 in
set_option maxHeartbeats 8000000 in
open_top hd for PySem.Challenge.rw_fe0287_01
end Mine
end
section
open PySem PySem.W PyProof.Rows PySem.Calls
namespace Mine
section
variable {prog : Program} {w : World} {A : Around} {E : Value → Shared → Prop} {s : Shared} {env : Env} {h₀ : Heap} {x : Str} {body : List Stmt} {Q : Flow → Shared → Prop}

/-- a turn's end: the iterator (I, o) and the list stand as they stood; the rest is J's -/
def TEnd (h₀ : Heap) (L I : Addr) (o : Obj) (need : Addr × Obj) (Jn : (Str → Option Value) → List (Addr × Obj) → Prop) (s₁ s₂ : Shared) : Prop :=
  ∃ h' tk m' news' nx, s₂ = { s₁ with heap := h', toks := tk } ∧ Fr h₀ L h' m' ∧ News h₀ L h' news' ∧ (I, o) ∈ news' ∧ need ∈ news' ∧ (∀ p ∈ nx, p ∈ news') ∧ need ∈ nx ∧ (∀ p ∈ nx, p.1 ≠ I) ∧ Jn m' nx
def TPost (h₀ : Heap) (L I : Addr) (o : Obj) (need : Addr × Obj) (Jn : (Str → Option Value) → List (Addr × Obj) → Prop) (s₁ : Shared) (Q : Flow → Shared → Prop) (f : Flow) (s₂ : Shared) : Prop :=
  match f with
  | .ret v => Q (.ret v) s₂
  | .brk => Q .next s₂
  | _ => TEnd h₀ L I o need Jn s₁ s₂
theorem TEnd.intro {L I : Addr} {o : Obj} {need : Addr × Obj} {Jn : (Str → Option Value) → List (Addr × Obj) → Prop} {m' : Str → Option Value} {news' : List (Addr × Obj)} {s₁ : Shared} {h' : Heap} {tk : Nat} (nx : List (Addr × Obj)) (F : Fr h₀ L h' m') (N : News h₀ L h' news')
    (hI : (I, o) ∈ news') (hl : need ∈ nx) (hs : ∀ p ∈ nx, p ∈ news') (hne : ∀ p ∈ nx, p.1 ≠ I) (hj : Jn m' nx) : TEnd h₀ L I o need Jn s₁ { s₁ with heap := h', toks := tk } :=
  ⟨h', tk, m', news', nx, rfl, F, N, hI, hs _ hl, hs, hl, hne, hj⟩

theorem iter_any {l : Addr} {vs : List Value} {nn : Nat} {m₀ : Str → Option Value} {news : List (Addr × Obj)} (J : Nat → (Str → Option Value) → List (Addr × Obj) → Prop)
    (hh : A.handled = none) (hl : (l, listOf vs.toArray nn) ∈ news) (F : Fr h₀ env.locals s.heap m₀) (N : News h₀ env.locals s.heap news) (hj : J 0 m₀ news)
    (turn : ∀ i v m₁ nx h tk I o, vs[i]? = some v → J i m₁ nx → (l, listOf vs.toArray nn) ∈ nx → (∀ p ∈ nx, p.1 ≠ I) → (∀ p ∈ news, p.1 < I) → Fr h₀ env.locals h (fun y => if y = x then some v else m₁ y) → News h₀ env.locals h ((I, o) :: nx) →
      wpAny (model prog w) A (execs body env) (TPost h₀ env.locals I o (l, listOf vs.toArray nn) (J (i + 1)) { s with heap := h, toks := tk } Q) E { s with heap := h, toks := tk })
    (done : ∀ m₁ nx h tk, J vs.length m₁ nx → (l, listOf vs.toArray nn) ∈ nx → Fr h₀ env.locals h m₁ → News h₀ env.locals h nx → Q .next { s with heap := h, toks := tk }) :
    wpAny (model prog w) A (pyIter (.ref l)) (fun it s₂ => LoopAtV prog w A h₀ env x body Q E it s₂) E s := by
  have hol : s.heap.get? l = some (listOf vs.toArray nn) := (N _ hl).1
  have hls : s.heap.IsList l vs.toArray := ⟨_, hol, rfl, nn, rfl⟩
  have hne : l ≠ s.heap.objs.size := Nat.ne_of_lt (Heap.lt_size hol)
  refine wpAny_pyIter_list hls ?_
  have W := Walks.list (prog := prog) (w := w) hh s.heap.objs.size l hne vs.toArray
  have hlen : vs.toArray.size = vs.length := by simp
  rw [hlen] at W
  refine ⟨_, _, _, vs.length, _, _, m₀, news, (fun i m nx => (l, listOf vs.toArray nn) ∈ nx ∧ J i m nx), rfl, W, ?_, ?_, ?_, ⟨⟨_, Heap.get?_push_size _ rfl, rfl, rfl⟩, hls.at fun o e => Heap.get?_push_of_some _ e⟩, F.push _, (fun p hp => ⟨Heap.get?_push_of_some _ (N p hp).1, (N p hp).2⟩), ⟨hl, hj⟩, ?_, ?_⟩
  · intro hm
    rcases List.mem_cons.mp hm with e | hm
    · exact absurd F.ns.lt (e ▸ Nat.lt_irrefl _)
    · exact (N _ hl).2.1 ((List.mem_singleton.mp hm).symm)
  · intro b hb
    rw [List.mem_singleton.mp hb]
    exact next_is_new F
  · intro p hp hI
    exact absurd (Heap.lt_size (N p hp).1) ((List.mem_singleton.mp hI) ▸ Nat.lt_irrefl _)
  · rintro i v m₁ nx s₁ own ⟨hh', tk', rfl⟩ hin hP ⟨hl₁, hJ⟩ hoff hown hget hfp hst F₁ N₁
    obtain ⟨⟨oI, hoI, hoI2⟩, _⟩ := hst
    have hIown : (s.heap.objs.size, oI) ∈ own := hfp _ (List.mem_cons.mpr (.inl rfl)) (next_is_new F) _ hoI
    have hlo : hh'.get? l = some (listOf vs.toArray nn) := (N₁ _ (List.mem_append.mpr (.inr hl₁))).1
    have hsep : ∀ p ∈ nx, p.1 ≠ s.heap.objs.size := fun p hp e => hoff p hp (List.mem_singleton.mpr e)
    have N₂ : News h₀ env.locals hh' ((s.heap.objs.size, oI) :: nx) := fun p hp => N₁ p ((List.mem_cons.mp hp).elim (fun h => List.mem_append.mpr (.inl (h ▸ hIown))) fun h => List.mem_append.mpr (.inr h))
    refine wpAny_mono (turn i v m₁ nx hh' tk' _ oI (by simpa using hP) hJ hl₁ hsep (fun p hp => Heap.lt_size (N p hp).1) F₁ N₂) (fun f s₂ p => ?_) fun _ _ e => e
    have fin : TEnd h₀ env.locals s.heap.objs.size oI (l, listOf vs.toArray nn) (J (i + 1)) { s with heap := hh', toks := tk' } s₂ →
        LoopStepU h₀ env.locals [s.heap.objs.size] own (fun m nx => (l, listOf vs.toArray nn) ∈ nx ∧ J (i + 1) m nx) { s with heap := hh', toks := tk' } .next s₂ := by
      rintro ⟨h', tk, m', news', nx', e, F', N', hI', hl', hs', hlx, hne', hj'⟩
      refine ⟨rfl, h', tk, m', nx', e, F', fun p hp => ?_, fun p hp hq => hne' p hp (List.mem_singleton.mp hq), hlx, hj'⟩
      rcases List.mem_append.mp hp with h | h
      · have hg := hget p h
        rcases List.mem_cons.mp (hown p h) with h1 | h1
        · have : p = (s.heap.objs.size, oI) := by
            rw [h1] at hg
            have h2 : some p.2 = some oI := hg.symm.trans hoI
            exact Prod.ext h1 (Option.some.inj h2)
          rw [this]; exact N' _ hI'
        · have h1' := List.mem_singleton.mp h1
          have : p = (l, listOf vs.toArray nn) := by
            rw [h1'] at hg
            have h2 : some p.2 = some (listOf vs.toArray nn) := hg.symm.trans hlo
            exact Prod.ext h1' (Option.some.inj h2)
          rw [this]; exact N' _ hl'
      · exact N' p (hs' p h)
    cases f with
    | ret v => exact .ret p
    | brk => exact .brk p
    | next => exact .next (fin p)
    | cont => exact .cont (fin p)
  · rintro h' tk m' news' F' N' _ ⟨hl', hJ⟩
    exact done m' news' h' tk hJ hl' F' N'

/-- the locals stand, but for the loop's own name and those of `st`; the ledger is J's -/
theorem iter_keep {l : Addr} {vs : List Value} {nn : Nat} {m₀ : Str → Option Value} {news : List (Addr × Obj)} (st : Str) (J : Nat → List (Addr × Obj) → Prop)
    (hh : A.handled = none) (hl : (l, listOf vs.toArray nn) ∈ news) (F : Fr h₀ env.locals s.heap m₀) (N : News h₀ env.locals s.heap news) (hj : J 0 news)
    (turn : ∀ i v (u : Str → Option Value) nx h tk I o, vs[i]? = some v → J i nx → (l, listOf vs.toArray nn) ∈ nx → (∀ p ∈ nx, p.1 ≠ I) → (∀ p ∈ news, p.1 < I) → Fr h₀ env.locals h (fun y => if y = x then some v else if y = st then u y else m₀ y) → News h₀ env.locals h ((I, o) :: nx) →
      wpAny (model prog w) A (execs body env) (TPost h₀ env.locals I o (l, listOf vs.toArray nn) (fun m' nx' => J (i + 1) nx' ∧ ∀ z, z ≠ x → z ≠ st → m' z = m₀ z) { s with heap := h, toks := tk } Q) E { s with heap := h, toks := tk })
    (done : ∀ (u : Str → Option Value) nx h tk, J vs.length nx → (l, listOf vs.toArray nn) ∈ nx → Fr h₀ env.locals h (fun y => if y = x then u y else if y = st then u y else m₀ y) → News h₀ env.locals h nx → Q .next { s with heap := h, toks := tk }) :
    wpAny (model prog w) A (pyIter (.ref l)) (fun it s₂ => LoopAtV prog w A h₀ env x body Q E it s₂) E s := by
  refine iter_any (fun i m nx => J i nx ∧ ∀ z, z ≠ x → z ≠ st → m z = m₀ z) hh hl F N ⟨hj, fun _ _ _ => rfl⟩ ?_ ?_
  · rintro i v m₁ nx h tk I o hv ⟨hJ, hm⟩ hl' hne hlt F₁ N₁
    have e : (fun y => if y = x then some v else m₁ y) = fun y => if y = x then some v else if y = st then m₁ y else m₀ y := by
      funext y
      by_cases h1 : y = x
      · simp only [if_pos h1]
      · simp only [if_neg h1]
        by_cases h2 : y = st
        · simp only [if_pos h2]
        · simp only [if_neg h2]; exact hm y h1 h2
    rw [e] at F₁
    exact turn i v m₁ nx h tk I o hv hJ hl' hne hlt F₁ N₁
  · rintro m₁ nx h tk ⟨hJ, hm⟩ hl' F₁ N₁
    have e : (fun y => if y = x then m₁ y else if y = st then m₁ y else m₀ y) = m₁ := by
      funext y
      by_cases h1 : y = x
      · simp only [if_pos h1]
      · simp only [if_neg h1]
        by_cases h2 : y = st
        · simp only [if_pos h2]
        · simp only [if_neg h2]; exact (hm y h1 h2).symm
    exact done m₁ nx h tk hJ hl' (by rw [e]; exact F₁) N₁
end
end Mine

end
section
open PySem PySem.W PyProof.Rows PySem.Calls
namespace Mine
theorem strs_dropLast : ∀ {us : List Value} {ys : List Str}, StrsAre us ys → StrsAre us.dropLast ys.dropLast
  | _, _, .nil => .nil
  | _, _, .cons _ _ .nil => .nil
  | _, _, .cons _ _ (.cons b u r) => .cons _ _ (strs_dropLast (.cons b u r))
theorem strs_last : ∀ {us : List Value} {ys : List Str}, StrsAre us ys → us.isEmpty = false → ∃ y t, us = us.dropLast ++ [.str y t]
  | _, _, .nil, h => by cases h
  | _, _, .cons a t .nil, _ => ⟨a, t, rfl⟩
  | _, _, .cons a t (.cons b u r), _ => by
    obtain ⟨y, t', e⟩ := strs_last (.cons b u r) rfl
    exact ⟨y, t', congrArg (List.cons _) e⟩
section
variable {prog : Program} {w : World} {M : Model} {A : Around} {E : Value → Shared → Prop} {s : Shared} {h₀ : Heap} {L l D : Addr} {news news' : List (Addr × Obj)} {m : Str → Option Value}
theorem truthy_made {us : List Value} {n : Nat} {Q : Bool → Shared → Prop} (N : News h₀ L s.heap news) (hm : (l, listOf us.toArray n) ∈ news) (hfit : us.length ≤ 16777216)
    (h : ∀ k, Q (!us.isEmpty) { s with toks := k }) : wpAny (model prog w) A (truthy (.ref l)) Q E s :=
  wpAny_truthy_list ⟨_, (N _ hm).1, rfl, n, rfl⟩ (by rw [List.size_toArray]; omega) (by
    have e : (!us.toArray.isEmpty) = !us.isEmpty := by cases us <;> rfl
    rw [e]; exact h _)
theorem pop_strs {us : List Value} {ys : List Str} {n : Nat} {Q : Value → Shared → Prop} (F : Fr h₀ L s.heap m) (N : News h₀ L s.heap news) (hi : StrsAre us ys) (U : Upd D (listOf us.toArray n) (listOf us.dropLast.toArray (n + 1)) news news')
    (hne : us.isEmpty = false) (hz : us.length ≤ 16777216) (h : ∀ h' y t, Fr h₀ L h' m → News h₀ L h' news' → Q (.str y t) { s with heap := h' }) :
    wpAny (model prog w) A (call (.builtin "list.pop") [.ref D]) Q E s := by
  obtain ⟨y, t, e⟩ := strs_last hi hne
  refine kl_pop F N (p := us.dropLast) (y := .str y t) ?_ U (by rw [sizeLine_eq]; simpa using hz) fun h' F' N' => h h' y t F' N'
  have e1 := kpa_last (.str y t) us.dropLast
  rw [← e] at e1
  simpa using e1
theorem append_made {us : List Value} {n : Nat} {x : Value} {Q : Value → Shared → Prop} (F : Fr h₀ L s.heap m) (N : News h₀ L s.heap news) (U : Upd D (listOf us.toArray n) (listOf (us ++ [x]).toArray (n + 1)) news news')
    (hz : us.length ≤ 16777216) (h : ∀ h', Fr h₀ L h' m → News h₀ L h' news' → Q .none { s with heap := h' }) : wpAny (model prog w) A (call (.builtin "list.append") [.ref D, x]) Q E s := by
  have e : (us ++ [x]).toArray = us.toArray.push x := by simp
  rw [e] at U
  exact append_K F N U h (by rw [List.size_toArray, sizeLine_eq]; exact hz)
theorem insert_made {us : List Value} {n : Nat} {u : Tok} {x : Value} {Q : Value → Shared → Prop} (F : Fr h₀ L s.heap m) (N : News h₀ L s.heap news) (U : Upd D (listOf us.toArray n) (listOf (x :: us).toArray (n + 1)) news news')
    (hz : us.length ≤ 16777216) (h : ∀ h', Fr h₀ L h' m → News h₀ L h' news' → Q .none { s with heap := h' }) : wpAny (model prog w) A (call (.builtin "list.insert") [.ref D, .int 0 u, x]) Q E s := by
  refine kl_insert F N (by decide) ?_ U (by rw [sizeLine_eq]; simpa using hz) h
  simp [kl_ins]
theorem item0_made {value slice : Expr} {us : List Value} {n : Nat} {u : Tok} {x : Value} {Q : Value → Shared → Prop} (N : News h₀ L s.heap news) (hm : (l, listOf (x :: us).toArray n) ∈ news) (h : Q x s)
    (hs : subscripted slice false (.ref l) (.int 0 u) = operate [.ref l, .int 0 u] (getItem (.ref l) (.int 0 u)) := by with_unfolding_all rfl) :
    wpAny (model prog w) A (subscriptTail value slice (.ref l) (.int 0 u)) Q E s :=
  have hL : s.heap.IsList l (x :: us).toArray := ⟨_, (N _ hm).1, rfl, n, rfl⟩
  tail_any hL.typeIs slot_list_getitem.lookup (wpAny_getItem_list hL (by decide) (by decide) (by simp) h) hs
end
open Builtin Builtin.Str in
theorem ends_tuple2 (a : Addr) (n : Nat) (x y z : Str) (t u v : Tok) :
    Meets (Builtin.«str.endswith» ⟨[.str x t, .ref a], []⟩) (fun _ R s => s.heap.get? a = some { cls := .type "tuple", dict := none, data := .seq #[.str y u, .str z v] n, slots := #[] } ∧ R (.ok (.ret (.bool (Txt.endswith x y || Txt.endswith x z)))) s) :=
  .of_wp fun prog w A R s h => by
    obtain ⟨hp, g, d, tk, os⟩ := s; obtain ⟨hl, h⟩ := h
    wp_walk
    show wpAny _ _ (isSubtype (.type "tuple") (.type "tuple")) _ _ _
    rw [isSubtype_tuple_tuple]
    refine wpAny_pure ?_
    have e : ∀ p : Str, ((fun (s : Str) (lo hi : Nat) (p : Str) => decide (lo + p.length ≤ hi) && subAt s p (hi - p.length)) x (Int.toNat 0) (Min.min (x.length : Int).toNat x.length) p) = Txt.endswith x p := by
      intro p
      simp [Txt.endswith]
    wp_walk
    cases hy : Txt.endswith x y with
    | true =>
      rw [if_pos ((e y).trans hy)]
      rw [hy] at h
      wp_walk
      exact ⟨_, rfl, h⟩
    | false =>
      rw [if_neg (by rw [e y, hy]; exact Bool.false_ne_true)]
      rw [hy] at h
      wp_walk
      cases hz : Txt.endswith x z with
      | true =>
        rw [if_pos ((e z).trans hz)]
        rw [hz] at h
        wp_walk
        exact ⟨_, rfl, h⟩
      | false =>
        rw [if_neg (by rw [e z, hz]; exact Bool.false_ne_true)]
        rw [hz] at h
        wp_walk
        exact ⟨_, rfl, h⟩
section
variable {prog : Program} {w : World} {A : Around} {E : Value → Shared → Prop} {s : Shared} {h₀ : Heap} {L l D : Addr} {news news' : List (Addr × Obj)} {m : Str → Option Value}
theorem endswith2 {a : Addr} {n : Nat} {x y z : Str} {t u v : Tok} {Q : Value → Shared → Prop} (N : News h₀ L s.heap news) (hm : (a, ({ cls := .type "tuple", data := .seq #[.str y u, .str z v] n } : Obj)) ∈ news)
    (h : Q (.bool (Txt.endswith x y || Txt.endswith x z)) s) : wpAny (model prog w) A (call (.builtin "str.endswith") [.str x t, .ref a]) Q E s :=
  call_meets PySem.F.slot_str_endswith (typeIs_str _ _ _) PySem.F.entry_str_endswith (PySem.F.args_str_endswith_2 _ _) (ends_tuple2 a n x y z t u v) ⟨(N _ hm).1, h⟩
end

theorem TEnd.intro2 {h₀ : Heap} {L I : Addr} {o : Obj} {need : Addr × Obj} {Jn : (Str → Option Value) → List (Addr × Obj) → Prop} {m' : Str → Option Value} {news' : List (Addr × Obj)} {s₁ s₂ : Shared} {tk : Nat} (nx : List (Addr × Obj)) (e : s₂ = { s₁ with heap := s₂.heap, toks := tk }) (F : Fr h₀ L s₂.heap m') (N : News h₀ L s₂.heap news')
    (hI : (I, o) ∈ news') (hl : need ∈ nx) (hs : ∀ p ∈ nx, p ∈ news') (hne : ∀ p ∈ nx, p.1 ≠ I) (hj : Jn m' nx) : TEnd h₀ L I o need Jn s₁ s₂ :=
  ⟨s₂.heap, tk, m', news', nx, e, F, N, hI, hs _ hl, hs, hl, hne, hj⟩
section
variable {prog : Program} {w : World} {M : Model} {A : Around} {E : Value → Shared → Prop} {s : Shared} {h₀ : Heap} {L l D : Addr} {news news' : List (Addr × Obj)} {m : Str → Option Value}
theorem truthy_text {x : Str} {t : Tok} {Q : Bool → Shared → Prop} (hfit : x.length ≤ 1000001) (h : ∀ k, Q ((x.length : Int) != 0) { s with toks := k }) : wpAny (model prog w) A (truthy (.str x t)) Q E s :=
  P.truthy_str (by omega) (h _)
theorem join_made {sep : Str} {t : Tok} {us : List Value} {ys : List Str} {n : Nat} {Q : Value → Shared → Prop} (N : News h₀ L s.heap news) (hm : (D, listOf us.toArray n) ∈ news) (hi : StrsAre us ys)
    (hok : (ys.map (·.length)).sum + ys.length * sep.length ≤ 16777216) (h : ∀ t' k, Q (.str (Txt.join sep ys) t') { s with toks := k }) : wpAny (model prog w) A (call (.builtin "str.join") [.str sep t, .ref D]) Q E s :=
  join_list (D := D) (items := us.toArray) ⟨_, (N _ hm).1, rfl, n, rfl⟩ (by simpa using hi) hok h
end

/-- a mark at which the walk stands still -/
def Stop (P : Prop) : Prop := P
theorem stop_here {P : Prop} (h : Stop P) : P := h
theorem Stop.mk {P : Prop} (h : P) : Stop P := h

/-- the locals `ps` and the ledger `Led` are the state's; of the other locals `stored` are forgotten, the rest stand -/
def StJ {σ : Type} (Led : σ → List (Addr × Obj)) (ps : σ → List (Str × Value)) (x : Str) (stored : List Str) (m₀ : Str → Option Value) (P : σ → Prop) (m : Str → Option Value) (nx : List (Addr × Obj)) : Prop :=
  ∃ c : σ, nx = Led c ∧ P c ∧ (∀ p ∈ ps c, m p.1 = some p.2) ∧ (∀ z, z ≠ x → (∀ p ∈ ps c, z ≠ p.1) → stored.contains z = false → m z = m₀ z)
section
variable {prog : Program} {w : World} {A : Around} {E : Value → Shared → Prop} {s : Shared} {env : Env} {h₀ : Heap} {x : Str} {body : List Stmt} {Q : Flow → Shared → Prop}
theorem iter_st {σ : Type} {l : Addr} {vs : List Value} {nn : Nat} {m₀ : Str → Option Value} {news : List (Addr × Obj)} (Led : σ → List (Addr × Obj)) (ps : σ → List (Str × Value)) (stored : List Str) (P : Nat → σ → Prop) (c₀ : σ)
    (hh : A.handled = none) (hl : ∀ c, (l, listOf vs.toArray nn) ∈ Led c) (F : Fr h₀ env.locals s.heap m₀) (N : News h₀ env.locals s.heap news) (hs : ∀ p ∈ Led c₀, p ∈ news) (hk : ∀ p ∈ ps c₀, m₀ p.1 = some p.2) (hp : P 0 c₀)
    (turn : ∀ (c : σ) i v (u : Str → Option Value) h tk I o, vs[i]? = some v → P i c → (∀ p ∈ Led c, p.1 ≠ I) → (∀ p ∈ Led c₀, p.1 < I) → Fr h₀ env.locals h (fun y => if y = x then some v else kstB (fun z => if stored.contains z then u z else m₀ z) (ps c) y) → News h₀ env.locals h ((I, o) :: Led c) →
      wpAny (model prog w) A (execs body env) (TPost h₀ env.locals I o (l, listOf vs.toArray nn) (StJ Led ps x stored m₀ (P (i + 1))) { s with heap := h, toks := tk } Q) E { s with heap := h, toks := tk })
    (done : ∀ (c : σ) (u : Str → Option Value) h tk, P vs.length c → Fr h₀ env.locals h (fun y => if y = x then u y else kstB (fun z => if stored.contains z then u z else m₀ z) (ps c) y) → News h₀ env.locals h (Led c) → Q .next { s with heap := h, toks := tk }) :
    wpAny (model prog w) A (pyIter (.ref l)) (fun it s₂ => LoopAtV prog w A h₀ env x body Q E it s₂) E s := by
  refine iter_any (fun i m nx => StJ Led ps x stored m₀ (P i) m nx) hh (hl c₀) F (fun p hp => N p (hs p hp)) ⟨c₀, rfl, hp, hk, fun _ _ _ _ => rfl⟩ ?_ ?_
  · rintro i v m₁ nx h tk I o hv ⟨c, rfl, hp', h1, h2⟩ hl' hne hlt F₁ N₁
    exact turn c i v m₁ h tk I o hv hp' hne hlt (kst_fr h1 h2 F₁) N₁
  · rintro m₁ nx h tk ⟨c, rfl, hp', h1, h2⟩ hl' F₁ N₁
    exact done c m₁ h tk hp' (kst_frOut h1 h2 F₁) N₁
end
theorem TEnd.st {σ : Type} {h₀ : Heap} {L I : Addr} {o : Obj} {need : Addr × Obj} {Led : σ → List (Addr × Obj)} {ps : σ → List (Str × Value)} {x : Str} {stored : List Str} {m₀ : Str → Option Value} {P : σ → Prop} {m' : Str → Option Value} {news' : List (Addr × Obj)} {s₁ s₂ : Shared} {tk : Nat} (c : σ)
    (e : s₂ = { s₁ with heap := s₂.heap, toks := tk }) (F : Fr h₀ L s₂.heap m') (N : News h₀ L s₂.heap news')
    (hI : (I, o) ∈ news') (hl : need ∈ Led c) (hs : ∀ p ∈ Led c, p ∈ news') (hne : ∀ p ∈ Led c, p.1 ≠ I) (hp : P c) (hk : ∀ p ∈ ps c, m' p.1 = some p.2) (hr : ∀ z, z ≠ x → (∀ p ∈ ps c, z ≠ p.1) → stored.contains z = false → m' z = m₀ z) :
    TEnd h₀ L I o need (StJ Led ps x stored m₀ P) s₁ s₂ :=
  ⟨s₂.heap, tk, m', news', Led c, e, F, N, hI, hs _ hl, hs, hl, hne, c, rfl, hp, hk, hr⟩

section
variable {prog : Program} {w : World} {A : Around} {E : Value → Shared → Prop} {s : Shared} {h₀ : Heap} {L l : Addr} {news : List (Addr × Obj)}
theorem item_any {value slice : Expr} {us : List Value} {n : Nat} {k : Int} {u : Tok} {x : Value} {Q : Value → Shared → Prop} (N : News h₀ L s.heap news) (hm : (l, listOf us.toArray n) ∈ news) (h0 : 0 ≤ k) (h1 : k < 1000000) (hx : us[k.toNat]? = some x) (h : Q x s)
    (hs : subscripted slice false (.ref l) (.int k u) = operate [.ref l, .int k u] (getItem (.ref l) (.int k u)) := by with_unfolding_all rfl) :
    wpAny (model prog w) A (subscriptTail value slice (.ref l) (.int k u)) Q E s :=
  have hL : s.heap.IsList l us.toArray := ⟨_, (N _ hm).1, rfl, n, rfl⟩
  tail_any hL.typeIs slot_list_getitem.lookup (wpAny_getItem_list hL h0 (by omega) (by simpa using hx) h) hs
end
end Mine

end
section
open PySem PySem.W PyProof.Rows PySem.Calls
namespace Mine
/-- the weight of a list of texts: their lengths, and one a text -/
def wt (ys : List Str) : Nat := (ys.map (·.length)).sum + ys.length
theorem wt_nil : wt [] = 0 := rfl
theorem wt_cons (y : Str) (ys : List Str) : wt (y :: ys) = y.length + 1 + wt ys := by simp [wt]; omega
theorem wt_append (a b : List Str) : wt (a ++ b) = wt a + wt b := by simp [wt]; omega
theorem wt_dropLast : ∀ a : List Str, wt a.dropLast ≤ wt a
  | [] => Nat.le_refl _
  | [y] => Nat.zero_le _
  | y :: z :: r => by
    have h := wt_dropLast (z :: r)
    rw [List.dropLast_cons_cons, wt_cons, wt_cons y (z :: r)]
    omega
theorem wt_join (sep : Str) (hs : sep.length = 1) : ∀ ys : List Str, ys ≠ [] → (Str.join sep ys).length + 1 = wt ys
  | [], h => absurd rfl h
  | [y], _ => by simp [Str.join, wt]
  | y :: z :: r, _ => by
    have h := wt_join sep hs (z :: r) (by simp)
    rw [wt_cons]
    show (y ++ sep ++ Str.join sep (z :: r)).length + 1 = _
    rw [PySem.Str.length_append, PySem.Str.length_append, hs]
    omega
def outStep (out : List Str) (seg : Str) : List Str := if seg = Str.ofString "." then out else if seg = Str.ofString ".." then out.dropLast else out ++ [seg]
theorem out_take {ys : List Str} {i : Nat} {y : Str} (hy : ys[i]? = some y) : (ys.take (i + 1)).foldl outStep [] = outStep ((ys.take i).foldl outStep []) y := by
  rw [List.take_add_one, hy, List.foldl_append]; rfl
theorem wt_step (o : List Str) (y : Str) : wt (outStep o y) ≤ wt o + (y.length + 1) := by
  unfold outStep
  split
  · omega
  · split
    · have := wt_dropLast o; omega
    · rw [wt_append, wt_cons, wt_nil]; omega
theorem wt_fold : ∀ (ys o : List Str), wt (ys.foldl outStep o) ≤ wt o + wt ys
  | [], _ => Nat.le_refl _
  | y :: r, o => by
    have h1 := wt_fold r (outStep o y)
    have h2 := wt_step o y
    rw [List.foldl_cons, wt_cons]
    omega
theorem partsFrom_ne (x : Str) (w a : Nat) (cuts : List Nat) : StrLaws.partsFrom x w a cuts ≠ [] := by
  obtain ⟨p, r, e⟩ := StrLaws.partsFrom_ne x w a cuts
  rw [e]; simp
theorem split_ne (x : Str) : Txt.split x (Str.ofString "/") ≠ [] := by
  unfold Txt.split
  split
  · simp
  · split
    · simp
    · rw [StrLaws.partsBetween_eq]
      exact partsFrom_ne _ _ _ _
theorem wt_split (x : Str) : wt (Txt.split x (Str.ofString "/")) = x.length + 1 := by
  have h := wt_join (Str.ofString "/") (by decide +kernel) _ (split_ne x)
  rw [StrLaws.join_split] at h
  exact h.symm
theorem wt_len (ys : List Str) : ys.length ≤ wt ys := by unfold wt; omega
theorem empty_len : (Str.ofString "").length = 0 := by decide +kernel
theorem slash_len : (Str.ofString "/").length = 1 := by decide +kernel
section
variable {prog : Program} {w : World} {A : Around} {E : Value → Shared → Prop} {s : Shared} {h₀ : Heap} {L D : Addr} {news : List (Addr × Obj)}
theorem join_w {t : Tok} {us : List Value} {ys : List Str} {n : Nat} {Q : Value → Shared → Prop} (N : News h₀ L s.heap news) (hm : (D, listOf us.toArray n) ∈ news) (hi : StrsAre us ys)
    (hok : wt ys ≤ 16777216) (h : ∀ t' k, Q (.str (Txt.join (Str.ofString "/") ys) t') { s with toks := k }) : wpAny (model prog w) A (call (.builtin "str.join") [.str (Str.ofString "/") t, .ref D]) Q E s :=
  join_made N hm hi (by rw [slash_len]; unfold wt at hok; omega) h
end
end Mine

end
section
open PySem PySem.W PyProof.Rows PySem.Calls
namespace Mine
/-- a text's signs -/
abbrev lst (x : Str) : List Nat := x.cps.toList
theorem lst_inj {x y : Str} (h : lst x = lst y) : x = y := PySem.Str.ext' (Array.toList_inj.mp h)
theorem lst_length (x : Str) : (lst x).length = x.length := by simp [PySem.Str.length]
theorem lst_append (x y : Str) : lst (x ++ y) = lst x ++ lst y := by simp [lst, PySem.Str.cps_append]
theorem lst_mk (l : List Nat) : lst ⟨l.toArray⟩ = l := rfl
open Builtin.Str in
theorem idx_over (l : Option Int) {j : Int} (len : Nat) (h : (len : Int) ≤ j) : strSliceIndices l (some j) 1 len = strSliceIndices l (some (len : Int)) 1 len := by
  have a : ¬ (j < 0) := by omega
  have b : ¬ ((len : Int) < 0) := by omega
  have c : min j (len : Int) = len := by omega
  simp [strSliceIndices, a, b, c]
theorem lst_to (x : Str) (j : Nat) : lst (Txt.slice x none (some (j : Int))) = (lst x).take j := by
  by_cases h : j ≤ x.length
  · have e := StrLaws.sliceText_to (x := x) (j := (j : Int)) ⟨by omega, by have := lst_length x; simp only [lst] at this; omega⟩
    show lst (StrLaws.sliceText x none (some (j : Int))) = _
    rw [e]
    simp [lst]
  · have e : Txt.slice x none (some (j : Int)) = Txt.slice x none (some (x.length : Int)) := by
      show StrLaws.sliceText x none (some (j : Int)) = StrLaws.sliceText x none (some (x.length : Int))
      unfold StrLaws.sliceText
      rw [idx_over none x.length (by omega)]
    have e2 := StrLaws.sliceText_to (x := x) (j := (x.length : Int)) ⟨by omega, by have := lst_length x; simp only [lst] at this; omega⟩
    rw [e]
    show lst (StrLaws.sliceText x none (some (x.length : Int))) = _
    rw [e2]
    have hl := lst_length x
    simp only [lst, Nat.sub_zero] at hl ⊢
    simp only [List.drop_zero, Int.sub_zero, Int.toNat_natCast]
    rw [List.take_of_length_le (by omega), List.take_of_length_le (by omega)]
theorem lst_from (x : Str) (j : Nat) : lst (Txt.slice x (some (j : Int)) none) = (lst x).drop j := by
  by_cases h : j ≤ x.length
  · have e := StrLaws.sliceText_from (x := x) (i := (j : Int)) ⟨by omega, by have := lst_length x; simp only [lst] at this; omega⟩
    show lst (StrLaws.sliceText x (some (j : Int)) none) = _
    rw [e]
    have hl := lst_length x
    simp only [lst] at hl ⊢
    simp only [Int.toNat_natCast]
    rw [List.take_of_length_le (by rw [List.length_drop]; omega)]
  · rw [slice_beyond (by omega)]
    have hl := lst_length x
    rw [List.drop_of_length_le (by omega)]
    rfl
end Mine

end
section
open PySem PySem.W PyProof.Rows PySem.Calls
open PySem.Builtin PySem.Builtin.Str
namespace Mine
abbrev SL : Str := Str.ofString "/"
def mcut (done : Str) : Str := Txt.slice done none (some (if 0 > Txt.rfind done (Str.ofString "/") then 0 else Txt.rfind done (Str.ofString "/")))
def mstep (path done : Str) : Str × Str :=
  if (Txt.slice path none (some 3) == Str.ofString "../") = true then (Txt.slice path (some 3) none, done)
  else if (Txt.slice path none (some 2) == Str.ofString "./") = true then (Txt.slice path (some 2) none, done)
  else if (Txt.slice path none (some 3) == Str.ofString "/./") = true then (Txt.slice path (some 2) none, done)
  else if (path == Str.ofString "/.") = true then (Str.ofString "/", done)
  else if (Txt.slice path none (some 4) == Str.ofString "/../") = true then (Txt.slice path (some 3) none, mcut done)
  else if (path == Str.ofString "/..") = true then (Str.ofString "/", mcut done)
  else if ([Str.ofString ".", Str.ofString ".."].any fun x => x == path) = true then (Str.ofString "", done)
  else if Txt.find3 path (Str.ofString "/") 1 = -1 then (Txt.slice path (some (path.length : Int)) none, done ++ Txt.slice path none (some (path.length : Int)))
  else (Txt.slice path (some (Txt.find3 path (Str.ofString "/") 1)) none, done ++ Txt.slice path none (some (Txt.find3 path (Str.ofString "/") 1)))
def mrun : Nat → Str → Str → Str
  | 0, _, d => d
  | n + 1, p, d => if (p != Str.ofString "") = true then mrun n (mstep p d).1 (mstep p d).2 else d
def mach (x : Str) : Str := mrun (x.length + 1) x (Str.ofString "")

theorem len_to (x : Str) (j : Nat) : (Txt.slice x none (some (j : Int))).length = min j x.length := by
  rw [← lst_length, lst_to, List.length_take, lst_length]
theorem len_from (x : Str) (j : Nat) : (Txt.slice x (some (j : Int)) none).length = x.length - j := by
  rw [← lst_length, lst_from, List.length_drop, lst_length]
theorem slash_mk : Str.ofString "/" = ⟨#[47]⟩ := by decide +kernel
theorem empty_mk : Str.ofString "" = ⟨#[]⟩ := by decide +kernel
theorem ne_empty {x : Str} (h : (x != Str.ofString "") = true) : 1 ≤ x.length := by
  rcases Nat.eq_zero_or_pos x.length with e | e
  · exfalso
    have e2 : x = Str.ofString "" := by
      apply lst_inj
      have := lst_length x
      rw [e] at this
      rw [List.length_eq_zero_iff.mp this, empty_mk]
    rw [e2] at h
    simp at h
  · exact e
theorem find3_cases (x : Str) (hx : 1 ≤ x.length) : (Txt.find3 x (Str.ofString "/") 1 = -1 ∧ ∀ v, 1 ≤ v → v < x.length → x.cps.getD v 0 ≠ 47) ∨
    ∃ k : Nat, Txt.find3 x (Str.ofString "/") 1 = (k : Int) ∧ 1 ≤ k ∧ k < x.length ∧ x.cps.getD k 0 = 47 ∧ ∀ v, 1 ≤ v → v < k → x.cps.getD v 0 ≠ 47 := by
  have h := StrLaws.find3_spec x 47 1
  have e : fromIndex x.length 1 = 1 := rfl
  rw [e] at h
  rw [slash_mk]
  exact h
theorem mcut_le (d : Str) : (mcut d).length ≤ d.length := Txt.slice_le _ _ _
theorem eq_len {x y : Str} {k : Nat} (h : (x == y) = true) (hy : y.length = k) : x.length = k := by rw [beq_iff_eq.mp h]; exact hy
theorem mstep_bounds (p d : Str) (hp : (p != Str.ofString "") = true) : (mstep p d).1.length < p.length ∧ (mstep p d).1.length + (mstep p d).2.length ≤ p.length + d.length := by
  have h1 := ne_empty hp
  have l1 : (Str.ofString "/").length = 1 := by decide +kernel
  have l0 : (Str.ofString "").length = 0 := by decide +kernel
  have hc := mcut_le d
  unfold mstep
  have f2 : (Txt.slice p (some 2) none).length = p.length - 2 := len_from p 2
  have f3 : (Txt.slice p (some 3) none).length = p.length - 3 := len_from p 3
  split
  · exact ⟨by dsimp only; omega, by dsimp only; omega⟩
  split
  · exact ⟨by dsimp only; omega, by dsimp only; omega⟩
  split
  · exact ⟨by dsimp only; omega, by dsimp only; omega⟩
  split
  · rename_i h
    have := eq_len h (k := 2) (by decide +kernel)
    exact ⟨by dsimp only; omega, by dsimp only; omega⟩
  split
  · exact ⟨by dsimp only; omega, by dsimp only; omega⟩
  split
  · rename_i h
    have := eq_len h (k := 3) (by decide +kernel)
    exact ⟨by dsimp only; omega, by dsimp only; omega⟩
  split
  · exact ⟨by dsimp only; omega, by dsimp only; omega⟩
  split
  · have f := len_from p p.length
    have g := len_to p p.length
    dsimp only
    rw [PySem.Str.length_append]
    omega
  · rcases find3_cases p h1 with h | ⟨k, hk, h2, h3, _⟩
    · exact absurd h.1 (by assumption)
    · rw [hk]
      have f := len_from p k
      have g := len_to p k
      dsimp only
      rw [PySem.Str.length_append]
      omega
end Mine

end
section
open PySem PySem.W PyProof.Rows PySem.Calls
namespace Mine
def Plain (y : Str) : Prop := 47 ∉ lst y ∧ y ≠ Str.ofString "." ∧ y ≠ Str.ofString ".." ∧ y.length ≤ 3
/-- what the builder of the paths can reach: rooted, the words so far, the depth, climbed -/
inductive Reach : Bool → List Str → Nat → Bool → Prop where
  | nil (r : Bool) : Reach r [] 0 false
  | up {r : Bool} {ws : List Str} {c : Bool} : Reach r ws 0 c → Reach r (ws ++ [Str.ofString ".."]) 0 true
  | down {r : Bool} {ws : List Str} {d : Nat} {c : Bool} : Reach r ws (d + 1) c → (r = true ∨ 1 ≤ d) → Reach r (ws ++ [Str.ofString ".."]) d c
  | dot {r : Bool} {ws : List Str} {d : Nat} {c : Bool} : Reach r ws d c → Reach r (ws ++ [Str.ofString "."]) d c
  | push {r : Bool} {ws : List Str} {d : Nat} {c : Bool} {y : Str} : Reach r ws d c → Plain y → ¬(y = Str.ofString "" ∧ r = true ∧ c = true ∧ d = 0) → Reach r (ws ++ [y]) (d + 1) c
def pathOf (r : Bool) (ws : List Str) : Str := (if r = true then Str.ofString "/" else Str.ofString "") ++ Txt.join (Str.ofString "/") ws
def GoodP (y : Str) : Prop := ∃ r ws d c, Reach r ws d c ∧ ws.length ≤ 61 ∧ y = pathOf r ws
def wordTab : List Str := [Str.ofString "", Str.ofString ".", Str.ofString "..", Str.ofString "a", Str.ofString "b", Str.ofString "...", Str.ofString ".a", Str.ofString "..b", Str.ofString "a."]
theorem plain_of_tab : ∀ y ∈ wordTab, y ≠ Str.ofString "." → y ≠ Str.ofString ".." → Plain y := by
  intro y hy h1 h2
  refine ⟨?_, h1, h2, ?_⟩
  · have : ∀ y ∈ wordTab, 47 ∉ lst y := by decide +kernel
    exact this y hy
  · have : ∀ y ∈ wordTab, y.length ≤ 3 := by decide +kernel
    exact this y hy
theorem plain_b : Plain (Str.ofString "b") := plain_of_tab _ (by decide +kernel) (by decide +kernel) (by decide +kernel)
theorem tab_item {k : Int} (h0 : 0 ≤ k) (h1 : k < 10) (t0 t1 t2 t3 t4 t5 t6 t7 t8 : Tok) :
    (([.str (Str.ofString "") t0, .str (Str.ofString ".") t1, .str (Str.ofString "..") t2, .str (Str.ofString "a") t3, .str (Str.ofString "b") t4, .str (Str.ofString "...") t5, .str (Str.ofString ".a") t6, .str (Str.ofString "..b") t7, .str (Str.ofString "a.") t8, .none] : List Value)[k.toNat]? = some .none) ∨
    ∃ y t, ([.str (Str.ofString "") t0, .str (Str.ofString ".") t1, .str (Str.ofString "..") t2, .str (Str.ofString "a") t3, .str (Str.ofString "b") t4, .str (Str.ofString "...") t5, .str (Str.ofString ".a") t6, .str (Str.ofString "..b") t7, .str (Str.ofString "a.") t8, .none] : List Value)[k.toNat]? = some (.str y t) ∧ y ∈ wordTab := by
  obtain ⟨n, rfl⟩ := Int.eq_ofNat_of_zero_le h0
  have hn : n < 10 := by omega
  rw [Int.toNat_natCast]
  match n, hn with
  | 0, _ => exact .inr ⟨_, _, rfl, by decide +kernel⟩
  | 1, _ => exact .inr ⟨_, _, rfl, by decide +kernel⟩
  | 2, _ => exact .inr ⟨_, _, rfl, by decide +kernel⟩
  | 3, _ => exact .inr ⟨_, _, rfl, by decide +kernel⟩
  | 4, _ => exact .inr ⟨_, _, rfl, by decide +kernel⟩
  | 5, _ => exact .inr ⟨_, _, rfl, by decide +kernel⟩
  | 6, _ => exact .inr ⟨_, _, rfl, by decide +kernel⟩
  | 7, _ => exact .inr ⟨_, _, rfl, by decide +kernel⟩
  | 8, _ => exact .inr ⟨_, _, rfl, by decide +kernel⟩
  | 9, _ => exact .inl rfl

theorem r_up {r : Bool} {ws : List Str} {dn : Nat} {c : Bool} {y : Str} (e1 : (y == Str.ofString "..") = true) (e2 : (dn : Int) = 0) (h : Reach r ws dn c) : ∃ k : Nat, (dn : Int) = (k : Int) ∧ Reach r (ws ++ [y]) k true := by
  have e : dn = 0 := by omega
  subst e
  rw [beq_iff_eq.mp e1]
  exact ⟨0, rfl, h.up⟩
theorem r_down {r : Bool} {ws : List Str} {dn : Nat} {c : Bool} {y : Str} (e1 : (y == Str.ofString "..") = true) (e2 : (dn : Int) ≠ 0) (e3 : r = true ∨ 1 < (dn : Int)) (h : Reach r ws dn c) : ∃ k : Nat, (dn : Int) - 1 = (k : Int) ∧ Reach r (ws ++ [y]) k c := by
  cases dn with
  | zero => exact absurd rfl e2
  | succ k =>
    rw [beq_iff_eq.mp e1]
    exact ⟨k, by omega, h.down (e3.imp id fun q => by omega)⟩
theorem r_b {r : Bool} {ws : List Str} {dn : Nat} {c : Bool} (h : Reach r ws dn c) : ∃ k : Nat, (dn : Int) + 1 = (k : Int) ∧ Reach r (ws ++ [Str.ofString "b"]) k c :=
  ⟨dn + 1, by omega, h.push plain_b fun q => absurd q.1 (by decide +kernel)⟩
theorem r_push {r : Bool} {ws : List Str} {dn : Nat} {c : Bool} {y : Str} (ht : y ∈ wordTab) (e1 : (y == Str.ofString "..") = false) (e2 : (y != Str.ofString ".") = true) (e3 : ¬(y = Str.ofString "" ∧ r = true ∧ c = true ∧ dn = 0)) (h : Reach r ws dn c) :
    ∃ k : Nat, (dn : Int) + 1 = (k : Int) ∧ Reach r (ws ++ [y]) k c :=
  ⟨dn + 1, by omega, h.push (plain_of_tab y ht (bne_iff_ne.mp e2) (beq_eq_false_iff_ne.mp e1)) e3⟩
theorem r_dot {r : Bool} {ws : List Str} {dn : Nat} {c : Bool} {y : Str} (e2 : (y != Str.ofString ".") = false) (h : Reach r ws dn c) : ∃ k : Nat, (dn : Int) = (k : Int) ∧ Reach r (ws ++ [y]) k c := by
  rw [bne_eq_false_iff_eq.mp e2]
  exact ⟨dn, rfl, h.dot⟩
theorem Reach.short {r : Bool} {ws : List Str} {d : Nat} {c : Bool} (h : Reach r ws d c) : wt ws ≤ 4 * ws.length := by
  have a1 : (Str.ofString ".").length = 1 := by decide +kernel
  have a2 : (Str.ofString "..").length = 2 := by decide +kernel
  induction h with
  | nil => exact Nat.le_refl _
  | up _ ih => rw [wt_append, wt_cons, wt_nil, List.length_append, List.length_singleton]; omega
  | down _ _ ih => rw [wt_append, wt_cons, wt_nil, List.length_append, List.length_singleton]; omega
  | dot _ ih => rw [wt_append, wt_cons, wt_nil, List.length_append, List.length_singleton]; omega
  | push _ hy _ ih => have := hy.2.2.2; rw [wt_append, wt_cons, wt_nil, List.length_append, List.length_singleton]; omega
theorem join_le (ys : List Str) : (Txt.join (Str.ofString "/") ys).length ≤ wt ys := by
  have h := StrLaws.join_length_le (Str.ofString "/") ys
  rw [slash_len] at h
  show (Builtin.Str.glued (Str.ofString "/") ys).length ≤ _
  rw [StrLaws.glued_eq_join]
  unfold wt
  omega
end Mine

end
section
open PySem PySem.W PyProof.Rows PySem.Calls
open PySem.Builtin PySem.Builtin.Str
namespace Mine
/-- words glued by the sign 47 -/
def joinL : List (List Nat) → List Nat
  | [] => []
  | [w] => w
  | w :: v :: r => w ++ 47 :: joinL (v :: r)
/-- each word with the sign 47 ahead -/
def flat : List (List Nat) → List Nat
  | [] => []
  | w :: r => 47 :: w ++ flat r
theorem flat_append (a b : List (List Nat)) : flat (a ++ b) = flat a ++ flat b := by
  induction a with
  | nil => rfl
  | cons w r ih => simp [flat, ih]
theorem joinL_cons (w : List Nat) (r : List (List Nat)) : joinL (w :: r) = w ++ flat r := by
  induction r generalizing w with
  | nil => simp [joinL, flat]
  | cons v r ih => rw [joinL, ih]; simp [flat]
theorem flat_joinL {r : List (List Nat)} (h : r ≠ []) : flat r = 47 :: joinL r := by
  cases r with
  | nil => exact absurd rfl h
  | cons w r => rw [joinL_cons]; simp [flat]
theorem lst_join (ys : List Str) : lst (Txt.join (Str.ofString "/") ys) = joinL (ys.map lst) := by
  show lst (glued (Str.ofString "/") ys) = _
  rw [StrLaws.glued_eq_join]
  induction ys with
  | nil => rfl
  | cons y r ih =>
    cases r with
    | nil => rfl
    | cons z r =>
      show lst (y ++ Str.ofString "/" ++ Str.join (Str.ofString "/") (z :: r)) = _
      have e : lst (⟨#[47]⟩ : Str) = [47] := rfl
      rw [lst_append, lst_append, ih, slash_mk, e]
      simp [joinL]
/-- the last sign 47 parts a text in one way alone -/
theorem last_one {a t w v : List Nat} (h : a ++ 47 :: w = t ++ 47 :: v) (hw : 47 ∉ w) (hv : 47 ∉ v) : a = t ∧ w = v := by
  rcases List.append_eq_append_iff.mp h with ⟨c, h1, h2⟩ | ⟨c, h1, h2⟩
  · cases c with
    | nil => simp at h1 h2; exact ⟨h1.symm, h2⟩
    | cons x c =>
      simp at h2
      exact absurd (h2.2 ▸ (by simp : (47 : Nat) ∈ c ++ 47 :: v)) hw
  · cases c with
    | nil => simp at h1 h2; exact ⟨h1, h2.symm⟩
    | cons x c =>
      simp at h2
      exact absurd (h2.2 ▸ (by simp : (47 : Nat) ∈ c ++ 47 :: w)) hv
theorem first_one {a t w v : List Nat} (h : a ++ 47 :: w = t ++ 47 :: v) (ha : 47 ∉ a) (ht : 47 ∉ t) : a = t ∧ w = v := by
  rcases List.append_eq_append_iff.mp h with ⟨c, h1, h2⟩ | ⟨c, h1, h2⟩
  · cases c with
    | nil => simp at h1 h2; exact ⟨h1.symm, h2⟩
    | cons x c =>
      simp at h2
      refine absurd ?_ ht
      rw [h1, ← h2.1]; simp
  · cases c with
    | nil => simp at h1 h2; exact ⟨h1, h2.symm⟩
    | cons x c =>
      simp at h2
      refine absurd ?_ ha
      rw [h1, ← h2.1]; simp
theorem joinL_free {w : List Nat} {r : List (List Nat)} (h : ∃ v r', r = v :: r') : joinL (w :: r) = w ++ 47 :: joinL r := by
  obtain ⟨v, r', rfl⟩ := h
  rfl
theorem joinL_unique : ∀ {a b : List (List Nat)}, a ≠ [] → b ≠ [] → (∀ w ∈ a, 47 ∉ w) → (∀ w ∈ b, 47 ∉ w) → joinL a = joinL b → a = b
  | [], _, h, _, _, _, _ => absurd rfl h
  | _, [], _, h, _, _, _ => absurd rfl h
  | [w], [v], _, _, _, _, h => by simp [joinL] at h; rw [h]
  | [w], v :: v2 :: r, _, _, ha, _, h => by
    exfalso
    have h1 := ha w (.head _)
    rw [show joinL [w] = w from rfl, joinL] at h
    rw [h] at h1
    simp at h1
  | w :: w2 :: r, [v], _, _, _, hb, h => by
    exfalso
    have h1 := hb v (.head _)
    rw [show joinL [v] = v from rfl, joinL] at h
    rw [← h] at h1
    simp at h1
  | w :: w2 :: r, v :: v2 :: r', _, _, ha, hb, h => by
    rw [joinL, joinL] at h
    obtain ⟨e1, e2⟩ := first_one h (ha w (.head _)) (hb v (.head _))
    have e3 := joinL_unique (a := w2 :: r) (b := v2 :: r') (by simp) (by simp) (fun x hx => ha x (.tail _ hx)) (fun x hx => hb x (.tail _ hx)) e2
    rw [e1, e3]
theorem map_lst_inj : ∀ {a b : List Str}, a.map lst = b.map lst → a = b
  | [], [], _ => rfl
  | [], _ :: _, h => by simp at h
  | _ :: _, [], h => by simp at h
  | x :: a, y :: b, h => by
    rw [List.map_cons, List.map_cons, List.cons.injEq] at h
    rw [lst_inj h.1, map_lst_inj h.2]
/-- the split of a text that is words glued -/
theorem split_of {y : Str} {W : List (List Nat)} (hne : W ≠ []) (hf : ∀ w ∈ W, 47 ∉ w) (h : lst y = joinL W) : (Txt.split y (Str.ofString "/")).map lst = W := by
  refine joinL_unique (by simpa using split_ne y) hne ?_ hf ?_
  · intro w hw
    obtain ⟨p, hp, rfl⟩ := List.mem_map.mp hw
    rw [slash_mk] at hp
    exact StrLaws.split_free y 47 p hp
  · rw [← h, ← lst_join]
    show lst (glued (Str.ofString "/") _) = _
    rw [StrLaws.glued_eq_join, StrLaws.join_split]
theorem beq_lst (x y : Str) : (x == y) = decide (lst x = lst y) := by
  by_cases h : x = y
  · subst h; simp
  · have h2 : ¬ lst x = lst y := fun e => h (lst_inj e)
    simp [h, h2]
theorem starts_iff (y z : Str) : Txt.startswith y z = true ↔ ∃ t, lst y = lst z ++ t := by
  unfold Txt.startswith
  rw [StrLaws.subAt_eq]
  simp only [Bool.and_eq_true, decide_eq_true_eq, List.drop_zero, beq_iff_eq, Nat.zero_add]
  constructor
  · rintro ⟨_, h⟩
    refine ⟨(lst y).drop z.length, ?_⟩
    rw [show lst z = (lst y).take z.length from h.symm, List.take_append_drop]
  · rintro ⟨t, h⟩
    have h1 := lst_length y
    have h2 := lst_length z
    rw [h, List.length_append] at h1
    refine ⟨by omega, ?_⟩
    show (lst y).take z.length = lst z
    rw [h, ← h2]; simp
theorem ends_iff (y z : Str) : Txt.endswith y z = true ↔ ∃ t, lst y = t ++ lst z := by
  unfold Txt.endswith
  rw [StrLaws.subAt_eq]
  simp only [Bool.and_eq_true, decide_eq_true_eq, beq_iff_eq, Nat.zero_add]
  constructor
  · rintro ⟨h0, h⟩
    refine ⟨(lst y).take (y.length - z.length), ?_⟩
    have h3 : ((lst y).drop (y.length - z.length)).take z.length = (lst y).drop (y.length - z.length) := by
      rw [List.take_of_length_le]
      rw [List.length_drop, lst_length]; omega
    rw [show lst z = ((lst y).drop (y.length - z.length)).take z.length from h.symm, h3, List.take_append_drop]
  · rintro ⟨t, h⟩
    have h1 := lst_length y
    have h2 := lst_length z
    rw [h, List.length_append] at h1
    refine ⟨by omega, ?_⟩
    show ((lst y).drop (y.length - z.length)).take z.length = lst z
    have h4 : y.length - z.length = t.length := by omega
    rw [h4, h, List.drop_left, ← h2, List.take_length]
end Mine

end
section
open PySem PySem.W PyProof.Rows PySem.Calls
open PySem.Builtin PySem.Builtin.Str
namespace Mine
theorem at_slash (x : Str) (i : Nat) : StrLaws.At x (⟨#[47]⟩ : Str) x.length i ↔ (lst x)[i]? = some 47 := StrLaws.subAt_one x 47 i
/-- the last word and its sign are cut off -/
theorem mcut_at {d : Str} {a w : List Nat} (h : lst d = a ++ 47 :: w) (hw : 47 ∉ w) : lst (mcut d) = a := by
  have hr : Txt.rfind d (Str.ofString "/") = (a.length : Int) := by
    unfold Txt.rfind
    rw [slash_mk]
    rcases StrLaws.last_spec d ⟨#[47]⟩ with ⟨_, hn⟩ | ⟨i, hi, hat, hlast⟩
    · exfalso
      exact hn a.length ((at_slash d _).mpr (by rw [h]; simp))
    · rw [hi]
      have h1 := (at_slash d i).mp hat
      rcases Nat.lt_trichotomy i a.length with hlt | he | hgt
      · exact absurd ((at_slash d a.length).mpr (by rw [h]; simp)) (hlast _ hlt)
      · rw [he]
      · exfalso
        rw [h, List.getElem?_append_right (by omega)] at h1
        obtain ⟨k, hk⟩ : ∃ k, i - a.length = k + 1 := ⟨i - a.length - 1, by omega⟩
        rw [hk, List.getElem?_cons_succ] at h1
        exact hw (List.mem_of_getElem? h1)
  unfold mcut
  rw [hr, if_neg (by omega), lst_to, h]
  simp
theorem mcut_none {d : Str} (h : 47 ∉ lst d) : lst (mcut d) = [] := by
  have hr : Txt.rfind d (Str.ofString "/") = -1 := by
    unfold Txt.rfind
    rw [slash_mk]
    rcases StrLaws.last_spec d ⟨#[47]⟩ with ⟨e, _⟩ | ⟨i, _, hat, _⟩
    · rw [e]
    · exact absurd (List.mem_of_getElem? ((at_slash d i).mp hat)) h
  unfold mcut
  rw [hr, if_pos (by omega)]
  have := lst_to d 0
  simpa using this
/-- a run of the machine, with the fuel that it needs -/
def M (p d : Str) : Str := mrun (p.length + 1) p d
theorem mrun_fuel : ∀ (n m : Nat) (p d : Str), p.length < n → p.length < m → mrun n p d = mrun m p d
  | 0, _, _, _, h, _ => by omega
  | _, 0, _, _, _, h => by omega
  | n + 1, m + 1, p, d, h1, h2 => by
    unfold mrun
    by_cases hp : (p != Str.ofString "") = true
    · rw [if_pos hp, if_pos hp]
      have hb := (mstep_bounds p d hp).1
      exact mrun_fuel n m _ _ (by omega) (by omega)
    · rw [if_neg hp, if_neg hp]
theorem M_step {p d p' d' : Str} (hp : lst p ≠ []) (e : mstep p d = (p', d')) : M p d = M p' d' := by
  have hp' : (p != Str.ofString "") = true := by
    rw [bne_iff_ne]
    rintro rfl
    exact hp (by rw [empty_mk])
  have hb := (mstep_bounds p d hp').1
  rw [e] at hb
  replace hb : p'.length < p.length := hb
  unfold M
  show mrun (p.length + 1) p d = _
  rw [mrun, if_pos hp', e]
  exact mrun_fuel p.length (p'.length + 1) p' d' hb (by omega)
theorem M_stop {p d : Str} (hp : lst p = []) : M p d = d := by
  have e : p = Str.ofString "" := lst_inj (by rw [hp, empty_mk])
  subst e
  unfold M
  rw [mrun, if_neg (by decide +kernel)]
theorem mach_M (x : Str) : mach x = M x (Str.ofString "") := rfl
/-- the step, by the signs -/
theorem c_dds : lst (Str.ofString "../") = [46, 46, 47] := by decide +kernel
theorem c_ds : lst (Str.ofString "./") = [46, 47] := by decide +kernel
theorem c_sds : lst (Str.ofString "/./") = [47, 46, 47] := by decide +kernel
theorem c_sd : lst (Str.ofString "/.") = [47, 46] := by decide +kernel
theorem c_sdds : lst (Str.ofString "/../") = [47, 46, 46, 47] := by decide +kernel
theorem c_sdd : lst (Str.ofString "/..") = [47, 46, 46] := by decide +kernel
theorem c_d : lst (Str.ofString ".") = [46] := by decide +kernel
theorem c_dd : lst (Str.ofString "..") = [46, 46] := by decide +kernel
theorem c_s : lst (Str.ofString "/") = [47] := by decide +kernel
theorem c_e : lst (Str.ofString "") = [] := by decide +kernel
theorem t2 (x : Str) : lst (Txt.slice x none (some 2)) = (lst x).take 2 := lst_to x 2
theorem t3 (x : Str) : lst (Txt.slice x none (some 3)) = (lst x).take 3 := lst_to x 3
theorem t4 (x : Str) : lst (Txt.slice x none (some 4)) = (lst x).take 4 := lst_to x 4
theorem f2 (x : Str) : lst (Txt.slice x (some 2) none) = (lst x).drop 2 := lst_from x 2
theorem f3 (x : Str) : lst (Txt.slice x (some 3) none) = (lst x).drop 3 := lst_from x 3
theorem any_dots (p : Str) : ([Str.ofString ".", Str.ofString ".."].any fun x => x == p) = decide (lst p = [46] ∨ lst p = [46, 46]) := by
  simp only [List.any_cons, List.any_nil, Bool.or_false, beq_lst, c_d, c_dd]
  by_cases h1 : lst p = [46]
  · simp [h1]
  · by_cases h2 : lst p = [46, 46]
    · simp [h2]
    · have h1' : ¬ [46] = lst p := fun e => h1 e.symm
      have h2' : ¬ [46, 46] = lst p := fun e => h2 e.symm
      simp [h1, h2, h1', h2']
theorem mstep_eq (p d : Str) : mstep p d =
    if (lst p).take 3 = [46, 46, 47] then (Txt.slice p (some 3) none, d)
    else if (lst p).take 2 = [46, 47] then (Txt.slice p (some 2) none, d)
    else if (lst p).take 3 = [47, 46, 47] then (Txt.slice p (some 2) none, d)
    else if lst p = [47, 46] then (Str.ofString "/", d)
    else if (lst p).take 4 = [47, 46, 46, 47] then (Txt.slice p (some 3) none, mcut d)
    else if lst p = [47, 46, 46] then (Str.ofString "/", mcut d)
    else if lst p = [46] ∨ lst p = [46, 46] then (Str.ofString "", d)
    else if Txt.find3 p (Str.ofString "/") 1 = -1 then (Txt.slice p (some (p.length : Int)) none, d ++ Txt.slice p none (some (p.length : Int)))
    else (Txt.slice p (some (Txt.find3 p (Str.ofString "/") 1)) none, d ++ Txt.slice p none (some (Txt.find3 p (Str.ofString "/") 1))) := by
  unfold mstep
  rw [any_dots]
  simp only [beq_lst, t2, t3, t4, c_dds, c_ds, c_sds, c_sd, c_sdds, c_sdd, decide_eq_true_eq]

/-- the last rule: a text that is `c :: w`, w free of 47, and then nothing or a sign 47 -/
theorem take_word {p d : Str} {c : Nat} {w t : List Nat} (h : lst p = c :: w ++ t) (hw : 47 ∉ w) (ht : t = [] ∨ ∃ u, t = 47 :: u) :
    ∃ p' d', (if Txt.find3 p (Str.ofString "/") 1 = -1 then (Txt.slice p (some (p.length : Int)) none, d ++ Txt.slice p none (some (p.length : Int)))
    else (Txt.slice p (some (Txt.find3 p (Str.ofString "/") 1)) none, d ++ Txt.slice p none (some (Txt.find3 p (Str.ofString "/") 1)))) = (p', d') ∧ lst p' = t ∧ lst d' = lst d ++ c :: w := by
  have hlen : p.length = 1 + w.length + t.length := by
    have := lst_length p
    rw [h, List.length_append, List.length_cons] at this
    omega
  have getD_of : ∀ v, p.cps.getD v 0 = (lst p).getD v 0 := by
    intro v
    obtain ⟨⟨l⟩⟩ := p
    simp [lst, Array.getD, List.getD]
    split
    · rename_i hv
      rw [List.getElem?_eq_getElem hv]; rfl
    · rename_i hv
      rw [List.getElem?_eq_none (by omega)]; rfl
  rcases ht with rfl | ⟨u, rfl⟩
  · -- no sign 47 behind the first
    have hf : Txt.find3 p (Str.ofString "/") 1 = -1 := by
      rcases find3_cases p (by omega) with h1 | ⟨k, _, hk1, hk2, hk3, _⟩
      · exact h1.1
      · exfalso
        rw [getD_of, h, List.append_nil] at hk3
        obtain ⟨j, rfl⟩ : ∃ j, k = j + 1 := ⟨k - 1, by omega⟩
        rw [List.getD_cons_succ] at hk3
        have hj : j < w.length := by rw [List.length_nil] at hlen; omega
        rw [List.getD_eq_getElem?_getD, List.getElem?_eq_getElem hj] at hk3
        exact hw (hk3 ▸ List.getElem_mem hj)
    refine ⟨_, _, by rw [if_pos hf], ?_, ?_⟩
    · rw [lst_from, List.drop_of_length_le (by rw [lst_length]; omega)]
    · rw [lst_append, lst_to, List.take_of_length_le (by rw [lst_length]; omega), h, List.append_nil]
  · have hf : Txt.find3 p (Str.ofString "/") 1 = ((1 + w.length : Nat) : Int) := by
      have hat : p.cps.getD (1 + w.length) 0 = 47 := by
        rw [getD_of, h, List.getD_eq_getElem?_getD, List.getElem?_append_right (by rw [List.length_cons]; omega)]
        rw [show 1 + w.length - (c :: w).length = 0 from by rw [List.length_cons]; omega]
        rfl
      rw [List.length_cons] at hlen
      rcases find3_cases p (by omega) with ⟨_, h2⟩ | ⟨k, hk, hk1, hk2, hk3, hk4⟩
      · exact absurd hat (h2 _ (by omega) (by omega))
      · rw [hk]
        rcases Nat.lt_trichotomy k (1 + w.length) with hlt | he | hgt
        · exfalso
          rw [getD_of, h] at hk3
          obtain ⟨j, rfl⟩ : ∃ j, k = j + 1 := ⟨k - 1, by omega⟩
          have hj : j < w.length := by omega
          rw [List.cons_append, List.getD_cons_succ, List.getD_eq_getElem?_getD, List.getElem?_append_left hj, List.getElem?_eq_getElem hj] at hk3
          exact hw (hk3 ▸ List.getElem_mem hj)
        · rw [he]
        · exact absurd hat (hk4 _ (by omega) hgt)
    have e1 : (1 + w.length) = (c :: w).length := by rw [List.length_cons]; omega
    refine ⟨_, _, by rw [if_neg (by rw [hf]; omega)], ?_, ?_⟩
    · rw [hf, lst_from, h, e1, List.drop_left]
    · rw [lst_append, hf, lst_to, h, e1, List.take_left]
end Mine

end
section
open PySem PySem.W PyProof.Rows PySem.Calls
namespace Mine
def PlainL (w : List Nat) : Prop := 47 ∉ w ∧ w ≠ [46] ∧ w ≠ [46, 46]
theorem s_dot_more {p d : Str} {u : List Nat} (h : lst p = 47 :: 46 :: 47 :: u) : ∃ p', mstep p d = (p', d) ∧ lst p' = 47 :: u := by
  refine ⟨_, by rw [mstep_eq, h]; simp; rfl, ?_⟩
  rw [f2, h]; rfl
theorem s_dot_end {p d : Str} (h : lst p = [47, 46]) : mstep p d = (Str.ofString "/", d) := by
  rw [mstep_eq, h]; simp
theorem s_dd_more {p d : Str} {u : List Nat} (h : lst p = 47 :: 46 :: 46 :: 47 :: u) : ∃ p', mstep p d = (p', mcut d) ∧ lst p' = 47 :: u := by
  refine ⟨_, by rw [mstep_eq, h]; simp; rfl, ?_⟩
  rw [f3, h]; rfl
theorem s_dd_end {p d : Str} (h : lst p = [47, 46, 46]) : mstep p d = (Str.ofString "/", mcut d) := by
  rw [mstep_eq, h]; simp
theorem i_dot_more {p d : Str} {u : List Nat} (h : lst p = 46 :: 47 :: u) : ∃ p', mstep p d = (p', d) ∧ lst p' = u := by
  refine ⟨_, by rw [mstep_eq, h]; simp; rfl, ?_⟩
  rw [f2, h]; rfl
theorem i_dd_more {p d : Str} {u : List Nat} (h : lst p = 46 :: 46 :: 47 :: u) : ∃ p', mstep p d = (p', d) ∧ lst p' = u := by
  refine ⟨_, by rw [mstep_eq, h]; simp; rfl, ?_⟩
  rw [f3, h]; rfl
theorem i_dots_end {p d : Str} (h : lst p = [46] ∨ lst p = [46, 46]) : mstep p d = (Str.ofString "", d) := by
  rw [mstep_eq]
  rcases h with h | h <;> rw [h] <;> simp
theorem s_plain {p d : Str} {w t : List Nat} (h : lst p = 47 :: w ++ t) (hw : PlainL w) (ht : t = [] ∨ ∃ u, t = 47 :: u) : ∃ p' d', mstep p d = (p', d') ∧ lst p' = t ∧ lst d' = lst d ++ 47 :: w := by
  obtain ⟨p', d', e, h1, h2⟩ := take_word (d := d) h hw.1 ht
  refine ⟨p', d', ?_, h1, h2⟩
  rw [mstep_eq]
  obtain ⟨a1, a2, a3⟩ := hw
  have c1 : ¬ (lst p).take 3 = [46, 46, 47] := by rw [h]; simp
  have c2 : ¬ (lst p).take 2 = [46, 47] := by rw [h]; simp
  have c3 : ¬ (lst p).take 3 = [47, 46, 47] := by
    rw [h]
    rcases w with _ | ⟨a, _ | ⟨b, w⟩⟩ <;> rcases ht with rfl | ⟨u, rfl⟩ <;> simp_all <;> grind
  have c4 : ¬ lst p = [47, 46] := by
    rw [h]
    rcases w with _ | ⟨a, _ | ⟨b, w⟩⟩ <;> rcases ht with rfl | ⟨u, rfl⟩ <;> simp_all
  have c5 : ¬ (lst p).take 4 = [47, 46, 46, 47] := by
    rw [h]
    rcases w with _ | ⟨a, _ | ⟨b, _ | ⟨c, w⟩⟩⟩ <;> rcases ht with rfl | ⟨u, rfl⟩ <;> simp_all <;> grind
  have c6 : ¬ lst p = [47, 46, 46] := by
    rw [h]
    rcases w with _ | ⟨a, _ | ⟨b, _ | ⟨c, w⟩⟩⟩ <;> rcases ht with rfl | ⟨u, rfl⟩ <;> simp_all
  have c7 : ¬ (lst p = [46] ∨ lst p = [46, 46]) := by rw [h]; simp
  rw [if_neg c1, if_neg c2, if_neg c3, if_neg c4, if_neg c5, if_neg c6, if_neg c7]
  exact e
theorem i_plain {p d : Str} {w t : List Nat} (h : lst p = w ++ t) (hne : w ≠ []) (hw : PlainL w) (ht : t = [] ∨ ∃ u, t = 47 :: u) : ∃ p' d', mstep p d = (p', d') ∧ lst p' = t ∧ lst d' = lst d ++ w := by
  obtain ⟨a1, a2, a3⟩ := hw
  obtain ⟨c, w', rfl⟩ : ∃ c w', w = c :: w' := by
    cases w with
    | nil => exact absurd rfl hne
    | cons c w' => exact ⟨c, w', rfl⟩
  have hc : c ≠ 47 := fun e => a1 (by rw [e]; simp)
  have hw' : 47 ∉ w' := fun e => a1 (by simp [e])
  obtain ⟨p', d', e, h1, h2⟩ := take_word (d := d) h hw' ht
  refine ⟨p', d', ?_, h1, h2⟩
  rw [mstep_eq]
  have c1 : ¬ (lst p).take 3 = [46, 46, 47] := by
    rw [h]
    rcases w' with _ | ⟨a, _ | ⟨b, w⟩⟩ <;> rcases ht with rfl | ⟨u, rfl⟩ <;> simp_all <;> grind
  have c2 : ¬ (lst p).take 2 = [46, 47] := by
    rw [h]
    rcases w' with _ | ⟨a, _ | ⟨b, w⟩⟩ <;> rcases ht with rfl | ⟨u, rfl⟩ <;> simp_all <;> grind
  have c3 : ¬ (lst p).take 3 = [47, 46, 47] := by rw [h]; simp [hc]
  have c4 : ¬ lst p = [47, 46] := by rw [h]; simp [hc]
  have c5 : ¬ (lst p).take 4 = [47, 46, 46, 47] := by rw [h]; simp [hc]
  have c6 : ¬ lst p = [47, 46, 46] := by rw [h]; simp [hc]
  have c7 : ¬ (lst p = [46] ∨ lst p = [46, 46]) := by
    rw [h]
    rcases w' with _ | ⟨a, _ | ⟨b, w⟩⟩ <;> rcases ht with rfl | ⟨u, rfl⟩ <;> simp_all
  rw [if_neg c1, if_neg c2, if_neg c3, if_neg c4, if_neg c5, if_neg c6, if_neg c7]
  exact e
end Mine

end
section
open PySem PySem.W PyProof.Rows PySem.Calls
namespace Mine
def outL (o : List (List Nat)) (w : List Nat) : List (List Nat) := if w = [46] then o else if w = [46, 46] then o.dropLast else o ++ [w]
theorem outL_dot (o : List (List Nat)) : outL o [46] = o := by simp [outL]
theorem outL_dd (o : List (List Nat)) : outL o [46, 46] = o.dropLast := by simp [outL]
theorem outL_plain (o : List (List Nat)) {w : List Nat} (h : PlainL w) : outL o w = o ++ [w] := by simp [outL, h.2.1, h.2.2]
/-- the last word's own empty word -/
def tailE : List (List Nat) → List (List Nat)
  | [] => []
  | [w] => if w = [46] ∨ w = [46, 46] then [[]] else []
  | _ :: v :: r => tailE (v :: r)
/-- what may come, from rootedness, depth and climbed on -/
inductive Adm : Bool → Nat → Bool → List (List Nat) → Prop where
  | nil {r : Bool} {d : Nat} {c : Bool} : Adm r d c []
  | dot {r : Bool} {d : Nat} {c : Bool} {W : List (List Nat)} : Adm r d c W → Adm r d c ([46] :: W)
  | up {r : Bool} {c : Bool} {W : List (List Nat)} : Adm r 0 true W → Adm r 0 c ([46, 46] :: W)
  | down {r : Bool} {d : Nat} {c : Bool} {W : List (List Nat)} : (r = true ∨ 1 ≤ d) → Adm r d c W → Adm r (d + 1) c ([46, 46] :: W)
  | push {r : Bool} {d : Nat} {c : Bool} {w : List Nat} {W : List (List Nat)} : PlainL w → ¬(w = [] ∧ r = true ∧ c = true ∧ d = 0) → Adm r (d + 1) c W → Adm r d c (w :: W)
theorem dropLast_len {α : Type} (k : List α) : k.dropLast.length = k.length - 1 := List.length_dropLast
/-- unrooted: the first kept word is never taken away -/
theorem fold_cons {d : Nat} {r c : Bool} {W : List (List Nat)} (h : Adm r d c W) : ∀ {k : List (List Nat)} (w0 : List Nat), r = false → d = k.length + 1 → W.foldl outL (w0 :: k) = w0 :: W.foldl outL k := by
  induction h with
  | nil => intros; rfl
  | dot _ ih => intro k w0 hr hd; simp only [List.foldl_cons, outL_dot]; exact ih w0 hr hd
  | up _ ih => intro k w0 hr hd; omega
  | down h1 _ ih =>
    intro k w0 hr hd
    have hk : 1 ≤ k.length := by
      rcases h1 with e | e
      · rw [hr] at e; cases e
      · omega
    simp only [List.foldl_cons, outL_dd]
    obtain ⟨x, k', rfl⟩ : ∃ x k', k = x :: k' := by
      cases k with
      | nil => simp at hk
      | cons x k' => exact ⟨x, k', rfl⟩
    rw [List.dropLast_cons_cons]
    refine ih w0 hr ?_
    rw [dropLast_len]; simp at hd ⊢; omega
  | push hp _ _ ih =>
    intro k w0 hr hd
    simp only [List.foldl_cons, outL_plain _ hp, List.cons_append]
    refine ih w0 hr ?_
    rw [List.length_append, List.length_singleton]; omega
def insert0 : List (List Nat) → List (List Nat)
  | [] => [[]]
  | y :: r => if y = [] then y :: r else [] :: y :: r
theorem ins_climbed {d : Nat} {r c : Bool} {W : List (List Nat)} (h : Adm r d c W) : ∀ {k : List (List Nat)}, r = true → c = true → d = k.length → (∀ y k', k = y :: k' → y ≠ []) → insert0 (W.foldl outL k) = [] :: W.foldl outL k := by
  induction h with
  | nil =>
    intro k _ _ _ hk
    cases k with
    | nil => rfl
    | cons y k' => simp [insert0, hk y k' rfl]
  | dot _ ih => intro k hr hc hd hk; simp only [List.foldl_cons, outL_dot]; exact ih hr hc hd hk
  | up _ ih =>
    intro k hr hc hd hk
    have e : k = [] := List.length_eq_zero_iff.mp hd.symm
    subst e
    simp only [List.foldl_cons, outL_dd]
    exact ih (k := []) hr rfl rfl (fun _ _ e => by cases e)
  | down _ _ ih =>
    intro k hr hc hd hk
    simp only [List.foldl_cons, outL_dd]
    refine ih hr hc (by rw [dropLast_len]; omega) ?_
    intro y k' e
    cases k with
    | nil => cases e
    | cons x k2 =>
      cases k2 with
      | nil => cases e
      | cons x2 k3 =>
        rw [List.dropLast_cons_cons] at e
        exact (List.cons.inj e).1 ▸ hk x _ rfl
  | push hp hn _ ih =>
    intro k hr hc hd hk
    simp only [List.foldl_cons, outL_plain _ hp]
    refine ih hr hc (by rw [List.length_append, List.length_singleton]; omega) ?_
    intro y k' e
    cases k with
    | nil =>
      obtain ⟨rfl, _⟩ := List.cons.inj e
      intro e0
      exact hn ⟨e0, hr, hc, hd⟩
    | cons x k2 => exact (List.cons.inj e).1 ▸ hk x _ rfl
theorem ins_rooted {d : Nat} {r c : Bool} {W : List (List Nat)} (h : Adm r d c W) : ∀ {k : List (List Nat)}, r = true → c = false → d = k.length → insert0 (W.foldl outL ([] :: k)) = [] :: W.foldl outL k := by
  induction h with
  | nil => intro k _ _ _; simp [insert0]
  | dot _ ih => intro k hr hc hd; simp only [List.foldl_cons, outL_dot]; exact ih hr hc hd
  | up h2 _ =>
    intro k hr hc hd
    have e : k = [] := List.length_eq_zero_iff.mp hd.symm
    subst e
    simp only [List.foldl_cons, outL_dd]
    exact ins_climbed h2 (k := []) hr rfl rfl (fun _ _ e => by cases e)
  | down _ _ ih =>
    intro k hr hc hd
    simp only [List.foldl_cons, outL_dd]
    obtain ⟨x, k', rfl⟩ : ∃ x k', k = x :: k' := by
      cases k with
      | nil => simp at hd
      | cons x k' => exact ⟨x, k', rfl⟩
    rw [List.dropLast_cons_cons]
    exact ih hr hc (by rw [dropLast_len]; simp at hd ⊢; omega)
  | push hp hn _ ih =>
    intro k hr hc hd
    simp only [List.foldl_cons, outL_plain _ hp, List.cons_append]
    exact ih hr hc (by rw [List.length_append, List.length_singleton]; omega)
/-- the kept words are plain -/
theorem fold_plain {d : Nat} {r c : Bool} {W : List (List Nat)} (h : Adm r d c W) : ∀ {k : List (List Nat)}, (∀ w ∈ k, PlainL w) → ∀ w ∈ W.foldl outL k, PlainL w := by
  induction h with
  | nil => intro k hk; exact hk
  | dot _ ih => intro k hk; simp only [List.foldl_cons, outL_dot]; exact ih hk
  | up _ ih => intro k hk; simp only [List.foldl_cons, outL_dd]; exact ih fun w hw => hk w (List.dropLast_subset _ hw)
  | down _ _ ih => intro k hk; simp only [List.foldl_cons, outL_dd]; exact ih fun w hw => hk w (List.dropLast_subset _ hw)
  | push hp _ _ ih =>
    intro k hk
    simp only [List.foldl_cons, outL_plain _ hp]
    refine ih fun w hw => ?_
    rcases List.mem_append.mp hw with hw | hw
    · exact hk w hw
    · rw [List.mem_singleton.mp hw]; exact hp
theorem dd_free : 47 ∉ ([46, 46] : List Nat) := by decide
theorem d_free : 47 ∉ ([46] : List Nat) := by decide
theorem Adm.free {d : Nat} {r c : Bool} {W : List (List Nat)} (h : Adm r d c W) : ∀ w ∈ W, 47 ∉ w := by
  induction h with
  | nil => intro w hw; cases hw
  | dot _ ih => intro w hw; exact (List.mem_cons.mp hw).elim (fun e => e ▸ d_free) (ih w)
  | up _ ih => intro w hw; exact (List.mem_cons.mp hw).elim (fun e => e ▸ dd_free) (ih w)
  | down _ _ ih => intro w hw; exact (List.mem_cons.mp hw).elim (fun e => e ▸ dd_free) (ih w)
  | push hp _ _ ih => intro w hw; exact (List.mem_cons.mp hw).elim (fun e => e ▸ hp.1) (ih w)

theorem run_rooted : ∀ (W : List (List Nat)) {r c : Bool} {d : Nat} {k : List (List Nat)} {base : List Nat} {p dn : Str}, Adm r d c W → W ≠ [] → 47 ∉ base → (∀ w ∈ k, PlainL w) →
    lst p = 47 :: joinL W → lst dn = base ++ flat k → (base = [] ∨ (r = false ∧ d = k.length + 1)) → lst (M p dn) = base ++ flat (W.foldl outL k ++ tailE W)
  | [], _, _, _, _, _, _, _, _, hne, _, _, _, _, _ => absurd rfl hne
  | w :: W, r, c, d, k, base, p, dn, hA, _, hb, hk, hp, hd, hs => by
    have hcut : ∀ (hs' : base = [] ∨ k ≠ []), lst (mcut dn) = base ++ flat k.dropLast := by
      intro hs'
      rcases List.eq_nil_or_concat k with rfl | ⟨k', x, rfl⟩
      · have e : base = [] := hs'.elim id (fun h => absurd rfl h)
        subst e
        rw [mcut_none (by rw [hd]; simp [flat])]; rfl
      · rw [List.concat_eq_append] at hd hk ⊢
        rw [List.dropLast_concat]
        refine mcut_at (w := x) ?_ (hk x (by simp)).1
        rw [hd, flat_append]; simp [flat]
    have hend : ∀ {q e : Str} {k2 : List (List Nat)}, lst q = [47] → lst e = base ++ flat k2 → lst (M q e) = base ++ flat (k2 ++ [[]]) := by
      intro q e k2 hq he
      obtain ⟨p', d', e1, h1, h2⟩ := s_plain (d := e) (w := []) (t := []) (p := q) (by rw [hq]; rfl) ⟨by simp, by simp, by simp⟩ (.inl rfl)
      rw [M_step (by rw [hq]; simp) e1, M_stop h1, h2, he, flat_append]
      simp [flat]
    cases W with
    | nil =>
      have hp1 : lst p = 47 :: w := hp
      cases hA with
      | dot _ =>
        rw [M_step (by rw [hp1]; simp) (s_dot_end hp1), hend c_s hd]
        simp [outL, tailE]
      | up _ =>
        rw [M_step (by rw [hp1]; simp) (s_dd_end hp1), hend c_s (hcut ?_)]
        · simp [outL, tailE]
        · rcases hs with e | ⟨_, e⟩
          · exact .inl e
          · omega
      | down h1 _ =>
        rw [M_step (by rw [hp1]; simp) (s_dd_end hp1), hend c_s (hcut ?_)]
        · simp [outL, tailE]
        · rcases hs with e | ⟨hr, e⟩
          · exact .inl e
          · refine .inr ?_
            rintro rfl
            rcases h1 with h1 | h1
            · rw [hr] at h1; cases h1
            · simp at e; omega
      | push hpl _ _ =>
        obtain ⟨p', d', e1, h1, h2⟩ := s_plain (d := dn) (w := w) (t := []) (p := p) (by rw [hp1, List.append_nil]) hpl (.inl rfl)
        rw [M_step (by rw [hp1]; simp) e1, M_stop h1, h2, hd]
        have ht : tailE [w] = [] := by simp [tailE, hpl.2.1, hpl.2.2]
        rw [ht, List.foldl_cons, List.foldl_nil, outL_plain _ hpl, List.append_nil, flat_append]
        simp [flat]
    | cons v V =>
      have hp1 : lst p = 47 :: (w ++ 47 :: joinL (v :: V)) := hp
      have ht : tailE (w :: v :: V) = tailE (v :: V) := rfl
      have ef : (w :: v :: V).foldl outL k = (v :: V).foldl outL (outL k w) := rfl
      rw [ht, ef]
      cases hA with
      | dot hA' =>
        obtain ⟨p', e1, h1⟩ := s_dot_more (d := dn) (p := p) (u := joinL (v :: V)) hp1
        rw [M_step (by rw [hp1]; simp) e1, run_rooted (v :: V) hA' (by simp) hb hk h1 hd hs, outL_dot]
      | up hA' =>
        obtain ⟨p', e1, h1⟩ := s_dd_more (d := dn) (p := p) (u := joinL (v :: V)) hp1
        have hb0 : base = [] := by
          rcases hs with e | ⟨_, e⟩
          · exact e
          · omega
        rw [M_step (by rw [hp1]; simp) e1, run_rooted (v :: V) hA' (by simp) hb (fun w hw => hk w (List.dropLast_subset _ hw)) h1 (hcut (.inl hb0)) (.inl hb0), outL_dd]
      | @down d2 _ _ h2 hA' =>
        obtain ⟨p', e1, h1⟩ := s_dd_more (d := dn) (p := p) (u := joinL (v :: V)) hp1
        have hs1 : base = [] ∨ k ≠ [] := by
          rcases hs with e | ⟨hr, e⟩
          · exact .inl e
          · refine .inr ?_
            rintro rfl
            rcases h2 with h2 | h2
            · rw [hr] at h2; cases h2
            · simp at e; omega
        have hs2 : base = [] ∨ (r = false ∧ d2 = k.dropLast.length + 1) := by
          rcases hs with e | ⟨hr, e⟩
          · exact .inl e
          · refine .inr ⟨hr, ?_⟩
            rcases h2 with h2 | h2
            · rw [hr] at h2; cases h2
            · rw [dropLast_len]; omega
        rw [M_step (by rw [hp1]; simp) e1, run_rooted (v :: V) hA' (by simp) hb (fun w hw => hk w (List.dropLast_subset _ hw)) h1 (hcut hs1) hs2, outL_dd]
      | push hpl _ hA' =>
        obtain ⟨p', d', e1, h1, h2⟩ := s_plain (d := dn) (w := w) (t := 47 :: joinL (v :: V)) (p := p) (by rw [hp1]; simp) hpl (.inr ⟨_, rfl⟩)
        have hk' : ∀ x ∈ k ++ [w], PlainL x := by
          intro x hx
          rcases List.mem_append.mp hx with hx | hx
          · exact hk x hx
          · rw [List.mem_singleton.mp hx]; exact hpl
        have hd' : lst d' = base ++ flat (k ++ [w]) := by rw [h2, hd, flat_append]; simp [flat]
        have hs' : base = [] ∨ (r = false ∧ d + 1 = (k ++ [w]).length + 1) := by
          rcases hs with e | ⟨hr, e⟩
          · exact .inl e
          · exact .inr ⟨hr, by rw [List.length_append, List.length_singleton, e]⟩
        rw [M_step (by rw [hp1]; simp) e1, run_rooted (v :: V) hA' (by simp) hb hk' h1 hd' hs', outL_plain _ hpl]

/-- unrooted, from the start -/
theorem run_start : ∀ (W : List (List Nat)) {c : Bool} {p dn : Str}, Adm false 0 c W → W ≠ [] → lst p = joinL W → lst dn = [] → lst (M p dn) = joinL (W.foldl outL [] ++ tailE W)
  | [], _, _, _, _, hne, _, _ => absurd rfl hne
  | w :: W, c, p, dn, hA, _, hp, hd => by
    cases W with
    | nil =>
      have hp1 : lst p = w := hp
      cases hA with
      | dot _ =>
        rw [M_step (by rw [hp1]; simp) (i_dots_end (.inl hp1)), M_stop c_e, hd]
        simp [outL, tailE, joinL]
      | up _ =>
        rw [M_step (by rw [hp1]; simp) (i_dots_end (.inr hp1)), M_stop c_e, hd]
        simp [outL, tailE, joinL]
      | push hpl _ _ =>
        have ht : tailE [w] = [] := by simp [tailE, hpl.2.1, hpl.2.2]
        rw [ht, List.foldl_cons, List.foldl_nil, outL_plain _ hpl]
        by_cases h0 : w = []
        · rw [M_stop (by rw [hp1, h0]), hd, h0]; rfl
        · obtain ⟨p', d', e1, h1, h2⟩ := i_plain (d := dn) (w := w) (t := []) (p := p) (by rw [hp1, List.append_nil]) h0 hpl (.inl rfl)
          rw [M_step (by rw [hp1]; exact h0) e1, M_stop h1, h2, hd]
          rfl
    | cons v V =>
      have hp1 : lst p = w ++ 47 :: joinL (v :: V) := hp
      have ht : tailE (w :: v :: V) = tailE (v :: V) := rfl
      have ef : (w :: v :: V).foldl outL [] = (v :: V).foldl outL (outL [] w) := rfl
      rw [ht, ef]
      cases hA with
      | dot hA' =>
        obtain ⟨p', e1, h1⟩ := i_dot_more (d := dn) (p := p) (u := joinL (v :: V)) hp1
        rw [M_step (by rw [hp1]; simp) e1, run_start (v :: V) hA' (by simp) h1 hd, outL_dot]
      | up hA' =>
        obtain ⟨p', e1, h1⟩ := i_dd_more (d := dn) (p := p) (u := joinL (v :: V)) hp1
        rw [M_step (by rw [hp1]; simp) e1, run_start (v :: V) hA' (by simp) h1 hd, outL_dd]
        rfl
      | push hpl _ hA' =>
        rw [outL_plain _ hpl, List.nil_append, fold_cons hA' w rfl rfl, List.cons_append, joinL_cons]
        by_cases h0 : w = []
        · subst h0
          rw [run_rooted (v :: V) (k := []) (base := []) hA' (by simp) (by simp) (fun _ h => by cases h) hp1 (by rw [hd]; rfl) (.inl rfl)]
        · obtain ⟨p', d', e1, h1, h2⟩ := i_plain (d := dn) (w := w) (t := 47 :: joinL (v :: V)) (p := p) hp1 h0 hpl (.inr ⟨_, rfl⟩)
          rw [M_step (by rw [hp1]; simp) e1, run_rooted (v :: V) (k := []) (base := w) hA' (by simp) hpl.1 (fun _ h => by cases h) h1 (by rw [h2, hd]; simp [flat]) (.inr ⟨rfl, rfl⟩)]
end Mine

end
section
open PySem PySem.W PyProof.Rows PySem.Calls
namespace Mine
def slashS : Str := Str.ofString "/"
/-- the output list ahead of its ends -/
def rdsOut (x : Str) : List Str := (Txt.split x (Str.ofString "/")).foldl outStep []
def rdsIns (x : Str) (o : List Str) : List Str :=
  if Txt.startswith x (Str.ofString "/") = true then (match o with | [] => [Str.ofString ""] | y :: r => if (y.length : Int) = 0 then y :: r else Str.ofString "" :: y :: r) else o
def rdsEnd (x : Str) (o : List Str) : List Str := if (Txt.endswith x (Str.ofString "/.") || Txt.endswith x (Str.ofString "/..")) = true then o ++ [Str.ofString ""] else o
def rds (x : Str) : Str := Txt.join (Str.ofString "/") (rdsEnd x (rdsIns x (rdsOut x)))

section
local macro_rules | `(tactic| walk_at "exec For Name Name cons nil") => `(tactic| (k_here; (rename Fr _ _ _ _ => lF'); (with_unfolding_all refine' For_invVF lF' ?k1 ?k2 ?_; (case k1 => exact rfl); (case k2 => exact rfl); k_whole)))
local macro_rules | `(tactic| walk_at "truthy ref") => `(tactic| (k_here; (with_reducible show wpAny _ _ (truthy (Value.ref _)) _ _ _); k_dflt (refine' truthy_made ?k1 ?k2 ?k3 ?_; (case k1 => k_asm); (case k2 => k_mem); (case k3 => first | omega | (simp only [List.length_cons]; omega)); k_whole); intro _; (try dsimp only [List.isEmpty])))
local macro_rules | `(tactic| walk_at "call builtin:list.append") => `(tactic| (k_here; (with_reducible show wpAny _ _ (call (Value.builtin _) [Value.ref _, _]) _ _ _); k_dflt (refine' append_made ?k1 ?k2 ?k3 ?k4 ?_; (case k1 => k_asm); (case k2 => k_asm); (case k3 => k_upd); (case k4 => first | omega | (simp only [List.length_cons, List.length_nil]; omega)); k_whole); intro h' F' N'; (try k_sweep)))
local macro_rules | `(tactic| walk_at "call builtin:list.pop") => `(tactic| (k_here; k_dflt (refine' pop_strs ?k1 ?k2 ?k3 ?k4 ?k5 ?k6 ?_; (case k1 => k_asm); (case k2 => k_asm); (case k4 => k_upd); (case k3 => assumption); (case k5 => assumption); (case k6 => omega); k_whole); intro h' _ _ F' N'; (try k_sweep)))
local macro_rules | `(tactic| walk_at "call builtin:list.insert") => `(tactic| (k_here; k_dflt (refine' insert_made ?k1 ?k2 ?k3 ?k4 ?_; (case k1 => k_asm); (case k2 => k_asm); (case k3 => k_upd); (case k4 => first | omega | (simp only [List.length_cons, List.length_nil]; omega)); k_whole); intro h' F' N'; (try k_sweep)))
local macro_rules | `(tactic| walk_at "call builtin:str.endswith") => `(tactic| (k_here; (with_reducible show wpAny _ _ (call (Value.builtin _) [Value.str _ _, Value.ref _]) _ _ _); k_dflt (refine' endswith2 ?k1 ?k2 ?_; (case k1 => k_asm); (case k2 => k_mem); k_whole)))
local macro_rules | `(tactic| walk_at "subscriptTail Name Constant ref int") => `(tactic| (k_here; k_dflt (refine' item0_made ?k1 ?k2 ?_ ?k3; (case k1 => k_asm); (case k2 => k_mem); (case k3 => with_unfolding_all rfl); k_whole)))
local macro_rules | `(tactic| walk_at "truthy str") => `(tactic| (k_here; (with_reducible show wpAny _ _ (truthy (Value.str _ _)) _ _ _); k_dflt (refine' truthy_text ?k1 ?_; (case k1 => assumption); k_whole); intro _))
local macro_rules | `(tactic| walk_at "call builtin:str.join") => `(tactic| (k_here; k_dflt (refine' join_w ?k1 ?k2 ?k3 ?k4 ?_; (case k1 => k_asm); (case k2 => k_mem); (case k3 => first | exact StrsAre.append' (.cons _ _ (.cons _ _ (by assumption))) (.cons _ _ .nil) | exact StrsAre.append' (.cons _ _ (by assumption)) (.cons _ _ .nil) | exact StrsAre.cons _ _ (.cons _ _ (by assumption)) | exact StrsAre.cons _ _ (by assumption) | exact StrsAre.nil | exact StrsAre.cons _ _ .nil | exact StrsAre.cons _ _ (.cons _ _ .nil)); (case k4 => ((simp only [wt_cons, wt_append, wt_nil, empty_len]); omega)); k_whole); intro _ _))
local macro_rules | `(tactic| walk_at "TPost") => `(tactic| (dsimp only [TPost]))

set_option maxRecDepth 100000 in
set_option maxHeartbeats 8000000 in
theorem rds_at (w : World) (mean : ExcName → Option Value) (mg mb : Str → Option Value) (news : List (Addr × Obj)) (x : Str) (t : Tok) :
    CbClaim PySem.Challenge.rw_fe0287_01.row.prog w (hd.heap_39 w.params) hd.view_39 (looseW hd.view_39 []) mean mg mb 21 news [] (x.length ≤ 1000000) [.str x t] (fun t => .str (rds x) t) := by
  w_top off
  k_fill
  dsimp only [CbClaim, CbLists, CbRet]
  intro dp un gd cn cs a ccd cl outer A₀ base h₀ L m s Q E B F X N T hk hpre hdep hu hret
  refine wpAny_call ?_
  k_dflt cell_enter
  k_steps
  rename_i g L' h4 FG' B' X' T' tk0 l h3 k hsp hst hlen hil h2 O h1 hlt hh F' N'
  have kmk := kstMark
  have hws : wt (l.map (·.1)) = x.length + 1 := by rw [hsp]; exact wt_split x
  have hcount : l.length ≤ 1000001 := by have := wt_len (l.map (·.1)); rw [List.length_map] at this; omega
  dsimp only at N' F'
  dsimp only
  generalize h4.objs.size = S at N' F' hlt ⊢
  refine iter_keep (Str.ofString "segment") (fun i nx => ∃ us n, nx = (O, W.listOf us.toArray n) :: (S, W.listOf (strValues l).toArray 0) :: news ∧ StrsAre us (((l.map (·.1)).take i).foldl outStep []) ∧ us.length ≤ i) rfl (.tail _ (.head _)) F' N' ⟨[], 0, rfl, .nil, Nat.le_refl _⟩ ?_ ?_
  · rintro i v u nx h tk I o hv ⟨us, n, rfl, hus, hul⟩ _ hne hltI F1 N1
    obtain ⟨y, ty, rfl, hy⟩ := StrsAre.item hst i v hv
    have hOI : @LT.lt Nat _ O I := hltI _ (.head _)
    have hSI : @LT.lt Nat _ S I := hltI _ (.tail _ (.head _))
    have hnI : AllLt I news := allLt_of fun p hp => hltI _ (.tail _ (.tail _ hp))
    have hil : i < 1000001 := by
      have h9 := (List.getElem?_eq_some_iff.mp hy).1
      rw [List.length_map] at h9
      omega
    have hul' : us.length ≤ 1000001 := by omega
    have hneI : ∀ us' : List Value, ∀ n' : Nat, ∀ p ∈ (O, W.listOf us'.toArray n') :: (S, W.listOf (strValues l).toArray 0) :: news, p.1 ≠ I := by
      intro us' n' p hp
      rcases List.mem_cons.mp hp with rfl | hp
      · exact Nat.ne_of_lt hOI
      · exact hne p (.tail _ hp)
    clear hltI hne F' N'
    rw [out_take hy]
    try k_fold
    k_steps
    · have e1 : (y == Str.ofString ".") = true := by assumption
      show TEnd _ _ _ _ _ _ _ _
      refine TEnd.intro2 ((O, W.listOf us.toArray n) :: (S, W.listOf (strValues l).toArray 0) :: news) rfl F1 N1 (.head _) (.tail _ (.head _)) (fun p hp => .tail _ hp) (hneI _ _) ⟨⟨us, n, rfl, ?_, by omega⟩, ?_⟩
      · rw [outStep, if_pos (beq_iff_eq.mp e1)]; exact hus
      · intro z hz1 hz2; simp only [if_neg hz1, if_neg hz2]
    · have e1 : (y == Str.ofString ".") = false := by assumption
      have e2 : (y != Str.ofString "..") = true := by assumption
      show TEnd _ _ _ _ _ _ _ _
      refine TEnd.intro2 ((O, W.listOf (us ++ [Value.str y ty]).toArray (n+1)) :: (S, W.listOf (strValues l).toArray 0) :: news) rfl (by assumption) (by assumption) (.head _) (.tail _ (.head _)) (fun p hp => .tail _ hp) (hneI _ _) ⟨⟨_, _, rfl, ?_, by simp; omega⟩, ?_⟩
      · rw [outStep, if_neg (beq_eq_false_iff_ne.mp e1), if_neg (bne_iff_ne.mp e2)]; exact hus.append' (.cons _ _ .nil)
      · intro z hz1 hz2; simp only [if_neg hz1, if_neg hz2]
    · have e1 : (y == Str.ofString ".") = false := by assumption
      have e2 : (y != Str.ofString "..") = false := by assumption
      have e3 : us.isEmpty = true := by assumption
      show TEnd _ _ _ _ _ _ _ _
      refine TEnd.intro2 ((O, W.listOf us.toArray n) :: (S, W.listOf (strValues l).toArray 0) :: news) rfl F1 N1 (.head _) (.tail _ (.head _)) (fun p hp => .tail _ hp) (hneI _ _) ⟨⟨us, n, rfl, ?_, by omega⟩, ?_⟩
      · rw [outStep, if_neg (beq_eq_false_iff_ne.mp e1), if_pos (bne_eq_false_iff_eq.mp e2)]
        have e : us = [] := List.isEmpty_iff.mp e3
        have h2 := strs_dropLast hus
        rw [e] at h2 ⊢
        exact h2
      · intro z hz1 hz2; simp only [if_neg hz1, if_neg hz2]
    · have e1 : (y == Str.ofString ".") = false := by assumption
      have e2 : (y != Str.ofString "..") = false := by assumption
      show TEnd _ _ _ _ _ _ _ _
      refine TEnd.intro2 ((O, W.listOf us.dropLast.toArray (n+1)) :: (S, W.listOf (strValues l).toArray 0) :: news) rfl (by assumption) (by assumption) (.head _) (.tail _ (.head _)) (fun p hp => .tail _ hp) (hneI _ _) ⟨⟨_, _, rfl, ?_, by simp; omega⟩, ?_⟩
      · rw [outStep, if_neg (beq_eq_false_iff_ne.mp e1), if_pos (bne_eq_false_iff_eq.mp e2)]
        exact strs_dropLast hus
      · intro z hz1 hz2; simp only [if_neg hz1, if_neg hz2]
  · rintro u nx h tk ⟨us, n, rfl, hus, hul⟩ _ F1 N1
    dsimp only
    clear F' N'
    try clear hh
    have e0 : (strValues l).length = (l.map (·.1)).length := hst.length
    rw [e0, List.take_length, hsp] at hus
    change StrsAre us (rdsOut x) at hus
    have hw0 : wt (rdsOut x) ≤ x.length + 1 := by
      have h1 := wt_fold (Txt.split x (Str.ofString "/")) []
      rw [wt_split, wt_nil, Nat.zero_add] at h1
      exact h1
    have hul : us.length ≤ 1000001 := by
      have h1 := wt_len (rdsOut x)
      rw [hus.length]
      omega
    have hfin : ∀ o : List Str, rdsEnd x (rdsIns x (rdsOut x)) = o → Txt.join (Str.ofString "/") o = rds x := by
      rintro o rfl; rfl
    generalize hro : rdsOut x = ro at hus hw0
    cases hus with
    | nil =>
      try k_fold
      k_steps
      · rename_i F2 N2 _ _
        rw [hfin _ (by simp only [rdsEnd, rdsIns, hro, *]; rfl)]
        exact hret _ _ _ F2 (fun p hp => N2 p (.tail _ (.tail _ (.tail _ hp))))
      · rename_i F2 N2 _ _
        rw [hfin _ (by simp only [rdsEnd, rdsIns, hro, *]; rfl)]
        exact hret _ _ _ F2 (fun p hp => N2 p (.tail _ (.tail _ (.tail _ hp))))
      · rename_i F2 N2 _ _
        rw [hfin _ (by simp only [rdsEnd, rdsIns, hro, *]; rfl)]
        exact hret _ _ _ F2 (fun p hp => N2 p (.tail _ (.tail _ (.tail _ hp))))
      · rename_i F2 N2 _ _
        rw [hfin _ (by simp only [rdsEnd, rdsIns, hro, *]; rfl)]
        exact hret _ _ _ F2 (fun p hp => N2 p (.tail _ (.tail _ (.tail _ hp))))
    | cons y ty hus' =>
      rw [wt_cons] at hw0
      have hyl : y.length ≤ 1000001 := by omega
      have hul3 := hul
      rw [List.length_cons] at hul3
      try k_fold
      k_steps
      all_goals (
        rename_i F2 N2 _ _
        rw [hfin _ (by simp only [rdsEnd, rdsIns, hro, *]; rfl)]
        exact hret _ _ _ F2 (fun p hp => N2 p (.tail _ (.tail _ (.tail _ hp)))))
end
end Mine

end
section
open PySem PySem.W PyProof.Rows PySem.Calls
namespace Mine
theorem Plain.toL {y : Str} (h : Plain y) : PlainL (lst y) :=
  ⟨h.1, fun e => h.2.1 (lst_inj (e.trans c_d.symm)), fun e => h.2.2.1 (lst_inj (e.trans c_dd.symm))⟩
theorem Reach.adm {r : Bool} {ws : List Str} {d : Nat} {c : Bool} (h : Reach r ws d c) : ∀ {R : List (List Nat)}, Adm r d c R → Adm r 0 false (ws.map lst ++ R) := by
  induction h with
  | nil => intro R hR; exact hR
  | up _ ih => intro R hR; rw [List.map_append, List.map_cons, List.map_nil, List.append_assoc, c_dd]; exact ih (.up hR)
  | down h1 h2 ih => intro R hR; rw [List.map_append, List.map_cons, List.map_nil, List.append_assoc, c_dd]; exact ih (.down h2 hR)
  | dot _ ih => intro R hR; rw [List.map_append, List.map_cons, List.map_nil, List.append_assoc, c_d]; exact ih (.dot hR)
  | @push ws d c y _ hy hn ih =>
    intro R hR
    rw [List.map_append, List.map_cons, List.map_nil, List.append_assoc]
    exact ih (.push hy.toL (fun q => hn ⟨lst_inj (q.1.trans c_e.symm), q.2⟩) hR)
/-- the words of a path, one at least -/
def W0 (ws : List Str) : List (List Nat) := if ws = [] then [[]] else ws.map lst
theorem W0_ne (ws : List Str) : W0 ws ≠ [] := by
  unfold W0
  split
  · simp
  · simpa using by assumption
theorem plain_nil : PlainL [] := ⟨by simp, by simp, by simp⟩
theorem W0_adm {r : Bool} {ws : List Str} {d : Nat} {c : Bool} (h : Reach r ws d c) : Adm r 0 false (W0 ws) := by
  unfold W0
  split
  · exact .push plain_nil (fun q => by cases q.2.2.1) .nil
  · have := h.adm (R := []) .nil
    rwa [List.append_nil] at this
theorem W0_join (ws : List Str) : joinL (ws.map lst) = joinL (W0 ws) := by
  unfold W0
  split
  · rename_i h; subst h; rfl
  · rfl
theorem lst_path (r : Bool) (ws : List Str) : lst (pathOf r ws) = if r = true then 47 :: joinL (W0 ws) else joinL (W0 ws) := by
  unfold pathOf
  rw [lst_append, lst_join, W0_join]
  cases r
  · simp [c_e]
  · simp [c_s]
theorem out_eq (o : List Str) (y : Str) : (outStep o y).map lst = outL (o.map lst) (lst y) := by
  unfold outStep outL
  by_cases h1 : y = Str.ofString "."
  · have e : lst y = [46] := by rw [h1, c_d]
    rw [if_pos h1, if_pos e]
  · have e1 : ¬ lst y = [46] := fun e => h1 (lst_inj (e.trans c_d.symm))
    rw [if_neg h1, if_neg e1]
    by_cases h2 : y = Str.ofString ".."
    · have e : lst y = [46, 46] := by rw [h2, c_dd]
      rw [if_pos h2, if_pos e, List.map_dropLast]
    · have e2 : ¬ lst y = [46, 46] := fun e => h2 (lst_inj (e.trans c_dd.symm))
      rw [if_neg h2, if_neg e2, List.map_append]; rfl
theorem fold_eq : ∀ (ys o : List Str), (ys.foldl outStep o).map lst = (ys.map lst).foldl outL (o.map lst)
  | [], _ => rfl
  | y :: r, o => by
    rw [List.foldl_cons, fold_eq r, out_eq]; rfl
theorem ins_eq (x : Str) (o : List Str) : (rdsIns x o).map lst = if Txt.startswith x (Str.ofString "/") = true then insert0 (o.map lst) else o.map lst := by
  unfold rdsIns
  split
  · cases o with
    | nil => simp [insert0, c_e]
    | cons y r =>
      have hl := lst_length y
      by_cases h : (y.length : Int) = 0
      · have e : lst y = [] := List.length_eq_zero_iff.mp (by omega)
        simp only [if_pos h, List.map_cons, insert0, if_pos e]
      · have e : ¬ lst y = [] := fun e => h (by rw [e] at hl; simp at hl; omega)
        simp only [if_neg h, List.map_cons, insert0, if_neg e, c_e]
  · rfl
theorem joinL_snoc {W : List (List Nat)} (h : W ≠ []) (w : List Nat) : joinL (W ++ [w]) = joinL W ++ 47 :: w := by
  cases W with
  | nil => exact absurd rfl h
  | cons v r => rw [List.cons_append, joinL_cons, joinL_cons, flat_append]; simp [flat]
theorem tailE_snoc (W : List (List Nat)) (w : List Nat) : tailE (W ++ [w]) = if w = [46] ∨ w = [46, 46] then [[]] else [] := by
  induction W with
  | nil => rfl
  | cons v r ih =>
    cases r with
    | nil => rfl
    | cons v2 r2 => exact ih
def tail2 (W : List (List Nat)) : List (List Nat) := if 2 ≤ W.length then tailE W else []
theorem ends_words {W : List (List Nat)} {e : List Nat} (hf : ∀ w ∈ W, 47 ∉ w) (he : 47 ∉ e) : (∃ t, joinL W = t ++ 47 :: e) ↔ ∃ W', W' ≠ [] ∧ W = W' ++ [e] := by
  constructor
  · rintro ⟨t, ht⟩
    rcases List.eq_nil_or_concat W with rfl | ⟨W', w, rfl⟩
    · simp [joinL] at ht
    · rw [List.concat_eq_append] at ht hf ⊢
      cases W' with
      | nil =>
        exfalso
        have h1 : w = t ++ 47 :: e := ht
        exact hf w (by simp) (by rw [h1]; simp)
      | cons v r =>
        rw [joinL_snoc (by simp)] at ht
        obtain ⟨_, h2⟩ := last_one ht (hf w (by simp)) he
        exact ⟨v :: r, by simp, by rw [h2]⟩
  · rintro ⟨W', h1, rfl⟩
    exact ⟨joinL W', joinL_snoc h1 e⟩
theorem end_eq {x : Str} {W : List (List Nat)} (hne : W ≠ []) (hf : ∀ w ∈ W, 47 ∉ w) (h : lst x = joinL W) (o : List Str) : (rdsEnd x o).map lst = o.map lst ++ tail2 W := by
  have k1 : (Txt.endswith x (Str.ofString "/.") = true) ↔ ∃ W', W' ≠ [] ∧ W = W' ++ [[46]] := by
    rw [ends_iff, h, ← ends_words hf d_free, c_sd]
  have k2 : (Txt.endswith x (Str.ofString "/..") = true) ↔ ∃ W', W' ≠ [] ∧ W = W' ++ [[46, 46]] := by
    rw [ends_iff, h, ← ends_words hf dd_free, c_sdd]
  have k : ((Txt.endswith x (Str.ofString "/.") || Txt.endswith x (Str.ofString "/..")) = true) ↔ ((∃ W', W' ≠ [] ∧ W = W' ++ [[46]]) ∨ ∃ W', W' ≠ [] ∧ W = W' ++ [[46, 46]]) := by
    rw [Bool.or_eq_true, k1, k2]
  unfold rdsEnd
  obtain ⟨W', w, rfl⟩ : ∃ W' w, W = W' ++ [w] := by
    rcases List.eq_nil_or_concat W with rfl | ⟨W', w, rfl⟩
    · exact absurd rfl hne
    · exact ⟨W', w, List.concat_eq_append⟩
  unfold tail2
  rw [tailE_snoc, List.length_append, List.length_singleton]
  cases W' with
  | nil =>
    rw [if_neg (fun q => ?_), if_neg (by simp), List.append_nil]
    rcases k.mp q with ⟨V, hV, e⟩ | ⟨V, hV, e⟩
    · cases V with
      | nil => exact hV rfl
      | cons a V => simp at e
    · cases V with
      | nil => exact hV rfl
      | cons a V => simp at e
  | cons v r =>
    rw [if_pos (by simp : 2 ≤ (v :: r).length + 1)]
    by_cases hw : w = [46] ∨ w = [46, 46]
    · have hk := k.mpr (hw.imp (fun e => ⟨v :: r, by simp, by rw [e]⟩) (fun e => ⟨v :: r, by simp, by rw [e]⟩))
      rw [if_pos hw, if_pos hk, List.map_append]
      simp [c_e]
    · rw [if_neg hw, if_neg (fun q => ?_), List.append_nil]
      rcases k.mp q with ⟨V, hV, e⟩ | ⟨V, hV, e⟩
      · exact hw (.inl (List.cons.inj (List.append_inj_right' e rfl)).1)
      · exact hw (.inr (List.cons.inj (List.append_inj_right' e rfl)).1)
/-- what the function gives, on words -/
theorem rds_eq {x : Str} {W : List (List Nat)} (hne : W ≠ []) (hf : ∀ w ∈ W, 47 ∉ w) (h : lst x = joinL W) :
    lst (rds x) = joinL ((if Txt.startswith x (Str.ofString "/") = true then insert0 (W.foldl outL []) else W.foldl outL []) ++ tail2 W) := by
  unfold rds
  rw [lst_join, end_eq hne hf h, ins_eq]
  unfold rdsOut
  rw [fold_eq, split_of hne hf h]
  rfl
end Mine

end
section
open PySem PySem.W PyProof.Rows PySem.Calls
namespace Mine
theorem starts_slash {x : Str} {W : List (List Nat)} (hf : ∀ w ∈ W, 47 ∉ w) (h : lst x = joinL W) : Txt.startswith x (Str.ofString "/") = true ↔ ∃ R, R ≠ [] ∧ W = [] :: R := by
  rw [starts_iff, h, c_s]
  constructor
  · rintro ⟨t, ht⟩
    cases W with
    | nil => simp [joinL] at ht
    | cons w R =>
      rw [joinL_cons] at ht
      cases w with
      | nil =>
        refine ⟨R, ?_, rfl⟩
        rintro rfl
        simp [flat] at ht
      | cons a w =>
        exfalso
        have h1 : a = 47 := (List.cons.inj ht).1
        exact hf (a :: w) (by simp) (by rw [h1]; simp)
  · rintro ⟨R, hR, rfl⟩
    exact ⟨joinL R, by rw [joinL_cons, flat_joinL hR]; rfl⟩
theorem tail2_cons {w : List Nat} {R : List (List Nat)} (h : R ≠ []) : tail2 (w :: R) = tailE R := by
  cases R with
  | nil => exact absurd rfl h
  | cons v r => rfl
theorem tailE_plain : ∀ {W : List (List Nat)}, (∀ w ∈ W, PlainL w) → tailE W = []
  | [], _ => rfl
  | [w], h => by have := h w (by simp); simp [tailE, this.2.1, this.2.2]
  | _ :: v :: r, h => tailE_plain (W := v :: r) fun w hw => h w (.tail _ hw)
theorem tailE_sub (W : List (List Nat)) : ∀ w ∈ tailE W, PlainL w := by
  rcases List.eq_nil_or_concat W with rfl | ⟨V, v, rfl⟩
  · intro w hw; cases hw
  · rw [List.concat_eq_append, tailE_snoc]
    intro w hw
    split at hw
    · rw [List.mem_singleton.mp hw]; exact plain_nil
    · cases hw
theorem fold_all : ∀ {W o : List (List Nat)}, (∀ w ∈ W, PlainL w) → W.foldl outL o = o ++ W
  | [], o, _ => by simp
  | w :: r, o, h => by
    rw [List.foldl_cons, outL_plain _ (h w (by simp)), fold_all fun v hv => h v (.tail _ hv)]
    simp
/-- a text of plain words stays as it is -/
theorem rds_plain {z : Str} {F : List (List Nat)} (hne : F ≠ []) (hp : ∀ w ∈ F, PlainL w) (h : lst z = joinL F) : rds z = z := by
  have hf : ∀ w ∈ F, 47 ∉ w := fun w hw => (hp w hw).1
  apply lst_inj
  rw [rds_eq hne hf h, fold_all hp, List.nil_append]
  have ht : tail2 F = [] := by
    unfold tail2
    rw [tailE_plain hp]; simp
  rw [ht, List.append_nil, h]
  split
  · rename_i hs
    obtain ⟨R, _, rfl⟩ := (starts_slash hf h).mp hs
    simp [insert0]
  · rfl
theorem rooted_law {y : Str} {W : List (List Nat)} (hA : Adm true 0 false W) (hne : W ≠ []) (h : lst y = 47 :: joinL W) :
    lst (rds y) = flat (W.foldl outL [] ++ tailE W) ∧ lst (mach y) = flat (W.foldl outL [] ++ tailE W) := by
  constructor
  · have hy : lst y = joinL ([] :: W) := by rw [h, joinL_cons, flat_joinL hne]; rfl
    have hf : ∀ w ∈ ([] : List Nat) :: W, 47 ∉ w := by
      intro w hw
      rcases List.mem_cons.mp hw with rfl | hw
      · simp
      · exact hA.free w hw
    rw [rds_eq (by simp) hf hy, if_pos ((starts_slash hf hy).mpr ⟨W, hne, rfl⟩), tail2_cons hne, List.foldl_cons, outL_plain _ plain_nil, List.nil_append,
      ins_rooted hA (k := []) rfl rfl rfl, List.cons_append, joinL_cons]
    rfl
  · rw [mach_M]
    have := run_rooted W (k := []) (base := []) (p := y) (dn := Str.ofString "") hA hne (by simp) (fun _ hw => by cases hw) h (by rw [c_e]; rfl) (.inl rfl)
    rw [this]; rfl
theorem loose_law {y : Str} {W : List (List Nat)} (hA : Adm false 0 false W) (hne : W ≠ []) (h : lst y = joinL W) :
    lst (rds y) = joinL (W.foldl outL [] ++ tailE W) ∧ lst (mach y) = joinL (W.foldl outL [] ++ tailE W) := by
  constructor
  · have hf := hA.free
    rw [rds_eq hne hf h]
    have h1 : (if Txt.startswith y (Str.ofString "/") = true then insert0 (W.foldl outL []) else W.foldl outL []) = W.foldl outL [] := by
      split
      · rename_i hs
        obtain ⟨R, _, rfl⟩ := (starts_slash hf h).mp hs
        cases hA with
        | push _ _ hA' =>
          rw [List.foldl_cons, outL_plain _ plain_nil, List.nil_append, fold_cons hA' [] rfl rfl]
          simp [insert0]
      · rfl
    rw [h1]
    cases W with
    | nil => exact absurd rfl hne
    | cons w R =>
      cases R with
      | nil =>
        have e : tail2 [w] = [] := rfl
        rw [e, List.append_nil]
        by_cases hw : w = [46] ∨ w = [46, 46]
        · have e2 : [w].foldl outL [] = [] := by rcases hw with rfl | rfl <;> simp [outL]
          rw [e2]
          simp [tailE, hw, joinL]
        · simp [tailE, hw]
      | cons v r => rfl
  · rw [mach_M]
    exact run_start W hA hne h c_e
theorem mrun_le : ∀ (n : Nat) (p d : Str), (mrun n p d).length ≤ p.length + d.length
  | 0, _, _ => by simp [mrun]
  | n + 1, p, d => by
    unfold mrun
    split
    · rename_i hp
      have h1 := (mstep_bounds p d hp).2
      have h2 := mrun_le n (mstep p d).1 (mstep p d).2
      omega
    · omega
theorem mach_le (x : Str) : (mach x).length ≤ x.length := by
  have := mrun_le (x.length + 1) x (Str.ofString "")
  rw [empty_len] at this
  exact this
theorem path_le {r : Bool} {ws : List Str} {d : Nat} {c : Bool} (h : Reach r ws d c) (hl : ws.length ≤ 61) : (pathOf r ws).length ≤ 1000 := by
  have h1 := h.short
  have h2 := join_le ws
  unfold pathOf
  rw [PySem.Str.length_append]
  have h3 : (if r = true then Str.ofString "/" else Str.ofString "").length ≤ 1 := by
    cases r
    · simp [empty_len]
    · simp [slash_len]
  omega
theorem good_law (y : Str) (h : GoodP y) : y.length ≤ 1000000 ∧ (rds y).length ≤ 1000000 ∧ rds y = mach y ∧ rds (rds y) = rds y := by
  obtain ⟨r, ws, d, c, hr, hl, rfl⟩ := h
  have hlen := path_le hr hl
  have hA := W0_adm hr
  have hne := W0_ne ws
  have hp := lst_path r ws
  have hk := fold_plain hA (k := []) (fun _ hw => by cases hw)
  have hall : ∀ w ∈ (W0 ws).foldl outL [] ++ tailE (W0 ws), PlainL w := by
    intro w hw
    rcases List.mem_append.mp hw with hw | hw
    · exact hk w hw
    · exact tailE_sub _ w hw
  have key : rds (pathOf r ws) = mach (pathOf r ws) ∧ rds (rds (pathOf r ws)) = rds (pathOf r ws) := by
    cases r with
    | true =>
      rw [if_pos rfl] at hp
      obtain ⟨h1, h2⟩ := rooted_law hA hne hp
      refine ⟨lst_inj (h1.trans h2.symm), ?_⟩
      refine rds_plain (F := [] :: ((W0 ws).foldl outL [] ++ tailE (W0 ws))) (by simp) ?_ (by rw [h1, joinL_cons]; rfl)
      intro w hw
      rcases List.mem_cons.mp hw with rfl | hw
      · exact plain_nil
      · exact hall w hw
    | false =>
      rw [if_neg Bool.false_ne_true] at hp
      obtain ⟨h1, h2⟩ := loose_law hA hne hp
      refine ⟨lst_inj (h1.trans h2.symm), ?_⟩
      by_cases he : (W0 ws).foldl outL [] ++ tailE (W0 ws) = []
      · rw [he] at h1
        refine rds_plain (F := [[]]) (by simp) ?_ (by rw [h1]; rfl)
        intro w hw
        rw [List.mem_singleton.mp hw]; exact plain_nil
      · exact rds_plain he hall h1
  have hm := mach_le (pathOf r ws)
  refine ⟨by omega, ?_, key.1, key.2⟩
  rw [key.1]; omega
end Mine

end
section
open PySem PySem.W PyProof.Rows PySem.Calls
namespace Mine
abbrev MSt := Str × Tok × Str × Tok
def Pm (x p d : Str) : Prop := p.length + d.length ≤ x.length ∧ ∃ n, p.length < n ∧ mrun n p d = mach x
theorem Pm.start (x : Str) : Pm x x (Str.ofString "") := ⟨by rw [empty_len]; omega, x.length + 1, by omega, rfl⟩
theorem Pm.next {x p d p' d' : Str} (h : Pm x p d) (hp : (p != Str.ofString "") = true) (e : mstep p d = (p', d')) : Pm x p' d' ∧ p'.length < p.length := by
  obtain ⟨h1, n, h2, h3⟩ := h
  obtain ⟨b1, b2⟩ := mstep_bounds p d hp
  rw [e] at b1 b2
  dsimp only at b1 b2
  refine ⟨⟨by omega, ?_⟩, b1⟩
  cases n with
  | zero => omega
  | succ k =>
    refine ⟨k, by omega, ?_⟩
    rw [← h3, mrun, if_pos hp, e]
theorem Pm.stop {x p d : Str} (h : Pm x p d) (hp : (p != Str.ofString "") = false) : d = mach x := by
  obtain ⟨h1, n, h2, h3⟩ := h
  rw [← h3]
  cases n with
  | zero => rfl
  | succ k => rw [mrun, if_neg (by rw [hp]; exact Bool.false_ne_true)]
theorem place_ne {z : Str} (h3 : [Str.ofString "place"].contains z = false) : z ≠ Str.ofString "place" := by
  intro e
  rw [e] at h3
  exact absurd h3 (by decide +kernel)
section
local macro_rules | `(tactic| walk_at "exec While Compare cons nil") => `(tactic| (k_here; (with_reducible show wpAny _ _ (exec (Stmt.While _ _ _ _) _) _ _ _); refine stop_here ?_))
set_option maxRecDepth 100000 in
set_option maxHeartbeats 8000000 in
theorem mach_at (w : World) (mean : ExcName → Option Value) (mg mb : Str → Option Value) (news : List (Addr × Obj)) (x : Str) (t : Tok) :
    CbClaim PySem.Challenge.rw_fe0287_01.row.prog w (hd.heap_39 w.params) hd.view_39 (looseW hd.view_39 []) mean mg mb 42 news [] (x.length ≤ 1000000) [.str x t] (fun t => .str (mach x) t) := by
  w_top off
  k_fill
  dsimp only [CbClaim, CbLists, CbRet]
  intro dp un gd cn cs a ccd cl outer A₀ base h₀ L m s Q E B F X N T hk hpre hdep hu hret
  refine wpAny_call ?_
  k_dflt cell_enter
  k_steps
  have kmk := kstMark
  rename_i g L' h4 FG' B' X' T' h5 F' N'
  refine Stop.mk ?_
  refine ksw_while (σ := MSt) (fun _ => news) (fun c => [(Str.ofString "path", .str c.1 c.2.1), (Str.ofString "done", .str c.2.2.1 c.2.2.2)]) (fun _ => True) [Str.ofString "place"] (fun c => Pm x c.1 c.2.2.1) (fun c => c.1.length) (x, t, Str.ofString "", tk) F' N' trivial ?_ (Pm.start x) ?_
  · kst_all
  · rintro ⟨path, tp, done, td⟩ u h tk _ hP F1 N1
    dsimp only at hP F1
    have hP1 : path.length + done.length ≤ x.length := hP.1
    clear F' N'
    try k_fold
    k_steps
    all_goals first
      | ((rename News _ _ _ _ => nE'); (refine' ksw_end (⟨_, _, _, _⟩ : MSt) (by assumption) nE' ?hn trivial ?hk ?hr ?hp ?hm); (case hk => kst_all); (case hn => first | exact fun p hp => hp | exact fun p hp => .tail _ hp); (case hr => (intro z h2 h3; (have a : z ≠ Str.ofString "path" := h2 _ (.head _)); (have b : z ≠ Str.ofString "done" := h2 _ (.tail _ (.head _))); (have c : z ≠ Str.ofString "place" := place_ne h3); simp only [if_neg a, if_neg b, if_neg c, kstB, h3, Bool.false_eq_true, if_false])); (case hp => exact (hP.next (by assumption) (by simp only [mstep, *, if_true, if_false, Bool.false_eq_true] <;> rfl)).1); (case hm => exact (hP.next (by assumption) (by simp only [mstep, *, if_true, if_false, Bool.false_eq_true] <;> rfl)).2))
      | skip
    · rename_i kF kN _ _
      have e : done = mach x := hP.stop (by assumption)
      subst e
      exact hret _ _ _ kF kN
end
end Mine

end
section
open PySem PySem.W PyProof.Rows PySem.Calls
namespace Mine
structure PS where
  W : Addr
  wus : List Value
  wn : Nat
  wys : List Str
  us : List Value
  n : Nat
  ys : List Str
  r : Bool
  d : Int
  dt : Tok
  c : Bool
def PS.Ok (P N2 : Addr) (news : List (Addr × Obj)) (i : Nat) (q : PS) : Prop :=
  StrsAre q.wus q.wys ∧ StrsAre q.us q.ys ∧ (∃ dn : Nat, q.d = (dn : Int) ∧ Reach q.r q.wys dn q.c) ∧ (∀ y ∈ q.ys, GoodP y) ∧ q.wus.length ≤ i ∧ q.us.length ≤ i ∧ @Ne Nat q.W P ∧ @Ne Nat q.W N2 ∧ AllLt q.W news
theorem word_ne {z : Str} (h3 : [Str.ofString "word"].contains z = false) : z ≠ Str.ofString "word" := by
  intro e
  rw [e] at h3
  exact absurd h3 (by decide +kernel)
section
local macro_rules | `(tactic| walk_at "exec For Name BinOp cons nil") => `(tactic| (k_here; (rename Fr _ _ _ _ => lF'); (with_unfolding_all refine' For_invVF lF' ?k1 ?k2 ?_; (case k1 => exact rfl); (case k2 => exact rfl); k_whole)))
local macro_rules | `(tactic| walk_at "pyIter ref") => `(tactic| (k_here; refine stop_here ?_))
local macro_rules | `(tactic| walk_at "binaryOp Add ref ref") => `(tactic| (k_here; refine stop_here ?_))
local macro_rules | `(tactic| walk_at "subscriptTail Call BinOp ref int") => `(tactic| (k_here; refine stop_here ?_))
local macro_rules | `(tactic| walk_at "subscriptTail Call") => `(tactic| (k_here; refine stop_here ?_))
local macro_rules | `(tactic| walk_at "call builtin:str.join") => `(tactic| (k_here; k_dflt (refine' join_w ?k1 ?k2 ?k3 ?k4 ?_; (case k1 => k_asm); (case k2 => k_mem); (case k3 => assumption); (case k4 => assumption); k_whole); intro _ _))
local macro_rules | `(tactic| walk_at "TPost") => `(tactic| (dsimp only [TPost]))
local macro_rules | `(tactic| k_room) => `(tactic| ktr_room)
set_option maxRecDepth 100000 in
set_option maxHeartbeats 8000000 in
theorem paths_at (w : World) (mean : ExcName → Option Value) (mg mb : Str → Option Value) (news : List (Addr × Obj)) (l : Addr) (vs : List Value) (nn : Nat) (ns : List Int) (hI : IntsAre vs ns) (hlen : ns.length ≤ 60) (hl : (l, listOf vs.toArray nn) ∈ news)
    (dp un : Nat) (gd : Option (List Code)) (cn : Str) (cs : Scope) (a : Addr) (ccd : Value) (cl : List (Str × Addr)) (outer : List Env) (A₀ : Around) (base h₀ : Heap) (L : Addr) (m : Str → Option Value) (s : Shared) (Q E : Value → Shared → Prop)
    (B : Below A₀ base outer h₀) (F : Fr h₀ L s.heap m) (X : (hd.heap_39 w.params).In h₀) (N : News h₀ L s.heap news) (T : Top hd.view_39 (looseW hd.view_39 []) mean mg mb h₀) (hk : cs.kind = .function)
    (hdep : dp + 2 < recursionLimit) (hu : un + 9 < cLine)
    (hret : ∀ (h' : Heap) (tk' : Nat) (D : Addr) (us : List Value) (n : Nat) (ys : List Str), Fr h₀ L h' m → News h₀ L h' ((D, listOf us.toArray n) :: news) → StrsAre us ys → (∀ y ∈ ys, GoodP y) → AllLt D news → Q (.ref D) { s with heap := h', toks := tk' }) :
    wpAny (model PySem.Challenge.rw_fe0287_01.row.prog w) (ktrTop dp un gd cn cs L a ccd cl outer) (call (.ref 35) [.ref l]) Q E s := by
  have X2 : (hd.heap_39 w.params).In h₀ := X
  revert X2
  w_top off
  k_fill
  intro X2
  refine wpAny_call ?_
  k_dflt cell_enter
  k_steps
  refine Stop.mk ?_
  rename_i g L' _ FG' B' X' T' _ P _ hPn _ tk0 W0 _ hW0 D0 _ hD0 _ _ _ _ _ N1 _ F' N' hN1
  refine kmk_add_ints F' N' ⟨_, (N' _ (.tail _ (.tail _ (.tail _ (.tail _ hl))))).1, rfl, nn, rfl⟩ ⟨_, (N' _ (.head _)).1, rfl, 0, rfl⟩ hI (ms := [9]) (.cons _ _ .nil) ?_ (by rw [sizeLine_eq]; simp; omega)
  intro N2 us2 h2 F2 N2' hN2 hI2
  dsimp only
  clear F' N'
  try k_fold
  k_steps
  refine Stop.mk ?_
  have kmk := kstMark
  have hPN : @LT.lt Nat _ P N2 := hN2 _ (.tail _ (.tail _ (.tail _ (.head _))))
  have hWN : @LT.lt Nat _ W0 N2 := hN2 _ (.tail _ (.tail _ (.head _)))
  have hnN : AllLt N2 news := allLt_of fun p hp => hN2 _ (.tail _ (.tail _ (.tail _ (.tail _ hp))))
  have hPW : @LT.lt Nat _ P W0 := hW0.1
  have hnP : AllLt P news := allLt_of hPn
  have hnW : AllLt W0 news := hW0.2
  have hulen : us2.length ≤ 61 := by have := hI2.length; rw [List.length_append] at this; simp at this; omega
  refine iter_st (σ := PS) (fun q => (q.W, PySem.W.listOf q.wus.toArray q.wn) :: (P, PySem.W.listOf q.us.toArray q.n) :: (N2, PySem.W.listOf us2.toArray 0) :: news) (fun q => [(Str.ofString "climbed", .bool q.c), (Str.ofString "depth", .int q.d q.dt), (Str.ofString "rooted", .bool q.r), (Str.ofString "words", .ref q.W)]) [Str.ofString "word"] (PS.Ok P N2 news)
    ⟨W0, [], 0, [], [], 0, [], true, 0, tk0, false⟩ rfl (fun q => .tail _ (.tail _ (.head _))) F2 N2' ?_ ?_ ?_ ?_ ?_
  · intro p hp
    rcases List.mem_cons.mp hp with rfl | hp
    · exact .tail _ (.tail _ (.tail _ (.head _)))
    rcases List.mem_cons.mp hp with rfl | hp
    · exact .tail _ (.tail _ (.tail _ (.tail _ (.head _))))
    rcases List.mem_cons.mp hp with rfl | hp
    · exact .head _
    · exact .tail _ (.tail _ (.tail _ (.tail _ (.tail _ hp))))
  · kst_all
  · exact ⟨.nil, .nil, ⟨0, rfl, .nil true⟩, (fun _ hy => nomatch hy), Nat.le_refl _, Nat.le_refl _, Nat.ne_of_gt hPW, Nat.ne_of_lt hWN, hnW⟩
  · rintro ⟨W, wus, wn, wys, us, n, ys, r, d, dt, c⟩ i v u h tk I o hv hok hne hlt F3 N3
    obtain ⟨num, t3, rfl, hnum⟩ := hI2.at i v hv
    have hWI : @Ne Nat W I := hne _ (.head _)
    have hPI : @LT.lt Nat _ P I := hlt _ (.tail _ (.head _))
    have hNI : @LT.lt Nat _ N2 I := hlt _ (.tail _ (.tail _ (.head _)))
    have hnI : AllLt I news := allLt_of fun p hp => hlt _ (.tail _ (.tail _ (.tail _ hp)))
    have hi : i < 61 := by
      have h9 := (List.getElem?_eq_some_iff.mp hv).1
      omega
    obtain ⟨hws, hus, ⟨dn, rfl, hre⟩, hgood, hwl, hul, hWP, hWN2, hWn⟩ := id hok
    dsimp only at F3 N3 hws hus hre hgood hwl hul hWP hWN2 hWn
    have hneI : ∀ (wus' : List Value) (wn' : Nat) (us' : List Value) (n' : Nat), ∀ p ∈ (W, PySem.W.listOf wus'.toArray wn') :: (P, PySem.W.listOf us'.toArray n') :: (N2, PySem.W.listOf us2.toArray 0) :: news, p.1 ≠ I := by
      intro wus' wn' us' n' p hp
      rcases List.mem_cons.mp hp with rfl | hp
      · exact hWI
      rcases List.mem_cons.mp hp with rfl | hp
      · exact Nat.ne_of_lt hPI
      · exact hne p (.tail _ (.tail _ hp))
    have hwt : wt wys ≤ 16777216 := by
      have a1 := hre.short
      have a2 := hws.length
      omega
    have hjl : (Txt.join (Str.ofString "/") wys).length ≤ 250 := by
      have a1 := hre.short
      have a2 := hws.length
      have a3 := join_le wys
      omega
    clear hne hlt F2 N2'
    try k_fold
    k_steps
    refine Stop.mk ?_
    have hk0 := fmod_lo num (n := 10) (by decide)
    have hk1 := fmod_hi num (n := 10) (by decide)
    rcases tab_item hk0 hk1 _ _ _ _ _ _ _ _ _ with hv1 | ⟨y, ty, hv1, hyt⟩
    · refine item_any (by assumption) (.head _) hk0 (by omega) hv1 ?_
      clear hv1
      have hgo : GoodP (pathOf r wys) := ⟨r, wys, dn, c, hre, by have := hws.length; omega, rfl⟩
      cases r
      all_goals (
        (try k_fold)
        k_steps
        rename_i W1 _ hW1 D1 _ hD1 _ _ _ _ _ F5 N5
        simp only [List.push_toArray] at N5
        (refine TEnd.st (⟨W1, [], 0, [], us ++ [.str _ _], n + 1, ys ++ [_], _, 0, _, false⟩ : PS) rfl F5 N5 (.tail _ (.tail _ (.tail _ (.head _)))) (.tail _ (.tail _ (.head _)))
          (List.forall_mem_cons.mpr ⟨.tail _ (.head _), List.forall_mem_cons.mpr ⟨.tail _ (.tail _ (.tail _ (.tail _ (.tail _ (.head _))))), fun p hp => .tail _ (.tail _ (.tail _ (.tail _ (.tail _ (.tail _ hp)))))⟩⟩)
          (List.forall_mem_cons.mpr ⟨Nat.ne_of_gt hW1.2.1, fun p hp => hneI wus wn _ _ p (.tail _ hp)⟩)
          ⟨.nil, hus.append' (.cons _ _ .nil), ⟨0, rfl, .nil _⟩, ?hg, Nat.zero_le _, (by simp; omega), (by dsimp only; omega), (by dsimp only; omega), hW1.2.2.2.2.2⟩ (by kst_all) ?hr)
        (case hr =>
          intro z hz h2 h3
          have a1 : z ≠ Str.ofString "climbed" := h2 _ (.head _)
          have a2 : z ≠ Str.ofString "depth" := h2 _ (.tail _ (.head _))
          have a3 : z ≠ Str.ofString "rooted" := h2 _ (.tail _ (.tail _ (.head _)))
          have a4 : z ≠ Str.ofString "words" := h2 _ (.tail _ (.tail _ (.tail _ (.head _))))
          have a5 : z ≠ Str.ofString "word" := word_ne h3
          simp only [if_neg hz, if_neg a1, if_neg a2, if_neg a3, if_neg a4, if_neg a5, kstB, h3, Bool.false_eq_true, if_false])
        (case hg =>
          intro y hy
          rcases List.mem_append.mp hy with hy | hy
          · exact hgood y hy
          · rw [List.mem_singleton.mp hy]
            exact hgo))
    · refine item_any (by assumption) (.head _) hk0 (by omega) hv1 ?_
      clear hv1
      try k_fold
      k_steps
      all_goals (
        (rename News _ _ _ _ => nE')
        (try simp only [List.push_toArray] at nE')
        (refine TEnd.st (⟨W, wus ++ [.str _ _], wn + 1, wys ++ [_], us, n, ys, r, _, _, _⟩ : PS) rfl (by assumption) nE' (.tail _ (.head _)) (.tail _ (.tail _ (.head _))) (List.forall_mem_cons.mpr ⟨.tail _ (.tail _ (.head _)), fun p hp => .tail _ (.tail _ (.tail _ hp))⟩) (hneI _ _ _ _) ⟨hws.append' (.cons _ _ .nil), hus, ?hp, hgood, (by simp; omega), (by dsimp only; omega), hWP, hWN2, hWn⟩ (by kst_all) ?hr)
        (case hr =>
          intro z hz h2 h3
          have a1 : z ≠ Str.ofString "climbed" := h2 _ (.head _)
          have a2 : z ≠ Str.ofString "depth" := h2 _ (.tail _ (.head _))
          have a3 : z ≠ Str.ofString "rooted" := h2 _ (.tail _ (.tail _ (.head _)))
          have a4 : z ≠ Str.ofString "words" := h2 _ (.tail _ (.tail _ (.tail _ (.head _))))
          have a5 : z ≠ Str.ofString "word" := word_ne h3
          simp only [if_neg hz, if_neg a1, if_neg a2, if_neg a3, if_neg a4, if_neg a5, kstB, h3, Bool.false_eq_true, if_false])
        (case hp =>
          dsimp only
          first
            | exact r_up (by assumption) (by assumption) hre
            | exact r_down (by assumption) (by assumption) (by first | exact .inl (by assumption) | exact .inr (by assumption)) hre
            | exact r_dot (by assumption) hre
            | exact r_push hyt (by assumption) (by assumption) (by rintro ⟨q1, q2, q3, q4⟩; simp_all) hre
            | exact r_b hre))
  · rintro ⟨W, wus, wn, wys, us, n, ys, r, d, dt, c⟩ u h tk ⟨hws, hus, _, hgood, _, _, _, _, _⟩ F3 N3
    dsimp only at F3 N3 hus hgood
    dsimp only
    clear F2 N2'
    try k_fold
    k_steps
    rename_i kF kN _ _
    refine hret _ _ P us n ys kF (fun p hp => kN p ?_) hus hgood hnP
    rcases List.mem_cons.mp hp with rfl | hp
    · exact .tail _ (.head _)
    · exact .tail _ (.tail _ (.tail _ hp))
end
end Mine

end
section
open PySem PySem.W PyProof.Rows PySem.Calls
namespace Mine
theorem rds_call {w : World} {mean : ExcName → Option Value} {mg mb : Str → Option Value} {news : List (Addr × Obj)} {x : Str} {t : Tok} {dp un : Nat} {gd : Option (List Code)} {cn : Str} {cs : Scope} {a : Addr} {ccd : Value} {cl : List (Str × Addr)} {outer : List Env} {A₀ : Around} {base h₀ : Heap} {L : Addr} {m : Str → Option Value} {s : Shared} {Q E : Value → Shared → Prop}
    (B : Below A₀ base outer h₀) (F : Fr h₀ L s.heap m) (X : (hd.heap_39 w.params).In h₀) (N : News h₀ L s.heap news) (T : Top hd.view_39 (looseW hd.view_39 []) mean mg mb h₀) (hk : cs.kind = .function) (hl : x.length ≤ 1000000) (hdep : dp + 1 < recursionLimit) (hu : un + 8 < cLine)
    (hret : ∀ t' h' tk', Fr h₀ L h' m → News h₀ L h' news → Q (.str (rds x) t') { s with heap := h', toks := tk' }) :
    wpAny (model PySem.Challenge.rw_fe0287_01.row.prog w) (ktrTop dp un gd cn cs L a ccd cl outer) (call (.ref 21) [.str x t]) Q E s := by
  have h := rds_at w mean mg mb news x t
  dsimp only [CbClaim, CbLists, CbRet] at h
  exact h dp un gd cn cs a ccd cl outer A₀ base h₀ L m s Q E B F X N T hk hl hdep hu hret
theorem mach_call {w : World} {mean : ExcName → Option Value} {mg mb : Str → Option Value} {news : List (Addr × Obj)} {x : Str} {t : Tok} {dp un : Nat} {gd : Option (List Code)} {cn : Str} {cs : Scope} {a : Addr} {ccd : Value} {cl : List (Str × Addr)} {outer : List Env} {A₀ : Around} {base h₀ : Heap} {L : Addr} {m : Str → Option Value} {s : Shared} {Q E : Value → Shared → Prop}
    (B : Below A₀ base outer h₀) (F : Fr h₀ L s.heap m) (X : (hd.heap_39 w.params).In h₀) (N : News h₀ L s.heap news) (T : Top hd.view_39 (looseW hd.view_39 []) mean mg mb h₀) (hk : cs.kind = .function) (hl : x.length ≤ 1000000) (hdep : dp + 1 < recursionLimit) (hu : un + 8 < cLine)
    (hret : ∀ t' h' tk', Fr h₀ L h' m → News h₀ L h' news → Q (.str (mach x) t') { s with heap := h', toks := tk' }) :
    wpAny (model PySem.Challenge.rw_fe0287_01.row.prog w) (ktrTop dp un gd cn cs L a ccd cl outer) (call (.ref 42) [.str x t]) Q E s := by
  have h := mach_at w mean mg mb news x t
  dsimp only [CbClaim, CbLists, CbRet] at h
  exact h dp un gd cn cs a ccd cl outer A₀ base h₀ L m s Q E B F X N T hk hl hdep hu hret
section
local macro_rules | `(tactic| walk_at "call ref") => `(tactic| (k_here; (with_reducible show wpAny _ _ (call (Value.ref 35) _) _ _ _); refine stop_here ?_))
local macro_rules | `(tactic| walk_at "call ref") => `(tactic| (k_here; (with_reducible show wpAny _ _ (call (Value.ref 21) _) _ _ _); k_dflt (refine' rds_call ?k1 ?k2 ?k3 ?k4 ?k5 ?kK ?kl ?kd ?ku ?_; (case k1 => k_asm); (case k2 => k_asm); (case k3 => k_asm); (case k4 => k_asm); (case k5 => k_asm); (case kK => exact rfl); (case kl => assumption); (case kd => ktr_room); (case ku => ktr_units)); intro t' h' tk' F' N'; (try dsimp only); (try k_sweep)))
local macro_rules | `(tactic| walk_at "call ref") => `(tactic| (k_here; (with_reducible show wpAny _ _ (call (Value.ref 42) _) _ _ _); k_dflt (refine' mach_call ?k1 ?k2 ?k3 ?k4 ?k5 ?kK ?kl ?kd ?ku ?_; (case k1 => k_asm); (case k2 => k_asm); (case k3 => k_asm); (case k4 => k_asm); (case k5 => k_asm); (case kK => exact rfl); (case kl => assumption); (case kd => ktr_room); (case ku => ktr_units)); intro t' h' tk' F' N'; (try dsimp only); (try k_sweep)))
local macro_rules | `(tactic| walk_at "pyIter ref") => `(tactic| (k_here; refine stop_here ?_))
local macro_rules | `(tactic| walk_at "TPost") => `(tactic| (dsimp only [TPost]))
set_option maxRecDepth 100000 in
set_option maxHeartbeats 8000000 in
theorem law_at : PySem.Challenge.rw_fe0287_01.Holds := hd (by
  k_go0; (all_goals try k_fold); k_steps
  · refine Stop.mk ?_
    k_dflt (refine' paths_at _ _ _ _ _ _ _ _ _ ?kI ?kl ?km _ _ _ _ _ _ _ _ _ _ _ _ _ _ _ _ _ ?k1 ?k2 ?k3 ?k4 ?k5 ?kK ?kd ?ku ?kR)
    case k1 => k_asm
    case k2 => k_asm
    case k3 => k_asm
    case k4 => k_asm
    case k5 => k_asm
    case kK => exact rfl
    case km => exact .head _
    case kI => assumption
    case kl => rw [‹(List.take 60 _).length = _›]; exact Nat.min_le_left _ _
    case kd => ktr_room
    case ku => ktr_units
    intro h' tk' D us n ys F2 N2 hys hgood hDn
    have N3 : News _ _ _ [(D, listOf us.toArray n)] := fun p hp => N2 p ((List.mem_singleton.mp hp) ▸ .head _)
    clear N2
    refine iter_keep (Str.ofString "told") (fun _ nx => nx = [(D, listOf us.toArray n)]) rfl (.head _) F2 N3 rfl ?_ ?_
    · rintro i v u nx h tk I o hv rfl _ hne hltI F4 N4
      obtain ⟨y, ty, rfl, hy⟩ := StrsAre.item hys i v hv
      obtain ⟨hl1, hl2, he1, he2⟩ := good_law y (hgood y (List.mem_of_getElem? hy))
      have hDI : @LT.lt Nat _ D I := hltI _ (.head _)
      clear F2 N3 hltI
      try k_fold
      k_steps
      rename_i F5 N5 _
      exact TEnd.intro2 [(D, listOf us.toArray n)] rfl F5 N5 (.head _) (.head _) (fun p hp => .tail _ hp) hne ⟨rfl, fun z h1 h2 => by simp only [if_neg h1, if_neg h2]⟩
    · rintro u nx h tk rfl _ F4 N4
      dsimp only
      clear F2 N3
      try k_fold
      k_steps
  · refine Stop.mk ?_
    k_dflt (refine' paths_at _ _ _ _ _ _ _ _ [3, 0, 2, 1, 2, 2, 4, 5, 2, 0, 6, 2, 19, 2, 1, 3, 0, 2, 7, 2] ?kIz ?klz ?kmz _ _ _ _ _ _ _ _ _ _ _ _ _ _ _ _ _ ?k1z ?k2z ?k3z ?k4z ?k5z ?kKz ?kdz ?kuz ?kRz)
    case k1z => k_asm
    case k2z => k_asm
    case k3z => k_asm
    case k4z => k_asm
    case k5z => k_asm
    case kKz => exact rfl
    case kmz => exact .head _
    case kIz => repeat (first | exact IntsAre.nil | refine IntsAre.cons _ _ ?_)
    case klz => decide
    case kdz => ktr_room
    case kuz => ktr_units
    intro h' tk' D us n ys F2 N2 hys hgood hDn
    have N3 : News _ _ _ [(D, listOf us.toArray n)] := fun p hp => N2 p ((List.mem_singleton.mp hp) ▸ .head _)
    clear N2
    refine iter_keep (Str.ofString "told") (fun _ nx => nx = [(D, listOf us.toArray n)]) rfl (.head _) F2 N3 rfl ?_ ?_
    · rintro i v u nx h tk I o hv rfl _ hne hltI F4 N4
      obtain ⟨y, ty, rfl, hy⟩ := StrsAre.item hys i v hv
      obtain ⟨hl1, hl2, he1, he2⟩ := good_law y (hgood y (List.mem_of_getElem? hy))
      have hDI : @LT.lt Nat _ D I := hltI _ (.head _)
      clear F2 N3 hltI
      try k_fold
      k_steps
      rename_i F5 N5 _
      exact TEnd.intro2 [(D, listOf us.toArray n)] rfl F5 N5 (.head _) (.head _) (fun p hp => .tail _ hp) hne ⟨rfl, fun z h1 h2 => by simp only [if_neg h1, if_neg h2]⟩
    · rintro u nx h tk rfl _ F4 N4
      dsimp only
      clear F2 N3
      try k_fold
      k_steps)
end
end Mine

end
set_option maxRecDepth 100000 in
set_option maxHeartbeats 8000000 in
theorem PySem.Challenge.cw_fe0287_01_holds : PySem.Challenge.rw_fe0287_01.Holds := by
  exact Mine.law_at
