import PyProof.Rows.All
import Wide.All
import OpenK.AllK
import Wide.FinOn
import PySem.Challenge.RW_iw0033_01
set_option Elab.async false
set_option maxRecDepth 100000
set_option maxHeartbeats 8000000
set_option linter.unusedVariables false

namespace Mine
section
open PySem PySem.W PyProof.Rows
open_top hd for PySem.Challenge.rw_iw0033_01
end
end Mine

namespace Mine
section
open PySem PySem.W PySem.Calls PyProof.Rows

abbrev Led := List (Addr × Obj)
abbrev Loc := Str → Option Value

/-- the ledger with the object at d set anew -/
def put (d : Addr) (o : Obj) (a : Led) : Led := (d, o) :: a.filter (fun p => decide (p.1 ≠ d))
/-- the ledger without the object at d -/
def off (d : Addr) (a : Led) : Led := a.filter (fun p => decide (p.1 ≠ d))

theorem mem_put_self {d : Addr} {o : Obj} {a : Led} : (d, o) ∈ put d o a := .head _
theorem mem_put_ne {d : Addr} {o : Obj} {a : Led} {p : Addr × Obj} (h : p ∈ a) (hn : p.1 ≠ d) : p ∈ put d o a :=
  List.mem_cons_of_mem _ (List.mem_filter.mpr ⟨h, by simpa using hn⟩)
theorem mem_put {d : Addr} {o : Obj} {a : Led} {p : Addr × Obj} : p ∈ put d o a ↔ p = (d, o) ∨ (p ∈ a ∧ p.1 ≠ d) := by
  unfold put; rw [List.mem_cons, List.mem_filter]; simp
theorem mem_off {d : Addr} {a : Led} {p : Addr × Obj} : p ∈ off d a ↔ p ∈ a ∧ p.1 ≠ d := by
  unfold off; rw [List.mem_filter]; simp

theorem news_fun {h₀ h : Heap} {L : Addr} {a : Led} (N : News h₀ L h a) {b : Addr} {o o' : Obj} (h1 : (b, o) ∈ a) (h2 : (b, o') ∈ a) : o = o' := by
  have e1 := (N _ h1).1; have e2 := (N _ h2).1
  simp only at e1 e2
  rw [e1] at e2; exact Option.some.inj e2
theorem news_off {h₀ h : Heap} {L : Addr} {a : Led} (N : News h₀ L h a) (d : Addr) : News h₀ L h (off d a) := fun p hp => N p (mem_off.mp hp).1
theorem news_sub {h₀ h : Heap} {L : Addr} {a b : Led} (N : News h₀ L h a) (hs : ∀ p ∈ b, p ∈ a) : News h₀ L h b := fun p hp => N p (hs p hp)
theorem news_lt {h₀ h : Heap} {L : Addr} {a : Led} (N : News h₀ L h a) {p : Addr × Obj} (hp : p ∈ a) : p.1 < h.objs.size := Heap.lt_size (N p hp).1

theorem upd_put {h₀ h h' : Heap} {L d : Addr} {m : Loc} {a : Led} {o o' : Obj} (F : Fr h₀ L h m) (N : News h₀ L h a) (hm : (d, o) ∈ a)
    (hs : Heap.SameBut d h h') (ho : h'.get? d = some o') : Fr h₀ L h' m ∧ News h₀ L h' (put d o' a) := by
  have D := N _ hm
  refine ⟨F.change hs D.2.1 D.2.2, fun p hp => ?_⟩
  rcases mem_put.mp hp with rfl | ⟨h1, h2⟩
  · exact ⟨ho, D.2.1, D.2.2⟩
  · exact ⟨(hs.2 _ h2).trans (N p h1).1, (N p h1).2⟩

section
variable {prog : Program} {w : World} {A : Around} {E : Value → Shared → Prop} {s : Shared} {h₀ : Heap} {L : Addr} {m : Loc} {a : Led}

theorem r_append {D : Addr} {its : Array Value} {n : Nat} {x : Value} {Q : Value → Shared → Prop} (F : Fr h₀ L s.heap m) (N : News h₀ L s.heap a)
    (hm : (D, listOf its n) ∈ a) (hsz : its.size ≤ sizeLine)
    (h : ∀ h', Fr h₀ L h' m → News h₀ L h' (put D (listOf (its.push x) (n + 1)) a) → Q .none { s with heap := h' }) :
    wpAny (model prog w) A (call (.builtin "list.append") [.ref D, x]) Q E s :=
  append_at (hsz := hsz) (N.get hm) fun h' hs ho' => let ⟨F', N'⟩ := upd_put F N hm hs ho'; h h' F' N'

theorem r_pop {D : Addr} {its : Array Value} {n : Nat} {y : Value} {Q : Value → Shared → Prop} (F : Fr h₀ L s.heap m) (N : News h₀ L s.heap a)
    (hm : (D, listOf its n) ∈ a) (hy : its[its.size - 1]? = some y) (hsz : its.size ≤ sizeLine)
    (h : ∀ h', Fr h₀ L h' m → News h₀ L h' (put D (listOf its.pop (n + 1)) a) → Q y { s with heap := h' }) :
    wpAny (model prog w) A (call (.builtin "list.pop") [.ref D]) Q E s :=
  Copied.pop_at (hsz := hsz) (N.get hm) hy fun h' hs ho' => let ⟨F', N'⟩ := upd_put F N hm hs ho'; h h' F' N'

theorem r_setd {K : Type} [DecidableEq K] {knd : KeyKind prog w K} {k : K} {key v : Value} {kvs : List (K × Value)} {d : Addr} {o : Obj} {Q : Unit → Shared → Prop}
    (F : Fr h₀ L s.heap m) (N : News h₀ L s.heap a) (hm : (d, o) ∈ a) (hd : o.IsDictOf knd kvs) (hkey : knd.is k key = true) (hsz : kvs.length ≤ sizeLine)
    (h : ∀ h' o', Fr h₀ L h' m → News h₀ L h' (put d o' a) → o'.IsDictOf knd (stored kvs k v) → Q () { s with heap := h', toks := s.toks + 1 }) :
    wpAny (model prog w) A (setItem (.ref d) key v) Q E s :=
  wpAny_setItem_pairs hkey (kda_dict N hm hd) (fun h' hd' hs => by
    obtain ⟨o', ho', hD⟩ := Heap.dictOf_iff.mp hd'
    obtain ⟨F', N'⟩ := upd_put F N hm hs ho'
    exact h h' o' F' N' hD) hsz
end

/-- what a turn leaves -/
def TurnEnd (h₀ : Heap) (L : Addr) (s : Shared) (J : Loc → Led → Prop) (s' : Shared) : Prop :=
  ∃ h' tk' m' a', s' = { s with heap := h', toks := tk' } ∧ Fr h₀ L h' m' ∧ News h₀ L h' a' ∧ J m' a'

section
variable {prog : Program} {w : World} {A : Around} {E : Value → Shared → Prop} {s : Shared} {env : Env} {h₀ : Heap} {x : Str} {body : List Stmt} {Q : Flow → Shared → Prop}

/-- a for over any walk, by an invariant over the turn, the locals and the ledger -/
theorem walk_inv {I : Addr} {fp : List Addr} {n : Nat} {P : Nat → Value → Prop} {St : Nat → Heap → Prop} {m₀ : Loc} {a₀ : Led} {Io : Obj → Prop} {s₂ : Shared}
    (J : Nat → Loc → Led → Prop)
    (W : Walks prog w A I fp [I] n P St) (hL : env.locals ∉ fp)
    (hnew : h₀.get? I = none) (hfresh : ∀ p ∈ a₀, p.1 ≠ I) (hIo : ∀ i h, St i h → ∃ o, h.get? I = some o ∧ Io o)
    (hst : St 0 s₂.heap) (F : Fr h₀ env.locals s₂.heap m₀) (N : News h₀ env.locals s₂.heap a₀) (j0 : J 0 m₀ a₀)
    (hmem : I ∈ fp)
    (turn : ∀ i v m₁ a₁ own h tk io, i < n → P i v → J i m₁ a₁ → (∀ p ∈ a₁, p.1 ≠ I) → Fr h₀ env.locals h (fun y => if y = x then some v else m₁ y) →
      News h₀ env.locals h (own ++ a₁) → (I, io) ∈ own → Io io → (∀ p ∈ own, p.1 ∈ fp) → St (i + 1) h → (∀ b ∈ fp, h₀.get? b = none → ∀ o, h.get? b = some o → (b, o) ∈ own) →
      wpAny (model prog w) A (execs body env) (fun f s' => match f with
        | .ret v => Q (.ret v) s'
        | .brk => Q .next s'
        | _ => TurnEnd h₀ env.locals s₂ (fun m₂ a₂ => (∀ p ∈ own, p ∈ a₂) ∧ J (i + 1) m₂ (off I a₂)) s') E { s₂ with heap := h, toks := tk })
    (done : ∀ m₁ a₁ h tk, J n m₁ a₁ → Fr h₀ env.locals h m₁ → News h₀ env.locals h a₁ → Q .next { s₂ with heap := h, toks := tk }) :
    LoopAtV prog w A h₀ env x body Q E (.ref I) s₂ := by
  refine ⟨I, fp, [I], n, P, St, m₀, a₀, J, rfl, W, hL, ?_, ?_, hst, F, N, j0, ?_, ?_⟩
  · intro b hb; rw [List.mem_singleton.mp hb]; exact hnew
  · intro p hp hq; exact hfresh p hp (List.mem_singleton.mp hq)
  · rintro i v m₁ a₁ s₁ own ⟨hh, tk, rfl⟩ hi hP hJ hoff hown hget hall hst₁ F₁ N₁
    obtain ⟨io, hio, hIoo⟩ := hIo _ _ hst₁
    have hmemo : (I, io) ∈ own := hall I hmem hnew io hio
    have hoff' : ∀ p ∈ a₁, p.1 ≠ I := fun p hp e => hoff p hp (List.mem_singleton.mpr e)
    refine wpAny_mono (turn i v m₁ a₁ own hh tk io hi hP hJ hoff' F₁ N₁ hmemo hIoo hown hst₁ hall) (fun f s' hp => ?_) fun _ _ e => e
    have fin : TurnEnd h₀ env.locals s₂ (fun m₂ a₂ => (∀ p ∈ own, p ∈ a₂) ∧ J (i + 1) m₂ (off I a₂)) s' → LoopStepU h₀ env.locals [I] own (J (i + 1)) { s₂ with heap := hh, toks := tk } .next s' := by
      rintro ⟨h', tk', m', a', rfl, F', N', ho, hj⟩
      refine ⟨rfl, h', tk', m', off I a', rfl, F', fun p hp => ?_, fun p hp hq => ?_, hj⟩
      · rcases List.mem_append.mp hp with hp | hp
        · exact N' p (ho p hp)
        · exact N' p (mem_off.mp hp).1
      · exact (mem_off.mp hp).2 (List.mem_singleton.mp hq)
    cases f with
    | ret v => exact hp
    | brk => exact hp
    | next => exact fin hp
    | cont => exact fin hp
  · intro h' tk m' a' F' N' _ hJ
    exact done m' a' h' tk hJ F' N'

/-- a walk that also says the very object at a place it reads -/
theorem walks_and {I l : Addr} {fp wr : List Addr} {n : Nat} {P : Nat → Value → Prop} {St : Nat → Heap → Prop} (W : Walks prog w A I fp wr n P St) (hf : l ∈ fp) (hw : l ∉ wr) (o : Obj) :
    Walks prog w A I fp wr n P (fun i h => St i h ∧ h.get? l = some o) where
  sub := W.sub
  frame := fun i h h' ⟨h1, h2⟩ k => ⟨W.frame i h h' h1 k, k l hf o h2⟩
  item := fun i s Q E hi ⟨h1, h2⟩ k => W.item i s Q E hi h1 fun v h' tk hp hs hk => k v h' tk hp ⟨hs, hk l o hw h2⟩ hk
  done := fun s Q E ⟨h1, _⟩ k => W.done s Q E h1 k
  self := fun i s Q E ⟨h1, _⟩ k => W.self i s Q E h1 k

theorem for_list {l : Addr} {its : Array Value} {ep : Nat} {m₀ : Loc} {a₀ : Led} (J : Nat → Loc → Led → Prop)
    (hh : A.handled = none) (F : Fr h₀ env.locals s.heap m₀) (N : News h₀ env.locals s.heap a₀) (hl : (l, listOf its ep) ∈ a₀) (j0 : J 0 m₀ a₀)
    (mono : ∀ i m a b, J i m a → (∀ p ∈ a, p ∈ b) → J i m b)
    (turn : ∀ i v m₁ a₁ h tk I io, its[i]? = some v → (∀ p ∈ a₀, p.1 < I) → J i m₁ a₁ → Fr h₀ env.locals h (fun y => if y = x then some v else m₁ y) →
      News h₀ env.locals h a₁ → (I, io) ∈ a₁ → io.cls = .type "list_iterator" → (l, listOf its ep) ∈ a₁ →
      wpAny (model prog w) A (execs body env) (fun f s' => match f with
        | .ret v => Q (.ret v) s'
        | .brk => Q .next s'
        | _ => TurnEnd h₀ env.locals s (fun m₂ a₂ => (I, io) ∈ a₂ ∧ (l, listOf its ep) ∈ a₂ ∧ J (i + 1) m₂ (off I a₂)) s') E { s with heap := h, toks := tk })
    (done : ∀ m₁ a₁ h tk, J its.size m₁ a₁ → Fr h₀ env.locals h m₁ → News h₀ env.locals h a₁ → Q .next { s with heap := h, toks := tk }) :
    wpAny (model prog w) A (pyIter (.ref l)) (fun it s₂ => LoopAtV prog w A h₀ env x body Q E it s₂) E s := by
  have hol : s.heap.get? l = some (listOf its ep) := N.get hl
  have hls : s.heap.IsList l its := ⟨_, hol, rfl, ep, rfl⟩
  have hne : l ≠ s.heap.objs.size := Nat.ne_of_lt (Heap.lt_size hol)
  have hlL : l ≠ env.locals := (N _ hl).2.1
  have hl0 : h₀.get? l = none := (N _ hl).2.2
  refine wpAny_pyIter_list hls ?_
  have W := walks_and (Walks.list (prog := prog) (w := w) (A := A) hh s.heap.objs.size l hne its) (l := l) (by simp) (by simpa using hne) (listOf its ep)
  have hnew : h₀.get? s.heap.objs.size = none := by
    cases q : h₀.get? s.heap.objs.size with
    | none => rfl
    | some o => exact absurd (Heap.lt_size (F.keep _ _ q)) (Nat.lt_irrefl _)
  refine walk_inv (Io := fun o => o.cls = .type "list_iterator") (m₀ := m₀) (a₀ := a₀) J W ?_ hnew (fun p hp => Nat.ne_of_lt (news_lt N hp)) ?_ ?_ (F.push _) (fun p hp => ⟨Heap.get?_push_of_some _ (N p hp).1, (N p hp).2⟩) j0 (by simp) ?_ ?_
  · intro hm
    rcases List.mem_cons.mp hm with e | hm
    · exact absurd F.ns.lt (e ▸ Nat.lt_irrefl _)
    · exact hlL (List.mem_singleton.mp hm).symm
  · rintro i h ⟨⟨⟨o, ho, hc, _⟩, _⟩, _⟩; exact ⟨o, ho, hc⟩
  · exact ⟨⟨⟨_, Heap.get?_push_size _ rfl, rfl, rfl⟩, hls.at fun o e => Heap.get?_push_of_some _ e⟩, Heap.get?_push_of_some _ hol⟩
  · intro i v m₁ a₁ own h tk io hi hP hJ hoff F₁ N₁ hio hioc hown hst hall
    have hlo : (l, listOf its ep) ∈ own := hall l (by simp) hl0 _ hst.2
    refine wpAny_mono (turn i v m₁ (own ++ a₁) h tk _ io hP (fun p hp => news_lt N hp) (mono _ _ _ _ hJ fun p hp => List.mem_append_right _ hp) F₁ N₁ (List.mem_append_left _ hio) hioc (List.mem_append_left _ hlo)) (fun f s' hp => ?_) fun _ _ e => e
    have fin : TurnEnd h₀ env.locals s (fun m₂ a₂ => (s.heap.objs.size, io) ∈ a₂ ∧ (l, listOf its ep) ∈ a₂ ∧ J (i + 1) m₂ (off s.heap.objs.size a₂)) s' →
        TurnEnd h₀ env.locals { s with heap := s.heap.push { cls := .type "list_iterator", data := .fields #[.ref l, .int 0 0] } } (fun m₂ a₂ => (∀ p ∈ own, p ∈ a₂) ∧ J (i + 1) m₂ (off s.heap.objs.size a₂)) s' := by
      rintro ⟨h', tk', m', a', rfl, F', N', ho, ho2, hj⟩
      refine ⟨h', tk', m', a', rfl, F', N', fun p hp => ?_, hj⟩
      obtain ⟨b, ob⟩ := p
      have hb := hown _ hp
      have hg := (N₁ (b, ob) (List.mem_append_left _ hp)).1
      rcases List.mem_cons.mp hb with e | hb
      · simp only at e; subst e
        have := (N₁ _ (List.mem_append_left _ hio)).1
        simp only at this hg; rw [hg] at this; cases this; exact ho
      · have e := List.mem_singleton.mp hb; simp only at e; subst e
        have := hst.2
        simp only at hg; rw [hg] at this; cases this; exact ho2
    cases f with
    | ret v => exact hp
    | brk => exact hp
    | next => exact fin hp
    | cont => exact fin hp
  · intro m₁ a₁ h tk hJ F₁ N₁; exact done m₁ a₁ h tk hJ F₁ N₁

theorem for_range {r : Addr} {b₀ : Int} {t₀ u₀ v₀ : Tok} {n : Nat} {m₀ : Loc} {a₀ : Led} (J : Nat → Loc → Led → Prop)
    (hh : A.handled = none) (F : Fr h₀ env.locals s.heap m₀) (N : News h₀ env.locals s.heap a₀) (hr : IsRange s.heap r 0 b₀ 1 t₀ u₀ v₀)
    (hsmall : Builtin.Range.small 0 b₀ 1 = true) (hn : Builtin.Range.rangeSize 0 b₀ 1 = (n : Int)) (j0 : J 0 m₀ a₀)
    (mono : ∀ i m a b, J i m a → (∀ p ∈ a, p ∈ b) → J i m b)
    (turn : ∀ i t m₁ a₁ h tk I io, i < n → (∀ p ∈ a₀, p.1 < I) → J i m₁ a₁ → Fr h₀ env.locals h (fun y => if y = x then some (.int (i : Int) t) else m₁ y) →
      News h₀ env.locals h a₁ → (I, io) ∈ a₁ → io.cls = .type "range_iterator" →
      wpAny (model prog w) A (execs body env) (fun f s' => match f with
        | .ret v => Q (.ret v) s'
        | .brk => Q .next s'
        | _ => TurnEnd h₀ env.locals s (fun m₂ a₂ => (I, io) ∈ a₂ ∧ J (i + 1) m₂ (off I a₂)) s') E { s with heap := h, toks := tk })
    (done : ∀ m₁ a₁ h tk, J n m₁ a₁ → Fr h₀ env.locals h m₁ → News h₀ env.locals h a₁ → Q .next { s with heap := h, toks := tk }) :
    wpAny (model prog w) A (pyIter (.ref r)) (fun it s₂ => LoopAtV prog w A h₀ env x body Q E it s₂) E s := by
  refine wpAny_pyIter_range hr hsmall ?_
  rw [hn]
  have W := Walks.range (prog := prog) (w := w) (A := A) hh s.heap.objs.size 0 1 n
  have hnew : h₀.get? s.heap.objs.size = none := by
    cases q : h₀.get? s.heap.objs.size with
    | none => rfl
    | some o => exact absurd (Heap.lt_size (F.keep _ _ q)) (Nat.lt_irrefl _)
  refine walk_inv (Io := fun o => o.cls = .type "range_iterator") (m₀ := m₀) (a₀ := a₀) J W ?_ hnew (fun p hp => Nat.ne_of_lt (news_lt N hp)) ?_ ?_ (F.push _) (fun p hp => ⟨Heap.get?_push_of_some _ (N p hp).1, (N p hp).2⟩) j0 (by simp) ?_ ?_
  · intro hm
    exact absurd F.ns.lt ((List.mem_singleton.mp hm) ▸ Nat.lt_irrefl _)
  · intro i h ho; exact ⟨_, ho, rfl⟩
  · have := Heap.get?_push_size s.heap (o := { cls := .type "range_iterator", data := .fields #[rawInt 0, rawInt (n : Int), rawInt 1] }) rfl
    simpa using this
  · rintro i v m₁ a₁ own h tk io hi ⟨t, rfl⟩ hJ hoff F₁ N₁ hio hioc hown hst hall
    have e0 : (0 : Int) + (i : Int) * 1 = (i : Int) := by omega
    rw [e0] at F₁
    refine wpAny_mono (turn i t m₁ (own ++ a₁) h tk _ io hi (fun p hp => news_lt N hp) (mono _ _ _ _ hJ fun p hp => List.mem_append_right _ hp) F₁ N₁ (List.mem_append_left _ hio) hioc) (fun f s' hp => ?_) fun _ _ e => e
    have fin : TurnEnd h₀ env.locals s (fun m₂ a₂ => (s.heap.objs.size, io) ∈ a₂ ∧ J (i + 1) m₂ (off s.heap.objs.size a₂)) s' →
        TurnEnd h₀ env.locals { s with heap := s.heap.push { cls := .type "range_iterator", data := .fields #[rawInt 0, rawInt (n : Int), rawInt 1] } } (fun m₂ a₂ => (∀ p ∈ own, p ∈ a₂) ∧ J (i + 1) m₂ (off s.heap.objs.size a₂)) s' := by
      rintro ⟨h', tk', m', a', rfl, F', N', ho, hj⟩
      refine ⟨h', tk', m', a', rfl, F', N', fun p hp => ?_, hj⟩
      obtain ⟨b, ob⟩ := p
      have hb := List.mem_singleton.mp (hown _ hp)
      have hg := (N₁ (b, ob) (List.mem_append_left _ hp)).1
      simp only at hb; subst hb
      have := (N₁ _ (List.mem_append_left _ hio)).1
      simp only at this hg; rw [hg] at this; cases this; exact ho
    cases f with
    | ret v => exact hp
    | brk => exact hp
    | next => exact fin hp
    | cont => exact fin hp
  · intro m₁ a₁ h tk hJ F₁ N₁; exact done m₁ a₁ h tk hJ F₁ N₁

/-- a while, by an invariant and a measure -/
theorem while_inv {test : Expr} {pos : Pos} (I : Nat → Shared → Prop)
    (hE : PassesOwn (model prog w) A env E)
    (turn : ∀ n s, I n s → wpAny (model prog w) A (isTrue test env (eval test env)) (fun b s₂ =>
      if b then wpAny (model prog w) A (execs body env) (fun f s₃ => match f with
            | .next | .cont => ∃ k, k < n ∧ I k s₃
            | .brk => Q .next s₃
            | .ret v => Q (.ret v) s₃) E s₂
      else Q .next s₂) E s)
    (n : Nat) (h : I n s) : wpAny (model prog w) A (exec (.While test body [] pos) env) Q E s := by
  refine wpAny_While (codeAny_whileLoop I (fun n s hI => ?_) n h)
  refine wpAny_mono (turn n s hI) (fun b s₂ hb => ?_) fun e s' he => hE e s' he
  cases b with
  | true =>
    simp only [if_true] at hb ⊢
    refine wpAny_mono hb (fun f s₃ hf => ?_) fun e s' he => hE e s' he
    cases f <;> exact hf
  | false =>
    simp only [Bool.false_eq_true, if_false] at hb ⊢
    exact wpAny_execs_nil hb
end
end
end Mine

namespace Mine
section
open PySem

def upd {α : Type} (f : Int → α) (k : Int) (v : α) : Int → α := fun i => if i = k then v else f i
theorem upd_same {α : Type} {f : Int → α} {k : Int} {v : α} : upd f k v k = v := by simp [upd]
theorem upd_ne {α : Type} {f : Int → α} {k i : Int} {v : α} (h : i ≠ k) : upd f k v i = f i := by simp [upd, h]

def add1 (l : List Str) (a : Str) : List Str := if a ∈ l then l else l ++ [a]
def addNew (l src : List Str) : List Str := src.foldl add1 l

def MAXI : Int := 9223372036854775807

structure St where
  N : Int → Int
  stk : List Int
  F : Int → Option (List Str)

def pop1 (x e : Int) (r : List Int) (σ : St) : St := ⟨upd σ.N e MAXI, r, upd σ.F e (σ.F x)⟩
def popTo (x : Int) : List Int → St → St
  | [], σ => σ
  | e :: r, σ => if e = x then pop1 x e r σ else popTo x r (pop1 x e r σ)

def mini (a b : Int) : Int := if b < a then b else a

def relax (x y : Int) (τ : St) : St := ⟨upd τ.N x (mini (τ.N x) (τ.N y)), τ.stk, upd τ.F x (some (addNew ((τ.F x).getD []) ((τ.F y).getD [])))⟩
def edge (v : Int → St → St) (x : Int) (σ : St) (y : Int) : St := relax x y (if σ.N y = 0 then v y σ else σ)

def enter (M : Int → List Str) (x : Int) (σ : St) : St := ⟨upd σ.N x (σ.stk.length + 1), x :: σ.stk, upd σ.F x (some (M x))⟩

def visit (T : Int → List Int) (M : Int → List Str) : Nat → Int → St → St
  | 0, _, σ => σ
  | f + 1, x, σ =>
    let σ2 := (T x).foldl (edge (visit T M f) x) (enter M x σ)
    if σ2.N x = σ.stk.length + 1 then popTo x σ2.stk σ2 else σ2

def top (T : Int → List Int) (M : Int → List Str) (f : Nat) (σ : St) (x : Int) : St := if σ.N x = 0 then visit T M f x σ else σ
def start : St := ⟨fun _ => 0, [], fun _ => none⟩
def run (T : Int → List Int) (M : Int → List Str) (f : Nat) (pts : List Int) : St := pts.foldl (top T M f) start

inductive Reach (T : Int → List Int) (x : Int) : Int → Prop
  | refl : Reach T x x
  | step {y z : Int} : Reach T x y → z ∈ T y → Reach T x z
end
end Mine

namespace Mine
section
open PySem PySem.W PySem.Calls PyProof.Rows

theorem nodup_le : ∀ (k : Nat) (l : List Int), l.Nodup → (∀ x ∈ l, 0 ≤ x ∧ x < (k : Int)) → l.length ≤ k := by
  intro k
  induction k with
  | zero =>
    intro l _ h
    cases l with
    | nil => exact Nat.le_refl _
    | cons x r => have := h x (.head _); omega
  | succ k ih =>
    intro l hn h
    by_cases hk : (k : Int) ∈ l
    · have h1 := List.length_erase_of_mem hk
      have := ih (l.erase (k : Int)) (hn.erase _) fun x hx => by
        have h2 := h x (List.mem_of_mem_erase hx)
        have h3 : x ≠ (k : Int) := fun e => by rw [e] at hx; exact (List.Nodup.not_mem_erase hn) hx
        omega
      have : 0 < l.length := List.length_pos_of_mem hk
      omega
    · have := ih l hn fun x hx => by
        have h2 := h x hx
        have h3 : x ≠ (k : Int) := fun e => hk (e ▸ hx)
        omega
      omega

section
variable {K : Type} [DecidableEq K]
theorem valueAt_map_ne (kvs : List (K × Value)) (k x : K) (v : Value) (h : x ≠ k) : valueAt (kvs.map fun kv => if kv.1 = k then (kv.1, v) else kv) x = valueAt kvs x := by
  unfold valueAt
  induction kvs with
  | nil => rfl
  | cons kv r ih =>
    simp only [List.map_cons, List.find?_cons]
    by_cases hk : kv.1 = k
    · have : ¬ k = x := fun e => h e.symm
      simp only [hk, if_true, this, decide_false]; exact ih
    · by_cases hx : kv.1 = x
      · have : ¬ x = k := h
        simp only [hx, this, if_false, decide_true]
      · simp only [hk, if_false, hx, decide_false]; exact ih
theorem valueAt_map_eq (kvs : List (K × Value)) (k : K) (v : Value) (h : kvs.any (fun kv => kv.1 = k) = true) : valueAt (kvs.map fun kv => if kv.1 = k then (kv.1, v) else kv) k = some v := by
  unfold valueAt
  induction kvs with
  | nil => cases h
  | cons kv r ih =>
    simp only [List.map_cons, List.find?_cons]
    by_cases hk : kv.1 = k
    · simp [hk]
    · simp only [List.any_cons, hk, decide_false, Bool.false_or] at h
      simp only [hk, if_false, decide_false]; exact ih h
theorem valueAt_append (kvs : List (K × Value)) (k x : K) (v : Value) : valueAt (kvs ++ [(k, v)]) x = (valueAt kvs x).or (if x = k then some v else none) := by
  unfold valueAt
  rw [List.find?_append]
  cases hf : kvs.find? (fun kv => decide (kv.1 = x)) with
  | some y => simp
  | none =>
    by_cases h : x = k
    · subst h; simp
    · have : ¬ k = x := fun e => h e.symm
      simp [h, this]
theorem valueAt_stored (kvs : List (K × Value)) (k x : K) (v : Value) : valueAt (stored kvs k v) x = if x = k then some v else valueAt kvs x := by
  unfold stored
  by_cases ha : kvs.any (fun kv => decide (kv.1 = k)) = true
  · rw [if_pos ha]
    by_cases h : x = k
    · subst h; rw [if_pos rfl, valueAt_map_eq _ _ _ ha]
    · rw [if_neg h, valueAt_map_ne _ _ _ _ h]
  · rw [if_neg ha, valueAt_append]
    by_cases h : x = k
    · subst h
      have : valueAt kvs x = none := by
        unfold valueAt
        have : kvs.find? (fun kv => decide (kv.1 = x)) = none := by
          rw [List.find?_eq_none]; intro y hy hq
          exact ha (List.any_eq_true.mpr ⟨y, hy, hq⟩)
        rw [this]; rfl
      simp [this]
    · simp [h]
theorem key_stored {kvs : List (K × Value)} {k : K} {v : Value} {kv : K × Value} (h : kv ∈ stored kvs k v) : kv.1 = k ∨ ∃ y ∈ kvs, y.1 = kv.1 := by
  unfold stored at h
  split at h
  · obtain ⟨y, hy, rfl⟩ := List.mem_map.mp h
    by_cases hk : y.1 = k
    · left; simp [hk]
    · right; exact ⟨y, hy, by simp [hk]⟩
  · rcases List.mem_append.mp h with h | h
    · exact .inr ⟨kv, h, rfl⟩
    · left; rw [List.mem_singleton.mp h]
end

structure Rep (prog : Program) (w : World) (n : Int) (aN aS aF : Addr) (σ : St) (loc : Int → Addr) (a : Led) : Prop where
  nd : ∃ o kvs, (aN, o) ∈ a ∧ o.IsDictOf (intKind prog w) kvs ∧ (∀ i, 0 ≤ i → i < n → ∃ t, valueAt kvs i = some (.int (σ.N i) t)) ∧ (∀ kv ∈ kvs, 0 ≤ kv.1 ∧ kv.1 < n)
  st : ∃ vs ep, (aS, listOf vs.toArray ep) ∈ a ∧ IntsAre vs σ.stk.reverse
  fd : ∃ o kvs, (aF, o) ∈ a ∧ o.IsDictOf (intKind prog w) kvs ∧ (∀ i, σ.F i = none → valueAt kvs i = none) ∧ (∀ i l, σ.F i = some l → valueAt kvs i = some (.ref (loc i))) ∧ (∀ kv ∈ kvs, 0 ≤ kv.1 ∧ kv.1 < n)
  ls : ∀ i l, σ.F i = some l → ∃ vs ep, (loc i, listOf vs.toArray ep) ∈ a ∧ StrsAre vs l
  apN : aN ≠ aF
  apS : ∀ i, (σ.F i).isSome → loc i ≠ aS
  small : n ≤ 1000
  lens : σ.stk.length ≤ 1000
  lenl : ∀ i l, σ.F i = some l → l.length ≤ 1000
  loN : (aN == sysModules) = false
  loF : (aF == sysModules) = false

def Uniq (S : List Int) (σ : St) (loc : Int → Addr) : Prop := ∀ i ∈ S, ∀ j, j ≠ i → (σ.F j).isSome → loc j ≠ loc i

/-- all but what may turn stands -/
def Kept (fp : Addr → Prop) (a a' : Led) : Prop := ∀ p ∈ a, ¬ fp p.1 → p ∈ a'
theorem Kept.refl {fp : Addr → Prop} {a : Led} : Kept fp a a := fun _ h _ => h
theorem Kept.trans {fp : Addr → Prop} {a b c : Led} (x : Kept fp a b) (y : Kept fp b c) : Kept fp a c := fun p h n => y p (x p h n) n
theorem Kept.weaken {fp fq : Addr → Prop} {a b : Led} (x : Kept fp a b) (h : ∀ d, fp d → fq d) : Kept fq a b := fun p hp n => x p hp fun q => n (h _ q)
theorem Kept.put {fp : Addr → Prop} {a : Led} {d : Addr} {o : Obj} (h : fp d) : Kept fp a (put d o a) := fun _ hp n => mem_put_ne hp fun e => n (e ▸ h)
theorem Kept.sub {fp : Addr → Prop} {a b : Led} (h : ∀ p ∈ a, p ∈ b) : Kept fp a b := fun p hp _ => h p hp

section
variable {prog : Program} {w : World} {n : Int} {aN aS aF : Addr} {σ : St} {loc : Int → Addr} {a b : Led}

theorem Rep.mono (R : Rep prog w n aN aS aF σ loc a) (h : ∀ p ∈ a, (p.2.cls = .type "list" ∨ p.2.cls = .type "dict") → p ∈ b) : Rep prog w n aN aS aF σ loc b where
  nd := let ⟨o, kvs, h1, h2, h3⟩ := R.nd; ⟨o, kvs, h _ h1 (.inr (by obtain ⟨_, _, e, _⟩ := h2; exact e.1)), h2, h3⟩
  st := let ⟨vs, ep, h1, h2⟩ := R.st; ⟨vs, ep, h _ h1 (.inl rfl), h2⟩
  fd := let ⟨o, kvs, h1, h2, h3⟩ := R.fd; ⟨o, kvs, h _ h1 (.inr (by obtain ⟨_, _, e, _⟩ := h2; exact e.1)), h2, h3⟩
  ls := fun i l e => let ⟨vs, ep, h1, h2⟩ := R.ls i l e; ⟨vs, ep, h _ h1 (.inl rfl), h2⟩
  apN := R.apN
  apS := R.apS
  small := R.small
  lens := R.lens
  lenl := R.lenl
  loN := R.loN
  loF := R.loF

theorem Rep.sub (R : Rep prog w n aN aS aF σ loc a) (h : ∀ p ∈ a, p ∈ b) : Rep prog w n aN aS aF σ loc b := R.mono fun p hp _ => h p hp

theorem Rep.off {h₀ h : Heap} {L I : Addr} {io : Obj} (N : News h₀ L h a) (hI : (I, io) ∈ a) (hc : io.cls = .type "list_iterator" ∨ io.cls = .type "range_iterator") (R : Rep prog w n aN aS aF σ loc a) : Rep prog w n aN aS aF σ loc (off I a) :=
  R.mono fun p hp hcl => mem_off.mpr ⟨hp, fun e => by
    obtain ⟨q, o⟩ := p
    simp only at e hcl; subst e
    have := news_fun N hp hI; subst this
    rcases hc with hc | hc <;> rcases hcl with hcl | hcl <;> rw [hc] at hcl <;> exact absurd hcl (by decide)⟩

theorem dict_len {o : Obj} {kvs : List (Int × Value)} (hd : o.IsDictOf (intKind prog w) kvs) (hk : ∀ kv ∈ kvs, 0 ≤ kv.1 ∧ kv.1 < n) (hn : n ≤ 1000) : kvs.length ≤ 1000 := by
  obtain ⟨_, _, _, _, _, _, hnd⟩ := hd
  have := nodup_le 1000 (kvs.map (·.1)) hnd fun x hx => by
    obtain ⟨kv, h1, rfl⟩ := List.mem_map.mp hx
    have := hk kv h1
    omega
  simpa using this

theorem list_ne_dict {h₀ h : Heap} {L : Addr} (N : News h₀ L h a) {d l : Addr} {o : Obj} {kvs : List (Int × Value)} {its : Array Value} {ep : Nat} (h1 : (d, o) ∈ a) (hd : o.IsDictOf (intKind prog w) kvs) (h2 : (l, listOf its ep) ∈ a) : l ≠ d := fun e => by
  subst e
  have := news_fun N h1 h2; subst this
  obtain ⟨_, _, e, _⟩ := hd
  have e1 : (Value.type "list") = .type "dict" := e.1
  exact absurd e1 (by decide)

/-- a store into N -/
theorem Rep.setN {h₀ h : Heap} {L : Addr} (N : News h₀ L h a) (R : Rep prog w n aN aS aF σ loc a) {x v : Int} {tv : Tok} {o o' : Obj} {kvs : List (Int × Value)}
    (h1 : (aN, o) ∈ a) (h2 : o.IsDictOf (intKind prog w) kvs) (h3 : ∀ i, 0 ≤ i → i < n → ∃ t, valueAt kvs i = some (.int (σ.N i) t)) (h4 : ∀ kv ∈ kvs, 0 ≤ kv.1 ∧ kv.1 < n)
    (hx : 0 ≤ x ∧ x < n) (h5 : o'.IsDictOf (intKind prog w) (stored kvs x (.int v tv))) :
    Rep prog w n aN aS aF ⟨upd σ.N x v, σ.stk, σ.F⟩ loc (put aN o' a) where
  nd := ⟨o', _, mem_put_self, h5, fun i i0 i1 => by
      rw [valueAt_stored]
      by_cases e : i = x
      · subst e; exact ⟨tv, by simp [upd_same]⟩
      · obtain ⟨t, ht⟩ := h3 i i0 i1; exact ⟨t, by rw [if_neg e, ht]; simp only; rw [upd_ne e]⟩,
    fun kv hkv => by
      rcases key_stored hkv with e | ⟨y, hy, e⟩
      · rw [e]; exact hx
      · rw [← e]; exact h4 y hy⟩
  st := let ⟨vs, ep, q1, q2⟩ := R.st; ⟨vs, ep, mem_put_ne q1 (list_ne_dict N h1 h2 q1), q2⟩
  fd := let ⟨o, kvs, q1, q2, q3⟩ := R.fd; ⟨o, kvs, mem_put_ne q1 R.apN.symm, q2, q3⟩
  ls := fun i l e => let ⟨vs, ep, q1, q2⟩ := R.ls i l e; ⟨vs, ep, mem_put_ne q1 (list_ne_dict N h1 h2 q1), q2⟩
  apN := R.apN
  apS := R.apS
  small := R.small
  lens := R.lens
  lenl := R.lenl
  loN := R.loN
  loF := R.loF

/-- a store into F -/
theorem Rep.setF {h₀ h : Heap} {L : Addr} (N : News h₀ L h a) (R : Rep prog w n aN aS aF σ loc a) {x : Int} {c : Addr} {l : List Str} {vs : List Value} {ep : Nat} {o o' : Obj} {kvs : List (Int × Value)}
    (h1 : (aF, o) ∈ a) (h2 : o.IsDictOf (intKind prog w) kvs) (h3 : ∀ i, σ.F i = none → valueAt kvs i = none) (h3' : ∀ i l, σ.F i = some l → valueAt kvs i = some (.ref (loc i))) (h4 : ∀ kv ∈ kvs, 0 ≤ kv.1 ∧ kv.1 < n)
    (hx : 0 ≤ x ∧ x < n) (hc : (c, listOf vs.toArray ep) ∈ a) (hl : StrsAre vs l) (hll : l.length ≤ 1000) (hcS : c ≠ aS) (h5 : o'.IsDictOf (intKind prog w) (stored kvs x (.ref c))) :
    Rep prog w n aN aS aF ⟨σ.N, σ.stk, upd σ.F x (some l)⟩ (upd loc x c) (put aF o' a) where
  nd := let ⟨o, kvs, q1, q2, q3⟩ := R.nd; ⟨o, kvs, mem_put_ne q1 R.apN, q2, q3⟩
  st := let ⟨vs, ep, q1, q2⟩ := R.st; ⟨vs, ep, mem_put_ne q1 (list_ne_dict N h1 h2 q1), q2⟩
  fd := ⟨o', _, mem_put_self, h5, fun i hi => by
      rw [valueAt_stored]
      by_cases e : i = x
      · subst e; simp [upd_same] at hi
      · rw [if_neg e]; simp only at hi; rw [upd_ne e] at hi; exact h3 i hi,
    fun i l' hi => by
      rw [valueAt_stored]
      by_cases e : i = x
      · subst e; simp [upd_same]
      · rw [if_neg e, upd_ne e]; simp only at hi; rw [upd_ne e] at hi; exact h3' i l' hi,
    fun kv hkv => by
      rcases key_stored hkv with e | ⟨y, hy, e⟩
      · rw [e]; exact hx
      · rw [← e]; exact h4 y hy⟩
  ls := fun i l' hi => by
    by_cases e : i = x
    · subst e
      simp only [upd_same, Option.some.injEq] at hi ⊢; subst hi
      exact ⟨vs, ep, mem_put_ne hc (list_ne_dict N h1 h2 hc), hl⟩
    · simp only at hi; rw [upd_ne e] at hi ⊢
      obtain ⟨vs, ep, q1, q2⟩ := R.ls i l' hi
      exact ⟨vs, ep, mem_put_ne q1 (list_ne_dict N h1 h2 q1), q2⟩
  apN := R.apN
  apS := fun i hi => by
    by_cases e : i = x
    · subst e; rw [upd_same]; exact hcS
    · simp only at hi; rw [upd_ne e] at hi ⊢; exact R.apS i hi
  small := R.small
  lens := R.lens
  lenl := fun i l' hi => by
    by_cases e : i = x
    · subst e; simp only [upd_same, Option.some.injEq] at hi; subst hi; exact hll
    · simp only at hi; rw [upd_ne e] at hi; exact R.lenl i l' hi
  loN := R.loN
  loF := R.loF

/-- another stack -/
theorem Rep.setS {h₀ h : Heap} {L : Addr} (N : News h₀ L h a) (R : Rep prog w n aN aS aF σ loc a) {vs vs' : List Value} {ep ep' : Nat} {stk' : List Int}
    (h1 : (aS, listOf vs.toArray ep) ∈ a) (h2 : IntsAre vs' stk'.reverse) (hl : stk'.length ≤ 1000) :
    Rep prog w n aN aS aF ⟨σ.N, stk', σ.F⟩ loc (put aS (listOf vs'.toArray ep') a) where
  nd := let ⟨o, kvs, q1, q2, q3⟩ := R.nd; ⟨o, kvs, mem_put_ne q1 (list_ne_dict N q1 q2 h1).symm, q2, q3⟩
  st := ⟨vs', ep', mem_put_self, h2⟩
  fd := let ⟨o, kvs, q1, q2, q3⟩ := R.fd; ⟨o, kvs, mem_put_ne q1 (list_ne_dict N q1 q2 h1).symm, q2, q3⟩
  ls := fun i l e => let ⟨vs, ep, q1, q2⟩ := R.ls i l e; ⟨vs, ep, mem_put_ne q1 (R.apS i (by rw [e]; rfl)), q2⟩
  apN := R.apN
  apS := R.apS
  small := R.small
  lens := hl
  lenl := R.lenl
  loN := R.loN
  loF := R.loF

/-- another list at x's place -/
theorem Rep.setL {h₀ h : Heap} {L : Addr} (N : News h₀ L h a) (R : Rep prog w n aN aS aF σ loc a) {x : Int} {l l' : List Str} {vs vs' : List Value} {ep ep' : Nat}
    (hx : σ.F x = some l) (h1 : (loc x, listOf vs.toArray ep) ∈ a) (h2 : StrsAre vs' l') (hl : l'.length ≤ 1000) (U : ∀ j, j ≠ x → (σ.F j).isSome → loc j ≠ loc x) :
    Rep prog w n aN aS aF ⟨σ.N, σ.stk, upd σ.F x (some l')⟩ loc (put (loc x) (listOf vs'.toArray ep') a) where
  nd := let ⟨o, kvs, q1, q2, q3⟩ := R.nd; ⟨o, kvs, mem_put_ne q1 (list_ne_dict N q1 q2 h1).symm, q2, q3⟩
  st := let ⟨vs, ep, q1, q2⟩ := R.st; ⟨vs, ep, mem_put_ne q1 (R.apS x (by rw [hx]; rfl)).symm, q2⟩
  fd := let ⟨o, kvs, q1, q2, q3, q4, q5⟩ := R.fd; ⟨o, kvs, mem_put_ne q1 (list_ne_dict N q1 q2 h1).symm, q2, fun i hi => by
      by_cases e : i = x
      · subst e; simp [upd_same] at hi
      · simp only at hi; rw [upd_ne e] at hi; exact q3 i hi,
    fun i l₁ hi => by
      by_cases e : i = x
      · subst e; exact q4 i l hx
      · simp only at hi; rw [upd_ne e] at hi; exact q4 i l₁ hi, q5⟩
  ls := fun i l₁ hi => by
    by_cases e : i = x
    · subst e
      simp only [upd_same, Option.some.injEq] at hi; subst hi
      exact ⟨vs', ep', mem_put_self, h2⟩
    · simp only at hi; rw [upd_ne e] at hi
      obtain ⟨vs, ep, q1, q2⟩ := R.ls i l₁ hi
      exact ⟨vs, ep, mem_put_ne q1 (U i e (by rw [hi]; rfl)), q2⟩
  apN := R.apN
  apS := fun i hi => by
    by_cases e : i = x
    · subst e; exact R.apS i (by rw [hx]; rfl)
    · simp only at hi; rw [upd_ne e] at hi; exact R.apS i hi
  small := R.small
  lens := R.lens
  lenl := fun i l₁ hi => by
    by_cases e : i = x
    · subst e; simp only [upd_same, Option.some.injEq] at hi; subst hi; exact hl
    · simp only at hi; rw [upd_ne e] at hi; exact R.lenl i l₁ hi
  loN := R.loN
  loF := R.loF
end

def fpT (aN aS aF : Addr) (d : Addr) : Prop := d = aN ∨ d = aS ∨ d = aF

section
variable {prog : Program} {w : World} {A : Around} {E : Value → Shared → Prop} {s : Shared} {h₀ : Heap} {L : Addr} {m : Loc} {a : Led}
  {n : Int} {aN aS aF : Addr} {σ : St} {loc : Int → Addr}

theorem line1000 {k : Nat} (h : k ≤ 1000) : k ≤ sizeLine := by rw [sizeLine_eq]; omega

theorem r_setN {x v : Int} {tk tv : Tok} {Q : Unit → Shared → Prop} (F : Fr h₀ L s.heap m) (N : News h₀ L s.heap a) (R : Rep prog w n aN aS aF σ loc a) (hx : 0 ≤ x ∧ x < n)
    (h : ∀ h' a', Fr h₀ L h' m → News h₀ L h' a' → Rep prog w n aN aS aF ⟨upd σ.N x v, σ.stk, σ.F⟩ loc a' → Kept (fpT aN aS aF) a a' → Q () { s with heap := h', toks := s.toks + 1 }) :
    wpAny (model prog w) A (setItem (.ref aN) (.int x tk) (.int v tv)) Q E s := by
  obtain ⟨o, kvs, h1, h2, h3, h4⟩ := R.nd
  refine r_setd F N h1 h2 (k := x) (by simp [intKind, Value.isInt]) (line1000 (dict_len h2 h4 R.small)) fun h' o' F' N' hd => ?_
  exact h h' _ F' N' (R.setN N h1 h2 h3 h4 hx hd) (Kept.put (.inl rfl))

theorem r_setF {x : Int} {tk : Tok} {c : Addr} {l : List Str} {vs : List Value} {ep : Nat} {Q : Unit → Shared → Prop} (F : Fr h₀ L s.heap m) (N : News h₀ L s.heap a) (R : Rep prog w n aN aS aF σ loc a) (hx : 0 ≤ x ∧ x < n)
    (hc : (c, listOf vs.toArray ep) ∈ a) (hl : StrsAre vs l) (hll : l.length ≤ 1000) (hcS : c ≠ aS)
    (h : ∀ h' a', Fr h₀ L h' m → News h₀ L h' a' → Rep prog w n aN aS aF ⟨σ.N, σ.stk, upd σ.F x (some l)⟩ (upd loc x c) a' → Kept (fpT aN aS aF) a a' → Q () { s with heap := h', toks := s.toks + 1 }) :
    wpAny (model prog w) A (setItem (.ref aF) (.int x tk) (.ref c)) Q E s := by
  obtain ⟨o, kvs, h1, h2, h3, h3', h4⟩ := R.fd
  refine r_setd F N h1 h2 (k := x) (by simp [intKind, Value.isInt]) (line1000 (dict_len h2 h4 R.small)) fun h' o' F' N' hd => ?_
  exact h h' _ F' N' (R.setF N h1 h2 h3 h3' h4 hx hc hl hll hcS hd) (Kept.put (.inr (.inr rfl)))

theorem r_getN {value slice : Expr} {x : Int} {tk : Tok} {Q : Value → Shared → Prop} (N : News h₀ L s.heap a) (R : Rep prog w n aN aS aF σ loc a) (hx : 0 ≤ x ∧ x < n)
    (h : ∀ t, Q (.int (σ.N x) t) { s with toks := s.toks + 1 })
    (hs : subscripted slice false (.ref aN) (.int x tk) = operate [.ref aN, .int x tk] (getItem (.ref aN) (.int x tk))) :
    wpAny (model prog w) A (subscriptTail value slice (.ref aN) (.int x tk)) Q E s := by
  obtain ⟨o, kvs, h1, h2, h3, h4⟩ := R.nd
  obtain ⟨t, ht⟩ := h3 x hx.1 hx.2
  exact kdt_tail N h1 h2 (kdt_getItem N h1 h2 (k := x) (by simp [intKind, Value.isInt]) ht (h t)) hs

theorem r_getF {value slice : Expr} {x : Int} {tk : Tok} {l : List Str} {Q : Value → Shared → Prop} (N : News h₀ L s.heap a) (R : Rep prog w n aN aS aF σ loc a) (hx : σ.F x = some l)
    (h : Q (.ref (loc x)) { s with toks := s.toks + 1 })
    (hs : subscripted slice false (.ref aF) (.int x tk) = operate [.ref aF, .int x tk] (getItem (.ref aF) (.int x tk))) :
    wpAny (model prog w) A (subscriptTail value slice (.ref aF) (.int x tk)) Q E s := by
  obtain ⟨o, kvs, h1, h2, h3, h3', h4⟩ := R.fd
  exact kdt_tail N h1 h2 (kdt_getItem N h1 h2 (k := x) (by simp [intKind, Value.isInt]) (h3' x l hx) h) hs

theorem r_get2F {x : Int} {tk : Tok} {l : List Str} {dflt : Value} {Q : Value → Shared → Prop} (N : News h₀ L s.heap a) (R : Rep prog w n aN aS aF σ loc a) (hx : σ.F x = some l)
    (h : Q (.ref (loc x)) { s with toks := s.toks + 1 }) :
    wpAny (model prog w) A (call (.builtin "dict.get") [.ref aF, .int x tk, dflt]) Q E s := by
  obtain ⟨o, kvs, h1, h2, h3, h3', h4⟩ := R.fd
  exact kdg_get2 N h1 h2 R.loF (k := x) (by simp [intKind, Value.isInt]) _ (h3' x l hx) h

theorem r_push {x : Int} {tk : Tok} {Q : Value → Shared → Prop} (F : Fr h₀ L s.heap m) (N : News h₀ L s.heap a) (R : Rep prog w n aN aS aF σ loc a) (hl : σ.stk.length + 1 ≤ 1000)
    (h : ∀ h' a', Fr h₀ L h' m → News h₀ L h' a' → Rep prog w n aN aS aF ⟨σ.N, x :: σ.stk, σ.F⟩ loc a' → Kept (fpT aN aS aF) a a' → Q .none { s with heap := h' }) :
    wpAny (model prog w) A (call (.builtin "list.append") [.ref aS, .int x tk]) Q E s := by
  obtain ⟨vs, ep, h1, h2⟩ := R.st
  have e := h2.length
  refine r_append F N h1 (line1000 (by simp at e ⊢; omega)) fun h' F' N' => ?_
  have e2 : vs.toArray.push (Value.int x tk) = (vs ++ [Value.int x tk]).toArray := by simp
  rw [e2] at N'
  exact h h' _ F' N' (R.setS N h1 (by show IntsAre (vs ++ [Value.int x tk]) (x :: σ.stk).reverse; rw [List.reverse_cons]; exact h2.append (.cons x tk .nil)) (by simpa using hl)) (Kept.put (.inr (.inl rfl)))

theorem r_popS {x : Int} {r : List Int} {Q : Value → Shared → Prop} (F : Fr h₀ L s.heap m) (N : News h₀ L s.heap a) (R : Rep prog w n aN aS aF σ loc a) (hs : σ.stk = x :: r)
    (h : ∀ h' a' t, Fr h₀ L h' m → News h₀ L h' a' → Rep prog w n aN aS aF ⟨σ.N, r, σ.F⟩ loc a' → Kept (fpT aN aS aF) a a' → Q (.int x t) { s with heap := h' }) :
    wpAny (model prog w) A (call (.builtin "list.pop") [.ref aS]) Q E s := by
  obtain ⟨vs, ep, h1, h2⟩ := R.st
  have e := h2.length
  have hlen := R.lens
  rw [hs] at h2 e hlen
  have hpos : 0 < vs.length := by simp at e; omega
  obtain ⟨y, t, q1, q2, q3⟩ := kpa_ints h2 hpos
  have e3 : (x :: r).reverse.getLastD 0 = x := by rw [List.reverse_cons, List.getLastD_concat]
  have e4 : (x :: r).reverse.dropLast = r.reverse := by simp
  rw [e3] at q2; rw [e4] at q3; subst q2
  refine r_pop F N h1 (y := .int x t) ?_ (line1000 (by simp at e hlen ⊢; omega)) fun h' F' N' => ?_
  · have : vs[vs.length - 1]? = some (.int x t) := by
      rw [q1]; simp
    simpa using this
  · have e2 : vs.toArray.pop = vs.dropLast.toArray := by simp
    rw [e2] at N'
    exact h h' _ t F' N' (R.setS N h1 q3 (by simp at hlen; omega)) (Kept.put (.inr (.inl rfl)))

theorem r_topS {value slice : Expr} {x : Int} {r : List Int} {u : Tok} {Q : Value → Shared → Prop} (N : News h₀ L s.heap a) (R : Rep prog w n aN aS aF σ loc a) (hs : σ.stk = x :: r)
    (h : ∀ t, Q (.int x t) s)
    (hs1 : subscripted slice false (.ref aS) (.int (-1) u) = operate [.ref aS, .int (-1) u] (getItem (.ref aS) (.int (-1) u))) (hg : ∀ r, letTemporaryGo value (.ref aS) r = pure ()) :
    wpAny (model prog w) A (subscriptTail value slice (.ref aS) (.int (-1) u)) Q E s := by
  obtain ⟨vs, ep, h1, h2⟩ := R.st
  have e := h2.length
  rw [hs] at h2 e
  have hpos : 0 < vs.length := by simp at e; omega
  obtain ⟨y, t, q1, q2, q3⟩ := kpa_ints h2 hpos
  have e3 : (x :: r).reverse.getLastD 0 = x := by rw [List.reverse_cons, List.getLastD_concat]
  rw [e3] at q2; subst q2
  refine kim_back N h1 rfl rfl (by omega) (by omega) (by omega) (x := .int x t) ?_ (h t) hs1 hg
  have : vs[vs.length - 1]? = some (.int x t) := by
    rw [q1]; simp
  have e5 : ((-1 : Int) + (vs.length : Int)).toNat = vs.length - 1 := by omega
  rw [e5]; exact this

theorem r_lenS {Q : Value → Shared → Prop} (N : News h₀ L s.heap a) (R : Rep prog w n aN aS aF σ loc a)
    (h : Q (.int (σ.stk.length : Int) (s.toks + 1)) { s with toks := s.toks + 1 + 1 }) : wpAny (model prog w) A (call (.builtin "len") [.ref aS]) Q E s := by
  obtain ⟨vs, ep, h1, h2⟩ := R.st
  have e := h2.length
  have hlen := R.lens
  have e2 : vs.length = σ.stk.length := by simpa using e
  refine call_len_list (items := vs.toArray) (N.isList h1) (by simp; omega) ?_
  simp only [List.size_toArray, e2]; exact h

/-- an append to x's own list -/
theorem r_appF {x : Int} {l : List Str} {c : Str} {tc : Tok} {Q : Value → Shared → Prop} (F : Fr h₀ L s.heap m) (N : News h₀ L s.heap a) (R : Rep prog w n aN aS aF σ loc a) (hx : σ.F x = some l) (hl : l.length + 1 ≤ 1000)
    (U : ∀ j, j ≠ x → (σ.F j).isSome → loc j ≠ loc x)
    (h : ∀ h' a', Fr h₀ L h' m → News h₀ L h' a' → Rep prog w n aN aS aF ⟨σ.N, σ.stk, upd σ.F x (some (l ++ [c]))⟩ loc a' → Kept (fun d => d = loc x) a a' → Q .none { s with heap := h' }) :
    wpAny (model prog w) A (call (.builtin "list.append") [.ref (loc x), .str c tc]) Q E s := by
  obtain ⟨vs, ep, h1, h2⟩ := R.ls x l hx
  have e := h2.length
  refine r_append F N h1 (line1000 (by simp; omega)) fun h' F' N' => ?_
  have e2 : vs.toArray.push (Value.str c tc) = (vs ++ [Value.str c tc]).toArray := by simp
  rw [e2] at N'
  exact h h' _ F' N' (R.setL N hx h1 (StrsAre.append' h2 (.cons c tc .nil)) (by simpa using hl) U) (Kept.put rfl)

theorem r_mS {pl : Sem Bool} {Q : Value × List Value → Shared → Prop} (N : News h₀ L s.heap a) (R : Rep prog w n aN aS aF σ loc a)
    (h : Q (.builtin "list.append", [.ref aS]) s) : wpAny (model prog w) A (getMethod (.ref aS) "append" pl) Q E s := by
  obtain ⟨vs, ep, h1, h2⟩ := R.st; exact getMethod_append_N N h1 h
theorem r_mP {pl : Sem Bool} {Q : Value × List Value → Shared → Prop} (N : News h₀ L s.heap a) (R : Rep prog w n aN aS aF σ loc a)
    (h : Q (.builtin "list.pop", [.ref aS]) s) : wpAny (model prog w) A (getMethod (.ref aS) "pop" pl) Q E s := by
  obtain ⟨vs, ep, h1, h2⟩ := R.st; exact Copied.getMethod_pop_at (N.get h1) rfl rfl h
theorem r_mG {pl : Sem Bool} {Q : Value × List Value → Shared → Prop} (N : News h₀ L s.heap a) (R : Rep prog w n aN aS aF σ loc a)
    (h : Q (.builtin "dict.get", [.ref aF]) s) : wpAny (model prog w) A (getMethod (.ref aF) "get" pl) Q E s := by
  obtain ⟨o, kvs, h1, h2, _⟩ := R.fd; exact kdg_method N h1 h2 h
theorem r_mF {x : Int} {l : List Str} {pl : Sem Bool} {Q : Value × List Value → Shared → Prop} (N : News h₀ L s.heap a) (R : Rep prog w n aN aS aF σ loc a) (hx : σ.F x = some l)
    (h : Q (.builtin "list.append", [.ref (loc x)]) s) : wpAny (model prog w) A (getMethod (.ref (loc x)) "append" pl) Q E s := by
  obtain ⟨vs, ep, h1, h2⟩ := R.ls x l hx; exact getMethod_append_N N h1 h

theorem strs_any {x : Str} : ∀ {l : List Str}, (l.map PyData.str).any (datHitsStr x) = decide (x ∈ l)
  | [] => rfl
  | y :: r => by
    simp only [List.map_cons, List.any_cons, strs_any, List.mem_cons, datHitsStr]
    by_cases h : y = x
    · subst h; simp
    · have : ¬ x = y := fun e => h e.symm
      have hb : (y == x) = false := by simpa using h
      simp [this, hb]

theorem r_notinF {x : Int} {l : List Str} {c : Str} {tc : Tok} {Q : Value → Shared → Prop} (N : News h₀ L s.heap a) (R : Rep prog w n aN aS aF σ loc a) (hx : σ.F x = some l)
    (h : Q (.bool (!decide (c ∈ l))) s) : wpAny (model prog w) A (compareOp .NotIn (.str c tc) (.ref (loc x))) Q E s := by
  obtain ⟨vs, ep, h1, h2⟩ := R.ls x l hx
  refine notin_made_str (N.isList h1) (StrsAre.carried h2) ?_
  rw [strs_any]; exact h
end
end
end Mine

namespace Mine
section
open PySem

structure Good (n : Int) (U : List Str) (σ : St) : Prop where
  rng : ∀ i ∈ σ.stk, 0 ≤ i ∧ i < n
  nd : σ.stk.Nodup
  nf : ∀ i, σ.N i ≠ 0 ↔ (σ.F i).isSome
  sn : ∀ i ∈ σ.stk, σ.N i ≠ 0
  fl : ∀ i l, σ.F i = some l → l.Nodup ∧ ∀ c ∈ l, c ∈ U

def un (n : Int) (σ : St) : Nat := ((List.range n.toNat).filter fun (i : Nat) => decide (σ.N (i : Int) = 0)).length

structure Graph (n : Int) (U : List Str) (T : Int → List Int) (M : Int → List Str) : Prop where
  t : ∀ x, 0 ≤ x → x < n → ∀ y ∈ T x, 0 ≤ y ∧ y < n
  m : ∀ x, 0 ≤ x → x < n → (M x).Nodup ∧ ∀ c ∈ M x, c ∈ U

/-- what holds between the turns of x's loop -/
structure LS (n : Int) (U : List Str) (x : Int) (σ₀ : St) (f : Nat) (τ : St) : Prop where
  good : Good n U τ
  suf : ∃ pre, τ.stk = pre ++ x :: σ₀.stk
  un : un n τ ≤ f

theorem nodup_sub_le {α : Type} [DecidableEq α] : ∀ (l U : List α), l.Nodup → (∀ x ∈ l, x ∈ U) → l.length ≤ U.length := by
  intro l
  induction l with
  | nil => intros; exact Nat.zero_le _
  | cons x r ih =>
    intro U hn hs
    rw [List.nodup_cons] at hn
    have hx : x ∈ U := hs x (.head _)
    have := ih (U.erase x) hn.2 fun y hy => by
      have hne : y ≠ x := fun e => hn.1 (e ▸ hy)
      exact (List.mem_erase_of_ne hne).mpr (hs y (.tail _ hy))
    have h2 := List.length_erase_of_mem hx
    have : 0 < U.length := List.length_pos_of_mem hx
    simp only [List.length_cons]
    omega

/-- what holds while x's component is taken off the stack -/
structure PP (n x : Int) (stk0 : List Int) (fin τ : St) : Prop where
  suf : ∃ pre, τ.stk = pre ++ x :: stk0
  go : popTo x τ.stk τ = fin
  nd : τ.stk.Nodup
  rng : ∀ i ∈ τ.stk, 0 ≤ i ∧ i < n
  fx : (τ.F x).isSome

theorem PP.step {n x : Int} {stk0 : List Int} {fin τ : St} (P : PP n x stk0 fin τ) :
    ∃ e r, τ.stk = e :: r ∧ (0 ≤ e ∧ e < n) ∧ ((e = x ∧ r = stk0 ∧ pop1 x e r τ = fin) ∨ (e ≠ x ∧ e ∉ stk0 ∧ PP n x stk0 fin (pop1 x e r τ))) := by
  obtain ⟨pre, hp⟩ := P.suf
  have hg := P.go
  have hnd := P.nd
  have hr := P.rng
  cases pre with
  | nil =>
    rw [List.nil_append] at hp
    refine ⟨x, stk0, hp, hr x (by rw [hp]; simp), .inl ⟨rfl, rfl, ?_⟩⟩
    rw [hp] at hg; unfold popTo at hg; rw [if_pos rfl] at hg; exact hg
  | cons e pre =>
    rw [List.cons_append] at hp
    rw [hp] at hnd hr hg
    rw [List.nodup_cons] at hnd
    have hex : e ≠ x := fun h => hnd.1 (by rw [h]; simp)
    refine ⟨e, pre ++ x :: stk0, hp, hr e (.head _), .inr ⟨hex, fun h => hnd.1 (List.mem_append_right _ (.tail _ h)), ⟨⟨pre, rfl⟩, ?_, hnd.2, fun i hi => hr i (.tail _ hi), ?_⟩⟩⟩
    · unfold popTo at hg; rw [if_neg hex] at hg; exact hg
    · show (upd τ.F e (τ.F x) x).isSome = true
      rw [upd_ne (Ne.symm hex)]; exact P.fx

section
variable {n : Int} {U : List Str} {T : Int → List Int} {M : Int → List Str} {x y : Int} {σ σ₀ τ : St} {f : Nat}
theorem un_pos (hx : 0 ≤ x ∧ x < n) (h0 : σ.N x = 0) : 0 < un n σ := by
  unfold un
  refine List.length_pos_of_mem (a := x.toNat) (List.mem_filter.mpr ⟨List.mem_range.mpr (by omega), ?_⟩)
  have e : ((x.toNat : Nat) : Int) = x := by omega
  rw [e, h0]; rfl
theorem un_le : un n σ ≤ n.toNat := by
  unfold un
  have := List.length_filter_le (fun (i : Nat) => decide (σ.N (i : Int) = 0)) (List.range n.toNat)
  simpa using this
theorem start_Good : Good n U start := ⟨fun i h => (by cases h), List.nodup_nil, fun i => by simp [start], fun i h => (by cases h), fun i l h => (by cases h)⟩
theorem filter_le {p q : Nat → Bool} : ∀ l : List Nat, (∀ i ∈ l, q i = true → p i = true) → (l.filter q).length ≤ (l.filter p).length := by
  intro l
  induction l with
  | nil => intro _; exact Nat.le_refl _
  | cons a r ih =>
    intro h
    have := ih fun i hi => h i (.tail _ hi)
    have h1 := h a (.head _)
    rw [List.filter_cons, List.filter_cons]
    cases e : q a with
    | true => rw [h1 e]; simpa using this
    | false => cases p a <;> simp <;> omega
theorem filter_lt {p q : Nat → Bool} : ∀ l : List Nat, (∀ i ∈ l, q i = true → p i = true) → (∃ x ∈ l, p x = true ∧ q x = false) → (l.filter q).length < (l.filter p).length := by
  intro l
  induction l with
  | nil => rintro _ ⟨x, hx, _⟩; cases hx
  | cons a r ih =>
    rintro h ⟨x, hx, hp, hq⟩
    have h1 := h a (.head _)
    have hr := fun i hi => h i (List.mem_cons_of_mem a hi)
    rw [List.filter_cons, List.filter_cons]
    rcases List.mem_cons.mp hx with rfl | hx
    · have := filter_le (p := p) (q := q) r hr
      rw [hp, hq]; simp; omega
    · have := ih hr ⟨x, hx, hp, hq⟩
      cases e : q a with
      | true => rw [h1 e]; simpa using this
      | false => cases p a <;> simp <;> omega
theorem un_mono {σ τ : St} (h : ∀ i, τ.N i = 0 → σ.N i = 0) : un n τ ≤ un n σ :=
  filter_le _ fun i _ e => by simpa using h i (by simpa using e)
theorem un_lt {σ τ : St} (h : ∀ i, τ.N i = 0 → σ.N i = 0) (hx : 0 ≤ x ∧ x < n) (h0 : σ.N x = 0) (h1 : τ.N x ≠ 0) : un n τ < un n σ := by
  refine filter_lt _ (fun i _ e => by simpa using h i (by simpa using e)) ⟨x.toNat, List.mem_range.mpr (by omega), ?_, ?_⟩
  · have e : ((x.toNat : Nat) : Int) = x := by omega
    rw [e, h0]; rfl
  · have e : ((x.toNat : Nat) : Int) = x := by omega
    rw [e]; simpa using h1
theorem addNew_ok : ∀ (src l : List Str), l.Nodup → (∀ c ∈ l, c ∈ U) → (∀ c ∈ src, c ∈ U) → (addNew l src).Nodup ∧ ∀ c ∈ addNew l src, c ∈ U := by
  intro src
  induction src with
  | nil => intro l h1 h2 _; exact ⟨h1, h2⟩
  | cons a r ih =>
    intro l h1 h2 h3
    show (addNew (add1 l a) r).Nodup ∧ ∀ c ∈ addNew (add1 l a) r, c ∈ U
    refine ih _ ?_ ?_ fun c hc => h3 c (.tail _ hc)
    · unfold add1; split
      · exact h1
      · rename_i hn
        rw [List.nodup_append]
        exact ⟨h1, by simp, fun x hx y hy e => hn (by rw [List.mem_singleton.mp hy] at e; exact e ▸ hx)⟩
    · unfold add1; split
      · exact h2
      · intro c hc
        rcases List.mem_append.mp hc with hc | hc
        · exact h2 c hc
        · rw [List.mem_singleton.mp hc]; exact h3 a (.head _)

theorem enter_Good (G : Graph n U T M) (g : Good n U σ) (hx : 0 ≤ x ∧ x < n) (h0 : σ.N x = 0) : Good n U (enter M x σ) where
  rng := fun i hi => by
    rcases List.mem_cons.mp hi with rfl | hi
    · exact hx
    · exact g.rng i hi
  nd := List.nodup_cons.mpr ⟨fun h => g.sn x h h0, g.nd⟩
  nf := fun i => by
    show upd σ.N x _ i ≠ 0 ↔ (upd σ.F x _ i).isSome
    by_cases e : i = x
    · subst e; rw [upd_same, upd_same]; simp; omega
    · rw [upd_ne e, upd_ne e]; exact g.nf i
  sn := fun i hi => by
    show upd σ.N x _ i ≠ 0
    by_cases e : i = x
    · subst e; rw [upd_same]; omega
    · rw [upd_ne e]
      rcases List.mem_cons.mp hi with h | hi
      · exact absurd h e
      · exact g.sn i hi
  fl := fun i l h => by
    change upd σ.F x _ i = some l at h
    by_cases e : i = x
    · subst e; rw [upd_same] at h; cases h; exact G.m i hx.1 hx.2
    · rw [upd_ne e] at h; exact g.fl i l h
theorem enter_zero {i : Int} (h : (enter M x σ).N i = 0) : σ.N i = 0 ∧ i ≠ x := by
  change upd σ.N x _ i = 0 at h
  by_cases e : i = x
  · subst e; rw [upd_same] at h; omega
  · rw [upd_ne e] at h; exact ⟨h, e⟩
theorem enter_LS (G : Graph n U T M) (g : Good n U σ) (hx : 0 ≤ x ∧ x < n) (h0 : σ.N x = 0) (hu : un n σ ≤ f + 1) : LS n U x σ f (enter M x σ) := by
  refine ⟨enter_Good G g hx h0, ⟨[], rfl⟩, ?_⟩
  have := un_lt (σ := σ) (τ := enter M x σ) (fun i h => (enter_zero h).1) hx h0 (fun h => (enter_zero h).2 rfl)
  omega

theorem relax_zero {i : Int} (hx : τ.N x ≠ 0) (hy : τ.N y ≠ 0) (h : (relax x y τ).N i = 0) : τ.N i = 0 := by
  change upd τ.N x _ i = 0 at h
  by_cases e : i = x
  · subst e; rw [upd_same] at h; unfold mini at h; split at h
    · exact absurd h hy
    · exact h
  · rw [upd_ne e] at h; exact h
theorem relax_Good (g : Good n U τ) (hx : x ∈ τ.stk) (hy : τ.N y ≠ 0) : Good n U (relax x y τ) where
  rng := g.rng
  nd := g.nd
  nf := fun i => by
    show upd τ.N x _ i ≠ 0 ↔ (upd τ.F x _ i).isSome
    by_cases e : i = x
    · subst e; rw [upd_same, upd_same]
      have := g.sn i hx
      unfold mini; split <;> simp [*]
    · rw [upd_ne e, upd_ne e]; exact g.nf i
  sn := fun i hi h => g.sn i hi (relax_zero (g.sn x hx) hy h)
  fl := fun i l h => by
    change upd τ.F x _ i = some l at h
    have hU : ∀ j, ((τ.F j).getD []).Nodup ∧ ∀ c ∈ (τ.F j).getD [], c ∈ U := fun j => by
      cases e : τ.F j with
      | none => exact ⟨List.nodup_nil, fun c hc => (by cases hc)⟩
      | some l => exact g.fl j l e
    by_cases e : i = x
    · subst e; rw [upd_same] at h; cases h
      exact addNew_ok _ _ (hU i).1 (hU i).2 (hU y).2
    · rw [upd_ne e] at h; exact g.fl i l h
theorem relax_LS (l : LS n U x σ₀ f τ) (hy : τ.N y ≠ 0) : LS n U x σ₀ f (relax x y τ) := by
  obtain ⟨pre, hp⟩ := l.suf
  have hx : x ∈ τ.stk := by rw [hp]; simp
  exact ⟨relax_Good l.good hx hy, l.suf, Nat.le_trans (un_mono fun i h => relax_zero (l.good.sn x hx) hy h) l.un⟩

theorem pop1_Good {e : Int} {r : List Int} (g : Good n U τ) (hs : τ.stk = e :: r) (hx : (τ.F x).isSome) : Good n U (pop1 x e r τ) := by
  have hrng := g.rng
  have hnd := g.nd
  have hsn := g.sn
  rw [hs] at hrng hnd hsn
  rw [List.nodup_cons] at hnd
  refine ⟨fun i hi => hrng i (.tail _ hi), hnd.2, fun i => ?_, fun i hi => ?_, fun i l h => ?_⟩
  · show upd τ.N e _ i ≠ 0 ↔ (upd τ.F e _ i).isSome
    by_cases h : i = e
    · subst h; rw [upd_same, upd_same]; simp [hx, MAXI]
    · rw [upd_ne h, upd_ne h]; exact g.nf i
  · show upd τ.N e _ i ≠ 0
    have hne : i ≠ e := fun h => hnd.1 (h ▸ hi)
    rw [upd_ne hne]; exact hsn i (.tail _ hi)
  · change upd τ.F e _ i = some l at h
    by_cases h' : i = e
    · subst h'; rw [upd_same] at h; exact g.fl x l h
    · rw [upd_ne h'] at h; exact g.fl i l h
theorem pop1_zero {e i : Int} {r : List Int} (h : (pop1 x e r τ).N i = 0) : τ.N i = 0 := by
  change upd τ.N e _ i = 0 at h
  by_cases e' : i = e
  · subst e'; rw [upd_same] at h; exact absurd h (by decide)
  · rw [upd_ne e'] at h; exact h
theorem popTo_ok {stk0 : List Int} : ∀ (pre : List Int) (τ : St), τ.stk = pre ++ x :: stk0 → Good n U τ → x ∉ pre →
    Good n U (popTo x τ.stk τ) ∧ (popTo x τ.stk τ).stk = stk0 ∧ (∀ i, (popTo x τ.stk τ).N i = 0 → τ.N i = 0) ∧ (popTo x τ.stk τ).N x ≠ 0 := by
  intro pre
  induction pre with
  | nil =>
    intro τ hs g _
    rw [List.nil_append] at hs
    rw [hs]; unfold popTo; rw [if_pos rfl]
    have hx : (τ.F x).isSome := (g.nf x).mp (g.sn x (by rw [hs]; simp))
    refine ⟨pop1_Good g hs hx, rfl, fun i h => pop1_zero h, ?_⟩
    show upd τ.N x _ x ≠ 0
    rw [upd_same]; decide
  | cons e pre ih =>
    intro τ hs g hn
    rw [List.cons_append] at hs
    have hex : e ≠ x := fun h => hn (h ▸ .head _)
    have hx : (τ.F x).isSome := (g.nf x).mp (g.sn x (by rw [hs]; simp))
    rw [hs]; unfold popTo; rw [if_neg hex]
    have g1 := pop1_Good g hs hx
    obtain ⟨a1, a2, a3, a4⟩ := ih (pop1 x e (pre ++ x :: stk0) τ) rfl g1 fun h => hn (.tail _ h)
    exact ⟨a1, a2, fun i h => pop1_zero (a3 i h), a4⟩

theorem visit_main (G : Graph n U T M) : ∀ f (x : Int) (σ : St), Good n U σ → 0 ≤ x ∧ x < n → σ.N x = 0 → un n σ ≤ f →
    Good n U (visit T M f x σ) ∧ (∃ pre, (visit T M f x σ).stk = pre ++ σ.stk) ∧ un n (visit T M f x σ) ≤ un n σ ∧ (visit T M f x σ).N x ≠ 0 := by
  intro f
  induction f with
  | zero => intro x σ _ hx h0 hu; exact absurd (un_pos hx h0) (by omega)
  | succ f ih =>
    intro x σ g hx h0 hu
    have hpos := un_pos hx h0
    have step : ∀ τ y, LS n U x σ (un n σ - 1) τ → 0 ≤ y ∧ y < n → LS n U x σ (un n σ - 1) (edge (visit T M f) x τ y) := by
      intro τ y l hy
      unfold edge
      by_cases h : τ.N y = 0
      · rw [if_pos h]
        obtain ⟨b1, ⟨pre, b2⟩, b3, b4⟩ := ih y τ l.good hy h (Nat.le_trans l.un (by omega))
        obtain ⟨pre0, hp⟩ := l.suf
        exact relax_LS ⟨b1, ⟨pre ++ pre0, by rw [b2, hp, List.append_assoc]⟩, Nat.le_trans b3 l.un⟩ b4
      · rw [if_neg h]; exact relax_LS l h
    have fold : ∀ (ys : List Int) τ, (∀ y ∈ ys, 0 ≤ y ∧ y < n) → LS n U x σ (un n σ - 1) τ → LS n U x σ (un n σ - 1) (ys.foldl (edge (visit T M f) x) τ) := by
      intro ys
      induction ys with
      | nil => intro τ _ l; exact l
      | cons y r ihr => intro τ hy l; exact ihr _ (fun z hz => hy z (.tail _ hz)) (step τ y l (hy y (.head _)))
    have l2 := fold (T x) _ (G.t x hx.1 hx.2) (enter_LS G g hx h0 (f := un n σ - 1) (by omega))
    have ev : visit T M (f + 1) x σ = if ((T x).foldl (edge (visit T M f) x) (enter M x σ)).N x = σ.stk.length + 1 then
        popTo x ((T x).foldl (edge (visit T M f) x) (enter M x σ)).stk ((T x).foldl (edge (visit T M f) x) (enter M x σ)) else (T x).foldl (edge (visit T M f) x) (enter M x σ) := rfl
    rw [ev]
    revert l2
    generalize (T x).foldl (edge (visit T M f) x) (enter M x σ) = σ2
    intro l2
    obtain ⟨pre, hp⟩ := l2.suf
    have hnd := l2.good.nd
    split
    · have hn : x ∉ pre := fun h => by
        rw [hp, List.nodup_append] at hnd
        exact hnd.2.2 x h x (.head _) rfl
      obtain ⟨a1, a2, a3, a4⟩ := popTo_ok pre σ2 hp l2.good hn
      exact ⟨a1, ⟨[], by rw [a2]; rfl⟩, Nat.le_trans (un_mono a3) (Nat.le_trans l2.un (Nat.sub_le _ _)), a4⟩
    · exact ⟨l2.good, ⟨pre ++ [x], by rw [hp]; simp⟩, Nat.le_trans l2.un (Nat.sub_le _ _), l2.good.sn x (by rw [hp]; simp)⟩

theorem visit_LS (G : Graph n U T M) (l : LS n U x σ₀ f τ) (hy : 0 ≤ y ∧ y < n) (h0 : τ.N y = 0) : LS n U x σ₀ f (visit T M f y τ) ∧ (visit T M f y τ).N y ≠ 0 := by
  obtain ⟨b1, ⟨pre, b2⟩, b3, b4⟩ := visit_main G f y τ l.good hy h0 l.un
  obtain ⟨pre0, hp⟩ := l.suf
  exact ⟨⟨b1, ⟨pre ++ pre0, by rw [b2, hp, List.append_assoc]⟩, Nat.le_trans b3 l.un⟩, b4⟩
theorem edge_LS (G : Graph n U T M) (l : LS n U x σ₀ f τ) (hy : 0 ≤ y ∧ y < n) : LS n U x σ₀ f (edge (visit T M f) x τ y) := by
  unfold edge
  by_cases h : τ.N y = 0
  · rw [if_pos h]; exact relax_LS (visit_LS G l hy h).1 (visit_LS G l hy h).2
  · rw [if_neg h]; exact relax_LS l h
theorem enter_eq : enter M x σ = ⟨upd σ.N x (σ.stk.length + 1), x :: σ.stk, upd σ.F x (some (M x))⟩ := rfl
theorem addNew_take {l src : List Str} {i : Nat} {c : Str} (h : src[i]? = some c) : addNew l (src.take (i + 1)) = add1 (addNew l (src.take i)) c := by
  unfold addNew
  rw [List.take_add_one, h]; simp
theorem addNew_self : ∀ (src l : List Str), (∀ c ∈ src, c ∈ l) → addNew l src = l := by
  intro src
  induction src with
  | nil => intros; rfl
  | cons a r ih =>
    intro l h
    show addNew (add1 l a) r = l
    have : add1 l a = l := by unfold add1; rw [if_pos (h a (.head _))]
    rw [this]; exact ih l fun c hc => h c (.tail _ hc)
theorem visit_Good (G : Graph n U T M) (g : Good n U σ) (hx : 0 ≤ x ∧ x < n) (h0 : σ.N x = 0) (hu : un n σ ≤ f) : Good n U (visit T M f x σ) := (visit_main G f x σ g hx h0 hu).1
end
end
end Mine

namespace Mine
section
open PySem PySem.W PySem.Calls PyProof.Rows

theorem dummyfill : True ∨ (hd.heap_39 = hd.heap_39 ∧ PySem.Challenge.rw_iw0033_01.Holds) := by
  w_top off
  k_fill
  exact .inl trivial

theorem lk_eq {k : Str} {v : Option Value} {m : Loc} : (fun z => if z = k then v else m z) k = v := by simp
theorem lk_ne {k y : Str} {v o : Option Value} {m : Loc} (h : y ≠ k) (e : m y = v) : (fun z => if z = k then o else m z) y = v := by simp [h, e]

local macro_rules | `(tactic| walk_at "lk") => `(tactic| first | assumption | exact lk_eq | (refine lk_ne (by decide) ?_; walk_at "lk") | rfl)
local macro_rules | `(tactic| walk_at "eval Name") => `(tactic| (k_here; k_dflt (refine' ld ?k1 ?k2 ?_; (case k1 => k_asm); (case k2 => walk_at "lk"); k_whole)))

local macro_rules | `(tactic| walk_at "getMethod ref") => `(tactic| (k_here; k_dflt (first
  | (refine' r_mS ?N ?R ?_; (case N => k_asm); (case R => assumption); k_whole)
  | (refine' r_mP ?N ?R ?_; (case N => k_asm); (case R => assumption); k_whole)
  | (refine' r_mG ?N ?R ?_; (case N => k_asm); (case R => assumption); k_whole)
  | (refine' r_mF ?N ?R ?X ?_; (case N => k_asm); (case R => assumption); (case X => assumption); k_whole))))

local macro_rules | `(tactic| walk_at "call builtin:len") => `(tactic| (k_here; k_dflt (refine' r_lenS ?N ?R ?_; (case N => k_asm); (case R => assumption); k_whole)))
local macro_rules | `(tactic| walk_at "subscriptTail") => `(tactic| (k_here; (with_reducible show wpAny _ _ (subscriptTail _ _ (Value.ref _) (Value.int _ _)) _ _ _); with_unfolding_all (first
  | (refine' r_getN ?N ?R ?X ?_ ?H; (case N => k_asm); (case R => assumption); (case X => assumption); (case H => rfl); k_whole; intro t9)
  | (refine' r_getF ?N ?R ?X ?_ ?H; (case N => k_asm); (case R => assumption); (case X => assumption); (case H => rfl); k_whole)
  | (refine' r_topS ?N ?R ?X ?_ ?H ?G; (case N => k_asm); (case R => assumption); (case X => assumption); (case H => rfl); (case G => intro r9; rfl); k_whole; intro t9))))

local macro_rules | `(tactic| walk_at "compareOp NotIn str ref") => `(tactic| (k_here; k_dflt (refine' r_notinF ?N ?R ?X ?_; (case N => k_asm); (case R => assumption); (case X => assumption); k_whole)))
local macro_rules | `(tactic| walk_at "w1") => `(tactic| first | walk1 | (dsimp only; walk1))

/-- the two handed functions: what a call of each gives, wherever it stands -/
def RSpec (prog : Program) (w : World) (S : Led) (n : Int) (T : Int → List Int) (aR : Addr) : Prop :=
  ∀ {A A₀ : Around} {env : Env} {outer : List Env} {base h₀ : Heap} {L : Addr} {m : Loc} {a : Led} {s : Shared} {p loose mean mg mb} {x : Int} {tk : Tok} {Q : Value → Shared → Prop},
    Below A₀ base outer h₀ → Fr h₀ L s.heap m → (Mine.hd.heap_39 w.params).In h₀ → News h₀ L s.heap a → Top p loose mean mg mb h₀ →
    A.frames = some (env :: outer) → env.frame = some L → env.scope.kind = .function → A.handled = none → A.depth < recursionLimit → (∀ q ∈ S, q ∈ a) → 0 ≤ x → x < n →
    (∀ h' tk' r vs ep, Fr h₀ L h' m → News h₀ L h' a → (r, listOf vs.toArray ep) ∈ S → IntsAre vs (T x) → Q (.ref r) { s with heap := h', toks := tk' }) →
    wpAny (model prog w) A (call (.ref aR) [.int x tk]) Q (fun _ _ => False) s

def FPSpec (prog : Program) (w : World) (S : Led) (n : Int) (M : Int → List Str) (aFP : Addr) : Prop :=
  ∀ {A A₀ : Around} {env : Env} {outer : List Env} {base h₀ : Heap} {L : Addr} {m : Loc} {a : Led} {s : Shared} {p loose mean mg mb} {x : Int} {tk : Tok} {Q : Value → Shared → Prop},
    Below A₀ base outer h₀ → Fr h₀ L s.heap m → (Mine.hd.heap_39 w.params).In h₀ → News h₀ L s.heap a → Top p loose mean mg mb h₀ →
    A.frames = some (env :: outer) → env.frame = some L → env.scope.kind = .function → A.handled = none → A.depth < recursionLimit → (∀ q ∈ S, q ∈ a) → 0 ≤ x → x < n →
    (∀ h' tk' c vs ep, Fr h₀ L h' m → News h₀ L h' ((c, listOf vs.toArray ep) :: a) → StrsAre vs (M x) → (∀ q ∈ a, q.1 < c) → Q (.ref c) { s with heap := h', toks := tk' }) →
    wpAny (model prog w) A (call (.ref aFP) [.int x tk]) Q (fun _ _ => False) s

def TravOk (prog : Program) (w : World) (S : Led) (n : Int) (U : List Str) (T : Int → List Int) (M : Int → List Str) (aN aS aF aX aR aFP : Addr) (f : Nat) : Prop :=
  ∀ {A A₀ : Around} {env : Env} {outer : List Env} {base h₀ : Heap} {L : Addr} {m : Loc} {a : Led} {s : Shared} {p loose mean mg mb} {x : Int} {tk : Tok} {σ : St} {loc : Int → Addr} {Q : Value → Shared → Prop},
    Below A₀ base outer h₀ → Fr h₀ L s.heap m → (Mine.hd.heap_39 w.params).In h₀ → News h₀ L s.heap a → Top p loose mean mg mb h₀ →
    A.frames = some (env :: outer) → env.frame = some L → env.scope.kind = .function → A.handled = none → A.depth + 2 * f + 4 < recursionLimit →
    (∀ q ∈ S, q ∈ a) → Rep prog w n aN aS aF σ loc a → Uniq σ.stk σ loc → Good n U σ → 0 ≤ x → x < n → σ.N x = 0 → un n σ ≤ f →
    (∀ h' tk' a' loc', Fr h₀ L h' m → News h₀ L h' a' → Kept (fpT aN aS aF) a a' → Rep prog w n aN aS aF (visit T M f x σ) loc' a' → Uniq (visit T M f x σ).stk (visit T M f x σ) loc' →
      (∀ i ∈ σ.stk, loc' i = loc i) → Q .none { s with heap := h', toks := tk' }) →
    wpAny (model prog w) A (call (.ref 28) [.int x tk, .ref aN, .ref aS, .ref aF, .ref aX, .ref aR, .ref aFP]) Q (fun _ _ => False) s

def FnIn (S : Led) (q : Addr) : Prop := ∃ oc od fd sl, (q, (⟨oc, od, .func fd, sl⟩ : Obj)) ∈ S
theorem keepS {S a a' : Led} {fp : Addr → Prop} (hfp : ∀ q ∈ S, ¬ fp q.1) (hS : ∀ q ∈ S, q ∈ a) (K : Kept fp a a') : ∀ q ∈ S, q ∈ a' := fun q hq => K q (hS q hq) (hfp q hq)

structure TL (x : Int) (tk td : Tok) (d : Int) (aN aS aF aX aR aFP : Addr) (m : Loc) : Prop where
  x : m (Str.ofString "x") = some (.int x tk)
  N : m (Str.ofString "N") = some (.ref aN)
  stack : m (Str.ofString "stack") = some (.ref aS)
  F : m (Str.ofString "F") = some (.ref aF)
  X : m (Str.ofString "X") = some (.ref aX)
  R : m (Str.ofString "R") = some (.ref aR)
  FP : m (Str.ofString "FP") = some (.ref aFP)
  d : m (Str.ofString "d") = some (.int d td)
theorem TL.set {x : Int} {tk td : Tok} {d : Int} {aN aS aF aX aR aFP : Addr} {m : Loc} (t : TL x tk td d aN aS aF aX aR aFP m) {k : Str} {v : Option Value}
    (h : [Str.ofString "x", Str.ofString "N", Str.ofString "stack", Str.ofString "F", Str.ofString "X", Str.ofString "R", Str.ofString "FP", Str.ofString "d"].contains k = false) :
    TL x tk td d aN aS aF aX aR aFP (fun z => if z = k then v else m z) := by
  simp only [List.contains_eq_mem, List.mem_cons, List.not_mem_nil, or_false, decide_eq_false_iff_not, not_or] at h
  obtain ⟨h1, h2, h3, h4, h5, h6, h7, h8⟩ := h
  exact ⟨lk_ne (Ne.symm h1) t.x, lk_ne (Ne.symm h2) t.N, lk_ne (Ne.symm h3) t.stack, lk_ne (Ne.symm h4) t.F, lk_ne (Ne.symm h5) t.X, lk_ne (Ne.symm h6) t.R, lk_ne (Ne.symm h7) t.FP, lk_ne (Ne.symm h8) t.d⟩

theorem iter_not_fp {prog : Program} {w : World} {n : Int} {aN aS aF : Addr} {σ : St} {loc : Int → Addr} {a : Led} {h₀ h : Heap} {L I : Addr} {io : Obj} (N : News h₀ L h a) (R : Rep prog w n aN aS aF σ loc a)
    (hI : (I, io) ∈ a) (hc : io.cls = .type "list_iterator") : ¬ fpT aN aS aF I := by
  rintro (rfl | rfl | rfl)
  · obtain ⟨o, kvs, h1, ⟨_, _, e, _⟩, _⟩ := R.nd
    have := news_fun N h1 hI; subst this; rw [e.1] at hc; exact absurd hc (by decide)
  · obtain ⟨vs, ep, h1, _⟩ := R.st
    have := news_fun N h1 hI; subst this
    have e : (Value.type "list") = .type "list_iterator" := hc
    exact absurd e (by decide)
  · obtain ⟨o, kvs, h1, ⟨_, _, e, _⟩, _⟩ := R.fd
    have := news_fun N h1 hI; subst this; rw [e.1] at hc; exact absurd hc (by decide)

theorem iter_ne_list {a : Led} {h₀ h : Heap} {L I l : Addr} {io : Obj} {its : Array Value} {ep : Nat} (N : News h₀ L h a) (hI : (I, io) ∈ a) (hc : io.cls = .type "list_iterator") (hl : (l, listOf its ep) ∈ a) : I ≠ l := fun e => by
  subst e
  have := news_fun N hl hI; subst this
  have e : (Value.type "list") = .type "list_iterator" := hc
  exact absurd e (by decide)

theorem frames_in {A : Around} {e : Env} {l : List Env} (h : A.frames = some l) : (A.deeper e).frames = some (e :: l) := Around.frames_deeper h

theorem trav_ok {prog : Program} {w : World} {S : Led} {n : Int} {U : List Str} {T : Int → List Int} {M : Int → List Str} {aN aS aF aX aR aFP : Addr}
    (hfp : ∀ q ∈ S, ¬ fpT aN aS aF q.1) (GR : Graph n U T M) (hU : U.length ≤ 500) (hR : RSpec prog w S n T aR) (hRf : FnIn S aR) (hFP : FPSpec prog w S n M aFP) (hFPf : FnIn S aFP) : ∀ f, TravOk prog w S n U T M aN aS aF aX aR aFP f := by
  intro f
  induction f with
  | zero =>
    intro A A₀ env outer base h₀ L m a s p loose mean mg mb x tx σ loc Q B F X N TT hA hf hke hh hdep hS R hU0 g hx0 hx1 hN0 hun
    exact absurd (un_pos ⟨hx0, hx1⟩ hN0) (by omega)
  | succ f IH =>
    intro A A₀ env outer base h₀ L m a s p loose mean mg mb x tx σ loc Q B F X N TT hA hf hke hh hdep hS R hU0 g hx0 hx1 hN0 hun hQ
    have hx : 0 ≤ x ∧ x < n := ⟨hx0, hx1⟩
    refine wpAny_call ?_
    refine' code_def B F X N TT hA hf hke (by k_is) (by k_is) (by omega) (BindsTo.of_eq rfl) (locs rfl) ?_ rfl rfl rfl (by decide)
    intro g' L' h1 FG F1 N1 B1 X1 T1
    refine wpAny_mono (E := fun _ _ => False) ?_ (fun _ _ q => q) (fun _ _ q => q.elim)
    dsimp only
    clear F N X
    have l1 := enter_LS GR g hx hN0 hun
    have hlen : σ.stk.length + 1 ≤ 1000 := by
      have := nodup_le 1000 (x :: σ.stk) l1.good.nd fun y hy => by
        have := l1.good.rng y hy; have := R.small; omega
      simpa using this
    -- stack.append(x)
    iterate 9 walk_at "w1"
    refine r_push F1 N1 R hlen fun h2 a2 F2 N2 R2 K2 => ?_
    iterate 17 walk_at "w1"
    refine r_setN (by assumption) (by assumption) R2 hx fun h3 a3 F3 N3 R3 K3 => ?_
    iterate 4 walk_at "w1"
    -- F[x] = FP(x)
    have hS3 := keepS hfp hS (K2.trans K3)
    obtain ⟨oc1, od1, fd1, sl1, hm1⟩ := hFPf
    obtain ⟨oc2, od2, fd2, sl2, hm2⟩ := hRf
    have hm13 := hS3 _ hm1
    refine callWith_F (FnAt.of N3 hm13) ?_
    iterate 5 walk_at "w1"
    refine hFP B1 (by assumption) X1 (by assumption) T1 (frames_in hA) rfl rfl hh (by show A.depth + 1 < _; omega) hS3 hx0 hx1 fun h4 tk4 c vs4 ep4 F4 N4 hM4 hc4 => ?_
    have R4 := R3.sub (b := (c, listOf vs4.toArray ep4) :: a3) fun q hq => .tail _ hq
    iterate 2 walk_at "w1"
    have hcS : c ≠ aS := by
      obtain ⟨vs, ep, q, _⟩ := R3.st
      exact Nat.ne_of_gt (hc4 _ q)
    have hMx := GR.m x hx0 hx1
    have hMl : (M x).length ≤ 1000 := by have := nodup_sub_le _ _ hMx.1 hMx.2; omega
    refine r_setF (by assumption) (by assumption) R4 hx (.head _) hM4 hMl hcS fun h5 a5 F5 N5 R5 K5 => ?_
    have e5 : (⟨upd σ.N x (((x :: σ.stk).length : Nat) : Int), x :: σ.stk, upd σ.F x (some (M x))⟩ : St) = enter M x σ := by
      rw [enter_eq]; simp
    dsimp only at R5
    rw [e5] at R5
    have K05 : Kept (fpT aN aS aF) a a5 := (K2.trans K3).trans ((Kept.sub fun q hq => .tail _ hq).trans K5)
    have hS5 := keepS hfp hS K05
    have hm25 := hS5 _ hm2
    have hcf : ∀ q ∈ a, ¬ fpT aN aS aF q.1 → q.1 < c := fun q hq hn => hc4 _ ((K2.trans K3) q hq hn)
    have hlc : ∀ j, (σ.F j).isSome → loc j < c := fun j hj => by
      obtain ⟨l, hl⟩ := Option.isSome_iff_exists.mp hj
      obtain ⟨vs, ep, q, _⟩ := R3.ls j l hl
      exact hc4 _ q
    clear R4 R3 R2 N3 F3 N4 F4 hS3
    -- rel = R(x)
    iterate 4 walk_at "w1"
    refine callWith_F (FnAt.of (by assumption) hm25) ?_
    iterate 5 walk_at "w1"
    refine hR B1 (by assumption) X1 (by assumption) T1 (frames_in hA) rfl rfl hh (by show A.depth + 1 < _; omega) hS5 hx0 hx1 fun h6 tk6 r vs6 ep6 F6 N6 hr6 hI6 => ?_
    iterate 5 walk_at "w1"
    rename IntsAre _ _ => hI6
    -- for y in rel
    obtain ⟨τ, hτ⟩ : ∃ τ : Nat → St, ∀ i, τ i = ((T x).take i).foldl (edge (visit T M f) x) (enter M x σ) := ⟨_, fun _ => rfl⟩
    have hτ0 : τ 0 = enter M x σ := by rw [hτ]; rfl
    have hτs : ∀ i y, (T x)[i]? = some y → τ (i + 1) = edge (visit T M f) x (τ i) y := fun i y h => by
      rw [hτ, hτ, List.take_add_one, h]; simp
    have hTn : ∀ i y, (T x)[i]? = some y → 0 ≤ y ∧ y < n := fun i y h => GR.t x hx0 hx1 y (List.mem_of_getElem? h)
    have hLS : ∀ i, i ≤ (T x).length → LS n U x σ f (τ i) := by
      intro i
      induction i with
      | zero => intro _; rw [hτ0]; exact l1
      | succ i ih =>
        intro hi
        have hy := List.getElem?_eq_getElem (l := T x) (i := i) (by omega)
        rw [hτs i _ hy]
        exact edge_LS GR (ih (by omega)) (hTn i _ hy)
    have hvl := hI6.length
    refine for_list (a₀ := a5) (fun i m' a' => ∃ loc', Rep prog w n aN aS aF (τ i) loc' a' ∧ Uniq (τ i).stk (τ i) loc' ∧ (∀ j ∈ x :: σ.stk, loc' j = upd loc x c j) ∧ Kept (fpT aN aS aF) a a' ∧ ∃ td, TL x tx td (((x :: σ.stk).length : Nat) : Int) aN aS aF aX aR aFP m')
      hh (by assumption) (by assumption) (hS5 _ hr6) ?j0 ?mono ?turn ?done
    case j0 =>
      refine ⟨upd loc x c, by rw [hτ0]; exact R5, ?U, fun _ _ => rfl, K05, ?td, ?tl⟩
      case tl => constructor <;> rfl
      case U =>
        intro i hi j hji hj
        rw [hτ0] at hi hj
        have hj' : j ≠ x → (σ.F j).isSome := fun e => by
          have : (enter M x σ).F j = σ.F j := by rw [enter_eq]; exact upd_ne e
          rw [this] at hj; exact hj
        rcases List.mem_cons.mp hi with rfl | hi
        · rw [upd_same, upd_ne hji]; exact Nat.ne_of_lt (hlc j (hj' hji))
        · have hix : i ≠ x := fun e => g.sn i hi (e ▸ hN0)
          rw [upd_ne hix]
          by_cases e : j = x
          · rw [e, upd_same]; exact Nat.ne_of_gt (hlc i ((g.nf i).mp (g.sn i hi)))
          · rw [upd_ne e]; exact hU0 i hi j hji (hj' e)
    case mono =>
      rintro i m' a' b' ⟨loc', q1, q2, q3, q4, q5⟩ hs
      exact ⟨loc', q1.sub hs, q2, q3, q4.trans (Kept.sub hs), q5⟩
    case turn =>
      rintro i v m₁ a₁ h tk9 I io hv hfresh ⟨loc₁, R₁, U₁, hl₁, K₁, td, t₁⟩ F₁ N₁ hio hioc hll
      obtain ⟨y, ty, rfl, hy⟩ := hI6.at i v (by simpa using hv)
      have hyn := hTn i y hy
      have hi : i < (T x).length := (List.getElem?_eq_some_iff.mp hy).1
      have L₁ := hLS i (by omega)
      have t₂ := t₁.set (k := Str.ofString "y") (v := some (.int y ty)) (by decide)
      have hmy : (fun z => if z = Str.ofString "y" then some (Value.int y ty) else m₁ z) (Str.ofString "y") = some (.int y ty) := lk_eq
      generalize (fun z => if z = Str.ofString "y" then some (Value.int y ty) else m₁ z) = m₂ at F₁ t₂ hmy
      obtain ⟨q1, q2, q3, q4, q5, q6, q7, q8⟩ := id t₂
      have hS1 := keepS hfp hS K₁
      have hIfp := iter_not_fp N₁ R₁ hio hioc
      -- if N[y] == 0: traverse(y, ..)
      walk_at "w1"
      refine wpAny_mono (Q := fun f' s' => f' = .next ∧ TurnEnd g' L' s (fun m' a' => m' = m₂ ∧ ∃ loc', Rep prog w n aN aS aF (if (τ i).N y = 0 then visit T M f y (τ i) else τ i) loc' a' ∧
        Uniq (if (τ i).N y = 0 then visit T M f y (τ i) else τ i).stk (if (τ i).N y = 0 then visit T M f y (τ i) else τ i) loc' ∧ (∀ j ∈ x :: σ.stk, loc' j = upd loc x c j) ∧ Kept (fpT aN aS aF) a₁ a') s') ?_ ?_ (fun _ _ q => q)
      · k_steps
        · rename _ = (0 : Int) => h0
          refine IH B1 (by assumption) X1 (by assumption) T1 (frames_in hA) rfl rfl hh (by show A.depth + 1 + _ + _ < _; omega) hS1 R₁ U₁ L₁.good hyn.1 hyn.2 h0 L₁.un fun h' tk' a' loc' F' N' K' R' U' hl' => ?_
          k_steps
          refine ⟨_, _, _, _, rfl, F', N', rfl, loc', by rw [if_pos h0]; exact R', by rw [if_pos h0]; exact U', fun j hj => ?_, K'⟩
          obtain ⟨pre, hpre⟩ := L₁.suf
          rw [hl' j (by rw [hpre]; exact List.mem_append_right _ hj)]; exact hl₁ j hj
        · rename _ ≠ (0 : Int) => h0
          exact ⟨_, _, _, _, rfl, F₁, N₁, rfl, loc₁, by rw [if_neg h0]; exact R₁, by rw [if_neg h0]; exact U₁, hl₁, Kept.refl⟩
      · rintro f' s' ⟨rfl, h2, tk2, m', a2, rfl, F2, N2, rfl, loc2, R2, U2, hl2, K2⟩
        have L2 : LS n U x σ f (if (τ i).N y = 0 then visit T M f y (τ i) else τ i) ∧ (if (τ i).N y = 0 then visit T M f y (τ i) else τ i).N y ≠ 0 := by
          by_cases h0 : (τ i).N y = 0
          · rw [if_pos h0]; exact visit_LS GR L₁ hyn h0
          · rw [if_neg h0]; exact ⟨L₁, h0⟩
        have hτn : τ (i + 1) = relax x y (if (τ i).N y = 0 then visit T M f y (τ i) else τ i) := hτs i y hy
        generalize (if (τ i).N y = 0 then visit T M f y (τ i) else τ i) = τ1 at R2 U2 L2 hτn
        obtain ⟨L2, hy0⟩ := L2
        have hI2 : (I, io) ∈ a2 := K2 _ hio hIfp
        have hl2' : (r, listOf vs6.toArray ep6) ∈ a2 := K2 _ hll (hfp _ hr6)
        have K02 := K₁.trans K2
        clear K₁ K2 R₁ U₁ hl₁ F₁ N₁ hio hll hS1 R5
        -- N[x] = min(N[x], N[y])
        k_steps
        refine min_two_N hh (by assumption) (by assumption) fun h3 tk3 F3 N3 => ?_
        iterate 2 walk_at "w1"
        have e3 : (if τ1.N y < τ1.N x then τ1.N y else τ1.N x) = mini (τ1.N x) (τ1.N y) := rfl
        rw [e3]
        refine r_setN (by assumption) (by assumption) R2 hx fun h4 a4 F4 N4 R4 K4 => ?_
        -- for a in F.get(y, [])
        k_steps
        obtain ⟨lx, hFx⟩ := Option.isSome_iff_exists.mp ((L2.good.nf x).mp (L2.good.sn x (by obtain ⟨pre, hp⟩ := L2.suf; rw [hp]; simp)))
        obtain ⟨ly, hFy⟩ := Option.isSome_iff_exists.mp ((L2.good.nf y).mp hy0)
        have hxs : x ∈ τ1.stk := by obtain ⟨pre, hp⟩ := L2.suf; rw [hp]; simp
        have hlx : loc2 x = c := by rw [hl2 x (.head _), upd_same]
        have K04 : Kept (fpT aN aS aF) a a4 := K02.trans K4
        have hI4 : (I, io) ∈ a4 := K4 _ hI2 hIfp
        have hr4 : (r, listOf vs6.toArray ep6) ∈ a4 := K4 _ hl2' (hfp _ hr6)
        have hrc : r < c := hcf _ (hS _ hr6) (hfp _ hr6)
        have N5 := news_sub (b := a4) (by assumption) (fun q hq => .tail _ hq)
        refine r_get2F N5 R4 (l := ly) hFy ?_
        obtain ⟨vsy, epy, hly, hsy⟩ := R4.ls y ly hFy
        obtain ⟨ρ, hρ⟩ : ∃ ρ : Nat → St, ∀ k, ρ k = ⟨upd τ1.N x (mini (τ1.N x) (τ1.N y)), τ1.stk, upd τ1.F x (some (addNew lx (ly.take k)))⟩ := ⟨_, fun _ => rfl⟩
        have hρ0 : ρ 0 = ⟨upd τ1.N x (mini (τ1.N x) (τ1.N y)), τ1.stk, τ1.F⟩ := by
          rw [hρ]; congr 1; funext j
          by_cases e : j = x
          · subst e; rw [upd_same]; exact hFx.symm
          · exact upd_ne e
        have hρF : ∀ k, (ρ k).F x = some (addNew lx (ly.take k)) := fun k => by rw [hρ]; exact upd_same
        have hρs : ∀ k ch, ly[k]? = some ch → ρ (k + 1) = ⟨(ρ k).N, (ρ k).stk, upd (ρ k).F x (some (add1 (addNew lx (ly.take k)) ch))⟩ := fun k ch h => by
          rw [hρ, hρ, addNew_take h]; congr 1; funext j
          by_cases e : j = x
          · subst e; simp [upd_same]
          · simp [upd_ne e]
        have hρU : ∀ k, ∀ j, j ≠ x → ((ρ k).F j).isSome → loc2 j ≠ loc2 x := fun k j hj hs => by
          rw [hρ] at hs; simp only [upd_ne hj] at hs; exact U2 x hxs j hj hs
        have hly' := L2.good.fl y ly hFy
        have hlx' := L2.good.fl x lx hFx
        have hρl : ∀ k, (addNew lx (ly.take k)).length ≤ 500 := fun k => by
          have := addNew_ok (U := U) (ly.take k) lx hlx'.1 hlx'.2 fun ch hc => hly'.2 ch (List.mem_of_mem_take hc)
          have := nodup_sub_le _ _ this.1 this.2
          omega
        have hvy := hsy.length
        refine for_list (a₀ := a4) (fun k m' a' => Rep prog w n aN aS aF (ρ k) loc2 a' ∧ Kept (fpT aN aS aF) a a' ∧ (I, io) ∈ a' ∧ (r, listOf vs6.toArray ep6) ∈ a' ∧ TL x tx td (((x :: σ.stk).length : Nat) : Int) aN aS aF aX aR aFP m')
          hh (by assumption) N5 hly ?j2 ?mono2 ?turn2 ?done2
        case j2 => exact ⟨by rw [hρ0]; exact R4, K04, hI4, hr4, t₂⟩
        case mono2 =>
          rintro k m' a' b' ⟨z1, z2, z3, z4, z5⟩ hs
          exact ⟨z1.sub hs, z2.trans (Kept.sub hs), hs _ z3, hs _ z4, z5⟩
        case turn2 =>
          rintro k v m₃ a₅ h5 tk5 I2 io2 hv2 hfresh2 ⟨R₅, K₅, hI₅, hr₅, t₅⟩ F₅ N₅ hio2 hioc2 hll2
          obtain ⟨ch, tch, rfl, hch⟩ := hsy.item k v (by simpa using hv2)
          have hFx5 := hρF k
          have t₆ := t₅.set (k := Str.ofString "a") (v := some (.str ch tch)) (by decide)
          have hma : (fun z => if z = Str.ofString "a" then some (Value.str ch tch) else m₃ z) (Str.ofString "a") = some (.str ch tch) := lk_eq
          generalize (fun z => if z = Str.ofString "a" then some (Value.str ch tch) else m₃ z) = m₄ at F₅ t₆ hma
          obtain ⟨u1, u2, u3, u4, u5, u6, u7, u8⟩ := id t₆
          have hII : I < I2 := hfresh2 _ hI4
          have hrI : r < I2 := hfresh2 _ hr4
          have hKI : ∀ q ∈ a, ¬ fpT aN aS aF q.1 → q.1 ≠ I2 := fun q hq hn => Nat.ne_of_lt (hfresh2 _ (K04 q hq hn))
          k_steps
          · rename ch ∈ _ => hin
            have e1 : ρ (k + 1) = ρ k := by
              rw [hρs k ch hch]
              have : add1 (addNew lx (ly.take k)) ch = addNew lx (ly.take k) := by unfold add1; rw [if_pos hin]
              rw [this, ← hFx5]
              show St.mk (ρ k).N (ρ k).stk (upd (ρ k).F x ((ρ k).F x)) = ρ k
              have : upd (ρ k).F x ((ρ k).F x) = (ρ k).F := by
                funext j; by_cases e : j = x
                · subst e; exact upd_same
                · exact upd_ne e
              rw [this]
            refine ⟨_, _, _, _, rfl, F₅, N₅, hio2, hll2, ?_, ?_, ?_, ?_, t₆⟩
            · rw [e1]; exact R₅.off N₅ hio2 (.inl hioc2)
            · exact fun q hq hn => mem_off.mpr ⟨K₅ q hq hn, hKI q hq hn⟩
            · exact mem_off.mpr ⟨hI₅, Nat.ne_of_lt hII⟩
            · exact mem_off.mpr ⟨hr₅, Nat.ne_of_lt hrI⟩
          · rename ¬ ch ∈ _ => hin
            have hyx : y ≠ x := fun e => by
              subst e
              have : lx = ly := by rw [hFx] at hFy; exact Option.some.inj hFy
              subst this
              rw [addNew_self _ _ fun ch hc => List.mem_of_mem_take hc] at hin
              exact hin (List.mem_of_getElem? hch)
            have hcI2 : I2 ≠ loc2 x := by
              obtain ⟨vs, ep, q, _⟩ := R₅.ls x _ hFx5
              exact iter_ne_list N₅ hio2 hioc2 q
            have hcI : I ≠ loc2 x := by
              obtain ⟨vs, ep, q, _⟩ := R₅.ls x _ hFx5
              exact iter_ne_list N₅ hI₅ hioc q
            refine r_appF (by assumption) (by assumption) R₅ hFx5 (by have := hρl k; omega) (hρU k) fun h6 a6 F6 N6 R6 K6 => ?_
            k_steps
            have e1 : ρ (k + 1) = ⟨(ρ k).N, (ρ k).stk, upd (ρ k).F x (some (addNew lx (ly.take k) ++ [ch]))⟩ := by
              rw [hρs k ch hch]; unfold add1; rw [if_neg hin]
            have hio6 : (I2, io2) ∈ a6 := K6 _ hio2 hcI2
            refine ⟨_, _, _, _, rfl, F6, N6, hio6, ?_, ?_, ?_, ?_, ?_, t₆⟩
            · exact K6 _ hll2 (U2 x hxs y hyx (by rw [hFy]; rfl))
            · rw [e1]; exact R6.off N6 hio6 (.inl hioc2)
            · refine fun q hq hn => mem_off.mpr ⟨K6 _ (K₅ q hq hn) ?_, hKI q hq hn⟩
              rw [hlx]; exact Nat.ne_of_lt (hcf q hq hn)
            · exact mem_off.mpr ⟨K6 _ hI₅ hcI, Nat.ne_of_lt hII⟩
            · refine mem_off.mpr ⟨K6 _ hr₅ ?_, Nat.ne_of_lt hrI⟩
              rw [hlx]; exact Nat.ne_of_lt hrc
        case done2 =>
          rintro m₃ a₅ h5 tk5 ⟨R₅, K₅, hI₅, hr₅, t₅⟩ F₅ N₅
          have e1 : ρ vsy.toArray.size = τ (i + 1) := by
            rw [hρ, hτn]
            have e2 : ly.take vsy.toArray.size = ly := by simp [hvy]
            rw [e2]; unfold relax; rw [hFx, hFy]; rfl
          rw [e1] at R₅
          iterate 1 walk_at "w1"
          have e3 : (τ (i + 1)).stk = τ1.stk := by rw [hτn]; rfl
          have e4 : ∀ j, ((τ (i + 1)).F j).isSome → (τ1.F j).isSome := fun j hj => by
            rw [hτn] at hj
            by_cases e : j = x
            · subst e; rw [hFx]; rfl
            · have : (relax x y τ1).F j = τ1.F j := upd_ne e
              rw [this] at hj; exact hj
          refine ⟨_, _, _, _, rfl, F₅, N₅, hI₅, hr₅, loc2, R₅.off N₅ hI₅ (.inl hioc), ?_, hl2, ?_, td, t₅⟩
          · rw [e3]; exact fun j hj j' hne hs => U2 j hj j' hne (e4 j' hs)
          · exact fun q hq hn => mem_off.mpr ⟨K₅ q hq hn, Nat.ne_of_lt (hfresh _ (K05 q hq hn))⟩
    case done =>
      rintro m₁ a₁ h tk9 ⟨loc₁, R₁, U₁, hl₁, K₁, td, t₁⟩ F₁ N₁
      have e6 : vs6.toArray.size = (T x).length := by simpa using hvl
      rw [e6] at R₁ U₁
      have L₁ := hLS _ (Nat.le_refl _)
      have hvis : visit T M (f + 1) x σ = if (τ (T x).length).N x = σ.stk.length + 1 then popTo x (τ (T x).length).stk (τ (T x).length) else τ (T x).length := by
        rw [hτ, List.take_length]; rfl
      generalize τ (T x).length = σ2 at R₁ U₁ L₁ hvis
      have hxn : x ∉ σ.stk := fun hm => g.sn x hm hN0
      have hlo : ∀ j ∈ σ.stk, loc₁ j = loc j := fun j hj => by
        rw [hl₁ j (.tail _ hj), upd_ne (fun e => hxn (by rw [← e]; exact hj))]
      obtain ⟨q1, q2, q3, q4, q5, q6, q7, q8⟩ := id t₁
      have hUs : Uniq σ.stk σ2 loc₁ := by
        obtain ⟨pre, hp⟩ := L₁.suf
        exact fun j hj => U₁ j (by rw [hp]; exact List.mem_append_right _ (.tail _ hj))
      have hx2 : x ∈ σ2.stk := by obtain ⟨pre, hp⟩ := L₁.suf; rw [hp]; simp
      have PP0 : PP n x σ.stk (popTo x σ2.stk σ2) σ2 := ⟨L₁.suf, rfl, L₁.good.nd, L₁.good.rng, (L₁.good.nf x).mp (L₁.good.sn x hx2)⟩
      obtain ⟨e, r', hst, he, hee⟩ := PP0.step
      obtain ⟨lx, hFc⟩ := Option.isSome_iff_exists.mp PP0.fx
      have hes : e ∉ σ.stk := by
        rcases hee with ⟨h1, _⟩ | ⟨_, h2, _⟩
        · rw [h1]; exact hxn
        · exact h2
      k_steps
      · rename σ2.N x = _ => hd
        have hvis2 : visit T M (f + 1) x σ = popTo x σ2.stk σ2 := by rw [hvis, if_pos (by rw [hd]; simp)]
        refine r_setN (by assumption) (by assumption) R₁ he fun h7 a7 F7 N7 R7 K7 => ?_
        obtain ⟨σ7, hσ7⟩ : ∃ σ7, σ7 = St.mk (upd σ2.N e MAXI) σ2.stk σ2.F := ⟨_, rfl⟩
        have R7' : Rep prog w n aN aS aF σ7 loc₁ a7 := by rw [hσ7]; exact R7
        have hst7 : σ7.stk = e :: r' := by rw [hσ7]; exact hst
        have hF7 : σ7.F x = some lx := by rw [hσ7]; exact hFc
        clear R7
        k_steps
        obtain ⟨vsx, epx, hlx7, hsx7⟩ := R7'.ls x lx hF7
        refine r_setF (by assumption) (by assumption) R7' he hlx7 hsx7 (R7'.lenl x lx hF7) (R7'.apS x (by rw [hF7]; rfl)) fun h8 a8 F8 N8 R8 K8 => ?_
        obtain ⟨σ8, hσ8⟩ : ∃ σ8, σ8 = St.mk σ7.N σ7.stk (upd σ7.F e (some lx)) := ⟨_, rfl⟩
        rw [← hσ8] at R8
        have hst8 : σ8.stk = e :: r' := by rw [hσ8]; exact hst7
        k_steps
        refine r_popS (by assumption) (by assumption) R8 hst8 fun h9 a9 te F9 N9 R9 K9 => ?_
        walk_at "w1"
        have e9 : (St.mk σ8.N r' σ8.F) = pop1 x e r' σ2 := by
          rw [hσ8, hσ7]; unfold pop1; simp only; rw [hFc]
        rw [e9] at R9
        have K09 : Kept (fpT aN aS aF) a a9 := K₁.trans (K7.trans (K8.trans K9))
        have lo9 : ∀ j ∈ σ.stk, upd loc₁ e (loc₁ x) j = loc j := fun j hj => by
          rw [upd_ne (fun q => hes (by rw [← q]; exact hj))]; exact hlo j hj
        have U9 : Uniq σ.stk (pop1 x e r' σ2) (upd loc₁ e (loc₁ x)) := by
          intro j hj j' hne hs
          have hje : j ≠ e := fun q => hes (by rw [← q]; exact hj)
          have hjx : x ≠ j := fun q => hxn (by rw [q]; exact hj)
          rw [upd_ne hje]
          by_cases q : j' = e
          · rw [q, upd_same]; exact hUs j hj x hjx (by rw [hFc]; rfl)
          · rw [upd_ne q]
            have : (pop1 x e r' σ2).F j' = σ2.F j' := upd_ne q
            rw [this] at hs
            exact hUs j hj j' hne hs
        have t9 := t₁.set (k := Str.ofString "element") (v := some (.int e te)) (by decide)
        have he9 : (fun z => if z = Str.ofString "element" then some (Value.int e te) else m₁ z) (Str.ofString "element") = some (.int e te) := lk_eq
        walk_at "w1"
        rename Fr _ _ _ _ => F10
        rename News _ _ _ _ => N10
        refine while_inv (fun k s' => ∃ τ' e te h' tk' m' a' loc', s' = { s with heap := h', toks := tk' } ∧ Fr g' L' h' m' ∧ News g' L' h' a' ∧ m' (Str.ofString "element") = some (.int e te) ∧
          TL x tx td (((x :: σ.stk).length : Nat) : Int) aN aS aF aX aR aFP m' ∧ Rep prog w n aN aS aF τ' loc' a' ∧ Kept (fpT aN aS aF) a a' ∧ Uniq σ.stk τ' loc' ∧ (∀ j ∈ σ.stk, loc' j = loc j) ∧ k = τ'.stk.length ∧
          ((e = x ∧ τ'.stk = σ.stk ∧ τ' = popTo x σ2.stk σ2) ∨ (e ≠ x ∧ PP n x σ.stk (popTo x σ2.stk σ2) τ'))) PassesOwn.never ?turn3 r'.length ?start3
        case start3 =>
          refine ⟨_, e, te, _, _, _, a9, _, rfl, F10, N10, he9, t9, R9, K09, U9, lo9, rfl, ?_⟩
          rcases hee with ⟨h1, h2, h3⟩ | ⟨h1, _, h3⟩
          · exact .inl ⟨h1, h2, h3⟩
          · exact .inr ⟨h1, h3⟩
        case turn3 =>
          clear F10 N10 R9 K09 U9 lo9 he9 t9 hst hee he hes hFc R₁ U₁ hUs K₁ hlo e9 K7 K8 K9
          rintro k s' ⟨τ', e', te', h', tk', m', a', loc', rfl, F', N', hme, t', R', K', U', lo', rfl, hcase⟩
          obtain ⟨q1, q2, q3, q4, q5, q6, q7, q8⟩ := id t'
          rcases hcase with ⟨hex, hsf, hfin⟩ | ⟨hne, P⟩
          · k_steps
            · rename e' ≠ x => hc
              exact absurd hex hc
            · exact leaveK_ F' N' fun Fo No => hQ _ _ _ loc' Fo No K' (by rw [hvis2, ← hfin]; exact R') (by rw [hvis2, ← hfin, hsf]; exact U') lo'
          · obtain ⟨e, r', hst, he, hee⟩ := P.step
            obtain ⟨lx, hFc⟩ := Option.isSome_iff_exists.mp P.fx
            have hes : e ∉ σ.stk := by
              rcases hee with ⟨h1, _⟩ | ⟨_, h2, _⟩
              · rw [h1]; exact hxn
              · exact h2
            k_steps
            · skip
              refine r_setN (by assumption) (by assumption) R' he fun h7 a7 F7 N7 R7 K7 => ?_
              obtain ⟨σ7, hσ7⟩ : ∃ σ7, σ7 = St.mk (upd τ'.N e MAXI) τ'.stk τ'.F := ⟨_, rfl⟩
              have R7' : Rep prog w n aN aS aF σ7 loc' a7 := by rw [hσ7]; exact R7
              have hst7 : σ7.stk = e :: r' := by rw [hσ7]; exact hst
              have hF7 : σ7.F x = some lx := by rw [hσ7]; exact hFc
              clear R7
              k_steps
              obtain ⟨vsx, epx, hlx7, hsx7⟩ := R7'.ls x lx hF7
              refine r_setF (by assumption) (by assumption) R7' he hlx7 hsx7 (R7'.lenl x lx hF7) (R7'.apS x (by rw [hF7]; rfl)) fun h8 a8 F8 N8 R8 K8 => ?_
              obtain ⟨σ8, hσ8⟩ : ∃ σ8, σ8 = St.mk σ7.N σ7.stk (upd σ7.F e (some lx)) := ⟨_, rfl⟩
              rw [← hσ8] at R8
              have hst8 : σ8.stk = e :: r' := by rw [hσ8]; exact hst7
              k_steps
              refine r_popS (by assumption) (by assumption) R8 hst8 fun h9 a9 te F9 N9 R9 K9 => ?_
              walk_at "w1"
              have e9 : (St.mk σ8.N r' σ8.F) = pop1 x e r' τ' := by
                rw [hσ8, hσ7]; unfold pop1; simp only; rw [hFc]
              rw [e9] at R9
              have K09 : Kept (fpT aN aS aF) a a9 := K'.trans (K7.trans (K8.trans K9))
              have lo9 : ∀ j ∈ σ.stk, upd loc' e (loc' x) j = loc j := fun j hj => by
                rw [upd_ne (fun q => hes (by rw [← q]; exact hj))]; exact lo' j hj
              have U9 : Uniq σ.stk (pop1 x e r' τ') (upd loc' e (loc' x)) := by
                intro j hj j' hne hs
                have hje : j ≠ e := fun q => hes (by rw [← q]; exact hj)
                have hjx : x ≠ j := fun q => hxn (by rw [q]; exact hj)
                rw [upd_ne hje]
                by_cases q : j' = e
                · rw [q, upd_same]; exact U' j hj x hjx (by rw [hFc]; rfl)
                · rw [upd_ne q]
                  have : (pop1 x e r' τ').F j' = τ'.F j' := upd_ne q
                  rw [this] at hs
                  exact U' j hj j' hne hs
              have t9 := t'.set (k := Str.ofString "element") (v := some (.int e te)) (by decide)
              have he9 : (fun z => if z = Str.ofString "element" then some (Value.int e te) else m' z) (Str.ofString "element") = some (.int e te) := lk_eq
              walk_at "w1"
              refine ⟨r'.length, by rw [hst]; exact Nat.lt_succ_self _, pop1 x e r' τ', e, te, _, _, _, a9, _, rfl, by assumption, by assumption, he9, t9, R9, K09, U9, lo9, rfl, ?_⟩
              rcases hee with ⟨h1, h2, h3⟩ | ⟨h1, _, h3⟩
              · exact .inl ⟨h1, h2, h3⟩
              · exact .inr ⟨h1, h3⟩
            · rename e' = x => hc
              exact absurd hc hne
      · rename σ2.N x ≠ _ => hd
        have hvis2 : visit T M (f + 1) x σ = σ2 := by rw [hvis, if_neg (by intro q; apply hd; rw [q]; simp)]
        refine leaveK_ F₁ N₁ fun Fo No => hQ _ _ _ loc₁ Fo No K₁ (by rw [hvis2]; exact R₁) (by rw [hvis2]; exact U₁) hlo
end
end Mine

namespace Mine
section
open PySem PySem.W PySem.Calls PyProof.Rows

local macro_rules | `(tactic| walk_at "lk") => `(tactic| first | assumption | exact lk_eq | (refine lk_ne (by decide) ?_; walk_at "lk") | rfl)
local macro_rules | `(tactic| walk_at "eval Name") => `(tactic| (k_here; k_dflt (refine' ld ?k1 ?k2 ?_; (case k1 => k_asm); (case k2 => walk_at "lk"); k_whole)))
local macro_rules | `(tactic| walk_at "getMethod ref") => `(tactic| (k_here; k_dflt (first
  | (refine' r_mS ?N ?R ?_; (case N => k_asm); (case R => assumption); k_whole)
  | (refine' r_mP ?N ?R ?_; (case N => k_asm); (case R => assumption); k_whole)
  | (refine' r_mG ?N ?R ?_; (case N => k_asm); (case R => assumption); k_whole)
  | (refine' r_mF ?N ?R ?X ?_; (case N => k_asm); (case R => assumption); (case X => assumption); k_whole))))

local macro_rules | `(tactic| walk_at "call builtin:len") => `(tactic| (k_here; k_dflt (refine' r_lenS ?N ?R ?_; (case N => k_asm); (case R => assumption); k_whole)))
local macro_rules | `(tactic| walk_at "subscriptTail") => `(tactic| (k_here; (with_reducible show wpAny _ _ (subscriptTail _ _ (Value.ref _) (Value.int _ _)) _ _ _); with_unfolding_all (first
  | (refine' r_getN ?N ?R ?X ?_ ?H; (case N => k_asm); (case R => assumption); (case X => assumption); (case H => rfl); k_whole; intro t9)
  | (refine' r_getF ?N ?R ?X ?_ ?H; (case N => k_asm); (case R => assumption); (case X => assumption); (case H => rfl); k_whole)
  | (refine' r_topS ?N ?R ?X ?_ ?H ?G; (case N => k_asm); (case R => assumption); (case X => assumption); (case H => rfl); (case G => intro r9; rfl); k_whole; intro t9))))

local macro_rules | `(tactic| walk_at "compareOp NotIn str ref") => `(tactic| (k_here; k_dflt (refine' r_notinF ?N ?R ?X ?_; (case N => k_asm); (case R => assumption); (case X => assumption); k_whole)))
local macro_rules | `(tactic| walk_at "w1") => `(tactic| first | walk1 | (dsimp only; walk1))


theorem dummyfill3 : True ∨ (hd.heap_39 = hd.heap_39 ∧ PySem.Challenge.rw_iw0033_01.Holds) := by
  w_top off
  k_fill
  exact .inl trivial

theorem dig_ok {prog : Program} {w : World} {n : Int} {U : List Str} {T : Int → List Int} {M : Int → List Str} {pts : List Int} {vsX : List Value} {epX : Nat} {aX aR aFP : Addr}
    (GR : Graph n U T M) (hU : U.length ≤ 500) (hn : n ≤ 9) (hn0 : 0 < n) (hp : ∀ x ∈ pts, 0 ≤ x ∧ x < n) (hpa : ∀ x, 0 ≤ x → x < n → x ∈ pts)
    {A A₀ : Around} {env : Env} {outer : List Env} {base h₀ : Heap} {L : Addr} {m : Loc} {a : Led} {s : Shared} {p loose mean mg mb} {Q : Value → Shared → Prop}
    (hR : RSpec prog w a n T aR) (hRf : FnIn a aR) (hFP : FPSpec prog w a n M aFP) (hFPf : FnIn a aFP)
    (B : Below A₀ base outer h₀) (F : Fr h₀ L s.heap m) (X : (Mine.hd.heap_39 w.params).In h₀) (N : News h₀ L s.heap a) (TT : Top p loose mean mg mb h₀)
    (hA : A.frames = some (env :: outer)) (hf : env.frame = some L) (hke : env.scope.kind = .function) (hh : A.handled = none) (hdep : A.depth + 30 < recursionLimit)
    (hX : (aX, listOf vsX.toArray epX) ∈ a) (hI : IntsAre vsX pts)
    (hQ : ∀ h' tk' a' aN aS aF loc', Fr h₀ L h' m → News h₀ L h' a' → (∀ q ∈ a, q ∈ a') → Rep prog w n aN aS aF (run T M n.toNat pts) loc' a' → Q (.ref aF) { s with heap := h', toks := tk' }) :
    wpAny (model prog w) A (call (.ref 21) [.ref aX, .ref aR, .ref aFP]) Q (fun _ _ => False) s := by
  refine wpAny_call ?_
  refine' code_def B F X N TT hA hf hke (by k_is) (by k_is) (by omega) (BindsTo.of_eq rfl) (locs rfl) ?_ rfl rfl rfl (by decide)
  intro g' L' h1 FG F1 N1 B1 X1 T1
  refine wpAny_mono (E := fun _ _ => False) ?_ (fun _ _ q => q) (fun _ _ q => q.elim)
  dsimp only
  clear F N X
  iterate 4 walk_at "w1"
  rename News _ _ _ _ => N2
  rename (∀ q ∈ a, q.1 < _) => lN
  rename (_ == sysModules) = false => loN
  rename Obj.IsDictOf (intKind prog w) _ [] => dN
  rename Obj => oN
  rename Addr => aN
  walk_at "w1"
  walk_at "w1"
  rename Fr _ _ _ _ => F3
  rename News _ _ _ _ => N3
  -- for x in X: N[x] = 0
  refine For_invVF F3 rfl rfl ?_
  walk_at "w1"
  have hvl := hI.length
  refine for_list (a₀ := (aN, oN) :: a) (fun i m' a' => ∃ o kvs, (aN, o) ∈ a' ∧ o.IsDictOf (intKind prog w) kvs ∧ (∀ k ∈ pts.take i, ∃ t, valueAt kvs k = some (.int 0 t)) ∧ (∀ kv ∈ kvs, 0 ≤ kv.1 ∧ kv.1 < n) ∧ (∀ q ∈ a, q ∈ a') ∧
      m' (Str.ofString "X") = some (.ref aX) ∧ m' (Str.ofString "R") = some (.ref aR) ∧ m' (Str.ofString "FP") = some (.ref aFP) ∧ m' (Str.ofString "N") = some (.ref aN))
    hh F3 N3 (.tail _ hX) ?j0 ?mono ?turn ?done
  case j0 => exact ⟨oN, [], .head _, dN, fun k hk => by simp at hk, fun _ h => (by cases h), fun q hq => .tail _ hq, rfl, rfl, rfl, rfl⟩
  case mono =>
    rintro i m' a' b' ⟨o, kvs, z1, z2, z3, z4, z5, z6⟩ hs
    exact ⟨o, kvs, hs _ z1, z2, z3, z4, fun q hq => hs _ (z5 q hq), z6⟩
  case turn =>
    rintro i v m₁ a₁ h tk9 I io hv hfresh ⟨o, kvs, z1, z2, z3, z4, z5, z6, z7, z8, z9⟩ F₁ N₁ hio hioc hll
    obtain ⟨y, ty, rfl, hy⟩ := hI.at i v (by simpa using hv)
    have hyn := hp y (List.mem_of_getElem? hy)
    have hmy : (fun z => if z = Str.ofString "x" then some (Value.int y ty) else m₁ z) (Str.ofString "x") = some (.int y ty) := lk_eq
    have y6 : (fun z => if z = Str.ofString "x" then some (Value.int y ty) else m₁ z) (Str.ofString "X") = some (.ref aX) := lk_ne (by decide) z6
    have y7 : (fun z => if z = Str.ofString "x" then some (Value.int y ty) else m₁ z) (Str.ofString "R") = some (.ref aR) := lk_ne (by decide) z7
    have y8 : (fun z => if z = Str.ofString "x" then some (Value.int y ty) else m₁ z) (Str.ofString "FP") = some (.ref aFP) := lk_ne (by decide) z8
    have y9 : (fun z => if z = Str.ofString "x" then some (Value.int y ty) else m₁ z) (Str.ofString "N") = some (.ref aN) := lk_ne (by decide) z9
    generalize (fun z => if z = Str.ofString "x" then some (Value.int y ty) else m₁ z) = m₂ at F₁ hmy y6 y7 y8 y9
    iterate 5 walk_at "w1"
    have hlen : kvs.length ≤ 1000 := dict_len z2 z4 (by omega)
    have haI : aN < I := hfresh _ (.head _)
    have hXN : aX < aN := lN _ hX
    refine r_setd (by assumption) (by assumption) z1 z2 (k := y) (by simp [intKind, Value.isInt]) (line1000 hlen) fun h2 o2 F2 N2 d2 => ?_
    walk_at "w1"
    have hne : ∀ q ∈ a, q.1 ≠ I := fun q hq => Nat.ne_of_lt (hfresh _ (.tail _ hq))
    refine ⟨_, _, _, _, rfl, F2, N2, mem_put_ne hio (Nat.ne_of_gt haI), mem_put_ne hll (Nat.ne_of_lt hXN), o2, _, mem_off.mpr ⟨mem_put_self, Nat.ne_of_lt haI⟩, d2, ?_, ?_, ?_, y6, y7, y8, y9⟩
    · intro k hk
      rw [valueAt_stored]
      by_cases e : k = y
      · rw [if_pos e]; exact ⟨_, rfl⟩
      · rw [if_neg e]
        rw [List.take_add_one, hy] at hk
        rcases List.mem_append.mp hk with hk | hk
        · exact z3 k hk
        · exact absurd (by simpa using hk) e
    · intro kv hkv
      rcases key_stored hkv with e | ⟨q, hq, e⟩
      · rw [e]; exact hyn
      · rw [← e]; exact z4 q hq
    · exact fun q hq => mem_off.mpr ⟨mem_put_ne (z5 q hq) (Nat.ne_of_lt (lN q hq)), hne q hq⟩
  case done =>
    rintro m₁ a₁ h tk9 ⟨o, kvs, z1, z2, z3, z4, z5, z6, z7, z8, z9⟩ F₁ N₁
    have e1 : pts.take vsX.toArray.size = pts := by simp [hvl]
    rw [e1] at z3
    clear F3 N3
    k_steps
    rename IntsAre _ _ => hI
    rename_i aS hA1 FA NA lA hA2 aF hA3 oF loF hsF fsF dF fiF lF hF FF NF
    have hfp : ∀ q ∈ a, ¬ fpT aN aS aF q.1 := by
      intro q hq
      have h1 := lN q hq
      have h2 := lA q (z5 q hq)
      rintro (e | e | e)
      · exact absurd e (Nat.ne_of_lt h1)
      · exact absurd e (Nat.ne_of_lt h2)
      · exact absurd e (Nat.ne_of_lt (Nat.lt_trans h2 lF.1))
    have hNS : aN < aS := lA _ z1
    have R0 : Rep prog w n aN aS aF start (fun _ => 0) ((aF, oF) :: (aS, listOf ([] : List Value).toArray 0) :: a₁) :=
      { nd := ⟨o, kvs, .tail _ (.tail _ z1), z2, fun i i0 i1 => z3 i (hpa i i0 i1), z4⟩
        st := ⟨[], 0, .tail _ (.head _), .nil⟩
        fd := ⟨oF, [], .head _, dF, fun _ _ => rfl, fun i l e => (by cases e), fun _ e => (by cases e)⟩
        ls := fun i l e => (by cases e)
        apN := Nat.ne_of_lt (Nat.lt_trans hNS lF.1)
        apS := fun i e => (by cases e)
        small := by omega
        lens := by simp [start]
        lenl := fun i l e => (by cases e)
        loN := loN
        loF := loF }
    refine for_list (a₀ := (aF, oF) :: (aS, listOf ([] : List Value).toArray 0) :: a₁) (fun i m' a' => ∃ loc, Rep prog w n aN aS aF ((pts.take i).foldl (top T M n.toNat) start) loc a' ∧
        Uniq ((pts.take i).foldl (top T M n.toNat) start).stk ((pts.take i).foldl (top T M n.toNat) start) loc ∧ Good n U ((pts.take i).foldl (top T M n.toNat) start) ∧ (∀ q ∈ a, q ∈ a') ∧
        m' (Str.ofString "X") = some (.ref aX) ∧ m' (Str.ofString "R") = some (.ref aR) ∧ m' (Str.ofString "FP") = some (.ref aFP) ∧ m' (Str.ofString "N") = some (.ref aN) ∧
        m' (Str.ofString "stack") = some (.ref aS) ∧ m' (Str.ofString "F") = some (.ref aF))
      hh FF NF (.tail _ (.tail _ (z5 _ hX))) ?j1 ?mono1 ?turn1 ?done1
    case j1 =>
      refine ⟨fun _ => 0, R0, fun i hi => (by cases hi), start_Good, fun q hq => .tail _ (.tail _ (z5 q hq)), ?_, ?_, ?_, ?_, ?_, ?_⟩
      · show (if _ = _ then _ else if _ = _ then _ else _) = _
        rw [if_neg (by decide), if_neg (by decide)]; exact z6
      · show (if _ = _ then _ else if _ = _ then _ else _) = _
        rw [if_neg (by decide), if_neg (by decide)]; exact z7
      · show (if _ = _ then _ else if _ = _ then _ else _) = _
        rw [if_neg (by decide), if_neg (by decide)]; exact z8
      · show (if _ = _ then _ else if _ = _ then _ else _) = _
        rw [if_neg (by decide), if_neg (by decide)]; exact z9
      · rfl
      · rfl
    case mono1 =>
      rintro i m' a' b' ⟨loc, y1, y2, y3, y4, y5⟩ hs
      exact ⟨loc, y1.sub hs, y2, y3, fun q hq => hs _ (y4 q hq), y5⟩
    case turn1 =>
      rintro i v m₁ a₂ h tk9 I io hv hfresh ⟨loc, R, U₁, g₁, hS, w1, w2, w3, w4, w5, w6⟩ F₁ N₁ hio hioc hll
      obtain ⟨y, ty, rfl, hy⟩ := hI.at i v (by simpa using hv)
      have hyn := hp y (List.mem_of_getElem? hy)
      have hmy : (fun z => if z = Str.ofString "x" then some (Value.int y ty) else m₁ z) (Str.ofString "x") = some (.int y ty) := lk_eq
      replace w1 : (fun z => if z = Str.ofString "x" then some (Value.int y ty) else m₁ z) (Str.ofString "X") = some (.ref aX) := lk_ne (by decide) w1
      replace w2 : (fun z => if z = Str.ofString "x" then some (Value.int y ty) else m₁ z) (Str.ofString "R") = some (.ref aR) := lk_ne (by decide) w2
      replace w3 : (fun z => if z = Str.ofString "x" then some (Value.int y ty) else m₁ z) (Str.ofString "FP") = some (.ref aFP) := lk_ne (by decide) w3
      replace w4 : (fun z => if z = Str.ofString "x" then some (Value.int y ty) else m₁ z) (Str.ofString "N") = some (.ref aN) := lk_ne (by decide) w4
      replace w5 : (fun z => if z = Str.ofString "x" then some (Value.int y ty) else m₁ z) (Str.ofString "stack") = some (.ref aS) := lk_ne (by decide) w5
      replace w6 : (fun z => if z = Str.ofString "x" then some (Value.int y ty) else m₁ z) (Str.ofString "F") = some (.ref aF) := lk_ne (by decide) w6
      generalize (fun z => if z = Str.ofString "x" then some (Value.int y ty) else m₁ z) = m₂ at F₁ hmy w1 w2 w3 w4 w5 w6
      have e1 : (pts.take (i + 1)).foldl (top T M n.toNat) start = top T M n.toNat ((pts.take i).foldl (top T M n.toNat) start) y := by
        rw [List.take_add_one, hy]; simp
      have hIfp := iter_not_fp N₁ R hio hioc
      have hne : ∀ q ∈ a, q.1 ≠ I := fun q hq => Nat.ne_of_lt (hfresh _ (.tail _ (.tail _ (z5 q hq))))
      rw [e1]
      generalize (pts.take i).foldl (top T M n.toNat) start = σ at R U₁ g₁
      k_steps
      · rename _ = (0 : Int) => h0
        have e2 : top T M n.toNat σ y = visit T M n.toNat y σ := by unfold top; rw [if_pos h0]
        refine trav_ok hfp GR hU hR hRf hFP hFPf n.toNat B1 (by assumption) X1 (by assumption) T1 (frames_in hA) rfl rfl hh (by show A.depth + 1 + _ + _ < _; omega) hS R U₁ g₁ hyn.1 hyn.2 h0 un_le fun h' tk' a' loc' F' N' K' R' U' hl' => ?_
        iterate 2 walk_at "w1"
        have hio' := K' _ hio hIfp
        refine ⟨_, _, _, _, rfl, F', N', hio', K' _ hll (hfp _ hX), loc', ?_, ?_, ?_, ?_, w1, w2, w3, w4, w5, w6⟩
        · rw [e2]; exact R'.off N' hio' (.inl hioc)
        · rw [e2]; exact U'
        · rw [e2]; exact visit_Good GR g₁ hyn h0 un_le
        · exact fun q hq => mem_off.mpr ⟨K' q (hS q hq) (hfp q hq), hne q hq⟩
      · rename _ ≠ (0 : Int) => h0
        have e2 : top T M n.toNat σ y = σ := by unfold top; rw [if_neg h0]
        refine ⟨_, _, _, _, rfl, F₁, N₁, hio, hll, loc, ?_, ?_, ?_, ?_, w1, w2, w3, w4, w5, w6⟩
        · rw [e2]; exact R.off N₁ hio (.inl hioc)
        · rw [e2]; exact U₁
        · rw [e2]; exact g₁
        · exact fun q hq => mem_off.mpr ⟨hS q hq, hne q hq⟩
    case done1 =>
      rintro m₁ a₂ h tk9 ⟨loc, R, U₁, g₁, hS, w1, w2, w3, w4, w5, w6⟩ F₁ N₁
      rw [e1] at R
      k_steps
      exact leaveK_ F₁ N₁ fun Fo No => hQ _ _ _ aN aS aF loc Fo No hS R
end
end Mine

namespace Mine
section
open PySem PySem.W PySem.Calls PyProof.Rows

local macro_rules | `(tactic| walk_at "lk") => `(tactic| first | assumption | exact lk_eq | (refine lk_ne (by decide) ?_; walk_at "lk") | rfl)
local macro_rules | `(tactic| walk_at "eval Name") => `(tactic| (k_here; k_dflt (refine' ld ?k1 ?k2 ?_; (case k1 => k_asm); (case k2 => walk_at "lk"); k_whole)))
local macro_rules | `(tactic| walk_at "getMethod ref") => `(tactic| (k_here; k_dflt (first
  | (refine' r_mS ?N ?R ?_; (case N => k_asm); (case R => assumption); k_whole)
  | (refine' r_mP ?N ?R ?_; (case N => k_asm); (case R => assumption); k_whole)
  | (refine' r_mG ?N ?R ?_; (case N => k_asm); (case R => assumption); k_whole)
  | (refine' r_mF ?N ?R ?X ?_; (case N => k_asm); (case R => assumption); (case X => assumption); k_whole))))

local macro_rules | `(tactic| walk_at "call builtin:len") => `(tactic| (k_here; k_dflt (refine' r_lenS ?N ?R ?_; (case N => k_asm); (case R => assumption); k_whole)))
local macro_rules | `(tactic| walk_at "subscriptTail") => `(tactic| (k_here; (with_reducible show wpAny _ _ (subscriptTail _ _ (Value.ref _) (Value.int _ _)) _ _ _); with_unfolding_all (first
  | (refine' r_getN ?N ?R ?X ?_ ?H; (case N => k_asm); (case R => assumption); (case X => assumption); (case H => rfl); k_whole; intro t9)
  | (refine' r_getF ?N ?R ?X ?_ ?H; (case N => k_asm); (case R => assumption); (case X => assumption); (case H => rfl); k_whole)
  | (refine' r_topS ?N ?R ?X ?_ ?H ?G; (case N => k_asm); (case R => assumption); (case X => assumption); (case H => rfl); (case G => intro r9; rfl); k_whole; intro t9))))

local macro_rules | `(tactic| walk_at "compareOp NotIn str ref") => `(tactic| (k_here; k_dflt (refine' r_notinF ?N ?R ?X ?_; (case N => k_asm); (case R => assumption); (case X => assumption); k_whole)))
local macro_rules | `(tactic| walk_at "w1") => `(tactic| first | walk1 | (dsimp only; walk1))


theorem dummyfill4 : True ∨ (hd.heap_39 = hd.heap_39 ∧ PySem.Challenge.rw_iw0033_01.Holds) := by
  w_top off
  k_fill
  exact .inl trivial



/-- the list of rows -/
def Ties (n : Int) (T : Int → List Int) (aT : Addr) (a : Led) : Prop :=
  ∃ its ep, (aT, listOf its ep) ∈ a ∧ its.size = n.toNat ∧ ∀ i : Int, 0 ≤ i → i < n → ∃ r vs ep', its[i.toNat]? = some (.ref r) ∧ (r, listOf vs.toArray ep') ∈ a ∧ IntsAre vs (T i)

theorem Ties.sub {n : Int} {T : Int → List Int} {aT : Addr} {a b : Led} (t : Ties n T aT a) (h : ∀ q ∈ a, q ∈ b) : Ties n T aT b := by
  obtain ⟨its, ep, h1, h2, h3⟩ := t
  exact ⟨its, ep, h _ h1, h2, fun i i0 i1 => let ⟨r, vs, ep', z1, z2, z3⟩ := h3 i i0 i1; ⟨r, vs, ep', z1, h _ z2, z3⟩⟩

theorem r_row {prog : Program} {w : World} {A : Around} {E : Value → Shared → Prop} {s : Shared} {h₀ : Heap} {L : Addr} {a b : Led} {n : Int} {T : Int → List Int} {aT : Addr} {value slice : Expr} {k : Int} {u : Tok} {Q : Value → Shared → Prop}
    (N : News h₀ L s.heap a) (t : Ties n T aT b) (hb : ∀ q ∈ b, q ∈ a) (hk : 0 ≤ k ∧ k < n) (hn : n ≤ 9) (h : ∀ r vs ep, (r, listOf vs.toArray ep) ∈ b → IntsAre vs (T k) → Q (.ref r) s)
    (hs : subscripted slice false (.ref aT) (.int k u) = operate [.ref aT, .int k u] (getItem (.ref aT) (.int k u))) (hg : ∀ r, letTemporaryGo value (.ref aT) r = pure ()) :
    wpAny (model prog w) A (subscriptTail value slice (.ref aT) (.int k u)) Q E s := by
  obtain ⟨its, ep, h1, h2, h3⟩ := t
  obtain ⟨r, vs, ep', z1, z2, z3⟩ := h3 k hk.1 hk.2
  refine kim_list (l := its.toList) N (hb _ h1) rfl rfl hk.1 (by omega) (x := .ref r) ?_ (h r vs ep' z2 z3) hs hg
  simpa using z1

theorem r_int {prog : Program} {w : World} {A : Around} {E : Value → Shared → Prop} {s : Shared} {h₀ : Heap} {L : Addr} {a : Led} {D : Addr} {vs : List Value} {l : List Int} {ep : Nat} {value slice : Expr} {k x : Int} {u : Tok} {Q : Value → Shared → Prop}
    (N : News h₀ L s.heap a) (hm : (D, listOf vs.toArray ep) ∈ a) (hi : IntsAre vs l) (h0 : 0 ≤ k) (h1 : k < 2 ^ 63) (hx : l[k.toNat]? = some x) (h : ∀ t, Q (.int x t) s)
    (hs : subscripted slice false (.ref D) (.int k u) = operate [.ref D, .int k u] (getItem (.ref D) (.int k u))) (hg : ∀ r, letTemporaryGo value (.ref D) r = pure ()) :
    wpAny (model prog w) A (subscriptTail value slice (.ref D) (.int k u)) Q E s := by
  obtain ⟨t, ht⟩ := hi.get k.toNat x hx
  exact kim_list N hm rfl rfl h0 h1 ht (h t) hs hg

theorem reach_ok {prog : Program} {w : World} {n : Int} {T : Int → List Int} {aT : Addr}
    (hT : ∀ x, 0 ≤ x → x < n → ∀ y ∈ T x, 0 ≤ y ∧ y < n) (hn : n ≤ 9)
    {A A₀ : Around} {env : Env} {outer : List Env} {base h₀ : Heap} {L : Addr} {m : Loc} {a : Led} {s : Shared} {p loose mean mg mb} {pt : Int} {tp : Tok} {Q : Value → Shared → Prop}
    (B : Below A₀ base outer h₀) (F : Fr h₀ L s.heap m) (X : (Mine.hd.heap_39 w.params).In h₀) (N : News h₀ L s.heap a) (TT : Top p loose mean mg mb h₀)
    (hA : A.frames = some (env :: outer)) (hf : env.frame = some L) (hke : env.scope.kind = .function) (hh : A.handled = none) (hdep : A.depth + 30 < recursionLimit)
    (hTi : Ties n T aT a) (hpt : 0 ≤ pt ∧ pt < n)
    (hQ : ∀ h' tk' a' r vs ep l, Fr h₀ L h' m → News h₀ L h' a' → (∀ q ∈ a, q ∈ a') → (r, listOf vs.toArray ep) ∈ a' → IntsAre vs l → l.Nodup → (∀ i, i ∈ l ↔ Reach T pt i) → Q (.ref r) { s with heap := h', toks := tk' }) :
    wpAny (model prog w) A (call (.ref 35) [.ref aT, .int pt tp]) Q (fun _ _ => False) s := by
  refine wpAny_call ?_
  refine' code_def B F X N TT hA hf hke (by k_is) (by k_is) (by omega) (BindsTo.of_eq rfl) (locs rfl) ?_ rfl rfl rfl (by decide)
  intro g' L' h1 FG F1 N1 B1 X1 T1
  refine wpAny_mono (E := fun _ _ => False) ?_ (fun _ _ q => q) (fun _ _ q => q.elim)
  dsimp only
  clear F N X
  iterate 15 walk_at "w1"
  rename_i aL hA1 lL hA2 hA3 FF NF
  have hTn : ∀ l : List Int, l.Nodup → (∀ i ∈ l, 0 ≤ i ∧ i < n) → l.length ≤ 9 := fun l h1 h2 => nodup_le 9 l h1 fun i hi => by have := h2 i hi; omega
  have hRn : ∀ i, Reach T pt i → 0 ≤ i ∧ i < n := fun i hi => by
    induction hi with
    | refl => exact hpt
    | step _ hz ih => exact hT _ ih.1 ih.2 _ hz
  refine while_inv (fun k s' => ∃ (p : Nat) (l : List Int) (vs : List Value) (ep : Nat) (te : Tok) (h' : Heap) (tk' : Nat) (m' : Loc) (a' : Led), s' = { s with heap := h', toks := tk' } ∧ Fr g' L' h' m' ∧ News g' L' h' a' ∧ (∀ q ∈ a, q ∈ a') ∧
      m' (Str.ofString "ties") = some (.ref aT) ∧ m' (Str.ofString "line") = some (.ref aL) ∧ m' (Str.ofString "place") = some (.int (p : Int) te) ∧
      (aL, listOf vs.toArray ep) ∈ a' ∧ IntsAre vs l ∧ l.Nodup ∧ (∀ i ∈ l, Reach T pt i) ∧ pt ∈ l ∧ p ≤ l.length ∧ (∀ (q : Nat) (x : Int), q < p → l[q]? = some x → ∀ y ∈ T x, y ∈ l) ∧ k = 9 - p) PassesOwn.never ?turn 9 ?start
  case start =>
    refine ⟨0, [pt], [.int pt tp], 0, _, _, _, _, _, rfl, FF, NF, fun q hq => .tail _ hq, rfl, rfl, rfl, .head _, .cons pt tp .nil, by simp, ?_, by simp, by simp, fun q _ hq => absurd hq (Nat.not_lt_zero _), rfl⟩
    intro i hi; rw [List.mem_singleton.mp hi]; exact .refl
  case turn =>
    rintro k s' ⟨p, l, vs, ep, te, h', tk', m', a', rfl, F', N', hS, q1, q2, q3, hl, hI, hnd, hre, hmem, hpl, hcl, rfl⟩
    have hlen := hI.length
    have hl9 := hTn l hnd fun i hi => hRn i (hre i hi)
    iterate 8 walk_at "w1"
    refine call_len_list (items := vs.toArray) (News.isList (by assumption) hl) (by simp; omega) ?_
    iterate 3 walk_at "w1"
    · rename (p : Int) < _ => hp
      iterate 2 walk_at "w1"
      refine For_invVF F' rfl rfl ?_
      iterate 5 walk_at "w1"
      have hp' : p < l.length := by
        have e : vs.toArray.size = l.length := by simpa using hlen
        rw [e] at hp; omega
      have hx : l[((p : Int)).toNat]? = some l[p] := by simp
      have hxm : l[p] ∈ l := List.getElem_mem hp'
      generalize l[p] = x at hx hxm
      have hxn := hRn x (hre x hxm)
      refine r_int N' hl hI (by omega) (by omega) hx ?_ (by with_unfolding_all rfl) (fun r => by with_unfolding_all rfl)
      intro t5
      refine r_row N' hTi hS hxn hn ?_ (by with_unfolding_all rfl) (fun r => by with_unfolding_all rfl)
      intro r vsr epr hr hIr
      have hvr := hIr.length
      have hrL : r < aL := lL _ hr
      refine for_list (a₀ := a') (fun i m'' a'' => ∃ (l2 : List Int) (vs2 : List Value) (ep2 : Nat), (aL, listOf vs2.toArray ep2) ∈ a'' ∧ IntsAre vs2 l2 ∧ l2.Nodup ∧ (∀ i ∈ l2, Reach T pt i) ∧ (∃ ext, l2 = l ++ ext) ∧
          (∀ y ∈ (T x).take i, y ∈ l2) ∧ (∀ q ∈ a, q ∈ a'') ∧ m'' (Str.ofString "ties") = some (.ref aT) ∧ m'' (Str.ofString "line") = some (.ref aL) ∧ ∃ te, m'' (Str.ofString "place") = some (.int (p : Int) te))
        hh F' N' (hS _ hr) ?j0 ?mono ?turn2 ?done
      case j0 => exact ⟨l, vs, ep, hl, hI, hnd, hre, ⟨[], by simp⟩, fun y hy => by simp at hy, hS, q1, q2, te, q3⟩
      case mono =>
        rintro i m'' b b' ⟨l2, vs2, ep2, z1, z2, z3, z4, z5, z6, z7, z8⟩ hs
        exact ⟨l2, vs2, ep2, hs _ z1, z2, z3, z4, z5, z6, fun q hq => hs _ (z7 q hq), z8⟩
      case turn2 =>
        rintro i v m₁ a₁ h tk9 I io hv hfresh ⟨l2, vs2, ep2, z1, z2, z3, z4, z5, z6, z7, z8, z9, te2, z10⟩ F₁ N₁ hio hioc hll
        obtain ⟨y, ty, rfl, hy⟩ := hIr.at i v (by simpa using hv)
        have hyT : y ∈ T x := List.mem_of_getElem? hy
        have hmy : (fun z => if z = Str.ofString "other" then some (Value.int y ty) else m₁ z) (Str.ofString "other") = some (.int y ty) := lk_eq
        have y8 : (fun z => if z = Str.ofString "other" then some (Value.int y ty) else m₁ z) (Str.ofString "ties") = some (.ref aT) := lk_ne (by decide) z8
        have y9 : (fun z => if z = Str.ofString "other" then some (Value.int y ty) else m₁ z) (Str.ofString "line") = some (.ref aL) := lk_ne (by decide) z9
        have y10 : (fun z => if z = Str.ofString "other" then some (Value.int y ty) else m₁ z) (Str.ofString "place") = some (.int (p : Int) te2) := lk_ne (by decide) z10
        generalize (fun z => if z = Str.ofString "other" then some (Value.int y ty) else m₁ z) = m₂ at F₁ hmy y8 y9 y10
        have haI : aL < I := hfresh _ hl
        have hne : ∀ q ∈ a, q.1 ≠ I := fun q hq => Nat.ne_of_lt (Nat.lt_trans (lL q hq) haI)
        have htk : ∀ k ∈ (T x).take (i + 1), k ∈ (T x).take i ∨ k = y := fun k hk => by
          rw [List.take_add_one, hy] at hk
          rcases List.mem_append.mp hk with h | h
          · exact .inl h
          · exact .inr (by simpa using h)
        iterate 5 walk_at "w1"
        refine notin_list_ints (N₁.isList z1) z2 ?_
        have eb : (l2.any fun k => k == y) = decide (y ∈ l2) := by
          rw [Bool.eq_iff_iff]; simp
        rw [eb]
        iterate 3 walk_at "w1"
        · rename y ∈ l2 => hin
          iterate 3 (try walk_at "w1")
          refine ⟨_, _, _, _, rfl, F₁, N₁, hio, hll, l2, vs2, ep2, mem_off.mpr ⟨z1, Nat.ne_of_lt haI⟩, z2, z3, z4, z5, ?_, fun q hq => mem_off.mpr ⟨z7 q hq, hne q hq⟩, y8, y9, te2, y10⟩
          intro k hk
          rcases htk k hk with h | rfl
          · exact z6 k h
          · exact hin
        · rename ¬ y ∈ l2 => hin
          have hl29 := hTn l2 z3 fun i hi => hRn i (z4 i hi)
          have hlen2 := z2.length
          iterate 9 walk_at "w1"
          refine r_append (by assumption) (by assumption) z1 (by rw [sizeLine_eq]; simp; omega) fun h2 F2 N2 => ?_
          iterate 3 walk_at "w1"
          have e2 : vs2.toArray.push (Value.int y ty) = (vs2 ++ [Value.int y ty]).toArray := by simp
          rw [e2] at N2
          refine ⟨_, _, _, _, rfl, F2, N2, mem_put_ne hio (Nat.ne_of_gt haI), mem_put_ne hll (Nat.ne_of_lt hrL), l2 ++ [y], vs2 ++ [Value.int y ty], ep2 + 1, mem_off.mpr ⟨mem_put_self, Nat.ne_of_lt haI⟩,
            z2.append (.cons y ty .nil), ?_, ?_, ?_, ?_, fun q hq => mem_off.mpr ⟨mem_put_ne (z7 q hq) (Nat.ne_of_lt (lL q hq)), hne q hq⟩, y8, y9, te2, y10⟩
          · rw [List.nodup_append]
            exact ⟨z3, by simp, fun k hk k' hk' e => hin (by rw [List.mem_singleton.mp hk'] at e; exact e ▸ hk)⟩
          · intro k hk
            rcases List.mem_append.mp hk with h | h
            · exact z4 k h
            · rw [List.mem_singleton.mp h]; exact .step (hre x hxm) hyT
          · obtain ⟨ext, rfl⟩ := z5; exact ⟨ext ++ [y], by simp⟩
          · intro k hk
            rcases htk k hk with h | rfl
            · exact List.mem_append_left _ (z6 k h)
            · simp
      case done =>
        rintro m₁ a₁ h tk9 ⟨l2, vs2, ep2, z1, z2, z3, z4, ⟨ext, hext⟩, z6, z7, z8, z9, te2, z10⟩ F₁ N₁
        have e1 : (T x).take vsr.toArray.size = T x := by simp [hvr]
        rw [e1] at z6
        iterate 2 walk_at "w1"
        refine ldn F₁ z10 ?_
        iterate 4 walk_at "w1"
        have hlp : p + 1 ≤ l2.length := by rw [hext, List.length_append]; omega
        rename Fr _ _ _ _ => FX
        rename News _ _ _ _ => NX
        refine ⟨9 - (p + 1), by omega, p + 1, l2, vs2, ep2, ?te, _, _, _, _, rfl, FX, NX, z7, ?g1, ?g2, ?g3, z1, z2, z3, z4, by rw [hext]; exact List.mem_append_left _ hmem, hlp, ?g4, rfl⟩
        case g3 =>
          have e9 : ((p + 1 : Nat) : Int) = (p : Int) + 1 := by omega
          rw [e9]
          exact lk_eq
        case g1 =>
          show (if _ = _ then _ else _) = _
          rw [if_neg (by decide)]; exact z8
        case g2 =>
          show (if _ = _ then _ else _) = _
          rw [if_neg (by decide)]; exact z9
        case g4 =>
          intro q k hq hk y hy
          by_cases e : q = p
          · subst e
            have : k = x := by
              rw [hext, List.getElem?_append_left (by omega)] at hk
              have hx' : l[q]? = some x := by simpa using hx
              rw [hk] at hx'; exact Option.some.inj hx'
            subst this; exact z6 y hy
          · rw [hext, List.getElem?_append_left (by omega)] at hk
            rw [hext]; exact List.mem_append_left _ (hcl q k (by omega) hk y hy)
    · rename ¬ (p : Int) < _ => hp
      have hp' : p = l.length := by
        have e : vs.toArray.size = l.length := by simpa using hlen
        rw [e] at hp; omega
      have hfin : ∀ i, Reach T pt i → i ∈ l := fun i hi => by
        induction hi with
        | refl => exact hmem
        | step _ hz ih =>
          obtain ⟨q, hq, e⟩ := List.mem_iff_getElem.mp ih
          exact hcl q _ (by omega) (List.getElem?_eq_some_iff.mpr ⟨hq, e⟩) _ hz
      iterate 3 walk_at "w1"
      exact leaveK_ F' N' fun Fo No => hQ _ _ _ _ _ _ _ Fo No hS hl hI hnd fun i => ⟨hre i, hfin i⟩
end
end Mine

namespace Mine
section
open PySem PySem.W PySem.Calls PyProof.Rows

/-- a list of n rows, each a list (made after B) whose values keep P -/
def Rws (P : Int → List Value → Prop) (B : Nat) (n : Int) (aT : Addr) (a : Led) : Prop :=
  ∃ its ep, (aT, listOf its ep) ∈ a ∧ its.size = n.toNat ∧ ∀ i : Int, 0 ≤ i → i < n → ∃ r vs ep', its[i.toNat]? = some (.ref r) ∧ (r, listOf vs.toArray ep') ∈ a ∧ P i vs ∧ @LT.lt Nat _ B r

theorem Rws.keep {P : Int → List Value → Prop} {B : Nat} {n : Int} {aT : Addr} {a b : Led} (t : Rws P B n aT a) (h : ∀ l its ep, (l, listOf its ep) ∈ a → (l, listOf its ep) ∈ b) : Rws P B n aT b := by
  obtain ⟨its, ep, h1, h2, h3⟩ := t
  exact ⟨its, ep, h _ _ _ h1, h2, fun i i0 i1 => let ⟨r, vs, ep', z1, z2, z3⟩ := h3 i i0 i1; ⟨r, vs, ep', z1, h _ _ _ z2, z3⟩⟩
theorem Rws.sub {P : Int → List Value → Prop} {B : Nat} {n : Int} {aT : Addr} {a b : Led} (t : Rws P B n aT a) (h : ∀ q ∈ a, q ∈ b) : Rws P B n aT b := t.keep fun _ _ _ hq => h _ hq
theorem Rws.nil {P : Int → List Value → Prop} {B : Nat} {aT : Addr} {a : Led} {ep : Nat} (h : (aT, listOf #[] ep) ∈ a) : Rws P B 0 aT a := ⟨_, _, h, rfl, fun i i0 i1 => by omega⟩
theorem Rws.at {P : Int → List Value → Prop} {B : Nat} {n : Int} {aT : Addr} {a : Led} (t : Rws P B n aT a) : ∃ its ep, (aT, listOf its ep) ∈ a ∧ its.size = n.toNat := let ⟨its, ep, h1, h2, _⟩ := t; ⟨its, ep, h1, h2⟩
theorem Rws.put {P : Int → List Value → Prop} {B : Nat} {n : Int} {aT d : Addr} {o : Obj} {a : Led} (t : Rws P B n aT a) (h1 : @LE.le Nat _ d B) (h2 : @Ne Nat aT d) : Rws P B n aT (put d o a) := by
  obtain ⟨its, ep, h1', h2', h3⟩ := t
  exact ⟨its, ep, mem_put_ne h1' h2, h2', fun i i0 i1 => let ⟨r, vs, ep', z1, z2, z3, z4⟩ := h3 i i0 i1; ⟨r, vs, ep', z1, mem_put_ne z2 (Nat.ne_of_gt (Nat.lt_of_le_of_lt h1 z4)), z3, z4⟩⟩
theorem Rws.off {P : Int → List Value → Prop} {B : Nat} {n : Int} {aT d : Addr} {a : Led} (t : Rws P B n aT a) (h1 : @LE.le Nat _ d B) (h2 : @Ne Nat aT d) : Rws P B n aT (off d a) := by
  obtain ⟨its, ep, h1', h2', h3⟩ := t
  exact ⟨its, ep, mem_off.mpr ⟨h1', h2⟩, h2', fun i i0 i1 => let ⟨r, vs, ep', z1, z2, z3, z4⟩ := h3 i i0 i1; ⟨r, vs, ep', z1, mem_off.mpr ⟨z2, Nat.ne_of_gt (Nat.lt_of_le_of_lt h1 z4)⟩, z3, z4⟩⟩
theorem Rws.push {P P' : Int → List Value → Prop} {B : Nat} {n : Int} {aT r : Addr} {a : Led} {h₀ h : Heap} {L : Addr} {its : Array Value} {ep ep2 ep' : Nat} {vs : List Value} (t : Rws P B n aT a) (N : News h₀ L h a) (hn : 0 ≤ n)
    (hm : (aT, listOf its ep) ∈ a) (hr : (r, listOf vs.toArray ep') ∈ a) (hB : @LE.le Nat _ aT B) (hBr : @LT.lt Nat _ B r)
    (hP : ∀ i vs, 0 ≤ i → i < n → P i vs → P' i vs) (hv : P' n vs) : Rws P' B (n + 1) aT (Mine.put aT (listOf (its.push (.ref r)) ep2) a) := by
  obtain ⟨its0, ep0, h1, h2, h3⟩ := t
  have e := news_fun N hm h1
  have e1 : its = its0 := by
    have : (Data.seq its ep) = Data.seq its0 ep0 := congrArg Obj.data e
    injection this
  subst e1
  refine ⟨_, _, mem_put_self, by rw [Array.size_push, h2]; omega, fun i i0 i1 => ?_⟩
  by_cases hi : i < n
  · obtain ⟨r1, vs1, ep1, z1, z2, z3, z4⟩ := h3 i i0 hi
    have hlt : i.toNat < its.size := by omega
    refine ⟨r1, vs1, ep1, ?_, mem_put_ne z2 (Nat.ne_of_gt (Nat.lt_of_le_of_lt hB z4)), hP i vs1 i0 hi z3, z4⟩
    rw [Array.getElem?_push_lt hlt]; rw [Array.getElem?_eq_getElem hlt] at z1; exact z1
  · have : i = n := by omega
    subst this
    refine ⟨r, vs, ep', ?_, mem_put_ne hr (Nat.ne_of_gt (Nat.lt_of_le_of_lt hB hBr)), hv, hBr⟩
    rw [← h2]; simp

theorem r_itemT {prog : Program} {w : World} {A : Around} {E : Value → Shared → Prop} {s : Shared} {h₀ : Heap} {L : Addr} {news : Led} {value slice : Expr} {a : Addr} {l : List Value} {n : Nat} {k : Int} {u : Tok} {x : Value} {Q : Value → Shared → Prop}
    (N : News h₀ L s.heap news) (hm : (a, listOf l.toArray n) ∈ news) (h0 : 0 ≤ k) (hfit : k < 2 ^ 63) (hx : l[k.toNat]? = some x) (h : Q x s)
    (hs : subscripted slice false (.ref a) (.int k u) = operate [.ref a, .int k u] (getItem (.ref a) (.int k u))) :
    wpAny (model prog w) A (subscriptTail value slice (.ref a) (.int k u)) Q E s := by
  let p0 : Pos := { line := 0, col := 0, endLine := 0, endCol := 0 }
  have h1 : wpAny (model prog w) A (subscriptTail (.Name (Str.ofString "x") p0) slice (.ref a) (.int k u)) Q E s :=
    item_listL ⟨_, (N _ hm).1, rfl, n, rfl⟩ h0 hfit hx h hs fun _ => rfl
  have e : subscriptTail value slice (.ref a) (.int k u) = (subscriptTail (.Name (Str.ofString "x") p0) slice (.ref a) (.int k u) >>= fun r => letTemporaryGo value (.ref a) r >>= fun _ => pure r) := by
    have e0 : ∀ r, letTemporaryGo (.Name (Str.ofString "x") p0) (.ref a) r = pure () := fun _ => rfl
    unfold subscriptTail
    simp only [e0, bind_assoc, pure_bind]
  rw [e]
  exact wpAny_bind (wpAny_mono h1 (fun r s' hr => wpAny_bind (wpAny_letTemporaryGo (wpAny_pure hr))) fun _ _ q => q)

def letters : Str := Str.ofString "abcdefghi"
def theU : List Str := ["a", "b", "c", "d", "e", "f", "g", "h", "i", "z"].map Str.ofString
theorem letter_ok (k : Int) (h0 : 0 ≤ k) (h1 : k < 9) : Txt.item letters k ∈ theU ∧ Txt.item letters k ≠ Str.ofString "z" := by
  have : k = 0 ∨ k = 1 ∨ k = 2 ∨ k = 3 ∨ k = 4 ∨ k = 5 ∨ k = 6 ∨ k = 7 ∨ k = 8 := by omega
  rcases this with rfl | rfl | rfl | rfl | rfl | rfl | rfl | rfl | rfl <;> exact ⟨by decide, by decide⟩
theorem rng_small (n : Int) (h0 : 0 ≤ n) (h1 : n ≤ 9) : Builtin.Range.small 0 n 1 = true ∧ Builtin.Range.rangeSize 0 n 1 = (n.toNat : Int) := by
  have : n = 0 ∨ n = 1 ∨ n = 2 ∨ n = 3 ∨ n = 4 ∨ n = 5 ∨ n = 6 ∨ n = 7 ∨ n = 8 ∨ n = 9 := by omega
  rcases this with rfl | rfl | rfl | rfl | rfl | rfl | rfl | rfl | rfl | rfl <;> exact ⟨by decide, by decide⟩
def ptsOf (tu n : Int) : List Int := (List.range n.toNat).map fun (k : Nat) => (tu + (k : Int)).fmod n
theorem ptsOf_rng {tu n : Int} (hn : 0 < n) : ∀ x ∈ ptsOf tu n, 0 ≤ x ∧ x < n := by
  intro x hx
  obtain ⟨k, _, rfl⟩ := List.mem_map.mp hx
  exact ⟨Int.fmod_nonneg_of_pos _ hn, Int.fmod_lt_of_pos _ hn⟩
theorem ptsOf_all {tu n : Int} (hn : 0 < n) : ∀ x, 0 ≤ x → x < n → x ∈ ptsOf tu n := by
  intro x h0 h1
  refine List.mem_map.mpr ⟨((x - tu).fmod n).toNat, List.mem_range.mpr ?_, ?_⟩
  · have := Int.fmod_nonneg_of_pos (x - tu) hn
    have := Int.fmod_lt_of_pos (x - tu) hn
    omega
  · have a0 := Int.fmod_nonneg_of_pos (x - tu) hn
    have e : ((((x - tu).fmod n).toNat : Nat) : Int) = (x - tu).fmod n := by omega
    rw [e, Int.add_fmod_fmod]
    have e2 : tu + (x - tu) = x := by omega
    rw [e2]
    exact Int.fmod_eq_of_lt h0 h1
theorem z_ok : Str.ofString "z" ∈ theU := by decide
theorem theU_len : theU.length = 10 := rfl
theorem letters_len : letters.length = 9 := rfl
end
end Mine

namespace Mine
section
open PySem PySem.W PySem.Calls PyProof.Rows

theorem comp_inv {prog : Program} {w : World} {A : Around} {h₀ : Heap} {L : Addr} {m : Loc} {env : Env} {elt : Expr} {x : Str} {scope : Scope} {cl : List (Str × Addr)} {s : Shared} {S : Led → Prop} {P : Nat → Value → Prop} {Fin : List Value → Led → Prop} {n : Nat}
    (J : Nat → List Value → Led → Prop)
    (turn : ∀ i ys news v I oI C oC D m₂ h tk (E' : Value → Shared → Prop), i < n → ys.length = i → P i v → J i ys news → LCg.NsObj oC m₂ → m₂ x = some v → Fr h₀ L h m → News h₀ L h ((I, oI) :: (C, oC) :: (D, LCg.lst ys) :: news) → LCg.Off3 I C D news → (I ≠ C ∧ I ≠ D ∧ C ≠ D) →
      wpAny (model prog w) A (eval elt (compEnvC scope cl C env)) (fun y s' => ∃ h' tk' news', s' = { s with heap := h', toks := tk' } ∧ Fr h₀ L h' m ∧ News h₀ L h' ((I, oI) :: (C, oC) :: (D, LCg.lst ys) :: news') ∧ LCg.Off3 I C D news' ∧ S news' ∧ J (i + 1) (ys ++ [y]) news') E' { s with heap := h, toks := tk })
    (fin : ∀ ys news, ys.length = n → J n ys news → Fin ys news) :
    ∀ k i ys news, i + k = n → ys.length = i → J i ys news → LCg.CompRest prog w A h₀ L m env elt x scope cl s S P Fin k i ys news := by
  intro k
  induction k with
  | zero => intro i ys news e hl j; obtain rfl : i = n := by omega
            exact LCg.CompRest.zero (fin ys news hl j)
  | succ k ih =>
    intro i ys news e hl j
    refine LCg.CompRest.succ fun v I oI C oC D m₂ h tk E' hP hC hx F N off ne => ?_
    refine wpAny_mono (turn i ys news v I oI C oC D m₂ h tk E' (by omega) hl hP j hC hx F N off ne) ?_ fun _ _ q => q
    rintro y s' ⟨h', tk', news', rfl, F', N', off', hS, j'⟩
    exact ⟨h', tk', news', rfl, F', N', off', hS, ih (i + 1) (ys ++ [y]) news' (by omega) (by rw [List.length_append]; simp; omega) j'⟩

theorem off3_cons {I C D : Addr} {p : Addr × Obj} {a : Led} (h : LCg.Off3 I C D a) (h1 : @LT.lt Nat _ I p.1) (h2 : @LT.lt Nat _ C p.1) (h3 : @LT.lt Nat _ D p.1) : LCg.Off3 I C D (p :: a) :=
  ⟨⟨Nat.ne_of_gt h1, Nat.ne_of_gt h2, Nat.ne_of_gt h3⟩, h⟩

theorem lst_eq (ys : List Value) : LCg.lst ys = listOf ys.toArray ys.length := rfl
end
end Mine

namespace Mine
section
open PySem PySem.W PySem.Calls PyProof.Rows PyProof.V PySem.Spec

theorem risingS_le : ∀ (l : List Str) (p : Str), risingS p l = true → (∀ y ∈ l, p.cps.toList ≤ y.cps.toList) ∧ l.Pairwise (fun a b => a.cps.toList ≤ b.cps.toList) := by
  intro l
  induction l with
  | nil => intro p _; exact ⟨fun y hy => (by cases hy), List.Pairwise.nil⟩
  | cons x r ih =>
    intro p h
    unfold risingS at h
    rw [Bool.and_eq_true] at h
    obtain ⟨h1, h2⟩ := h
    rw [ltCps_eq] at h1
    have h3 : p.cps.toList ≤ x.cps.toList := by
      have : ¬ x.cps.toList < p.cps.toList := by simpa using h1
      exact List.not_lt.mp this
    obtain ⟨i1, i2⟩ := ih x h2
    refine ⟨fun y hy => ?_, List.Pairwise.cons i1 i2⟩
    rcases List.mem_cons.mp hy with rfl | hy
    · exact h3
    · exact List.le_trans h3 (i1 y hy)
theorem sortedS_pair {l : List Str} (h : sortedS l = true) : l.Pairwise (fun a b => a.cps.toList ≤ b.cps.toList) := by
  cases l with
  | nil => exact List.Pairwise.nil
  | cons x r => exact List.Pairwise.cons (risingS_le r x h).1 (risingS_le r x h).2
theorem str_ext {a b : Str} (h : a.cps.toList = b.cps.toList) : a = b := by
  cases a; cases b
  congr 1
  exact Array.toList_inj.mp h
theorem sortedS_eq {l m : List Str} (h1 : sortedS l = true) (h2 : sortedS m = true) (hp : l.Perm m) : l = m :=
  List.Perm.eq_of_pairwise (le := fun a b : Str => a.cps.toList ≤ b.cps.toList) (fun a b _ _ h h' => str_ext (List.le_antisymm h h')) (sortedS_pair h1) (sortedS_pair h2) hp
theorem sortedZ_eq {l m : List Int} (h1 : l.Pairwise (· ≤ ·)) (h2 : m.Pairwise (· ≤ ·)) (hp : l.Perm m) : l = m :=
  List.Perm.eq_of_pairwise (le := fun a b : Int => a ≤ b) (fun a b _ _ h h' => Int.le_antisymm h h') h1 h2 hp
theorem perm_of_mem {α : Type} [DecidableEq α] {l m : List α} (h1 : l.Nodup) (h2 : m.Nodup) (h : ∀ a, a ∈ l ↔ a ∈ m) : l.Perm m := (List.perm_ext_iff_of_nodup h1 h2).mpr h

theorem strs_canLay : ∀ ns : List Str, (∀ x ∈ ns, PyData.strOk x = true) → PyData.canLayAll0 (ns.map PyData.str) = true
  | [], _ => rfl
  | x :: r, h => by simp [PyData.canLayAll0, PyData.canLay0, strs_canLay r (fun y hy => h y (.tail _ hy)), h x (.head _)]
theorem strs_depth : ∀ ns : List Str, PyData.depthAll (ns.map PyData.str) = 0
  | [] => rfl
  | _ :: r => by simp [PyData.depthAll, PyData.depth, strs_depth r]
theorem strs_shaped (ns : List Str) (h : ∀ x ∈ ns, PyData.strOk x = true) : SeqAt.shaped (.list (ns.map PyData.str)) = true := by
  simp [SeqAt.shaped, PyData.canLay0, PyData.depth, strs_canLay ns h, strs_depth]
theorem theU_ok : ∀ x ∈ theU, PyData.strOk x = true := by decide +kernel
theorem strs_carried : ∀ {vs : List Value} {ns : List Str}, StrsAre vs ns → CarriedAll vs (ns.map PyData.str)
  | _, _, .nil => .nil
  | _, _, .cons _ t r => .cons (.str _ t) (strs_carried r)

section
variable {prog : Program} {w : World} {A : Around} {E : Value → Shared → Prop} {s : Shared} {a b : Addr} {Q : Value → Shared → Prop}
theorem r_ne_strs {xs ys : List Value} {ns : List Str} (ha : s.heap.IsList a xs.toArray) (hb : s.heap.IsList b ys.toArray) (hi : StrsAre xs ns) (hj : StrsAre ys ns) (hok : ∀ x ∈ ns, PyData.strOk x = true) (hu : A.units + 64 < cLine) (h : Q (.bool false) s) :
    wpAny (model prog w) A (compareOp .NotEq (.ref a) (.ref b)) Q E s :=
  ne_dataH_same (reads_newData ha (strs_carried hi)) (reads_newData hb (strs_carried hj)) (strs_shaped _ hok) (strs_shaped _ hok) hu (SeqAt.noMix_of_shape (.list .str) rfl _ _ (list_map_has fun _ => rfl) (list_map_has fun _ => rfl)) (by rw [same_refl]; exact h)
theorem r_ne_ints {xs ys : List Value} {ns : List Int} (ha : s.heap.IsList a xs.toArray) (hb : s.heap.IsList b ys.toArray) (hi : IntsAre xs ns) (hj : IntsAre ys ns) (hu : A.units + 64 < cLine) (h : Q (.bool false) s) :
    wpAny (model prog w) A (compareOp .NotEq (.ref a) (.ref b)) Q E s := ke_ne_ints ha hb hi hj hu (by simpa using h)
end

def rowsD (T : Int → List Int) (n : Int) : List PyData := (List.range n.toNat).map fun (i : Nat) => PyData.list ((T i).map PyData.int)
theorem rows_reads {h : Heap} {T : Int → List Int} : ∀ (k : Nat) (i : Nat) (its : List Value), its.length = k → (∀ j : Nat, j < k → ∃ r vs ep, its[j]? = some (.ref r) ∧ h.get? r = some (listOf vs.toArray ep) ∧ IntsAre vs (T ((i + j : Nat) : Int))) →
    ∃ as, ReadsAll h its ((List.range' i k).map fun (i : Nat) => PyData.list ((T i).map PyData.int)) as := by
  intro k
  induction k with
  | zero => intro i its hl _; rw [List.length_eq_zero_iff.mp hl]; exact ⟨_, ReadsAll.nil⟩
  | succ k ih =>
    intro i its hl hr
    cases its with
    | nil => simp at hl
    | cons v r =>
      obtain ⟨r0, vs, ep, e1, e2, e3⟩ := hr 0 (by omega)
      simp only [List.getElem?_cons_zero, Option.some.injEq] at e1
      subst e1
      obtain ⟨as, has⟩ := ih (i + 1) r (by simpa using hl) fun j hj => by
        obtain ⟨r1, vs1, ep1, w1, w2, w3⟩ := hr (j + 1) (by omega)
        refine ⟨r1, vs1, ep1, by simpa using w1, w2, ?_⟩
        have e : i + 1 + j = i + (j + 1) := by omega
        rw [e]; exact w3
      rw [List.range'_succ, List.map_cons]
      have e3' : IntsAre vs (T (i : Int)) := by simpa using e3
      exact ⟨_, ReadsAll.cons (reads_newData (D := r0) ⟨_, e2, rfl, _, rfl⟩ (ke_carried e3')) has⟩

theorem Rws.reads {T : Int → List Int} {B : Nat} {n : Int} {aT : Addr} {a : Led} {h₀ h : Heap} {L : Addr} (t : Rws (fun k vs => IntsAre vs (T k)) B n aT a) (N : News h₀ L h a) : ∃ as, Reads h (.ref aT) (.list (rowsD T n)) as := by
  obtain ⟨its, ep, h1, h2, h3⟩ := t
  obtain ⟨as, has⟩ := rows_reads (h := h) (T := T) n.toNat 0 its.toList (by simpa using h2) fun j hj => by
    obtain ⟨r, vs, ep', z1, z2, z3, _⟩ := h3 j (by omega) (by omega)
    exact ⟨r, vs, ep', by simpa using z1, N.get z2, by simpa using z3⟩
  rw [← List.range_eq_range'] at has
  exact ⟨_, reads_list_at (N.get h1) rfl rfl has⟩
theorem ints_canLay : ∀ ns : List Int, PyData.canLayAll0 (ns.map PyData.int) = true := ke_canLayAll0
theorem rows_canLay {T : Int → List Int} : ∀ l : List Nat, PyData.canLayAll0 (l.map fun (i : Nat) => PyData.list ((T i).map PyData.int)) = true
  | [] => rfl
  | x :: r => by simp [PyData.canLayAll0, PyData.canLay0, ints_canLay, rows_canLay r]
theorem rows_depth {T : Int → List Int} : ∀ l : List Nat, PyData.depthAll (l.map fun (i : Nat) => PyData.list ((T i).map PyData.int)) ≤ 1
  | [] => by simp [PyData.depthAll]
  | x :: r => by
    have := rows_depth (T := T) r
    simp only [List.map_cons, PyData.depthAll, PyData.depth, ke_depthAll]
    omega
theorem rows_shaped {T : Int → List Int} {n : Int} : SeqAt.shaped (.list (rowsD T n)) = true := by
  have := rows_depth (T := T) (List.range n.toNat)
  simp only [SeqAt.shaped, PyData.canLay0, PyData.depth, rowsD, rows_canLay, Bool.true_and]
  exact decide_eq_true (by omega)
section
variable {prog : Program} {w : World} {A : Around} {E : Value → Shared → Prop} {s : Shared} {Q : Value → Shared → Prop}
theorem r_eq_rows {T : Int → List Int} {B B' : Nat} {n : Int} {aT aG : Addr} {a : Led} {h₀ : Heap} {L : Addr} (N : News h₀ L s.heap a) (t : Rws (fun k vs => IntsAre vs (T k)) B n aT a) (t' : Rws (fun k vs => IntsAre vs (T k)) B' n aG a) (hu : A.units + 64 < cLine) (h : Q (.bool true) s) :
    wpAny (model prog w) A (compareOp .Eq (.ref aT) (.ref aG)) Q E s := by
  obtain ⟨as, ra⟩ := t.reads N
  obtain ⟨bs, rb⟩ := t'.reads N
  exact eq_dataH_same ra rb rows_shaped rows_shaped hu (SeqAt.noMix_of_shape (.list (.list .int)) rfl _ _ (list_map_has fun _ => list_map_has fun _ => rfl) (list_map_has fun _ => list_map_has fun _ => rfl)) (by rw [same_refl]; exact h)

theorem r_keys {kvs : List (Int × Value)} {d : Addr} {o : Obj} {a : Led} {h₀ : Heap} {L : Addr} {m : Loc} (hh : A.handled = none) (F : Fr h₀ L s.heap m) (N : News h₀ L s.heap a) (hp : (d, o) ∈ a) (hd : o.IsDictOf (intKind prog w) kvs) (lo : (d == sysModules) = false) (hn : kvs.length ≤ 1000)
    (h : ∀ (D : Addr) c h' tk vs, Fr h₀ L h' m → News h₀ L h' ((D, listOf vs.toArray c) :: a) → (∀ q ∈ a, q.1 < D) → IntsAre vs (kvs.map (·.1)) → Q (.ref D) { s with heap := h', toks := tk }) :
    wpAny (model prog w) A (call (.type "list") [.ref d]) Q E s := by
  obtain ⟨ep, hat⟩ := (kda_dict N hp hd).dictAt
  refine kdl_N (kdl_dict (knd := intKind prog w) (kvs := kvs) (ep := ep) lo) hh F N hat (kdl_size (by omega)) fun D c h' tk vs F' N' l1 hl hv => h D c h' tk vs F' N' l1 ?_
  have key : ∀ (vs : List Value) (kvs : List (Int × Value)), vs.length = kvs.length → (∀ (j : Nat) (v : Value), vs[j]? = some v → ∃ k x, kvs[j]? = some (k, x) ∧ (intKind prog w).is k v = true) → IntsAre vs (kvs.map (·.1)) := by
    intro vs
    induction vs with
    | nil => intro kvs hl _; rw [List.length_eq_zero_iff.mp hl.symm]; exact .nil
    | cons v r ih =>
      intro kvs hl hv
      cases kvs with
      | nil => simp at hl
      | cons kv t =>
        obtain ⟨k, x, e1, e2⟩ := hv 0 v rfl
        simp only [List.getElem?_cons_zero, Option.some.injEq] at e1
        subst e1
        obtain ⟨t', rfl⟩ : ∃ t', v = .int k t' := by
          cases v <;> simp [intKind, Value.isInt] at e2
          case int i t' => exact ⟨t', by rw [e2]⟩
        exact .cons k t' (ih t (by simpa using hl) fun j v hj => hv (j + 1) v hj)
  exact key vs kvs hl hv
end
end
end Mine

namespace Mine
section
open PySem PySem.W PySem.Calls PyProof.Rows

theorem compT_inv {prog : Program} {w : World} {A : Around} {h₀ : Heap} {L : Addr} {m : Loc} {env : Env} {ct elt : Expr} {x : Str} {scope : Scope} {cl : List (Str × Addr)} {s : Shared} {S : Led → Prop} {P : Nat → Value → Prop} {Fin : List Value → Led → Prop} {n : Nat}
    (J : Nat → List Value → Led → Prop)
    (turn : ∀ i ys news v I oI C oC D m₂ h tk (E' : Value → Shared → Prop), i < n → P i v → J i ys news → LCg.NsObj oC m₂ → m₂ x = some v → Fr h₀ L h m → News h₀ L h ((I, oI) :: (C, oC) :: (D, LCg.lst ys) :: news) → LCg.Off3 I C D news → (I ≠ C ∧ I ≠ D ∧ C ≠ D) →
      wpAny (model prog w) A (isTrue ct (compEnvC scope cl C env) (eval ct (compEnvC scope cl C env))) (fun ok s' => if ok = true then
        wpAny (model prog w) A (eval elt (compEnvC scope cl C env)) (fun y s' => ∃ h' tk' news', s' = { s with heap := h', toks := tk' } ∧ Fr h₀ L h' m ∧ News h₀ L h' ((I, oI) :: (C, oC) :: (D, LCg.lst ys) :: news') ∧ LCg.Off3 I C D news' ∧ S news' ∧ J (i + 1) (ys ++ [y]) news') E' s'
        else ∃ h' tk' news', s' = { s with heap := h', toks := tk' } ∧ Fr h₀ L h' m ∧ News h₀ L h' ((I, oI) :: (C, oC) :: (D, LCg.lst ys) :: news') ∧ LCg.Off3 I C D news' ∧ S news' ∧ J (i + 1) ys news') E' { s with heap := h, toks := tk })
    (fin : ∀ ys news, J n ys news → Fin ys news) :
    ∀ k i ys news, i + k = n → J i ys news → LCt.CompRestT prog w A h₀ L m env ct elt x scope cl s S P Fin k i ys news := by
  intro k
  induction k with
  | zero => intro i ys news e j; obtain rfl : i = n := by omega
            exact LCt.CompRestT.zero (fin ys news j)
  | succ k ih =>
    intro i ys news e j
    refine LCt.CompRestT.succ fun v I oI C oC D m₂ h tk E' hP hC hx F N off ne => ?_
    refine wpAny_mono (turn i ys news v I oI C oC D m₂ h tk E' (by omega) hP j hC hx F N off ne) ?_ fun _ _ q => q
    intro ok s' hq
    cases ok with
    | true =>
      rw [if_pos rfl] at hq ⊢
      refine wpAny_mono hq ?_ fun _ _ q => q
      rintro y s' ⟨h', tk', news', rfl, F', N', off', hS, j'⟩
      exact ⟨h', tk', news', rfl, F', N', off', hS, ih (i + 1) (ys ++ [y]) news' (by omega) j'⟩
    | false =>
      rw [if_neg (by decide)] at hq ⊢
      obtain ⟨h', tk', news', rfl, F', N', off', hS, j'⟩ := hq
      exact ⟨h', tk', news', rfl, F', N', off', hS, ih (i + 1) ys news' (by omega) j'⟩

theorem list_ne_cell {a : Led} {h₀ h : Heap} {L c l : Addr} {o : Obj} {v : Option Value} {its : Array Value} {ep : Nat} (N : News h₀ L h a) (hc : (c, o) ∈ a) (hd : o.data = .cell v) (hl : (l, listOf its ep) ∈ a) : l ≠ c := fun e => by
  subst e
  have := news_fun N hl hc; subst this
  cases hd
theorem Rws.offc {P : Int → List Value → Prop} {B : Nat} {n : Int} {aT c : Addr} {o : Obj} {v : Option Value} {a : Led} {h₀ h : Heap} {L : Addr} (t : Rws P B n aT a) (N : News h₀ L h a) (hc : (c, o) ∈ a) (hd : o.data = .cell v) : Rws P B n aT (Mine.off c a) :=
  t.keep fun _ _ _ hl => mem_off.mpr ⟨hl, list_ne_cell N hc hd hl⟩
theorem Rep.offc {prog : Program} {w : World} {n : Int} {aN aS aF : Addr} {σ : St} {loc : Int → Addr} {a : Led} {h₀ h : Heap} {L c : Addr} {o : Obj} {v : Option Value} (R : Rep prog w n aN aS aF σ loc a) (N : News h₀ L h a) (hc : (c, o) ∈ a) (hd : o.data = .cell v) : Rep prog w n aN aS aF σ loc (Mine.off c a) where
  nd := let ⟨o', kvs, h1, h2, h3⟩ := R.nd; ⟨o', kvs, mem_off.mpr ⟨h1, fun e => by
    have e' : aN = c := e
    subst e'
    have := news_fun N h1 hc; subst this
    obtain ⟨_, _, _, e2, _⟩ := h2
    rw [hd] at e2; cases e2⟩, h2, h3⟩
  st := let ⟨vs, ep, h1, h2⟩ := R.st; ⟨vs, ep, mem_off.mpr ⟨h1, list_ne_cell N hc hd h1⟩, h2⟩
  fd := let ⟨o', kvs, h1, h2, h3⟩ := R.fd; ⟨o', kvs, mem_off.mpr ⟨h1, fun e => by
    have e' : aF = c := e
    subst e'
    have := news_fun N h1 hc; subst this
    obtain ⟨_, _, _, e2, _⟩ := h2
    rw [hd] at e2; cases e2⟩, h2, h3⟩
  ls := fun i l e => let ⟨vs, ep, h1, h2⟩ := R.ls i l e; ⟨vs, ep, mem_off.mpr ⟨h1, list_ne_cell N hc hd h1⟩, h2⟩
  apN := R.apN
  apS := R.apS
  small := R.small
  lens := R.lens
  lenl := R.lenl
  loN := R.loN
  loF := R.loF

section
variable {M : Model} {A : Around} {E : Value → Shared → Prop} {s : Shared} {h₀ : Heap} {L a : Addr} {m : Str → Option Value} {cn : Str} {cs : Scope} {ccd : Value} {cl : List (Str × Addr)}
  {x : Str} {v : Value} {Q : Unit → Shared → Prop} {news : Led} {c : Addr} {o : Obj} {v₀ : Option Value}
theorem r_stC (F : Fr h₀ L s.heap m) (N : News h₀ L s.heap news) (hc : cl.lookup x = some c) (hm : (c, o) ∈ news) (hd : o.data = .cell v₀)
    (h : ∀ h' o', Fr h₀ L h' m → News h₀ L h' (put c o' news) → o'.data = .cell (some v) → Q () { s with heap := h' })
    (hk : cs.kind = .function) (hx : (envX cn cs L a ccd cl).kindOf x = some .cell) : wpAny M A (storeName (envX cn cs L a ccd cl) x v) Q E s := by
  refine wpAny_storeName_cell hk hx hc ⟨o, N.get hm, hd⟩ fun h' hv hs => ?_
  obtain ⟨o', ho', hd'⟩ := hv
  obtain ⟨F', N'⟩ := upd_put F N hm hs ho'
  exact h h' o' F' N' hd'
end
end
end Mine

namespace Mine
section
open PySem

theorem Reach.trans {T : Int → List Int} {x y z : Int} (h : Reach T x y) (h' : Reach T y z) : Reach T x z := by
  induction h' with
  | refl => exact h
  | step _ hz ih => exact .step ih hz

/-- c is among the marks that F holds for i -/
def has (σ : St) (i : Int) (c : Str) : Prop := c ∈ (σ.F i).getD []
def Val (T : Int → List Int) (M : Int → List Str) (i : Int) (c : Str) : Prop := ∃ j, Reach T i j ∧ c ∈ M j

theorem Val.of {T : Int → List Int} {M : Int → List Str} {x y : Int} {c : Str} (h : Reach T x y) (v : Val T M y c) : Val T M x c :=
  let ⟨j, h1, h2⟩ := v; ⟨j, h.trans h1, h2⟩

theorem mem_add1 {l : List Str} {a c : Str} : c ∈ add1 l a ↔ c ∈ l ∨ c = a := by
  unfold add1
  split
  · constructor
    · exact .inl
    · rintro (h | rfl) <;> assumption
  · simp
theorem mem_addNew {c : Str} : ∀ (src l : List Str), c ∈ addNew l src ↔ c ∈ l ∨ c ∈ src := by
  intro src
  induction src with
  | nil => intro l; show c ∈ l ↔ _; simp
  | cons a r ih =>
    intro l
    show c ∈ addNew (add1 l a) r ↔ _
    rw [ih, mem_add1, List.mem_cons, or_assoc]

structure GG (n : Int) (U : List Str) (T : Int → List Int) (M : Int → List Str) (σ : St) : Prop where
  good : Good n U σ
  on : ∀ i, σ.N i ≠ 0 → σ.N i ≠ MAXI → i ∈ σ.stk
  dn : ∀ i, σ.N i = MAXI → (∀ c, has σ i c ↔ Val T M i c) ∧ ∀ y ∈ T i, σ.N y = MAXI
  st : ∀ (k : Nat) w, σ.stk.reverse[k]? = some w → (1 ≤ σ.N w ∧ σ.N w ≤ k + 1 ∧ ∃ u, σ.stk.reverse[(σ.N w).toNat - 1]? = some u ∧ Reach T w u) ∧ (∀ c ∈ M w, has σ w c) ∧ ∀ c, has σ w c → Val T M w c

def Edge (τ : St) (b : Int) (C : Str → Prop) (x : Int) (stk0 pre : List Int) (y : Int) : Prop :=
  (τ.N y = MAXI ∧ ∀ c, has τ y c → C c) ∨ y ∈ pre ∨ y = x ∨ (y ∈ stk0 ∧ b ≤ τ.N y)

structure LI (n : Int) (U : List Str) (T : Int → List Int) (M : Int → List Str) (σ : St) (x : Int) (ys pre : List Int) (τ : St) (b : Int) (C : Str → Prop) : Prop where
  g : GG n U T M τ
  stk : τ.stk = pre ++ x :: σ.stk
  fr : ∀ i, σ.N i ≠ 0 → τ.N i = σ.N i ∧ τ.F i = σ.F i
  low : ∀ w ∈ pre, b ≤ τ.N w ∧ (∀ c, has τ w c → C c) ∧ Reach T x w ∧ (∀ k : Nat, τ.stk.reverse[k]? = some w → τ.N w ≤ k) ∧ ∀ y ∈ T w, Edge τ b C x σ.stk pre y
  ed : ∀ y ∈ ys, Edge τ b C x σ.stk pre y

structure VP (n : Int) (U : List Str) (T : Int → List Int) (M : Int → List Str) (σ : St) (x : Int) (τ : St) : Prop where
  g : GG n U T M τ
  fr : ∀ i, σ.N i ≠ 0 → τ.N i = σ.N i ∧ τ.F i = σ.F i
  alt : (τ.stk = σ.stk ∧ τ.N x = MAXI) ∨ ∃ pre, LI n U T M σ x (T x) pre τ (τ.N x) (has τ x) ∧ τ.N x ≤ σ.stk.length

section
variable {n : Int} {U : List Str} {T : Int → List Int} {M : Int → List Str} {x y : Int} {σ τ : St} {f : Nat} {ys pre : List Int} {b : Int} {C : Str → Prop}

theorem stk_len (g : Good n U σ) : σ.stk.length ≤ n.toNat := by
  have := nodup_sub_le σ.stk ((List.range n.toNat).map fun (i : Nat) => (i : Int)) g.nd fun i hi => by
    have := g.rng i hi
    exact List.mem_map.mpr ⟨i.toNat, List.mem_range.mpr (by omega), by omega⟩
  simpa using this
theorem in_rev {s : List Int} {w : Int} (h : w ∈ s) : ∃ k : Nat, s.reverse[k]? = some w ∧ k < s.length := by
  obtain ⟨k, hk, e⟩ := List.mem_iff_getElem.mp (List.mem_reverse.mpr h)
  exact ⟨k, List.getElem?_eq_some_iff.mpr ⟨hk, e⟩, by simpa using hk⟩
theorem of_rev {s : List Int} {w : Int} {k : Nat} (h : s.reverse[k]? = some w) : w ∈ s ∧ k < s.length := by
  obtain ⟨hk, e⟩ := List.getElem?_eq_some_iff.mp h
  exact ⟨List.mem_reverse.mp (e ▸ List.getElem_mem hk), by simpa using hk⟩
theorem rev_app {p s : List Int} {k : Nat} (h : k < s.length) : (p ++ s).reverse[k]? = s.reverse[k]? := by
  rw [List.reverse_append, List.getElem?_append_left (by simpa using h)]

theorem GG.small (g : GG n U T M σ) (hn : n ≤ 9) {w : Int} (h : w ∈ σ.stk) : 1 ≤ σ.N w ∧ σ.N w ≤ 9 ∧ σ.N w ≤ σ.stk.length := by
  obtain ⟨k, hk, hl⟩ := in_rev h
  have h1 := (g.st k w hk).1
  have h2 := stk_len g.good
  omega
theorem GG.ndn (g : GG n U T M σ) (hn : n ≤ 9) {w : Int} (h : w ∈ σ.stk) : σ.N w ≠ MAXI := by
  have := g.small hn h
  unfold MAXI; omega
theorem GG.cases (g : GG n U T M σ) (h : σ.N y ≠ 0) : σ.N y = MAXI ∨ y ∈ σ.stk := by
  by_cases e : σ.N y = MAXI
  · exact .inl e
  · exact .inr (g.on y h e)

theorem has_relax_ne {i : Int} {c : Str} (h : i ≠ x) : has (relax x y τ) i c ↔ has τ i c := by
  show c ∈ (upd τ.F x _ i).getD [] ↔ _
  rw [upd_ne h]; exact Iff.rfl
theorem has_relax {c : Str} : has (relax x y τ) x c ↔ has τ x c ∨ has τ y c := by
  show c ∈ (upd τ.F x _ x).getD [] ↔ _
  rw [upd_same]; exact mem_addNew _ _
theorem N_relax_ne {i : Int} (h : i ≠ x) : (relax x y τ).N i = τ.N i := upd_ne h
theorem N_relax : (relax x y τ).N x = mini (τ.N x) (τ.N y) := upd_same
theorem mini_le {a b : Int} : mini a b ≤ a ∧ mini a b ≤ b ∧ (mini a b = a ∨ (mini a b = b ∧ b < a)) := by
  unfold mini; split <;> omega

theorem relax_GG (hn : n ≤ 9) (g : GG n U T M τ) (hx : x ∈ τ.stk) (hy : τ.N y ≠ 0) (hyT : y ∈ T x) : GG n U T M (relax x y τ) := by
  have hxs := g.small hn hx
  have hm := mini_le (a := τ.N x) (b := τ.N y)
  refine ⟨relax_Good g.good hx hy, fun i h1 h2 => ?_, fun i h => ?_, fun k w hk => ?_⟩
  · by_cases e : i = x
    · rw [e]; exact hx
    · rw [N_relax_ne e] at h1 h2; exact g.on i h1 h2
  · have e : i ≠ x := fun e => by
      rw [e, N_relax] at h; unfold MAXI at h; omega
    rw [N_relax_ne e] at h
    obtain ⟨d1, d2⟩ := g.dn i h
    refine ⟨fun c => (has_relax_ne e).trans (d1 c), fun z hz => ?_⟩
    have hz' := d2 z hz
    have hzx : z ≠ x := fun e => g.ndn hn hx (e ▸ hz')
    rw [N_relax_ne hzx]; exact hz'
  · have hk' : τ.stk.reverse[k]? = some w := hk
    obtain ⟨⟨s1, s2, u, s3, s4⟩, s5, s6⟩ := g.st k w hk'
    by_cases e : w = x
    · subst e
      refine ⟨?_, fun c hc => has_relax.mpr (.inl (s5 c hc)), fun c hc => ?_⟩
      · rw [N_relax]
        rcases hm.2.2 with e | ⟨e, hlt⟩
        · rw [e]; exact ⟨s1, s2, u, s3, s4⟩
        · rcases g.cases hy with h | h
          · unfold MAXI at h; omega
          · obtain ⟨ky, hky, _⟩ := in_rev h
            obtain ⟨⟨t1, t2, v, t3, t4⟩, _, _⟩ := g.st ky y hky
            rw [e]
            exact ⟨t1, by omega, v, t3, (Reach.refl.step hyT).trans t4⟩
      · rcases has_relax.mp hc with h | h
        · exact s6 c h
        · rcases g.cases hy with hd | hd
          · exact Val.of (Reach.refl.step hyT) (((g.dn y hd).1 c).mp h)
          · obtain ⟨ky, hky, _⟩ := in_rev hd
            exact Val.of (Reach.refl.step hyT) ((g.st ky y hky).2.2 c h)
    · rw [N_relax_ne e]
      exact ⟨⟨s1, s2, u, s3, s4⟩, fun c hc => (has_relax_ne e).mpr (s5 c hc), fun c hc => s6 c ((has_relax_ne e).mp hc)⟩

theorem relax_LI (hn : n ≤ 9) (l : LI n U T M σ x ys pre τ b C) (hx0 : σ.N x = 0) (hy : τ.N y ≠ 0) (hyT : y ∈ T x) (hb : mini (τ.N x) (τ.N y) ≤ b) (hC : ∀ c, C c → has τ x c ∨ has τ y c) :
    LI n U T M σ x (ys ++ [y]) pre (relax x y τ) ((relax x y τ).N x) (has (relax x y τ) x) := by
  have hx : x ∈ τ.stk := by rw [l.stk]; simp
  have hnd := l.g.good.nd
  rw [l.stk, List.nodup_append] at hnd
  have hxp : ∀ w ∈ pre, w ≠ x := fun w hw => hnd.2.2 w hw x (.head _)
  have hxs : ∀ w ∈ σ.stk, w ≠ x := fun w hw e => (List.nodup_cons.mp hnd.2.1).1 (e ▸ hw)
  have hm := mini_le (a := τ.N x) (b := τ.N y)
  have edge : ∀ z, Edge τ b C x σ.stk pre z → Edge (relax x y τ) ((relax x y τ).N x) (has (relax x y τ) x) x σ.stk pre z := by
    rintro z (⟨h1, h2⟩ | h | h | ⟨h1, h2⟩)
    · have hzx : z ≠ x := fun e => l.g.ndn hn hx (e ▸ h1)
      exact .inl ⟨by rw [N_relax_ne hzx]; exact h1, fun c hc => has_relax.mpr (hC c (h2 c ((has_relax_ne hzx).mp hc)))⟩
    · exact .inr (.inl h)
    · exact .inr (.inr (.inl h))
    · exact .inr (.inr (.inr ⟨h1, by rw [N_relax, N_relax_ne (hxs z h1)]; omega⟩))
  refine ⟨relax_GG hn l.g hx hy hyT, l.stk, fun i hi => ?_, fun w hw => ?_, fun z hz => ?_⟩
  · have e : i ≠ x := fun e => hi (e ▸ hx0)
    have := l.fr i hi
    exact ⟨(N_relax_ne e).trans this.1, (upd_ne e).trans this.2⟩
  · obtain ⟨a1, a2, a3, a4, a5⟩ := l.low w hw
    have e := hxp w hw
    exact ⟨by rw [N_relax, N_relax_ne e]; omega, fun c hc => has_relax.mpr (hC c (a2 c ((has_relax_ne e).mp hc))), a3, fun k hk => by rw [N_relax_ne e]; exact a4 k hk, fun z hz => edge z (a5 z hz)⟩
  · rcases List.mem_append.mp hz with hz | hz
    · exact edge z (l.ed z hz)
    · rw [List.mem_singleton.mp hz]
      rcases l.g.cases hy with h | h
      · have hyx : y ≠ x := fun e => l.g.ndn hn hx (e ▸ h)
        exact .inl ⟨by rw [N_relax_ne hyx]; exact h, fun c hc => has_relax.mpr (.inr ((has_relax_ne hyx).mp hc))⟩
      · rw [l.stk] at h
        rcases List.mem_append.mp h with h | h
        · exact .inr (.inl h)
        · rcases List.mem_cons.mp h with h | h
          · exact .inr (.inr (.inl h))
          · exact .inr (.inr (.inr ⟨h, by rw [N_relax, N_relax_ne (hxs y h)]; omega⟩))

theorem has_eq {σ τ : St} {i : Int} (h : τ.F i = σ.F i) {c : Str} : has τ i c ↔ has σ i c := by unfold has; rw [h]

/-- a visited neighbour that stands: the edge as it is -/
theorem keep_LI {τ' : St} (hn : n ≤ 9) (l : LI n U T M σ x ys pre τ (τ.N x) (has τ x)) (v : VP n U T M τ y τ') (hstk : τ'.stk = τ.stk) : LI n U T M σ x ys pre τ' (τ'.N x) (has τ' x) := by
  have hmem : ∀ w ∈ τ.stk, τ'.N w = τ.N w ∧ τ'.F w = τ.F w := fun w hw => v.fr w (l.g.good.sn w hw)
  have hx : x ∈ τ.stk := by rw [l.stk]; simp
  have edge : ∀ z, Edge τ (τ.N x) (has τ x) x σ.stk pre z → Edge τ' (τ'.N x) (has τ' x) x σ.stk pre z := by
    rintro z (⟨h1, h2⟩ | h | h | ⟨h1, h2⟩)
    · have h0 : τ.N z ≠ 0 := by rw [h1]; decide
      obtain ⟨e1, e2⟩ := v.fr z h0
      exact .inl ⟨e1.trans h1, fun c hc => (has_eq (hmem x hx).2).mpr (h2 c ((has_eq e2).mp hc))⟩
    · exact .inr (.inl h)
    · exact .inr (.inr (.inl h))
    · have hz : z ∈ τ.stk := by rw [l.stk]; exact List.mem_append_right _ (.tail _ h1)
      exact .inr (.inr (.inr ⟨h1, by rw [(hmem x hx).1, (hmem z hz).1]; exact h2⟩))
  refine ⟨v.g, hstk.trans l.stk, fun i hi => ?_, fun w hw => ?_, fun z hz => edge z (l.ed z hz)⟩
  · obtain ⟨e1, e2⟩ := l.fr i hi
    obtain ⟨e3, e4⟩ := v.fr i (by rw [e1]; exact hi)
    exact ⟨e3.trans e1, e4.trans e2⟩
  · obtain ⟨a1, a2, a3, a4, a5⟩ := l.low w hw
    have hw' : w ∈ τ.stk := by rw [l.stk]; exact List.mem_append_left _ hw
    refine ⟨by rw [(hmem x hx).1, (hmem w hw').1]; exact a1, fun c hc => (has_eq (hmem x hx).2).mpr (a2 c ((has_eq (hmem w hw').2).mp hc)), a3, fun k hk => ?_, fun z hz => edge z (a5 z hz)⟩
    rw [(hmem w hw').1]; exact a4 k (by rw [← hstk]; exact hk)

/-- a neighbour whose component stays on the stack -/
theorem grow_LI {τ' : St} {pre2 : List Int} (hn : n ≤ 9) (l : LI n U T M σ x ys pre τ (τ.N x) (has τ x)) (hyT : y ∈ T x) (hy0 : τ.N y = 0) (v : VP n U T M τ y τ')
    (l2 : LI n U T M τ y (T y) pre2 τ' (τ'.N y) (has τ' y)) (hlow : τ'.N y ≤ τ.stk.length) :
    LI n U T M σ x ys (pre2 ++ y :: pre) τ' (mini (τ'.N x) (τ'.N y)) (fun c => has τ' x c ∨ has τ' y c) := by
  have hmem : ∀ w ∈ τ.stk, τ'.N w = τ.N w ∧ τ'.F w = τ.F w := fun w hw => v.fr w (l.g.good.sn w hw)
  have hx : x ∈ τ.stk := by rw [l.stk]; simp
  have hm := mini_le (a := τ'.N x) (b := τ'.N y)
  have hstk : τ'.stk = (pre2 ++ y :: pre) ++ x :: σ.stk := by rw [l2.stk, l.stk, List.append_assoc]; rfl
  have hsplit : τ'.stk = (pre2 ++ [y]) ++ τ.stk := by rw [l2.stk]; simp
  have old : ∀ z, Edge τ (τ.N x) (has τ x) x σ.stk pre z → Edge τ' (mini (τ'.N x) (τ'.N y)) (fun c => has τ' x c ∨ has τ' y c) x σ.stk (pre2 ++ y :: pre) z := by
    rintro z (⟨h1, h2⟩ | h | h | ⟨h1, h2⟩)
    · have h0 : τ.N z ≠ 0 := by rw [h1]; decide
      obtain ⟨e1, e2⟩ := v.fr z h0
      exact .inl ⟨e1.trans h1, fun c hc => .inl ((has_eq (hmem x hx).2).mpr (h2 c ((has_eq e2).mp hc)))⟩
    · exact .inr (.inl (List.mem_append_right _ (.tail _ h)))
    · exact .inr (.inr (.inl h))
    · have hz : z ∈ τ.stk := by rw [l.stk]; exact List.mem_append_right _ (.tail _ h1)
      exact .inr (.inr (.inr ⟨h1, by rw [(hmem z hz).1]; have := (hmem x hx).1; omega⟩))
  have new : ∀ z, Edge τ' (τ'.N y) (has τ' y) y τ.stk pre2 z → Edge τ' (mini (τ'.N x) (τ'.N y)) (fun c => has τ' x c ∨ has τ' y c) x σ.stk (pre2 ++ y :: pre) z := by
    rintro z (⟨h1, h2⟩ | h | h | ⟨h1, h2⟩)
    · exact .inl ⟨h1, fun c hc => .inr (h2 c hc)⟩
    · exact .inr (.inl (List.mem_append_left _ h))
    · exact .inr (.inl (List.mem_append_right _ (h ▸ .head _)))
    · rw [l.stk] at h1
      rcases List.mem_append.mp h1 with h | h
      · exact .inr (.inl (List.mem_append_right _ (.tail _ h)))
      · rcases List.mem_cons.mp h with h | h
        · exact .inr (.inr (.inl h))
        · exact .inr (.inr (.inr ⟨h, by omega⟩))
  refine ⟨v.g, hstk, fun i hi => ?_, fun w hw => ?_, fun z hz => old z (l.ed z hz)⟩
  · obtain ⟨e1, e2⟩ := l.fr i hi
    obtain ⟨e3, e4⟩ := v.fr i (by rw [e1]; exact hi)
    exact ⟨e3.trans e1, e4.trans e2⟩
  · rcases List.mem_append.mp hw with hw | hw
    · obtain ⟨a1, a2, a3, a4, a5⟩ := l2.low w hw
      exact ⟨by omega, fun c hc => .inr (a2 c hc), (Reach.refl.step hyT).trans a3, a4, fun z hz => new z (a5 z hz)⟩
    · rcases List.mem_cons.mp hw with rfl | hw
      · refine ⟨by omega, fun c hc => .inr hc, Reach.refl.step hyT, fun k hk => ?_, fun z hz => new z (l2.ed z hz)⟩
        by_cases hlt : k < τ.stk.length
        · rw [hsplit, rev_app hlt] at hk
          exact absurd hy0 (l.g.good.sn _ (of_rev hk).1)
        · omega
      · obtain ⟨a1, a2, a3, a4, a5⟩ := l.low w hw
        have hw' : w ∈ τ.stk := by rw [l.stk]; exact List.mem_append_left _ hw
        refine ⟨by rw [(hmem w hw').1]; have := (hmem x hx).1; omega, fun c hc => .inl ((has_eq (hmem x hx).2).mpr (a2 c ((has_eq (hmem w hw').2).mp hc))), a3, fun k hk => ?_, fun z hz => old z (a5 z hz)⟩
        rw [(hmem w hw').1]
        by_cases hlt : k < τ.stk.length
        · rw [hsplit, rev_app hlt] at hk; exact a4 k hk
        · obtain ⟨k0, hk0, hk1⟩ := in_rev hw'
          have := a4 k0 hk0; omega

theorem pop1_N {e i : Int} {r : List Int} : (pop1 x e r τ).N i = if i = e then MAXI else τ.N i := rfl
theorem pop1_F {e i : Int} {r : List Int} : (pop1 x e r τ).F i = if i = e then τ.F x else τ.F i := rfl
theorem popTo_at {stk0 : List Int} : ∀ (pre : List Int) (τ : St), x ∉ pre → (popTo x (pre ++ x :: stk0) τ).stk = stk0 ∧
    ∀ i, ((i ∈ pre ∨ i = x) → (popTo x (pre ++ x :: stk0) τ).N i = MAXI ∧ (popTo x (pre ++ x :: stk0) τ).F i = τ.F x) ∧ (¬ (i ∈ pre ∨ i = x) → (popTo x (pre ++ x :: stk0) τ).N i = τ.N i ∧ (popTo x (pre ++ x :: stk0) τ).F i = τ.F i) := by
  intro pre
  induction pre with
  | nil =>
    intro τ _
    rw [List.nil_append]; unfold popTo; rw [if_pos rfl]
    refine ⟨rfl, fun i => ⟨fun h => ?_, fun h => ?_⟩⟩
    · have : i = x := by simpa using h
      subst this; rw [pop1_N, pop1_F, if_pos rfl, if_pos rfl]; exact ⟨rfl, rfl⟩
    · have : i ≠ x := fun e => h (.inr e)
      rw [pop1_N, pop1_F, if_neg this, if_neg this]; exact ⟨rfl, rfl⟩
  | cons e pre ih =>
    intro τ hn
    have hex : e ≠ x := fun h => hn (h ▸ .head _)
    rw [List.cons_append]; unfold popTo; rw [if_neg hex]
    obtain ⟨a1, a2⟩ := ih (pop1 x e (pre ++ x :: stk0) τ) fun h => hn (.tail _ h)
    refine ⟨a1, fun i => ⟨fun h => ?_, fun h => ?_⟩⟩
    · by_cases hi : i ∈ pre ∨ i = x
      · obtain ⟨b1, b2⟩ := (a2 i).1 hi
        refine ⟨b1, b2.trans ?_⟩
        rw [pop1_F, if_neg (Ne.symm hex)]
      · obtain ⟨b1, b2⟩ := (a2 i).2 hi
        have hie : i = e := by
          rcases h with h | h
          · rcases List.mem_cons.mp h with h | h
            · exact h
            · exact absurd (.inl h) hi
          · exact absurd (.inr h) hi
        rw [b1, b2, pop1_N, pop1_F, if_pos hie, if_pos hie]; exact ⟨rfl, rfl⟩
    · have hi : ¬ (i ∈ pre ∨ i = x) := fun h' => h (h'.elim (fun q => .inl (.tail _ q)) .inr)
      have hie : i ≠ e := fun q => h (.inl (q ▸ .head _))
      obtain ⟨b1, b2⟩ := (a2 i).2 hi
      rw [b1, b2, pop1_N, pop1_F, if_neg hie, if_neg hie]; exact ⟨rfl, rfl⟩

/-- x is the root of its component -/
theorem pop_VP (hn : n ≤ 9) (g0 : GG n U T M σ) (l : LI n U T M σ x (T x) pre τ (τ.N x) (has τ x)) (hx0 : σ.N x = 0) (hr : τ.N x = σ.stk.length + 1) : VP n U T M σ x (popTo x τ.stk τ) := by
  have hx : x ∈ τ.stk := by rw [l.stk]; simp
  have hnd := l.g.good.nd
  rw [l.stk, List.nodup_append] at hnd
  have hxn : x ∉ pre := fun h => hnd.2.2 x h x (.head _) rfl
  have hdis : ∀ w ∈ σ.stk, ¬ (w ∈ pre ∨ w = x) := fun w hw h => by
    rcases h with h | h
    · exact hnd.2.2 w h w (.tail _ hw) rfl
    · exact (List.nodup_cons.mp hnd.2.1).1 (h ▸ hw)
  obtain ⟨gg, p1, -, -⟩ := popTo_ok pre τ l.stk l.g.good hxn
  obtain ⟨-, p2⟩ := popTo_at (stk0 := σ.stk) pre τ hxn
  rw [← l.stk] at p2
  generalize popTo x τ.stk τ = τ' at gg p1 p2
  -- where the stack's places lie
  have hat : ∀ (k : Nat) u, σ.stk.length ≤ k → τ.stk.reverse[k]? = some u → u ∈ pre ∨ u = x := fun k u hk hu => by
    rw [l.stk, List.reverse_append, List.reverse_cons, List.append_assoc, List.getElem?_append_right (by simpa using hk)] at hu
    have := List.mem_of_getElem? hu
    simp only [List.cons_append, List.nil_append, List.mem_cons, List.mem_reverse] at this
    exact this.symm
  have noback : ∀ y ∈ σ.stk, ¬ τ.N x ≤ τ.N y := fun y hy h => by
    obtain ⟨k, hk, hk2⟩ := in_rev hy
    have hk3 : τ.stk.reverse[k]? = some y := by
      rw [l.stk, show pre ++ x :: σ.stk = (pre ++ [x]) ++ σ.stk by simp, rev_app hk2]; exact hk
    have := (l.g.st k y hk3).1.2.1
    omega
  have edges : ∀ w, (w ∈ pre ∨ w = x) → ∀ y ∈ T w, (τ.N y = MAXI ∧ ∀ c, has τ y c → has τ x c) ∨ (y ∈ pre ∨ y = x) := fun w hw y hy => by
    have e : Edge τ (τ.N x) (has τ x) x σ.stk pre y := by
      rcases hw with hw | rfl
      · exact (l.low w hw).2.2.2.2 y hy
      · exact l.ed y hy
    rcases e with h | h | h | ⟨h1, h2⟩
    · exact .inl h
    · exact .inr (.inl h)
    · exact .inr (.inr h)
    · exact absurd h2 (noback y h1)
  have inside : ∀ w, (w ∈ pre ∨ w = x) → w ∈ τ.stk := fun w hw => by
    rw [l.stk]
    rcases hw with hw | rfl
    · exact List.mem_append_left _ hw
    · simp
  have full : ∀ j, Reach T x j → (j ∈ pre ∨ j = x) ∨ (τ.N j = MAXI ∧ ∀ c, Val T M j c → has τ x c) := fun j hj => by
    induction hj with
    | refl => exact .inl (.inr rfl)
    | step _ hz ih =>
      rename_i j z _
      rcases ih with ih | ⟨i1, i2⟩
      · rcases edges j ih z hz with ⟨h1, h2⟩ | h
        · exact .inr ⟨h1, fun c hc => h2 c (((l.g.dn z h1).1 c).mpr hc)⟩
        · exact .inl h
      · exact .inr ⟨(l.g.dn j i1).2 z hz, fun c hc => i2 c (Val.of (Reach.refl.step hz) hc)⟩
  have hval : ∀ c, has τ x c ↔ Val T M x c := fun c => by
    constructor
    · obtain ⟨k, hk, _⟩ := in_rev hx
      exact (l.g.st k x hk).2.2 c
    · rintro ⟨j, hj, hc⟩
      rcases full j hj with h | ⟨_, h⟩
      · obtain ⟨k, hk, _⟩ := in_rev (inside j h)
        have hcj := (l.g.st k j hk).2.1 c hc
        rcases h with h | rfl
        · exact (l.low j h).2.1 c hcj
        · exact hcj
      · exact h c ⟨j, .refl, hc⟩
  have back : ∀ (k : Nat) w, τ.stk.reverse[k]? = some w → (w ∈ pre ∨ w = x) → Reach T w x := by
    intro k
    induction k using Nat.strongRecOn with
    | _ k ih =>
      intro w hk hw
      rcases hw with hw | rfl
      · obtain ⟨a1, _, _, a4, _⟩ := l.low w hw
        obtain ⟨⟨s1, s2, u, s3, s4⟩, _, _⟩ := l.g.st k w hk
        have hlt := a4 k hk
        exact s4.trans (ih ((τ.N w).toNat - 1) (by omega) u s3 (hat _ u (by omega) s3))
      · exact .refl
  have same : ∀ e, (e ∈ pre ∨ e = x) → ∀ c, Val T M x c ↔ Val T M e c := fun e he c => by
    obtain ⟨k, hk, _⟩ := in_rev (inside e he)
    refine ⟨Val.of (back k e hk he), Val.of ?_⟩
    rcases he with he | rfl
    · exact (l.low e he).2.2.1
    · exact .refl
  refine ⟨⟨gg, fun i h1 h2 => ?_, fun i h => ?_, fun k w hk => ?_⟩, fun i hi => ?_, .inl ⟨p1, ((p2 x).1 (.inr rfl)).1⟩⟩
  · by_cases hi : i ∈ pre ∨ i = x
    · exact absurd ((p2 i).1 hi).1 h2
    · rw [((p2 i).2 hi).1] at h1 h2
      have := l.g.on i h1 h2
      rw [l.stk] at this
      rw [p1]
      rcases List.mem_append.mp this with h | h
      · exact absurd (.inl h) hi
      · rcases List.mem_cons.mp h with h | h
        · exact absurd (.inr h) hi
        · exact h
  · have succ : ∀ y, (τ.N y = MAXI ∨ (y ∈ pre ∨ y = x)) → τ'.N y = MAXI := fun y hy => by
      by_cases hi : y ∈ pre ∨ y = x
      · exact ((p2 y).1 hi).1
      · rw [((p2 y).2 hi).1]; exact hy.resolve_right hi
    by_cases hi : i ∈ pre ∨ i = x
    · refine ⟨fun c => ?_, fun y hy => succ y ?_⟩
      · have e : has τ' i c ↔ has τ x c := by unfold has; rw [((p2 i).1 hi).2]
        rw [e, hval, same i hi]
      · rcases edges i hi y hy with ⟨h1, _⟩ | h
        · exact .inl h1
        · exact .inr h
    · rw [((p2 i).2 hi).1] at h
      obtain ⟨d1, d2⟩ := l.g.dn i h
      exact ⟨fun c => (has_eq ((p2 i).2 hi).2).trans (d1 c), fun y hy => succ y (.inl (d2 y hy))⟩
  · rw [p1] at hk
    obtain ⟨hw, hk2⟩ := of_rev hk
    have hi := hdis w hw
    have up : ∀ {j : Nat}, j < σ.stk.length → τ.stk.reverse[j]? = σ.stk.reverse[j]? := fun hj => by
      rw [l.stk, show pre ++ x :: σ.stk = (pre ++ [x]) ++ σ.stk by simp, rev_app hj]
    obtain ⟨⟨s1, s2, u, s3, s4⟩, s5, s6⟩ := l.g.st k w (by rw [up hk2]; exact hk)
    obtain ⟨b1, b2⟩ := (p2 w).2 hi
    rw [b1, p1]
    refine ⟨⟨s1, s2, u, ?_, s4⟩, fun c hc => (has_eq b2).mpr (s5 c hc), fun c hc => s6 c ((has_eq b2).mp hc)⟩
    rw [← up (by omega)]; exact s3
  · have hi' : ¬ (i ∈ pre ∨ i = x) := fun h => by
      rcases h with h | h
      · rcases g0.cases hi with h1 | h1
        · exact l.g.ndn hn (inside i (.inl h)) ((l.fr i hi).1.trans h1)
        · exact hdis i h1 (.inl h)
      · exact hi (h ▸ hx0)
    obtain ⟨e1, e2⟩ := l.fr i hi
    obtain ⟨e3, e4⟩ := (p2 i).2 hi'
    exact ⟨e3.trans e1, e4.trans e2⟩

theorem enter_LI (hn : n ≤ 9) (G : Graph n U T M) (g : GG n U T M σ) (hx : 0 ≤ x ∧ x < n) (h0 : σ.N x = 0) : LI n U T M σ x [] [] (enter M x σ) ((enter M x σ).N x) (has (enter M x σ) x) := by
  have hN : (enter M x σ).N x = σ.stk.length + 1 := upd_same
  have hNe : ∀ {i}, i ≠ x → (enter M x σ).N i = σ.N i := fun h => upd_ne h
  have hFe : ∀ {i}, i ≠ x → (enter M x σ).F i = σ.F i := fun h => upd_ne h
  have hF : ∀ c, has (enter M x σ) x c ↔ c ∈ M x := fun c => by
    show c ∈ (upd σ.F x (some (M x)) x).getD [] ↔ _
    rw [upd_same]; exact Iff.rfl
  have hstk : (enter M x σ).stk = [x] ++ σ.stk := rfl
  have hl := stk_len g.good
  have hsx : ∀ w ∈ σ.stk, w ≠ x := fun w hw e => g.good.sn w hw (e ▸ h0)
  refine ⟨⟨enter_Good G g.good hx h0, fun i h1 h2 => ?_, fun i h => ?_, fun k w hk => ?_⟩, rfl, fun i hi => ?_, fun w hw => (by cases hw), fun y hy => (by cases hy)⟩
  · by_cases e : i = x
    · rw [e]; exact .head _
    · rw [hNe e] at h1 h2; exact .tail _ (g.on i h1 h2)
  · have e : i ≠ x := fun e => by rw [e, hN] at h; unfold MAXI at h; omega
    rw [hNe e] at h
    obtain ⟨d1, d2⟩ := g.dn i h
    refine ⟨fun c => (has_eq (hFe e)).trans (d1 c), fun y hy => ?_⟩
    have hy' := d2 y hy
    have hyx : y ≠ x := fun e => by rw [e, h0] at hy'; exact absurd hy' (by decide)
    rw [hNe hyx]; exact hy'
  · by_cases hlt : k < σ.stk.length
    · rw [hstk, rev_app hlt] at hk
      obtain ⟨⟨s1, s2, u, s3, s4⟩, s5, s6⟩ := g.st k w hk
      have e := hsx w (of_rev hk).1
      rw [hNe e]
      exact ⟨⟨s1, s2, u, by rw [hstk, rev_app (by omega)]; exact s3, s4⟩, fun c hc => (has_eq (hFe e)).mpr (s5 c hc), fun c hc => s6 c ((has_eq (hFe e)).mp hc)⟩
    · have hw : w = x ∧ k = σ.stk.length := by
        have h2 := (of_rev hk).2
        rw [hstk] at h2
        simp at h2
        have hk2 : k = σ.stk.length := by omega
        rw [hstk, List.reverse_append, List.getElem?_append_right (by simp; omega)] at hk
        subst hk2
        simp at hk
        exact ⟨hk.symm, rfl⟩
      obtain ⟨rfl, rfl⟩ := hw
      rw [hN]
      refine ⟨⟨by omega, by omega, w, ?_, .refl⟩, fun c hc => (hF c).mpr hc, fun c hc => ⟨w, .refl, (hF c).mp hc⟩⟩
      rw [hstk, List.reverse_append, List.getElem?_append_right (by simp)]
      have e : ((σ.stk.length : Int) + 1).toNat - 1 - σ.stk.reverse.length = 0 := by simp
      rw [e]; rfl
  · have e : i ≠ x := fun e => hi (e ▸ h0)
    exact ⟨hNe e, hFe e⟩

theorem visit_VP (hn : n ≤ 9) (G : Graph n U T M) : ∀ f (x : Int) (σ : St), GG n U T M σ → 0 ≤ x ∧ x < n → σ.N x = 0 → un n σ ≤ f → VP n U T M σ x (visit T M f x σ) := by
  intro f
  induction f with
  | zero => intro x σ _ hx h0 hu; exact absurd (un_pos hx h0) (by omega)
  | succ f ih =>
    intro x σ g hx h0 hu
    have step : ∀ τ y ys pre, y ∈ T x → LS n U x σ f τ → LI n U T M σ x ys pre τ (τ.N x) (has τ x) →
        ∃ pre', LI n U T M σ x (ys ++ [y]) pre' (edge (visit T M f) x τ y) ((edge (visit T M f) x τ y).N x) (has (edge (visit T M f) x τ y) x) := by
      intro τ y ys pre hy ls l
      have hyr := G.t x hx.1 hx.2 y hy
      unfold edge
      by_cases h : τ.N y = 0
      · rw [if_pos h]
        have v := ih y τ l.g hyr h ls.un
        have hne := (visit_LS G ls hyr h).2
        rcases v.alt with ⟨a1, a2⟩ | ⟨pre2, l2, hlow⟩
        · exact ⟨pre, relax_LI hn (keep_LI hn l v a1) h0 hne hy mini_le.1 fun c hc => .inl hc⟩
        · exact ⟨_, relax_LI hn (grow_LI hn l hy h v l2 hlow) h0 hne hy (Int.le_refl _) fun c hc => hc⟩
      · rw [if_neg h]
        exact ⟨pre, relax_LI hn l h0 h hy mini_le.1 fun c hc => .inl hc⟩
    have fold : ∀ (zs ys : List Int) τ pre, (∀ y ∈ zs, y ∈ T x) → LS n U x σ f τ → LI n U T M σ x ys pre τ (τ.N x) (has τ x) →
        ∃ pre', LI n U T M σ x (ys ++ zs) pre' (zs.foldl (edge (visit T M f) x) τ) ((zs.foldl (edge (visit T M f) x) τ).N x) (has (zs.foldl (edge (visit T M f) x) τ) x) := by
      intro zs
      induction zs with
      | nil => intro ys τ pre _ _ l; rw [List.append_nil]; exact ⟨pre, l⟩
      | cons y r ihr =>
        intro ys τ pre hy ls l
        obtain ⟨pre', l'⟩ := step τ y ys pre (hy y (.head _)) ls l
        obtain ⟨pre'', l''⟩ := ihr (ys ++ [y]) _ pre' (fun z hz => hy z (.tail _ hz)) (edge_LS G ls (G.t x hx.1 hx.2 y (hy y (.head _)))) l'
        rw [List.append_assoc] at l''
        exact ⟨pre'', l''⟩
    obtain ⟨pre, l⟩ := fold (T x) [] (enter M x σ) [] (fun y hy => hy) (enter_LS G g.good hx h0 hu) (enter_LI hn G g hx h0)
    rw [List.nil_append] at l
    have ev : visit T M (f + 1) x σ = if ((T x).foldl (edge (visit T M f) x) (enter M x σ)).N x = σ.stk.length + 1 then
        popTo x ((T x).foldl (edge (visit T M f) x) (enter M x σ)).stk ((T x).foldl (edge (visit T M f) x) (enter M x σ)) else (T x).foldl (edge (visit T M f) x) (enter M x σ) := rfl
    rw [ev]
    revert l
    generalize (T x).foldl (edge (visit T M f) x) (enter M x σ) = σ2
    intro l
    split
    · rename_i hr
      exact pop_VP hn g l h0 hr
    · rename_i hr
      refine ⟨l.g, l.fr, .inr ⟨pre, l, ?_⟩⟩
      have hk : σ2.stk.reverse[σ.stk.length]? = some x := by
        rw [l.stk, List.reverse_append, List.reverse_cons, List.append_assoc, List.getElem?_append_right (by simp)]
        simp
      have := (l.g.st _ x hk).1.2.1
      omega

theorem run_ok {pts : List Int} (hn : n ≤ 9) (G : Graph n U T M) (hp : ∀ x ∈ pts, 0 ≤ x ∧ x < n) (hpa : ∀ x, 0 ≤ x → x < n → x ∈ pts) :
    ∀ i, 0 ≤ i → i < n → ∃ l, (run T M n.toNat pts).F i = some l ∧ l.Nodup ∧ ∀ c, c ∈ l ↔ ∃ j, Reach T i j ∧ c ∈ M j := by
  have key : ∀ (zs : List Int) (σ : St), (∀ x ∈ zs, 0 ≤ x ∧ x < n) → GG n U T M σ → σ.stk = [] →
      GG n U T M (zs.foldl (top T M n.toNat) σ) ∧ (zs.foldl (top T M n.toNat) σ).stk = [] ∧ (∀ i, σ.N i ≠ 0 → (zs.foldl (top T M n.toNat) σ).N i ≠ 0) ∧ ∀ x ∈ zs, (zs.foldl (top T M n.toNat) σ).N x ≠ 0 := by
    intro zs
    induction zs with
    | nil => intro σ _ g hs; exact ⟨g, hs, fun i h => h, fun x hx => (by cases hx)⟩
    | cons x r ih =>
      intro σ hz g hs
      have hstep : GG n U T M (top T M n.toNat σ x) ∧ (top T M n.toNat σ x).stk = [] ∧ (∀ i, σ.N i ≠ 0 → (top T M n.toNat σ x).N i ≠ 0) ∧ (top T M n.toNat σ x).N x ≠ 0 := by
        unfold top
        by_cases h : σ.N x = 0
        · rw [if_pos h]
          have v := visit_VP hn G n.toNat x σ g (hz x (.head _)) h un_le
          have hfr : ∀ i, σ.N i ≠ 0 → (visit T M n.toNat x σ).N i ≠ 0 := fun i hi => by rw [(v.fr i hi).1]; exact hi
          rcases v.alt with ⟨a1, a2⟩ | ⟨pre, l, hlow⟩
          · exact ⟨v.g, a1.trans hs, hfr, by rw [a2]; decide⟩
          · have hx : x ∈ (visit T M n.toNat x σ).stk := by rw [l.stk]; simp
            have := (l.g.small hn hx).1
            rw [hs] at hlow
            simp at hlow
            omega
        · rw [if_neg h]; exact ⟨g, hs, fun i h => h, h⟩
      obtain ⟨a1, a2, a3, a4⟩ := hstep
      obtain ⟨b1, b2, b3, b4⟩ := ih (top T M n.toNat σ x) (fun y hy => hz y (.tail _ hy)) a1 a2
      refine ⟨b1, b2, fun i hi => b3 i (a3 i hi), fun y hy => ?_⟩
      rcases List.mem_cons.mp hy with rfl | hy
      · exact b3 y a4
      · exact b4 y hy
  have g0 : GG n U T M start := ⟨start_Good, fun i h => absurd rfl h, fun i h => absurd (show (0 : Int) = MAXI from h) (by decide), fun k w hk => by simp [start] at hk⟩
  obtain ⟨a1, a2, _, a4⟩ := key pts start hp g0 rfl
  intro i h0 h1
  have hi := a4 i (hpa i h0 h1)
  have hd : (run T M n.toNat pts).N i = MAXI := by
    rcases a1.cases hi with h | h
    · exact h
    · rw [a2] at h; cases h
  have hs := (a1.good.nf i).mp hi
  obtain ⟨l, hl⟩ := Option.isSome_iff_exists.mp hs
  refine ⟨l, hl, (a1.good.fl i l hl).1, fun c => ?_⟩
  have := (a1.dn i hd).1 c
  unfold has at this
  have hl' : (List.foldl (top T M n.toNat) start pts).F i = some l := hl
  rw [hl'] at this
  exact this
end
end
end Mine

namespace Mine
section
open PySem PySem.W PySem.Calls PyProof.Rows

local macro_rules | `(tactic| walk_at "lk") => `(tactic| first | assumption | exact lk_eq | (refine lk_ne (by decide) ?_; walk_at "lk"))
section
variable {M : Model} {A : Around} {E : Value → Shared → Prop} {s : Shared} {h₀ : Heap} {L a : Addr} {cn : Str} {cs : Scope} {ccd : Value} {cl : List (Str × Addr)}
  {x : Str} {pos : Pos} {v : Value} {Q : Value → Shared → Prop} {news S : List (Addr × Obj)} {c : Addr} {o : Obj}
theorem nameX_CS (N : News h₀ L s.heap news) (hS : ∀ q ∈ S, q ∈ news) (hc : cl.lookup x = some c) (hm : (c, o) ∈ S) (hd : o.data = .cell (some v)) (h : Q v s)
    (hk : cs.kind = .function := by rfl) (hx : (envX cn cs L a ccd cl).kindOf x = some .cell := by rfl) (hb : (x == ("__debug__" : Str)) = false := by decide) :
    wpAny M A (eval (.Name x pos) (envX cn cs L a ccd cl)) Q E s := nameX_C N hc (hS _ hm) hd h hk hx hb
end
section
variable {M : Model} {A : Around} {E : Value → Shared → Prop} {s : Shared} {h₀ : Heap} {L C c : Addr} {news S : List (Addr × Obj)} {scope : Scope} {cl : List (Str × Addr)} {env : Env} {x : Str} {pos : Pos} {v : Value} {o : Obj} {Q : Value → Shared → Prop}
theorem lcf_cellS (N : News h₀ L s.heap news) (hS : ∀ q ∈ S, q ∈ news) (hc : cl.lookup x = some c) (hm : (c, o) ∈ S) (hd : o.data = .cell (some v)) (h : Q v s)
    (hk : (compEnvC scope cl C env).scope.kind = .function) (hx : (compEnvC scope cl C env).kindOf x = some .cell) (hb : (x == ("__debug__" : Str)) = false := by decide) :
    wpAny M A (eval (.Name x pos) (compEnvC scope cl C env)) Q E s := lcf_cell N hc (hS _ hm) hd h hk hx hb
end
local macro_rules | `(tactic| walk_at "eval Name") => `(tactic| (k_here; (with_reducible show wpAny _ _ (eval (Expr.Name _ _) (compEnvC _ _ _ _)) _ _ _); k_dflt (refine' lcf_cellS ?N ?h ?c ?m ?d ?_ ?a ?b; (case a => rfl); (case b => rfl); (case N => k_asm); (case c => rfl); (case h => with_reducible assumption); (case m => with_reducible assumption); (case d => with_reducible assumption); k_whole)))
local macro_rules | `(tactic| walk_at "eval Name") => `(tactic| (k_here; k_dflt (first
  | (refine' nameX_L ?k1 ?k2 ?_ ?ka ?kb ?kc; (case ka => rfl); (case kb => rfl); (case kc => decide); (case k1 => k_asm); (case k2 => walk_at "lk"); k_whole)
  | (refine' nameX_CS ?N ?h ?c ?m ?d ?_ ?a ?b ?kc; (case a => rfl); (case b => rfl); (case kc => decide); (case N => k_asm); (case c => rfl); (case h => with_reducible assumption); (case m => with_reducible assumption); (case d => with_reducible assumption); k_whole))))
local macro_rules | `(tactic| walk_at "w1") => `(tactic| first | walk1 | (dsimp only; walk1))

theorem dummyfill5 : True ∨ (hd.heap_39 = hd.heap_39 ∧ PySem.Challenge.rw_iw0033_01.Holds) := by
  w_top off
  k_fill
  exact .inl trivial

def manyOf : List Int → Int
  | [] => 1
  | a :: _ => 1 + a.fmod 9
def turnOf : List Int → Int
  | [] => 0
  | a :: r => (a.fdiv 9).fmod (manyOf (a :: r))

theorem allLt_at {d : Nat} {l : Led} : AllLt d l → ∀ q ∈ l, @LT.lt Nat _ q.1 d := by
  induction l with
  | nil => intro _ q hq; cases hq
  | cons p r ih =>
    intro h q hq
    cases hq with
    | head => exact h.1
    | tail _ hq => exact ih h.2 q hq
theorem manyOf_pos (l : List Int) : 0 < manyOf l := by
  cases l with
  | nil => decide
  | cons a r => have := Int.fmod_nonneg_of_pos a (b := 9) (by decide); show 0 < 1 + a.fmod 9; omega
theorem manyOf_le (l : List Int) : manyOf l ≤ 9 := by
  cases l with
  | nil => decide
  | cons a r => have := Int.fmod_lt_of_pos a (b := 9) (by decide); show 1 + a.fmod 9 ≤ 9; omega
theorem turnOf_rng (l : List Int) : 0 ≤ turnOf l ∧ turnOf l < manyOf l := by
  cases l with
  | nil => decide
  | cons a r => exact ⟨Int.fmod_nonneg_of_pos _ (manyOf_pos _), Int.fmod_lt_of_pos _ (manyOf_pos _)⟩

theorem Rws.ties {T : Int → List Int} {B : Nat} {n : Int} {aT : Addr} {a : Led} (t : Rws (fun k vs => IntsAre vs (T k)) B n aT a) : Ties n T aT a := by
  obtain ⟨its, ep, h1, h2, h3⟩ := t
  exact ⟨its, ep, h1, h2, fun i i0 i1 => let ⟨r, vs, ep', z1, z2, z3, _⟩ := h3 i i0 i1; ⟨r, vs, ep', z1, z2, z3⟩⟩

theorem r_rowR {prog : Program} {w : World} {A : Around} {E : Value → Shared → Prop} {s : Shared} {h₀ : Heap} {L : Addr} {a b : Led} {n : Int} {P : Int → List Value → Prop} {B : Nat} {aT : Addr} {value slice : Expr} {k : Int} {u : Tok} {Q : Value → Shared → Prop}
    (N : News h₀ L s.heap a) (t : Rws P B n aT b) (hb : ∀ q ∈ b, q ∈ a) (hk : 0 ≤ k ∧ k < n) (hn : n ≤ 9) (h : ∀ r vs ep, (r, listOf vs.toArray ep) ∈ b → P k vs → Q (.ref r) s)
    (hs : subscripted slice false (.ref aT) (.int k u) = operate [.ref aT, .int k u] (getItem (.ref aT) (.int k u))) (hg : ∀ r, letTemporaryGo value (.ref aT) r = pure ()) :
    wpAny (model prog w) A (subscriptTail value slice (.ref aT) (.int k u)) Q E s := by
  obtain ⟨its, ep, h1, h2, h3⟩ := t
  obtain ⟨r, vs, ep', z1, z2, z3, _⟩ := h3 k hk.1 hk.2
  refine kim_list (l := its.toList) N (hb _ h1) rfl rfl hk.1 (by omega) (x := .ref r) ?_ (h r vs ep' z2 z3) hs hg
  simpa using z1

theorem rangeKs_nodup (n : Nat) : (rangeKs 0 n).Nodup := by
  unfold rangeKs
  refine List.Pairwise.map _ ?_ (List.nodup_range (n := n))
  intro a b h e; exact h (by omega)
theorem rangeKs_sorted (n : Nat) : (rangeKs 0 n).Pairwise (· ≤ ·) := by
  unfold rangeKs
  refine List.Pairwise.map _ ?_ (List.pairwise_lt_range (n := n))
  intro a b h; omega
theorem rangeKs_mem {n : Nat} {k : Int} : k ∈ rangeKs 0 n ↔ 0 ≤ k ∧ k < n := by
  constructor
  · intro h; have := mem_rangeKs h; omega
  · intro h
    refine List.mem_map.mpr ⟨k.toNat, List.mem_range.mpr (by omega), by omega⟩
theorem valueAt_mem {kvs : List (Int × Value)} {k : Int} {v : Value} (h : valueAt kvs k = some v) : k ∈ kvs.map (·.1) := by
  unfold valueAt at h
  cases e : kvs.find? (fun kv => kv.1 = k) with
  | none => rw [e] at h; cases h
  | some kv =>
    have h1 := List.mem_of_find?_eq_some e
    have h2 := List.find?_some e
    exact List.mem_map.mpr ⟨kv, h1, by simpa using h2⟩

theorem law_good {ns : List Int} {cl : Str → Option Addr} {mean : ExcName → Option Value} {s₁ s' : Shared} {L : Addr} {m : Loc} (F : Fr s₁.heap L s'.heap m) (hg : s'.gens = #[]) (hos : s'.os = s₁.os) :
    GoodW Challenge.rw_iw0033_01.row.claim cl mean [ofPy (PyData.list (List.map PyData.int ns))] s₁ (.ok (.ret (.bool true))) s' := by
  refine goodW_bool F hg (raisesW_false ?_) ?_ hos
  · wrow_none_raised
  · wrow_post

theorem law_ok : PySem.Challenge.rw_iw0033_01.Holds := Mine.hd (by
  k_go0
  rename_i w s₀ s₁ mg mb G Y fa o pm doc ho hg X V T B TE TW hcd ns hs hlay0 hLa hra hl2 as1 as2 aScr vs as3 hLs raS wellS rS hI hrW hlen htrue hD h₁ tk₁ oTies oMarks oDue oTurn oMany dTies dMarks dDue dTurn dMany CA KX T' BL FF NF l37
  refine wpAny_mono (E := fun _ _ => False) ?_ (fun _ _ q => q) (fun _ _ q => q.elim)
  dsimp only at *
  iterate 12 walk_at "w1"
  rename_i aSc ws hA1 hIx hCx hLx lx hA2 F1 N1
  have hxlen : (ns.take 10).length ≤ 10 := by rw [List.length_take]; omega
  clear hCx hLx hA1
  generalize ns.take 10 = xs at hIx hxlen
  replace dTies : oTies.data = .cell none := dTies
  replace dMarks : oMarks.data = .cell none := dMarks
  replace dDue : oDue.data = .cell none := dDue
  replace dTurn : oTurn.data = .cell none := dTurn
  replace dMany : oMany.data = .cell none := dMany
  clear CA hD raS wellS rS hI hrW hlen htrue hs hLa
  clear G Y ho X V T TE TW hcd hlay0 hra hl2 B
  clear hLs lifted
  -- many = ..
  iterate 1 walk_at "w1"
  refine wpAny_mono (Q := fun v s' => ∃ t tk', v = .int (manyOf xs) t ∧ s' = { s₁ with heap := hA2, toks := tk' }) ?_ ?_ (fun _ _ q => q)
  · iterate 4 walk_at "w1"
    cases xs with
    | nil =>
      rw [if_neg (by simp)]
      iterate 1 walk_at "w1"
      exact ⟨_, _, rfl, rfl⟩
    | cons b r =>
      rw [if_pos (by simp)]
      iterate 6 walk_at "w1"
      refine r_int (by assumption) (.head _) hIx (by decide) (by decide) (x := b) rfl ?_ (by with_unfolding_all rfl) (fun r => by with_unfolding_all rfl)
      intro t9
      iterate 3 walk_at "w1"
      exact ⟨_, _, rfl, rfl⟩
  rintro v s' ⟨t, tk', rfl, rfl⟩
  iterate 2 walk_at "w1"
  clear dMany
  rename_i hA3 oMany' F2 N2 dMany
  -- turn = ..
  iterate 1 walk_at "w1"
  refine wpAny_mono (Q := fun v s' => ∃ t tk', v = .int (turnOf xs) t ∧ s' = { s₁ with heap := hA3, toks := tk' }) ?_ ?_ (fun _ _ q => q)
  · iterate 4 walk_at "w1"
    cases xs with
    | nil =>
      rw [if_neg (by simp)]
      iterate 1 walk_at "w1"
      exact ⟨_, _, rfl, rfl⟩
    | cons b r =>
      rw [if_pos (by simp)]
      have hm0 := manyOf_pos (b :: r)
      iterate 10 walk_at "w1"
      exact ⟨_, _, rfl, rfl⟩
  rintro v s' ⟨t2, tk', rfl, rfl⟩
  have hm0 := manyOf_pos xs
  have hm9 := manyOf_le xs
  have ht0 := turnOf_rng xs
  generalize manyOf xs = n at *
  generalize turnOf xs = tu at *
  iterate 14 walk_at "w1"
  rename_i hA4 oTurn' dTurn' lM hA5 lMx hA6 oMarks' dMarks' lT hA7 lTx hA8 oTies' FA NA dTies'
  clear dTies dMarks dTurn oTies oMarks oTurn oMany
  dsimp only
  obtain ⟨S, hS⟩ : ∃ S : Led, S = [(aSc, W.listOf ws.toArray 0), (s₁.heap.objs.size + 1 + 1 + 1 + 1 + 1, oTies'), (s₁.heap.objs.size + 1 + 1 + 1 + 1, oMarks'), (s₁.heap.objs.size + 1 + 1, oTurn'), (s₁.heap.objs.size + 1, oMany'), (37, tabObj #[])] := ⟨_, rfl⟩
  have sT : (s₁.heap.objs.size + 1 + 1 + 1 + 1 + 1, oTies') ∈ S := by rw [hS]; simp
  have sM : (s₁.heap.objs.size + 1 + 1 + 1 + 1, oMarks') ∈ S := by rw [hS]; simp
  have sTu : (s₁.heap.objs.size + 1 + 1, oTurn') ∈ S := by rw [hS]; simp
  have sN : (s₁.heap.objs.size + 1, oMany') ∈ S := by rw [hS]; simp
  have s37 : (37, tabObj #[]) ∈ S := by rw [hS]; simp
  have sSc : (aSc, W.listOf ws.toArray 0) ∈ S := by rw [hS]; simp
  have hSlt : ∀ q ∈ S, @LT.lt Nat _ q.1 lM := by
    rw [hS]; intro q hq
    simp only [List.mem_cons, List.not_mem_nil, or_false] at hq
    rcases hq with rfl | rfl | rfl | rfl | rfl | rfl <;> dsimp only <;> omega
  have hS3 : ∀ q ∈ S, @Ne Nat q.1 (s₁.heap.objs.size + 1 + 1 + 1) := by
    rw [hS]; intro q hq
    simp only [List.mem_cons, List.not_mem_nil, or_false] at hq
    rcases hq with rfl | rfl | rfl | rfl | rfl | rfl <;> dsimp only <;> omega
  have hMT : @LT.lt Nat _ lM lT := by omega
  have h3M : @LT.lt Nat _ (s₁.heap.objs.size + 1 + 1 + 1) lM := by omega
  have key : ∃ a0 : Led, News (ghostOf s₁.heap [(39, 37)]) s₁.heap.objs.size hA8 a0 ∧ (∀ q ∈ S, q ∈ a0) ∧ (s₁.heap.objs.size + 1 + 1 + 1, oDue) ∈ a0 ∧ (lM, listOf #[] 0) ∈ a0 ∧ (lT, listOf #[] 0) ∈ a0 := by
    refine ⟨_, NA, fun q hq => ?_, by k_mem, by k_mem, by k_mem⟩
    rw [hS] at hq; simp only [List.mem_cons, List.not_mem_nil, or_false] at hq
    rcases hq with rfl | rfl | rfl | rfl | rfl | rfl <;> k_mem
  clear NA
  obtain ⟨a0, NA, hSA, m3, mM, mT⟩ := key
  clear hS lx lMx lTx
  have key : ∃ m0 : Loc, Fr (ghostOf s₁.heap [(39, 37)]) s₁.heap.objs.size hA8 m0 ∧ m0 (Str.ofString "script") = some (Value.ref aSc) := ⟨_, FA, lk_eq⟩
  clear FA
  obtain ⟨m0, FA, hmS⟩ := key
  iterate 1 walk_at "w1"
  refine For_invVF FA rfl rfl ?_
  iterate 7 walk_at "w1"
  rename Fr _ _ _ _ => F9
  rename News _ _ _ _ => N9
  rename IsRange _ _ _ _ _ _ _ _ => R9
  refine for_range (a₀ := a0) (fun i m a => (∀ q ∈ S, q ∈ a) ∧ (s₁.heap.objs.size + 1 + 1 + 1, oDue) ∈ a ∧ m (Str.ofString "script") = some (.ref aSc) ∧
      ∃ (T : Int → List Int) (M : Int → List Str), Rws (fun k vs => IntsAre vs (T k)) lT i lT a ∧ Rws (fun k vs => StrsAre vs (M k)) lT i lM a ∧
        ∀ k : Int, 0 ≤ k → k < i → (∀ y ∈ T k, 0 ≤ y ∧ y < n) ∧ (M k).Nodup ∧ (∀ c ∈ M k, c ∈ theU) ∧ (T k).length ≤ 3) rfl F9 N9 R9 (rng_small n (by omega) hm9).1 (rng_small n (by omega) hm9).2 ?j0 ?mono ?turn ?done
  case j0 => exact ⟨hSA, m3, hmS, fun _ => [], fun _ => [], Rws.nil mT, Rws.nil mM, fun k k0 k1 => by omega⟩
  case mono =>
    rintro i m a b ⟨q1, q2, q3, T, M, q4, q5, q6⟩ hs
    exact ⟨fun q hq => hs _ (q1 q hq), hs _ q2, q3, T, M, q4.sub hs, q5.sub hs, q6⟩
  case turn =>
    rintro i tk7 m₁ a₁ h tk8 I io hi hfresh ⟨hS1, q2, q3, T, M, q4, q5, q6⟩ F₁ N₁ hio hioc
    have hi9 : i < 9 := by omega
    clear F9 N9 R9
    have y1 : (fun z => if z = Str.ofString "k" then some (Value.int (i : Int) tk7) else m₁ z) (Str.ofString "k") = some (.int (i : Int) tk7) := lk_eq
    have y2 : (fun z => if z = Str.ofString "k" then some (Value.int (i : Int) tk7) else m₁ z) (Str.ofString "script") = some (.ref aSc) := lk_ne (by decide) q3
    generalize (fun z => if z = Str.ofString "k" then some (Value.int (i : Int) tk7) else m₁ z) = m₂ at F₁ y1 y2
    iterate 2 walk_at "w1"
    refine wpAny_mono (Q := fun v s' => ∃ (z : Int) (t tk' : Nat), v = .int z t ∧ s' = { s₁ with heap := h, toks := tk' }) ?_ ?_ (fun _ _ q => q)
    · have hwl := hIx.length
      iterate 12 walk_at "w1"
      refine call_len_list (items := ws.toArray) (N₁.isList (hS1 _ sSc)) (by simp; omega) ?_
      iterate 3 walk_at "w1"
      · rename 1 + (i : Int) < _ => hlt
        have hlt' : 1 + i < xs.length := by
          have e : ws.toArray.size = xs.length := by simpa using hwl
          rw [e] at hlt; omega
        iterate 6 walk_at "w1"
        refine r_int N₁ (hS1 _ sSc) hIx (by omega) (by omega) (x := xs[1 + i]) ?_ ?_ (by with_unfolding_all rfl) (fun r => by with_unfolding_all rfl)
        · have e : (1 + (i : Int)).toNat = 1 + i := by omega
          rw [e]; simp
        · intro t5; exact ⟨_, _, _, rfl, rfl⟩
      · iterate 1 walk_at "w1"
        exact ⟨_, _, _, rfl, rfl⟩
    rintro v s' ⟨num, tn, tk', rfl, rfl⟩
    iterate 2 walk_at "w1"
    rename Fr _ _ _ _ => F2
    rename News _ _ _ _ => N2
    obtain ⟨itsM, epM, hM, hMs⟩ := q5.at
    have y3 : (fun z => if z = Str.ofString "number" then some (Value.int num tn) else m₂ z) (Str.ofString "number") = some (.int num tn) := lk_eq
    have y4 : (fun z => if z = Str.ofString "number" then some (Value.int num tn) else m₂ z) (Str.ofString "script") = some (.ref aSc) := lk_ne (by decide) y2
    have y5 : (fun z => if z = Str.ofString "number" then some (Value.int num tn) else m₂ z) (Str.ofString "k") = some (.int i tk7) := lk_ne (by decide) y1
    generalize (fun z => if z = Str.ofString "number" then some (Value.int num tn) else m₂ z) = m₃ at F2 y3 y4 y5
    clear y1 y2 F₁ N₁
    iterate 14 walk_at "w1"
    have hfit : fitsSsize (i : Int) = true := by simp [fitsSsize]; omega
    refine item_str_or (x := letters) rfl hfit (fun hc => by rw [letters_len] at hc; omega) (fun _ _ => ?_)
    iterate 8 walk_at "w1"
    refine item_str_or (x := letters) rfl hfit (fun hc => by rw [letters_len] at hc; omega) (fun _ _ => ?_)
    iterate 14 walk_at "w1"
    rename_i l1 hl1 lt1 _ _ l2 hl2' lt2 l3 hl3 lt3 l4 hl4 F4 N4 lt4
    have key : ∃ a2 : Led, News (ghostOf s₁.heap [(39, 37)]) s₁.heap.objs.size hl4 a2 ∧ (∀ q ∈ a₁, q ∈ a2) ∧ (l4, listOf [.ref l1, .ref l2, .ref l3].toArray 0) ∈ a2 ∧
        (∃ t1 : Tok, (l1, listOf [.str (Txt.item letters i) t1].toArray 0) ∈ a2) ∧ (∃ t1 t2 : Tok, (l2, listOf [.str (Txt.item letters i) t1, .str (Str.ofString "z") t2].toArray 0) ∈ a2) ∧ (l3, listOf ([] : List Value).toArray 0) ∈ a2 ∧
        (∀ q ∈ a₁, @LT.lt Nat _ q.1 l1 ∧ @LT.lt Nat _ q.1 l2 ∧ @LT.lt Nat _ q.1 l3) := by
      refine ⟨_, N4, fun q hq => by simp [hq], .head _, ⟨_, .tail _ (.tail _ (.tail _ (.head _)))⟩, ⟨_, _, .tail _ (.tail _ (.head _))⟩, .tail _ (.head _), fun q hq => ⟨lt1 q hq, allLt_at lt2.2 q hq, allLt_at lt3.2.2 q hq⟩⟩
    clear N4 lt1 lt2 lt3 lt4
    obtain ⟨a2, N4, hs2, m4, ⟨t1, m1⟩, ⟨t2', t3', m2⟩, m3', hlt2⟩ := key
    have hlet := letter_ok i (by omega) (by omega)
    refine wpAny_mono (Q := fun v s' => ∃ (tk' : Nat) (r : Addr) (vsr : List Value) (Mi : List Str), v = .ref r ∧ s' = { s₁ with heap := hl4, toks := tk' } ∧ (r, listOf vsr.toArray 0) ∈ a2 ∧ StrsAre vsr Mi ∧ Mi.Nodup ∧ (∀ c ∈ Mi, c ∈ theU) ∧ ∀ q ∈ a₁, @LT.lt Nat _ q.1 r) ?_ ?_ (fun _ _ q => q)
    · have h3 : num.fmod 3 = 0 ∨ num.fmod 3 = 1 ∨ num.fmod 3 = 2 := by
        have e1 := Int.fmod_nonneg_of_pos num (b := 3) (by decide)
        have e2 := Int.fmod_lt_of_pos num (b := 3) (by decide)
        omega
      rcases h3 with e | e | e <;> rw [e]
      · exact r_itemT N4 m4 (by decide) (by decide) (x := .ref l1) rfl ⟨_, l1, _, [Txt.item letters i], rfl, rfl, m1, .cons _ _ .nil, by simp, by simpa using hlet.1, fun q hq => (hlt2 q hq).1⟩ (by with_unfolding_all rfl)
      · exact r_itemT N4 m4 (by decide) (by decide) (x := .ref l2) rfl ⟨_, l2, _, [Txt.item letters i, Str.ofString "z"], rfl, rfl, m2, .cons _ _ (.cons _ _ .nil), by simpa using hlet.2, by simpa using ⟨hlet.1, z_ok⟩, fun q hq => (hlt2 q hq).2.1⟩ (by with_unfolding_all rfl)
      · exact r_itemT N4 m4 (by decide) (by decide) (x := .ref l3) rfl ⟨_, l3, _, [], rfl, rfl, m3', .nil, by simp, by simp, fun q hq => (hlt2 q hq).2.2⟩ (by with_unfolding_all rfl)
    rintro v s' ⟨tk', r, vsr, Mi, rfl, rfl, mr, hMi, hMn, hMu, hlr⟩
    iterate 1 walk_at "w1"
    refine r_append F4 N4 (hs2 _ hM) (by rw [sizeLine_eq]; omega) fun h5 F5 N5 => ?_
    have hlT : ∃ itsT epT, (lT, listOf itsT epT) ∈ a₁ ∧ itsT.size = (i : Int).toNat := q4.at
    obtain ⟨itsT, epT, hT1, hTs⟩ := hlT
    have key : ∃ a3 : Led, News (ghostOf s₁.heap [(39, 37)]) s₁.heap.objs.size h5 a3 ∧ (∀ q ∈ S, q ∈ a3) ∧ (s₁.heap.objs.size + 1 + 1 + 1, oDue) ∈ a3 ∧ (I, io) ∈ a3 ∧ (lT, listOf itsT epT) ∈ a3 ∧
        Rws (fun k vs => IntsAre vs (T k)) lT i lT a3 ∧ Rws (fun k vs => StrsAre vs (upd M i Mi k)) lT ((i : Int) + 1) lM a3 := by
      refine ⟨_, N5, fun q hq => mem_put_ne (hs2 _ (hS1 q hq)) (Nat.ne_of_lt (hSlt q hq)), mem_put_ne (hs2 _ q2) (Nat.ne_of_lt h3M), mem_put_ne (hs2 _ hio) (Nat.ne_of_gt (hfresh _ mM)), mem_put_ne (hs2 _ hT1) (Nat.ne_of_gt hMT),
        (q4.sub hs2).put (Nat.le_of_lt hMT) (Nat.ne_of_gt hMT), (q5.sub hs2).push N4 (by omega) (hs2 _ hM) mr (Nat.le_of_lt hMT) (hlr _ hT1) ?_ ?_⟩
      · intro k vs k0 k1 hk; show StrsAre vs (upd M i Mi k); rw [upd_ne (by omega)]; exact hk
      · show StrsAre _ (upd M i Mi i); rw [upd_same]; exact hMi
    clear N5 N4 hlr hlt2 mr
    obtain ⟨a3, N5, hS5, m5, hio5, hT5, q45, q55⟩ := key
    iterate 14 walk_at "w1"
    rename_i hq1 lR hq2 ltR h6 F6 N6
    have key : ∃ (a4 : Led) (m4 : Loc), Fr (ghostOf s₁.heap [(39, 37)]) s₁.heap.objs.size h6 m4 ∧ News (ghostOf s₁.heap [(39, 37)]) s₁.heap.objs.size h6 a4 ∧ (∀ q ∈ a3, q ∈ a4) ∧ (lR, listOf ([] : List Value).toArray 0) ∈ a4 ∧
        m4 (Str.ofString "k") = some (.int i tk7) ∧ m4 (Str.ofString "script") = some (.ref aSc) ∧ m4 (Str.ofString "row") = some (.ref lR) ∧ ∃ z t, m4 (Str.ofString "rest") = some (.int z t) := by
      refine ⟨_, _, F6, N6, fun q hq => .tail _ hq, .head _, ?_, ?_, ?_, ?_⟩
      · walk_at "lk"
      · walk_at "lk"
      · walk_at "lk"
      · show ∃ z t, (if _ = _ then _ else if _ = _ then _ else _) = _
        rw [if_neg (by decide), if_pos rfl]; exact ⟨_, _, rfl⟩
    clear F6 N6
    obtain ⟨a4, m4, F6, N6, hs4, mR, z1, z2, z3, z4⟩ := key
    dsimp only
    iterate 1 walk_at "w1"
    refine For_invVF F6 rfl rfl ?_
    iterate 7 walk_at "w1"
    rename Fr _ _ _ _ => F7
    rename News _ _ _ _ => N7
    rename IsRange _ _ _ _ _ _ _ _ => R7
    refine for_range (a₀ := a4) (n := 3) (fun j m a => (∀ q ∈ a3, q ∈ a) ∧ (∃ vs ep row, (lR, listOf vs.toArray ep) ∈ a ∧ IntsAre vs row ∧ row.length ≤ j ∧ ∀ y ∈ row, 0 ≤ y ∧ y < n) ∧
      m (Str.ofString "k") = some (.int i tk7) ∧ m (Str.ofString "script") = some (.ref aSc) ∧ m (Str.ofString "row") = some (.ref lR) ∧ ∃ z t, m (Str.ofString "rest") = some (.int z t)) rfl F7 N7 R7 (by decide) (by decide) ?j0 ?mono ?turn2 ?done2
    case j0 => exact ⟨hs4, ⟨[], 0, [], mR, .nil, by simp, by simp⟩, z1, z2, z3, z4⟩
    case mono =>
      rintro j m a b ⟨p1, ⟨vs, ep, row, p2, p3, p4, p5⟩, p6⟩ hs
      exact ⟨fun q hq => hs _ (p1 q hq), ⟨vs, ep, row, hs _ p2, p3, p4, p5⟩, p6⟩
    case turn2 =>
      rintro j tj m₁ a₅ h tk8 J jo hj hfr5 ⟨p1, ⟨vs, ep, row, p2, p3, p4, p5⟩, p6, p7, p8, z, tz, p9⟩ F₁ N₁ hjo hjoc
      clear F7 N7 R7 z1 z2 z3 z4
      have y1 : (fun z => if z = Str.ofString "j" then some (Value.int (j : Int) tj) else m₁ z) (Str.ofString "k") = some (.int (i : Int) tk7) := lk_ne (by decide) p6
      have y2 : (fun z => if z = Str.ofString "j" then some (Value.int (j : Int) tj) else m₁ z) (Str.ofString "script") = some (.ref aSc) := lk_ne (by decide) p7
      have y6 : (fun z => if z = Str.ofString "j" then some (Value.int (j : Int) tj) else m₁ z) (Str.ofString "row") = some (.ref lR) := lk_ne (by decide) p8
      have y7 : (fun z => if z = Str.ofString "j" then some (Value.int (j : Int) tj) else m₁ z) (Str.ofString "rest") = some (.int z tz) := lk_ne (by decide) p9
      generalize (fun z => if z = Str.ofString "j" then some (Value.int (j : Int) tj) else m₁ z) = m₅ at F₁ y1 y2 y6 y7
      have hS6 : ∀ q ∈ S, q ∈ a₅ := fun q hq => p1 q (hS5 q hq)
      clear hS1
      have hn1 : 0 < n + 1 := by omega
      have hJR : J ≠ lR := Nat.ne_of_gt (hfr5 _ mR)
      have hvl := p3.length
      have ht3 : ∀ q ∈ a3, q.1 ≠ lR := fun q hq => Nat.ne_of_lt (ltR q hq)
      iterate 1 walk_at "w1"
      refine wpAny_mono (Q := fun f s' => f = .next ∧ ∃ h' tk' a', s' = { s₁ with heap := h', toks := tk' } ∧ Fr (ghostOf s₁.heap [(39, 37)]) s₁.heap.objs.size h' m₅ ∧ News (ghostOf s₁.heap [(39, 37)]) s₁.heap.objs.size h' a' ∧
        (∀ q ∈ a3, q ∈ a') ∧ (J, jo) ∈ a' ∧ ∃ vs ep row, (lR, listOf vs.toArray ep) ∈ a' ∧ IntsAre vs row ∧ row.length ≤ j + 1 ∧ ∀ y ∈ row, 0 ≤ y ∧ y < n) ?_ ?_ (fun _ _ q => q)
      · iterate 13 walk_at "w1"
        · rename z.fmod (n + 1) < n => hlt
          iterate 16 walk_at "w1"
          refine r_append F₁ N₁ p2 (by rw [sizeLine_eq]; simp; omega) fun h7 F8 N8 => ?_
          iterate 2 walk_at "w1"
          have e2 : ∀ tx, vs.toArray.push (Value.int (z.fmod (n + 1)) tx) = (vs ++ [Value.int (z.fmod (n + 1)) tx]).toArray := by simp
          rw [e2] at N8
          refine ⟨rfl, _, _, _, rfl, F8, N8, fun q hq => mem_put_ne (p1 q hq) (ht3 q hq), mem_put_ne hjo hJR, _, _, row ++ [z.fmod (n + 1)], mem_put_self, p3.append (.cons _ _ .nil), by rw [List.length_append]; simp; omega, ?_⟩
          intro y hy
          rcases List.mem_append.mp hy with h | h
          · exact p5 y h
          · rw [List.mem_singleton.mp h]; exact ⟨Int.fmod_nonneg_of_pos _ hn1, hlt⟩
        · iterate 2 walk_at "w1"
          exact ⟨rfl, _, _, _, rfl, F₁, N₁, p1, hjo, vs, ep, row, p2, p3, by omega, p5⟩
      rintro f s' ⟨rfl, h8, tk', a8, rfl, F8, N8, hs8, hj8, vs8, ep8, row8, r1, r2, r3, r4⟩
      have hS8 : ∀ q ∈ S, q ∈ a8 := fun q hq => hs8 q (hS5 q hq)
      iterate 11 walk_at "w1"
      rename Fr _ _ _ _ => F9
      rename News _ _ _ _ => N9
      refine ⟨_, _, _, _, rfl, F9, N9, hj8, fun q hq => mem_off.mpr ⟨hs8 q hq, Nat.ne_of_lt (hfr5 q (hs4 q hq))⟩, ⟨vs8, ep8, row8, mem_off.mpr ⟨r1, Ne.symm hJR⟩, r2, r3, r4⟩, ?_, ?_, ?_, ?_⟩
      · walk_at "lk"
      · walk_at "lk"
      · walk_at "lk"
      · show ∃ z t, (if _ = _ then _ else _) = _
        rw [if_pos rfl]; exact ⟨_, _, rfl⟩
    case done2 =>
      rintro m₁ a₅ h tk8 ⟨p1, ⟨vs, ep, row, p2, p3, p4, p5⟩, p6, p7, p8, z, tz, p9⟩ F₁ N₁
      clear F7 N7 R7 z1 z2 z3 z4 hS1
      have hS6 : ∀ q ∈ S, q ∈ a₅ := fun q hq => p1 q (hS5 q hq)
      have hT6 := p1 _ hT5
      iterate 9 walk_at "w1"
      refine r_append F₁ N₁ hT6 (by rw [sizeLine_eq]; omega) fun h7 F8 N8 => ?_
      iterate 2 walk_at "w1"
      have hIne : ∀ l its ep, (l, listOf its ep) ∈ put lT (listOf (itsT.push (.ref lR)) (epT + 1)) a₅ → l ≠ I := fun l its ep hl e => by
        have hI2 : (I, io) ∈ put lT (listOf (itsT.push (.ref lR)) (epT + 1)) a₅ := mem_put_ne (p1 _ hio5) (Nat.ne_of_gt (hfresh _ mT))
        subst e
        have := news_fun N8 hl hI2; subst this
        have e : (Value.type "list") = .type "range_iterator" := hioc
        exact absurd e (by decide)
      have hTR : @LT.lt Nat _ lT lR := ltR _ hT5
      refine ⟨_, _, _, _, rfl, F8, N8, mem_put_ne (p1 _ hio5) (Nat.ne_of_gt (hfresh _ mT)), fun q hq => mem_off.mpr ⟨mem_put_ne (hS6 q hq) (Nat.ne_of_lt (Nat.lt_trans (hSlt q hq) hMT)), Nat.ne_of_lt (Nat.lt_trans (hSlt q hq) (hfresh _ mM))⟩,
        mem_off.mpr ⟨mem_put_ne (p1 _ m5) (Nat.ne_of_lt (Nat.lt_trans h3M hMT)), Nat.ne_of_lt (Nat.lt_trans h3M (hfresh _ mM))⟩, p7, upd T i row, upd M i Mi, ?_, ?_, ?_⟩
      · have e := (q45.sub p1).push (P' := fun k vs => IntsAre vs (upd T i row k)) (ep2 := epT + 1) N₁ (by omega) hT6 p2 (Nat.le_refl _) hTR (fun k vs k0 k1 hk => by rw [upd_ne (by omega)]; exact hk) (by rw [upd_same]; exact p3)
        have e1 : ((i + 1 : Nat) : Int) = (i : Int) + 1 := by omega
        rw [e1]
        exact e.keep fun l its ep hl => mem_off.mpr ⟨hl, hIne l its ep hl⟩
      · have e1 : ((i + 1 : Nat) : Int) = (i : Int) + 1 := by omega
        rw [e1]
        exact ((q55.sub p1).put (Nat.le_refl _) (Nat.ne_of_lt hMT)).keep fun l its ep hl => mem_off.mpr ⟨hl, hIne l its ep hl⟩
      · intro k k0 k1
        by_cases e : k = i
        · subst e; rw [upd_same, upd_same]; exact ⟨p5, hMn, hMu, p4⟩
        · rw [upd_ne e, upd_ne e]; exact q6 k k0 (by omega)
  case done =>
    rintro m₁ a₁ h tk8 ⟨hS1, q2, q3, T, M, q4, q5, q6⟩ F₁ N₁
    clear F9 N9 R9 hSA m3 hmS
    have en : ((n.toNat : Nat) : Int) = n := by omega
    rw [en] at q4 q5 q6
    iterate 1 walk_at "w1"
    refine LCg.Assign_ListComp_U (F₀ := F₁) (by rfl) (by with_unfolding_all rfl) (by rfl) (by decide) (by rfl) (by decide) (by rfl) (by rfl) (by rfl) ?_
    iterate 1 walk_at "w1"
    have q4' := q4
    obtain ⟨itsT, epT, hT1, hTs, hTr⟩ := q4
    refine LCg.CompSrc.ledger (by rfl) F₁ N₁ hT1 (by rw [sizeLine_eq]; omega) fun g => ?_
    refine comp_inv (fun i ys news => (∀ q ∈ a₁, q ∈ news) ∧ ∀ k : Nat, k < i → ∃ c vs ep, ys[k]? = some (.ref c) ∧ (c, listOf vs.toArray ep) ∈ news ∧ IntsAre vs (T k) ∧ @LT.lt Nat _ lT c) ?turn ?fin itsT.size 0 [] a₁ (Nat.zero_add _) rfl ⟨fun q hq => hq, fun k hk => by omega⟩
    case turn =>
      rintro i ys news v I oI C oC D m₂ h9 tk9 E' hi hyl hv ⟨hj1, hj2⟩ hC hx F2 N2 off ⟨ne1, ne2, ne3⟩
      obtain ⟨r, vsr, epr, e1, e2, e3, e4⟩ := hTr i (by omega) (by omega)
      have e5 : itsT[i]? = some (.ref r) := by simpa using e1
      have e6 : v = .ref r := by
        have hv' : itsT[i]? = some v := hv
        rw [hv'] at e5; exact Option.some.inj e5
      subst e6
      have hvl := e3.length
      iterate 7 walk_at "w1"
      refine list_copyK F2 N2 (News.isList N2 (.tail _ (.tail _ (.tail _ (hj1 _ e2))))) (fun D2 c2 h2 F3 N3 l3 => ?_) (by have := (q6 i (by omega) (by omega)).2.2.2; rw [sizeLine_eq]; simp; omega)
      have lI := l3 _ (.head _)
      have lC := l3 _ (.tail _ (.head _))
      have lD := l3 _ (.tail _ (.tail _ (.head _)))
      have lTD : @LT.lt Nat _ lT D2 := l3 (lT, _) (.tail _ (.tail _ (.tail _ (hj1 _ hT1))))
      refine ⟨_, _, (D2, listOf vsr.toArray c2) :: news, rfl, F3, ?_, off3_cons off lI lC lD, .inr ⟨_, .tail _ (hj1 _ hT1), rfl, _, rfl⟩, fun q hq => .tail _ (hj1 q hq), fun k hk => ?_⟩
      · refine news_sub N3 fun q hq => ?_
        simp only [List.mem_cons] at hq ⊢
        rcases hq with h | h | h | h | h <;> simp [h]
      · by_cases ek : k = i
        · subst ek
          exact ⟨D2, vsr, c2, by rw [List.getElem?_append_right (by omega)]; simp [hyl], .head _, e3, lTD⟩
        · obtain ⟨c, vs, ep, w1, w2, w3, w4⟩ := hj2 k (by omega)
          exact ⟨c, vs, ep, by rw [List.getElem?_append_left (by omega)]; exact w1, .tail _ w2, w3, w4⟩
    case fin =>
      rintro ys news hyl ⟨hj1, hj2⟩
      intro aG h9 tk9 F2 N2 o1
      dsimp only
      have key : ∃ (a2 : Led) (m2 : Loc), Fr (ghostOf s₁.heap [(39, 37)]) s₁.heap.objs.size h9 m2 ∧ News (ghostOf s₁.heap [(39, 37)]) s₁.heap.objs.size h9 a2 ∧ (∀ q ∈ a₁, q ∈ a2) ∧ Rws (fun k vs => IntsAre vs (T k)) lT n aG a2 ∧ m2 (Str.ofString "given") = some (.ref aG) := by
        refine ⟨_, _, F2, N2, fun q hq => .tail _ (hj1 q hq), ⟨ys.toArray, _, .head _, by simp; omega, fun k k0 k1 => ?_⟩, ?_⟩
        · obtain ⟨c, vs, ep, w1, w2, w3, w4⟩ := hj2 k.toNat (by omega)
          have ek : ((k.toNat : Nat) : Int) = k := by omega
          rw [ek] at w3
          exact ⟨c, vs, ep, by simpa using w1, .tail _ w2, w3, w4⟩
        · walk_at "lk"
      clear F2 N2 hj1 hj2
      obtain ⟨a2, m2, F2, N2, hs2, q7, yG⟩ := key
      have hS2 : ∀ q ∈ S, q ∈ a2 := fun q hq => hs2 _ (hS1 q hq)
      clear hS1
      iterate 1 walk_at "w1"
      refine LCg.Assign_ListComp_U (F₀ := F2) (by rfl) (by with_unfolding_all rfl) (by with_unfolding_all rfl) (by decide) (by rfl) (by decide) (by rfl) (by rfl) (by rfl) ?_
      iterate 7 walk_at "w1"
      rename Fr _ _ _ _ => F3
      rename News _ _ _ _ => N3
      rename IsRange _ _ _ _ _ _ _ _ => R3
      refine LCg.CompSrc.range (by rfl) F3 N3 R3 (rng_small n (by omega) hm9).1 (rng_small n (by omega) hm9).2 (by rw [sizeLine_eq]; omega) fun g => ?_
      refine comp_inv (fun i ys news => (∀ q ∈ a2, q ∈ news) ∧ IntsAre ys ((List.range i).map fun (k : Nat) => (tu + (k : Int)).fmod n)) ?turn3 ?fin3 n.toNat 0 [] a2 (Nat.zero_add _) rfl ⟨fun q hq => hq, .nil⟩
      case turn3 =>
        rintro i ys news v I oI C oC D m₂ h5 tk5 E' hi hyl ⟨tv, rfl⟩ ⟨hj1, hj2⟩ hC hx F4 N4 off ⟨ne1, ne2, ne3⟩
        have hS4 : ∀ q ∈ S, q ∈ (I, oI) :: (C, oC) :: (D, LCg.lst ys) :: news := fun q hq => .tail _ (.tail _ (.tail _ (hj1 q (hS2 q hq))))
        clear F3 N3 R3
        iterate 7 walk_at "w1"
        refine ⟨_, _, news, rfl, F4, N4, off, trivial, hj1, ?_⟩
        rw [List.range_succ, List.map_append]
        refine hj2.append ?_
        rw [Int.zero_add]
        exact .cons _ _ .nil
      case fin3 =>
        rintro ys news hyl ⟨hj1, hj2⟩
        intro aX h5 tk5 F4 N4 o1
        dsimp only
        have key : ∃ (a5 : Led) (m5 : Loc), Fr (ghostOf s₁.heap [(39, 37)]) s₁.heap.objs.size h5 m5 ∧ News (ghostOf s₁.heap [(39, 37)]) s₁.heap.objs.size h5 a5 ∧ (∀ q ∈ a2, q ∈ a5) ∧ (aX, listOf ys.toArray ys.length) ∈ a5 ∧
            m5 (Str.ofString "points") = some (.ref aX) ∧ m5 (Str.ofString "given") = some (.ref aG) := by
          refine ⟨_, _, F4, N4, fun q hq => .tail _ (hj1 q hq), .head _, ?_, ?_⟩
          · walk_at "lk"
          · walk_at "lk"
        clear F4 N4 hj1 F3 N3 R3
        obtain ⟨a5, m5, F5, N5, hs5, mX, yX, yG5⟩ := key
        have hS5 : ∀ q ∈ S, q ∈ a5 := fun q hq => hs5 _ (hS2 q hq)
        clear hS2 yG
        iterate 8 walk_at "w1"
        have N6 : News (ghostOf s₁.heap [(39, 37)]) s₁.heap.objs.size h5 ((37, tabObj #[]) :: off 37 a5) := fun q hq => by
          rcases List.mem_cons.mp hq with rfl | hq
          · exact N5 _ (hS5 _ s37)
          · exact N5 _ (mem_off.mp hq).1
        have hX37 : @Ne Nat aX 37 := fun e => by
          have e' : aX = 37 := e
          subst e'
          have e2 := congrArg Obj.data (news_fun N5 mX (hS5 _ s37))
          cases e2
        have hLT37 : @LT.lt Nat _ 37 lT := Nat.lt_trans (hSlt _ s37) hMT
        have hG37 : @Ne Nat aG 37 := fun e => by
          have e' : aG = 37 := e
          subst e'
          obtain ⟨itsG, epG, mG, _⟩ := q7.sub hs5
          have e2 := congrArg Obj.data (news_fun N5 mG (hS5 _ s37))
          cases e2
        have rT := ((q4'.sub hs2).sub hs5).off (Nat.le_of_lt hLT37) (Nat.ne_of_gt hLT37)
        have rM := ((q5.sub hs2).sub hs5).off (Nat.le_of_lt hLT37) (Nat.ne_of_gt (hSlt _ s37))
        have rG := (q7.sub hs5).off (Nat.le_of_lt hLT37) hG37
        have nT : (s₁.heap.objs.size + 1 + 1 + 1 + 1 + 1, oTies') ∈ off 37 a5 := mem_off.mpr ⟨hS5 _ sT, by show @Ne Nat _ _; omega⟩
        have nM : (s₁.heap.objs.size + 1 + 1 + 1 + 1, oMarks') ∈ off 37 a5 := mem_off.mpr ⟨hS5 _ sM, by show @Ne Nat _ _; omega⟩
        have nN : (s₁.heap.objs.size + 1, oMany') ∈ off 37 a5 := mem_off.mpr ⟨hS5 _ sN, by show @Ne Nat _ _; omega⟩
        have nD : (s₁.heap.objs.size + 1 + 1 + 1, oDue) ∈ off 37 a5 := mem_off.mpr ⟨hs5 _ (hs2 _ q2), by show @Ne Nat _ _; omega⟩
        clear N5
        refine kla_eval ?d0 ?_
        case d0 => exact rfl
        refine kla_nest F5 N6 T' codeHd rfl (UpdF.head fun q hq => (mem_off.mp hq).2) (by kn_triples) (by kn_among) rfl ?_
        intro f1 c1 oc1 vs1 t1 ct1 h1 tk1 FL1 NL1 d1 e1 lA lB
        have l371 : @LT.lt Nat _ 37 c1 := lA _ (.head _)
        dsimp only at NL1
        iterate 1 walk_at "w1"
        refine kla_eval ?d0 ?_
        case d0 => exact rfl
        refine kla_nest FL1 NL1 T' codeHd rfl (UpdF.tail (Nat.ne_of_gt (Nat.lt_trans l371 lB)) (UpdF.tail (Nat.ne_of_gt l371) (UpdF.head fun q hq => (mem_off.mp hq).2))) (by kn_triples) (by kn_among) rfl ?_
        intro f2 c2 oc2 vs2 t2' ct2 h2 tk2 FL2 NL2 d2 e2 lC lD
        dsimp only at NL2
        iterate 1 walk_at "w1"
        refine ⟨KX.keeps FL2.keep, ?_⟩
        refine dig_ok (U := theU) (T := T) (M := M) (pts := ptsOf tu n) (n := n) ⟨fun x x0 x1 => (q6 x x0 x1).1, fun x x0 x1 => ⟨(q6 x x0 x1).2.1, (q6 x x0 x1).2.2.1⟩⟩ (by rw [theU_len]; decide) hm9 hm0 (ptsOf_rng hm0) (ptsOf_all hm0) ?hR ⟨_, _, _, _, .tail _ (.tail _ (.head _))⟩ ?hFP ⟨_, _, _, _, .head _⟩ BL FL2 KX NL2 T' rfl rfl rfl rfl (of_decide_eq_true (by with_unfolding_all rfl)) (.tail _ (.tail _ (.tail _ (.tail _ (.tail _ (mem_off.mpr ⟨mX, hX37⟩)))))) ?hI ?hQ
        case hR =>
          clear BL FL2 NL2 FL1 NL1 N6 F5
          intro A A₀ env outer base h₀ L m a s p loose mean mg mb x tk Q B F X N TT hA hf hke hh hroom hSS x0 x1 hQ
          refine wpAny_call ?_
          refine' kla_code B F X N TT hA hf hke (hSS _ (.tail _ (.tail _ (.head _)))) (codeRec_news N (hSS _ (.tail _ (.tail _ (.tail _ (.head _))))) d1 e1) hroom rfl (locs rfl) ?_ rfl rfl rfl (by decide)
          intro g' L' h' FG F' N' B' X' T''
          refine wpAny_mono (E := fun _ _ => False) ?_ (fun _ _ q => q) (fun _ _ q => q.elim)
          dsimp only
          have hoff : ∀ q ∈ off 37 a5, q ∈ a := fun q hq => hSS q (.tail _ (.tail _ (.tail _ (.tail _ (.tail _ hq)))))
          iterate 1 walk_at "w1"
          refine nameX_F N' rfl (hoff _ nT) dTies' ?_ rfl rfl
          iterate 1 walk_at "w1"
          refine r_row N' rT.ties hoff ⟨x0, x1⟩ hm9 ?_ (by with_unfolding_all rfl) (fun r => by with_unfolding_all rfl)
          intro r vs ep hr hIr
          exact leaveK_ F' N' fun Fo No => hQ _ _ _ _ _ Fo No (.tail _ (.tail _ (.tail _ (.tail _ (.tail _ hr))))) hIr
        case hFP =>
          clear BL FL2 NL2 FL1 NL1 N6 F5
          intro A A₀ env outer base h₀ L m a s p loose mean mg mb x tk Q B F X N TT hA hf hke hh hroom hSS x0 x1 hQ
          refine wpAny_call ?_
          refine' kla_code B F X N TT hA hf hke (hSS _ (.head _)) (codeRec_news N (hSS _ (.tail _ (.head _))) d2 e2) hroom rfl (locs rfl) ?_ rfl rfl rfl (by decide)
          intro g' L' h' FG F' N' B' X' T''
          refine wpAny_mono (E := fun _ _ => False) ?_ (fun _ _ q => q) (fun _ _ q => q.elim)
          dsimp only
          have hoff : ∀ q ∈ off 37 a5, q ∈ a := fun q hq => hSS q (.tail _ (.tail _ (.tail _ (.tail _ (.tail _ hq)))))
          iterate 5 walk_at "w1"
          refine nameX_F N' rfl (hoff _ nM) dMarks' ?_ rfl rfl
          iterate 1 walk_at "w1"
          refine r_rowR N' rM hoff ⟨x0, x1⟩ hm9 ?_ (by with_unfolding_all rfl) (fun r => by with_unfolding_all rfl)
          intro r vs ep hr hIr
          iterate 1 walk_at "w1"
          have hlM : vs.length ≤ 10 := by
            rw [hIr.length]
            exact nodup_sub_le _ theU (q6 x x0 x1).2.1 (q6 x x0 x1).2.2.1
          refine list_copyK F' N' (N'.isList (hoff _ hr)) (fun D c hD FD ND lD => ?_) (by rw [sizeLine_eq]; simp; omega)
          exact leaveK_ FD ND fun Fo No => hQ _ _ _ _ _ Fo No hIr lD
        case hI => exact hj2
        case hQ =>
          intro h9 tk9 a9 aN aS aF loc9 F9 N9 hs9 RR
          clear FL2 NL2 FL1 NL1 N6 F5
          have hS9 : ∀ q ∈ off 37 a5, q ∈ a9 := fun q hq => hs9 q (.tail _ (.tail _ (.tail _ (.tail _ (.tail _ hq)))))
          have hC := run_ok (n := n) (U := theU) (T := T) (M := M) (pts := ptsOf tu n) hm9 ⟨fun x x0 x1 => (q6 x x0 x1).1, fun x x0 x1 => ⟨(q6 x x0 x1).2.1, (q6 x x0 x1).2.2.1⟩⟩ (ptsOf_rng hm0) (ptsOf_all hm0)
          generalize run T M n.toNat (ptsOf tu n) = σ at RR hC
          obtain ⟨ps37, n37⟩ : ∃ ps, (37, tabObj ps) ∈ a9 := ⟨_, hs9 _ (.tail _ (.tail _ (.tail _ (.tail _ (.head _)))))⟩
          clear hs9 d1 d2 e1 e2 lA lB lC lD l371
          iterate 1 walk_at "w1"
          rename_i h10 F10 N10
          have key : ∃ m6 : Loc, Fr (ghostOf s₁.heap [(39, 37)]) s₁.heap.objs.size h10 m6 ∧ m6 (Str.ofString "told") = some (.ref aF) ∧ m6 (Str.ofString "given") = some (.ref aG) := by
            refine ⟨_, F10, ?_, ?_⟩
            · walk_at "lk"
            · walk_at "lk"
          clear F10 yG5 yX
          obtain ⟨m6, F10, yt6, yg6⟩ := key
          iterate 13 walk_at "w1"
          obtain ⟨oF, kvs, k1, k2, k3, k4, k5⟩ := RR.fd
          have knd : (kvs.map (·.1)).Nodup := by obtain ⟨_, _, _, _, _, _, z⟩ := k2; exact z
          have kmem : ∀ i, i ∈ kvs.map (·.1) ↔ i ∈ rangeKs 0 n.toNat := fun i => by
            rw [rangeKs_mem]
            constructor
            · intro h
              obtain ⟨kv, hkv, rfl⟩ := List.mem_map.mp h
              have := k5 kv hkv; omega
            · intro h
              obtain ⟨l, hl, _⟩ := hC i (by omega) (by omega)
              exact valueAt_mem (k4 i l hl)
          have kperm := perm_of_mem knd (rangeKs_nodup n.toNat) kmem
          have klen : kvs.length = n.toNat := by have := kperm.length_eq; rw [rangeKs_length, List.length_map] at this; exact this
          refine r_keys rfl F10 N10 k1 k2 RR.loF (by omega) fun D1 c1 h11 tk11 vs11 F11 N11 l11 I11 => ?_
          iterate 1 walk_at "w1"
          refine kso_sorted F11 N11 (News.isList N11 (.head _)) I11 (by rw [List.length_map]; omega) fun D2 vs12 ns12 c12 h12 F12 N12 l12 I12 _ hp12 hs12 _ => ?_
          have e12 : ns12 = rangeKs 0 n.toNat := sortedZ_eq hs12 (rangeKs_sorted _) (hp12.trans kperm)
          subst e12
          have key : ∃ a12 : Led, News (ghostOf s₁.heap [(39, 37)]) s₁.heap.objs.size h12 a12 ∧ (∀ q ∈ a9, q ∈ a12) ∧ (D2, listOf vs12.toArray c12) ∈ a12 := ⟨_, N12, fun q hq => .tail _ (.tail _ hq), .head _⟩
          clear N12 N11 F11 N10 F10 l11 l12
          obtain ⟨a12, N12, hs9, m12⟩ := key
          have hS12 : ∀ q ∈ off 37 a5, q ∈ a12 := fun q hq => hs9 q (hS9 q hq)
          iterate 12 walk_at "w1"
          rename Fr _ _ _ _ => F13
          rename News _ _ _ _ => N13
          rename IsRange _ _ _ _ _ _ _ _ => R13
          refine kll_range rfl F13 N13 R13 (rng_small n (by omega) hm9).1 (rng_small n (by omega) hm9).2 (by omega) fun D3 us13 c13 h14 tk14 F14 N14 l14 I14 => ?_
          refine r_ne_ints (News.isList N14 (.tail _ m12)) (News.isList N14 (.head _)) I12 I14 (of_decide_eq_true (by with_unfolding_all rfl)) ?_
          iterate 4 walk_at "w1"
          have key : ∃ a14 : Led, News (ghostOf s₁.heap [(39, 37)]) s₁.heap.objs.size h14 a14 ∧ (∀ q ∈ a12, q ∈ a14) := ⟨_, N14, fun q hq => .tail _ hq⟩
          clear N14 N13 F13 R13
          obtain ⟨a14, N14, hs14⟩ := key
          have nD14 := hs14 _ (hS12 _ nD)
          have RX := ((RR.sub hs9).sub hs14).offc N14 nD14 dDue
          have TX := ((rT.sub hS12).sub hs14).offc N14 nD14 dDue
          have MX := ((rM.sub hS12).sub hs14).offc N14 nD14 dDue
          have GX := ((rG.sub hS12).sub hs14).offc N14 nD14 dDue
          have xT := mem_off.mpr ⟨hs14 _ (hS12 _ nT), show @Ne Nat (s₁.heap.objs.size + 1 + 1 + 1 + 1 + 1) (s₁.heap.objs.size + 1 + 1 + 1) by omega⟩
          have xM := mem_off.mpr ⟨hs14 _ (hS12 _ nM), show @Ne Nat (s₁.heap.objs.size + 1 + 1 + 1 + 1) (s₁.heap.objs.size + 1 + 1 + 1) by omega⟩
          have xN := mem_off.mpr ⟨hs14 _ (hS12 _ nN), show @Ne Nat (s₁.heap.objs.size + 1) (s₁.heap.objs.size + 1 + 1 + 1) by omega⟩
          have x37 := mem_off.mpr ⟨hs14 _ (hs9 _ n37), show @Ne Nat 37 (s₁.heap.objs.size + 1 + 1 + 1) by omega⟩
          have hX14 : ∀ q ∈ off (s₁.heap.objs.size + 1 + 1 + 1) a14, q ∈ a14 := fun q hq => (mem_off.mp hq).1
          have hXc : ∀ q ∈ off (s₁.heap.objs.size + 1 + 1 + 1) a14, @Ne Nat q.1 (s₁.heap.objs.size + 1 + 1 + 1) := fun q hq => (mem_off.mp hq).2
          generalize off (s₁.heap.objs.size + 1 + 1 + 1) a14 = Sx at RX TX MX GX xT xM xN x37 hX14 hXc
          clear rT rM rG nT nM nN nD n37 hS12 hs9 RR k1 k2 k3 k4 k5 kmem kperm knd I11 hp12 hs12 I12 I14 m12 hS9
          refine For_invVF F14 rfl rfl ?_
          iterate 7 walk_at "w1"
          rename Fr _ _ _ _ => F15
          rename News _ _ _ _ => N15
          rename IsRange _ _ _ _ _ _ _ _ => R15
          refine for_range (a₀ := a14) (fun k m a => (∀ q ∈ Sx, q ∈ a) ∧ (∃ o v, (s₁.heap.objs.size + 1 + 1 + 1, o) ∈ a ∧ o.data = .cell v) ∧ m (Str.ofString "told") = some (.ref aF) ∧ m (Str.ofString "given") = some (.ref aG))
            rfl F15 N15 R15 (rng_small n (by omega) hm9).1 (rng_small n (by omega) hm9).2 ?j04 ?mono4 ?turn4 ?done4
          case j04 => exact ⟨hX14, ⟨_, _, nD14, dDue⟩, yt6, yg6⟩
          case mono4 =>
            rintro k m a b ⟨p1, ⟨oo, vv, p2, p3⟩, p4⟩ hs
            exact ⟨fun q hq => hs _ (p1 q hq), ⟨oo, vv, hs _ p2, p3⟩, p4⟩
          case turn4 =>
            rintro k tk16 m₁ a₁ h tk17 I io hk hfresh ⟨p1, ⟨oo, vv, p2, pd⟩, p3, p4⟩ F₁ N₁ hio hioc
            clear F15 N15 R15
            have y1 : (fun z => if z = Str.ofString "k" then some (Value.int (k : Int) tk16) else m₁ z) (Str.ofString "k") = some (.int (k : Int) tk16) := lk_eq
            have y2 : (fun z => if z = Str.ofString "k" then some (Value.int (k : Int) tk16) else m₁ z) (Str.ofString "told") = some (.ref aF) := lk_ne (by decide) p3
            have y3 : (fun z => if z = Str.ofString "k" then some (Value.int (k : Int) tk16) else m₁ z) (Str.ofString "given") = some (.ref aG) := lk_ne (by decide) p4
            generalize (fun z => if z = Str.ofString "k" then some (Value.int (k : Int) tk16) else m₁ z) = m₂ at F₁ y1 y2 y3
            iterate 5 walk_at "w1"
            rename_i lD h18 F18 N18 l18
            have h3I : @LT.lt Nat _ (s₁.heap.objs.size + 1 + 1 + 1) I := hfresh _ nD14
            have h3D : @LT.lt Nat _ (s₁.heap.objs.size + 1 + 1 + 1) lD := l18 _ p2
            refine r_stC F18 N18 rfl (.tail _ p2) pd (fun h19 o19 F19 N19 d19 => ?_) rfl rfl
            have key : ∃ a19 : Led, News (ghostOf s₁.heap [(39, 37)]) s₁.heap.objs.size h19 a19 ∧ (∀ q ∈ Sx, q ∈ a19) ∧ (s₁.heap.objs.size + 1 + 1 + 1, o19) ∈ a19 ∧ (lD, listOf ([] : List Value).toArray 0) ∈ a19 ∧ (I, io) ∈ a19 :=
              ⟨_, N19, fun q hq => mem_put_ne (.tail _ (p1 q hq)) (hXc q hq), mem_put_self, mem_put_ne (.head _) (Nat.ne_of_gt h3D), mem_put_ne (.tail _ hio) (Nat.ne_of_gt h3I)⟩
            clear N19 N18 F18 p1 p2 pd
            obtain ⟨a19, N19, p1, p2, m19, hio9⟩ := key
            dsimp only
            iterate 1 walk_at "w1"
            refine For_invVF F19 rfl rfl ?_
            iterate 8 walk_at "w1"
            refine ⟨KX.keeps F19.keep, ?_⟩
            refine reach_ok (T := T) (n := n) (fun x x0 x1 => (q6 x x0 x1).1) hm9 BL F19 KX N19 T' rfl rfl rfl rfl (of_decide_eq_true (by with_unfolding_all rfl)) (TX.sub p1).ties ⟨by omega, by omega⟩ ?_
            intro h20 tk20 a20 r vsl epl l F20 N20 hs20 hr hIl hlnd hlr
            have hRn : ∀ i, Reach T (k : Int) i → 0 ≤ i ∧ i < n := fun i hi => by
              induction hi with
              | refl => exact ⟨by omega, by omega⟩
              | step _ hz ih => exact (q6 _ ih.1 ih.2).1 _ hz
            have hln : ∀ i ∈ l, 0 ≤ i ∧ i < n := fun i hi => hRn i ((hlr i).mp hi)
            have p20 : ∀ q ∈ Sx, q ∈ a20 := fun q hq => hs20 q (p1 q hq)
            refine for_list (a₀ := a20) (fun j m a => (∀ q ∈ Sx, q ∈ a) ∧ (I, io) ∈ a ∧ (∃ oD aD vsd ed dl, (s₁.heap.objs.size + 1 + 1 + 1, oD) ∈ a ∧ oD.data = .cell (some (.ref aD)) ∧ (aD, listOf vsd.toArray ed) ∈ a ∧ StrsAre vsd dl ∧ dl.Nodup ∧ ∀ c, c ∈ dl ↔ ∃ x ∈ l.take j, c ∈ M x) ∧
                m (Str.ofString "k") = some (.int (k : Int) tk16) ∧ m (Str.ofString "told") = some (.ref aF) ∧ m (Str.ofString "given") = some (.ref aG)) rfl F20 N20 hr ?j05 ?mono5 ?turn5 ?done5
            case j05 => exact ⟨p20, hs20 _ hio9, ⟨o19, lD, [], 0, [], hs20 _ p2, d19, hs20 _ m19, .nil, List.nodup_nil, by simp⟩, y1, y2, y3⟩
            case mono5 =>
              rintro j m a b ⟨w1, w2, ⟨oD, aD, vsd, ed, dl, w3, w4, w5, w6⟩, w7⟩ hs
              exact ⟨fun q hq => hs _ (w1 q hq), hs _ w2, ⟨oD, aD, vsd, ed, dl, hs _ w3, w4, hs _ w5, w6⟩, w7⟩
            case turn5 =>
              rintro j v m₁ a₁ h21 tk21 J jo hv hfr5 ⟨w1, w2, ⟨oD, aD, vsd, ed, dl, w3, w4, w5, w6, w7, w8⟩, z1, z2, z3⟩ F₁ N₁ hjo hjoc hrr
              obtain ⟨x, tx, rfl, hx⟩ := hIl.at j v (by simpa using hv)
              have hxl : x ∈ l := List.mem_of_getElem? hx
              have hxn := hln x hxl
              have x1 : (fun z => if z = Str.ofString "other" then some (Value.int x tx) else m₁ z) (Str.ofString "other") = some (.int x tx) := lk_eq
              have x2 : (fun z => if z = Str.ofString "other" then some (Value.int x tx) else m₁ z) (Str.ofString "k") = some (.int (k : Int) tk16) := lk_ne (by decide) z1
              have x3 : (fun z => if z = Str.ofString "other" then some (Value.int x tx) else m₁ z) (Str.ofString "told") = some (.ref aF) := lk_ne (by decide) z2
              have x4 : (fun z => if z = Str.ofString "other" then some (Value.int x tx) else m₁ z) (Str.ofString "given") = some (.ref aG) := lk_ne (by decide) z3
              generalize (fun z => if z = Str.ofString "other" then some (Value.int x tx) else m₁ z) = m₃ at F₁ x1 x2 x3 x4
              clear p1
              iterate 3 walk_at "w1"
              refine nameX_C N₁ rfl w3 w4 ?_ rfl rfl
              refine LCt.ListComp_T (F₀ := F₁) (by with_unfolding_all rfl) (by decide) (by rfl) (by decide) (by rfl) ?_
              iterate 3 walk_at "w1"
              refine r_rowR N₁ MX w1 hxn hm9 ?_ (by with_unfolding_all rfl) (fun r => by with_unfolding_all rfl)
              intro rm vsm epm hrm hIm
              have hml : vsm.length ≤ 10 := by
                rw [hIm.length]
                exact nodup_sub_le _ theU (q6 x hxn.1 hxn.2).2.1 (q6 x hxn.1 hxn.2).2.2.1
              refine LCt.CompSrcT.ledger (by rfl) F₁ N₁ (w1 _ hrm) (by rw [sizeLine_eq]; simp; omega) fun g => ?_
              refine compT_inv (fun i ys news => (∀ q ∈ a₁, q ∈ news) ∧ StrsAre ys (((M x).take i).filter fun c => !decide (c ∈ dl))) ?turn6 ?fin6 vsm.toArray.size 0 [] a₁ (Nat.zero_add _) ⟨fun q hq => hq, .nil⟩
              case turn6 =>
                rintro i ys news v I2 oI C oC D m₄ h22 tk22 E' hi hv2 ⟨u1, u2⟩ hC hx2 F2 N2 off2 ⟨ne1, ne2, ne3⟩
                obtain ⟨c, tc, rfl, hc⟩ := hIm.item i v (by simpa using hv2)
                iterate 2 walk_at "w1"
                refine lcf_cell N2 rfl (.tail _ (.tail _ (.tail _ (u1 _ w3)))) w4 ?_ rfl rfl
                refine notin_list_strs (N2.isList (.tail _ (.tail _ (.tail _ (u1 _ w5))))) w6 ?_
                iterate 1 walk_at "w1"
                have eb : (dl.any fun z => z == c) = decide (c ∈ dl) := by rw [Bool.eq_iff_iff]; simp
                have et : (M x).take (i + 1) = (M x).take i ++ [c] := by rw [List.take_add_one, hc]; rfl
                rw [eb]
                by_cases hcd : c ∈ dl
                · rw [decide_eq_true hcd, if_neg (by decide)]
                  refine ⟨_, _, news, rfl, F2, N2, off2, .inr ⟨_, u1 _ (w1 _ hrm), rfl, _, rfl⟩, u1, ?_⟩
                  rw [et, List.filter_append, List.filter_cons_of_neg (by simp [hcd]), List.filter_nil, List.append_nil]
                  exact u2
                · rw [decide_eq_false hcd, if_pos (by decide)]
                  iterate 1 walk_at "w1"
                  refine ⟨_, _, news, rfl, F2, N2, off2, .inr ⟨_, u1 _ (w1 _ hrm), rfl, _, rfl⟩, u1, ?_⟩
                  rw [et, List.filter_append, List.filter_cons_of_pos (by simp [hcd]), List.filter_nil]
                  exact u2.append' (.cons _ _ .nil)
              case fin6 =>
                rintro ys news ⟨u1, u2⟩
                intro lE h22 tk22 F2 N2 o1
                dsimp only
                have ef : (M x).take vsm.toArray.size = M x := by
                  have e : vsm.toArray.size = (M x).length := by simpa using hIm.length
                  rw [e, List.take_length]
                rw [ef] at u2
                have hdlU : ∀ c ∈ dl, c ∈ theU := fun c hc => by
                  obtain ⟨y, hy, hcy⟩ := (w8 c).mp hc
                  have hyn := hln y (List.mem_of_mem_take hy)
                  exact (q6 y hyn.1 hyn.2).2.2.1 c hcy
                have hdl10 : vsd.length ≤ 10 := by rw [w6.length]; exact nodup_sub_le _ theU w7 hdlU
                have hys : ys.length ≤ 10 := by
                  rw [u2.length]
                  exact Nat.le_trans (List.length_filter_le _ _) (by rw [← hIm.length]; exact hml)
                refine kmk_add_lit F2 N2 (N2.isList (.tail _ (u1 _ w5))) (N2.isList (.head _)) (zs := vsd ++ ys) (by simp) (fun lN h23 F3 N3 l3 => ?_) (by rw [sizeLine_eq]; simp; omega)
                refine r_stC F3 N3 rfl (.tail _ (.tail _ (u1 _ w3))) w4 (fun h24 o24 F4 N4 d24 => ?_) rfl rfl
                iterate 2 walk_at "w1"
                have hcJ : @LT.lt Nat _ (s₁.heap.objs.size + 1 + 1 + 1) J := hfr5 _ (hs20 _ p2)
                have hcN : @LT.lt Nat _ (s₁.heap.objs.size + 1 + 1 + 1) lN := l3 _ (.tail _ (u1 _ w3))
                have hj4 := mem_put_ne (d := s₁.heap.objs.size + 1 + 1 + 1) (o := o24) (a := (lN, listOf (vsd ++ ys).toArray 0) :: (lE, LCg.lst ys) :: news) (p := (J, jo)) (.tail _ (.tail _ (u1 _ hjo))) (Nat.ne_of_gt hcJ)
                have hN4 := mem_put_ne (d := s₁.heap.objs.size + 1 + 1 + 1) (o := o24) (a := (lN, listOf (vsd ++ ys).toArray 0) :: (lE, LCg.lst ys) :: news) (p := (lN, listOf (vsd ++ ys).toArray 0)) (.head _) (Nat.ne_of_gt hcN)
                have hNJ : J ≠ lN := iter_ne_list N4 hj4 hjoc hN4
                refine ⟨_, _, _, _, rfl, F4, N4, hj4, mem_put_ne (.tail _ (.tail _ (u1 _ hrr))) (list_ne_cell N₁ w3 w4 hrr),
                  fun q hq => mem_off.mpr ⟨mem_put_ne (.tail _ (.tail _ (u1 _ (w1 q hq)))) (hXc q hq), Nat.ne_of_lt (hfr5 q (p20 q hq))⟩,
                  mem_off.mpr ⟨mem_put_ne (.tail _ (.tail _ (u1 _ w2))) (Nat.ne_of_gt h3I), Nat.ne_of_lt (hfr5 _ (hs20 _ hio9))⟩,
                  ⟨o24, lN, vsd ++ ys, 0, dl ++ (M x).filter fun c => !decide (c ∈ dl), mem_off.mpr ⟨mem_put_self, Nat.ne_of_lt hcJ⟩, d24, mem_off.mpr ⟨hN4, Ne.symm hNJ⟩, w6.append' u2, ?_, ?_⟩, x2, x3, x4⟩
                · rw [List.nodup_append]
                  refine ⟨w7, (q6 x hxn.1 hxn.2).2.1.filter _, fun b hb c hc e => ?_⟩
                  subst e
                  have := (List.mem_filter.mp hc).2
                  simp [hb] at this
                · intro c
                  rw [List.mem_append, List.mem_filter, List.take_add_one, hx]
                  constructor
                  · rintro (hcd | ⟨hcx, _⟩)
                    · obtain ⟨y, hy, hcy⟩ := (w8 c).mp hcd
                      exact ⟨y, List.mem_append_left _ hy, hcy⟩
                    · exact ⟨x, List.mem_append_right _ (by simp), hcx⟩
                  · rintro ⟨y, hy, hcy⟩
                    by_cases hcd : c ∈ dl
                    · exact .inl hcd
                    · rcases List.mem_append.mp hy with hy | hy
                      · exact .inl ((w8 c).mpr ⟨y, hy, hcy⟩)
                      · have : y = x := by simpa using hy
                        subst this
                        exact .inr ⟨hcy, by simp [hcd]⟩
            case done5 =>
              rintro m₁ a₁ h21 tk21 ⟨w1, w2, ⟨oD, aD, vsd, ed, dl, w3, w4, w5, w6, w7, w8⟩, z1, z2, z3⟩ F₁ N₁
              clear p1 p20
              iterate 10 walk_at "w1"
              obtain ⟨lk, hlk, hlknd, hlkc⟩ := hC (k : Int) (by omega) (by omega)
              have hlkU : ∀ c ∈ lk, c ∈ theU := fun c hc => by
                obtain ⟨y, hy, hcy⟩ := (hlkc c).mp hc
                exact (q6 y (hRn y hy).1 (hRn y hy).2).2.2.1 c hcy
              have ef : l.take vsl.toArray.size = l := by
                have e : vsl.toArray.size = l.length := by simpa using hIl.length
                rw [e, List.take_length]
              rw [ef] at w8
              have hsame : ∀ c, c ∈ lk ↔ c ∈ dl := fun c => by
                rw [hlkc, w8]
                exact ⟨fun ⟨y, hy, hcy⟩ => ⟨y, (hlr y).mpr hy, hcy⟩, fun ⟨y, hy, hcy⟩ => ⟨y, (hlr y).mp hy, hcy⟩⟩
              obtain ⟨vsk, epk, mk, Ik⟩ := RX.ls k lk hlk
              have hk10 : vsk.length ≤ 10 := by rw [Ik.length]; exact nodup_sub_le _ theU hlknd hlkU
              have hd10 : vsd.length ≤ 10 := by rw [w6.length]; exact nodup_sub_le _ theU w7 fun c hc => hlkU c ((hsame c).mpr hc)
              refine r_getF N₁ (RX.sub w1) hlk ?_ (by with_unfolding_all rfl)
              iterate 1 walk_at "w1"
              refine sorted_N_str F₁ N₁ (N₁.isList (w1 _ mk)) Ik (by omega) fun h22 vs22 ss22 e22 F2 N2 I22 p22 s22 => ?_
              iterate 4 walk_at "w1"
              refine nameX_C N2 rfl (.tail _ w3) w4 ?_ rfl rfl
              iterate 1 walk_at "w1"
              refine sorted_N_str F2 N2 (N2.isList (.tail _ w5)) w6 (by omega) fun h23 vs23 ss23 e23 F3 N3 I23 p23 s23 => ?_
              have e23 : ss22 = ss23 := sortedS_eq s22 s23 (p22.trans ((perm_of_mem hlknd w7 hsame).trans p23.symm))
              subst e23
              refine r_ne_strs (N3.isList (.tail _ (.head _))) (N3.isList (.head _)) I22 I23 (fun c hc => theU_ok c (hlkU c (p22.subset hc))) (of_decide_eq_true (by with_unfolding_all rfl)) ?_
              iterate 5 walk_at "w1"
              refine ⟨_, _, _, _, rfl, F3, N3, .tail _ (.tail _ w2), fun q hq => mem_off.mpr ⟨.tail _ (.tail _ (w1 q hq)), Nat.ne_of_lt (hfresh q (hX14 q hq))⟩, ⟨oD, _, mem_off.mpr ⟨.tail _ (.tail _ w3), Nat.ne_of_lt h3I⟩, w4⟩, z2, z3⟩
          case done4 =>
            rintro m₁ a₁ h tk17 ⟨p1, ⟨oo, vv, p2, pd⟩, p3, p4⟩ F₁ N₁
            clear F15 N15 R15 hX14
            iterate 5 walk_at "w1"
            refine r_eq_rows N₁ (TX.sub p1) (GX.sub p1) (of_decide_eq_true (by with_unfolding_all rfl)) ?_
            refine ⟨?_, ⟨GrownAt.of N₁ (p1 _ x37), trivial⟩⟩
            exact law_good F₁ hg rfl)
end
end Mine

theorem PySem.Challenge.cw_iw0033_01_holds : PySem.Challenge.rw_iw0033_01.Holds := by
  exact Mine.law_ok
