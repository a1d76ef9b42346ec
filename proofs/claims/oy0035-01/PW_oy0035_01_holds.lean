import PyProof.Rows.All
import Wide.All
import OpenK.AllK
import Wide.FinOn
import PySem.Challenge.RW_oy0035_01
set_option Elab.async false
set_option maxRecDepth 100000

section
open PySem PySem.W PyProof.Rows
namespace Mine
open_top hd for PySem.Challenge.rw_oy0035_01
end Mine
end
section
open PySem PySem.W PyProof.Rows
namespace Mine
/-- the contract of a def: called with vs while the ledger is news, it hands back r and leaves the ledger nw, with Post r nw -/
def Tell (w : World) (b : Nat) (f : Addr) (news : List (Addr × Obj)) (vs : List Value) (Pre : Heap → Prop) (Post : Value → List (Addr × Obj) → Prop) : Prop :=
  ∀ (p : Program) (loose : List Str) (mean : ExcName → Option Value) (mg mb : Str → Option Value) (dp un : Nat) (gd : Option (List Code)) (cn : Str) (cs : Scope) (a : Addr) (ccd : Value) (cl : List (Str × Addr)) (outer : List Env) (A₀ : Around) (base h₀ : Heap) (L : Addr) (m : Str → Option Value) (s : Shared)
    (Q E : Value → Shared → Prop),
    Below A₀ base outer h₀ → Fr h₀ L s.heap m → (hd.heap_39 w.params).In h₀ → News h₀ L s.heap news → Top p loose mean mg mb h₀ → Pre base → cs.kind = .function → dp + b ≤ 400 → un + 20 * b ≤ 1000 →
    (∀ r nw h' tk', Fr h₀ L h' m → News h₀ L h' nw → Post r nw → Q r { s with heap := h', toks := tk' }) →
    wpAny (model PySem.Challenge.rw_oy0035_01.row.prog w) (ktrTop dp un gd cn cs L a ccd cl outer) (call (.ref f) vs) Q E s
theorem tell_use {w : World} {b : Nat} {f : Addr} {news : List (Addr × Obj)} {vs : List Value} {Pre : Heap → Prop} {Post : Value → List (Addr × Obj) → Prop} (C : Tell w b f news vs Pre Post)
    {p : Program} {loose : List Str} {mean : ExcName → Option Value} {mg mb : Str → Option Value} {dp un : Nat} {gd : Option (List Code)} {cn : Str} {cs : Scope} {a : Addr} {ccd : Value} {cl : List (Str × Addr)} {outer : List Env} {A₀ : Around} {base h₀ : Heap} {L : Addr} {m : Str → Option Value} {s : Shared}
    {Q E : Value → Shared → Prop} (B : Below A₀ base outer h₀) (F : Fr h₀ L s.heap m) (X : (hd.heap_39 w.params).In h₀) (N : News h₀ L s.heap news) (T : Top p loose mean mg mb h₀) (hpre : Pre base) (hk : cs.kind = .function) (hdp : dp + b ≤ 400) (hun : un + 20 * b ≤ 1000)
    (ret : ∀ r nw h' tk', Fr h₀ L h' m → News h₀ L h' nw → Post r nw → Q r { s with heap := h', toks := tk' }) :
    wpAny (model PySem.Challenge.rw_oy0035_01.row.prog w) (ktrTop dp un gd cn cs L a ccd cl outer) (call (.ref f) vs) Q E s :=
  C p loose mean mg mb dp un gd cn cs a ccd cl outer A₀ base h₀ L m s Q E B F X N T hpre hk hdp hun ret
end Mine
end
section
open PySem PySem.W PyProof.Rows PySem.Calls
namespace Mine
theorem fr_known {h₀ h : Heap} {L : Addr} {m : Str → Option Value} {x : Str} {v : Value} (F : Fr h₀ L h m) (e : m x = some v) : Fr h₀ L h (fun y => if y = x then some v else m y) := by
  have : (fun y => if y = x then some v else m y) = m := by
    funext y
    by_cases h : y = x
    · rw [if_pos h, h, e]
    · rw [if_neg h]
  rw [this]; exact F
theorem all_ne {news : List (Addr × Obj)} {e d : Addr} (h : ∀ p ∈ news, p.1 < e) (he : @LE.le Nat _ e d) : ∀ p ∈ news, p.1 ≠ d := fun p hp => Nat.ne_of_lt (Nat.lt_of_lt_of_le (h p hp) he)
theorem news_keep1 {h₀ h : Heap} {L : Addr} {p : Addr × Obj} (mid : List (Addr × Obj)) {news : List (Addr × Obj)} (N : News h₀ L h (p :: (mid ++ news))) : News h₀ L h (p :: news) := fun q hq => N q (by
  rcases List.mem_cons.mp hq with rfl | hq
  · exact .head _
  · exact .tail _ (List.mem_append.mpr (.inr hq)))
theorem news_keep0 {h₀ h : Heap} {L : Addr} (mid : List (Addr × Obj)) {news : List (Addr × Obj)} (N : News h₀ L h (mid ++ news)) : News h₀ L h news := fun q hq => N q (List.mem_append.mpr (.inr hq))
section
variable {prog : Program} {w : World} {A : Around} {E : Value → Shared → Prop} {h₀ : Heap} {env : Env} {target : PySem.Expr} {body : List Stmt} {Q : Flow → Shared → Prop} {s : Shared} {ws : List (Addr × String)} {keep : List (Addr × Obj)}
theorem items_ind {m₀ : Str → Option Value} {news₀ : List (Addr × Obj)} (xs : List Itm) (J : Nat → (Str → Option Value) → List (Addr × Obj) → Prop) (h0 : J 0 m₀ news₀)
    (turn : ∀ i a m news v h tk, xs[i]? = some a → J i m news → a.Is v h → Fr h₀ env.locals h m → AllObj ws (fun its => News h₀ env.locals h (its ++ news) →
      wpAny (model prog w) A (assign target env v) (fun _ s₂ => wpAny (model prog w) A (execs body env) (UnrPostW h₀ env.locals { s with heap := h, toks := tk } its (fun m' n' => SubL keep n' ∧ J (i + 1) m' n') Q) E s₂) E { s with heap := h, toks := tk }))
    (done : ∀ m news h tk, J xs.length m news → Fr h₀ env.locals h m → News h₀ env.locals h news → Q .next { s with heap := h, toks := tk }) :
    ItemsRest prog w A E h₀ env target body Q s ws keep xs m₀ news₀ := by
  have key : ∀ (j i : Nat) m news, i + j = xs.length → J i m news → ItemsRest prog w A E h₀ env target body Q s ws keep (xs.drop i) m news := by
    intro j
    induction j with
    | zero =>
      intro i m news e hJ
      have e' : i = xs.length := by omega
      subst e'
      rw [List.drop_length]
      exact fun h tk F N => done m news h tk hJ F N
    | succ j ih =>
      intro i m news e hJ
      have hlt : i < xs.length := by omega
      rw [List.drop_eq_getElem_cons hlt]
      intro v h tk hv F
      have t := turn i xs[i] m news v h tk (List.getElem?_eq_getElem hlt) hJ hv F
      have up : ∀ (l : List (Addr × String)) (k k' : List (Addr × Obj) → Prop), (∀ x, k x → k' x) → AllObj l k → AllObj l k' := by
        intro l
        induction l with
        | nil => intro k k' hk a; exact hk _ a
        | cons q r ihr => intro k k' hk a o ho; exact ihr _ _ (fun x hx => hk _ hx) (a o ho)
      refine up _ _ _ (fun its hi N => ?_) t
      refine wpAny_mono (hi N) (fun _ s₂ h₂ => wpAny_mono h₂ (fun f s₃ p => ?_) fun _ _ e => e) fun _ _ e => e
      have fin : UnrEndW h₀ env.locals { s with heap := h, toks := tk } its (fun m' n' => SubL keep n' ∧ J (i + 1) m' n') s₃ → UnrEndW h₀ env.locals { s with heap := h, toks := tk } its (fun m' n' => SubL keep n' ∧ ItemsRest prog w A E h₀ env target body Q s ws keep (xs.drop (i + 1)) m' n') s₃ := by
        rintro ⟨h', tk', m', n', e1, F', N', off, sub, hJ'⟩
        exact ⟨h', tk', m', n', e1, F', N', off, sub, ih (i + 1) m' n' (by omega) hJ'⟩
      cases f with
      | ret v => exact p
      | brk => exact p
      | next => exact fin p
      | cont => exact fin p
  have := key xs.length 0 m₀ news₀ (by omega) h0
  rwa [List.drop_zero] at this
end
end Mine
end
section
open PySem PySem.W PyProof.Rows PySem.Calls
namespace Mine
section
variable {prog : Program} {w : World} {A : Around} {E : Value → Shared → Prop} {s : Shared} {env : Env} {h₀ : Heap} {x : Str} {body orelse : List Stmt} {Q : Flow → Shared → Prop}
/-- what a turn of a loop leaves: the iterator's object stands, the rest is told by J -/
def TurnE (h₀ : Heap) (L I : Addr) (o : Obj) (J : (Str → Option Value) → List (Addr × Obj) → Prop) (s : Shared) (Q : Flow → Shared → Prop) (f : Flow) (s₃ : Shared) : Prop :=
  match f with
  | .ret v => Q (.ret v) s₃
  | .brk => Q .next s₃
  | _ => ∃ h' tk m' news', s₃ = { s with heap := h', toks := tk } ∧ Fr h₀ L h' m' ∧ News h₀ L h' ((I, o) :: news') ∧ (∀ p ∈ news', p.1 ≠ I) ∧ J m' news'
/-- a for over a range with an else that is never come to -/
def LoopE (prog : Program) (w : World) (A : Around) (h₀ : Heap) (env : Env) (x : Str) (body : List Stmt) (Q : Flow → Shared → Prop) (E : Value → Shared → Prop) (it : Value) (s₂ : Shared) : Prop :=
  ∃ (I : Addr) (n : Nat) (m : Str → Option Value) (news : List (Addr × Obj)) (J : Nat → (Str → Option Value) → List (Addr × Obj) → Prop),
    it = .ref I ∧ A.handled = none ∧ IsRangeIter s₂.heap I 0 (n : Int) 1 ∧ h₀.get? I = none ∧ env.locals ≠ I ∧ (∀ p ∈ news, p.1 ≠ I) ∧ Fr h₀ env.locals s₂.heap m ∧ News h₀ env.locals s₂.heap news ∧ J 0 m news ∧
    (∀ i t m₁ news₁ h tk, i < n → J i m₁ news₁ → (∀ p ∈ news₁, p.1 ≠ I) → Fr h₀ env.locals h (fun y => if y = x then some (.int (i : Int) t) else m₁ y) →
      News h₀ env.locals h ((I, itR (((i + 1 : Nat) : Int)) ((n : Int) - ((i + 1 : Nat) : Int))) :: news₁) →
      wpAny (model prog w) A (execs body env) (TurnE h₀ env.locals I (itR (((i + 1 : Nat) : Int)) ((n : Int) - ((i + 1 : Nat) : Int))) (J (i + 1)) { s₂ with heap := h, toks := tk } Q) E { s₂ with heap := h, toks := tk }) ∧
    ∀ m₁ news₁, ¬ J n m₁ news₁
theorem For_else {px pos : Pos} {iter : PySem.Expr} {m₉ : Str → Option Value} (_F : Fr h₀ env.locals s.heap m₉) (hx : env.kindOf x = some .local)
    (hp : (env.scope.kind == .class || (env.scope.kind == .module && env.locals != env.globals)) = false)
    (h : wpAny (model prog w) A (eval iter env) (fun xv s₁ => wpAny (model prog w) A (pyIter xv) (fun it s₂ => LoopE prog w A h₀ env x body Q E it s₂) E s₁) E s)
    (hs : ∀ x, foldedSetIterable iter env x = pure x := by intro _; rfl)
    (hE : PassesOwn (model prog w) A env E := by passes_own) :
    wpAny (model prog w) A (exec (.For (.Name x px) iter body orelse pos) env) Q E s := by
  refine wpAny_For (wpAny_mono h (fun xv s₁ h₁ => wpAny_mono h₁ (fun it s₂ h₂ => ?_) fun _ _ e => e) fun _ _ e => e) hs
  obtain ⟨I, n, m, news, J, rfl, hh, hit, hI0, hLI, hnw, F, N, h0, step, hno⟩ := h₂
  refine codeAny_forLoop_any
    (fun k s' => ∃ (h' : Heap) (tk : Nat) (m' : Str → Option Value) (news' : List (Addr × Obj)) (i : Nat), s' = { s₂ with heap := h', toks := tk } ∧ IsRangeIter h' I ((i : Nat) : Int) ((n : Int) - ((i : Nat) : Int)) 1 ∧ Fr h₀ env.locals h' m' ∧ News h₀ env.locals h' news' ∧ (∀ p ∈ news', p.1 ≠ I) ∧ J i m' news' ∧ i ≤ n ∧ k = n + 1 - i) ?_ (n + 1)
    ⟨s₂.heap, s₂.toks, m, news, 0, rfl, by simpa using hit, F, N, hnw, h0, Nat.zero_le _, rfl⟩
  rintro k s' ⟨h', tk, m', news', i, rfl, hst, F', N', hnw', hJ, hi, rfl⟩
  have hlt : i < n := by
    rcases Nat.lt_or_ge i n with h | h
    · exact h
    · have e : i = n := by omega
      subst e
      exact absurd hJ (hno _ _)
  refine wpAny_pyNext_range_item hst (by omega) fun h₁ hit₁ hs₁ => ?_
  have F₁ : Fr h₀ env.locals h₁ m' := F'.change hs₁ (fun e => hLI e.symm) hI0
  have N₁ : News h₀ env.locals h₁ news' := fun p hp => ⟨hs₁.extBut p.1 p.2 (hnw' p hp) (N' p hp).1, (N' p hp).2⟩
  refine wpAny_pure ?_
  refine wpAny_assign_Name (wpAny_storeName_local hx F₁.ns (fun h₂ hn₂ hs₂ => ?_) hp)
  have F₂ := F₁.set hn₂ hs₂
  have e2 : ((n : Int) - ((i + 1 : Nat) : Int)) = (n : Int) - (i : Int) - 1 := by push_cast; omega
  have hit₂ : h₂.get? I = some (itR (((i + 1 : Nat) : Int)) ((n : Int) - ((i + 1 : Nat) : Int))) := by
    rw [e2]
    exact (hs₂.2 I fun q => hLI q.symm).trans hit₁
  have N₂ : News h₀ env.locals h₂ ((I, itR (((i + 1 : Nat) : Int)) ((n : Int) - ((i + 1 : Nat) : Int))) :: news') := fun p hp => by
    rcases List.mem_cons.mp hp with rfl | hp
    · exact ⟨hit₂, fun e => hLI e.symm, hI0⟩
    · exact N₁.set hs₂ p hp
  refine wpAny_mono (wpAny_passesOwn hE (step i _ m' news' h₂ _ hlt hJ hnw' F₂ N₂)) (fun f s₃ h₃ => ?_) fun _ _ e => e
  cases f with
  | ret v => exact h₃
  | brk => exact h₃
  | cont =>
    obtain ⟨h₄, tk₄, m₄, news₄, rfl, F₄, N₄, off, hJ₄⟩ := h₃
    exact ⟨n + 1 - (i + 1), by omega, h₄, tk₄, m₄, news₄, i + 1, rfl, (N₄ _ (.head _)).1, F₄, fun p hp => N₄ p (.tail _ hp), off, hJ₄, hlt, rfl⟩
  | next =>
    obtain ⟨h₄, tk₄, m₄, news₄, rfl, F₄, N₄, off, hJ₄⟩ := h₃
    exact ⟨n + 1 - (i + 1), by omega, h₄, tk₄, m₄, news₄, i + 1, rfl, (N₄ _ (.head _)).1, F₄, fun p hp => N₄ p (.tail _ hp), off, hJ₄, hlt, rfl⟩
theorem iter_rangeE {r : Addr} {b₀ : Int} {t₀ u₀ v₀ : Tok} {n : Nat} {m₀ : Str → Option Value} {news : List (Addr × Obj)} (J : Nat → (Str → Option Value) → List (Addr × Obj) → Prop)
    (hh : A.handled = none) (hr : IsRange s.heap r 0 b₀ 1 t₀ u₀ v₀) (hsmall : Builtin.Range.small 0 b₀ 1 = true) (hn : Builtin.Range.rangeSize 0 b₀ 1 = (n : Int)) (F : Fr h₀ env.locals s.heap m₀) (N : News h₀ env.locals s.heap news) (h0 : J 0 m₀ news)
    (turn : ∀ I : Addr, (∀ p ∈ news, p.1 < I) → ∀ i t m₁ news₁ h tk, i < n → J i m₁ news₁ → (∀ p ∈ news₁, p.1 ≠ I) → Fr h₀ env.locals h (fun y => if y = x then some (.int (i : Int) t) else m₁ y) →
      News h₀ env.locals h ((I, itR (((i + 1 : Nat) : Int)) ((n : Int) - ((i + 1 : Nat) : Int))) :: news₁) →
      wpAny (model prog w) A (execs body env) (TurnE h₀ env.locals I (itR (((i + 1 : Nat) : Int)) ((n : Int) - ((i + 1 : Nat) : Int))) (J (i + 1)) { s with heap := h, toks := tk } Q) E { s with heap := h, toks := tk })
    (hno : ∀ m₁ news₁, ¬ J n m₁ news₁) :
    wpAny (model prog w) A (pyIter (.ref r)) (fun it s₂ => LoopE prog w A h₀ env x body Q E it s₂) E s := by
  refine wpAny_pyIter_range hr hsmall ?_
  refine ⟨_, n, m₀, news, J, rfl, hh, (by show IsRangeIter _ _ _ _ _; rw [hn]; simpa using Heap.get?_push_size _ rfl), next_is_new F, fun e => absurd F.ns.lt (e ▸ Nat.lt_irrefl _), fun p hp => Nat.ne_of_lt (Heap.lt_size (N p hp).1), F.push _, fun p hp => ⟨Heap.get?_push_of_some _ (N p hp).1, (N p hp).2⟩, h0, ?_, hno⟩
  exact fun i t m₁ news₁ h tk hi hJ off F₁ N₁ => turn _ (fun p hp => Heap.lt_size (N p hp).1) i t m₁ news₁ h tk hi hJ off F₁ N₁
/-- iter of a list of the ledger's -/
abbrev itL (l : Addr) : Obj := { cls := .type "list_iterator", data := .fields #[.ref l, .int 0 0] }
theorem iter_list_call {L l : Addr} {m : Str → Option Value} {news : List (Addr × Obj)} {lo : Obj} {items : Array Value} {n : Nat} {R : Value → Shared → Prop} (F : Fr h₀ L s.heap m) (N : News h₀ L s.heap news) (hm : (l, lo) ∈ news) (hc : lo.cls = .type "list") (hd : lo.data = .seq items n)
    (h : ∀ I h', Fr h₀ L h' m → News h₀ L h' ((I, itL l) :: news) → (∀ p ∈ news, p.1 < I) → R (.ref I) { s with heap := h' }) :
    wpAny (model prog w) A (call (.builtin "iter") [.ref l]) R E s := by
  refine Calls.call_function_entry (by decide +kernel) (by decide +kernel) kdk_entry_iter (kdk_args_iter _) ?_
  unfold Builtin.«iter»
  refine wpAny_bind (m := someArgs "iter" 1 2 _) (wpAny_of_eq (a := [Value.ref l]) (by first | rfl | kernel_rfl!) ?_)
  show wpAny _ _ (pyIter (.ref l) >>= _) _ _ _
  refine wpAny_bind (wpAny_pyIter_list ⟨lo, (N _ hm).1, hc, n, hd⟩ ?_)
  exact wpAny_pure ⟨_, rfl, h _ _ (F.push _) (News.push F N _ rfl) (fun q hq => Heap.lt_size (N q hq).1)⟩
/-- a for over an iterator of a list of the ledger's -/
def LoopI (prog : Program) (w : World) (A : Around) (h₀ : Heap) (env : Env) (x : Str) (body : List Stmt) (Q : Flow → Shared → Prop) (E : Value → Shared → Prop) (it : Value) (s₂ : Shared) : Prop :=
  ∃ (I l : Addr) (lo : Obj) (items : Array Value) (n : Nat) (m : Str → Option Value) (news : List (Addr × Obj)) (J : Nat → (Str → Option Value) → List (Addr × Obj) → Prop),
    it = .ref I ∧ A.handled = none ∧ s₂.heap.IsListIter I l 0 ∧ lo.cls = .type "list" ∧ lo.data = .seq items n ∧ h₀.get? I = none ∧ env.locals ≠ I ∧ (∀ p ∈ news, p.1 ≠ I) ∧ Fr h₀ env.locals s₂.heap m ∧ News h₀ env.locals s₂.heap news ∧ J 0 m news ∧
    (∀ i m₁ news₁, J i m₁ news₁ → (l, lo) ∈ news₁) ∧
    (∀ i v m₁ news₁ h tk oI, items[i]? = some v → J i m₁ news₁ → (∀ p ∈ news₁, p.1 ≠ I) → Fr h₀ env.locals h (fun y => if y = x then some v else m₁ y) → News h₀ env.locals h ((I, oI) :: news₁) →
      wpAny (model prog w) A (execs body env) (TurnE h₀ env.locals I oI (J (i + 1)) { s₂ with heap := h, toks := tk } Q) E { s₂ with heap := h, toks := tk }) ∧
    ∀ m₁ news₁ h tk, J items.size m₁ news₁ → Fr h₀ env.locals h m₁ → News h₀ env.locals h news₁ → Q .next { s₂ with heap := h, toks := tk }
theorem For_iter {px pos : Pos} {iter : PySem.Expr} {m₉ : Str → Option Value} (_F : Fr h₀ env.locals s.heap m₉) (hx : env.kindOf x = some .local)
    (hp : (env.scope.kind == .class || (env.scope.kind == .module && env.locals != env.globals)) = false)
    (h : wpAny (model prog w) A (eval iter env) (fun xv s₁ => wpAny (model prog w) A (pyIter xv) (fun it s₂ => LoopI prog w A h₀ env x body Q E it s₂) E s₁) E s)
    (hs : ∀ x, foldedSetIterable iter env x = pure x := by intro _; rfl)
    (hE : PassesOwn (model prog w) A env E := by passes_own) :
    wpAny (model prog w) A (exec (.For (.Name x px) iter body [] pos) env) Q E s := by
  refine wpAny_For (wpAny_mono h (fun xv s₁ h₁ => wpAny_mono h₁ (fun it s₂ h₂ => ?_) fun _ _ e => e) fun _ _ e => e) hs
  obtain ⟨I, l, lo, items, n, m, news, J, rfl, hh, hit, hlc, hld, hI0, hLI, hnw, F, N, h0, hsrc, step, hdone⟩ := h₂
  refine codeAny_forLoop_any
    (fun k s' => ∃ (h' : Heap) (tk : Nat) (m' : Str → Option Value) (news' : List (Addr × Obj)) (i : Nat), s' = { s₂ with heap := h', toks := tk } ∧ h'.IsListIter I l i ∧ Fr h₀ env.locals h' m' ∧ News h₀ env.locals h' news' ∧ (∀ p ∈ news', p.1 ≠ I) ∧ J i m' news' ∧ i ≤ items.size ∧ k = items.size + 1 - i) ?_ (items.size + 1)
    ⟨s₂.heap, s₂.toks, m, news, 0, rfl, hit, F, N, hnw, h0, Nat.zero_le _, rfl⟩
  rintro k s' ⟨h', tk, m', news', i, rfl, hst, F', N', hnw', hJ, hi, rfl⟩
  have hl' : h'.IsList l items := ⟨lo, (N' _ (hsrc _ _ _ hJ)).1, hlc, n, hld⟩
  cases hv : items[i]? with
  | none =>
    have hsz : i = items.size := Nat.le_antisymm hi (by simpa using hv)
    refine wpAny_pyNext_list_end hh hst hl' hv fun h₁ he₁ => wpAny_execs_nil ?_
    subst hsz
    have F₁ : Fr h₀ env.locals h₁ m' := ⟨F'.ns.extBut he₁ hLI, fun b o e => he₁ b o (fun q => by rw [q, hI0] at e; cases e) (F'.keep b o e), F'.above⟩
    exact hdone m' news' h₁ tk hJ F₁ fun p hp => ⟨he₁ p.1 p.2 (hnw' p hp) (N' p hp).1, (N' p hp).2⟩
  | some v =>
    have hlt : i < items.size := (Array.getElem?_eq_some_iff.mp hv).1
    refine wpAny_pyNext_list_item hst hl' hv fun h₁ hit₁ hs₁ => ?_
    have F₁ : Fr h₀ env.locals h₁ m' := F'.change hs₁ (fun e => hLI e.symm) hI0
    have N₁ : News h₀ env.locals h₁ news' := fun p hp => ⟨hs₁.extBut p.1 p.2 (hnw' p hp) (N' p hp).1, (N' p hp).2⟩
    refine wpAny_pure ?_
    refine wpAny_assign_Name (wpAny_storeName_local hx F₁.ns (fun h₂ hn₂ hs₂ => ?_) hp)
    have F₂ := F₁.set hn₂ hs₂
    obtain ⟨oI, hoI, hc, hd⟩ := hit₁
    have hoI₂ : h₂.get? I = some oI := (hs₂.2 I fun q => hLI q.symm).trans hoI
    have N₂ : News h₀ env.locals h₂ ((I, oI) :: news') := fun p hp => by
      rcases List.mem_cons.mp hp with rfl | hp
      · exact ⟨hoI₂, fun e => hLI e.symm, hI0⟩
      · exact N₁.set hs₂ p hp
    refine wpAny_mono (wpAny_passesOwn hE (step i v m' news' h₂ _ oI hv hJ hnw' F₂ N₂)) (fun f s₃ h₃ => ?_) fun _ _ e => e
    cases f with
    | ret v => exact h₃
    | brk => exact h₃
    | cont =>
      obtain ⟨h₄, tk₄, m₄, news₄, rfl, F₄, N₄, off, hJ₄⟩ := h₃
      exact ⟨items.size + 1 - (i + 1), by omega, h₄, tk₄, m₄, news₄, i + 1, rfl, ⟨oI, (N₄ _ (.head _)).1, hc, hd⟩, F₄, fun p hp => N₄ p (.tail _ hp), off, hJ₄, hlt, rfl⟩
    | next =>
      obtain ⟨h₄, tk₄, m₄, news₄, rfl, F₄, N₄, off, hJ₄⟩ := h₃
      exact ⟨items.size + 1 - (i + 1), by omega, h₄, tk₄, m₄, news₄, i + 1, rfl, ⟨oI, (N₄ _ (.head _)).1, hc, hd⟩, F₄, fun p hp => N₄ p (.tail _ hp), off, hJ₄, hlt, rfl⟩
theorem iter_iterI {I l : Addr} {lo : Obj} {items : Array Value} {n : Nat} {m₀ : Str → Option Value} {news : List (Addr × Obj)} (J : Nat → (Str → Option Value) → List (Addr × Obj) → Prop)
    (hh : A.handled = none) (F : Fr h₀ env.locals s.heap m₀) (N : News h₀ env.locals s.heap ((I, itL l) :: news)) (hlc : lo.cls = .type "list") (hld : lo.data = .seq items n) (hnw : ∀ p ∈ news, p.1 ≠ I) (h0 : J 0 m₀ news)
    (hsrc : ∀ i m₁ news₁, J i m₁ news₁ → (l, lo) ∈ news₁)
    (turn : ∀ i v m₁ news₁ h tk oI, items[i]? = some v → J i m₁ news₁ → (∀ p ∈ news₁, p.1 ≠ I) → Fr h₀ env.locals h (fun y => if y = x then some v else m₁ y) → News h₀ env.locals h ((I, oI) :: news₁) →
      wpAny (model prog w) A (execs body env) (TurnE h₀ env.locals I oI (J (i + 1)) { s with heap := h, toks := tk } Q) E { s with heap := h, toks := tk })
    (done : ∀ m₁ news₁ h tk, J items.size m₁ news₁ → Fr h₀ env.locals h m₁ → News h₀ env.locals h news₁ → Q .next { s with heap := h, toks := tk }) :
    wpAny (model prog w) A (pyIter (.ref I)) (fun it s₂ => LoopI prog w A h₀ env x body Q E it s₂) E s := by
  have hi := N _ (.head _)
  have hit : s.heap.IsListIter I l 0 := ⟨_, hi.1, rfl, rfl⟩
  refine wpAny_pyIter_listiter hit ?_
  exact ⟨I, l, lo, items, n, m₀, news, J, rfl, hh, hit, hlc, hld, hi.2.2, fun e => hi.2.1 e.symm, hnw, F, fun p hp => N p (.tail _ hp), h0, hsrc, turn, done⟩
end
end Mine
end
section
open PySem PySem.W PyProof.Rows PySem.Calls
namespace Mine
open LCg LCt
theorem off1_mem {D : Addr} {l : List (Addr × Obj)} (h : Off1 D l) : ∀ p ∈ l, p.1 ≠ D := by
  induction l with
  | nil => intro p hp; cases hp
  | cons q r ih =>
    intro p hp
    rcases List.mem_cons.mp hp with rfl | hp
    · exact h.1
    · exact ih h.2 p hp
section
variable {prog : Program} {w : World} {A : Around} {s : Shared} {h₀ : Heap} {L : Addr} {m : Str → Option Value} {env : Env} {elt ct : PySem.Expr} {x : Str} {scope : Scope} {cl : List (Str × Addr)} {S : List (Addr × Obj) → Prop} {P : Nat → Value → Prop} {Fin : List Value → List (Addr × Obj) → Prop} {news : List (Addr × Obj)}
theorem comp_ind {n : Nat} (J : Nat → List Value → List (Addr × Obj) → Prop) (h0 : J 0 [] news)
    (turn : ∀ i v ys nw I oI C oC D m₂ h tk (E' : Value → Shared → Prop), i < n → P i v → J i ys nw → NsObj oC m₂ → m₂ x = some v → Fr h₀ L h m → News h₀ L h ((I, oI) :: (C, oC) :: (D, lst ys) :: nw) → Off3 I C D nw → ((@Ne Nat I C) ∧ (@Ne Nat I D) ∧ (@Ne Nat C D)) →
      wpAny (model prog w) A (eval elt (compEnvC scope cl C env)) (CompEnd h₀ L m { s with heap := h, toks := tk } I oI C oC D (lst ys) S (fun y nw' => J (i + 1) (ys ++ [y]) nw')) E' { s with heap := h, toks := tk })
    (fin : ∀ ys nw, J n ys nw → Fin ys nw) : CompRest prog w A h₀ L m env elt x scope cl s S P Fin n 0 [] news := by
  have key : ∀ (j i : Nat) (ys : List Value) (nw : List (Addr × Obj)), i + j = n → J i ys nw → CompRest prog w A h₀ L m env elt x scope cl s S P Fin j i ys nw := by
    intro j
    induction j with
    | zero =>
      intro i ys nw hi hJ
      have e : i = n := by omega
      subst e
      exact CompRest.zero (fin ys nw hJ)
    | succ j ih =>
      intro i ys nw hi hJ
      refine CompRest.succ ?_
      intro v I oI C oC D m₂ h tk E' hv hC hx F N off ne
      refine wpAny_mono (turn i v ys nw I oI C oC D m₂ h tk E' (by omega) hv hJ hC hx F N off ne) (fun y s₂ hq => ?_) fun _ _ e => e
      obtain ⟨h', tk', nw', e, F', N', off', hS, hJ'⟩ := hq
      exact ⟨h', tk', nw', e, F', N', off', hS, ih (i + 1) _ _ (by omega) hJ'⟩
  exact key n 0 [] news (by omega) h0
theorem comp_indT {n : Nat} (J : Nat → List Value → List (Addr × Obj) → Prop) (h0 : J 0 [] news)
    (turn : ∀ i v ys nw I oI C oC D m₂ h tk (E' : Value → Shared → Prop), i < n → P i v → J i ys nw → NsObj oC m₂ → m₂ x = some v → Fr h₀ L h m → News h₀ L h ((I, oI) :: (C, oC) :: (D, lst ys) :: nw) → Off3 I C D nw → ((@Ne Nat I C) ∧ (@Ne Nat I D) ∧ (@Ne Nat C D)) →
      wpAny (model prog w) A (isTrue ct (compEnvC scope cl C env) (eval ct (compEnvC scope cl C env))) (fun ok s' => if ok = true then
        wpAny (model prog w) A (eval elt (compEnvC scope cl C env)) (CompEnd h₀ L m { s with heap := h, toks := tk } I oI C oC D (lst ys) S (fun y nw' => J (i + 1) (ys ++ [y]) nw')) E' s'
        else CompEnd h₀ L m { s with heap := h, toks := tk } I oI C oC D (lst ys) S (fun _ nw' => J (i + 1) ys nw') Value.none s') E' { s with heap := h, toks := tk })
    (fin : ∀ ys nw, J n ys nw → Fin ys nw) : CompRestT prog w A h₀ L m env ct elt x scope cl s S P Fin n 0 [] news := by
  have key : ∀ (j i : Nat) (ys : List Value) (nw : List (Addr × Obj)), i + j = n → J i ys nw → CompRestT prog w A h₀ L m env ct elt x scope cl s S P Fin j i ys nw := by
    intro j
    induction j with
    | zero =>
      intro i ys nw hi hJ
      have e : i = n := by omega
      subst e
      exact CompRestT.zero (fin ys nw hJ)
    | succ j ih =>
      intro i ys nw hi hJ
      refine CompRestT.succ ?_
      intro v I oI C oC D m₂ h tk E' hv hC hx F N off ne
      refine wpAny_mono (turn i v ys nw I oI C oC D m₂ h tk E' (by omega) hv hJ hC hx F N off ne) (fun ok s₂ hq => ?_) fun _ _ e => e
      split at hq
      · rw [if_pos (by assumption)]
        refine wpAny_mono hq (fun y s₃ hq => ?_) fun _ _ e => e
        obtain ⟨h', tk', nw', e, F', N', off', hS, hJ'⟩ := hq
        exact ⟨h', tk', nw', e, F', N', off', hS, ih (i + 1) _ _ (by omega) hJ'⟩
      · rw [if_neg (by assumption)]
        obtain ⟨h', tk', nw', e, F', N', off', hS, hJ'⟩ := hq
        exact ⟨h', tk', nw', e, F', N', off', hS, ih (i + 1) _ _ (by omega) hJ'⟩
  exact key n 0 [] news (by omega) h0
end
end Mine
end
section
open PySem PySem.W PyProof.Rows PySem.Calls
namespace Mine
open LCg LCt
theorem lookup_relabel_cell {env : Env} : ∀ {names : List (Str × NameKind)} {x : Str}, names.lookup x = some .cell →
    (names.map fun (n, k) => if (k == NameKind.free && env.scope.kind == .function && env.kindOf n == some .cell) then (n, NameKind.cell) else (n, k)).lookup x = some .cell
  | [], _, h => by simp at h
  | (n, k) :: r, x, h => by
    have ih := @lookup_relabel_cell env r x
    show List.lookup x ((if (k == NameKind.free && env.scope.kind == .function && env.kindOf n == some .cell) = true then (n, NameKind.cell) else (n, k)) :: _) = _
    cases hx : x == n with
    | true =>
      simp only [List.lookup_cons, hx] at h
      cases h
      simp [List.lookup_cons, hx]
    | false =>
      simp only [List.lookup_cons, hx] at h
      by_cases hc : (k == NameKind.free && env.scope.kind == .function && env.kindOf n == some .cell) = true
      · rw [if_pos hc]; simp only [List.lookup_cons, hx]; exact ih h
      · rw [if_neg hc]; simp only [List.lookup_cons, hx]; exact ih h
theorem newEnv_cell {M : Model} {A : Around} {E : Value → Shared → Prop} {s : Shared} {scope : Scope} {globals : Addr} {cl : List (Str × Addr)} {qual : Str} {env : Env} {x : Str} {Q : Env → Shared → Prop}
    (hc1 : ∀ k, cellsFrom k scope.names cl = (x, k) :: cl) (hp1 : ∀ h, pushCells h scope.names = h.push { cls := .type "cell", data := .cell none })
    (hQ : Q { scope, locals := s.heap.objs.size, globals, cells := (x, s.heap.objs.size + 1) :: cl, qual, func := none, code := env.code, frame := env.frame, builtins := env.builtins }
      { s with heap := (s.heap.push { cls := .type "dict", data := .dict #[] }).push { cls := .type "cell", data := .cell none } }) :
    wpAny M A (newFunctionEnv scope globals cl [] qual none .none (some env)) Q E s := by
  simp only [newFunctionEnv, Option.isSome_some, if_true]
  refine wpAny_bind (wpAny_alloc ?_)
  refine wpAny_bind (wpAny_layCells _ (fun name kind cells => by cases hkc : kind == NameKind.cell <;> simp [hkc]) _ _ _ _ ?_)
  rw [hc1, hp1, List.forIn_nil]
  refine wpAny_bind (wpAny_pure (wpAny_pure ?_))
  rw [show ({ s with heap := s.heap.push { cls := .type "dict", data := .dict #[] } } : Shared).heap.objs.size = s.heap.objs.size + 1 from Heap.size_push ..]
  exact hQ
def Off4 (I C K D : Addr) (l : List (Addr × Obj)) : Prop := ∀ p ∈ l, (@Ne Nat p.1 I) ∧ (@Ne Nat p.1 C) ∧ (@Ne Nat p.1 K) ∧ (@Ne Nat p.1 D)
theorem off1_of {D : Addr} : ∀ {l : List (Addr × Obj)}, (∀ p ∈ l, (@Ne Nat p.1 D)) → Off1 D l
  | [], _ => trivial
  | _ :: _, h => ⟨h _ (.head _), off1_of fun p hp => h p (.tail _ hp)⟩
section
variable {prog : Program} {w : World} {A : Around} {E : Value → Shared → Prop} {s : Shared} {h₀ : Heap} {L : Addr} {m : Str → Option Value} {env : Env}
/-- what a turn of a block whose target is a cell leaves -/
def CEnd (h₀ : Heap) (L : Addr) (m : Str → Option Value) (s₁ : Shared) (I : Addr) (oI : Obj) (C : Addr) (oC : Obj) (K : Addr) (oK : Obj) (D : Addr) (oD : Obj) (rest : Value → List (Addr × Obj) → Prop) (y : Value) (s₂ : Shared) : Prop :=
  ∃ h' tk nw, s₂ = { s₁ with heap := h', toks := tk } ∧ Fr h₀ L h' m ∧ News h₀ L h' ((I, oI) :: (C, oC) :: (K, oK) :: (D, oD) :: nw) ∧ Off4 I C K D nw ∧ rest y nw
def CTurn (prog : Program) (w : World) (A : Around) (h₀ : Heap) (L : Addr) (m : Str → Option Value) (env : Env) (elt : PySem.Expr) (ifs : List PySem.Expr) (x : Str) (scope : Scope) (cl : List (Str × Addr)) (s₂ : Shared) (n : Nat) (P : Nat → Value → Prop) (J : Nat → List Value → List (Addr × Obj) → Prop) : Prop :=
  ∀ i v ys nw I oI C oC K oK D h tk (E' : Value → Shared → Prop), i < n → P i v → J i ys nw → oK.data = .cell (some v) → Fr h₀ L h m → News h₀ L h ((I, oI) :: (C, oC) :: (K, oK) :: (D, lst ys) :: nw) → Off4 I C K D nw →
      ((@Ne Nat I C) ∧ (@Ne Nat I K) ∧ (@Ne Nat I D) ∧ (@Ne Nat C K) ∧ (@Ne Nat C D) ∧ (@Ne Nat K D)) →
      wpAny (model prog w) A (forIn ifs true fun c r => if r = true then do let ok ← isTrue c (compEnvC scope ((x, K) :: cl) C env) (eval c (compEnvC scope ((x, K) :: cl) C env)); pure (ForInStep.yield ok) else pure (ForInStep.yield r)) (fun ok s' => if ok = true then
        wpAny (model prog w) A (eval elt (compEnvC scope ((x, K) :: cl) C env)) (CEnd h₀ L m { s₂ with heap := h, toks := tk } I oI C oC K oK D (lst ys) (fun y nw' => J (i + 1) (ys ++ [y]) nw')) E' s'
        else CEnd h₀ L m { s₂ with heap := h, toks := tk } I oI C oC K oK D (lst ys) (fun _ nw' => J (i + 1) ys nw') Value.none s') E' { s₂ with heap := h, toks := tk }
theorem block_C {elt iter : PySem.Expr} {x : Str} {px : Pos} {ifs : List PySem.Expr} {scope : Scope} {cl : List (Str × Addr)} {pos : Pos} {s₂ : Shared} {I : Addr} {fp : List Addr} {n : Nat} {P : Nat → Value → Prop} {St : Nat → Heap → Prop} {S : List (Addr × Obj) → Prop} {news : List (Addr × Obj)}
    {J : Nat → List Value → List (Addr × Obj) → Prop} {RR : Value → Addr → Result → Shared → Prop}
    (W : Walks prog w A I fp [I] n P St) (hsz : n ≤ sizeLine) (hIo : ∀ i h, St i h → ∃ o, h.get? I = some o)
    (hSt : ∀ i h h' o nw, St i h → h.get? I = some o → h'.get? I = some o → (∀ b o, h₀.get? b = some o → h'.get? b = some o) → News h₀ L h' nw → S nw → St i h')
    (hc1 : ∀ k, cellsFrom k scope.names cl = (x, k) :: cl) (hp1 : ∀ h, pushCells h scope.names = h.push { cls := .type "cell", data := .cell none })
    (hkind : scope.kind = .function) (hx : scope.names.lookup x = some .cell) (hst : St 0 s₂.heap) (hfp : ∀ b ∈ fp, b < s₂.heap.objs.size)
    (F : Fr h₀ L s₂.heap m) (N : News h₀ L s₂.heap news) (hIL : L ≠ I) (hI₀ : h₀.get? I = none) (off : ∀ p ∈ news, p.1 ≠ I)
    (hJS : ∀ i ys nw, J i ys nw → S nw ∧ ys.length ≤ i) (h0 : J 0 [] news)
    (turn : CTurn prog w A h₀ L m env elt ifs x scope cl s₂ n P J)
    (hRR : ∀ D C h tk m' ys news', Fr h₀ L h m → News h₀ L h ((D, lst ys) :: news') → (∀ p ∈ news', (@Ne Nat p.1 D)) → h.Ns C m' → h₀.get? C = none → h₀.get? D = none → C ≠ L → D ≠ L → C ≠ D → (∀ p ∈ news', p.1 ≠ C) → J n ys news' → RR (.ref D) C (.ok .next) { s₂ with heap := h, toks := tk }) :
    wpAny (model prog w) A (newList []) (fun acc s₃ => wpAny (model prog w) A (newFunctionEnv scope env.globals cl [] env.qual none .none (some env)) (fun cenv s₄ =>
      codeAny (model prog w) A (.compStart (.ListComp elt [⟨.Name x px, iter, ifs, 0⟩] scope pos) 0 (.ref I) acc { cenv with scope := relabel scope env }) (RR acc cenv.locals) s₄) E s₃) E s₂ := by
  refine wpAny_newObj_type (newEnv_cell hc1 hp1 ?_)
  dsimp only
  generalize hH2 : s₂.heap.push { cls := .type "list", dict := none, data := .seq ([] : List Value).toArray } = H2
  have hC : H2.objs.size = s₂.heap.objs.size + 1 := by rw [← hH2, Heap.size_push]
  generalize hK : H2.objs.size + 1 = K
  generalize hh1 : (H2.push { cls := .type "dict", data := .dict #[] }).push { cls := .type "cell", data := .cell none } = h₁
  have hDC : s₂.heap.objs.size ≠ H2.objs.size := by rw [hC]; exact Nat.ne_of_lt (Nat.lt_succ_self _)
  have hDK : s₂.heap.objs.size ≠ K := by rw [← hK, hC]; exact Nat.ne_of_lt (Nat.lt_succ_of_lt (Nat.lt_succ_self _))
  have hCK : H2.objs.size ≠ K := by rw [← hK]; exact Nat.ne_of_lt (Nat.lt_succ_self _)
  have below : ∀ b, b < s₂.heap.objs.size → b ≠ H2.objs.size ∧ b ≠ s₂.heap.objs.size ∧ b ≠ K := fun b hb => ⟨by rw [hC]; exact Nat.ne_of_lt (Nat.lt_succ_of_lt hb), Nat.ne_of_lt hb, by rw [← hK, hC]; exact Nat.ne_of_lt (Nat.lt_succ_of_lt (Nat.lt_succ_of_lt hb))⟩
  have hDf : s₂.heap.objs.size ∉ fp := fun hm => Nat.lt_irrefl _ (hfp _ hm)
  have hCf : H2.objs.size ∉ fp := fun hm => (below _ (hfp _ hm)).1 rfl
  have hKf : K ∉ fp := fun hm => (below _ (hfp _ hm)).2.2 rfl
  have hIf : I ∈ fp := W.sub I (List.mem_singleton.mpr rfl)
  have hIlt : I < s₂.heap.objs.size := hfp I hIf
  have up1 : ∀ b o, H2.get? b = some o → h₁.get? b = some o := fun b o e => by rw [← hh1]; exact Heap.get?_push_of_some _ (Heap.get?_push_of_some _ e)
  have old : ∀ b o, s₂.heap.get? b = some o → h₁.get? b = some o := fun b o e => up1 b o (hH2 ▸ Heap.get?_push_of_some _ e)
  have hacc : h₁.get? s₂.heap.objs.size = some (lst []) := up1 _ _ (hH2 ▸ Heap.get?_push_size _ rfl)
  have hns₁ : h₁.Ns H2.objs.size (fun _ => none) := by
    rw [← hh1]
    exact (Heap.Ns.new H2 (.type "dict")).keeps fun b o e => Heap.get?_push_of_some _ e
  have hkc₁ : h₁.IsCell K none := ⟨_, by rw [← hh1, ← hK, ← show (H2.push ({ cls := .type "dict", data := .dict #[] } : Obj)).objs.size = H2.objs.size + 1 from Heap.size_push ..]; exact Heap.get?_push_size _ rfl, rfl⟩
  have hst₁ : St 0 h₁ := W.frame _ _ _ hst fun b _ o e => old b o e
  have fresh : ∀ a, s₂.heap.objs.size ≤ a → s₂.heap.get? a = none := fun a ha => by
    cases e : s₂.heap.get? a with
    | none => rfl
    | some o' => exact absurd (Heap.lt_size e) (Nat.not_lt.mpr ha)
  have fresh₀ : ∀ a, s₂.heap.objs.size ≤ a → h₀.get? a = none := fun a ha => by
    cases e : h₀.get? a with
    | none => rfl
    | some o' => have := F.keep a o' e; rw [fresh a ha] at this; cases this
  have hD₀ : h₀.get? s₂.heap.objs.size = none := fresh₀ _ (Nat.le_refl _)
  have hC₀ : h₀.get? H2.objs.size = none := fresh₀ _ (by rw [hC]; exact Nat.le_succ _)
  have hK₀ : h₀.get? K = none := fresh₀ _ (by rw [← hK, hC]; exact Nat.le_succ_of_le (Nat.le_succ _))
  have hLlt : L < s₂.heap.objs.size := F.ns.lt
  have hDL : s₂.heap.objs.size ≠ L := Ne.symm (below L hLlt).2.1
  have hCL : H2.objs.size ≠ L := Ne.symm (below L hLlt).1
  have hKL : K ≠ L := Ne.symm (below L hLlt).2.2
  have hCI : I ≠ H2.objs.size := (below I hIlt).1
  have hDI : I ≠ s₂.heap.objs.size := (below I hIlt).2.1
  have hKI : I ≠ K := (below I hIlt).2.2
  have off₀ : Off4 I H2.objs.size K s₂.heap.objs.size news := fun p hp => ⟨off p hp, (below _ (Heap.lt_size (N p hp).1)).1, (below _ (Heap.lt_size (N p hp).1)).2.2, (below _ (Heap.lt_size (N p hp).1)).2.1⟩
  have hxk : List.lookup x ((x, K) :: cl) = some K := by simp [List.lookup_cons]
  have loop : ∀ s₃ : Shared, s₃ = { s₂ with heap := h₁ } →
      codeAny (model prog w) A (.compLoop (.ListComp elt [⟨.Name x px, iter, ifs, 0⟩] scope pos) 0 (.ref I) (.ref s₂.heap.objs.size) (compEnvC scope ((x, K) :: cl) H2.objs.size env))
        (RR (.ref s₂.heap.objs.size) H2.objs.size) s₃ := by
    rintro s₃ rfl
    refine codeAny_compLoop_tests
      (fun k s' => ∃ h' tk i ys m' news' v₀, s' = { s₂ with heap := h', toks := tk } ∧ i ≤ n ∧ k = n + 1 - i ∧ St i h' ∧ Fr h₀ L h' m ∧ h'.Ns H2.objs.size m' ∧ h'.IsCell K v₀ ∧ News h₀ L h' ((s₂.heap.objs.size, lst ys) :: news') ∧
        Off4 I H2.objs.size K s₂.heap.objs.size news' ∧ J i ys news') ?_ (n + 1)
      ⟨h₁, _, 0, [], _, news, _, rfl, Nat.zero_le _, rfl, hst₁, F.keeps old, hns₁, hkc₁, fun p hp => ?_, off₀, h0⟩
    · rintro k s' ⟨h', tk, i, ys, m', news', v₀, rfl, hi, rfl, hst', F', hn', hk', N', off', hJ⟩
      by_cases hlt : i < n
      · refine W.item i _ _ _ hlt hst' fun v h₂ tk₂ hPv hst₂ hk₂ => ?_
        refine wpAny_assign_Name (wpAny_storeName_cell (env := compEnvC scope ((x, K) :: cl) H2.objs.size env) (by exact hkind) (lookup_relabel_cell hx) hxk (v₀ := v₀) ?_ (fun h₃ hc₃ hs₃ => ?_))
        · obtain ⟨o, e, d⟩ := hk'
          exact ⟨o, hk₂ _ o (by simpa using Ne.symm hKI) e, d⟩
        have hn₃ : h₃.Ns H2.objs.size m' := (hn'.at' fun o e => hk₂ _ o (by simpa using Ne.symm hCI) e).sameBut hs₃ hCK
        have hst₃ : St (i + 1) h₃ := W.frame _ _ _ hst₂ fun b hb o e => hs₃.extBut b o (fun q => hKf (by have q' : b = K := q; rw [← q']; exact hb)) e
        obtain ⟨oI, heI⟩ := hIo _ _ hst₃
        obtain ⟨oC, heC, hoC⟩ := ns_obj hn₃
        obtain ⟨oK, heK, hoK⟩ := hc₃
        have F₃ : Fr h₀ L h₃ m := (fr_but F' hk₂ hIL hI₀).change hs₃ hKL hK₀
        have N₂ : News h₀ L h₂ ((s₂.heap.objs.size, lst ys) :: news') := news_but N' hk₂ fun p hp => by
          rcases List.mem_cons.mp hp with rfl | hp
          · exact Ne.symm hDI
          · exact (off' p hp).1
        have N₃ : News h₀ L h₃ ((I, oI) :: (H2.objs.size, oC) :: (K, oK) :: (s₂.heap.objs.size, lst ys) :: news') := fun p hp => by
          rcases List.mem_cons.mp hp with rfl | hp
          · exact ⟨heI, Ne.symm hIL, hI₀⟩
          · rcases List.mem_cons.mp hp with rfl | hp
            · exact ⟨heC, hCL, hC₀⟩
            · rcases List.mem_cons.mp hp with rfl | hp
              · exact ⟨heK, hKL, hK₀⟩
              · have z := N₂ p hp
                refine ⟨hs₃.extBut _ _ ?_ z.1, z.2⟩
                rcases List.mem_cons.mp hp with rfl | hp
                · exact hDK
                · exact (off' p hp).2.2.1
        refine wpAny_mono (turn i v ys news' I oI H2.objs.size oC K oK s₂.heap.objs.size h₃ _ _ hlt hPv hJ hoK F₃ N₃ off' ⟨hCI, hKI, hDI, hCK, Ne.symm hDC, Ne.symm hDK⟩) (fun ok s₄ h₄ => ?_) fun _ _ e => e
        cases ok with
        | true =>
          simp only [if_true] at h₄ ⊢
          refine wpAny_mono h₄ (fun y s₅ h₅ => ?_) fun _ _ e => e
          obtain ⟨h₄, tk₄, news₄, rfl, F₄, N₄, off₄, J₄⟩ := h₅
          have zI := (N₄ (I, oI) (.head _)).1
          have zC := (N₄ (H2.objs.size, oC) (.tail _ (.head _))).1
          have zK := (N₄ (K, oK) (.tail _ (.tail _ (.head _)))).1
          have zD := (N₄ (s₂.heap.objs.size, lst ys) (.tail _ (.tail _ (.tail _ (.head _))))).1
          have N₄' : News h₀ L h₄ news₄ := fun p hp => N₄ p (.tail _ (.tail _ (.tail _ (.tail _ hp))))
          have hst₄ : St (i + 1) h₄ := hSt _ _ _ _ _ hst₃ heI zI F₄.keep N₄' (hJS _ _ _ J₄).1
          refine append_at (hsz := by show ys.toArray.size ≤ sizeLine; rw [List.size_toArray]; exact Nat.le_trans (Nat.le_trans (hJS _ _ _ hJ).2 hi) hsz) zD fun h₅ hs₅ hD₅ => ?_
          refine ⟨n + 1 - (i + 1), by omega, h₅, tk₄, i + 1, ys ++ [y], m', news₄, some v, rfl, hlt, rfl, W.frame _ _ _ hst₄ fun b hb o e => hs₅.extBut b o (fun q => hDf (q ▸ hb)) e, F₄.change hs₅ hDL hD₀,
            (hoC.ns zC).sameBut hs₅ (Ne.symm hDC), Heap.IsCell.sameBut ⟨oK, zK, hoK⟩ hs₅ (Ne.symm hDK), fun p hp => ?_, off₄, J₄⟩
          rcases List.mem_cons.mp hp with rfl | hp
          · exact ⟨hD₅.trans (congrArg some (lst_snoc ys y)), hDL, hD₀⟩
          · exact ⟨hs₅.extBut _ _ (off₄ p hp).2.2.2 (N₄' p hp).1, (N₄' p hp).2⟩
        | false =>
          simp only [Bool.false_eq_true, if_false] at h₄ ⊢
          obtain ⟨h₅, tk₄, news₄, rfl, F₄, N₄, off₄, J₄⟩ := h₄
          have zI := (N₄ (I, oI) (.head _)).1
          have zC := (N₄ (H2.objs.size, oC) (.tail _ (.head _))).1
          have zK := (N₄ (K, oK) (.tail _ (.tail _ (.head _)))).1
          have N₄' : News h₀ L h₅ news₄ := fun p hp => N₄ p (.tail _ (.tail _ (.tail _ (.tail _ hp))))
          have hst₄ : St (i + 1) h₅ := hSt _ _ _ _ _ hst₃ heI zI F₄.keep N₄' (hJS _ _ _ J₄).1
          refine ⟨n + 1 - (i + 1), by omega, h₅, tk₄, i + 1, ys, m', news₄, some v, rfl, hlt, rfl, hst₄, F₄, hoC.ns zC, ⟨oK, zK, hoK⟩, fun p hp => ?_, off₄, J₄⟩
          rcases List.mem_cons.mp hp with rfl | hp
          · exact N₄ _ (.tail _ (.tail _ (.tail _ (.head _))))
          · exact N₄' p hp
      · obtain rfl : i = n := Nat.le_antisymm hi (Nat.not_lt.mp hlt)
        refine W.done _ _ _ hst' fun h₂ tk₂ hk₂ => ?_
        exact hRR _ _ h₂ tk₂ _ ys news' (fr_but F' hk₂ hIL hI₀) (news_but N' hk₂ fun p hp => by
          rcases List.mem_cons.mp hp with rfl | hp
          · exact Ne.symm hDI
          · exact (off' p hp).1) (fun p hp => (off' p hp).2.2.2) (hn'.at' fun o e => hk₂ _ o (by simpa using Ne.symm hCI) e) hC₀ hD₀ hCL hDL (Ne.symm hDC) (fun p hp => (off' p hp).2.1) hJ
    · rcases List.mem_cons.mp hp with rfl | hp
      · exact ⟨hacc, hDL, hD₀⟩
      · exact ⟨old _ _ (N p hp).1, (N p hp).2⟩
  exact codeAny_compStart_list (loop _ rfl) (W.self 0 _ _ _ hst₁ (loop _ rfl))
/-- a block over a range whose target is a cell -/
def CSrcR (prog : Program) (w : World) (A : Around) (h₀ : Heap) (L : Addr) (m : Str → Option Value) (env : Env) (elt : PySem.Expr) (ifs : List PySem.Expr) (x : Str) (scope : Scope) (cl : List (Str × Addr)) (Q : Value → Shared → Prop) (xv : Value) (s₁ : Shared) : Prop :=
  ∃ r a b t u v n news J, xv = .ref r ∧ A.handled = none ∧ Fr h₀ L s₁.heap m ∧ News h₀ L s₁.heap news ∧ IsRange s₁.heap r a b 1 t u v ∧ Builtin.Range.small a b 1 = true ∧ Builtin.Range.rangeSize a b 1 = ((n : Nat) : Int) ∧ n ≤ sizeLine ∧
    (∀ i ys nw, J i ys nw → ys.length ≤ i) ∧ J 0 [] news ∧
    (∀ g, CTurn prog w A h₀ L m env elt ifs x scope cl { s₁ with heap := g } n (fun i v => ∃ t, v = .int (a + (i : Int)) t) J) ∧
    (∀ ys nw D h tk, J n ys nw → Fr h₀ L h m → News h₀ L h ((D, lst ys) :: nw) → (∀ p ∈ nw, (@Ne Nat p.1 D)) → Q (.ref D) { s₁ with heap := h, toks := tk })
theorem ListComp_C {elt iter : PySem.Expr} {ifs : List PySem.Expr} {x : Str} {px : Pos} {scope : Scope} {cl : List (Str × Addr)} {pos : Pos} {Q : Value → Shared → Prop} (F₀ : Fr h₀ L s.heap m)
    (hclos : closureFor scope env = pure cl) (hc1 : ∀ k, cellsFrom k scope.names cl = (x, k) :: cl) (hp1 : ∀ h, pushCells h scope.names = h.push { cls := .type "cell", data := .cell none }) (hkind : scope.kind = .function)
    (hnames : ∀ y ∈ scope.names, y.2 = .local → scope.names.lookup y.1 = some .local) (hx : scope.names.lookup x = some .cell)
    (h : wpAny (model prog w) A (eval iter env) (CSrcR prog w A h₀ L m env elt ifs x scope cl Q) E s)
    (hs : ∀ x, foldedSetIterable iter env x = pure x := by intro _; rfl) :
    wpAny (model prog w) A (eval (.ListComp elt [⟨.Name x px, iter, ifs, 0⟩] scope pos) env) Q E s := by
  rw [eval_ListComp]
  refine wpAny_comprehension_free (use := none) rfl hs hclos hkind hnames (wpAny_mono h (fun xv s₁ h₁ => ?_) fun _ _ e => e)
  obtain ⟨r, a, b, t, u, v, n, news, J, rfl, hh, F, N, hr, hsm, hn, hsz, hlen, h0, turn, fin⟩ := h₁
  refine wpAny_pyIter_range hr hsm ?_
  refine block_C (S := fun _ => True) (J := J) (range_walks hh a n) hsz (fun i h st => ⟨_, st⟩) range_st hc1 hp1 hkind hx (by show IsRangeIter _ _ _ _ _; rw [hn]; simpa using Heap.get?_push_size _ rfl) (fun b hb => ?_)
    (F.keeps fun _ _ e => Heap.get?_push_of_some _ e) (N.grown fun _ _ e => Heap.get?_push_of_some _ e) (Nat.ne_of_lt F.ns.lt) (next_is_new F) (fun p hp => Nat.ne_of_lt (Heap.lt_size (N p hp).1)) (fun i ys nw hJ => ⟨trivial, hlen i ys nw hJ⟩) h0 (turn _) ?_
  · rw [List.mem_singleton.mp hb]
    show s₁.heap.objs.size < (s₁.heap.push _).objs.size
    rw [Heap.size_push]; exact Nat.lt_succ_self _
  · intro D C h tk m' ys news' F' N' o1 hn hC₀ hD₀ hCL hDL hCD offC hJ
    refine ⟨m', hn, fun h'' hs'' => fin ys news' D h'' tk hJ (F'.change hs'' hCL hC₀) (fun p hp => ?_) o1⟩
    refine ⟨hs''.extBut _ _ ?_ (N' p hp).1, (N' p hp).2⟩
    rcases List.mem_cons.mp hp with rfl | hp
    · exact Ne.symm hCD
    · exact offC p hp
/-- a block over a list of the ledger's whose target is a cell; its value is kept under a local name -/
def CSrcL (prog : Program) (w : World) (A : Around) (h₀ : Heap) (L : Addr) (m : Str → Option Value) (env : Env) (elt : PySem.Expr) (ifs : List PySem.Expr) (x y : Str) (scope : Scope) (cl : List (Str × Addr)) (Q : Flow → Shared → Prop) (xv : Value) (s₁ : Shared) : Prop :=
  ∃ ax its k news J, xv = .ref ax ∧ A.handled = none ∧ Fr h₀ L s₁.heap m ∧ News h₀ L s₁.heap news ∧ (∀ i ys nw, J i ys nw → (ax, ({ cls := .type "list", data := .seq its k } : Obj)) ∈ nw ∧ ys.length ≤ i) ∧ its.size ≤ sizeLine ∧
    J 0 [] news ∧ (∀ g, CTurn prog w A h₀ L m env elt ifs x scope cl { s₁ with heap := g } its.size (fun i v => its[i]? = some v) J) ∧
    (∀ ys nw D h tk, J its.size ys nw → Fr h₀ L h (fun z => if z = y then some (.ref D) else m z) → News h₀ L h ((D, lst ys) :: nw) → (∀ p ∈ nw, (@Ne Nat p.1 D)) → Q .next { s₁ with heap := h, toks := tk })
theorem Assign_ListComp_C {elt iter : PySem.Expr} {ifs : List PySem.Expr} {x y : Str} {px py : Pos} {scope : Scope} {cl : List (Str × Addr)} {pos spos : Pos} {Q : Flow → Shared → Prop} (F₀ : Fr h₀ L s.heap m) (hLe : env.locals = L)
    (hsw : swapsWith (.ListComp elt [⟨.Name x px, iter, ifs, 0⟩] scope pos) (some (.Name y py)) spos.line env = pure true)
    (hclos : closureFor scope env = pure cl) (hc1 : ∀ k, cellsFrom k scope.names cl = (x, k) :: cl) (hp1 : ∀ h, pushCells h scope.names = h.push { cls := .type "cell", data := .cell none }) (hkind : scope.kind = .function)
    (hnames : ∀ z ∈ scope.names, z.2 = .local → scope.names.lookup z.1 = some .local) (hx : scope.names.lookup x = some .cell)
    (hy : env.kindOf y = some .local) (hp : (env.scope.kind == .class || (env.scope.kind == .module && env.locals != env.globals)) = false)
    (h : wpAny (model prog w) A (eval iter env) (CSrcL prog w A h₀ L m env elt ifs x y scope cl Q) E s)
    (hs : ∀ x, foldedSetIterable iter env x = pure x := by intro _; rfl) :
    wpAny (model prog w) A (exec (.Assign [.Name y py] (.ListComp elt [⟨.Name x px, iter, ifs, 0⟩] scope pos) spos) env) Q E s := by
  subst hLe
  rw [exec_Assign_Name_used _ _ _ _ hsw]
  refine wpAny_bind (wpAny_standAt (wpAny_bind ?_))
  show wpAny _ A (do let _ ← comprehension (.ListComp elt [⟨.Name x px, iter, ifs, 0⟩] scope pos) scope env _ (newList []) false (eval iter env) (some (assign (.Name y py) env))) _ _ s
  refine wpAny_bind (wpAny_mono (wpAny_comprehension_free (use := some (assign (.Name y py) env)) (Q := fun _ s' => Q .next s') rfl hs hclos hkind hnames
    (wpAny_mono h (fun xv s₁ h₁ => ?_) fun _ _ e => e)) (fun _ s' hq => wpAny_pure (wpAny_pure hq)) fun _ _ e => e)
  obtain ⟨ax, its, k, news, J, rfl, hh, F, N, hJS, hsz, h0, turn, fin⟩ := h₁
  have S : SrcAt h₀ ax its news := .inr ⟨_, (hJS _ _ _ h0).1, rfl, _, rfl⟩
  have hl := S.list F.keep N
  have hlt : ax < s₁.heap.objs.size := by obtain ⟨_, e, _⟩ := hl; exact Heap.lt_size e
  refine wpAny_pyIter_list hl ?_
  have up : ∀ b o, s₁.heap.get? b = some o → (s₁.heap.push { cls := .type "list_iterator", data := .fields #[.ref ax, .int 0 0] }).get? b = some o := fun b o e => Heap.get?_push_of_some _ e
  refine block_C (S := SrcAt h₀ ax its) (J := J) (Walks.list hh s₁.heap.objs.size ax (Nat.ne_of_lt hlt) its) hsz (fun i h st => by obtain ⟨o, e, _⟩ := st.1; exact ⟨o, e⟩) list_st hc1 hp1 hkind hx ⟨⟨_, Heap.get?_push_size _ rfl, rfl, rfl⟩, hl.push _⟩ (fun b hb => ?_)
    (F.keeps up) (N.grown up) (Nat.ne_of_lt F.ns.lt) (next_is_new F) (fun p hp => Nat.ne_of_lt (Heap.lt_size (N p hp).1)) (fun i ys nw hJ => ⟨.inr ⟨_, (hJS _ _ _ hJ).1, rfl, _, rfl⟩, (hJS _ _ _ hJ).2⟩) h0 (turn _) ?_
  · show b < (s₁.heap.push _).objs.size
    rw [Heap.size_push]
    rcases List.mem_cons.mp hb with rfl | hb
    · exact Nat.lt_succ_self _
    · rw [List.mem_singleton.mp hb]; exact Nat.lt_succ_of_lt hlt
  · intro D C h' tk m' ys news' F' N' o1 hn hC₀ hD₀ hCL hDL hCD offC hJ
    show wpAny _ A (assign (.Name y py) env (.ref D)) _ _ _
    refine wpAny_assign_Name (wpAny_storeName_local hy F'.ns (fun h₂ hn₂ hs₂ => ?_) hp)
    have hL₀ : h₀.get? env.locals = none := Heap.get?_none_of_le F'.above
    have F₂ : Fr h₀ env.locals h₂ (fun z => if z = y then some (.ref D) else m z) := ⟨hn₂, fun b o e => hs₂.extBut b o (fun q => by rw [q, hL₀] at e; cases e) (F'.keep b o e), F'.above⟩
    refine ⟨m', hn.sameBut hs₂ hCL, fun h'' hs'' => fin ys news' D h'' _ hJ (F₂.change hs'' hCL hC₀) (fun p hp => ?_) o1⟩
    have z : h₂.get? p.1 = some p.2 := hs₂.extBut _ _ (N' p hp).2.1 (N' p hp).1
    refine ⟨hs''.extBut _ _ ?_ z, (N' p hp).2⟩
    rcases List.mem_cons.mp hp with rfl | hp
    · exact Ne.symm hCD
    · exact offC p hp
end
end Mine
end
section
open PySem PySem.W PyProof.Rows
namespace Mine
def nameTab : List Str := [Str.ofString "OPTIMIZED", Str.ofString "NEWLOCALS", Str.ofString "VARARGS", Str.ofString "VARKEYWORDS", Str.ofString "NESTED", Str.ofString "GENERATOR", Str.ofString "NOFREE", Str.ofString "COROUTINE", Str.ofString "ITERABLE_COROUTINE", Str.ofString "ASYNC_GENERATOR", Str.ofString "0x400", Str.ofString "0x800"]
def bitsTo (f i : Nat) : List Nat := (List.range i).filter (fun j => f.testBit j)
def wordsTo (f i : Nat) : List Str := (bitsTo f i).map (fun j => nameTab.getD j Str.empty)
theorem bitsTo_on {f i : Nat} (h : f.testBit i = true) : bitsTo f (i + 1) = bitsTo f i ++ [i] := by
  simp [bitsTo, List.range_succ, List.filter_append, h]
theorem bitsTo_off {f i : Nat} (h : f.testBit i = false) : bitsTo f (i + 1) = bitsTo f i := by
  simp [bitsTo, List.range_succ, List.filter_append, h]
theorem wordsTo_on {f i : Nat} (h : f.testBit i = true) : wordsTo f (i + 1) = wordsTo f i ++ [nameTab.getD i Str.empty] := by
  simp [wordsTo, bitsTo_on h]
theorem wordsTo_off {f i : Nat} (h : f.testBit i = false) : wordsTo f (i + 1) = wordsTo f i := by
  simp [wordsTo, bitsTo_off h]
theorem testBit_div {f i : Nat} : f.testBit i = decide (f / 2 ^ i % 2 = 1) := Nat.testBit_eq_decide_div_mod_eq
theorem div_succ (f i : Nat) : f / 2 ^ (i + 1) = f / 2 ^ i / 2 := by rw [Nat.pow_succ, Nat.div_div_eq_div_mul]
theorem bitsTo_end {f i : Nat} (h : f / 2 ^ i = 0) : ∀ k, bitsTo f (i + k) = bitsTo f i
  | 0 => rfl
  | k + 1 => by
    have hb : f.testBit (i + k) = false := by
      rw [testBit_div, Nat.pow_add, ← Nat.div_div_eq_div_mul, h]; simp
    rw [← Nat.add_assoc, bitsTo_off hb, bitsTo_end h k]
theorem wordsTo_end {f i : Nat} (h : f / 2 ^ i = 0) (hi : i ≤ 12) : wordsTo f 12 = wordsTo f i := by
  have := bitsTo_end h (12 - i)
  rw [show i + (12 - i) = 12 by omega] at this
  simp [wordsTo, this]
theorem and_bit (f i : Nat) : Builtin.bitAnd ((f / 2 ^ i * 2 ^ i : Nat) : Int) (1 * 2 ^ ((i : Nat) : Int).toNat) = ((f / 2 ^ i % 2 * 2 ^ i : Nat) : Int) := by
  rw [Int.one_mul, Int.toNat_natCast, kbt_bit, ← kbt_cast]
  rw [show (((f / 2 ^ i * 2 ^ i : Nat) : Int) / ((2 ^ i : Nat) : Int)) = ((f / 2 ^ i * 2 ^ i / 2 ^ i : Nat) : Int) from rfl, Nat.mul_div_cancel _ (Nat.two_pow_pos i)]
  rw [Int.natCast_mul]
  rfl
theorem bit_off {f i : Nat} (h : Builtin.bitAnd ((f / 2 ^ i * 2 ^ i : Nat) : Int) (1 * 2 ^ ((i : Nat) : Int).toNat) = 0) : f.testBit i = false := by
  rw [and_bit] at h
  have h' : f / 2 ^ i % 2 * 2 ^ i = 0 := by exact_mod_cast h
  have hp := Nat.two_pow_pos i
  rcases Nat.mul_eq_zero.mp h' with h | h
  · rw [testBit_div, h]; rfl
  · omega
theorem bit_on {f i : Nat} (h : ¬ Builtin.bitAnd ((f / 2 ^ i * 2 ^ i : Nat) : Int) (1 * 2 ^ ((i : Nat) : Int).toNat) = 0) : f.testBit i = true := by
  rw [and_bit] at h
  rw [testBit_div]
  have : f / 2 ^ i % 2 ≠ 0 := fun e => h (by rw [e]; simp)
  simp; omega
theorem keep_off {f i : Nat} (h : f.testBit i = false) : f / 2 ^ (i + 1) * 2 ^ (i + 1) = f / 2 ^ i * 2 ^ i := by
  rw [testBit_div] at h
  have h' : f / 2 ^ i % 2 = 0 := by
    have := Nat.mod_two_eq_zero_or_one (f / 2 ^ i)
    simp at h; omega
  rw [div_succ, Nat.pow_succ]
  have e : f / 2 ^ i = 2 * (f / 2 ^ i / 2) := by omega
  generalize f / 2 ^ i / 2 = c at e
  rw [e, Nat.mul_comm (2 ^ i) 2, ← Nat.mul_assoc, Nat.mul_comm c 2]
theorem div_off {f i : Nat} (h : f.testBit i = false) (h0 : f / 2 ^ i ≠ 0) : f / 2 ^ (i + 1) ≠ 0 := by
  rw [testBit_div] at h
  have := Nat.mod_two_eq_zero_or_one (f / 2 ^ i)
  rw [div_succ]
  simp at h; omega
theorem xor_on {f i : Nat} (h : f.testBit i = true) : Builtin.bitXor ((f / 2 ^ i * 2 ^ i : Nat) : Int) (1 * 2 ^ ((i : Nat) : Int).toNat) = ((f / 2 ^ (i + 1) * 2 ^ (i + 1) : Nat) : Int) := by
  rw [bitXor_and, and_bit, Int.one_mul, Int.toNat_natCast, ← kbt_cast]
  rw [testBit_div] at h
  have h' : f / 2 ^ i % 2 = 1 := by simpa using h
  rw [h', div_succ, Nat.pow_succ]
  have e : f / 2 ^ i = 2 * (f / 2 ^ i / 2) + 1 := by omega
  generalize f / 2 ^ i / 2 = c at e
  rw [e]
  generalize 2 ^ i = d
  have e1 : (2 * c + 1) * d = 2 * (c * d) + d := by rw [Nat.add_mul, Nat.one_mul, Nat.mul_assoc]
  have e2 : c * (d * 2) = 2 * (c * d) := by rw [Nat.mul_comm d 2, ← Nat.mul_assoc, Nat.mul_comm c 2, Nat.mul_assoc]
  rw [e1, e2]
  omega
theorem each_names {h : Heap} {k : Int} {P : Value → Prop} {els : Prop} {D : List (Int × KTD.Dat)} {i : Nat} (hi : i < 12) (hk : k = 2 ^ i)
    (htab : ∀ j, j < 10 → D.lookup (2 ^ j) = some (.flat (.str (nameTab.getD j Str.empty)))) (hnone : ∀ j, 10 ≤ j → j < 12 → D.lookup (2 ^ j) = none)
    (hP : ∀ t, P (.str (nameTab.getD i Str.empty) t)) (hels : (∀ t, P (.str (nameTab.getD i Str.empty) t)) → 10 ≤ i → els) : KTD.Each h k P els D := by
  subst hk
  have key : ∀ D : List (Int × KTD.Dat), (∀ d, D.lookup (2 ^ i) = some d → KTD.Opened h P d) → (D.lookup (2 ^ i) = none → els) → KTD.Each h (2 ^ i) P els D := by
    intro D
    induction D with
    | nil => intro _ b; exact b rfl
    | cons q r ih =>
      obtain ⟨x, d⟩ := q
      intro a b
      by_cases hx : (2 : Int) ^ i = x
      · exact KTD.each_hit hx (a d (by simp [List.lookup_cons, hx]))
      · have hb : ((2 : Int) ^ i == x) = false := by simpa using hx
        exact KTD.each_miss hx (ih (fun d' e => a d' (by rw [List.lookup_cons, hb]; exact e)) (fun e => b (by rw [List.lookup_cons, hb]; exact e)))
  refine key D (fun d e => ?_) (fun e => ?_)
  · by_cases h10 : i < 10
    · rw [htab i h10] at e
      cases e
      exact hP
    · rw [hnone i (by omega) hi] at e
      cases e
  · by_cases h10 : i < 10
    · rw [htab i h10] at e
      cases e
    · exact hels hP (by omega)
theorem name_len (j : Nat) : (nameTab.getD j Str.empty).length ≤ 18 := by
  by_cases h : j < 12
  · rcases (by omega : j = 0 ∨ j = 1 ∨ j = 2 ∨ j = 3 ∨ j = 4 ∨ j = 5 ∨ j = 6 ∨ j = 7 ∨ j = 8 ∨ j = 9 ∨ j = 10 ∨ j = 11) with rfl | rfl | rfl | rfl | rfl | rfl | rfl | rfl | rfl | rfl | rfl | rfl <;> decide +kernel
  · rw [List.getD_eq_getElem?_getD, List.getElem?_eq_none (by show 12 ≤ j; omega)]; decide
theorem words_len (f : Nat) : ∀ i, ((wordsTo f i).map (·.length)).sum + (wordsTo f i).length ≤ 19 * i
  | 0 => by simp [wordsTo, bitsTo]
  | i + 1 => by
    have ih := words_len f i
    have h := name_len i
    cases hb : f.testBit i with
    | true =>
      rw [wordsTo_on hb]
      simp only [List.map_append, List.sum_append, List.length_append, List.map_cons, List.map_nil, List.sum_cons, List.sum_nil, List.length_cons, List.length_nil]
      omega
    | false => rw [wordsTo_off hb]; omega
theorem cases12 {i : Nat} (h : i < 12) : i = 0 ∨ i = 1 ∨ i = 2 ∨ i = 3 ∨ i = 4 ∨ i = 5 ∨ i = 6 ∨ i = 7 ∨ i = 8 ∨ i = 9 ∨ i = 10 ∨ i = 11 := by omega
theorem hex_len {i : Nat} (h : i < 12) : (PySem.baseText "0x" 16 (1 * 2 ^ ((i : Nat) : Int).toNat)).length ≤ sizeLine := by
  rcases cases12 h with rfl | rfl | rfl | rfl | rfl | rfl | rfl | rfl | rfl | rfl | rfl | rfl <;> decide +kernel
theorem hex_is {i : Nat} (h : i < 12) (h10 : 10 ≤ i) : PySem.baseText "0x" 16 (1 * 2 ^ ((i : Nat) : Int).toNat) = nameTab.getD i Str.empty := by
  rcases (by omega : i = 10 ∨ i = 11) with rfl | rfl <;> decide +kernel
end Mine
end
section
open PySem PySem.W PyProof.Rows
namespace Mine
local macro_rules | `(tactic| walk_at "exec For Tuple Call") => `(tactic| (k_here; (rename Fr _ _ _ _ => lF'); (with_unfolding_all refine' For_turns lF' ?_; k_whole)))
local macro_rules | `(tactic| walk_at "binaryOp Mod int int") => `(tactic| (with_reducible refine mod_int' (by assumption) ?_))
local macro_rules | `(tactic| ktn_open) => `(tactic| repeat' (first | (k_unfold; (try dsimp only)) | ((fail_if_success k_end); walk1 <;> (try dsimp only)) | fail "no step"))
set_option maxHeartbeats 8000000 in
theorem drawn {w : World} {news : List (Addr × Obj)} {l : Addr} {vs : List Value} {ns : List Int} :
    Tell w 1 45 news [.ref l] (fun h => h.IsList l vs.toArray ∧ IntsAre vs ns ∧ ns.length ≤ 63) (fun r nw => ∃ t sz fl ot t1 t2 t3 n, r = .ref t ∧ nw = (t, { cls := .type "tuple", data := .seq #[.int sz t1, .int fl t2, .int ot t3] n }) :: news ∧ (∀ p ∈ news, p.1 < t) ∧ 1 ≤ sz ∧ sz ≤ 12 ∧ 1 ≤ fl ∧ fl < 2 ^ sz.toNat ∧ 1 ≤ ot ∧ ot < 2 ^ sz.toNat) := by
  unfold Tell
  w_top off
  k_fill
  intro p loose mean mg mb dp un gd cn cs a ccd cl outer A₀ base h₀ L m s Q E B F X N T hPre hk hdp hun hret
  obtain ⟨hL, hI, hlen⟩ := hPre
  refine wpAny_call ?_
  k_dflt ktr_enter
  rename Below _ _ (envX _ _ _ _ _ _ :: _) _ => B1
  have hLg := stays_list B1.stays hL
  have hvl : vs.toArray.size ≤ 63 := by rw [List.size_toArray, hI.length]; exact hlen
  k_steps
  rename_i l' _ l1 _ D' ws' h1 F1 N1 hI1 _ _ l2
  with_unfolding_all refine ktu_enum (lo := listOf ws'.toArray 0) (vs := ws') (xs := enumItems 0 ws') rfl F1 N1 (List.mem_cons_self ..) rfl rfl rfl ?_
  intro I hIl
  have hID : D' < I := hIl _ (List.mem_cons_self ..)
  have hIL : l' < I := hIl (l', _) (List.mem_cons_of_mem _ (List.mem_cons_self ..))
  have hIN : ∀ p ∈ news, p.1 < I := fun p hp => hIl p (List.mem_cons_of_mem _ (List.mem_cons_of_mem _ hp))
  clear hIl
  refine items_ind _ (fun i m nw => ∃ cvs cs, nw = (D', listOf ws'.toArray 0) :: (l', listOf cvs.toArray 0) :: news ∧ IntsAre cvs cs ∧ cs.length = 3 ∧ m "cells" = some (.ref l')) ⟨[_, _, _], _, rfl, .cons _ _ (.cons _ _ (.cons _ _ .nil)), rfl, rfl⟩ ?_ ?_
  · intro i a m1 nw v h tk1 hx hJ hv F2
    obtain ⟨cvs, cs, rfl, hI3, hc3, hm⟩ := hJ
    have hi : i < ws'.length := by
      have := (List.getElem?_eq_some_iff.mp hx).1
      rwa [enumItems_length] at this
    have hi60 : i < 60 := by
      have e1 := hI1.length
      rw [List.length_take] at e1
      omega
    obtain ⟨n, tn, hn, hns⟩ := IntsAre.at hI1 i ws'[i] (List.getElem?_eq_getElem hi)
    have ha := enumItems_get ws' 0 i (List.getElem?_eq_getElem hi)
    rw [hx, hn] at ha
    cases ha
    obtain ⟨T1, tt, rfl, hT⟩ := hv
    rw [Nat.zero_add] at hT
    have F3 := fr_known F2 hm
    clear F2 hx hn hm F1 N1
    ktu_objs
    rename_i o1 ho1 o2 ho2 N3
    dsimp only [envOf] at F3 N3
    dsimp only
    have hlo := fmod_lo (i : Int) (n := 3) (by decide)
    have hhi := fmod_hi (i : Int) (n := 3) (by decide)
    ktn_open
    rename Fr _ _ _ _ => F4
    rename News _ _ _ _ => N4
    refine ksa_set F4 N4 (.tail ?_ (.tail ?_ (.tail ?_ (.head ?_)))) hI3 hlo ?_ ?_ ?_
    · exact Nat.ne_of_gt (Nat.lt_succ_of_lt hIL)
    · exact Nat.ne_of_gt hIL
    · exact Nat.ne_of_gt l2.1
    · exact fun p hp => Nat.ne_of_lt (l1 p hp)
    · omega
    · omega
    intro h5 F5 N5 hI5 hl5 _
    clear F4 N4
    ktn_open
    refine ⟨h5, _, _, _, rfl, F5, N5, ?_, ⟨List.mem_cons_self .., trivial⟩, _, _, rfl, hI5, hl5.trans hc3, rfl⟩
    intro p hp q hq
    have hpI : p.1 < I := by
      rcases List.mem_cons.mp hp with rfl | hp
      · exact hID
      rcases List.mem_cons.mp hp with rfl | hp
      · exact hIL
      exact hIN p hp
    rcases List.mem_cons.mp hq with rfl | hq
    · exact Nat.ne_of_lt (Nat.lt_succ_of_lt hpI)
    · rw [List.mem_singleton.mp hq]; exact Nat.ne_of_lt hpI
  · rintro m1 nw h tk1 ⟨cvs, cs, rfl, hI3, hc3, hm⟩ F2 N2
    have F3 := fr_known F2 hm
    clear F2 hm F1 N1
    dsimp only [envOf] at F3 N2
    dsimp only
    repeat' ((fail_if_success (with_reducible show wpAny _ _ (exec (Stmt.Return _ _) _) _ _ _)); first | (k_unfold; (try dsimp only)) | walk1 | (dsimp only; walk1) | fail "no step")
    rename Fr _ _ _ _ => F4
    rename News _ _ _ _ => N4
    have hlo := fmod_lo (cs.getD (Int.toNat 0) 0) (n := 12) (by decide)
    have hhi := fmod_hi (cs.getD (Int.toNat 0) 0) (n := 12) (by decide)
    generalize hsz : (cs.getD (Int.toNat 0) 0).fmod 12 + 1 = sz at F4
    have hs1 : 1 ≤ sz := by omega
    have hs2 : sz ≤ 12 := by omega
    clear hlo hhi hsz hI1 hLg hvl
    have hp1 : (2 : Int) ≤ 2 ^ sz.toNat := by
      have e : sz.toNat = (sz.toNat - 1) + 1 := by omega
      rw [e, Int.pow_succ]
      have := Int.pow_pos (n := 2) (m := sz.toNat - 1) (by decide)
      omega
    have hp2 : (2 : Int) ^ sz.toNat - 1 ≠ 0 := by omega
    ktn_open
    dsimp only [qk]
    walk1
    rename News _ _ _ _ => kN
    rename Fr _ _ _ _ => kF
    rename _ ∧ _ ∧ AllLt _ _ => lN
    have hP : (0 : Int) < 2 ^ sz.toNat - 1 := by omega
    have q1 := Int.fmod_nonneg_of_pos (cs.getD (Int.toNat 1) 0) hP
    have q2 := Int.fmod_lt_of_pos (cs.getD (Int.toNat 1) 0) hP
    have q3 := Int.fmod_nonneg_of_pos (cs.getD (Int.toNat 2) 0) hP
    have q4 := Int.fmod_lt_of_pos (cs.getD (Int.toNat 2) 0) hP
    refine hret _ _ _ _ kF (news_keep1 [_, _] kN) ⟨_, sz, _, _, _, _, _, _, rfl, rfl, ktn_ltOf lN.2.2, hs1, hs2, ?_, ?_, ?_, ?_⟩
    all_goals omega
end Mine
end
section
open PySem PySem.W PyProof.Rows
namespace Mine
local macro_rules | `(tactic| walk_at "exec For Name Call") => `(tactic| (k_here; (rename Fr _ _ _ _ => lF'); (with_unfolding_all refine' For_else lF' ?k1 ?k2 ?_; (case k1 => exact rfl); (case k2 => exact rfl); k_whole)))
local macro_rules | `(tactic| ktn_open) => `(tactic| repeat' (first | (k_unfold; (try dsimp only)) | ((fail_if_success k_end); walk1 <;> (try dsimp only)) | fail "no step"))
set_option maxHeartbeats 8000000 in
theorem pretty {w : World} {news : List (Addr × Obj)} {f : Nat} {t : Tok} :
    Tell w 1 29 news [.int (f : Int) t] (fun _ => 1 ≤ f ∧ f < 4096) (fun r nw => nw = news ∧ ∃ t, r = .str (Txt.join (Str.ofString ", ") (wordsTo f 12)) t) := by
  unfold Tell
  w_top off
  k_fill
  intro p loose mean mg mb dp un gd cn cs a ccd cl outer A₀ base h₀ L m s Q E B F X N T hPre hk hdp hun hret
  obtain ⟨hf1, hf2⟩ := hPre
  refine wpAny_call ?_
  k_dflt ktr_enter
  rename Below _ _ (envX _ _ _ _ _ _ :: _) _ => B1
  ktn_open
  rename_i g' L' h1 FG' X' T' l' h2 l1 h3 F1 N1 h4 tk4 t4 u4 v4 hR F2 N2 hk4
  dsimp only at hR
  clear F1 N1 hk4
  refine iter_rangeE (n := 32) (fun i m nw => ∃ vs t n, nw = (l', listOf vs.toArray n) :: news ∧ StrsAre vs (wordsTo f i) ∧ m "names" = some (.ref l') ∧ m "flags" = some (.int ((f / 2 ^ i * 2 ^ i : Nat) : Int) t) ∧ f / 2 ^ i ≠ 0) rfl hR (by decide) (by decide) F2 N2 ⟨[], t, 0, rfl, .nil, rfl, ?_, ?_⟩ ?_ ?_
  · show some (Value.int _ _) = some (Value.int _ _)
    simp
  · simp; omega
  · intro I hI i t5 m1 nw h5 tk5 hi hJ off F3 N3
    obtain ⟨vs, t6, n6, rfl, hS, hm1, hm2, hne⟩ := hJ
    clear F2 N2 hR
    have hi12 : i < 12 := by
      rcases Nat.lt_or_ge i 12 with h | h
      · exact h
      · exfalso
        apply hne
        rw [Nat.div_eq_zero_iff]
        right
        exact Nat.lt_of_lt_of_le hf2 (Nat.pow_le_pow_right (n := 2) (by decide) h)
    have F4 := fr_known (fr_known F3 (x := "names") (v := .ref l') hm1) (x := "flags") (v := .int ((f / 2 ^ i * 2 ^ i : Nat) : Int) t6) hm2
    clear F3
    dsimp only [envOf] at F4 N3
    dsimp only
    ktn_open
    · refine P.hex_of_int ?_ (hex_len hi12)
      ktn_open
      refine each_names hi12 ?_ ?_ ?_ ?_ ?_
      · simp
      · intro j hj
        rcases (by omega : j = 0 ∨ j = 1 ∨ j = 2 ∨ j = 3 ∨ j = 4 ∨ j = 5 ∨ j = 6 ∨ j = 7 ∨ j = 8 ∨ j = 9) with rfl | rfl | rfl | rfl | rfl | rfl | rfl | rfl | rfl | rfl <;> rfl
      · intro j hj hj2
        rcases (by omega : j = 10 ∨ j = 11) with rfl | rfl <;> rfl
      · intro t7
        ktn_open
        rename Fr _ _ _ _ => F5
        rename News _ _ _ _ => N5
        have hvl : vs.length = (wordsTo f i).length := hS.len_eq
        have hwl : (wordsTo f i).length ≤ i := by
          simp only [wordsTo, bitsTo, List.length_map]
          exact Nat.le_trans (List.length_filter_le _ _) (by simp)
        refine append_K F5 N5 (.tail (Ne.symm (off _ (.head _))) (.head fun p hp => Nat.ne_of_lt (l1 p hp))) (fun h6 F6 N6 => ?_) (by rw [sizeLine_eq, List.size_toArray]; omega)
        clear F5 N5
        have hb : f.testBit i = true := bit_on (by assumption)
        have hS' : StrsAre (vs ++ [Value.str (nameTab.getD i Str.empty) t7]) (wordsTo f (i + 1)) := by
          rw [wordsTo_on hb]
          exact hS.append' (.cons _ _ .nil)
        rw [show vs.toArray.push (Value.str (nameTab.getD i Str.empty) t7) = (vs ++ [Value.str (nameTab.getD i Str.empty) t7]).toArray by simp] at N6
        generalize vs ++ [Value.str (nameTab.getD i Str.empty) t7] = vs' at hS' N6
        ktn_open
        · rename Fr _ _ _ _ => F7
          rename News _ _ _ _ => N7
          rename Builtin.bitXor _ _ ≠ 0 => hx
          rw [xor_on hb] at hx F7
          refine ⟨_, _, _, _, rfl, F7, N7, fun p hp => ?_, vs', _, _, rfl, hS', rfl, rfl, ?_⟩
          · rcases List.mem_cons.mp hp with rfl | hp
            · exact off (l', listOf vs.toArray n6) (.head _)
            · exact off p (.tail _ hp)
          · intro e
            rw [e] at hx
            simp at hx
        · rename Fr _ _ _ _ => F7
          rename News _ _ _ _ => N7
          rename Builtin.bitXor _ _ = 0 => hx
          rw [xor_on hb] at hx
          have hz : f / 2 ^ (i + 1) = 0 := by
            have h' : f / 2 ^ (i + 1) * 2 ^ (i + 1) = 0 := by exact_mod_cast hx
            have hp := Nat.two_pow_pos (i + 1)
            rcases Nat.mul_eq_zero.mp h' with h | h
            · exact h
            · omega
          have hS2 : StrsAre vs' (wordsTo f 12) := by rw [wordsTo_end hz (by omega)]; exact hS'
          dsimp only [TurnE]
          ktn_open
          have hwt := words_len f 12
          refine join_listW (News.isList N7 (.tail _ (.head _))) (by simpa using hS2) (by decide +kernel) (by omega) ?_
          intro t8 k8
          dsimp only [qk]
          walk1
          rename News _ _ _ _ => kN
          rename Fr _ _ _ _ => kF
          exact hret _ _ _ _ kF (news_keep0 [_, _] kN) ⟨rfl, _, rfl⟩
      · intro hP h10
        rw [hex_is hi12 h10]
        exact hP
    · rename Fr _ _ _ _ => F5
      rename News _ _ _ _ => N5
      have hb : f.testBit i = false := bit_off (by assumption)
      refine ⟨_, _, _, _, rfl, F5, N5, off, vs, t6, n6, rfl, ?_, rfl, ?_, div_off hb hne⟩
      · rw [wordsTo_off hb]; exact hS
      · rw [keep_off hb]; rfl
  · rintro m1 nw ⟨vs, t6, n6, rfl, hS, hm1, hm2, hne⟩
    apply hne
    rw [Nat.div_eq_zero_iff]
    right
    exact Nat.lt_of_lt_of_le hf2 (Nat.pow_le_pow_right (n := 2) (by decide) (by decide : 12 ≤ 32))
end Mine
end
section
open PySem PySem.W PyProof.Rows
namespace Mine
open StrLaws Builtin Builtin.Str
theorem at_head {x y : Str} (hy : y.cps.toList = [44, 32]) {k : Nat} (h : At x y x.length k) : x.cps.toList[k]? = some 44 := by
  have h2 := h.2
  rw [subAt_eq, hy] at h2
  have hl : y.length = 2 := by show y.cps.size = 2; rw [← Array.length_toList, hy]; rfl
  rw [hl] at h2
  have e : (x.cps.toList.drop k).take 2 = [44, 32] := by simpa using h2
  have : ((x.cps.toList.drop k).take 2)[0]? = some 44 := by rw [e]; rfl
  rw [List.getElem?_take_of_lt (by omega), List.getElem?_drop] at this
  simpa using this
theorem parts_words (x y : Str) (hy : y.cps.toList = [44, 32]) : ∀ (ws : List Str) (w : Str) (a : Nat) (cuts : List Nat) (f : Nat), (∀ v ∈ w :: ws, 44 ∉ v.cps.toList) → a ≤ x.length →
    x.cps.toList.drop a = (Str.join y (w :: ws)).cps.toList → ChainG x y x.length a cuts f → (∀ k, f ≤ k → ¬ At x y x.length k) → partsFrom x y.length a cuts = w :: ws := by
  have hl : y.length = 2 := by show y.cps.size = 2; rw [← Array.length_toList, hy]; rfl
  intro ws
  induction ws with
  | nil =>
    intro w a cuts f hw ha hd hc hn
    have hd' : x.cps.toList.drop a = w.cps.toList := hd
    have no : ∀ k, a ≤ k → ¬ At x y x.length k := by
      intro k hk hA
      have h1 := at_head hy hA
      have h2 : (x.cps.toList.drop a)[k - a]? = some 44 := by
        rw [List.getElem?_drop, show a + (k - a) = k by omega]; exact h1
      rw [hd'] at h2
      exact hw w (.head _) (List.mem_of_getElem? h2)
    cases cuts with
    | cons c r => exact absurd hc.2.1 (no c hc.1)
    | nil =>
      show [strSub x a x.length] = [w]
      congr 1
      apply Str.ext'
      apply Array.toList_inj.mp
      rw [strSub_toList, hd', List.take_of_length_le]
      have : (x.cps.toList.drop a).length = x.length - a := by simp [Str.length]
      rw [← hd', this]
      exact Nat.le_refl _
  | cons w' r ih =>
    intro w a cuts f hw ha hd hc hn
    have hd' : x.cps.toList.drop a = w.cps.toList ++ (44 :: 32 :: (Str.join y (w' :: r)).cps.toList) := by
      rw [hd]
      show (w ++ y ++ Str.join y (w' :: r)).cps.toList = _
      simp [Str.cps_append, hy]
    have hxl : x.length = a + (w.length + (2 + (Str.join y (w' :: r)).length)) := by
      have h1 : (x.cps.toList.drop a).length = x.length - a := by simp [Str.length]
      rw [hd'] at h1
      simp [Str.length] at h1 ⊢
      simp [Str.length] at ha
      omega
    have hat : At x y x.length (a + w.length) := by
      refine ⟨by omega, ?_⟩
      rw [subAt_eq, hy, hl, ← List.drop_drop, hd']
      have : (w.cps.toList ++ (44 :: 32 :: (Str.join y (w' :: r)).cps.toList)).drop w.length = 44 :: 32 :: (Str.join y (w' :: r)).cps.toList := by
        rw [List.drop_left' (by simp [Str.length])]
      rw [this]
      rfl
    cases cuts with
    | nil =>
      have e : f = a := hc
      exact absurd hat (hn _ (by omega))
    | cons c cs =>
      have hca : c = a + w.length := by
        rcases Nat.lt_or_ge (a + w.length) c with h | h
        · exact absurd hat (hc.2.2.1 _ (by omega) h)
        · rcases Nat.lt_or_ge c (a + w.length) with h' | h'
          · exfalso
            have h1 := at_head hy hc.2.1
            have h2 : (x.cps.toList.drop a)[c - a]? = some 44 := by
              rw [List.getElem?_drop, show a + (c - a) = c by have := hc.1; omega]; exact h1
            rw [hd', List.getElem?_append_left (by simp [Str.length] at h' ⊢; have := hc.1; omega)] at h2
            exact hw w (.head _) (List.mem_of_getElem? h2)
          · omega
      subst hca
      show strSub x a (a + w.length) :: partsFrom x y.length (a + w.length + y.length) cs = w :: w' :: r
      congr 1
      · apply Str.ext'
        apply Array.toList_inj.mp
        rw [strSub_toList, hd', show a + w.length - a = w.length by omega, List.take_left' (by simp [Str.length])]
      · refine ih w' _ cs f (fun v hv => hw v (.tail _ hv)) (by omega) ?_ hc.2.2.2 hn
        rw [hl, Nat.add_assoc, ← List.drop_drop, hd', ← List.drop_drop, List.drop_left' (by simp [Str.length])]
        rfl
theorem split_join (w : Str) (ws : List Str) (hw : ∀ v ∈ w :: ws, 44 ∉ v.cps.toList) : Txt.split (Txt.join (Str.ofString ", ") (w :: ws)) (Str.ofString ", ") = w :: ws := by
  have hy : (Str.ofString ", ").cps.toList = [44, 32] := by decide +kernel
  have hl : (Str.ofString ", ").length = 2 := by decide +kernel
  have hj : Txt.join (Str.ofString ", ") (w :: ws) = Str.join (Str.ofString ", ") (w :: ws) := by
    show glued _ _ = _
    rw [StrLaws.glued_eq_join]
  rw [hj]
  generalize hx : Str.join (Str.ofString ", ") (w :: ws) = x
  generalize hyy : Str.ofString ", " = y at *
  have main : partsFrom x y.length 0 (occurrences x y 0 x.length (x.length + 1)) = w :: ws := by
    obtain ⟨f, hc, hn⟩ := occ_tight x y (by omega)
    exact parts_words x y hy ws w 0 _ f hw (Nat.zero_le _) (by rw [List.drop_zero, hx]) hc hn
  unfold Txt.split
  split
  · rename_i hg
    cases ws with
    | nil => rw [← hx]; rfl
    | cons w' r =>
      exfalso
      have hk : Builtin.Str.strKind y = 1 := by rw [← hyy]; decide +kernel
      have hxl : 2 ≤ x.length := by
        rw [← hx]
        show 2 ≤ (w ++ y ++ Str.join y (w' :: r)).length
        rw [Str.length_append, Str.length_append]
        omega
      have h1 : 1 ≤ Builtin.Str.strKind x := by unfold Builtin.Str.strKind; split <;> (try split) <;> omega
      simp [hk, hl] at hg
      omega
  · split
    · rename_i he
      have : occurrences x y 0 x.length (x.length + 1) = [] := by simpa using he
      rw [this] at main
      rw [← main]
      show [x] = [strSub x 0 x.length]
      rw [sub_whole]
    · rw [partsBetween_eq, main]
theorem name_free (j : Nat) : 44 ∉ (nameTab.getD j Str.empty).cps.toList := by
  by_cases h : j < 12
  · rcases cases12 h with rfl | rfl | rfl | rfl | rfl | rfl | rfl | rfl | rfl | rfl | rfl | rfl <;> decide +kernel
  · rw [List.getD_eq_getElem?_getD, List.getElem?_eq_none (by show 12 ≤ j; omega)]; decide
theorem words_ne {f : Nat} (h1 : 1 ≤ f) (h2 : f < 4096) : wordsTo f 12 ≠ [] := by
  intro e
  have hb : bitsTo f 12 = [] := by simpa [wordsTo] using e
  have hz : ∀ j, j < 12 → f.testBit j = false := by
    intro j hj
    have := List.filter_eq_nil_iff.mp hb j (List.mem_range.mpr hj)
    simpa using this
  have : f = 0 := by
    apply Nat.eq_of_testBit_eq
    intro i
    rw [Nat.zero_testBit]
    by_cases h : i < 12
    · exact hz i h
    · exact Nat.testBit_lt_two_pow (Nat.lt_of_lt_of_le h2 (Nat.pow_le_pow_right (n := 2) (by decide) (by omega : 12 ≤ i)))
  omega
theorem split_words {f : Nat} (h1 : 1 ≤ f) (h2 : f < 4096) : Txt.split (Txt.join (Str.ofString ", ") (wordsTo f 12)) (Str.ofString ", ") = wordsTo f 12 := by
  have hw : ∀ v ∈ wordsTo f 12, 44 ∉ v.cps.toList := by
    intro v hv
    obtain ⟨j, _, rfl⟩ := List.mem_map.mp hv
    exact name_free j
  cases e : wordsTo f 12 with
  | nil => exact absurd e (words_ne h1 h2)
  | cons w ws => rw [e] at hw; exact split_join w ws hw
theorem join_len (f : Nat) : (Txt.join (Str.ofString ", ") (wordsTo f 12)).length ≤ 1000 := by
  have h := StrLaws.join_length_le (Str.ofString ", ") (wordsTo f 12)
  have hw := words_len f 12
  have hl : (Str.ofString ", ").length = 2 := by decide +kernel
  show (glued _ _).length ≤ _
  rw [StrLaws.glued_eq_join]
  rw [hl] at h
  omega
end Mine
end
section
open PySem PySem.W PyProof.Rows PySem.Calls PySem.MeetsSeq PySem.SeqAt
namespace Mine
def isStr (x : Str) : Value → Bool
  | .str y _ => y == x
  | _ => false
theorem index_strs {prog : Program} {w : World} {A : Around} {E : Value → Shared → Prop} {s : Shared} {l : Addr} {vs : List Value} {ys : List Str} {x : Str} {t : Tok} {Q : Value → Shared → Prop} (hl : s.heap.IsList l vs.toArray) (hS : StrsAre vs ys) (j : Nat)
    (hj : ys[j]? = some x) (hno : ∀ i, i < j → ys[i]? ≠ some x) (hb : ys.length ≤ 1000) (h : Q (.int (j : Nat) s.toks) { s with toks := s.toks + 1 }) :
    wpAny (model prog w) A (call (.builtin "list.index") [.ref l, .str x t]) Q E s := by
  obtain ⟨⟨cls, dd, data, sl⟩, ho, hc, n, hd⟩ := id hl
  simp only at hc hd
  subst hc hd
  have hlen := hS.len_eq
  have hjl : j < ys.length := (List.getElem?_eq_some_iff.mp hj).1
  have look : ∀ (i : Nat) (hi : i < vs.length), ∃ y u, vs[i] = .str y u ∧ ys[i]? = some y := by
    intro i hi
    obtain ⟨y, u, e, hy⟩ := hS.item i vs[i] (List.getElem?_eq_getElem hi)
    exact ⟨y, u, e, hy⟩
  refine call_meets PySem.F.slot_list_index ⟨_, ho, rfl⟩ PySem.F.entry_list_index (PySem.F.args_list_index_2 _ _)
    (list_indexAt l vs.toArray n dd sl (.str x t) (isStr x) j (by rw [List.size_toArray]; omega) (by omega) ?_ ?_) ⟨ho, fun y hy => ?_, h⟩
  · show isStr x vs[j] = true
    obtain ⟨y, u, e, hy⟩ := look j (by omega)
    rw [e]
    rw [hj] at hy
    cases hy
    simp [isStr]
  · intro i his hlt
    show isStr x vs[i] = false
    obtain ⟨y, u, e, hy⟩ := look i (by omega)
    rw [e]
    have : y ≠ x := fun q => hno i hlt (q ▸ hy)
    simpa [isStr] using this
  · obtain ⟨y', u, rfl⟩ := hS.all y (by simpa using hy)
    exact EqAt.str_str _ _ _ _
theorem name_at {j : Nat} (h : j < 12) : nameTab[j]? = some (nameTab.getD j Str.empty) := by
  rcases cases12 h with rfl | rfl | rfl | rfl | rfl | rfl | rfl | rfl | rfl | rfl | rfl | rfl <;> rfl
theorem name_nodup : nameTab.Nodup := by decide +kernel
theorem name_first {i j : Nat} (h : j < 12) (hij : i < j) : nameTab[i]? ≠ some (nameTab.getD j Str.empty) := by
  intro e
  have hl : nameTab.length = 12 := rfl
  rw [← name_at h] at e
  have := (List.getElem?_inj (by omega) name_nodup).mp e
  omega
end Mine
end
section
open PySem PySem.W PyProof.Rows
namespace Mine
local macro_rules | `(tactic| ktn_open) => `(tactic| repeat' (first | (k_unfold; (try dsimp only)) | ((with_reducible show Frag.In _ _ ∧ _); (refine And.intro (by k_in) ?_)) | ((fail_if_success k_end); walk1 <;> (try dsimp only)) | fail "no step"))
local macro_rules | `(tactic| k_all) => `(tactic| (refine' all_ne ?h1 ?h2; (case h1 => assumption); (case h2 => omega)))
local macro_rules | `(tactic| walk_at "eval ListComp") => `(tactic| (k_here; k_dflt (refine LCg.ListComp_U (F₀ := by k_asm) (by with_unfolding_all rfl) (by decide) (by rfl) (by decide) (by rfl) ?_)))
local macro_rules | `(tactic| walk_at "call ref") => `(tactic| (k_here; (with_reducible show wpAny _ _ (call (Value.ref 29) _) _ _ _); k_dflt (refine' tell_use (pretty (f := ?ff)) ?k1 ?k2 ?k3 ?k4 ?k5 ?k6 ?k7 ?k8 ?k9 ?_; (case k1 => k_asm); (case k2 => k_asm); (case k3 => k_asm); (case k4 => k_asm); (case k5 => k_asm); (case k6 => assumption); (case k7 => exact rfl); (case k8 => (dsimp only [Around.deeper]; omega)); (case k9 => (dsimp only [Around.deeper]; omega)))))
set_option maxHeartbeats 8000000 in
theorem places {w : World} {news : List (Addr × Obj)} {f : Nat} {t : Tok} :
    Tell w 2 50 news [.int (f : Int) t] (fun _ => 1 ≤ f ∧ f < 4096) (fun r nw => ∃ l vs n, r = .ref l ∧ nw = (l, listOf vs.toArray n) :: news ∧ (∀ p ∈ news, p.1 ≠ l) ∧ IntsAre vs ((bitsTo f 12).map fun (j : Nat) => (j : Int))) := by
  unfold Tell
  w_top off
  k_fill
  intro p loose mean mg mb dp un gd cn cs a ccd cl outer A₀ base h₀ L m s Q E B F X N T hPre hk hdp hun hret
  refine wpAny_call ?_
  k_dflt (refine' code_defC ?k1 ?k2 ?k3 ?k4 ?k5 ?kA ?kF ?kK ?k6 ?k7 ?k8 ?k9 ?kB ?kD ?_ ?c2 ?c3 ?c4; (case kA => exact rfl); (case kF => exact rfl); (case kK => assumption); (case k1 => k_asm); (case k2 => k_asm); (case k3 => k_asm); (case k4 => k_asm); (case k5 => k_asm); (case k6 => k_is); (case k7 => k_is); (case k8 => ktr_room); (case k9 => exact BindsTo.of_eq rfl); (case kB => exact rfl); (case kD => decide +kernel); (case c2 => exact rfl); (case c3 => exact rfl); (case c4 => exact rfl); k_whole)
  intro g1 L1 h1 tk1 cells1 FG1 F1 N1 Y1 B1 X1 T1 l1
  k_cells Y1
  simp only [List.cons_append, List.nil_append] at N1
  try dsimp only
  try k_fold
  ktn_open
  rename Fr _ _ _ _ => Fo
  rename News _ _ _ _ => No
  rintro r nw h2 tk2 F2 N2 ⟨rfl, t2, rfl⟩
  clear Fo No
  try dsimp only
  ktn_open
  obtain ⟨hf1, hf2⟩ := hPre
  have hjl := join_len f
  rename News _ _ _ _ => N3
  rename Fr _ _ _ _ => F3
  refine splitN1A F3 N3 (by decide +kernel) ?_ (by rw [sizeLine_eq]; omega)
  intro sl h4 tk4 hsl hSl _ _ F4 N4
  dsimp only at F4 N4
  rw [hsl, split_words hf1 hf2] at hSl
  clear F3 N3
  have hsz : (strValues sl).length ≤ 12 := by
    rw [hSl.len_eq]
    simp only [wordsTo, bitsTo, List.length_map]
    exact Nat.le_trans (List.length_filter_le _ _) (by simp)
  refine LCg.CompSrc.ledger rfl F4 N4 (.head _) (by rw [sizeLine_eq, List.size_toArray]; omega) ?_
  intro g5
  refine comp_ind (fun i ys nw => nw = _ ∧ IntsAre ys (((bitsTo f 12).take i).map fun (j : Nat) => (j : Int))) ⟨rfl, .nil⟩ ?_ ?_
  · intro i v ys nw I oI C oC D m₂ h tk E' hi hv hJ hC hx F5 N5 off ne
    obtain ⟨rfl, hJ⟩ := hJ
    clear F4 N4
    have hib : i < (bitsTo f 12).length := by
      rw [List.size_toArray, hSl.len_eq] at hi
      simpa [wordsTo] using hi
    obtain ⟨y, ty, rfl, hy⟩ := hSl.item i v (by simpa using hv)
    have hyb : y = nameTab.getD (bitsTo f 12)[i] Str.empty := by
      rw [wordsTo, List.getElem?_map, List.getElem?_eq_getElem hib] at hy
      exact (Option.some.inj hy).symm
    subst hyb
    have hb12 : (bitsTo f 12)[i] < 12 := by
      have := List.getElem_mem hib
      simp only [bitsTo, List.mem_filter, List.mem_range] at this
      exact this.1
    ktn_open
    rename News _ _ _ _ => N6
    rename Fr _ _ _ _ => F6
    refine index_strs (ys := nameTab) (News.isList N6 (.tail _ (.tail _ (.tail _ (.tail _ (.head _)))))) (by unfold nameTab; repeat constructor) _ (name_at hb12) (fun i' hi' => name_first hb12 hi') (by decide) ?_
    dsimp only [qk]
    refine ⟨_, _, _, rfl, F6, N6, off, .inr ⟨_, .head _, rfl, _, rfl⟩, rfl, ?_⟩
    rw [List.take_add_one, List.getElem?_eq_getElem hib, List.map_append]
    exact hJ.append (.cons _ _ .nil)
  · rintro ys nw ⟨rfl, hJ⟩
    intro D h tk F5 N5 off
    dsimp only
    rw [List.size_toArray, hSl.len_eq, List.take_of_length_le (by simp [wordsTo])] at hJ
    clear F4 N4
    have hoff := off1_mem off
    clear off
    ktn_open
    walk1
    rename News _ _ _ _ => kN
    rename Fr _ _ _ _ => kF
    exact hret _ _ _ _ kF (news_keep1 [_, _, _, _, _] kN) ⟨_, _, _, rfl, rfl, fun p hp => hoff p (.tail _ (.tail _ (.tail _ (.tail _ (.tail _ hp))))), hJ⟩
end Mine
end
section
open PySem PySem.W PyProof.Rows
namespace Mine
def laid (fl : Nat) (ps : List Nat) (sz : Nat) : Nat := ps.foldl (fun told p => told ||| fl * 2 ^ p % 2 ^ sz ||| fl * 2 ^ p / 2 ^ sz) 0
theorem bitOr_nat (a b : Nat) : Builtin.bitOr (a : Int) (b : Int) = ((a ||| b : Nat) : Int) := by
  rw [← bitOr_eq]
  have n1 : decide (0 ≤ Spec.bitNot (a : Int)) = false := by simp [Spec.bitNot]; omega
  have n2 : decide (0 ≤ Spec.bitNot (b : Int)) = false := by simp [Spec.bitNot]; omega
  have m1 : (Spec.bitNot (Spec.bitNot (a : Int))).toNat = a := by simp [Spec.bitNot]; omega
  have m2 : (Spec.bitNot (Spec.bitNot (b : Int))).toNat = b := by simp [Spec.bitNot]; omega
  unfold Spec.bitOr Spec.bitAnd
  rw [n1, n2]
  simp only [m1, m2]
  simp [Spec.bitNot]
  omega
theorem fmod_nat (a b : Nat) : ((a : Nat) : Int).fmod ((b : Nat) : Int) = ((a % b : Nat) : Int) := by
  rw [Int.fmod_eq_emod_of_nonneg _ (by omega)]; rfl
theorem fdiv_nat (a b : Nat) : ((a : Nat) : Int).fdiv ((b : Nat) : Int) = ((a / b : Nat) : Int) := by
  rw [Int.fdiv_eq_ediv_of_nonneg _ (by omega)]; rfl
theorem pow_nat (k : Nat) : (2 : Int) ^ k = ((2 ^ k : Nat) : Int) := by push_cast; rfl
theorem lam_val (told wide sz : Nat) : Builtin.bitOr (Builtin.bitOr (told : Int) ((wide : Int).fmod (2 ^ ((sz : Nat) : Int).toNat))) ((wide : Int).fdiv (2 ^ ((sz : Nat) : Int).toNat)) = ((told ||| wide % 2 ^ sz ||| wide / 2 ^ sz : Nat) : Int) := by
  rw [Int.toNat_natCast, pow_nat, fmod_nat, fdiv_nat, bitOr_nat, bitOr_nat]
theorem laid_take {fl sz : Nat} {ps : List Nat} {i : Nat} (h : i < ps.length) : laid fl (ps.take (i + 1)) sz = (laid fl (ps.take i) sz ||| fl * 2 ^ ps[i] % 2 ^ sz ||| fl * 2 ^ ps[i] / 2 ^ sz) := by
  unfold laid
  rw [List.take_add_one, List.getElem?_eq_getElem h, List.foldl_append]
  rfl
end Mine
end
section
open PySem PySem.W PyProof.Rows PySem.Calls
namespace Mine
abbrev lamQual : Str := Str.ofString "_law_laid" ++ Str.ofString ".<locals>." ++ Str.ofString "<lambda>"
/-- the table of the codes that _law_laid makes: still empty, or with the lambda's code -/
def TabLam (tb : List (Addr × Obj)) : Prop :=
  tb = [(52, tabObj #[])] ∨ ∃ c' oc vs t, tb = [(52, tabObj #[rawInt 75, rawInt 18, .ref c']), (c', oc)] ∧ oc.data = .fields vs ∧ vs[1]? = some (.str lamQual t)
theorem updF_mid {P : Addr} {o : Obj} {post : List (Addr × Obj)} : ∀ {pre : List (Addr × Obj)}, (∀ q ∈ pre, q.1 ≠ P) → (∀ q ∈ post, q.1 ≠ P) → UpdF P o (pre ++ (P, o) :: post) (fun o' => pre ++ (P, o') :: post)
  | [], _, h2 => UpdF.head h2
  | q :: r, h1, h2 => UpdF.tail (h1 q (.head _)) (updF_mid (fun q hq => h1 q (.tail _ hq)) h2)
section
variable {M : Model} {A : Around} {E : Value → Shared → Prop} {s : Shared} {h₀ : Heap} {L a : Addr} {m mg mb : Str → Option Value} {cn : Str} {cs : Scope} {ccd : Value} {cl : List (Str × Addr)} {pre tb news : List (Addr × Obj)}
  {p : Program} {loose : List Str} {mean : ExcName → Option Value} {name : Str} {params : Arguments} {body : PySem.Expr} {scope : Scope} {el ec : Nat} {firstLine : Nat} {clos : List (Str × Addr)}
theorem lam_use {Q : Value → Shared → Prop} (htb : TabLam tb) (F : Fr h₀ L s.heap m) (N : News h₀ L s.heap (pre ++ (tb ++ news))) (T : Top p loose mean mg mb h₀) (C : CodeHd h₀ 54 52) (hcd : ccd = .ref 54) (hpre : ∀ q ∈ pre, q.1 ≠ 52) (hnw : ∀ q ∈ news, q.1 ≠ 52)
    (hcl : closureFor scope (envX cn cs L a ccd cl) = pure clos)
    (h : ∀ f c' oc vs t ctv h' tk, Fr h₀ L h' m →
      News h₀ L h' ((f, kla_obj name lamQual params body scope clos ((mg "__name__").getD .none) c' ctv) :: (pre ++ ((52, tabObj #[rawInt 75, rawInt 18, .ref c']) :: (c', oc) :: news))) →
      oc.data = .fields vs → vs[1]? = some (.str lamQual t) → (∀ q ∈ pre ++ ((52, tabObj #[rawInt 75, rawInt 18, .ref c']) :: (c', oc) :: news), q.1 < f) → Q (.ref f) { s with heap := h', toks := tk }) :
    wpAny M A (makeFunction name lamQual params (.expr body) scope (envX cn cs L a ccd cl) [] [] [] ⟨75, 18, el, ec⟩ firstLine) Q E s := by
  rcases htb with rfl | ⟨c₁, oc₁, vs₁, t₁, rfl, hd, hv⟩
  · refine kla_nest F N T C hcd (updF_mid hpre hnw) True.intro rfl hcl ?_
    intro f c' oc vs t ctv h' tk F' N' hd hv hlt hlt2
    have hmem : ∀ q ∈ pre ++ ((52, tabObj #[rawInt 75, rawInt 18, .ref c']) :: (c', oc) :: news), q ∈ (c', oc) :: (pre ++ (52, tabObj (#[] ++ #[rawInt 75, rawInt 18, .ref c'])) :: news) := by
      intro q hq
      rcases List.mem_append.mp hq with hq | hq
      · exact .tail _ (List.mem_append_left _ hq)
      · rcases List.mem_cons.mp hq with rfl | hq
        · exact .tail _ (List.mem_append_right _ (.head _))
        · rcases List.mem_cons.mp hq with rfl | hq
          · exact .head _
          · exact .tail _ (List.mem_append_right _ (.tail _ hq))
    refine h f c' oc vs t ctv h' tk F' (fun q hq => ?_) hd hv (fun q hq => ?_)
    · rcases List.mem_cons.mp hq with rfl | hq
      · exact N' _ (.head _)
      · exact N' q (.tail _ (hmem q hq))
    · rcases List.mem_append.mp hq with hq | hq
      · exact Nat.lt_trans (hlt q (List.mem_append_left _ hq)) hlt2
      · rcases List.mem_cons.mp hq with rfl | hq
        · exact Nat.lt_trans (hlt (52, tabObj #[]) (List.mem_append_right _ (.head _))) hlt2
        · rcases List.mem_cons.mp hq with rfl | hq
          · exact hlt2
          · exact Nat.lt_trans (hlt q (List.mem_append_right _ (.tail _ hq))) hlt2
  · refine kla_hit F N T C hcd (List.mem_append_right _ (.head _)) (by simp [TriplesOk, rawInt]) (c' := c₁) (by simp [codeAmong, rawInt]) hcl ?_
    intro f ctv h' tk F' N' hlt
    exact h f c₁ oc₁ vs₁ t₁ ctv h' tk F' N' hd hv hlt
end
end Mine
end
section
open PySem PySem.W PyProof.Rows
namespace Mine
local macro_rules | `(tactic| ktn_open) => `(tactic| repeat' (first | (k_unfold; (try dsimp only)) | ((with_reducible show Frag.In _ _ ∧ _); (refine And.intro (by k_in) ?_)) | ((with_reducible show FnAt _ _ ∧ _); (refine And.intro (by exact FnAt.of (by k_asm) (by k_mem)) ?_)) | ((fail_if_success k_end); walk1 <;> (try dsimp only)) | fail "no step"))
local macro_rules | `(tactic| k_all) => `(tactic| (refine' all_ne ?h1 ?h2; (case h1 => assumption); (case h2 => omega)))
local macro_rules | `(tactic| walk_at "exec Assign cons ListComp") => `(tactic| (k_here; k_dflt (refine LCg.Assign_ListComp_U (F₀ := by k_asm) (by rfl) (by with_unfolding_all rfl) (by with_unfolding_all rfl) (by decide) (by rfl) (by decide) (by rfl) (by rfl) (by rfl) ?_)))
local macro_rules | `(tactic| walk_at "exec For Name Name cons nil") => `(tactic| (k_here; (rename Fr _ _ _ _ => lF'); (with_unfolding_all refine' For_iter lF' ?k1 ?k2 ?_; (case k1 => exact rfl); (case k2 => exact rfl); k_whole)))
local macro_rules | `(tactic| walk_at "call ref") => `(tactic| (k_here; kn_here; k_dflt (refine wpAny_call ?_; refine' kla_code ?k1 ?k2 ?k3 ?k4 ?k5 ?kA ?kF ?kK ?k6 ?k7 ?k8 ?k9 ?kB ?_ ?c2 ?c3 ?c4 ?c5; (case kA => exact rfl); (case kF => exact rfl); (case kK => exact rfl); (case k1 => k_asm); (case k2 => k_asm); (case k3 => k_asm); (case k4 => k_asm); (case k5 => k_asm); (case k6 => k_mem); (case k7 => exact codeRec_news (by k_asm) (by k_mem) (by assumption) (by assumption)); (case k8 => ktr_room); (case k9 => exact rfl); (case c5 => decide); (case kB => exact locs rfl); (case c2 => exact rfl); (case c3 => exact rfl); (case c4 => exact rfl); k_whole; intro g' L' h' FG' F' N' B' X' T'; (try dsimp only); (try k_fold))))
set_option maxHeartbeats 8000000 in
theorem laidT {w : World} {tb news : List (Addr × Obj)} {fl sz : Nat} {lp : Addr} {pvs : List Value} {n : Nat} {ps : List Nat} {t1 t2 : Tok} (htb : TabLam tb) (hnw : ∀ q ∈ news, q.1 ≠ 52) (hlp : (lp, listOf pvs.toArray n) ∈ tb ++ news) (hps : IntsAre pvs (ps.map fun (j : Nat) => (j : Int))) (hpl : ps.length ≤ 12) (hp12 : ∀ p ∈ ps, p < 12) (hfl : fl < 4096) (hs1 : 1 ≤ sz) (hs2 : sz ≤ 12) :
    Tell w 3 55 (tb ++ news) [.int (fl : Int) t1, .ref lp, .int (sz : Int) t2] (fun h => CodeHd h 54 52) (fun r nw => ∃ tb' t, TabLam tb' ∧ nw = tb' ++ news ∧ r = .int (laid fl ps sz : Int) t) := by
  unfold Tell
  w_top off
  k_fill
  intro p loose mean mg mb dp un gd cn cs a ccd cl outer A₀ base h₀ L m s Q E B F X N T hPre hk hdp hun hret
  refine wpAny_call ?_
  k_dflt (refine' code_defC ?k1 ?k2 ?k3 ?k4 ?k5 ?kA ?kF ?kK ?k6 ?k7 ?k8 ?k9 ?kB ?kD ?_ ?c2 ?c3 ?c4; (case kA => exact rfl); (case kF => exact rfl); (case kK => assumption); (case k1 => k_asm); (case k2 => k_asm); (case k3 => k_asm); (case k4 => k_asm); (case k5 => k_asm); (case k6 => k_is); (case k7 => k_is); (case k8 => ktr_room); (case k9 => exact BindsTo.of_eq rfl); (case kB => exact rfl); (case kD => decide +kernel); (case c2 => exact rfl); (case c3 => exact rfl); (case c4 => exact rfl); k_whole)
  intro g1 L1 h1 tk1 cells1 FG1 F1 N1 Y1 B1 X1 T1 l1
  k_cells Y1
  simp only [List.cons_append, List.nil_append] at N1
  try dsimp only
  try k_fold
  ktn_open
  rename_i oS oF hoS hoF
  have hpv : pvs.length = ps.length := by rw [hps.length, List.length_map]
  refine LCg.CompSrc.ledger rfl F1 N1 (.tail _ (.tail _ hlp)) (by rw [sizeLine_eq, List.size_toArray]; omega) ?_
  intro g5
  refine comp_ind (fun i ys nw => nw = _ ∧ IntsAre ys ((ps.take i).map fun (j : Nat) => ((fl * 2 ^ j : Nat) : Int))) ⟨rfl, .nil⟩ ?_ ?_
  · intro i v ys nw I oI C oC D m₂ h tk E' hi hv hJ hC hx F5 N5 off ne
    obtain ⟨rfl, hJ⟩ := hJ
    clear F1 N1
    have hib : i < ps.length := by
      rw [List.size_toArray] at hi
      omega
    obtain ⟨y, ty, rfl, hy⟩ := IntsAre.at hps i v (by simpa using hv)
    have hyb : y = (ps[i] : Int) := by
      rw [List.getElem?_map, List.getElem?_eq_getElem hib] at hy
      exact (Option.some.inj hy).symm
    have hb12 := hp12 _ (List.getElem_mem hib)
    generalize hpi : ps[i] = pi at hb12 hyb
    subst hyb
    ktn_open
    rename News _ _ _ _ => N6
    rename Fr _ _ _ _ => F6
    refine ⟨_, _, _, rfl, F6, N6, off, .inr ⟨_, .tail _ (.tail _ hlp), rfl, _, rfl⟩, rfl, ?_⟩
    rw [List.take_add_one, List.getElem?_eq_getElem hib, List.map_append, hpi]
    have e : (fl : Int) * 2 ^ ((pi : Nat) : Int).toNat = ((fl * 2 ^ pi : Nat) : Int) := by
      rw [Int.toNat_natCast]; push_cast; rfl
    rw [e]
    exact hJ.append (.cons _ _ .nil)
  · rintro ys nw ⟨rfl, hJ⟩
    intro D h tk F5 N5 off
    dsimp only
    rw [List.size_toArray, List.take_of_length_le (by omega)] at hJ
    clear F1 N1
    have hoff := off1_mem off
    clear off
    ktn_open
    have h52 : ∃ o, (52, o) ∈ tb ++ news := by
      rcases htb with rfl | ⟨c₁, oc₁, vs₁, t₁, rfl, _, _⟩
      · exact ⟨_, .head _⟩
      · exact ⟨_, .head _⟩
    obtain ⟨o52, h52⟩ := h52
    have hL52 : @LT.lt Nat _ 52 L1 := l1 _ h52
    have hD52 : (52 : Addr) ≠ D := hoff (52, o52) (.tail _ (.tail _ h52))
    have hDS : (L1 + 1 + 1 : Addr) ≠ D := hoff (L1 + 1 + 1, oS) (.head _)
    have hDF : (L1 + 1 : Addr) ≠ D := hoff (L1 + 1, oF) (.tail _ (.head _))
    refine kla_eval rfl ?_
    rename News _ _ _ _ => N6
    rename Fr _ _ _ _ => F6
    with_unfolding_all refine lam_use (pre := [(D, LCg.lst ys), (L1 + 1 + 1, oS), (L1 + 1, oF)]) htb F6 N6 T1 (CodeHd.keeps hPre B1.stays) rfl ?_ hnw rfl ?_
    · intro q hq
      rcases List.mem_cons.mp hq with rfl | hq
      · exact Ne.symm hD52
      rcases List.mem_cons.mp hq with rfl | hq
      · show @Ne Nat _ _; dsimp only; omega
      rw [List.mem_singleton.mp hq]
      show @Ne Nat _ _; dsimp only; omega
    intro f c' oc cvs ct ctv h7 tk7 F7 N7 hoc hocv hlt
    clear F6 N6
    try dsimp only at F7 N7
    simp only [List.cons_append, List.nil_append] at N7
    ktn_open
    refine wpAny_call ?_
    k_dflt (refine' code_def ?k1 ?k2 ?k3 ?k4 ?k5 ?kA ?kF ?kK ?k6 ?k7 ?k8 ?k9 ?kB ?_ ?c2 ?c3 ?c4 ?c5; (case kA => exact rfl); (case kF => exact rfl); (case kK => exact rfl); (case k1 => k_asm); (case k2 => k_asm); (case k3 => k_asm); (case k4 => k_asm); (case k5 => k_asm); (case k6 => k_is); (case k7 => k_is); (case k8 => ktr_room); (case k9 => first | exact BindsTo.of_eq rfl | exact binds_K (by k_in) rfl (by k_is) rfl rfl rfl | (refine' kp_binds ?kx ?ke; (case kx => k_in); (case ke => exact fun _ => rfl))); (case c5 => decide); (case kB => exact locs rfl); (case c2 => exact rfl); (case c3 => exact rfl); (case c4 => exact rfl); k_whole)
    intro g8 L8 h8 FG8 F8 N8 B8 X8 T8
    try dsimp only
    try k_fold
    ktn_open
    rename News _ _ _ _ => N9
    rename Fr _ _ _ _ => F9
    refine iter_list_call F9 N9 (.tail _ (.head _)) rfl rfl ?_
    intro I h10 F10 N10 hIlt
    clear F9 N9
    try dsimp only
    ktn_open
    refine wpAny_is_other rfl (fun e => by cases e) ?_
    ktn_open
    rename News _ _ _ _ => N11
    rename Fr _ _ _ _ => F11
    have hoS' : oS.data = .cell (some (.int (sz : Int) t2)) := hoS
    clear hoS hoF
    have hyl : ys.length = ps.length := by rw [hJ.length, List.length_map]
    refine iter_iterI (lo := LCg.lst ys) (fun i m nw => nw = _ ∧ m "function" = some (.ref f) ∧ ∃ t, m "value" = some (.int (laid fl (ps.take i) sz : Int) t)) rfl F11 N11 rfl rfl (fun q hq => Nat.ne_of_lt (hIlt q hq)) ⟨rfl, rfl, tk7, rfl⟩ ?_ ?_ ?_
    · rintro i m1 nw1 ⟨rfl, _⟩
      exact .tail _ (.head _)
    · intro i v m1 nw1 h12 tk12 oI hv hJ1 off1 F12 N12
      obtain ⟨rfl, hm1, t12, hm2⟩ := hJ1
      clear F11 N11
      have hib : i < ps.length := by
        have := (Array.getElem?_eq_some_iff.mp hv).1
        rw [List.size_toArray] at this
        omega
      obtain ⟨y, ty, rfl, hy⟩ := IntsAre.at hJ i v (by simpa using hv)
      have hyb : y = ((fl * 2 ^ ps[i] : Nat) : Int) := by
        rw [List.getElem?_map, List.getElem?_eq_getElem hib] at hy
        exact (Option.some.inj hy).symm
      subst hyb
      have F13 := fr_known (fr_known F12 (x := "function") (v := .ref f) hm1) (x := "value") (v := .int (laid fl (ps.take i) sz : Int) t12) hm2
      clear F12
      dsimp only [envOf] at F13 N12
      try dsimp only
      ktn_open
      rw [lam_val, ← laid_take hib]
      walk1
      try dsimp only
      ktn_open
      rename News _ _ _ _ => N14
      rename Fr _ _ _ _ => F14
      exact ⟨_, _, _, _, rfl, F14, N14, off1, rfl, rfl, _, rfl⟩
    · rintro m1 nw1 h12 tk12 ⟨rfl, hm1, t12, hm2⟩ F12 N12
      have F13 := fr_known F12 hm2
      clear F11 N11 F12
      rw [List.size_toArray, hyl, List.take_length] at F13
      dsimp only [envOf] at F13 N12
      try dsimp only
      ktn_open
      walk1
      try dsimp only
      walk1
      rename News _ _ _ _ => kN
      rename Fr _ _ _ _ => kF
      exact hret _ _ _ _ kF (news_keep0 [_, _, _, _] kN) ⟨[_, _], _, .inr ⟨c', oc, cvs, ct, rfl, hoc, hocv⟩, rfl, rfl⟩
end Mine
end
section
open PySem PySem.W PyProof.Rows
namespace Mine
def missing (xs ys : List Int) : List Int := xs.filter (fun x => !ys.contains x)
structure DInv (xs ys : List Int) (i j : Nat) (ms : List Int) : Prop where
  hi : i ≤ xs.length
  hj : j ≤ ys.length
  hm : ms = missing (xs.take i) ys
  s1 : ∀ x ∈ xs.take i, ∀ y ∈ ys.drop j, x < y
  s2 : ∀ y ∈ ys.take j, ∀ x ∈ xs.drop i, y < x
theorem dinv0 (xs ys : List Int) : DInv xs ys 0 0 [] := ⟨Nat.zero_le _, Nat.zero_le _, by simp [missing], by simp, by simp⟩
section
variable {xs ys : List Int} {i j : Nat} {ms : List Int}
theorem getD_at (h : i < xs.length) : xs.getD ((i : Nat) : Int).toNat 0 = xs[i] := by
  rw [Int.toNat_natCast, List.getD_eq_getElem?_getD, List.getElem?_eq_getElem h]; rfl
theorem drop_cons (h : i < xs.length) : xs.drop i = xs[i] :: xs.drop (i + 1) := List.drop_eq_getElem_cons h
theorem take_snoc (h : i < xs.length) : xs.take (i + 1) = xs.take i ++ [xs[i]] := by
  rw [List.take_add_one, List.getElem?_eq_getElem h]; rfl
theorem head_lt (hs : xs.Pairwise (· < ·)) (h : i < xs.length) : ∀ x ∈ xs.drop (i + 1), xs[i] < x := by
  have := hs.drop (i := i)
  rw [drop_cons h] at this
  exact (List.pairwise_cons.mp this).1
theorem next_ne (hs : xs.Pairwise (· < ·)) (h : i + 1 < xs.length) : xs[i + 1] ≠ xs[i] := by
  have := head_lt hs (Nat.lt_of_succ_lt h) xs[i + 1] (by rw [drop_cons h]; exact .head _)
  omega
theorem mem_split {x : Int} (hx : x ∈ ys) : x ∈ ys.take j ∨ x ∈ ys.drop j := by
  rw [← List.take_append_drop j ys] at hx
  exact List.mem_append.mp hx
theorem dinv_lt (D : DInv xs ys i j ms) (hys : ys.Pairwise (· < ·)) (h1 : i < xs.length) (h2 : j < ys.length) (h : xs[i] < ys[j]) : DInv xs ys (i + 1) j (ms ++ [xs[i]]) := by
  have hd : ∀ y ∈ ys.drop j, xs[i] < y := by
    intro y hy
    rw [drop_cons h2] at hy
    rcases List.mem_cons.mp hy with rfl | hy
    · exact h
    · have := head_lt hys h2 y hy; omega
  refine ⟨h1, D.hj, ?_, ?_, fun y hy x hx => D.s2 y hy x (by rw [drop_cons h1]; exact .tail _ hx)⟩
  · rw [take_snoc h1, missing, List.filter_append, ← missing, ← D.hm]
    congr 1
    have : xs[i] ∉ ys := by
      intro hm
      rcases mem_split (j := j) hm with hm | hm
      · have := D.s2 _ hm xs[i] (by rw [drop_cons h1]; exact .head _); omega
      · have := hd _ hm; omega
    simp [this]
  · intro x hx y hy
    rw [take_snoc h1] at hx
    rcases List.mem_append.mp hx with hx | hx
    · exact D.s1 x hx y hy
    · rw [List.mem_singleton.mp hx]; exact hd y hy
theorem dinv_gt (D : DInv xs ys i j ms) (hxs : xs.Pairwise (· < ·)) (h1 : i < xs.length) (h2 : j < ys.length) (h : ys[j] < xs[i]) : DInv xs ys i (j + 1) ms := by
  refine ⟨D.hi, h2, D.hm, fun x hx y hy => D.s1 x hx y (by rw [drop_cons h2]; exact .tail _ hy), ?_⟩
  intro y hy x hx
  rw [take_snoc h2] at hy
  rcases List.mem_append.mp hy with hy | hy
  · exact D.s2 y hy x hx
  · rw [List.mem_singleton.mp hy]
    rw [drop_cons h1] at hx
    rcases List.mem_cons.mp hx with rfl | hx
    · exact h
    · have := head_lt hxs h1 x hx; omega
theorem dinv_eq (D : DInv xs ys i j ms) (hxs : xs.Pairwise (· < ·)) (hys : ys.Pairwise (· < ·)) (h1 : i < xs.length) (h2 : j < ys.length) (h : xs[i] = ys[j]) : DInv xs ys (i + 1) (j + 1) ms := by
  refine ⟨h1, h2, ?_, ?_, ?_⟩
  · rw [take_snoc h1, missing, List.filter_append, ← missing, ← D.hm]
    have : xs[i] ∈ ys := by rw [h]; exact List.getElem_mem h2
    simp [this]
  · intro x hx y hy
    rw [take_snoc h1] at hx
    rcases List.mem_append.mp hx with hx | hx
    · exact D.s1 x hx y (by rw [drop_cons h2]; exact .tail _ hy)
    · rw [List.mem_singleton.mp hx, h]; exact head_lt hys h2 y hy
  · intro y hy x hx
    rw [take_snoc h2] at hy
    rcases List.mem_append.mp hy with hy | hy
    · exact D.s2 y hy x (by rw [drop_cons h1]; exact .tail _ hx)
    · rw [List.mem_singleton.mp hy, ← h]; exact head_lt hxs h1 x hx
theorem dinv_end (D : DInv xs ys i j ms) (h : xs.length ≤ i ∨ ys.length ≤ j) : ms ++ xs.drop i = missing xs ys := by
  rw [D.hm]
  have e : missing xs ys = missing (xs.take i) ys ++ missing (xs.drop i) ys := by
    simp only [missing]
    rw [← List.filter_append, List.take_append_drop]
  rw [e]
  congr 1
  rcases h with h | h
  · rw [List.drop_of_length_le h]; rfl
  · symm
    apply List.filter_eq_self.mpr
    intro x hx
    have : x ∉ ys := by
      intro hm
      have := D.s2 x (by rw [List.take_of_length_le h]; exact hm) x hx
      omega
    simp [this]
end
end Mine
end
section
open PySem PySem.W PyProof.Rows PySem.Calls
namespace Mine
section
variable {prog : Program} {w : World} {M : Model} {A A₀ : Around} {E : Value → Shared → Prop} {s : Shared} {base g h : Heap} {outer : List Env} {name : Str} {scope : Scope} {L a ea T : Addr} {cd : Value} {m : Str → Option Value} {news : List (Addr × Obj)} {oe oT : Obj} {vs ts : Array Value} {Q : Unit → Shared → Prop}
/-- frames' slots alone have changed: the ground turns with them -/
theorem slots_ground {h₁ : Heap} (K : Below A₀ base outer g) (F : Fr g L h m) (N : News g L h news) (hs : Heap.SlotsOnly ((envOf name scope L a cd :: outer).filterMap (·.frame)) h h₁) :
    ∃ g', KtsTurn (outer.filterMap (·.frame)) g g' ∧ Fr g' L h₁ m ∧ News g' L h₁ news ∧ Below A₀ base outer g' := by
  have hgL : g.get? L = none := kts_self F
  have notf : ∀ b o, g.get? b = some o → b ∉ outer.filterMap (·.frame) → b ∉ (envOf name scope L a cd :: outer).filterMap (·.frame) := fun b o e nm hm => by
    rcases kts_mem hm with z | z
    · rw [z, hgL] at e; cases e
    · exact nm z
  obtain ⟨T₁, S₁⟩ := kts_turn_at (h := h₁) (fs := outer.filterMap (·.frame)) (g := g)
    (fun b hb => by obtain ⟨_, o, ho, _⟩ := K.frames.mem hb; exact ⟨o, ho⟩)
    (fun b o e nm => (hs.2.1 b (notf b o e nm)).trans (F.keep b o e))
    (fun b o e _ => hs.2.2 b o (F.keep b o e))
  have up : h.UpToSlots h₁ := fun b o e _ => hs.2.2 b o e
  refine ⟨_, T₁, ⟨up.ns F.ns, S₁, by rw [T₁.size]; exact F.above⟩, fun p hp => ?_, ⟨K.stack, fun b o e => T₁.other b o (K.stays b o e) (fun hm => by
    rw [(K.frames.mem hm).1] at e
    cases e), K.frames.of_keeps fun b o e _ => ?_⟩⟩
  · obtain ⟨n1, n2, n3⟩ := N p hp
    refine ⟨(hs.2.1 p.1 fun hm => ?_).trans n1, n2, T₁.none_ _ n3⟩
    rcases kts_mem hm with z | z
    · exact n2 z
    · obtain ⟨_, o, ho, _⟩ := K.frames.mem z
      rw [n3] at ho; cases ho
  · obtain ⟨sl, hs'⟩ := T₁.up e
    exact ⟨_, hs', rfl⟩
theorem news_upd {h' : Heap} {o' : Obj} {pre post : List (Addr × Obj)} {b : Addr} {o : Obj} (N : News g L h (pre ++ (b, o) :: post)) (hs : Heap.SameBut b h h') (ho : h'.get? b = some o') (h1 : ∀ p ∈ pre, p.1 ≠ b) (h2 : ∀ p ∈ post, p.1 ≠ b) : News g L h' (pre ++ (b, o') :: post) := fun p hp => by
  rcases List.mem_append.mp hp with hp | hp
  · have n := N p (List.mem_append_left _ hp)
    exact ⟨(hs.2 p.1 (h1 p hp)).trans n.1, n.2⟩
  · rcases List.mem_cons.mp hp with rfl | hp
    · exact ⟨ho, (N (b, o) (List.mem_append_right _ (.head _))).2⟩
    · have n := N p (List.mem_append_right _ (.tail _ hp))
      exact ⟨(hs.2 p.1 (h2 p hp)).trans n.1, n.2⟩
theorem note_own (K : Below A₀ base outer g) (F : Fr g L s.heap m) (N : News g L s.heap ((ea, oe) :: news)) (hne : ∀ p ∈ news, p.1 ≠ ea) (hd : oe.data = .fields vs) (h1 : vs[1]? = some .none) (hfr : A.frames = some (envOf name scope L a cd :: outer)) (hk : scope.kind = .function)
    (k : ∀ (ts' : Array Value) g' h' T oT, ts'[3]? = some (rawInt L) → KtsTurn (outer.filterMap (·.frame)) g g' → Below A₀ base outer g' → Fr g' L h' m → News g' L h' ((ea, Obj.mapFields (·.setIfInBounds 1 (.ref T)) oe) :: (T, oT) :: news) → oT.data = .fields ts' → T ≠ ea → (∀ p ∈ news, p.1 ≠ T) → Q () { s with heap := h' }) :
    wpAny M A (noteFrame (.ref ea) (envOf name scope L a cd)) Q E s := by
  have K' := K.push (name := name) (a := a) (cd := cd) F hk
  have he := (N _ (.head _)).1
  have hsz : 1 < vs.size := (Array.getElem?_eq_some_iff.mp h1).1
  unfold noteFrame
  simp only [show (envOf name scope L a cd).frame = some L from rfl]
  refine wpAny_bind (wpAny_field he hd h1 ?_)
  rw [if_neg (by decide)]
  refine wpAny_bind (wpAny_frameOf_fun hfr K'.frames rfl fun h₁ hs₁ => ?_)
  refine wpAny_bind (wpAny_entryPlaceOf fun pl hpl => ?_)
  unfold EntryCells.newEntry newFields
  refine wpAny_bind (wpAny_newObj_type ?_ (hpl.sizeOk5 _ _ _ _ _))
  obtain ⟨g', T₁, F₁, N₁, K₁⟩ := slots_ground (name := name) (scope := scope) (a := a) (cd := cd) K F N hs₁
  generalize hT : ({ cls := .type "traceback", dict := none, data := .fields ([Value.none, .ref L, .none, rawInt L, .none] ++ (if pl.isEmpty then List.replicate 6 Value.none else pl)).toArray } : Obj) = oT
  have hTd : oT.data = .fields ([Value.none, .ref L, .none, rawInt L, .none] ++ (if pl.isEmpty then List.replicate 6 Value.none else pl)).toArray := by rw [← hT]
  have hTf : oT.isFreed = false := by rw [← hT]; rfl
  have he₁ := (N₁ _ (.head _)).1
  have F₂ := F₁.push oT
  have N₂ := N₁.push F₁ oT hTf
  have he₂ := (N₂ _ (.tail _ (.head _))).1
  have hTe : h₁.objs.size ≠ ea := Nat.ne_of_gt (Heap.lt_size he₁)
  have hd₃ := Obj.data_mapFields hd (·.setIfInBounds 1 (Value.ref h₁.objs.size))
  have sb := Heap.SameBut.update (h₁.push oT) ea (Obj.mapFields (·.setIfInBounds 1 (Value.ref h₁.objs.size)))
  have he₃ := Heap.get?_update_self (Obj.mapFields (·.setIfInBounds 1 (Value.ref h₁.objs.size))) he₂ (Obj.isFreed_of_fields hd₃)
  refine wpAny_setField he₂ hd hsz ?_
  refine k _ g' _ h₁.objs.size oT ?_ T₁ K₁ (F₂.change sb (N₂ _ (.tail _ (.head _))).2.1 (N₂ _ (.tail _ (.head _))).2.2) ?_ hTd hTe (fun p hp => Nat.ne_of_lt (Heap.lt_size (N₁ p (.tail _ hp)).1))
  · first | (simp; done) | (rcases hpl with rfl | ⟨_, _, _, _, _, _, _, rfl⟩ <;> simp)
  · have N₃ : News g' L (h₁.push oT) ([] ++ (ea, oe) :: ((h₁.objs.size, oT) :: news)) := fun p hp => by
      rcases List.mem_cons.mp hp with rfl | hp
      · exact N₂ _ (.tail _ (.head _))
      rcases List.mem_cons.mp hp with rfl | hp
      · exact N₂ _ (.head _)
      · exact N₂ _ (.tail _ (.tail _ hp))
    exact news_upd N₃ sb he₃ (fun _ h => nomatch h) (fun p hp => by
      rcases List.mem_cons.mp hp with rfl | hp
      · exact hTe
      · exact hne p hp)
theorem note_again (he : s.heap.get? ea = some oe) (hd : oe.data = .fields vs) (h1 : vs[1]? = some (.ref T)) (hT : s.heap.get? T = some oT) (hdT : oT.data = .fields ts) (h3 : ts[3]? = some (rawInt L)) (h : Q () s) :
    wpAny M A (noteFrame (.ref ea) (envOf name scope L a cd)) Q E s := by
  unfold noteFrame
  simp only [show (envOf name scope L a cd).frame = some L from rfl]
  refine wpAny_bind (wpAny_field he hd h1 ?_)
  rw [if_pos (show (Value.ref T != Value.none) = true from by simp)]
  refine wpAny_bind (wpAny_field hT hdT h3 ?_)
  rw [if_pos (show (rawInt L == rawInt L) = true from by simp)]
  exact wpAny_pure h
theorem set_flight {fr : Option Addr} (F : Fr g L s.heap m) (N : News g L s.heap ((ea, oe) :: (T, oT) :: news)) (hd : oe.data = .fields vs) (h1 : vs[1]? = some (.ref T)) (hdT : oT.data = .fields ts) (h3 : 3 < ts.size) (hTe : T ≠ ea) (hnT : ∀ p ∈ news, p.1 ≠ T)
    (k : ∀ h', Fr g L h' m → News g L h' ((ea, oe) :: (T, Obj.mapFields (·.setIfInBounds 3 (fr.elim .none fun f => rawInt f)) oT) :: news) → Q () { s with heap := h' }) :
    wpAny M A (setFlight (.ref ea) fr) Q E s := by
  have he := (N _ (.head _)).1
  have hT := N _ (.tail _ (.head _))
  unfold setFlight
  refine wpAny_bind (wpAny_field he hd h1 ?_)
  rw [if_pos (show (Value.ref T != Value.none) = true from by simp)]
  refine wpAny_setField hT.1 hdT h3 ?_
  have sb := Heap.SameBut.update s.heap T (Obj.mapFields (·.setIfInBounds 3 (fr.elim Value.none fun f => rawInt f)))
  have hd₃ := Obj.data_mapFields hdT (·.setIfInBounds 3 (fr.elim Value.none fun f => rawInt f))
  have hT₃ := Heap.get?_update_self (Obj.mapFields (·.setIfInBounds 3 (fr.elim Value.none fun f => rawInt f))) hT.1 (Obj.isFreed_of_fields hd₃)
  exact k _ (F.change sb hT.2.1 hT.2.2) (news_upd (pre := [(ea, oe)]) N sb hT₃ (fun p hp => by rw [List.mem_singleton.mp hp]; exact Ne.symm hTe) hnT)
end
/-- what stands below the frame at hand -/
structure Grnd (A₀ : Around) (base : Heap) (outer : List Env) (KF : Frag) (p : Program) (loose : List Str) (mean : ExcName → Option Value) (mg mb : Str → Option Value) (g₀ g : Heap) : Prop where
  B : Below A₀ base outer g
  X : KF.In g
  T : Top p loose mean mg mb g
  D : KtsDicts (outer.filterMap (·.frame)) g
  turn : KtsTurn (outer.filterMap (·.frame)) g₀ g
section
variable {prog : Program} {w : World} {M : Model} {A A₀ : Around} {E : Value → Shared → Prop} {s s' : Shared} {base g g₀ h : Heap} {outer : List Env} {name : Str} {scope : Scope} {L a ea T : Addr} {cd e : Value} {m : Str → Option Value} {news : List (Addr × Obj)} {oe oT : Obj} {vs ts : Array Value} {Q : Unit → Shared → Prop}
  {KF : Frag} {p : Program} {loose : List Str} {mean : ExcName → Option Value} {mg mb : Str → Option Value} {I : Value → (Str → Option Value) → List (Addr × Obj) → Prop}
theorem Grnd.next (G : Grnd A₀ base outer KF p loose mean mg mb g₀ g) (XB : KF.In base) (TB : Top p loose mean mg mb base) {g' : Heap} (t : KtsTurn (outer.filterMap (·.frame)) g g') (K : Below A₀ base outer g') : Grnd A₀ base outer KF p loose mean mg mb g₀ g' :=
  ⟨K, XB.keeps K.stays, TB.keeps K.stays, G.D.turn t, G.turn.trans t⟩
/-- an IndexError in flight in the frame at hand; I: what holds of its context, the frame and the ledger -/
def Ex (A₀ : Around) (base : Heap) (outer : List Env) (KF : Frag) (p : Program) (loose : List Str) (mean : ExcName → Option Value) (mg mb : Str → Option Value) (g₀ : Heap) (L : Addr) (I : Value → (Str → Option Value) → List (Addr × Obj) → Prop) (s : Shared) (e : Value) (s' : Shared) : Prop :=
  ∃ ea oe vs g h tk m news cx, e = .ref ea ∧ s' = { s with heap := h, toks := tk } ∧ Grnd A₀ base outer KF p loose mean mg mb g₀ g ∧ Fr g L h m ∧ oe.cls = .type "IndexError" ∧ oe.data = .fields vs ∧ vs[2]? = some cx ∧ (∀ p ∈ news, p.1 ≠ ea) ∧ I cx m news ∧
    ((vs[1]? = some .none ∧ News g L h ((ea, oe) :: news)) ∨ ∃ T oT ts, vs[1]? = some (.ref T) ∧ News g L h ((ea, oe) :: (T, oT) :: news) ∧ oT.data = .fields ts ∧ ts[3]? = some (rawInt L) ∧ T ≠ ea ∧ ∀ p ∈ news, p.1 ≠ T)
/-- the same, noted in the frame, with its flight -/
def ExT (A₀ : Around) (base : Heap) (outer : List Env) (KF : Frag) (p : Program) (loose : List Str) (mean : ExcName → Option Value) (mg mb : Str → Option Value) (g₀ : Heap) (L : Addr) (fl : Value) (I : Value → (Str → Option Value) → List (Addr × Obj) → Prop) (s : Shared) (ea : Addr) (s' : Shared) : Prop :=
  ∃ oe vs g h tk m news cx T oT ts, s' = { s with heap := h, toks := tk } ∧ Grnd A₀ base outer KF p loose mean mg mb g₀ g ∧ Fr g L h m ∧ oe.cls = .type "IndexError" ∧ oe.data = .fields vs ∧ vs[2]? = some cx ∧ (∀ p ∈ news, p.1 ≠ ea) ∧ I cx m news ∧
    vs[1]? = some (.ref T) ∧ News g L h ((ea, oe) :: (T, oT) :: news) ∧ oT.data = .fields ts ∧ ts[3]? = some fl ∧ T ≠ ea ∧ ∀ p ∈ news, p.1 ≠ T
theorem ExT.ex (x : ExT A₀ base outer KF p loose mean mg mb g₀ L (rawInt L) I s ea s') : Ex A₀ base outer KF p loose mean mg mb g₀ L I s (.ref ea) s' := by
  obtain ⟨oe, vs, g, h, tk, m, news, cx, T, oT, ts, e1, G, F, hc, hd, h2, hne, hI, h1, N, hdT, h3, hTe, hnT⟩ := x
  exact ⟨ea, oe, vs, g, h, tk, m, news, cx, rfl, e1, G, F, hc, hd, h2, hne, hI, .inr ⟨T, oT, ts, h1, N, hdT, h3, hTe, hnT⟩⟩
theorem ex_note (XB : KF.In base) (TB : Top p loose mean mg mb base) (x : Ex A₀ base outer KF p loose mean mg mb g₀ L I s e s') (hfr : A.frames = some (envOf name scope L a cd :: outer)) (hk : scope.kind = .function)
    (k : ∀ ea s'', e = .ref ea → ExT A₀ base outer KF p loose mean mg mb g₀ L (rawInt L) I s ea s'' → Q () s'') :
    wpAny M A (noteFrame e (envOf name scope L a cd)) Q E s' := by
  obtain ⟨ea, oe, vs, g, h, tk, m, news, cx, rfl, rfl, G, F, hc, hd, h2, hne, hI, ⟨h1, N⟩ | ⟨T, oT, ts, h1, N, hdT, h3, hTe, hnT⟩⟩ := x
  · refine note_own G.B F N hne hd h1 hfr hk ?_
    intro ts g' h' T oT h3 t K F' N' hdT hTe hnT
    have hsz : 1 < vs.size := (Array.getElem?_eq_some_iff.mp h1).1
    exact k ea _ rfl ⟨_, _, g', h', tk, m, news, cx, T, oT, ts, rfl, G.next XB TB t K, F', (Obj.cls_mapFields _ _).trans hc, Obj.data_mapFields hd _, by rw [Array.getElem?_setIfInBounds_ne (by decide)]; exact h2, hne, hI, by simp [hsz], N', hdT, h3, hTe, hnT⟩
  · exact note_again (N _ (.head _)).1 hd h1 (N _ (.tail _ (.head _))).1 hdT h3 (k ea _ rfl ⟨oe, vs, g, h, tk, m, news, cx, T, oT, ts, rfl, G, F, hc, hd, h2, hne, hI, h1, N, hdT, h3, hTe, hnT⟩)
theorem ext_flight {fl : Value} {fr : Option Addr} (x : ExT A₀ base outer KF p loose mean mg mb g₀ L fl I s ea s') (k : ∀ s'', ExT A₀ base outer KF p loose mean mg mb g₀ L (fr.elim .none fun f => rawInt f) I s ea s'' → Q () s'') :
    wpAny M A (setFlight (.ref ea) fr) Q E s' := by
  obtain ⟨oe, vs, g, h, tk, m, news, cx, T, oT, ts, rfl, G, F, hc, hd, h2, hne, hI, h1, N, hdT, h3, hTe, hnT⟩ := x
  have hsz : 3 < ts.size := (Array.getElem?_eq_some_iff.mp h3).1
  refine set_flight F N hd h1 hdT hsz hTe hnT fun h' F' N' => k _ ⟨oe, vs, g, h', tk, m, news, cx, T, _, _, rfl, G, F', hc, hd, h2, hne, hI, h1, N', Obj.data_mapFields hdT _, by simp [hsz], hTe, hnT⟩
theorem ext_cameBack {fl : Value} (x : ExT A₀ base outer KF p loose mean mg mb g₀ L fl I s ea s') {E₁ : Value → Shared → Prop} (k : ∀ s'', ExT A₀ base outer KF p loose mean mg mb g₀ L (rawInt L) I s ea s'' → E₁ (.ref ea) s'') :
    cameBackBy M A (envOf name scope L a cd) E₁ (.ref ea) s' := by
  have x' := x
  obtain ⟨oe, vs, g, h, tk, m, news, cx, T, oT, ts, rfl, G, F, hc, hd, h2, hne, hI, h1, N, hdT, h3, hTe, hnT⟩ := x'
  unfold cameBackBy
  refine wpAny_bind (wpAny_field (N _ (.head _)).1 hd h1 ?_)
  rw [if_neg (show ¬ ((Value.ref T == Value.none) = true) from by simp)]
  exact ext_flight (fr := some L) x fun s'' y => k s'' y
theorem ex_passes (XB : KF.In base) (TB : Top p loose mean mg mb base) {A' : Around} (hfr : A'.frames = some (envOf name scope L a cd :: outer)) (hk : scope.kind = .function) :
    PassesOwnAt M A' A (envOf name scope L a cd) (Ex A₀ base outer KF p loose mean mg mb g₀ L I s) := by
  intro e s' x
  refine ex_note XB TB x hfr hk fun ea s'' he y => ?_
  subst he
  exact ext_cameBack y fun s₃ z => z.ex
end
end Mine
end
section
open PySem PySem.W PyProof.Rows PySem.Calls
namespace Mine
theorem entry_unchain : entryFor table "proto.unchain" = some Builtin.«proto.unchain» := entryFor_of_fast (by kernel_rfl)
theorem plain_unchain : plainId "proto.unchain" = true := by decide +kernel
section
variable {prog : Program} {w : World} {A : Around} {E : Value → Shared → Prop} {s : Shared}
theorem unchain_none {e1 : Addr} {oe1 : Obj} {vs1 : Array Value} {e : Value} {Q : Value → Shared → Prop} (he1 : s.heap.get? e1 = some oe1) (hd1 : oe1.data = .fields vs1) (hc1 : vs1[2]? = some .none) (h : Q .none s) :
    wpAny (model prog w) A (runValue (.builtin "proto.unchain" ⟨[e, .ref e1, .ref e1, .bool false], []⟩)) Q E s := by
  refine wpAny_runValue (codeAny_builtin entry_unchain ?_)
  unfold Builtin.«proto.unchain»
  show wpAny _ _ (field (.ref e1) 2 >>= _) _ _ s
  refine wpAny_bind (wpAny_field he1 hd1 hc1 ?_)
  exact wpAny_pure h
theorem raise_words_h {α : Type} {cls msg : String} {Q : α → Shared → Prop} {e1 : Addr} {oe1 : Obj} {vs1 : Array Value} (hp : PlainExc cls) (hh : A.handled = some (.ref e1)) (he1 : s.heap.get? e1 = some oe1) (hd1 : oe1.data = .fields vs1) (hc1 : vs1[2]? = some .none)
    (h : ∀ h' tk e ob t, (∀ b o, s.heap.get? b = some o → h'.get? b = some o) → s.heap.get? e = none → h'.get? e = some ob → ob.cls = .type cls → ob.data = .fields #[t, .none, .ref e1, .none, .bool false, .none] → E (.ref e) { s with heap := h', toks := tk }) :
    wpAny (model prog w) A (raiseErrorWords cls msg : Sem α) Q E s := by
  unfold raiseErrorWords
  refine wpAny_bind (wpAny_mkText (wpAny_bind ?_))
  unfold newExc newTuple
  refine wpAny_bind (wpAny_newObj_type ?_)
  refine wpAny_bind (m := firstArgMember _ _) (wpAny_of_eq (a := Value.none) (by simp only [firstArgMember, hp.first]; rfl) ?_)
  rw [hp.own]
  refine wpAny_newObj_type ?_
  unfold raiseNew
  refine wpAny_bind (wpAny_handled ?_)
  rw [hh]
  dsimp only
  have n1 : s.heap.get? (s.heap.push { cls := Value.type "tuple", data := Data.seq #[Value.str (Str.ofString msg) s.toks] }).objs.size = none := Heap.get?_none_of_le (by simp)
  generalize hH : s.heap.push { cls := Value.type "tuple", data := Data.seq #[Value.str (Str.ofString msg) s.toks] } = H at n1 ⊢
  have old : ∀ b o, s.heap.get? b = some o → H.get? b = some o := fun b o hb => by rw [← hH]; exact Heap.get?_push_of_some _ hb
  generalize hO : ({ cls := Value.type cls, data := Data.fields (#[Value.ref s.heap.objs.size, Value.none, Value.none, Value.none, Value.bool false, Value.none] ++ #[]) } : Obj) = ob
  have hOd : ob.data = .fields #[Value.ref s.heap.objs.size, Value.none, Value.none, Value.none, Value.bool false, Value.none] := by rw [← hO]; simp
  have hOc : ob.cls = .type cls := by rw [← hO]
  have hOf : ob.isFreed = false := by rw [← hO]; rfl
  have hne : e1 ≠ H.objs.size := Nat.ne_of_lt (Heap.lt_size (old _ _ he1))
  rw [if_pos (by simpa using hne)]
  refine wpAny_bind (wpAny_holding (unchain_none (Heap.get?_push_of_some _ (old _ _ he1)) hd1 hc1 ?_))
  have hob := Heap.get?_push_size H hOf
  have hd₃ := Obj.data_mapFields hOd (·.setIfInBounds 2 (Value.ref e1))
  have he₃ := Heap.get?_update_self (Obj.mapFields (·.setIfInBounds 2 (Value.ref e1))) hob (Obj.isFreed_of_fields hd₃)
  refine wpAny_bind (wpAny_setField hob hOd (by simp) ?_)
  refine wpAny_throw (h _ _ _ _ _ (fun b o hb => ?_) n1 he₃ ((Obj.cls_mapFields _ _).trans hOc) (hd₃.trans (by rfl)))
  exact (Heap.get?_update_other _ _ (fun q => by rw [q] at n1; rw [n1] at hb; cases hb)).trans (Heap.get?_push_of_some _ (old b o hb))
/-- an item beyond a list's end, raised while another exception is handled -/
theorem getItem_out_h {l : Addr} {items : Array Value} {k : Int} {t : Tok} {Q : Value → Shared → Prop} {e1 : Addr} {oe1 : Obj} {vs1 : Array Value} (hh : A.handled = some (.ref e1)) (he1 : s.heap.get? e1 = some oe1) (hd1 : oe1.data = .fields vs1) (hc1 : vs1[2]? = some .none) (hl : s.heap.IsList l items)
    (h0 : 0 ≤ k) (hout : (items.size : Int) ≤ k) (hhi : k < 2 ^ 63)
    (hE : ∀ h' tk e ob t, (∀ b o, s.heap.get? b = some o → h'.get? b = some o) → s.heap.get? e = none → h'.get? e = some ob → ob.cls = .type "IndexError" → ob.data = .fields #[t, .none, .ref e1, .none, .bool false, .none] → E (.ref e) { s with heap := h', toks := tk }) :
    wpAny (model prog w) A (getItem (.ref l) (.int k t)) Q E s := by
  obtain ⟨o, ho, hc, ne, hd⟩ := id hl
  unfold getItem
  try with_reducible refine wpAny_holding ?_
  first | refine wpAny_bind (wpAny_pure ?_) | skip
  refine wpAny_bind (wpAny_sequenceKey hl.typeIs (by decide) ?_)
  refine wpAny_bind (wpAny_callSpecial?_slot (name := Str.ofString "__getitem__") hl.typeIs slot_list_getitem
    (wpAny_call_entry slot_list_getitem hl.typeIs entry_list_getitem ?_ (args_list_getitem _ _)))
  show wpAny _ _ (Builtin.List.listSubscript? (.int k t) >>= _) _ _ s
  refine wpAny_bind (wpAny_listSubscript_int (fitsIndex_both (Int.le_trans (by decide) h0) hhi) ?_)
  clear hhi
  cases k with
  | negSucc j => exact absurd h0 (by have := Int.negSucc_lt_zero j; omega)
  | ofNat j =>
  have hx : items[j]? = none := Array.getElem?_eq_none (by have : (items.size : Int) ≤ (j : Int) := hout; omega)
  show wpAny _ _ ((seqItemAt l j >>= fun r => pure (r.map (j, ·))) >>= _) _ _ s
  refine wpAny_bind (wpAny_bind (wpAny_seqItemAt ho hd (wpAny_pure ?_)))
  rw [hx]
  first
    | exact wpAny_bind (wpAny_rule (raise_words_h plainExc_IndexError hh he1 hd1 hc1 hE))
    | exact wpAny_bind (wpAny_rule (wpAny_bind (raise_words_h plainExc_IndexError hh he1 hd1 hc1 hE)))
    | exact wpAny_bind (wpAny_bind (wpAny_rule (raise_words_h plainExc_IndexError hh he1 hd1 hc1 hE)))
    | exact wpAny_rule (raise_words_h plainExc_IndexError hh he1 hd1 hc1 hE)
end
section
variable {prog : Program} {w : World} {A A₀ : Around} {E : Value → Shared → Prop} {s s' : Shared} {base g g₀ h h' : Heap} {outer : List Env} {name : Str} {scope : Scope} {L a ea T : Addr} {cd e : Value} {m : Str → Option Value} {news : List (Addr × Obj)} {oe oT : Obj} {vs ts : Array Value}
  {KF : Frag} {p : Program} {loose : List Str} {mean : ExcName → Option Value} {mg mb : Str → Option Value} {I J : Value → (Str → Option Value) → List (Addr × Obj) → Prop} {tk : Nat}
theorem ex_made {ob : Obj} {t cx : Value} (G : Grnd A₀ base outer KF p loose mean mg mb g₀ g) (F : Fr g L h m) (N : News g L h news) (hk : ∀ b o, h.get? b = some o → h'.get? b = some o) (hn : h.get? ea = none) (ho : h'.get? ea = some ob) (hc : ob.cls = .type "IndexError") (hd : ob.data = .fields #[t, .none, cx, .none, .bool false, .none])
    (hI : I cx m news) : Ex A₀ base outer KF p loose mean mg mb g₀ L I s (.ref ea) { s with heap := h', toks := tk } := by
  refine ⟨ea, ob, _, g, h', tk, m, news, cx, rfl, rfl, G, F.keeps hk, hc, hd, rfl, fun q hq e => ?_, hI, .inl ⟨rfl, fun q hq => ?_⟩⟩
  · have := (N q hq).1
    rw [e, hn] at this; cases this
  · rcases List.mem_cons.mp hq with rfl | hq
    · refine ⟨ho, fun e => ?_, ?_⟩
      · have e' : ea = L := e
        obtain ⟨oL, _, _, hL, _⟩ := F.ns
        rw [← e', hn] at hL; cases hL
      · cases q : g.get? ea with
        | none => rfl
        | some o => have := F.keep _ _ q; rw [hn] at this; cases this
    · exact ⟨hk _ _ (N q hq).1, (N q hq).2⟩
theorem ex_new (G : Grnd A₀ base outer KF p loose mean mg mb g₀ g) (F : Fr g L h m) (N : News g L h news) (hx : Heap.NewExc h h' ea "IndexError") (hI : I .none m news) : Ex A₀ base outer KF p loose mean mg mb g₀ L I s (.ref ea) { s with heap := h', toks := tk } := by
  obtain ⟨ob, t, ho, hc, hd⟩ := hx.there
  exact ex_made G F N hx.keeps hx.new ho hc hd hI
theorem ext_passOn {α : Type} {Q : α → Shared → Prop} {fl : Value} {what : String} (x : ExT A₀ base outer KF p loose mean mg mb g₀ L fl I s ea s') (hE : ∀ s'', Ex A₀ base outer KF p loose mean mg mb g₀ L I s (.ref ea) s'' → E (.ref ea) s'') :
    wpAny (model prog w) A (PySem.passOn what (.ref ea) (envOf name scope L a cd) : Sem α) Q E s' := by
  have x' := x
  obtain ⟨oe, vs, g, h, tk, m, news, cx, T, oT, ts, rfl, G, F, hc, hd, h2, hne, hI, h1, N, hdT, h3, hTe, hnT⟩ := x'
  unfold PySem.passOn
  refine wpAny_bind (wpAny_field (N _ (.head _)).1 hd h1 ?_)
  rw [if_neg (show ¬ ((Value.ref T == Value.none) = true) from by simp)]
  exact wpAny_bind (ext_flight (fr := some L) x fun s'' y => wpAny_throw (hE s'' y.ex))
/-- the exception comes to the frame's own clause -/
theorem ex_caught {Q : Flow → Shared → Prop} {np pos : Pos} {b₀ : Stmt} {suite : List Stmt} {rest : List ExceptHandler} (XB : KF.In base) (TB : Top p loose mean mg mb base) (x : Ex A₀ base outer KF p loose mean mg mb g₀ L I s e s') (hfr : A.frames = some (envOf name scope L a cd :: outer)) (hk : scope.kind = .function)
    (ex : nsIn KF mainGlobals (Str.ofString "IndexError") = some none) (hx : (envOf name scope L a cd).kindOf (Str.ofString "IndexError") = some .globalImplicit)
    (hE : ∀ e, PassesOwnAt (model prog w) (A.mark (some e)) A (envOf name scope L a cd) E)
    (k : ∀ ea g h tk m news cx, Grnd A₀ base outer KF p loose mean mg mb g₀ g → Fr g L h m → News g L h news → I cx m news →
      wpAny (model prog w) (A.mark (some (.ref ea))) (execs (b₀ :: suite) (envOf name scope L a cd)) Q E { s with heap := h, toks := tk }) :
    wpAny (model prog w) A (noteFrame e (envOf name scope L a cd)) (fun _ s₂ => wpAny (model prog w) A (setFlight e none) (fun _ s₃ =>
      wpAny (model prog w) A (handleBy e (envOf name scope L a cd) (.ExceptHandler (some (.Name (Str.ofString "IndexError") np)) none (b₀ :: suite) pos :: rest)) Q E s₃) E s₂) E s' := by
  refine ex_note XB TB x hfr hk fun ea s₂ he y => ?_
  subst he
  refine ext_flight (fr := none) y fun s₃ z => ?_
  have z' := z
  obtain ⟨oe, vs, g, h, tk, m, news, cx, T, oT, ts, rfl, G, F, hc, hd, h2, hne, hI, h1, N, hdT, h3, hTe, hnT⟩ := z'
  refine wpAny_handleBy_builtin (X := "IndexError") (T := "IndexError") (b := true) PySem.F.isExc_IndexError PySem.F.notTuple_IndexError (by rw [isSubtype_type]; kernel_rfl)
    (wpAny_passesOwnAt (hE _) (name_B F G.X (topRead_of G.T) ex PyProof.Rows.Boot.«IndexError» (by decide) ⟨rfl, ⟨oe, (N _ (.head _)).1, hc⟩, ?_⟩ hk hx))
  rw [if_pos rfl]
  refine ext_flight (fr := none) z fun s₄ u => ?_
  obtain ⟨oe, vs, g, h, tk, m, news, cx, T, oT, ts, rfl, G, F, hc, hd, h2, hne, hI, h1, N, hdT, h3, hTe, hnT⟩ := u
  exact wpAny_passesOwnAt (hE _) (k ea g h tk m news cx G F (fun q hq => N q (.tail _ (.tail _ hq))) hI)
theorem sub_raise {value slice : PySem.Expr} {l : Addr} {items : Array Value} {k : Int} {u : Tok} {Q : Value → Shared → Prop} (hA : A.handled = none) (hl : s.heap.IsList l items) (h0 : 0 ≤ k) (hout : (items.size : Int) ≤ k) (hhi : k < 2 ^ 63)
    (hE : ∀ h' tk e, Heap.NewExc s.heap h' e "IndexError" → E (.ref e) { s with heap := h', toks := tk })
    (hs : subscripted slice false (.ref l) (.int k u) = operate [.ref l, .int k u] (getItem (.ref l) (.int k u)) := by with_unfolding_all rfl) :
    wpAny (model prog w) A (subscriptTail value slice (.ref l) (.int k u)) Q E s :=
  tail_any hl.typeIs slot_list_getitem.lookup (wpAny_getItem_list_out hA hl (.inr hout) (Int.le_trans (by decide) h0) hhi hE) hs
theorem sub_raise_h {value slice : PySem.Expr} {l : Addr} {items : Array Value} {k : Int} {u : Tok} {Q : Value → Shared → Prop} {e1 : Addr} {oe1 : Obj} {vs1 : Array Value} (hh : A.handled = some (.ref e1)) (he1 : s.heap.get? e1 = some oe1) (hd1 : oe1.data = .fields vs1) (hc1 : vs1[2]? = some .none) (hl : s.heap.IsList l items) (h0 : 0 ≤ k) (hout : (items.size : Int) ≤ k) (hhi : k < 2 ^ 63)
    (hE : ∀ h' tk e ob t, (∀ b o, s.heap.get? b = some o → h'.get? b = some o) → s.heap.get? e = none → h'.get? e = some ob → ob.cls = .type "IndexError" → ob.data = .fields #[t, .none, .ref e1, .none, .bool false, .none] → E (.ref e) { s with heap := h', toks := tk })
    (hs : subscripted slice false (.ref l) (.int k u) = operate [.ref l, .int k u] (getItem (.ref l) (.int k u)) := by with_unfolding_all rfl) :
    wpAny (model prog w) A (subscriptTail value slice (.ref l) (.int k u)) Q E s :=
  tail_any hl.typeIs slot_list_getitem.lookup (getItem_out_h hh he1 hd1 hc1 hl h0 hout hhi hE) hs
end
end Mine
end
section
open PySem PySem.W PyProof.Rows
namespace Mine
/-- the contract of a def that catches: the caller's ground may turn (the outer frames' slots) -/
def TellS (w : World) (b : Nat) (f : Addr) (news : List (Addr × Obj)) (vs : List Value) (Post : Value → List (Addr × Obj) → Prop) : Prop :=
  ∀ (p : Program) (loose : List Str) (mean : ExcName → Option Value) (mg mb : Str → Option Value) (dp un : Nat) (gd : Option (List Code)) (cn : Str) (cs : Scope) (a : Addr) (ccd : Value) (outer : List Env) (A₀ : Around) (base h₀ g₀ : Heap) (L : Addr) (m : Str → Option Value) (s : Shared)
    (Q E : Value → Shared → Prop),
    Below A₀ base outer h₀ → Fr h₀ L s.heap m → (hd.heap_39 w.params).In h₀ → News h₀ L s.heap news → Top p loose mean mg mb h₀ → (hd.heap_39 w.params).In base → Top p loose mean mg mb base → KtsDicts (outer.filterMap (·.frame)) h₀ → KtsTurn (outer.filterMap (·.frame)) g₀ h₀ → cs.kind = .function → dp + b ≤ 400 → un + 20 * b ≤ 1000 →
    (∀ r nw h' tk' h₁, KtsTurn (outer.filterMap (·.frame)) g₀ h₁ → Below A₀ base outer h₁ → (hd.heap_39 w.params).In h₁ → Top p loose mean mg mb h₁ → KtsDicts (outer.filterMap (·.frame)) h₁ → Fr h₁ L h' m → News h₁ L h' nw → Post r nw → Q r { s with heap := h', toks := tk' }) →
    wpAny (model PySem.Challenge.rw_oy0035_01.row.prog w) (ktrTop dp un gd cn cs L a ccd [] outer) (call (.ref f) vs) Q E s
/-- what holds between the turns of the loop -/
def DSt (xs ys : List Int) (news : List (Addr × Obj)) (le la lm lu : Addr) (i j : Nat) (m : Str → Option Value) (nw : List (Addr × Obj)) : Prop :=
  ∃ (ti tj : Tok) (mvs uvs : List Value) (nm nu : Nat) (ms us : List Int), nw = (lu, listOf uvs.toArray nu) :: (lm, listOf mvs.toArray nm) :: news ∧ IntsAre mvs ms ∧ IntsAre uvs us ∧ us.length ≤ j ∧ DInv xs ys i j ms ∧
    m "expected" = some (.ref le) ∧ m "actual" = some (.ref la) ∧ m "i" = some (.int (i : Int) ti) ∧ m "j" = some (.int (j : Int) tj) ∧ m "missing" = some (.ref lm) ∧ m "unexpected" = some (.ref lu)
theorem frames_mark (A : Around) (x : Option Value) : (A.mark x).frames = A.frames := by cases x <;> rfl
local macro_rules | `(tactic| ktn_open) => `(tactic| repeat' (first | (k_unfold; (try dsimp only)) | ((with_reducible show Frag.In _ _ ∧ _); (refine And.intro (by k_in) ?_)) | ((fail_if_success k_end); (fail_if_success (with_reducible show wpAny _ _ (exec (Stmt.While _ _ _ _) _) _ _ _)); (fail_if_success (with_reducible show wpAny _ _ (exec (Stmt.Try _ _ _ _ _) _) _ _ _)); walk1 <;> (try dsimp only)) | fail "no step"))
local macro_rules | `(tactic| k_all) => `(tactic| (refine' all_ne ?h1 ?h2; (case h1 => assumption); (case h2 => omega)))
set_option maxHeartbeats 8000000 in
theorem sortedDiff {w : World} {news : List (Addr × Obj)} {le la : Addr} {evs avs : List Value} {ne na : Nat} {xs ys : List Int} (hle : (le, listOf evs.toArray ne) ∈ news) (hla : (la, listOf avs.toArray na) ∈ news) (hex : IntsAre evs xs) (hay : IntsAre avs ys) (hxl : xs.length ≤ 12) (hyl : ys.length ≤ 12) (hxs : xs.Pairwise (· < ·)) (hys : ys.Pairwise (· < ·)) :
    TellS w 1 21 news [.ref le, .ref la] (fun r nw => ∃ tp lm lu mvs n1 n2, r = .ref tp ∧ nw = (tp, { cls := .type "tuple", data := .seq #[.ref lm, .ref lu] n1 }) :: (lm, listOf mvs.toArray n2) :: news ∧ IntsAre mvs (missing xs ys)) := by
  unfold TellS
  w_top off
  k_fill
  intro p loose mean mg mb dp un gd cn cs a ccd outer A₀ base h₀ g₀ L m s Q E B F X N T XB TB D T0 hk hdp hun hret
  refine wpAny_call ?_
  k_dflt (refine' code_defS B F X N T XB TB D T0 ?kA ?k6 ?k7 ?k8 ?k9 ?kB ?_ ?kK ?c2 ?c3 ?c4 ?c5; (case kA => exact rfl); (case kK => exact hk); (case k6 => k_is); (case k7 => k_is); (case k8 => ktr_room); (case k9 => exact BindsTo.of_eq rfl); (case c5 => decide); (case kB => exact locs rfl); (case c2 => exact rfl); (case c3 => exact rfl); (case c4 => exact rfl); k_whole)
  intro g1 L1 h1 FG1 F1 N1 B1 X1 T1 D1
  try dsimp only
  try k_fold
  clear B F X N T D T0 FG1
  ktn_open
  rename_i lm _ l1 _ _ lu _ l2 _ F1 N1
  have G1 : Grnd (ktrTop dp un gd cn cs L a ccd [] outer) base (envOf cn cs L a ccd :: outer) (hd.heap_39 w.params) p loose mean mg mb g1 g1 := ⟨B1, X1, T1, D1, KtsTurn.refl⟩
  have hlu : ∀ q ∈ news, q.1 ≠ lu := fun q hq => Nat.ne_of_lt (ktn_ltOf l2.2 q hq)
  have hlm : ∀ q ∈ news, q.1 ≠ lm := fun q hq => Nat.ne_of_lt (l1 q hq)
  have hum : lu ≠ lm := Nat.ne_of_gt l2.1
  refine While_inv2 (n₀ := xs.length + ys.length + 1) (fun n m nw => ∃ i j, n = (xs.length - i) + (ys.length - j) + 1 ∧ DSt xs ys news le la lm lu i j m nw) F1 N1 ⟨0, 0, rfl, _, _, [], [], 0, 0, [], [], rfl, .nil, .nil, Nat.zero_le _, dinv0 xs ys, rfl, rfl, rfl, rfl, rfl, rfl⟩ ?_
  intro n m1 nw h2 tk2 F2 N2 hJ
  obtain ⟨i, j, rfl, ti, tj, mvs, uvs, nm, nu, ms, us, rfl, hms, hus, hul, D, e1, e2, e3, e4, e5, e6⟩ := hJ
  clear F1 N1
  have F3 := fr_known (x := "unexpected") (v := .ref lu) (fr_known (x := "missing") (v := .ref lm) (fr_known (x := "j") (v := .int (j : Int) tj) (fr_known (x := "i") (v := .int (i : Int) ti) (fr_known (x := "actual") (v := .ref la) (fr_known F2 e1) e2) e3) e4) e5) e6
  clear F2 e1 e2 e3 e4 e5 e6
  ktn_open
  refine wpAny_Try_except ?_
  refine wpAny_mono (E := Ex (ktrTop dp un gd cn cs L a ccd [] outer) base (envOf cn cs L a ccd :: outer) (hd.heap_39 w.params) p loose mean mg mb g1 L1 (fun _ m nw => ∃ i j, DSt xs ys news le la lm lu i j m nw ∧ (xs.length ≤ i ∨ ys.length ≤ j)) s) ?_ (fun _ _ q => q) ?_
  rotate_left
  · intro e s' x
    refine ex_caught XB TB x (Around.frames_deeper rfl) rfl (by k_is) rfl ?_ ?_
    · intro e'
      passes_own
    · intro ea g h tk3 m2 nw cx G F4 N4 hI
      obtain ⟨i', j', ⟨ti', tj', mvs', uvs', nm', nu', ms', us', rfl, hms', hus', hul', D', e1, e2, e3, e4, e5, e6⟩, hend⟩ := hI
      have F5 := fr_known (x := "unexpected") (v := .ref lu) (fr_known (x := "missing") (v := .ref lm) (fr_known (x := "j") (v := .int (j' : Int) tj') (fr_known (x := "i") (v := .int (i' : Int) ti') (fr_known (x := "actual") (v := .ref la) (fr_known F4 e1) e2) e3) e4) e5) e6
      have X5 := G.X
      have T5 := G.T
      have B5 := G.B
      clear F3 N2 F4 e1 e2 e3 e4 e5 e6 X1 T1 B1 D1 G1 hms hus hul D
      ktn_open
      rename Fr _ _ _ _ => F6
      rename News _ _ _ _ => N6
      have hml : mvs'.length ≤ 12 := by
        rw [hms'.length, D'.hm]
        exact Nat.le_trans (List.length_filter_le _ _) (Nat.le_trans (List.length_take_le _ _) (by have := D'.hi; omega))
      have huvl : uvs'.length ≤ 12 := by rw [hus'.length]; have := D'.hj; omega
      have hevl : evs.length ≤ 12 := by rw [hex.length]; exact hxl
      have havl : avs.length ≤ 12 := by rw [hay.length]; exact hyl
      k_dflt (refine' kmk_slice_ints (s := ⟨_, _, _, _, _⟩) ?zqF ?zqN ?zql ?zqp ?zqq ?zqi ?zqm ?zqc ?_ ?zqs ?zqt ?zqz; (case zqF => exact F6); (case zqN => exact N6); (case zql => exact News.isList N6 (.tail _ (.tail _ hle))); (case zqp => exact IsPart.int _ _); (case zqq => exact IsPart.none); (case zqi => exact hex); (case zqm => exact kmk_from hex (by omega)); (case zqc => exact rfl); (case zqs => with_unfolding_all rfl); (case zqt => (intro _; with_unfolding_all rfl)); (case zqz => (rw [sizeLine_eq, List.size_toArray]; omega)))
      intro D1 ws1 h7 F7 N7 hD1 hws1 _ hws1l
      clear F6 N6
      ktn_open
      rename Fr _ _ _ _ => F6
      rename News _ _ _ _ => N6
      have hws1' : ws1.length ≤ 12 := by rw [hws1.length]; omega
      refine extend_in (own := [(D1, listOf ws1.toArray 0), (lu, listOf uvs'.toArray nu')]) F6 N6 ?_ hlm (N6 _ (.head _)).1 ?_ (by rw [sizeLine_eq, List.size_toArray]; omega)
      · intro q hq
        rcases List.mem_cons.mp hq with rfl | hq
        · exact Nat.ne_of_gt (hD1 (lm, _) (.tail _ (.head _)))
        · rw [List.mem_singleton.mp hq]; exact hum
      intro h8 n8 F8 N8
      clear F6 N6
      have N9 : News g L1 h8 ((lu, listOf uvs'.toArray nu') :: (lm, listOf (mvs' ++ ws1).toArray n8) :: news) := fun q hq => N8 q (.tail _ hq)
      clear N8
      ktn_open
      rename Fr _ _ _ _ => F6
      rename News _ _ _ _ => N6
      k_dflt (refine' kmk_slice_ints (s := ⟨_, _, _, _, _⟩) ?zqF ?zqN ?zql ?zqp ?zqq ?zqi ?zqm ?zqc ?_ ?zqs ?zqt ?zqz; (case zqF => exact F6); (case zqN => exact N6); (case zql => exact News.isList N6 (.tail _ (.tail _ hla))); (case zqp => exact IsPart.int _ _); (case zqq => exact IsPart.none); (case zqi => exact hay); (case zqm => exact kmk_from hay (by omega)); (case zqc => exact rfl); (case zqs => with_unfolding_all rfl); (case zqt => (intro _; with_unfolding_all rfl)); (case zqz => (rw [sizeLine_eq, List.size_toArray]; omega)))
      intro D2 ws2 h10 F10 N10 hD2 hws2 _ hws2l
      clear F6 N6
      ktn_open
      rename Fr _ _ _ _ => F6
      rename News _ _ _ _ => N6
      have hws2' : ws2.length ≤ 12 := by rw [hws2.length]; omega
      refine extend_in (own := [(D2, listOf ws2.toArray 0)]) F6 N6 ?_ ?_ (N6 _ (.head _)).1 ?_ (by rw [sizeLine_eq, List.size_toArray]; omega)
      · intro q hq
        rw [List.mem_singleton.mp hq]
        exact Nat.ne_of_gt (hD2 (lu, _) (.head _))
      · intro q hq
        rcases List.mem_cons.mp hq with rfl | hq
        · exact Ne.symm hum
        · exact hlu q hq
      intro h11 n11 F11 N11
      clear F6 N6
      have N12 : News g L1 h11 ((lu, listOf (uvs' ++ ws2).toArray n11) :: (lm, listOf (mvs' ++ ws1).toArray n8) :: news) := fun q hq => N11 q (.tail _ hq)
      clear N11
      ktn_open
      dsimp only [WhileStep2]
      ktn_open
      dsimp only [qk]
      rename Fr _ _ _ _ => F13
      rename News _ _ _ _ => N13
      refine leaveS_r F13 N13 G.turn ?_
      intro h₁ t' F14 N14 B14 X14 T14 D14
      refine hret _ _ _ _ _ t' B14 X14 T14 D14 F14 (news_keep1 [_] N14) ⟨_, lm, lu, mvs' ++ ws1, _, _, rfl, rfl, ?_⟩
      have := hms'.append hws1
      rw [Int.toNat_natCast] at this
      rwa [dinv_end D' hend] at this
  · have hi' := D.hi
    have hj' := D.hj
    by_cases h1 : i < xs.length
    rotate_left
    · ktn_open
      rename Fr _ _ _ _ => F4
      rename News _ _ _ _ => N4
      refine sub_raise rfl (News.isList N4 (.tail _ (.tail _ hle))) (by omega) (by rw [List.size_toArray, hex.length]; omega) (by omega) fun h' tk' e hx => ?_
      exact ex_new G1 F4 N4 hx ⟨i, j, ⟨ti, tj, mvs, uvs, nm, nu, ms, us, rfl, hms, hus, hul, D, rfl, rfl, rfl, rfl, rfl, rfl⟩, .inl (by omega)⟩
    ktn_open
    rename Fr _ _ _ _ => F4
    rename News _ _ _ _ => N4
    refine ksa_sub N4 (.tail _ (.tail _ hle)) hex (by omega) (by omega) (by omega) ?_
    intro te
    rw [getD_at h1]
    ktn_open
    rename Fr _ _ _ _ => F4
    rename News _ _ _ _ => N4
    by_cases h2 : j < ys.length
    rotate_left
    · refine sub_raise rfl (News.isList N4 (.tail _ (.tail _ hla))) (by omega) (by rw [List.size_toArray, hay.length]; omega) (by omega) fun h' tk' e hx => ?_
      exact ex_new G1 F4 N4 hx ⟨i, j, ⟨ti, tj, mvs, uvs, nm, nu, ms, us, rfl, hms, hus, hul, D, rfl, rfl, rfl, rfl, rfl, rfl⟩, .inr (by omega)⟩
    refine ksa_sub N4 (.tail _ (.tail _ hla)) hay (by omega) (by omega) (by omega) ?_
    intro ta
    rw [getD_at h2]
    have hml : mvs.length ≤ 12 := by
      rw [hms.length, D.hm]
      exact Nat.le_trans (List.length_filter_le _ _) (Nat.le_trans (List.length_take_le _ _) (by omega))
    have huvl : uvs.length ≤ 12 := by rw [hus.length]; omega
    ktn_open
    · rename xs[i] < ys[j] => hlt
      rename Fr _ _ _ _ => F5
      rename News _ _ _ _ => N5
      rw [List.push_toArray] at N5
      have hms' := hms.append (IntsAre.cons (t := te) (n := xs[i]) .nil)
      have D' := dinv_lt D hys h1 h2 hlt
      refine whl_start 1 (whl_turn (ex_passes XB TB (Around.frames_deeper rfl) rfl) ?_)
      ktn_open
      by_cases h3 : i + 1 < xs.length
      rotate_left
      · refine sub_raise rfl (News.isList N5 (.tail _ (.tail _ hle))) (by omega) (by rw [List.size_toArray, hex.length]; omega) (by omega) fun h' tk' e hx => ?_
        exact ex_new G1 F5 N5 hx ⟨i + 1, j, ⟨_, tj, _, uvs, _, nu, _, us, rfl, hms', hus, hul, D', rfl, rfl, rfl, rfl, rfl, rfl⟩, .inl (by omega)⟩
      refine ksa_sub N5 (.tail _ (.tail _ hle)) hex (by omega) (by omega) (by omega) ?_
      intro te'
      rw [show xs.getD ((i : Int) + 1).toNat 0 = xs[i + 1] from getD_at h3]
      ktn_open
      refine WhlIf.no (by simpa using next_ne hxs h3) ?_
      ktn_open
      dsimp only [WhileStep2]
      exact ⟨_, _, _, _, _, rfl, F5, N5, by omega, i + 1, j, rfl, _, tj, _, uvs, _, nu, _, us, rfl, hms', hus, hul, D', rfl, rfl, rfl, rfl, rfl, rfl⟩
    · rename ys[j] < xs[i] => hlt
      rename Fr _ _ _ _ => F5
      rename News _ _ _ _ => N5
      rw [List.push_toArray] at N5
      have hus' := hus.append (IntsAre.cons (t := ta) (n := ys[j]) .nil)
      have hul' : (us ++ [ys[j]]).length ≤ j + 1 := by rw [List.length_append, List.length_singleton]; omega
      have D' := dinv_gt D hxs h1 h2 hlt
      refine whl_start 1 (whl_turn (ex_passes XB TB (Around.frames_deeper rfl) rfl) ?_)
      ktn_open
      by_cases h3 : j + 1 < ys.length
      rotate_left
      · refine sub_raise rfl (News.isList N5 (.tail _ (.tail _ hla))) (by omega) (by rw [List.size_toArray, hay.length]; omega) (by omega) fun h' tk' e hx => ?_
        exact ex_new G1 F5 N5 hx ⟨i, j + 1, ⟨ti, _, mvs, _, nm, _, ms, _, rfl, hms, hus', hul', D', rfl, rfl, rfl, rfl, rfl, rfl⟩, .inr (by omega)⟩
      refine ksa_sub N5 (.tail _ (.tail _ hla)) hay (by omega) (by omega) (by omega) ?_
      intro te'
      rw [show ys.getD ((j : Int) + 1).toNat 0 = ys[j + 1] from getD_at h3]
      ktn_open
      refine WhlIf.no (by simpa using next_ne hys h3) ?_
      ktn_open
      dsimp only [WhileStep2]
      exact ⟨_, _, _, _, _, rfl, F5, N5, by omega, i, j + 1, rfl, ti, _, mvs, _, nm, _, ms, _, rfl, hms, hus', hul', D', rfl, rfl, rfl, rfl, rfl, rfl⟩
    · have heq : xs[i] = ys[j] := by omega
      have D' := dinv_eq D hxs hys h1 h2 heq
      refine wpAny_Try_finally ?_
      refine wpAny_mono (E := Ex (ktrTop dp un gd cn cs L a ccd [] outer) base (envOf cn cs L a ccd :: outer) (hd.heap_39 w.params) p loose mean mg mb g1 L1 (fun cx m nw => cx = .none ∧ xs.length ≤ i + 1 ∧ nw = (lu, listOf uvs.toArray nu) :: (lm, listOf mvs.toArray nm) :: news ∧
        ∃ ti', m "expected" = some (.ref le) ∧ m "actual" = some (.ref la) ∧ m "i" = some (.int (i + 1 : Int) ti') ∧ m "j" = some (.int (j : Int) tj) ∧ m "missing" = some (.ref lm) ∧ m "unexpected" = some (.ref lu) ∧ m "a" = some (.int ys[j] ta)) s) ?_ (fun _ _ q => q) ?_
      · ktn_open
        refine whl_start 1 (whl_turn (ex_passes XB TB (Around.frames_deeper rfl) rfl) ?_)
        ktn_open
        rename Fr _ _ _ _ => F5
        rename News _ _ _ _ => N5
        by_cases h3 : i + 1 < xs.length
        rotate_left
        · refine sub_raise rfl (News.isList N5 (.tail _ (.tail _ hle))) (by omega) (by rw [List.size_toArray, hex.length]; omega) (by omega) fun h' tk' e hx => ?_
          exact ex_new G1 F5 N5 hx ⟨rfl, by omega, rfl, _, rfl, rfl, rfl, rfl, rfl, rfl, rfl⟩
        refine ksa_sub N5 (.tail _ (.tail _ hle)) hex (by omega) (by omega) (by omega) ?_
        intro te'
        rw [show xs.getD ((i : Int) + 1).toNat 0 = xs[i + 1] from getD_at h3]
        ktn_open
        refine WhlIf.no (by simpa using next_ne hxs h3) ?_
        ktn_open
        refine wpAny_mono (E := Ex (ktrTop dp un gd cn cs L a ccd [] outer) base (envOf cn cs L a ccd :: outer) (hd.heap_39 w.params) p loose mean mg mb g1 L1 (fun _ m nw => ∃ i j, DSt xs ys news le la lm lu i j m nw ∧ (xs.length ≤ i ∨ ys.length ≤ j)) s) ?_ (fun _ _ q => q) (ex_passes XB TB (Around.frames_deeper rfl) rfl)
        ktn_open
        rename Fr _ _ _ _ => F6
        rename News _ _ _ _ => N6
        refine whl_start 1 (whl_turn (ex_passes XB TB (Around.frames_deeper rfl) rfl) ?_)
        ktn_open
        by_cases h4 : j + 1 < ys.length
        rotate_left
        · refine sub_raise rfl (News.isList N6 (.tail _ (.tail _ hla))) (by omega) (by rw [List.size_toArray, hay.length]; omega) (by omega) fun h' tk' e hx => ?_
          exact ex_new G1 F6 N6 hx ⟨i + 1, j + 1, ⟨_, _, mvs, uvs, nm, nu, ms, us, rfl, hms, hus, by omega, D', rfl, rfl, rfl, rfl, rfl, rfl⟩, .inr (by omega)⟩
        refine ksa_sub N6 (.tail _ (.tail _ hla)) hay (by omega) (by omega) (by omega) ?_
        intro ta'
        rw [show ys.getD ((j : Int) + 1).toNat 0 = ys[j + 1] from getD_at h4]
        ktn_open
        refine WhlIf.no (by simpa using next_ne hys h4) ?_
        ktn_open
        dsimp only [WhileStep2]
        exact ⟨_, _, _, _, _, rfl, F6, N6, by omega, i + 1, j + 1, rfl, _, _, mvs, uvs, nm, nu, ms, us, rfl, hms, hus, by omega, D', rfl, rfl, rfl, rfl, rfl, rfl⟩
      · intro e s' x
        refine ex_note XB TB x (Around.frames_deeper rfl) rfl fun ea s₂ he y => ?_
        subst he
        refine ⟨ref_ne_byPass _, ex_note XB TB y.ex (Around.frames_deeper rfl) rfl fun ea' s₃ he' y' => ?_⟩
        cases he'
        refine ext_flight (fr := none) y' fun s₄ z => ?_
        obtain ⟨oe, vs, g, h, tk, m', news', cx, T, oT, ts, rfl, G, F6, hcE, hdE, hv2, hne, ⟨rfl, hend, rfl, ti', e1, e2, e3, e4, e5, e6, e7⟩, hv1, N6, hdT, hts3, hTe, hnT⟩ := z
        have F7 := fr_known (x := "a") (fr_known (x := "unexpected") (v := .ref lu) (fr_known (x := "missing") (v := .ref lm) (fr_known (x := "j") (v := .int (j : Int) tj) (fr_known (x := "i") (fr_known (x := "actual") (v := .ref la) (fr_known F6 e1) e2) e3) e4) e5) e6) e7
        refine wpAny_mono (E := Ex (ktrTop dp un gd cn cs L a ccd [] outer) base (envOf cn cs L a ccd :: outer) (hd.heap_39 w.params) p loose mean mg mb g1 L1 (fun _ m nw => ∃ i j, DSt xs ys news le la lm lu i j m nw ∧ (xs.length ≤ i ∨ ys.length ≤ j)) s) ?_ (fun _ _ q => q) (ex_passes XB TB ((frames_mark _ _).trans (Around.frames_deeper rfl)) rfl)
        ktn_open
        rename Fr _ _ _ _ => F8
        refine whl_start 1 (whl_turn (ex_passes XB TB ((frames_mark _ _).trans (Around.frames_deeper rfl)) rfl) ?_)
        ktn_open
        rename News _ _ _ _ => N8
        by_cases h4 : j + 1 < ys.length
        rotate_left
        · refine sub_raise_h rfl (N8 _ (.head _)).1 hdE hv2 (News.isList N8 (.tail _ (.tail _ (.tail _ (.tail _ hla))))) (by omega) (by rw [List.size_toArray, hay.length]; omega) (by omega) fun h' tk' e ob t hk1 hk2 hk3 hk4 hk5 => ?_
          exact ex_made G F8 (fun q hq => N8 q (.tail _ (.tail _ hq))) hk1 hk2 hk3 hk4 hk5 ⟨i + 1, j + 1, ⟨_, _, mvs, uvs, nm, nu, ms, us, rfl, hms, hus, by omega, D', rfl, rfl, rfl, rfl, rfl, rfl⟩, .inr (by omega)⟩
        refine ksa_sub N8 (.tail _ (.tail _ (.tail _ (.tail _ hla)))) hay (by omega) (by omega) (by omega) ?_
        intro ta'
        rw [show ys.getD ((j : Int) + 1).toNat 0 = ys[j + 1] from getD_at h4]
        ktn_open
        refine WhlIf.no (by simpa using next_ne hys h4) ?_
        ktn_open
        refine ext_passOn (I := fun _ m nw => ∃ i j, DSt xs ys news le la lm lu i j m nw ∧ (xs.length ≤ i ∨ ys.length ≤ j)) ⟨oe, vs, g, _, _, _, _, .none, T, oT, ts, rfl, G, F8, hcE, hdE, hv2, hne, ⟨i + 1, j + 1, ⟨_, _, mvs, uvs, nm, nu, ms, us, rfl, hms, hus, by omega, D', rfl, rfl, rfl, rfl, rfl, rfl⟩, .inl (by omega)⟩, hv1, N8, hdT, hts3, hTe, hnT⟩ fun s'' q => q
end Mine
end
section
open PySem PySem.W PyProof.Rows PySem.Calls
namespace Mine
section
variable {prog : Program} {w : World} {A₀ A : Around} {s : Shared} {base h₀ g₀ : Heap} {outer : List Env} {L a : Addr} {m : Str → Option Value} {env : Env} {news : List (Addr × Obj)} {K : Frag} {p : Program} {loose : List Str} {mean : ExcName → Option Value} {mg mb : Str → Option Value}
    {R : Result → Shared → Prop} {name qual : Str} {params : Arguments} {body : List Stmt} {scope : Scope} {dV kV doc pm cdv ct oc : Value} {an od : Option Addr} {osl : Array (Option Value)} {f : Addr} {args : Args} {binds : List (Str × Value)}
/-- a def entered from a frame that may have cells, at the bottom of the stack; what it calls may catch -/
theorem enterS0 (B : Below A₀ base [] h₀) (F : Fr h₀ L s.heap m) (X₀ : K.In h₀) (N : News h₀ L s.heap news) (T : Top p loose mean mg mb h₀) (hA : A.frames = some [env]) (hf : env.frame = some L) (hke : env.scope.kind = .function)
    (ho : K.lookup f = some ⟨oc, od, .func (fnOf name qual params body scope dV kV doc pm an cdv ct), osl⟩) (hcd : codeIn K cdv qual = true) (hroom : A.depth < recursionLimit)
    (hbind : BindsTo s (fnOf name qual params body scope dV kV doc pm an cdv ct) args binds) (hloc : ∀ y ∈ binds, scope.names.lookup y.1 = some .local)
    (h : ∀ g L' h₁, Fr g L' h₁ (fun y => binds.reverse.lookup y) → News g L' h₁ news → Below A base [env] g → K.In g → Top p loose mean mg mb g → KtsDicts ([env].filterMap (·.frame)) g → (∀ p ∈ news, p.1 < L') →
      wpAny (model prog w) (A.deeper (envOf qual scope L' f cdv)) (execs body (envOf qual scope L' f cdv))
        (fun fl s' => LeaveS0 ([env].filterMap (·.frame)) h₀ L m g R (match fl with | .ret v => v | _ => .none) s')
        (fun e s' => wpAny (model prog w) (A.deeper (envOf qual scope L' f cdv)) (leaving (envOf qual scope L' f cdv) e) (fun _ s'' => R (.error e) s'') (fun e' s'' => R (.error e') s'') s')
        { s with heap := h₁, toks := s.toks + binds.length })
    (hco : scope.isCoroutine = false) (hgen : scope.isGenerator = false) (hk : scope.kind = .function)
    (hcell : ∀ x ∈ scope.names, x.2 ≠ .cell) : codeAny (model prog w) A (.call (.ref f) args) R s := by
  have X := X₀.keeps F.keep
  refine codeAny_call_def (fd := fnOf name qual params body scope dV kV doc pm an cdv ct) (body := body) (binds := binds) hroom (X _ _ ho) rfl (T.nolimit.keeps F.keep) (codeRec_of X hcd) rfl hbind hcell hloc (fun h₁ hns hk₁ => ?_) hco hgen hk
  obtain ⟨FG, BG, st, _⟩ := groundX (R := R) B F N hA hf hke
  obtain ⟨oL, es, ep, hLg, hLd, hLk, hLf⟩ := FG.ns
  have hfs : ∀ b ∈ [env].filterMap (·.frame), b = L := fun b hb => by
    simp only [List.filterMap_cons, hf, List.filterMap_nil, List.mem_singleton] at hb
    exact hb
  refine wpAny_mono (h _ s.heap.objs.size h₁ ⟨hns, fun b o e => hk₁ b o (of_hideAll _ e), Nat.le_of_eq (hideAll_size _ _)⟩
    (fun p hp => ⟨hk₁ _ _ (N p hp).1, Nat.ne_of_lt (Heap.lt_size (N p hp).1), hideAll_none _ (List.mem_map_of_mem hp)⟩) BG (X₀.keeps st) (T.keeps st) (fun b hb => by
      rw [hfs b hb]; exact ⟨oL, es, ep, hLg, hLd⟩) (fun p hp => Heap.lt_size (N p hp).1)) (fun fl s' hl => ?_) fun _ _ y => y
  obtain ⟨g', L', m', news', T', F', N', k⟩ := hl
  have nL₀ : h₀.get? L = none := kts_self F
  obtain ⟨sl, hs⟩ := T'.up hLg
  refine k ⟨⟨_, es, ep, F'.keep _ _ hs, hLd, hLk, hLf⟩, fun b o e => F'.keep b o (T'.other b o (st b o e) (fun q => by
    rw [hfs b q, nL₀] at e
    cases e)), F.above⟩ fun p hp => ⟨(N' p hp).1, fun q => ?_, ?_⟩
  · have := (N' p hp).2.2; rw [q, hs] at this; cases this
  · cases q : h₀.get? p.1 with
    | none => rfl
    | some o =>
      obtain ⟨sl', hs'⟩ := T'.up (st _ _ q)
      have := (N' p hp).2.2
      rw [hs'] at this
      cases this
end
end Mine
end
section
open PySem PySem.W PyProof.Rows
namespace Mine
/-- the contract of a def called from the frame at the stack's bottom, which may call what catches -/
def TellM (w : World) (b : Nat) (f : Addr) (news : List (Addr × Obj)) (vs : List Value) (Post : Value → List (Addr × Obj) → Prop) : Prop :=
  ∀ (p : Program) (loose : List Str) (mean : ExcName → Option Value) (mg mb : Str → Option Value) (dp un : Nat) (gd : Option (List Code)) (cn : Str) (cs : Scope) (a : Addr) (ccd : Value) (cl : List (Str × Addr)) (A₀ : Around) (base h₀ : Heap) (L : Addr) (m : Str → Option Value) (s : Shared)
    (Q E : Value → Shared → Prop),
    Below A₀ base [] h₀ → Fr h₀ L s.heap m → (hd.heap_39 w.params).In h₀ → News h₀ L s.heap news → Top p loose mean mg mb h₀ → (hd.heap_39 w.params).In base → Top p loose mean mg mb base → cs.kind = .function → dp + b ≤ 400 → un + 20 * b ≤ 1000 →
    (∀ r nw h' tk', Fr h₀ L h' m → News h₀ L h' nw → Post r nw → Q r { s with heap := h', toks := tk' }) →
    wpAny (model PySem.Challenge.rw_oy0035_01.row.prog w) (ktrTop dp un gd cn cs L a ccd cl []) (call (.ref f) vs) Q E s
theorem missing_perm {xs ys zs : List Int} (h : ys.Perm zs) : missing xs ys = missing xs zs := by
  unfold missing
  congr 1
  funext x
  rw [Bool.eq_iff_iff]
  simp [h.mem_iff]
theorem sorted_strict {ys zs : List Int} (h : ys.Perm zs) (hn : zs.Nodup) (hs : ys.Pairwise (· ≤ ·)) : ys.Pairwise (· < ·) := by
  have hn' : ys.Nodup := h.nodup_iff.mpr hn
  refine List.Pairwise.imp₂ (R := (· ≤ ·)) (S := (· ≠ ·)) ?_ hs hn'
  intro a b h1 h2
  omega
local macro_rules | `(tactic| ktn_open) => `(tactic| repeat' (first | (k_unfold; (try dsimp only)) | ((with_reducible show Frag.In _ _ ∧ _); (refine And.intro (by k_in) ?_)) | ((fail_if_success k_end); (fail_if_success (with_reducible show wpAny _ _ (call (Value.builtin "sorted") _) _ _ _));  walk1 <;> (try dsimp only)) | fail "no step"))
local macro_rules | `(tactic| k_all) => `(tactic| (refine' all_ne ?h1 ?h2; (case h1 => assumption); (case h2 => omega)))
set_option maxHeartbeats 8000000 in
theorem met {w : World} {news : List (Addr × Obj)} {le la : Addr} {evs avs : List Value} {ne na : Nat} {xs ys : List Int} (hle : (le, listOf evs.toArray ne) ∈ news) (hla : (la, listOf avs.toArray na) ∈ news) (hex : IntsAre evs xs) (hay : IntsAre avs ys) (hxl : xs.length ≤ 12) (hyl : ys.length ≤ 12) (hxs : xs.Pairwise (· < ·)) (hys : ys.Nodup) :
    TellM w 2 62 news [.ref le, .ref la] (fun r nw => nw = news ∧ ∃ t, r = .int ((xs.length : Int) - (missing xs ys).length) t) := by
  unfold TellM
  w_top off
  k_fill
  intro p loose mean mg mb dp un gd cn cs a ccd cl A₀ base h₀ L m s Q E B F X N T XB TB hk hdp hun hret
  refine wpAny_call ?_
  k_dflt (refine' enterS0 B F X N T ?kA ?kf ?kh ?k6 ?k7 ?k8 ?k9 ?kB ?_ ?c2 ?c3 ?c4 ?c5; (case kA => exact rfl); (case kf => exact rfl); (case kh => exact hk); (case k6 => k_is); (case k7 => k_is); (case k8 => ktr_room); (case k9 => exact BindsTo.of_eq rfl); (case c5 => decide); (case kB => exact locs rfl); (case c2 => exact rfl); (case c3 => exact rfl); (case c4 => exact rfl); k_whole)
  intro g1 L1 h1 F1 N1 B1 X1 T1 D1 l1
  try dsimp only
  try k_fold
  clear B F X N T
  have hevl := hex.length
  have havl := hay.length
  ktn_open
  refine KM.len_K (n := xs.length) N1 hle (by rw [List.size_toArray, hevl]) (by omega) ?_
  ktn_open
  refine kso_sorted F1 N1 (News.isList N1 hla) hay (by omega) ?_
  intro D2 vs2 ns2 c2 h2 F2 N2 l2 hi2 hl2 hp2 hs2 _
  clear F1 N1
  ktn_open
  refine sortedDiff (news := (D2, listOf vs2.toArray c2) :: news) (.tail _ hle) (.head _) hex hi2 hxl (by omega) hxs (sorted_strict hp2 hys hs2) p loose mean mg mb _ _ _ _ _ _ _ _ _ base g1 g1 _ _ _ _ _ B1 F2 X1 N2 T1 XB TB D1 KtsTurn.refl rfl (by dsimp only [Around.deeper]; omega) (by dsimp only [Around.deeper]; omega) ?_
  intro r nw h3 tk3 g2 t2 B2 X2 T2 D2' F3 N3 hP
  obtain ⟨tp, lm, lu, mvs, n1, n2, rfl, rfl, hmi⟩ := hP
  clear F2 N2 B1 X1 T1 D1
  ktn_open
  refine KM.len_K (n := (missing xs ns2).length) N3 (.tail _ (.head _)) (by rw [List.size_toArray, hmi.length]) (Nat.lt_of_le_of_lt (List.length_filter_le _ _) (by omega)) ?_
  ktn_open
  try dsimp only [qk]
  refine leaveS0_ F3 N3 t2 ?_
  intro F4 N4
  have e := congrArg List.length (missing_perm (xs := xs) hp2)
  exact hret _ news _ _ F4 (fun q hq => N4 q (.tail _ (.tail _ (.tail _ hq)))) ⟨rfl, _, by rw [← e]⟩
end Mine
end
section
open PySem PySem.W PyProof.Rows
namespace Mine
/-- an algebra of truth values: the two of them, or whole tables of them -/
structure Alg (α : Type) where
  and : α → α → α
  or : α → α → α
  xor : α → α → α
  ff : α
  tt : α
def boolAlg : Alg Bool := ⟨Bool.and, Bool.or, Bool.xor, false, true⟩
def natAlg (m : Nat) : Alg Nat := ⟨Nat.land, Nat.lor, Nat.xor, 0, Nat.sub (Nat.pow 2 (Nat.pow 2 m)) 1⟩
section
variable {α : Type} (A : Alg α)
def bigOr : List α → α
  | [] => A.ff
  | x :: r => A.or x (bigOr r)
def bigAnd : List α → α
  | [] => A.tt
  | x :: r => A.and x (bigAnd r)
def neg (x : α) : α := A.xor x A.tt
def add1 : List α → α → List α
  | [], _ => []
  | x :: r, c => A.xor x c :: add1 r (A.and x c)
def cntFrom : List α → List α → List α
  | st, [] => st
  | st, x :: r => cntFrom (add1 A st x) r
def zeros : List α := [A.ff, A.ff, A.ff, A.ff, A.ff]
/-- numbers by their bits, the least first: is the first not above the second -/
def leq : α → List α → List α → α
  | c, x :: r, y :: q => leq (A.or (A.and (neg A x) y) (A.and (neg A (A.xor x y)) c)) r q
  | c, _, _ => c
def at' (xs : List α) (i : Nat) : α := xs.getD i A.ff
def rowOf (n : Nat) (a b : List α) (j : Nat) : List α := (List.range n).map fun p => A.and (at' A a p) (at' A b ((j + n - p) % n))
def perOf (n : Nat) (cs : List α) (d : Nat) : α := bigAnd A ((List.range n).map fun x => A.or (neg A (at' A cs x)) (at' A cs ((x + n - d) % n)))
def widen (n d : Nat) (a : List α) : List α := (List.range n).map fun j => bigOr A ((List.range (n / d)).map fun k => at' A a ((j + n - k * d) % n))
def condOf (n d : Nat) (a b sAB sC : List α) : α :=
  A.and (leq A A.tt (cntFrom A (cntFrom A (zeros A) (widen A n d a)) (widen A n d b)) (cntFrom A sC (List.replicate (n / d) A.tt)))
    (A.or (leq A A.tt sAB sC) (leq A A.tt (cntFrom A sC (List.replicate (n / d) A.tt)) (cntFrom A (cntFrom A (zeros A) (widen A n d a)) (widen A n d b))))
def goDiv (n : Nat) (a b cs sAB sC : List α) : List Nat → α
  | [] => A.ff
  | d :: r => A.or (A.and (perOf A n cs d) (condOf A n d a b sAB sC)) (A.and (neg A (perOf A n cs d)) (goDiv n a b cs sAB sC r))
def scherk (sAB sC : List α) (rows : List (List α)) : α := bigAnd A (rows.map fun r => A.or (neg A (bigOr A r)) (leq A A.tt sAB (cntFrom A sC r)))
def divs (n : Nat) : List Nat := (List.range (n + 1)).filter fun d => decide (d ≠ 0) && decide (n % d = 0)
def body2 (n : Nat) (a b sAB cs sC : List α) (rows : List (List α)) : α :=
  A.and (scherk A sAB sC rows) (goDiv A n a b cs sAB sC (divs n))
def body1 (n : Nat) (a b : List α) (rows : List (List α)) (cs : List α) : α :=
  body2 A n a b (cntFrom A (cntFrom A (zeros A) a) b) cs (cntFrom A (zeros A) cs) rows
def body0 (n : Nat) (a b : List α) (rows : List (List α)) : α := body1 A n a b rows (rows.map (bigOr A))
def check (n : Nat) (a b : List α) : α := A.or (neg A (bigOr A a)) (A.or (neg A (bigOr A b)) (body0 A n a b ((List.range n).map (rowOf A n a b))))
end
def varTab : Nat → List Nat
  | 0 => []
  | m + 1 => (varTab m).map (fun t => Nat.lor t (Nat.shiftLeft t (Nat.pow 2 m))) ++ [Nat.shiftLeft (Nat.sub (Nat.pow 2 (Nat.pow 2 m)) 1) (Nat.pow 2 m)]
def fixed (m r k : Nat) : List Nat := (List.range r).map fun v => if k.testBit v then Nat.sub (Nat.pow 2 (Nat.pow 2 m)) 1 else 0
def tabs (m r k : Nat) : List Nat := varTab m ++ fixed m r k
def chunk (n m r k : Nat) : Bool := Nat.beq (check (natAlg m) n ((tabs m r k).take n) ((tabs m r k).drop n)) (Nat.sub (Nat.pow 2 (Nat.pow 2 m)) 1)
end Mine
end
section
open PySem PySem.W PyProof.Rows
namespace Mine
/-- a map that keeps the algebra's operations -/
structure Hom {α β : Type} (A : Alg α) (B : Alg β) (h : α → β) : Prop where
  and : ∀ x y, h (A.and x y) = B.and (h x) (h y)
  or : ∀ x y, h (A.or x y) = B.or (h x) (h y)
  xor : ∀ x y, h (A.xor x y) = B.xor (h x) (h y)
  ff : h A.ff = B.ff
  tt : h A.tt = B.tt
section
variable {α β : Type} {A : Alg α} {B : Alg β} {h : α → β} (H : Hom A B h)
include H
theorem hom_bigOr (l : List α) : h (bigOr A l) = bigOr B (l.map h) := by
  induction l with
  | nil => exact H.ff
  | cons x r ih => simp only [bigOr, List.map_cons, H.or, ih]
theorem hom_bigAnd (l : List α) : h (bigAnd A l) = bigAnd B (l.map h) := by
  induction l with
  | nil => exact H.tt
  | cons x r ih => simp only [bigAnd, List.map_cons, H.and, ih]
theorem hom_neg (x : α) : h (neg A x) = neg B (h x) := by simp only [neg, H.xor, H.tt]
theorem hom_add1 : ∀ (l : List α) (c : α), (add1 A l c).map h = add1 B (l.map h) (h c)
  | [], _ => rfl
  | x :: r, c => by simp only [add1, List.map_cons, H.xor, hom_add1 r, H.and]
theorem hom_cnt : ∀ (l st : List α), (cntFrom A st l).map h = cntFrom B (st.map h) (l.map h)
  | [], _ => rfl
  | x :: r, st => by simp only [cntFrom, List.map_cons, hom_cnt r, hom_add1 H]
theorem hom_zeros : (zeros A).map h = zeros B := by simp only [zeros, List.map_cons, List.map_nil, H.ff]
theorem hom_leq : ∀ (l q : List α) (c : α), h (leq A c l q) = leq B (h c) (l.map h) (q.map h)
  | [], _, _ => by simp only [leq, List.map_nil]
  | _ :: _, [], _ => rfl
  | x :: r, y :: q, c => by simp only [leq, List.map_cons, hom_leq r q, H.or, H.and, H.xor, hom_neg H]
theorem hom_at (xs : List α) (i : Nat) : h (at' A xs i) = at' B (xs.map h) i := by
  unfold at'
  rw [List.getD_eq_getElem?_getD, List.getD_eq_getElem?_getD, List.getElem?_map]
  cases xs[i]? with
  | none => exact H.ff
  | some x => rfl
theorem hom_rowOf (n : Nat) (a b : List α) (j : Nat) : (rowOf A n a b j).map h = rowOf B n (a.map h) (b.map h) j := by
  simp only [rowOf, List.map_map]
  exact List.map_congr_left fun p _ => by simp only [Function.comp, H.and, hom_at H]
theorem hom_perOf (n : Nat) (cs : List α) (d : Nat) : h (perOf A n cs d) = perOf B n (cs.map h) d := by
  simp only [perOf, hom_bigAnd H, List.map_map]
  congr 1
  exact List.map_congr_left fun p _ => by simp only [Function.comp, H.or, hom_at H, hom_neg H]
theorem hom_widen (n d : Nat) (a : List α) : (widen A n d a).map h = widen B n d (a.map h) := by
  simp only [widen, List.map_map]
  refine List.map_congr_left fun p _ => ?_
  simp only [Function.comp, hom_bigOr H, List.map_map]
  congr 1
  exact List.map_congr_left fun k _ => by simp only [Function.comp, hom_at H]
theorem hom_condOf (n d : Nat) (a b sAB sC : List α) : h (condOf A n d a b sAB sC) = condOf B n d (a.map h) (b.map h) (sAB.map h) (sC.map h) := by
  simp only [condOf, H.and, H.or, hom_leq H, hom_cnt H, hom_zeros H, hom_widen H, H.tt, List.map_replicate]
theorem hom_goDiv (n : Nat) (a b cs sAB sC : List α) : ∀ ds, h (goDiv A n a b cs sAB sC ds) = goDiv B n (a.map h) (b.map h) (cs.map h) (sAB.map h) (sC.map h) ds
  | [] => H.ff
  | d :: r => by simp only [goDiv, H.and, H.or, hom_neg H, hom_perOf H, hom_condOf H, hom_goDiv n a b cs sAB sC r]
theorem hom_scherk (sAB sC : List α) (rows : List (List α)) : h (scherk A sAB sC rows) = scherk B (sAB.map h) (sC.map h) (rows.map (·.map h)) := by
  simp only [scherk, hom_bigAnd H, List.map_map]
  congr 1
  exact List.map_congr_left fun r _ => by simp only [Function.comp, H.or, hom_neg H, hom_bigOr H, hom_leq H, hom_cnt H, H.tt]
theorem hom_check (n : Nat) (a b : List α) : h (check A n a b) = check B n (a.map h) (b.map h) := by
  have e1 : ((List.range n).map (rowOf A n a b)).map (·.map h) = (List.range n).map (rowOf B n (a.map h) (b.map h)) := by
    rw [List.map_map]
    exact List.map_congr_left fun j _ => by simp only [Function.comp, hom_rowOf H]
  have e2 : (((List.range n).map (rowOf A n a b)).map (bigOr A)).map h = ((List.range n).map (rowOf B n (a.map h) (b.map h))).map (bigOr B) := by
    rw [← e1, List.map_map, List.map_map (g := bigOr B)]
    exact List.map_congr_left fun j _ => by simp only [Function.comp, hom_bigOr H]
  simp only [check, body0, body1, body2, H.or, H.and, hom_neg H, hom_bigOr H, hom_scherk H, hom_goDiv H, hom_cnt H, hom_zeros H, e1, e2]
end
theorem lane_hom {m i : Nat} (hi : i < 2 ^ m) : Hom (natAlg m) boolAlg (fun t => t.testBit i) where
  and x y := Nat.testBit_and x y i
  or x y := Nat.testBit_or x y i
  xor x y := Nat.testBit_xor x y i
  ff := Nat.zero_testBit i
  tt := by
    show (2 ^ (2 ^ m) - 1).testBit i = true
    rw [Nat.testBit_two_pow_sub_one, decide_eq_true hi]
theorem varTab_lt : ∀ m, ∀ t ∈ varTab m, t < 2 ^ (2 ^ m)
  | 0, _, h => nomatch h
  | m + 1, t, h => by
    have e : 2 ^ (m + 1) = 2 ^ m + 2 ^ m := by rw [Nat.pow_succ]; omega
    have p : 2 ^ (2 ^ m + 2 ^ m) = 2 ^ (2 ^ m) * 2 ^ (2 ^ m) := Nat.pow_add ..
    rw [varTab] at h
    rcases List.mem_append.mp h with h | h
    · obtain ⟨u, hu, rfl⟩ := List.mem_map.mp h
      have hu' := varTab_lt m u hu
      show u ||| (u <<< (2 ^ m)) < _
      rw [Nat.shiftLeft_eq, e]
      apply Nat.or_lt_two_pow
      · exact Nat.lt_of_lt_of_le hu' (Nat.pow_le_pow_right (by decide) (Nat.le_add_left _ _))
      · rw [p]; exact Nat.mul_lt_mul_of_pos_right hu' (Nat.two_pow_pos _)
    · rw [List.mem_singleton.mp h]
      show (2 ^ (2 ^ m) - 1) <<< (2 ^ m) < _
      rw [Nat.shiftLeft_eq, e, p]
      exact Nat.mul_lt_mul_of_pos_right (Nat.sub_lt (Nat.two_pow_pos _) (by decide)) (Nat.two_pow_pos _)
theorem varTab_bits : ∀ (m i : Nat), i < 2 ^ m → (varTab m).map (fun t => t.testBit i) = (List.range m).map fun v => i.testBit v
  | 0, _, _ => rfl
  | m + 1, i, hi => by
    have e : 2 ^ (m + 1) = 2 ^ m + 2 ^ m := by rw [Nat.pow_succ]; omega
    rw [varTab, List.range_succ, List.map_append, List.map_append, List.map_map]
    congr 1
    · by_cases h : i < 2 ^ m
      · rw [← varTab_bits m i h]
        refine List.map_congr_left fun t _ => ?_
        show (t ||| (t <<< (2 ^ m))).testBit i = _
        rw [Nat.testBit_or, Nat.testBit_shiftLeft, decide_eq_false (by omega)]
        simp
      · obtain ⟨j, rfl⟩ : ∃ j, i = 2 ^ m + j := ⟨i - 2 ^ m, by omega⟩
        have hj : j < 2 ^ m := by omega
        have := varTab_bits m j hj
        rw [show (List.range m).map (fun v => (2 ^ m + j).testBit v) = (List.range m).map (fun v => j.testBit v) from
          List.map_congr_left fun v hv => Nat.testBit_two_pow_add_gt (List.mem_range.mp hv) j, ← this]
        refine List.map_congr_left fun t ht => ?_
        show (t ||| (t <<< (2 ^ m))).testBit (2 ^ m + j) = _
        rw [Nat.testBit_or, Nat.testBit_shiftLeft, decide_eq_true (by omega), Nat.add_sub_cancel_left]
        have : t.testBit (2 ^ m + j) = false := Nat.testBit_lt_two_pow (Nat.lt_of_lt_of_le (varTab_lt m t ht) (Nat.pow_le_pow_right (by decide) (Nat.le_add_right _ _)))
        rw [this]; simp
    · show [((2 ^ (2 ^ m) - 1) <<< (2 ^ m)).testBit i] = [i.testBit m]
      congr 1
      rw [Nat.testBit_shiftLeft, Nat.testBit_two_pow_sub_one]
      by_cases h : i < 2 ^ m
      · rw [Nat.testBit_lt_two_pow h, decide_eq_false (by omega)]; rfl
      · obtain ⟨j, rfl⟩ : ∃ j, i = 2 ^ m + j := ⟨i - 2 ^ m, by omega⟩
        have hj : j < 2 ^ m := by omega
        rw [Nat.testBit_two_pow_add_eq, Nat.testBit_lt_two_pow hj, decide_eq_true (by omega), Nat.add_sub_cancel_left, decide_eq_true hj]; rfl
theorem fixed_bits {m r k i : Nat} (hi : i < 2 ^ m) : (fixed m r k).map (fun t => t.testBit i) = (List.range r).map fun v => k.testBit v := by
  rw [fixed, List.map_map]
  refine List.map_congr_left fun v _ => ?_
  show (if k.testBit v = true then 2 ^ (2 ^ m) - 1 else 0).testBit i = _
  cases hk : k.testBit v with
  | true => rw [if_pos rfl, Nat.testBit_two_pow_sub_one, decide_eq_true hi]
  | false => simp
theorem tabs_bits {m r k i : Nat} (hi : i < 2 ^ m) : (tabs m r k).map (fun t => t.testBit i) = (List.range (m + r)).map fun v => (2 ^ m * k + i).testBit v := by
  rw [tabs, List.map_append, varTab_bits m i hi, fixed_bits hi, List.range_add, List.map_append, List.map_map]
  congr 1
  · refine List.map_congr_left fun v hv => ?_
    rw [Nat.testBit_two_pow_mul_add _ hi, if_pos (List.mem_range.mp hv)]
  · refine List.map_congr_left fun v _ => ?_
    simp only [Function.comp]
    rw [Nat.testBit_two_pow_mul_add _ hi, if_neg (by omega), Nat.add_sub_cancel_left]
/-- what a chunk shows -/
theorem chunk_says {n m r k i : Nat} (hc : chunk n m r k = true) (hi : i < 2 ^ m) :
    check boolAlg n (((List.range (m + r)).map fun v => (2 ^ m * k + i).testBit v).take n) (((List.range (m + r)).map fun v => (2 ^ m * k + i).testBit v).drop n) = true := by
  have e := Nat.eq_of_beq_eq_true hc
  have h := hom_check (lane_hom hi) n ((tabs m r k).take n) ((tabs m r k).drop n)
  rw [e] at h
  rw [← tabs_bits hi, ← List.map_take, ← List.map_drop, ← h]
  show (2 ^ (2 ^ m) - 1).testBit i = true
  rw [Nat.testBit_two_pow_sub_one, decide_eq_true hi]
/-- the two sets' bits, one behind the other -/
theorem bits_two {n f g : Nat} (hf : f < 2 ^ n) : ((List.range (n + n)).map fun v => (2 ^ n * g + f).testBit v) = ((List.range n).map fun v => f.testBit v) ++ ((List.range n).map fun v => g.testBit v) := by
  rw [List.range_add, List.map_append, List.map_map]
  congr 1
  · refine List.map_congr_left fun v hv => ?_
    rw [Nat.testBit_two_pow_mul_add _ hf, if_pos (List.mem_range.mp hv)]
  · refine List.map_congr_left fun v _ => ?_
    simp only [Function.comp]
    rw [Nat.testBit_two_pow_mul_add _ hf, if_neg (by omega), Nat.add_sub_cancel_left]
theorem check_of {n m r : Nat} (hn : m + r = n + n) (hc : ∀ k, k < 2 ^ r → chunk n m r k = true) {f g : Nat} (hf : f < 2 ^ n) (hg : g < 2 ^ n) :
    check boolAlg n ((List.range n).map fun v => f.testBit v) ((List.range n).map fun v => g.testBit v) = true := by
  have hI : 2 ^ n * g + f < 2 ^ (m + r) := by
    rw [hn, Nat.pow_add]
    calc 2 ^ n * g + f < 2 ^ n * g + 2 ^ n := by omega
      _ = 2 ^ n * (g + 1) := by rw [Nat.mul_succ]
      _ ≤ 2 ^ n * 2 ^ n := Nat.mul_le_mul_left _ hg
  have hk : (2 ^ n * g + f) / 2 ^ m < 2 ^ r := by
    rw [Nat.div_lt_iff_lt_mul (Nat.two_pow_pos _), ← Nat.pow_add, Nat.add_comm r m]
    exact hI
  have h := chunk_says (hc _ hk) (Nat.mod_lt (2 ^ n * g + f) (Nat.two_pow_pos m))
  rw [Nat.div_add_mod, hn, bits_two hf, List.take_left' (by simp), List.drop_left' (by simp)] at h
  exact h
end Mine
end
section
open PySem PySem.W PyProof.Rows
namespace Mine
def num (l : List Bool) : Nat := l.countP id
def val : List Bool → Nat
  | [] => 0
  | x :: r => x.toNat + 2 * val r
theorem num_le (l : List Bool) : num l ≤ l.length := List.countP_le_length
theorem num_cons (x : Bool) (r : List Bool) : num (x :: r) = x.toNat + num r := by
  cases x <;> simp [num, Nat.add_comm]
theorem num_append (l q : List Bool) : num (l ++ q) = num l + num q := List.countP_append
theorem num_tt (k : Nat) : num (List.replicate k true) = k := by
  induction k with
  | zero => rfl
  | succ k ih => rw [List.replicate_succ, num_cons, ih]; simp [Nat.add_comm]
theorem or_any (l : List Bool) : bigOr boolAlg l = l.any id := by
  induction l with
  | nil => rfl
  | cons x r ih => rw [List.any_cons, ← ih]; rfl
theorem and_all (l : List Bool) : bigAnd boolAlg l = l.all id := by
  induction l with
  | nil => rfl
  | cons x r ih => rw [List.all_cons, ← ih]; rfl
theorem neg_not (x : Bool) : neg boolAlg x = !x := by cases x <;> rfl
theorem add1_len : ∀ (l : List Bool) (c : Bool), (add1 boolAlg l c).length = l.length
  | [], _ => rfl
  | x :: r, c => by simp only [add1, List.length_cons, add1_len r]
theorem add1_val : ∀ (l : List Bool) (c : Bool), val l + c.toNat < 2 ^ l.length → val (add1 boolAlg l c) = val l + c.toNat
  | [], c, h => by cases c <;> simp_all [val, add1]
  | x :: r, c, h => by
    simp only [add1, val, List.length_cons, Nat.pow_succ] at h ⊢
    rw [add1_val r (boolAlg.and x c) (by cases x <;> cases c <;> simp [boolAlg] at h ⊢ <;> omega)]
    cases x <;> cases c <;> simp [boolAlg] <;> omega
theorem cnt_len : ∀ (l st : List Bool), (cntFrom boolAlg st l).length = st.length
  | [], _ => rfl
  | x :: r, st => by rw [cntFrom, cnt_len r, add1_len]
theorem cnt_val : ∀ (l st : List Bool), val st + l.length < 2 ^ st.length → val (cntFrom boolAlg st l) = val st + num l
  | [], st, _ => rfl
  | x :: r, st, h => by
    have hx : x.toNat ≤ 1 := by cases x <;> simp
    simp only [List.length_cons] at h
    have e := add1_val st x (by omega)
    rw [cntFrom, cnt_val r _ (by rw [add1_len, e]; omega), e, num_cons]
    omega
theorem leq_val : ∀ (l q : List Bool) (c : Bool), l.length = q.length → (leq boolAlg c l q = true ↔ (val l < val q ∨ (val l = val q ∧ c = true)))
  | [], [], c, _ => by simp [leq, val]
  | [], _ :: _, _, h => by simp at h
  | _ :: _, [], _, h => by simp at h
  | x :: r, y :: q, c, h => by
    rw [leq, leq_val r q _ (by simpa using h)]
    simp only [val, neg_not]
    cases x <;> cases y <;> cases c <;> simp [boolAlg] <;> omega
theorem leq_tt {l q : List Bool} (h : l.length = q.length) : leq boolAlg boolAlg.tt l q = true ↔ val l ≤ val q := by
  rw [leq_val l q _ h]
  have : boolAlg.tt = true := rfl
  rw [this]; simp; omega
theorem zeros_val : val (zeros boolAlg) = 0 := by decide
theorem zeros_len : (zeros boolAlg).length = 5 := rfl
section
variable {n : Nat} {a b cs : List Bool}
theorem sAB_val (hn : n ≤ 12) (ha : a.length = n) (hb : b.length = n) : val (cntFrom boolAlg (cntFrom boolAlg (zeros boolAlg) a) b) = num a + num b ∧ (cntFrom boolAlg (cntFrom boolAlg (zeros boolAlg) a) b).length = 5 := by
  have h1 := cnt_val a (zeros boolAlg) (by rw [zeros_val, zeros_len, ha]; omega)
  rw [zeros_val] at h1
  have := num_le a
  refine ⟨?_, by rw [cnt_len, cnt_len, zeros_len]⟩
  rw [cnt_val b _ (by rw [cnt_len, zeros_len, h1, hb]; omega), h1]
  omega
theorem sC_val (hn : n ≤ 12) (hc : cs.length = n) : val (cntFrom boolAlg (zeros boolAlg) cs) = num cs ∧ (cntFrom boolAlg (zeros boolAlg) cs).length = 5 := by
  refine ⟨?_, by rw [cnt_len, zeros_len]⟩
  rw [cnt_val cs _ (by rw [zeros_val, zeros_len, hc]; omega), zeros_val]
  omega
theorem sC_from (hn : n ≤ 12) (hc : cs.length = n) {r : List Bool} (hr : r.length ≤ 12) : val (cntFrom boolAlg (cntFrom boolAlg (zeros boolAlg) cs) r) = num cs + num r ∧ (cntFrom boolAlg (cntFrom boolAlg (zeros boolAlg) cs) r).length = 5 := by
  obtain ⟨h1, h2⟩ := sC_val hn hc
  have := num_le cs
  refine ⟨?_, by rw [cnt_len, cnt_len, zeros_len]⟩
  rw [cnt_val r _ (by rw [h2, h1]; omega), h1]
theorem widen_len (n d : Nat) (a : List Bool) : (widen boolAlg n d a).length = n := by simp [widen]
theorem cond_sem {d : Nat} (hn : n ≤ 12) (hc : cs.length = n) (ha : a.length = n) (hb : b.length = n) (h : condOf boolAlg n d a b (cntFrom boolAlg (cntFrom boolAlg (zeros boolAlg) a) b) (cntFrom boolAlg (zeros boolAlg) cs) = true) :
    num (widen boolAlg n d a) + num (widen boolAlg n d b) ≤ num cs + n / d ∧ (num cs < num a + num b → num cs + n / d ≤ num (widen boolAlg n d a) + num (widen boolAlg n d b)) := by
  have hnd : n / d ≤ 12 := Nat.le_trans (Nat.div_le_self n d) hn
  obtain ⟨w1, w2⟩ := sAB_val hn (widen_len n d a) (widen_len n d b)
  obtain ⟨c1, c2⟩ := sC_from hn hc (r := List.replicate (n / d) true) (by simpa using hnd)
  obtain ⟨s1, s2⟩ := sAB_val hn ha hb
  obtain ⟨q1, q2⟩ := sC_val hn hc
  unfold condOf at h
  have h' := Bool.and_eq_true_iff.mp h
  obtain ⟨g1, g2⟩ := h'
  have t1 := (leq_tt (by rw [w2]; exact c2.symm)).mp g1
  rw [w1] at t1
  have e : boolAlg.tt = true := rfl
  rw [e] at t1
  rw [c1, num_tt] at t1
  refine ⟨t1, fun hlt => ?_⟩
  rcases Bool.or_eq_true_iff.mp g2 with g | g
  · have := (leq_tt (by rw [s2, q2])).mp g
    rw [s1, q1] at this
    omega
  · have := (leq_tt (by rw [w2]; exact c2)).mp g
    rw [e] at this
    rw [w1, c1, num_tt] at this
    exact this
theorem go_sem {sAB sC : List Bool} {P : Nat → Prop} (hP : ∀ d, condOf boolAlg n d a b sAB sC = true → P d) : ∀ ds : List Nat, goDiv boolAlg n a b cs sAB sC ds = true → ∀ d r, ds.filter (perOf boolAlg n cs) = d :: r → P d
  | [], _, _, _, e => by simp at e
  | x :: q, h, d, r, e => by
    rw [goDiv] at h
    cases hx : perOf boolAlg n cs x with
    | true =>
      rw [hx] at h
      rw [List.filter_cons_of_pos hx] at e
      cases e
      have h' : (condOf boolAlg n x a b sAB sC || (false && goDiv boolAlg n a b cs sAB sC q)) = true := h
      simp at h'
      exact hP _ h'
    | false =>
      rw [hx] at h
      rw [List.filter_cons_of_neg (by rw [hx]; decide)] at e
      have h' : (false && condOf boolAlg n x a b sAB sC || (true && goDiv boolAlg n a b cs sAB sC q)) = true := h
      simp at h'
      exact go_sem hP q h' d r e
theorem check_sem (hn : n ≤ 12) (ha : a.length = n) (hb : b.length = n) (h : check boolAlg n a b = true) (h1 : a.any id = true) (h2 : b.any id = true) (hcs : cs = (List.range n).map fun j => (rowOf boolAlg n a b j).any id) :
    (∀ j, j < n → (rowOf boolAlg n a b j).any id = true → num a + num b ≤ num cs + num (rowOf boolAlg n a b j)) ∧
    (∀ d r, (divs n).filter (perOf boolAlg n cs) = d :: r → num (widen boolAlg n d a) + num (widen boolAlg n d b) ≤ num cs + n / d ∧ (num cs < num a + num b → num cs + n / d ≤ num (widen boolAlg n d a) + num (widen boolAlg n d b))) := by
  have hc : cs.length = n := by rw [hcs]; simp
  have e2 : ((List.range n).map (rowOf boolAlg n a b)).map (bigOr boolAlg) = cs := by
    rw [hcs, List.map_map]
    exact List.map_congr_left fun j _ => or_any _
  simp only [check, body0, body1, body2, neg_not, or_any, h1, h2, e2] at h
  have h' : (scherk boolAlg (cntFrom boolAlg (cntFrom boolAlg (zeros boolAlg) a) b) (cntFrom boolAlg (zeros boolAlg) cs) ((List.range n).map (rowOf boolAlg n a b)) && goDiv boolAlg n a b cs (cntFrom boolAlg (cntFrom boolAlg (zeros boolAlg) a) b) (cntFrom boolAlg (zeros boolAlg) cs) (divs n)) = true := h
  obtain ⟨g1, g2⟩ := Bool.and_eq_true_iff.mp h'
  refine ⟨fun j hj hr => ?_, go_sem (fun d hd => cond_sem hn hc ha hb hd) _ g2⟩
  unfold scherk at g1
  rw [and_all, List.all_eq_true] at g1
  have g := g1 _ (List.mem_map.mpr ⟨_, List.mem_map.mpr ⟨j, List.mem_range.mpr hj, rfl⟩, rfl⟩)
  rw [or_any, hr] at g
  have g' : leq boolAlg boolAlg.tt (cntFrom boolAlg (cntFrom boolAlg (zeros boolAlg) a) b) (cntFrom boolAlg (cntFrom boolAlg (zeros boolAlg) cs) (rowOf boolAlg n a b j)) = true := g
  obtain ⟨s1, s2⟩ := sAB_val hn ha hb
  obtain ⟨c1, c2⟩ := sC_from hn hc (r := rowOf boolAlg n a b j) (by simpa [rowOf] using hn)
  have t := (leq_tt (by rw [s2, c2])).mp g'
  rw [s1, c1] at t
  exact t
end
end Mine
end
section
open PySem PySem.W PyProof.Rows
namespace Mine
theorem more {P : Nat → Prop} {n : Nat} (h : ∀ k, k < n → P k) (h' : P n) : ∀ k, k < n + 1 → P k := fun k hk => by
  rcases Nat.lt_or_ge k n with q | q
  · exact h k q
  · rw [Nat.le_antisymm (Nat.le_of_lt_succ hk) q]; exact h'
theorem none0 {P : Nat → Prop} : ∀ k, k < 0 → P k := fun _ h => absurd h (Nat.not_lt_zero _)
theorem ch1_0 : chunk 1 2 0 0 = true := by decide +kernel
theorem chs1 : ∀ k, k < 2 ^ 0 → chunk 1 2 0 k = true := more (none0) ch1_0
theorem ch2_0 : chunk 2 4 0 0 = true := by decide +kernel
theorem chs2 : ∀ k, k < 2 ^ 0 → chunk 2 4 0 k = true := more (none0) ch2_0
theorem ch3_0 : chunk 3 6 0 0 = true := by decide +kernel
theorem chs3 : ∀ k, k < 2 ^ 0 → chunk 3 6 0 k = true := more (none0) ch3_0
theorem ch4_0 : chunk 4 8 0 0 = true := by decide +kernel
theorem chs4 : ∀ k, k < 2 ^ 0 → chunk 4 8 0 k = true := more (none0) ch4_0
theorem ch5_0 : chunk 5 10 0 0 = true := by decide +kernel
theorem chs5 : ∀ k, k < 2 ^ 0 → chunk 5 10 0 k = true := more (none0) ch5_0
theorem ch6_0 : chunk 6 12 0 0 = true := by decide +kernel
theorem chs6 : ∀ k, k < 2 ^ 0 → chunk 6 12 0 k = true := more (none0) ch6_0
theorem ch7_0 : chunk 7 14 0 0 = true := by decide +kernel
theorem chs7 : ∀ k, k < 2 ^ 0 → chunk 7 14 0 k = true := more (none0) ch7_0
theorem ch8_0 : chunk 8 16 0 0 = true := by decide +kernel
theorem chs8 : ∀ k, k < 2 ^ 0 → chunk 8 16 0 k = true := more (none0) ch8_0
theorem ch9_0 : chunk 9 18 0 0 = true := by decide +kernel
theorem chs9 : ∀ k, k < 2 ^ 0 → chunk 9 18 0 k = true := more (none0) ch9_0
theorem ch10_0 : chunk 10 18 2 0 = true := by decide +kernel
theorem ch10_1 : chunk 10 18 2 1 = true := by decide +kernel
theorem ch10_2 : chunk 10 18 2 2 = true := by decide +kernel
theorem ch10_3 : chunk 10 18 2 3 = true := by decide +kernel
theorem chs10 : ∀ k, k < 2 ^ 2 → chunk 10 18 2 k = true := more (more (more (more (none0) ch10_0) ch10_1) ch10_2) ch10_3
theorem ch11_0 : chunk 11 18 4 0 = true := by decide +kernel
theorem ch11_1 : chunk 11 18 4 1 = true := by decide +kernel
theorem ch11_2 : chunk 11 18 4 2 = true := by decide +kernel
theorem ch11_3 : chunk 11 18 4 3 = true := by decide +kernel
theorem ch11_4 : chunk 11 18 4 4 = true := by decide +kernel
theorem ch11_5 : chunk 11 18 4 5 = true := by decide +kernel
theorem ch11_6 : chunk 11 18 4 6 = true := by decide +kernel
theorem ch11_7 : chunk 11 18 4 7 = true := by decide +kernel
theorem ch11_8 : chunk 11 18 4 8 = true := by decide +kernel
theorem ch11_9 : chunk 11 18 4 9 = true := by decide +kernel
theorem ch11_10 : chunk 11 18 4 10 = true := by decide +kernel
theorem ch11_11 : chunk 11 18 4 11 = true := by decide +kernel
theorem ch11_12 : chunk 11 18 4 12 = true := by decide +kernel
theorem ch11_13 : chunk 11 18 4 13 = true := by decide +kernel
theorem ch11_14 : chunk 11 18 4 14 = true := by decide +kernel
theorem ch11_15 : chunk 11 18 4 15 = true := by decide +kernel
theorem chs11 : ∀ k, k < 2 ^ 4 → chunk 11 18 4 k = true := more (more (more (more (more (more (more (more (more (more (more (more (more (more (more (more (none0) ch11_0) ch11_1) ch11_2) ch11_3) ch11_4) ch11_5) ch11_6) ch11_7) ch11_8) ch11_9) ch11_10) ch11_11) ch11_12) ch11_13) ch11_14) ch11_15
theorem ch12_0 : chunk 12 18 6 0 = true := by decide +kernel
theorem ch12_1 : chunk 12 18 6 1 = true := by decide +kernel
theorem ch12_2 : chunk 12 18 6 2 = true := by decide +kernel
theorem ch12_3 : chunk 12 18 6 3 = true := by decide +kernel
theorem ch12_4 : chunk 12 18 6 4 = true := by decide +kernel
theorem ch12_5 : chunk 12 18 6 5 = true := by decide +kernel
theorem ch12_6 : chunk 12 18 6 6 = true := by decide +kernel
theorem ch12_7 : chunk 12 18 6 7 = true := by decide +kernel
theorem ch12_8 : chunk 12 18 6 8 = true := by decide +kernel
theorem ch12_9 : chunk 12 18 6 9 = true := by decide +kernel
theorem ch12_10 : chunk 12 18 6 10 = true := by decide +kernel
theorem ch12_11 : chunk 12 18 6 11 = true := by decide +kernel
theorem ch12_12 : chunk 12 18 6 12 = true := by decide +kernel
theorem ch12_13 : chunk 12 18 6 13 = true := by decide +kernel
theorem ch12_14 : chunk 12 18 6 14 = true := by decide +kernel
theorem ch12_15 : chunk 12 18 6 15 = true := by decide +kernel
theorem ch12_16 : chunk 12 18 6 16 = true := by decide +kernel
theorem ch12_17 : chunk 12 18 6 17 = true := by decide +kernel
theorem ch12_18 : chunk 12 18 6 18 = true := by decide +kernel
theorem ch12_19 : chunk 12 18 6 19 = true := by decide +kernel
theorem ch12_20 : chunk 12 18 6 20 = true := by decide +kernel
theorem ch12_21 : chunk 12 18 6 21 = true := by decide +kernel
theorem ch12_22 : chunk 12 18 6 22 = true := by decide +kernel
theorem ch12_23 : chunk 12 18 6 23 = true := by decide +kernel
theorem ch12_24 : chunk 12 18 6 24 = true := by decide +kernel
theorem ch12_25 : chunk 12 18 6 25 = true := by decide +kernel
theorem ch12_26 : chunk 12 18 6 26 = true := by decide +kernel
theorem ch12_27 : chunk 12 18 6 27 = true := by decide +kernel
theorem ch12_28 : chunk 12 18 6 28 = true := by decide +kernel
theorem ch12_29 : chunk 12 18 6 29 = true := by decide +kernel
theorem ch12_30 : chunk 12 18 6 30 = true := by decide +kernel
theorem ch12_31 : chunk 12 18 6 31 = true := by decide +kernel
theorem ch12_32 : chunk 12 18 6 32 = true := by decide +kernel
theorem ch12_33 : chunk 12 18 6 33 = true := by decide +kernel
theorem ch12_34 : chunk 12 18 6 34 = true := by decide +kernel
theorem ch12_35 : chunk 12 18 6 35 = true := by decide +kernel
theorem ch12_36 : chunk 12 18 6 36 = true := by decide +kernel
theorem ch12_37 : chunk 12 18 6 37 = true := by decide +kernel
theorem ch12_38 : chunk 12 18 6 38 = true := by decide +kernel
theorem ch12_39 : chunk 12 18 6 39 = true := by decide +kernel
theorem ch12_40 : chunk 12 18 6 40 = true := by decide +kernel
theorem ch12_41 : chunk 12 18 6 41 = true := by decide +kernel
theorem ch12_42 : chunk 12 18 6 42 = true := by decide +kernel
theorem ch12_43 : chunk 12 18 6 43 = true := by decide +kernel
theorem ch12_44 : chunk 12 18 6 44 = true := by decide +kernel
theorem ch12_45 : chunk 12 18 6 45 = true := by decide +kernel
theorem ch12_46 : chunk 12 18 6 46 = true := by decide +kernel
theorem ch12_47 : chunk 12 18 6 47 = true := by decide +kernel
theorem ch12_48 : chunk 12 18 6 48 = true := by decide +kernel
theorem ch12_49 : chunk 12 18 6 49 = true := by decide +kernel
theorem ch12_50 : chunk 12 18 6 50 = true := by decide +kernel
theorem ch12_51 : chunk 12 18 6 51 = true := by decide +kernel
theorem ch12_52 : chunk 12 18 6 52 = true := by decide +kernel
theorem ch12_53 : chunk 12 18 6 53 = true := by decide +kernel
theorem ch12_54 : chunk 12 18 6 54 = true := by decide +kernel
theorem ch12_55 : chunk 12 18 6 55 = true := by decide +kernel
theorem ch12_56 : chunk 12 18 6 56 = true := by decide +kernel
theorem ch12_57 : chunk 12 18 6 57 = true := by decide +kernel
theorem ch12_58 : chunk 12 18 6 58 = true := by decide +kernel
theorem ch12_59 : chunk 12 18 6 59 = true := by decide +kernel
theorem ch12_60 : chunk 12 18 6 60 = true := by decide +kernel
theorem ch12_61 : chunk 12 18 6 61 = true := by decide +kernel
theorem ch12_62 : chunk 12 18 6 62 = true := by decide +kernel
theorem ch12_63 : chunk 12 18 6 63 = true := by decide +kernel
theorem chs12 : ∀ k, k < 2 ^ 6 → chunk 12 18 6 k = true := more (more (more (more (more (more (more (more (more (more (more (more (more (more (more (more (more (more (more (more (more (more (more (more (more (more (more (more (more (more (more (more (more (more (more (more (more (more (more (more (more (more (more (more (more (more (more (more (more (more (more (more (more (more (more (more (more (more (more (more (more (more (more (more (none0) ch12_0) ch12_1) ch12_2) ch12_3) ch12_4) ch12_5) ch12_6) ch12_7) ch12_8) ch12_9) ch12_10) ch12_11) ch12_12) ch12_13) ch12_14) ch12_15) ch12_16) ch12_17) ch12_18) ch12_19) ch12_20) ch12_21) ch12_22) ch12_23) ch12_24) ch12_25) ch12_26) ch12_27) ch12_28) ch12_29) ch12_30) ch12_31) ch12_32) ch12_33) ch12_34) ch12_35) ch12_36) ch12_37) ch12_38) ch12_39) ch12_40) ch12_41) ch12_42) ch12_43) ch12_44) ch12_45) ch12_46) ch12_47) ch12_48) ch12_49) ch12_50) ch12_51) ch12_52) ch12_53) ch12_54) ch12_55) ch12_56) ch12_57) ch12_58) ch12_59) ch12_60) ch12_61) ch12_62) ch12_63
theorem all12 {n f g : Nat} (h1 : 1 ≤ n) (h2 : n ≤ 12) (hf : f < 2 ^ n) (hg : g < 2 ^ n) : check boolAlg n ((List.range n).map fun v => f.testBit v) ((List.range n).map fun v => g.testBit v) = true := by
  rcases (by omega : n = 1 ∨ n = 2 ∨ n = 3 ∨ n = 4 ∨ n = 5 ∨ n = 6 ∨ n = 7 ∨ n = 8 ∨ n = 9 ∨ n = 10 ∨ n = 11 ∨ n = 12) with rfl | rfl | rfl | rfl | rfl | rfl | rfl | rfl | rfl | rfl | rfl | rfl
  · exact check_of (m := 2) (r := 0) rfl chs1 hf hg
  · exact check_of (m := 4) (r := 0) rfl chs2 hf hg
  · exact check_of (m := 6) (r := 0) rfl chs3 hf hg
  · exact check_of (m := 8) (r := 0) rfl chs4 hf hg
  · exact check_of (m := 10) (r := 0) rfl chs5 hf hg
  · exact check_of (m := 12) (r := 0) rfl chs6 hf hg
  · exact check_of (m := 14) (r := 0) rfl chs7 hf hg
  · exact check_of (m := 16) (r := 0) rfl chs8 hf hg
  · exact check_of (m := 18) (r := 0) rfl chs9 hf hg
  · exact check_of (m := 18) (r := 2) rfl chs10 hf hg
  · exact check_of (m := 18) (r := 4) rfl chs11 hf hg
  · exact check_of (m := 18) (r := 6) rfl chs12 hf hg
end Mine
end
section
open PySem PySem.W PyProof.Rows
namespace Mine
def rep (f g n c : Nat) : Nat := (List.range n).countP fun x => f.testBit x && g.testBit ((c + n - x) % n)
def per (s n t : Nat) : Bool := (List.range n).all fun x => !s.testBit x || s.testBit ((x + n - t) % n)
theorem bit_high {f n i : Nat} (hf : f < 2 ^ n) (h : n ≤ i) : f.testBit i = false := Nat.testBit_lt_two_pow (Nat.lt_of_lt_of_le hf (Nat.pow_le_pow_right (by decide) h))
theorem bitsTo_n {f n : Nat} (hf : f < 2 ^ n) (hn : n ≤ 12) : bitsTo f 12 = (List.range n).filter fun j => f.testBit j := by
  obtain ⟨k, hk⟩ : ∃ k, 12 = n + k := ⟨12 - n, by omega⟩
  rw [hk]
  have e : (List.range (n + k)).filter (fun j => f.testBit j) = (List.range n).filter fun j => f.testBit j := by
    rw [List.range_add, List.filter_append, List.filter_map]
    have : (List.range k).filter ((fun j => f.testBit j) ∘ fun x => n + x) = [] := by
      rw [List.filter_eq_nil_iff]
      intro x _
      simp [Function.comp, bit_high hf (Nat.le_add_right n x)]
    rw [this]; simp
  exact e
theorem bitsTo_mem {f n x : Nat} (hf : f < 2 ^ n) (hn : n ≤ 12) : x ∈ bitsTo f 12 ↔ x < n ∧ f.testBit x = true := by
  rw [bitsTo_n hf hn, List.mem_filter, List.mem_range]
theorem len_num {f n : Nat} (hf : f < 2 ^ n) (hn : n ≤ 12) : (bitsTo f 12).length = num ((List.range n).map fun v => f.testBit v) := by
  rw [bitsTo_n hf hn, num, List.countP_map, List.countP_eq_length_filter]
  rfl
theorem one_bit {g n p j : Nat} (hg : g < 2 ^ n) (hp : p < n) : (g * 2 ^ p % 2 ^ n ||| g * 2 ^ p / 2 ^ n).testBit j = (decide (j < n) && g.testBit ((j + n - p) % n)) := by
  rw [Nat.testBit_or, Nat.testBit_mod_two_pow, Nat.testBit_div_two_pow, Nat.testBit_mul_two_pow, Nat.testBit_mul_two_pow]
  by_cases hj : j < n
  · rw [decide_eq_true hj]
    by_cases h : p ≤ j
    · have e : (j + n - p) % n = j - p := by
        rw [show j + n - p = (j - p) + n by omega, Nat.add_mod_right, Nat.mod_eq_of_lt (by omega)]
      rw [e, decide_eq_true h, bit_high hg (i := j + n - p) (by omega)]
      simp
    · have e : (j + n - p) % n = j + n - p := Nat.mod_eq_of_lt (by omega)
      rw [e, decide_eq_false h, decide_eq_true (by omega : p ≤ j + n)]
      simp
  · rw [decide_eq_false hj, bit_high hg (i := j + n - p) (by omega)]
    simp
theorem fold_bit {g n j : Nat} (hg : g < 2 ^ n) : ∀ (ps : List Nat) (t : Nat), (∀ p ∈ ps, p < n) → (ps.foldl (fun told p => told ||| g * 2 ^ p % 2 ^ n ||| g * 2 ^ p / 2 ^ n) t).testBit j = (t.testBit j || (decide (j < n) && ps.any fun p => g.testBit ((j + n - p) % n)))
  | [], t, _ => by simp
  | p :: r, t, h => by
    rw [List.foldl_cons, fold_bit hg r _ (fun q hq => h q (.tail _ hq)), List.any_cons, Nat.or_assoc, Nat.testBit_or, one_bit hg (h p (.head _))]
    cases decide (j < n) <;> cases t.testBit j <;> cases g.testBit ((j + n - p) % n) <;> simp
theorem laid_bit {g n j : Nat} (hg : g < 2 ^ n) {ps : List Nat} (h : ∀ p ∈ ps, p < n) : (laid g ps n).testBit j = (decide (j < n) && ps.any fun p => g.testBit ((j + n - p) % n)) := by
  rw [laid, fold_bit hg ps 0 h]; simp
theorem laid_lt {g n : Nat} (hg : g < 2 ^ n) {ps : List Nat} (h : ∀ p ∈ ps, p < n) : laid g ps n < 2 ^ n := by
  refine Nat.lt_pow_two_of_testBit _ fun i hi => ?_
  rw [laid_bit hg h, decide_eq_false (by omega)]; rfl
theorem at_bits {f n p : Nat} (hp : p < n) : at' boolAlg ((List.range n).map fun v => f.testBit v) p = f.testBit p := by
  unfold at'
  rw [List.getD_eq_getElem?_getD, List.getElem?_map, List.getElem?_range hp]
  rfl
theorem row_bits {f g n j : Nat} : rowOf boolAlg n ((List.range n).map fun v => f.testBit v) ((List.range n).map fun v => g.testBit v) j = (List.range n).map fun p => f.testBit p && g.testBit ((j + n - p) % n) := by
  refine List.map_congr_left fun p hp => ?_
  have hp' := List.mem_range.mp hp
  rw [at_bits hp', at_bits (Nat.mod_lt _ (by omega))]
  rfl
theorem num_row {f g n j : Nat} : num (rowOf boolAlg n ((List.range n).map fun v => f.testBit v) ((List.range n).map fun v => g.testBit v) j) = rep f g n j := by
  rw [row_bits, num, List.countP_map]; rfl
theorem places_lt {f n : Nat} (hf : f < 2 ^ n) (hn : n ≤ 12) : ∀ p ∈ bitsTo f 12, p < n := fun p hp => ((bitsTo_mem hf hn).mp hp).1
theorem sum_bit {f g n j : Nat} (hf : f < 2 ^ n) (hg : g < 2 ^ n) (hn : n ≤ 12) (hj : j < n) : (laid g (bitsTo f 12) n).testBit j = decide (0 < rep f g n j) := by
  rw [laid_bit hg (places_lt hf hn), decide_eq_true hj, Bool.true_and, Bool.eq_iff_iff, List.any_eq_true, decide_eq_true_iff, rep, List.countP_pos_iff]
  constructor
  · rintro ⟨p, hp, h⟩
    obtain ⟨h1, h2⟩ := (bitsTo_mem hf hn).mp hp
    exact ⟨p, List.mem_range.mpr h1, by rw [h2, h]; rfl⟩
  · rintro ⟨p, hp, h⟩
    obtain ⟨h1, h2⟩ := Bool.and_eq_true_iff.mp h
    exact ⟨p, (bitsTo_mem hf hn).mpr ⟨List.mem_range.mp hp, h1⟩, h2⟩
theorem any_row {f g n j : Nat} (hf : f < 2 ^ n) (hg : g < 2 ^ n) (hn : n ≤ 12) (hj : j < n) : (rowOf boolAlg n ((List.range n).map fun v => f.testBit v) ((List.range n).map fun v => g.testBit v) j).any id = (laid g (bitsTo f 12) n).testBit j := by
  rw [sum_bit hf hg hn hj, ← num_row, num, Bool.eq_iff_iff, List.any_eq_true, decide_eq_true_iff, List.countP_pos_iff]
theorem per_bits {s n d : Nat} : perOf boolAlg n ((List.range n).map fun v => s.testBit v) d = per s n d := by
  rw [perOf, and_all, List.all_map, per]
  rw [Bool.eq_iff_iff, List.all_eq_true, List.all_eq_true]
  have e : ∀ x ∈ List.range n, boolAlg.or (neg boolAlg (at' boolAlg ((List.range n).map fun v => s.testBit v) x)) (at' boolAlg ((List.range n).map fun v => s.testBit v) ((x + n - d) % n)) = (!s.testBit x || s.testBit ((x + n - d) % n)) := by
    intro x hx
    have hx' := List.mem_range.mp hx
    rw [at_bits hx', at_bits (Nat.mod_lt _ (by omega)), neg_not]
    rfl
  constructor
  · intro h x hx
    rw [← e x hx]; exact h x hx
  · intro h x hx
    have := h x hx
    rw [← e x hx] at this; exact this
def turnsOf (n d : Nat) : List Nat := (List.range (n / d)).map (· * d)
theorem turns_lt {n d : Nat} (hd : 0 < d) : ∀ p ∈ turnsOf n d, p < n := by
  intro p hp
  obtain ⟨k, hk, rfl⟩ := List.mem_map.mp hp
  have := (Nat.lt_div_iff_mul_lt hd).mp (List.mem_range.mp hk)
  show k * d < n
  omega
theorem widen_bits {f n d : Nat} (hf : f < 2 ^ n) (hd : 0 < d) : widen boolAlg n d ((List.range n).map fun v => f.testBit v) = (List.range n).map fun v => (laid f (turnsOf n d) n).testBit v := by
  refine List.map_congr_left fun j hj => ?_
  have hj' := List.mem_range.mp hj
  rw [or_any, laid_bit hf (turns_lt hd), decide_eq_true hj', Bool.true_and, turnsOf, List.any_map, List.any_map, Bool.eq_iff_iff, List.any_eq_true, List.any_eq_true]
  have e : ∀ k, (id ∘ fun k => at' boolAlg ((List.range n).map fun v => f.testBit v) ((j + n - k * d) % n)) k = ((fun p => f.testBit ((j + n - p) % n)) ∘ fun x => x * d) k := by
    intro k
    simp only [Function.comp, id]
    rw [at_bits (Nat.mod_lt _ (by omega))]
  simp only [e]
theorem some_bit {f n : Nat} (hf : f < 2 ^ n) (h1 : 1 ≤ f) : ((List.range n).map fun v => f.testBit v).any id = true := by
  rw [List.any_map, List.any_eq_true]
  refine Classical.byContradiction fun h => ?_
  have : f = 0 := Nat.eq_of_testBit_eq fun i => by
    rw [Nat.zero_testBit]
    by_cases hi : i < n
    · cases hb : f.testBit i with
      | false => rfl
      | true => exact absurd ⟨i, List.mem_range.mpr hi, hb⟩ h
    · exact bit_high hf (by omega)
  omega
theorem pos_of_bits {f n : Nat} (h : ((List.range n).map fun v => f.testBit v).any id = true) : 1 ≤ f := by
  rw [List.any_map, List.any_eq_true] at h
  obtain ⟨i, _, hi⟩ := h
  refine Nat.pos_of_ne_zero fun e => ?_
  subst e
  simp [Function.comp] at hi
section
variable {n f g : Nat} (h1 : 1 ≤ n) (hn : n ≤ 12) (hf : f < 2 ^ n) (hg : g < 2 ^ n) (hf1 : 1 ≤ f) (hg1 : 1 ≤ g)
include h1 hn hf hg hf1 hg1
/-- the plain law: Kneser's theorem and Kemperman's and Scherk's, on rings of at most twelve places -/
theorem plain :
    (∀ j, j < n → (laid g (bitsTo f 12) n).testBit j = true → (bitsTo f 12).length + (bitsTo g 12).length ≤ (bitsTo (laid g (bitsTo f 12) n) 12).length + rep f g n j) ∧
    (∀ d r, (divs n).filter (per (laid g (bitsTo f 12) n) n) = d :: r →
      (bitsTo (laid f (turnsOf n d) n) 12).length + (bitsTo (laid g (turnsOf n d) n) 12).length ≤ (bitsTo (laid g (bitsTo f 12) n) 12).length + n / d ∧
      ((bitsTo (laid g (bitsTo f 12) n) 12).length < (bitsTo f 12).length + (bitsTo g 12).length → (bitsTo (laid g (bitsTo f 12) n) 12).length + n / d ≤ (bitsTo (laid f (turnsOf n d) n) 12).length + (bitsTo (laid g (turnsOf n d) n) 12).length)) := by
  have hs := laid_lt hg (places_lt hf hn)
  have hcs : ((List.range n).map fun v => (laid g (bitsTo f 12) n).testBit v) = (List.range n).map fun j => (rowOf boolAlg n ((List.range n).map fun v => f.testBit v) ((List.range n).map fun v => g.testBit v) j).any id :=
    List.map_congr_left fun j hj => (any_row hf hg hn (List.mem_range.mp hj)).symm
  obtain ⟨c1, c2⟩ := check_sem hn (by simp) (by simp) (all12 h1 hn hf hg) (some_bit hf hf1) (some_bit hg hg1) hcs
  refine ⟨fun j hj hb => ?_, fun d r hd => ?_⟩
  · have := c1 j hj (by rw [any_row hf hg hn hj]; exact hb)
    rw [num_row, ← len_num hf hn, ← len_num hg hn, ← len_num hs hn] at this
    exact this
  · have hd0 : 0 < d := by
      have := List.mem_filter.mp (hd ▸ List.mem_cons_self : d ∈ (divs n).filter _)
      have := List.mem_filter.mp this.1
      simp at this
      omega
    have := c2 d r (by rw [← hd]; congr 1; funext x; exact per_bits)
    rw [widen_bits hf hd0, widen_bits hg hd0, ← len_num hf hn, ← len_num hg hn, ← len_num hs hn, ← len_num (laid_lt hf (turns_lt hd0)) hn, ← len_num (laid_lt hg (turns_lt hd0)) hn] at this
    exact this
theorem sum_pos : 1 ≤ laid g (bitsTo f 12) n := by
  obtain ⟨x, hx, ex⟩ := List.any_eq_true.mp (List.any_map (f := fun v => f.testBit v) ▸ some_bit hf hf1)
  obtain ⟨y, hy, ey⟩ := List.any_eq_true.mp (List.any_map (f := fun v => g.testBit v) ▸ some_bit hg hg1)
  have hx' := List.mem_range.mp hx
  have hy' := List.mem_range.mp hy
  refine Nat.pos_of_ne_zero fun e => ?_
  have hb : (laid g (bitsTo f 12) n).testBit ((x + y) % n) = true := by
    rw [laid_bit hg (places_lt hf hn), decide_eq_true (Nat.mod_lt _ (by omega)), Bool.true_and, List.any_eq_true]
    refine ⟨x, (bitsTo_mem hf hn).mpr ⟨hx', ex⟩, ?_⟩
    have : ((x + y) % n + n - x) % n = y := by
      rcases Nat.lt_or_ge (x + y) n with h | h
      · rw [Nat.mod_eq_of_lt h, show x + y + n - x = y + n by omega, Nat.add_mod_right, Nat.mod_eq_of_lt hy']
      · rw [Nat.mod_eq_sub_mod h, Nat.mod_eq_of_lt (by omega : x + y - n < n), show x + y - n + n - x = y by omega, Nat.mod_eq_of_lt hy']
    rw [this]; exact ey
  rw [e] at hb
  simp at hb
end
end Mine
end
section
open PySem PySem.W PyProof.Rows
namespace Mine
/-- a set's places as the law's ints -/
def toI (l : List Nat) : List Int := l.map fun (j : Nat) => (j : Int)
theorem mod_sub {n c p : Nat} (hc : c < n) (hp : p < n) : (c + n - p) % n = if p ≤ c then c - p else c + n - p := by
  split
  · rw [show c + n - p = (c - p) + n by omega, Nat.add_mod_right, Nat.mod_eq_of_lt (by omega)]
  · exact Nat.mod_eq_of_lt (by omega)
theorem mod_add {n c t : Nat} (hc : c < n) (ht : t ≤ n) : (c + t) % n = if c + t < n then c + t else c + t - n := by
  split
  · exact Nat.mod_eq_of_lt (by assumption)
  · rw [Nat.mod_eq_sub_mod (by omega), Nat.mod_eq_of_lt (by omega)]
theorem fm_sub {n c p : Nat} (hp : p ≤ n) : ((c : Int) - (p : Int)).fmod (n : Int) = (((c + n - p) % n : Nat) : Int) := by
  rw [Int.fmod_eq_emod_of_nonneg _ (by omega), Int.natCast_emod, Int.ofNat_sub (by omega)]
  push_cast
  rw [show (c : Int) + n - p = (c - p) + n by omega, Int.add_emod_right]
theorem fm_add {n c t : Nat} : ((c : Int) + (t : Int)).fmod (n : Int) = (((c + t) % n : Nat) : Int) := by
  rw [← Int.natCast_add, fmod_nat]
theorem count_of (xs ys : List Int) : ((xs.length : Int) - ((missing xs ys).length : Nat)) = ((xs.countP fun x => ys.contains x : Nat) : Int) := by
  have h := List.length_eq_countP_add_countP (fun x => ys.contains x) (l := xs)
  have e : (missing xs ys).length = xs.countP fun a => decide ¬ys.contains a = true := by
    rw [missing, ← List.countP_eq_length_filter]
    congr 1
    funext x
    cases ys.contains x <;> rfl
  omega
theorem bits_pairwise (f : Nat) : (bitsTo f 12).Pairwise (· < ·) := List.Pairwise.filter _ (List.pairwise_lt_range)
theorem ints_pairwise (f : Nat) : (toI (bitsTo f 12)).Pairwise (· < ·) := by
  unfold toI
  rw [List.pairwise_map]
  exact (bits_pairwise f).imp fun h => by omega
theorem bits_len (f : Nat) : (bitsTo f 12).length ≤ 12 := Nat.le_trans (List.length_filter_le _ _) (by simp)
theorem ints_len (f : Nat) : (toI (bitsTo f 12)).length ≤ 12 := by rw [toI, List.length_map]; exact bits_len f
def back (g n c : Nat) : List Int := (bitsTo g 12).map fun (p : Nat) => ((c : Int) - (p : Int)).fmod (n : Int)
def forth (s n t : Nat) : List Int := (bitsTo s 12).map fun (c : Nat) => ((c : Int) + (t : Int)).fmod (n : Int)
section
variable {n f g : Nat} (hn : n ≤ 12) (hf : f < 2 ^ n) (hg : g < 2 ^ n)
include hn hg
theorem back_mem {c x : Nat} (hc : c < n) (hx : x < n) : (x : Int) ∈ back g n c ↔ g.testBit ((c + n - x) % n) = true := by
  unfold back
  rw [List.mem_map]
  constructor
  · rintro ⟨p, hp, e⟩
    obtain ⟨p1, p2⟩ := (bitsTo_mem hg hn).mp hp
    rw [fm_sub (by omega)] at e
    have e' : (c + n - p) % n = x := by exact_mod_cast e
    rw [mod_sub hc p1] at e'
    have : (c + n - x) % n = p := by rw [mod_sub hc hx]; split at e' <;> split <;> omega
    rw [this]; exact p2
  · intro h
    have hp : (c + n - x) % n < n := Nat.mod_lt _ (by omega)
    refine ⟨_, (bitsTo_mem hg hn).mpr ⟨hp, h⟩, ?_⟩
    rw [fm_sub (by omega)]
    congr 1
    generalize hq : (c + n - x) % n = q at hp
    rw [mod_sub hc hx] at hq
    rw [mod_sub hc hp]
    split at hq <;> split <;> omega
theorem back_nodup {c : Nat} (hc : c < n) : (back g n c).Nodup := by
  unfold back List.Nodup
  rw [List.pairwise_map]
  refine List.Pairwise.imp_of_mem (fun {a b} ha hb h => ?_) (bits_pairwise g)
  have ha' := ((bitsTo_mem hg hn).mp ha).1
  have hb' := ((bitsTo_mem hg hn).mp hb).1
  rw [fm_sub (by omega), fm_sub (by omega)]
  intro e
  have e' : (c + n - a) % n = (c + n - b) % n := by exact_mod_cast e
  rw [mod_sub hc ha', mod_sub hc hb'] at e'
  split at e' <;> split at e' <;> omega
theorem forth_mem {t x : Nat} (ht : t ≤ n) (hx : x < n) : (x : Int) ∈ forth g n t ↔ g.testBit ((x + n - t) % n) = true := by
  unfold forth
  rw [List.mem_map]
  have hs : (x + n - t) % n = if t ≤ x then x - t else x + n - t - (if t = 0 then n else 0) := by
    by_cases h0 : t = n
    · subst h0
      rw [show x + t - t = x by omega, Nat.mod_eq_of_lt hx]
      split <;> (try split) <;> omega
    · rw [mod_sub hx (by omega)]
      split <;> (try split) <;> omega
  constructor
  · rintro ⟨p, hp, e⟩
    obtain ⟨p1, p2⟩ := (bitsTo_mem hg hn).mp hp
    rw [fm_add] at e
    have e' : (p + t) % n = x := by exact_mod_cast e
    rw [mod_add p1 ht] at e'
    have : (x + n - t) % n = p := by rw [hs]; split at e' <;> split <;> (try split) <;> omega
    rw [this]; exact p2
  · intro h
    have hp : (x + n - t) % n < n := Nat.mod_lt _ (by omega)
    refine ⟨_, (bitsTo_mem hg hn).mpr ⟨hp, h⟩, ?_⟩
    rw [fm_add]
    congr 1
    generalize hq : (x + n - t) % n = q at hp
    rw [hs] at hq
    rw [mod_add hp ht]
    split at hq <;> (try split at hq) <;> split <;> omega
theorem forth_nodup {t : Nat} (ht : t ≤ n) : (forth g n t).Nodup := by
  unfold forth List.Nodup
  rw [List.pairwise_map]
  refine List.Pairwise.imp_of_mem (fun {a b} ha hb h => ?_) (bits_pairwise g)
  have ha' := ((bitsTo_mem hg hn).mp ha).1
  have hb' := ((bitsTo_mem hg hn).mp hb).1
  rw [fm_add, fm_add]
  intro e
  have e' : (a + t) % n = (b + t) % n := by exact_mod_cast e
  rw [mod_add ha' ht, mod_add hb' ht] at e'
  split at e' <;> split at e' <;> omega
theorem forth_count {t : Nat} (ht : t ≤ n) : (((toI (bitsTo g 12)).length : Int) - ((missing (toI (bitsTo g 12)) (forth g n t)).length : Nat)) = ((toI (bitsTo g 12)).length : Nat) ↔ per g n t = true := by
  rw [count_of]
  have : (((toI (bitsTo g 12)).countP fun x => (forth g n t).contains x : Nat) : Int) = ((toI (bitsTo g 12)).length : Nat) ↔ (toI (bitsTo g 12)).countP (fun x => (forth g n t).contains x) = (toI (bitsTo g 12)).length := by
    constructor
    · intro h; exact_mod_cast h
    · intro h; exact_mod_cast h
  rw [this, List.countP_eq_length, per, List.all_eq_true]
  constructor
  · intro h x hx
    have hx' := List.mem_range.mp hx
    cases hb : g.testBit x with
    | false => rfl
    | true =>
      have := h (x : Int) (List.mem_map.mpr ⟨x, (bitsTo_mem hg hn).mpr ⟨hx', hb⟩, rfl⟩)
      rw [List.contains_iff_mem] at this
      rw [(forth_mem hn hg ht hx').mp this]; rfl
  · intro h y hy
    obtain ⟨x, hx, rfl⟩ := List.mem_map.mp hy
    obtain ⟨x1, x2⟩ := (bitsTo_mem hg hn).mp hx
    rw [List.contains_iff_mem, forth_mem hn hg ht x1]
    have := h x (List.mem_range.mpr x1)
    rw [x2] at this
    exact this
include hf
theorem back_count {c : Nat} (hc : c < n) : (((toI (bitsTo f 12)).length : Int) - ((missing (toI (bitsTo f 12)) (back g n c)).length : Nat)) = (rep f g n c : Nat) := by
  rw [count_of, toI, List.countP_map, bitsTo_n hf hn, List.countP_filter, rep]
  congr 1
  refine List.countP_congr fun x hx => ?_
  have hx' := List.mem_range.mp hx
  simp only [Function.comp, Bool.and_eq_true]
  rw [List.contains_iff_mem, back_mem hn hg hc hx']
  exact And.comm
theorem sums_are : (List.range n).filter (fun c => decide (0 < rep f g n c)) = bitsTo (laid g (bitsTo f 12) n) 12 := by
  rw [bitsTo_n (laid_lt hg (places_lt hf hn)) hn]
  exact List.filter_congr fun c hc => (sum_bit hf hg hn (List.mem_range.mp hc)).symm
end
theorem per_self (s n : Nat) : per s n n = true := by
  rw [per, List.all_eq_true]
  intro x hx
  have hx' := List.mem_range.mp hx
  rw [show x + n - n = x by omega, Nat.mod_eq_of_lt hx']
  cases s.testBit x <;> rfl
theorem divs_are {n : Nat} (h1 : 1 ≤ n) (hn : n ≤ 12) : ((List.range n).map (· + 1)).filter (fun t => decide (n % t = 0)) = divs n := by
  rcases (by omega : n = 1 ∨ n = 2 ∨ n = 3 ∨ n = 4 ∨ n = 5 ∨ n = 6 ∨ n = 7 ∨ n = 8 ∨ n = 9 ∨ n = 10 ∨ n = 11 ∨ n = 12) with rfl | rfl | rfl | rfl | rfl | rfl | rfl | rfl | rfl | rfl | rfl | rfl <;> decide +kernel
theorem divs_mem {n d : Nat} : d ∈ divs n ↔ 1 ≤ d ∧ d ≤ n ∧ n % d = 0 := by
  simp only [divs, List.mem_filter, List.mem_range, Bool.and_eq_true, decide_eq_true_iff]
  omega
theorem moves_ne {s n : Nat} (h1 : 1 ≤ n) : (divs n).filter (per s n) ≠ [] := by
  intro e
  have : n ∈ (divs n).filter (per s n) := List.mem_filter.mpr ⟨divs_mem.mpr ⟨h1, Nat.le_refl _, Nat.mod_self n⟩, per_self s n⟩
  rw [e] at this
  cases this
end Mine
end
section
open PySem PySem.W PyProof.Rows
namespace Mine
theorem range_facts {n : Nat} (h1 : 1 ≤ n) (hn : n ≤ 12) : Builtin.Range.small 0 (n : Int) 1 = true ∧ Builtin.Range.rangeSize 0 (n : Int) 1 = (n : Int) ∧ Builtin.Range.small 1 ((n : Int) + 1) 1 = true ∧ Builtin.Range.rangeSize 1 ((n : Int) + 1) 1 = (n : Int) ∧ n ≤ sizeLine := by
  rw [sizeLine_eq]
  rcases (by omega : n = 1 ∨ n = 2 ∨ n = 3 ∨ n = 4 ∨ n = 5 ∨ n = 6 ∨ n = 7 ∨ n = 8 ∨ n = 9 ∨ n = 10 ∨ n = 11 ∨ n = 12) with rfl | rfl | rfl | rfl | rfl | rfl | rfl | rfl | rfl | rfl | rfl | rfl <;> decide +kernel
theorem news_turn {b h : Heap} {L : Addr} {x1 x2 x3 x4 x5 x6 x7 x8 x9 : Addr × Obj} (N : News b L h [x1, x2, x3, x4, x5, x6, x7, x8, x9]) : News b L h ([x9] ++ [x1, x2, x4, x5, x6, x7, x8]) := fun p hp => N p (by
  simp only [List.cons_append, List.nil_append, List.mem_cons, List.not_mem_nil, or_false] at hp ⊢
  rcases hp with h | h | h | h | h | h | h | h <;> simp only [h, true_or, or_true])
theorem news_tail {b h : Heap} {L : Addr} {tb news : List (Addr × Obj)} (N : News b L h (tb ++ news)) : News b L h (news ++ tb) := fun p hp => N p (List.mem_append.mpr (List.mem_append.mp hp).symm)
theorem bits12 (f : Nat) : ∀ p ∈ bitsTo f 12, p < 12 := fun _ hp => List.mem_range.mp (List.mem_filter.mp hp).1
theorem tab_off {b h : Heap} {L K : Addr} {tb all : List (Addr × Obj)} {oK : Obj} {v : Option Value} (htb : TabLam tb) (N : News b L h all) (hsub : ∀ q ∈ tb, q ∈ all) (hk : (K, oK) ∈ all) (hd : oK.data = .cell v) (h52 : (@Ne Nat K 52)) : ∀ q ∈ tb, (@Ne Nat q.1 K) := by
  intro q hq
  rcases htb with rfl | ⟨c', oc, vs, t, rfl, hoc, _⟩
  · rw [List.mem_singleton.mp hq]; exact Ne.symm h52
  · rcases List.mem_cons.mp hq with rfl | hq'
    · exact Ne.symm h52
    · rw [List.mem_singleton.mp hq']
      intro e
      have e' : c' = K := e
      have h1 := (N _ (hsub _ hq)).1
      rw [List.mem_singleton.mp hq'] at h1
      have h2 := (N _ hk).1
      rw [show ((c', oc) : Addr × Obj).1 = K from e'] at h1
      rw [h1] at h2
      have h3 := Option.some.inj h2
      have h4 : oc.data = oK.data := congrArg Obj.data h3
      rw [hoc, hd] at h4
      cases h4
theorem caller_handled (env : Env) : (callerA.deeper env).handled = none := rfl
theorem item_at {vs : List Value} {l : List Nat} (h : IntsAre vs (l.map fun (j : Nat) => (j : Int))) {i : Nat} {v : Value} (hv : vs.toArray[i]? = some v) : ∃ (x : Nat) (t : Tok), l[i]? = some x ∧ v = .int (x : Int) t := by
  obtain ⟨y, t, rfl, hy⟩ := IntsAre.at h i v (by simpa using hv)
  rw [List.getElem?_map] at hy
  cases hx : l[i]? with
  | none => rw [hx] at hy; cases hy
  | some x =>
    rw [hx] at hy
    exact ⟨x, t, rfl, by rw [← Option.some.inj hy]⟩
theorem take_map {α : Type} {f : Nat → α} {l : List Nat} {i x : Nat} (hx : l[i]? = some x) : (l.take (i + 1)).map f = (l.take i).map f ++ [f x] := by
  rw [List.take_add_one, hx, List.map_append]; rfl
theorem ints_all {vs : List Value} {α : Type} {f : α → Int} {l : List α} {n : Nat} (h : IntsAre vs ((l.take n).map f)) (hn : l.length ≤ n) : IntsAre vs (l.map f) := by
  rwa [List.take_of_length_le hn] at h
def oftenL (f g n i : Nat) : List Int := (List.range i).map fun c => ((rep f g n c : Nat) : Int)
theorem often_succ (f g n i : Nat) : oftenL f g n (i + 1) = oftenL f g n i ++ [((rep f g n i : Nat) : Int)] := by
  simp only [oftenL, List.range_succ, List.map_append, List.map_cons, List.map_nil]
theorem often_len (f g n i : Nat) : (oftenL f g n i).length = i := by rw [oftenL, List.length_map, List.length_range]
theorem often_at {f g n i m : Nat} (hi : i < m) : (oftenL f g n m).getD ((i : Nat) : Int).toNat 0 = ((rep f g n i : Nat) : Int) := by
  rw [Int.toNat_natCast, List.getD_eq_getElem?_getD, oftenL, List.getElem?_map, List.getElem?_range hi]; rfl
theorem filt_on {p : Nat → Bool} {i : Nat} (h : p i = true) : ((List.range (i + 1)).filter p).map (fun (c : Nat) => (c : Int)) = ((List.range i).filter p).map (fun (c : Nat) => (c : Int)) ++ [(i : Int)] := by
  rw [List.range_succ, List.filter_append, List.map_append, List.filter_cons_of_pos h]; rfl
theorem filt_off {p : Nat → Bool} {i : Nat} (h : p i = false) : ((List.range (i + 1)).filter p).map (fun (c : Nat) => (c : Int)) = ((List.range i).filter p).map (fun (c : Nat) => (c : Int)) := by
  rw [List.range_succ, List.filter_append, List.map_append, List.filter_cons_of_neg (by rw [h]; decide)]; simp
theorem tilt_on {p : Nat → Bool} {i : Nat} (h : p (i + 1) = true) : (((List.range (i + 1)).map (· + 1)).filter p).map (fun (c : Nat) => (c : Int)) = (((List.range i).map (· + 1)).filter p).map (fun (c : Nat) => (c : Int)) ++ [((i + 1 : Nat) : Int)] := by
  rw [List.range_succ, List.map_append, List.filter_append, List.map_append, List.map_cons, List.filter_cons_of_pos h]; rfl
theorem tilt_off {p : Nat → Bool} {i : Nat} (h : p (i + 1) = false) : (((List.range (i + 1)).map (· + 1)).filter p).map (fun (c : Nat) => (c : Int)) = (((List.range i).map (· + 1)).filter p).map (fun (c : Nat) => (c : Int)) := by
  rw [List.range_succ, List.map_append, List.filter_append, List.map_append, List.map_cons, List.filter_cons_of_neg (by rw [h]; decide)]; simp
theorem tfilt_on {p : Nat → Bool} {l : List Nat} {i x : Nat} (hx : l[i]? = some x) (h : p x = true) : ((l.take (i + 1)).filter p).map (fun (c : Nat) => (c : Int)) = ((l.take i).filter p).map (fun (c : Nat) => (c : Int)) ++ [(x : Int)] := by
  rw [List.take_add_one, hx, List.filter_append, List.map_append]
  show _ ++ ((List.filter p [x]).map _) = _
  rw [List.filter_cons_of_pos h]; rfl
theorem tfilt_off {p : Nat → Bool} {l : List Nat} {i x : Nat} (hx : l[i]? = some x) (h : p x = false) : ((l.take (i + 1)).filter p).map (fun (c : Nat) => (c : Int)) = ((l.take i).filter p).map (fun (c : Nat) => (c : Int)) := by
  rw [List.take_add_one, hx, List.filter_append, List.map_append]
  show _ ++ ((List.filter p [x]).map _) = _
  rw [List.filter_cons_of_neg (by rw [h]; decide)]; simp
theorem ints_from : ∀ (vs : List Value) (n : Nat) (f : Nat → Int), vs.length = n → (∀ (j : Nat) (v : Value), vs[j]? = some v → ∃ t, v = .int (f j) t) → IntsAre vs ((List.range n).map f)
  | [], _, _, e, _ => by subst e; exact .nil
  | v :: r, _, f, e, h => by
    subst e
    rw [List.length_cons, List.range_succ_eq_map, List.map_cons, List.map_map]
    obtain ⟨t, rfl⟩ := h 0 v rfl
    exact .cons _ _ (ints_from r r.length (fun j => f (j + 1)) rfl fun j v hj => h (j + 1) v hj)
theorem turn_facts {n d : Nat} (hn : n ≤ 12) (h1 : 1 ≤ d) (h2 : d ≤ n) (h3 : n % d = 0) : Builtin.Range.small 0 (n : Int) (d : Int) = true ∧ Builtin.Range.rangeSize 0 (n : Int) (d : Int) = ((n / d : Nat) : Int) := by
  have : ∀ n ∈ List.range 13, ∀ d ∈ List.range 13, 1 ≤ d → d ≤ n → n % d = 0 → Builtin.Range.small 0 (n : Int) (d : Int) = true ∧ Builtin.Range.rangeSize 0 (n : Int) (d : Int) = ((n / d : Nat) : Int) := by decide +kernel
  exact this n (List.mem_range.mpr (by omega)) d (List.mem_range.mpr (by omega)) h1 h2 h3
theorem list_turns {prog : Program} {w : World} {A : Around} {E : Value → Shared → Prop} {s : Shared} {h₀ : Heap} {L r : Addr} {m : Str → Option Value} {news : List (Addr × Obj)} {n d : Nat} {t u v : Tok} {Q : Value → Shared → Prop}
    (hh : A.handled = none) (F : Fr h₀ L s.heap m) (N : News h₀ L s.heap news) (hr : IsRange s.heap r 0 (n : Int) (d : Int) t u v) (hsmall : Builtin.Range.small 0 (n : Int) (d : Int) = true) (hn : Builtin.Range.rangeSize 0 (n : Int) (d : Int) = ((n / d : Nat) : Int)) (h12 : n ≤ 12)
    (h : ∀ D us c h' tk, Fr h₀ L h' m → News h₀ L h' ((D, listOf (List.toArray us) c) :: news) → (∀ p ∈ news, p.1 < D) → IntsAre us ((turnsOf n d).map fun (j : Nat) => (j : Int)) → Q (.ref D) { s with heap := h', toks := tk }) :
    wpAny (model prog w) A (call (.type "list") [.ref r]) Q E s := by
  have hz : n / d ≤ 2 ^ 24 := Nat.le_trans (Nat.div_le_self n d) (Nat.le_trans h12 (Nat.le_of_ble_eq_true rfl))
  refine call_list_range hh hr hsmall hn hz fun h' tk acc c hk hD hI => ?_
  have hD' : h'.get? s.heap.objs.size = some (listOf (List.toArray acc.toList) c) := by
    rw [Array.toArray_toList]
    exact hD
  refine h _ acc.toList c h' tk (F.keeps hk) (news_pushed F N hk hD' rfl) (fun p hp => Heap.lt_size (N p hp).1) ?_
  rw [turnsOf, List.map_map]
  refine ints_from _ _ _ (by rw [Array.length_toList]; exact hI.1) fun j v hj => ?_
  obtain ⟨t, rfl⟩ := hI.2 j v (by rw [← hj, Array.getElem?_toList])
  have e : (0 : Int) + (j : Int) * (d : Int) = ((j * d : Nat) : Int) := by rw [Int.zero_add, Int.natCast_mul]
  exact ⟨t, congrArg (fun z => Value.int z t) e⟩
theorem ne52 {b h : Heap} {L : Addr} {tb news : List (Addr × Obj)} (htb : TabLam tb) (N : News b L h (tb ++ news)) (hn : ∀ q ∈ news, (∃ its k, q.2 = listOf its k) ∨ ∃ v, q.2.data = .cell v) : ∀ q ∈ news, q.1 ≠ 52 := by
  have h52 : ∃ ps, (52, tabObj ps) ∈ tb := by
    rcases htb with rfl | ⟨c', oc, vs, t, rfl, _, _⟩
    · exact ⟨_, .head _⟩
    · exact ⟨_, .head _⟩
  obtain ⟨ps, h52⟩ := h52
  intro q hq e
  have h1 := (N _ (List.mem_append_left _ h52)).1
  have h2 := (N _ (List.mem_append_right _ hq)).1
  rw [e] at h2
  have h3 := Option.some.inj (h1.symm.trans h2)
  rcases hn q hq with ⟨its, k, h4⟩ | ⟨v, h4⟩
  · rw [h4] at h3
    have h5 := congrArg Obj.cls h3
    cases h5
  · have h5 := congrArg Obj.data h3
    rw [h4] at h5
    cases h5
theorem news_front {b h : Heap} {L : Addr} {tb : List (Addr × Obj)} (a : List (Addr × Obj)) (N : News b L h (a ++ tb)) : News b L h (tb ++ a) := fun p hp => N p (List.mem_append.mpr (List.mem_append.mp hp).symm)
theorem news_tail1 {b h : Heap} {L : Addr} {x : Addr × Obj} {tb a : List (Addr × Obj)} (N : News b L h (x :: (tb ++ a))) : News b L h (x :: (a ++ tb)) := fun p hp => N p (by
  rcases List.mem_cons.mp hp with h | h
  · exact h ▸ .head _
  · exact .tail _ (List.mem_append.mpr (List.mem_append.mp h).symm))
theorem laid_pos {f n : Nat} {ps : List Nat} (hf1 : 1 ≤ f) (hf : f < 2 ^ n) (hps : ∀ p ∈ ps, p < n) (h0 : 0 ∈ ps) : 1 ≤ laid f ps n := by
  obtain ⟨x, hx, ex⟩ := List.any_eq_true.mp (List.any_map (f := fun v => f.testBit v) ▸ some_bit hf hf1)
  have hx' := List.mem_range.mp hx
  refine Nat.pos_of_ne_zero fun e => ?_
  have hb : (laid f ps n).testBit x = true := by
    rw [laid_bit hf hps, decide_eq_true hx', Bool.true_and, List.any_eq_true]
    refine ⟨0, h0, ?_⟩
    rw [Nat.sub_zero, Nat.add_mod_right, Nat.mod_eq_of_lt hx']
    exact ex
  rw [e] at hb
  simp at hb
theorem turns_zero {n d : Nat} (h1 : 1 ≤ n) (hd : 1 ≤ d) (hdn : d ≤ n) : 0 ∈ turnsOf n d := List.mem_map.mpr ⟨0, List.mem_range.mpr (Nat.div_pos hdn hd), Nat.zero_mul _⟩
theorem turns_len (n d : Nat) : (turnsOf n d).length = n / d := by rw [turnsOf, List.length_map, List.length_range]
theorem bits_pos {s : Nat} (h1 : 1 ≤ s) (h2 : s < 4096) : 0 < (bitsTo s 12).length := by
  have h := words_ne h1 h2
  cases e : bitsTo s 12 with
  | nil => exact absurd (by rw [wordsTo, e]; rfl) h
  | cons a r => exact Nat.succ_pos _
theorem tab_has {tb : List (Addr × Obj)} (htb : TabLam tb) : ∃ ps, (52, tabObj ps) ∈ tb := by
  rcases htb with rfl | ⟨c', oc, vs, t, rfl, _, _⟩
  · exact ⟨_, .head _⟩
  · exact ⟨_, .head _⟩
/-- how the law ends -/
def LawFin (base : Heap) (L : Addr) (s : Shared) (fl : Flow) (s' : Shared) : Prop :=
  ∃ h' tk m nw ps, fl = .ret (.bool true) ∧ s' = { s with heap := h', toks := tk } ∧ Fr base L h' m ∧ News base L h' nw ∧ (52, tabObj ps) ∈ nw
theorem by_any {M : Model} {A : Around} {t : Sem Flow} {Q : Flow → Shared → Prop} {E : Value → Shared → Prop} {s : Shared} {base : Heap} {L : Addr} {m : Str → Option Value} (_F : Fr base L s.heap m)
    (H : ∀ (Q' : Flow → Shared → Prop) (E' : Value → Shared → Prop), (∀ v s', LawFin base L s v s' → Q' v s') → wpAny M A t Q' E' s) (h : ∀ v s', LawFin base L s v s' → Q v s') : wpAny M A t Q E s := H Q E h
end Mine
end
section
open PySem PySem.W PyProof.Rows
namespace Mine
local macro_rules | `(tactic| ktn_open) => `(tactic| repeat' (first | (k_unfold; (try dsimp only)) | ((with_reducible show Frag.In _ _ ∧ _); (refine And.intro (by k_in) ?_)) | ((fail_if_success k_end); (fail_if_success (with_reducible show wpAny _ _ (call (Value.ref _) _) _ _ _)); (fail_if_success (with_reducible show wpAny _ _ (call (Value.builtin "len") _) _ _ _)); (fail_if_success (with_reducible show wpAny _ _ (call (Value.builtin "min") _) _ _ _)); (fail_if_success (with_reducible show wpAny _ _ (call (Value.type "list") _) _ _ _)); (fail_if_success (with_reducible show wpAny _ _ (binaryOp _ (Value.ref _) (Value.ref _)) _ _ _)); (fail_if_success (with_reducible show wpAny _ _ (compareOp _ (Value.ref _) (Value.ref _)) _ _ _)); (fail_if_success (with_reducible show wpAny _ _ (subscriptTail _ _ _ _) _ _ _)); (fail_if_success (with_reducible show wpAny _ _ (eval (PySem.Expr.ListComp _ _ _ _) _) _ _ _)); (fail_if_success (with_reducible show wpAny _ _ (exec (Stmt.Assign [_] (PySem.Expr.ListComp _ _ _ _) _) _) _ _ _)); walk1 <;> (try dsimp only)) | fail "no step"))
local macro_rules | `(tactic| walk_at "binaryOp Mod int int") => `(tactic| (with_reducible refine mod_int' (by assumption) ?_))
local macro_rules | `(tactic| k_all) => `(tactic| first | assumption | (refine' all_ne ?h1 ?h2; (case h1 => assumption); (case h2 => omega)))
set_option maxHeartbeats 8000000 in
theorem law_holds : PySem.Challenge.rw_oy0035_01.Holds := by
  refine hd ?_
  k_go0
  all_goals try k_fold
  rename Fr _ _ _ _ => F1
  rename News _ _ _ _ => N1
  refine by_any F1 ?_ ?_
  rotate_left
  · rintro fl s' ⟨h', tk, m, nw, ps, rfl, rfl, F2, N2, hm⟩
    clear F1 N1
    dsimp only
    refine ⟨?_, GrownAt.of N2 hm, trivial⟩
    wrow_close
  intro Q E hQ
  ktn_open
  rename Fr _ _ _ _ => F1
  rename News _ _ _ _ => N1
  rename Below _ _ _ _ => B1
  rename Frag.In _ _ => X1
  rename PyProof.Rows.Top _ _ _ _ _ _ => T1
  rename IntsAre _ _ => I1
  rename (ghostOf _ _).IsList _ _ => hL1
  rename CodeHd _ _ _ => hC1
  k_dflt (refine' tell_use drawn B1 F1 X1 N1 T1 ⟨hL1, I1, ?hlen⟩ rfl ?hdp ?hun ?_)
  case hlen => omega
  case hdp => decide
  case hun => decide
  rintro r nw h2 tk2 F2 N2 ⟨t, sz, fl, ot, t1, t2, t3, n0, rfl, rfl, lt, hs1, hs2, hf1, hf2, hg1, hg2⟩
  clear F1 N1 I1
  k_lt lt
  obtain ⟨n, rfl⟩ := Int.eq_ofNat_of_zero_le (by omega : 0 ≤ sz)
  obtain ⟨f, rfl⟩ := Int.eq_ofNat_of_zero_le (by omega : 0 ≤ fl)
  obtain ⟨g, rfl⟩ := Int.eq_ofNat_of_zero_le (by omega : 0 ≤ ot)
  rw [Int.toNat_natCast, pow_nat] at hf2 hg2
  replace hs1 : 1 ≤ n := by omega
  replace hs2 : n ≤ 12 := by omega
  replace hf1 : 1 ≤ f := by omega
  replace hf2 : f < 2 ^ n := by omega
  replace hg1 : 1 ≤ g := by omega
  replace hg2 : g < 2 ^ n := by omega
  have hn12 : 2 ^ n ≤ 4096 := Nat.pow_le_pow_right (by decide) hs2
  generalize bindL _ _ _ = m0 at F2
  have hn0 : ((n : Nat) : Int) ≠ 0 := by omega
  dsimp only
  ktn_open
  rename Fr _ _ _ _ => F3
  rename News _ _ _ _ => N3
  k_dflt (refine' tell_use places B1 F3 X1 N3 T1 ⟨hf1, by omega⟩ rfl ?hdp ?hun ?_)
  case hdp => decide
  case hun => decide
  rintro r nw h4 tk4 F4 N4 ⟨l1, vs1, n1, rfl, rfl, o1, I1⟩
  clear F3 N3
  replace o1 := off1_of o1
  simp only [LCg.Off1, and_true] at o1
  dsimp only
  ktn_open
  rename Fr _ _ _ _ => F3
  rename News _ _ _ _ => N3
  k_dflt (refine' tell_use places B1 F3 X1 N3 T1 ⟨hg1, by omega⟩ rfl ?hdp ?hun ?_)
  case hdp => decide
  case hun => decide
  rintro r nw h5 tk5 F5 N5 ⟨l2, vs2, n2, rfl, rfl, o2, I2⟩
  clear F3 N3
  replace o2 := off1_of o2
  simp only [LCg.Off1, and_true] at o2
  dsimp only
  ktn_open
  rename Fr _ _ _ _ => F3
  rename News _ _ _ _ => N3
  replace N3 := news_turn N3
  dsimp only at hC1
  k_dflt (refine' tell_use (laidT (.inl rfl) ?hnw (.tail _ (.tail _ (.head _))) I1 (bits_len f) (bits12 f) (by omega) hs1 hs2) B1 F3 X1 N3 T1 hC1 rfl ?hdp ?hun ?_)
  case hdp => decide
  case hun => decide
  case hnw => exact off1_mem (by simp only [LCg.Off1, and_true]; omega)
  rintro r nw h6 tk6 F6 N6 ⟨tb, t4, htb, rfl, rfl⟩
  clear F3 N3
  replace N6 := news_tail N6
  simp only [List.cons_append, List.nil_append] at N6
  have hs3 : 1 ≤ laid g (bitsTo f 12) n := sum_pos hs1 hs2 hf2 hg2 hf1 hg1
  have hs4 : laid g (bitsTo f 12) n < 2 ^ n := laid_lt hg2 (places_lt hf2 hs2)
  generalize hS : laid g (bitsTo f 12) n = S at hs3 hs4
  dsimp only
  ktn_open
  rename Fr _ _ _ _ => F3
  rename News _ _ _ _ => N3
  k_dflt (refine' tell_use places B1 F3 X1 N3 T1 ⟨hs3, by omega⟩ rfl ?hdp ?hun ?_)
  case hdp => decide
  case hun => decide
  rintro r nw h7 tk7 F7 N7 ⟨l3, vs3, n3, rfl, rfl, o3, I3⟩
  clear F3 N3
  have o3' : ∀ p ∈ tb, (@Ne Nat p.1 l3) := fun p hp => o3 p (by simp [hp])
  replace o3 := off1_of o3
  simp only [LCg.Off1] at o3
  dsimp only
  have hq4 := tab_off htb N7 (fun q hq => by simp [hq]) (.tail _ (.tail _ (.tail _ (.tail _ (.head _))))) (by with_reducible assumption) (by omega)
  ktn_open
  rename Fr _ _ _ _ => F3
  rename News _ _ _ _ => N3
  walk1
  k_dflt (refine ListComp_C (F₀ := F3) (by with_unfolding_all rfl) (by intro k; rfl) (by intro h; rfl) (by decide) (by decide) (by rfl) ?_)
  ktn_open
  rename Fr _ _ _ _ => F4
  rename News _ _ _ _ => N4
  obtain ⟨r1, r2, r3, r4, r5⟩ := range_facts hs1 hs2
  refine ⟨_, 0, (n : Int), _, _, _, n, _, fun i ys nw => nw = _ ∧ IntsAre ys (oftenL f g n i), rfl, caller_handled _, F4, N4, (by with_reducible assumption), r1, r2, r5, ?_, ⟨rfl, .nil⟩, ?_, ?_⟩
  · rintro i ys nw ⟨_, hI⟩
    rw [hI.length, oftenL, List.length_map, List.length_range]
    exact Nat.le_refl _
  · intro g5 i v ys nw I oI C oC K oK D h tk E' hi hv hJ hoK F5 N5 off ne
    obtain ⟨rfl, hJ⟩ := hJ
    obtain ⟨t9, rfl⟩ := hv
    rw [Int.zero_add] at hoK
    clear F4 N4
    refine wpAny_tests_nil ?_
    rw [if_pos rfl]
    ktn_open
    k_dflt (refine LCg.ListComp_U (F₀ := by k_asm) (by with_unfolding_all rfl) (by decide) (by rfl) (by decide) (by rfl) ?_)
    ktn_open
    rename Fr _ _ _ _ => F6
    rename News _ _ _ _ => N6
    refine LCg.CompSrc.ledger (caller_handled _) F6 N6 (.tail _ (.tail _ (.tail _ (.tail _ (.tail _ (.head _)))))) (by rw [sizeLine_eq, List.size_toArray, I2.length, List.length_map]; have := bits_len g; omega) ?_
    intro g6
    refine comp_ind (fun j zs nw => nw = _ ∧ IntsAre zs (((bitsTo g 12).take j).map fun (p : Nat) => ((i : Int) - (p : Int)).fmod (n : Int))) ⟨rfl, .nil⟩ ?_ ?_
    · intro j v zs nw I' oI' C' oC' D' m₂ h8 tk8 E8 hj hv hJ8 hC hx F8 N8 off8 ne8
      obtain ⟨rfl, hJ8⟩ := hJ8
      clear F6 N6
      obtain ⟨x, tx, hx8, rfl⟩ := item_at I2 hv
      ktn_open
      rename Fr _ _ _ _ => F9
      rename News _ _ _ _ => N9
      refine ⟨_, _, _, rfl, F9, N9, off8, .inr ⟨_, .tail _ (.tail _ (.tail _ (.tail _ (.tail _ (.head _))))), rfl, _, rfl⟩, rfl, ?_⟩
      rw [take_map hx8]
      exact hJ8.append (.cons _ _ .nil)
    · rintro zs nw ⟨rfl, hJ8⟩
      intro D2 h8 tk8 F8 N8 off8
      dsimp only
      have hJ9 := ints_all hJ8 (by rw [List.size_toArray, I2.length, List.length_map]; exact Nat.le_refl _)
      clear hJ8 F6 N6
      have hoff := off1_mem off8
      clear off8
      ktn_open
      rename Fr _ _ _ _ => F9
      rename News _ _ _ _ => N9
      k_dflt (refine' met (.tail _ (.tail _ (.tail _ (.tail _ (.tail _ (.tail _ (.tail _ (.head _)))))))) (.head _) I1 hJ9 (ints_len f) ?hyl (ints_pairwise f) (back_nodup hs2 hg2 hi) _ _ _ _ _ _ _ _ _ _ _ _ _ _ _ _ _ _ _ _ _ B1 F9 X1 N9 T1 X1 T1 rfl ?hdp ?hun ?_)
      case hdp => decide
      case hun => decide
      case hyl => rw [List.length_map]; exact bits_len g
      rintro r nw h9 tk9 F10 N10 ⟨rfl, t10, rfl⟩
      dsimp only [qk]
      refine ⟨_, _, _, rfl, F10, fun q hq => N10 q (.tail _ hq), off, rfl, ?_⟩
      rw [often_succ]
      refine hJ.append ?_
      have e := back_count hs2 hf2 hg2 hi
      rw [← e]
      exact .cons _ _ .nil
  rintro ys nw D h8 tk8 ⟨rfl, hOf⟩ F8 N8 oD
  clear F4 N4
  have hyl : ys.length = n := by rw [hOf.length, oftenL, List.length_map, List.length_range]
  have hq5 := tab_off htb N8 (fun q hq => by simp [hq]) (.tail _ (.tail _ (.tail _ (.tail _ (.head _))))) (by with_reducible assumption) (by omega)
  replace oD := off1_of oD
  simp only [LCg.Off1] at oD
  ktn_open
  k_dflt (refine LCt.ListComp_T (F₀ := by k_asm) (by with_unfolding_all rfl) (by decide) (by rfl) (by decide) (by rfl) ?_)
  ktn_open
  rename Fr _ _ _ _ => F9
  rename News _ _ _ _ => N9
  refine LCt.CompSrcT.range (caller_handled _) F9 N9 (by with_reducible assumption) r1 r2 r5 ?_
  intro g9
  refine comp_indT (fun i zs nw => nw = _ ∧ IntsAre zs (((List.range i).filter fun c => decide (0 < rep f g n c)).map fun (c : Nat) => (c : Int))) ⟨rfl, .nil⟩ ?_ ?_
  · intro i v zs nw I oI C oC D' m₂ h tk E' hi hv hJ9 hC hx F10 N10 off ne
    obtain ⟨rfl, hJ9⟩ := hJ9
    obtain ⟨t10, rfl⟩ := hv
    rw [Int.zero_add] at hx
    clear F9 N9
    ktn_open
    rename Fr _ _ _ _ => F11
    rename News _ _ _ _ => N11
    refine item_anyK (News.isList N11 (.tail _ (.tail _ (.tail _ (.head _))))) hOf (by omega) (by rw [often_len]; omega) (by omega) (fun t => ?_) (by with_unfolding_all rfl)
    rw [often_at hi]
    ktn_open
    · rename Fr _ _ _ _ => F12
      rename News _ _ _ _ => N12
      refine ⟨_, _, _, rfl, F12, N12, off, trivial, rfl, ?_⟩
      rw [filt_on (by simp; omega)]
      exact hJ9.append (.cons _ _ .nil)
    · rename Fr _ _ _ _ => F12
      rename News _ _ _ _ => N12
      refine ⟨_, _, _, rfl, F12, N12, off, trivial, rfl, ?_⟩
      rw [filt_off (by simp; omega)]
      exact hJ9
  rintro zs nw ⟨rfl, hJ9⟩
  rw [sums_are hs2 hf2 hg2, hS] at hJ9
  intro D2 h9 tk9 F10 N10 off
  dsimp only
  clear F9 N9
  refine ke_ne_ints (News.isList N10 (.tail _ (.tail _ (.head _)))) (News.isList N10 (.head _)) I3 hJ9 (Nat.le_of_ble_eq_true rfl) ?_
  rw [decide_eq_true rfl]
  replace N10 : News _ _ _ _ := fun q hq => N10 q (.tail _ hq)
  clear hJ9 off
  try dsimp only
  ktn_open
  k_dflt (refine LCt.Assign_ListComp_T (F₀ := by k_asm) (by rfl) (by with_unfolding_all rfl) (by with_unfolding_all rfl) (by decide) (by rfl) (by decide) (by rfl) (by rfl) (by rfl) ?_)
  ktn_open
  rename Fr _ _ _ _ => F9
  rename News _ _ _ _ => N9
  refine LCt.CompSrcT.range (caller_handled _) F9 N9 (by with_reducible assumption) r3 r4 r5 ?_
  intro g9
  refine comp_indT (fun i zs nw => nw = _ ∧ IntsAre zs ((((List.range i).map (· + 1)).filter fun t => decide (n % t = 0)).map fun (c : Nat) => (c : Int))) ⟨rfl, .nil⟩ ?_ ?_
  · intro i v zs nw I oI C oC D' m₂ h tk E' hi hv hJ9 hC hx F10 N10 off ne
    obtain ⟨rfl, hJ9⟩ := hJ9
    obtain ⟨t10, rfl⟩ := hv
    rw [show (1 : Int) + (i : Int) = ((i + 1 : Nat) : Int) by omega] at hx
    have hi0 : ((i + 1 : Nat) : Int) ≠ 0 := by omega
    have hm := fmod_nat n (i + 1)
    clear F9 N9
    ktn_open
    · rename Fr _ _ _ _ => F12
      rename News _ _ _ _ => N12
      refine ⟨_, _, _, rfl, F12, N12, off, trivial, rfl, ?_⟩
      rw [tilt_on (by simp; omega)]
      exact hJ9.append (.cons _ _ .nil)
    · rename Fr _ _ _ _ => F12
      rename News _ _ _ _ => N12
      refine ⟨_, _, _, rfl, F12, N12, off, trivial, rfl, ?_⟩
      rw [tilt_off (by simp; omega)]
      exact hJ9
  rintro zs nw ⟨rfl, hJ9⟩
  rw [divs_are hs1 hs2] at hJ9
  intro D2 h9 tk9 F10 N10 off
  dsimp only
  clear F9 N9
  have hSl : vs3.length ≤ 12 := by rw [I3.length, List.length_map]; exact bits_len S
  have hdl : (divs n).length = zs.length := by rw [hJ9.length, List.length_map]
  have hzl : zs.length ≤ 12 := by rw [← hdl, ← divs_are hs1 hs2]; exact Nat.le_trans (List.length_filter_le _ _) (by simpa using hs2)
  clear off
  ktn_open
  k_dflt (refine Assign_ListComp_C (F₀ := by k_asm) (by rfl) (by with_unfolding_all rfl) (by with_unfolding_all rfl) (by intro k; rfl) (by intro h; rfl) (by rfl) (by decide) (by rfl) (by rfl) (by rfl) ?_)
  ktn_open
  rename Fr _ _ _ _ => F9
  rename News _ _ _ _ => N9
  refine ⟨_, zs.toArray, zs.length, _, fun i ys2 nw => nw = _ ∧ ys2.length ≤ i ∧ IntsAre ys2 ((((divs n).take i).filter (per S n)).map fun (c : Nat) => (c : Int)), rfl, caller_handled _, F9, N9, ?_, ?_, ⟨rfl, Nat.le_refl _, .nil⟩, ?_, ?_⟩
  · rintro i ys2 nw ⟨rfl, hl, _⟩
    exact ⟨.head _, hl⟩
  · rw [sizeLine_eq, List.size_toArray]; omega
  · intro g9 i v ys2 nw I oI C oC K oK D3 h tk E' hi hv hJ oK0 F10 N10 off ne
    obtain ⟨rfl, hl2, hJ⟩ := hJ
    obtain ⟨x, tx, hx9, rfl⟩ := item_at hJ9 hv
    obtain ⟨hx1, hx2, hx3⟩ := divs_mem.mp (List.mem_of_getElem? hx9)
    clear F9 N9
    refine wpAny_tests_one ?_
    ktn_open
    k_dflt (refine LCg.ListComp_U (F₀ := by k_asm) (by with_unfolding_all rfl) (by decide) (by rfl) (by decide) (by rfl) ?_)
    ktn_open
    rename Fr _ _ _ _ => F6
    rename News _ _ _ _ => N6
    refine LCg.CompSrc.ledger (caller_handled _) F6 N6 (.tail _ (.tail _ (.tail _ (.tail _ (.tail _ (.tail _ (.head _))))))) (by rw [sizeLine_eq, List.size_toArray]; omega) ?_
    intro g6
    refine comp_ind (fun j us nw => nw = _ ∧ IntsAre us (((bitsTo S 12).take j).map fun (c : Nat) => ((c : Int) + (x : Int)).fmod (n : Int))) ⟨rfl, .nil⟩ ?_ ?_
    · intro j v us nw I' oI' C' oC' D' m₂ h8 tk8 E8 hj hv hJ8 hC hx F8 N8 off8 ne8
      obtain ⟨rfl, hJ8⟩ := hJ8
      clear F6 N6
      obtain ⟨y, ty, hy8, rfl⟩ := item_at I3 hv
      ktn_open
      rename Fr _ _ _ _ => F9
      rename News _ _ _ _ => N9
      refine ⟨_, _, _, rfl, F9, N9, off8, .inr ⟨_, .tail _ (.tail _ (.tail _ (.tail _ (.tail _ (.tail _ (.head _)))))), rfl, _, rfl⟩, rfl, ?_⟩
      rw [take_map hy8]
      exact hJ8.append (.cons _ _ .nil)
    · rintro us nw ⟨rfl, hJ8⟩
      intro D4 h8 tk8 F8 N8 off8
      dsimp only
      have hJ9' := ints_all hJ8 (by rw [List.size_toArray, I3.length, List.length_map]; exact Nat.le_refl _)
      clear hJ8 F6 N6
      have hoff := off1_mem off8
      clear off8
      ktn_open
      rename Fr _ _ _ _ => F9
      rename News _ _ _ _ => N9
      k_dflt (refine' met (.tail _ (.tail _ (.tail _ (.tail _ (.tail _ (.tail _ (.tail _ (.head _)))))))) (.head _) I3 hJ9' (ints_len S) ?hyl (ints_pairwise S) (forth_nodup hs2 hs4 hx2) _ _ _ _ _ _ _ _ _ _ _ _ _ _ _ _ _ _ _ _ _ B1 F9 X1 N9 T1 X1 T1 rfl ?hdp ?hun ?_)
      case hdp => decide
      case hun => decide
      case hyl => rw [List.length_map]; exact bits_len S
      rintro r nw h9 tk9 F10 N10 ⟨rfl, t10, rfl⟩
      clear F9 N9
      have hfc := forth_count hs2 hs4 hx2
      try dsimp only
      ktn_open
      rename Fr _ _ _ _ => F11
      rename News _ _ _ _ => N11
      refine KM.len_K (n := (toI (bitsTo S 12)).length) N11 (.tail _ (.tail _ (.tail _ (.tail _ (.tail _ (.tail _ (.tail _ (.head _)))))))) (by rw [List.size_toArray]; exact I3.length) (Nat.lt_of_le_of_lt (ints_len S) (by decide)) ?_
      ktn_open
      · rename Fr _ _ _ _ => F12
        rename News _ _ _ _ => N12
        have hp : per S n x = true := hfc.mp (by assumption)
        refine ⟨_, _, _, rfl, F12, fun q hq => N12 q (.tail _ hq), off, rfl, by rw [List.length_append]; exact Nat.succ_le_succ hl2, ?_⟩
        rw [tfilt_on hx9 hp]
        exact hJ.append (.cons _ _ .nil)
      · rename Fr _ _ _ _ => F12
        rename News _ _ _ _ => N12
        have hp : per S n x = false := Bool.eq_false_iff.mpr fun e => absurd (hfc.mpr e) (by assumption)
        refine ⟨_, _, _, rfl, F12, fun q hq => N12 q (.tail _ hq), off, rfl, Nat.le_succ_of_le hl2, ?_⟩
        rw [tfilt_off hx9 hp]
        exact hJ
  rintro ys2 nw D3 h9 tk9 ⟨rfl, hl2, hJ⟩ F10 N10 oD3
  rw [List.take_of_length_le (by rw [List.size_toArray]; omega)] at hJ
  clear F9 N9 oD3
  obtain ⟨d, dr, hdr⟩ : ∃ d dr, (divs n).filter (per S n) = d :: dr := by
    cases e : (divs n).filter (per S n) with
    | nil => exact absurd e (moves_ne hs1)
    | cons d dr => exact ⟨d, dr, rfl⟩
  have hdm : d ∈ divs n := (List.mem_filter.mp (hdr ▸ List.mem_cons_self : d ∈ (divs n).filter (per S n))).1
  obtain ⟨hd1, hd2, hd3⟩ := divs_mem.mp hdm
  have hpl := (plain hs1 hs2 hf2 hg2 hf1 hg1)
  rw [hS] at hpl
  have hpd := hpl.2 d dr hdr
  rw [hdr] at hJ
  clear hl2 hJ9
  replace N10 := news_keep1 [_] N10
  try dsimp only
  ktn_open
  rename Fr _ _ _ _ => F11
  rename News _ _ _ _ => N11
  refine item_anyK (News.isList N11 (.head _)) hJ (Int.le_refl 0) (by simp) (by decide) (fun t => ?_) (by with_unfolding_all rfl)
  rw [show (List.map (fun (c : Nat) => (c : Int)) (d :: dr)).getD (Int.toNat 0) 0 = (d : Int) from rfl]
  have hd0 : ((d : Nat) : Int) ≠ 0 := by omega
  obtain ⟨q1, q2⟩ := turn_facts hs2 hd1 hd2 hd3
  ktn_open
  rename Fr _ _ _ _ => F12
  rename News _ _ _ _ => N12
  refine list_turns (caller_handled _) F12 N12 (by with_reducible assumption) q1 q2 hs2 ?_
  intro Dt us nt h11 tk11 F13 N13 _ IT
  replace N13 := news_keep1 [_] N13
  have hul : us.length = n / d := by rw [IT.length, List.length_map, turns_len]
  have hnd : n / d ≤ 12 := Nat.le_trans (Nat.div_le_self n d) hs2
  have htl : (turnsOf n d).length ≤ 12 := by rw [turns_len]; exact hnd
  have htlt : ∀ p ∈ turnsOf n d, p < 12 := fun p hp => Nat.lt_of_lt_of_le (turns_lt hd1 p hp) hs2
  have hw1 : laid f (turnsOf n d) n < 2 ^ n := laid_lt hf2 (turns_lt hd1)
  have hw2 : laid g (turnsOf n d) n < 2 ^ n := laid_lt hg2 (turns_lt hd1)
  have hw3 : 1 ≤ laid f (turnsOf n d) n := laid_pos hf1 hf2 (turns_lt hd1) (turns_zero hs1 hd1 hd2)
  have hw4 : 1 ≤ laid g (turnsOf n d) n := laid_pos hg1 hg2 (turns_lt hd1) (turns_zero hs1 hd1 hd2)
  generalize hU : laid f (turnsOf n d) n = U at hw1 hw3 hpd
  generalize hV : laid g (turnsOf n d) n = V at hw2 hw4 hpd
  clear F12 N12
  try dsimp only
  ktn_open
  rename Fr _ _ _ _ => F14
  rename News _ _ _ _ => N14
  replace N14 := news_front [_, _, _, _, _, _, _, _, _, _] N14
  k_dflt (refine' tell_use (laidT htb (ne52 htb N14 ?hnw) (List.mem_append_right _ (.head _)) IT htl htlt (by omega) hs1 hs2) B1 F14 X1 N14 T1 hC1 rfl ?hdp ?hun ?_)
  case hdp => decide
  case hun => decide
  case hnw => exact List.forall_mem_cons.mpr ⟨.inl ⟨_, _, rfl⟩, List.forall_mem_cons.mpr ⟨.inl ⟨_, _, rfl⟩, List.forall_mem_cons.mpr ⟨.inl ⟨_, _, rfl⟩, List.forall_mem_cons.mpr ⟨.inl ⟨_, _, rfl⟩, List.forall_mem_cons.mpr ⟨.inl ⟨_, _, rfl⟩, List.forall_mem_cons.mpr ⟨.inr ⟨_, by with_reducible assumption⟩, List.forall_mem_cons.mpr ⟨.inr ⟨_, by with_reducible assumption⟩, List.forall_mem_cons.mpr ⟨.inr ⟨_, by with_reducible assumption⟩, List.forall_mem_cons.mpr ⟨.inr ⟨_, by with_reducible assumption⟩, List.forall_mem_cons.mpr ⟨.inr ⟨_, by with_reducible assumption⟩, fun _ h => nomatch h⟩⟩⟩⟩⟩⟩⟩⟩⟩⟩
  rw [hU]
  rintro r nw h12 tk12 F15 N15 ⟨tb2, t15, htb2, rfl, rfl⟩
  clear F14 N14
  replace N15 := news_tail N15
  simp only [List.cons_append, List.nil_append] at N15
  try dsimp only
  ktn_open
  rename Fr _ _ _ _ => F16
  rename News _ _ _ _ => N16
  k_dflt (refine' tell_use places B1 F16 X1 N16 T1 ⟨hw3, by omega⟩ rfl ?hdp ?hun ?_)
  case hdp => decide
  case hun => decide
  rintro r nw h13 tk13 F17 N17 ⟨l4, vs4, n4, rfl, rfl, _, I4⟩
  clear F16 N16
  try dsimp only
  ktn_open
  rename Fr _ _ _ _ => F18
  rename News _ _ _ _ => N18
  replace N18 := news_front [_, _, _, _, _, _, _, _, _, _, _] N18
  k_dflt (refine' tell_use (laidT htb2 (ne52 htb2 N18 ?hnw) (List.mem_append_right _ (.tail _ (.head _))) IT htl htlt (by omega) hs1 hs2) B1 F18 X1 N18 T1 hC1 rfl ?hdp ?hun ?_)
  case hdp => decide
  case hun => decide
  case hnw => exact List.forall_mem_cons.mpr ⟨.inl ⟨_, _, rfl⟩, List.forall_mem_cons.mpr ⟨.inl ⟨_, _, rfl⟩, List.forall_mem_cons.mpr ⟨.inl ⟨_, _, rfl⟩, List.forall_mem_cons.mpr ⟨.inl ⟨_, _, rfl⟩, List.forall_mem_cons.mpr ⟨.inl ⟨_, _, rfl⟩, List.forall_mem_cons.mpr ⟨.inl ⟨_, _, rfl⟩, List.forall_mem_cons.mpr ⟨.inr ⟨_, by with_reducible assumption⟩, List.forall_mem_cons.mpr ⟨.inr ⟨_, by with_reducible assumption⟩, List.forall_mem_cons.mpr ⟨.inr ⟨_, by with_reducible assumption⟩, List.forall_mem_cons.mpr ⟨.inr ⟨_, by with_reducible assumption⟩, List.forall_mem_cons.mpr ⟨.inr ⟨_, by with_reducible assumption⟩, fun _ h => nomatch h⟩⟩⟩⟩⟩⟩⟩⟩⟩⟩⟩
  rw [hV]
  rintro r nw h14 tk14 F19 N19 ⟨tb3, t19, htb3, rfl, rfl⟩
  clear F18 N18
  replace N19 := news_tail N19
  simp only [List.cons_append, List.nil_append] at N19
  try dsimp only
  ktn_open
  rename Fr _ _ _ _ => F20
  rename News _ _ _ _ => N20
  k_dflt (refine' tell_use places B1 F20 X1 N20 T1 ⟨hw4, by omega⟩ rfl ?hdp ?hun ?_)
  case hdp => decide
  case hun => decide
  rintro r nw h15 tk15 F21 N21 ⟨l5, vs5, n5, rfl, rfl, _, I5⟩
  clear F20 N20
  try dsimp only
  ktn_open
  rename Fr _ _ _ _ => F22
  rename News _ _ _ _ => N22
  refine kmk_add_ints F22 N22 (News.isList N22 (.tail _ (.head _))) (News.isList N22 (.head _)) I4 I5 ?_ (by rw [sizeLine_eq, List.length_map, List.length_map]; have := bits_len U; have := bits_len V; omega)
  intro Dw ws h16 F23 N23 _ IW
  clear F22 N22
  try dsimp only
  ktn_open
  have e1 : vs1.toArray.size = (bitsTo f 12).length := by rw [List.size_toArray, I1.length, List.length_map]
  have e2 : vs2.toArray.size = (bitsTo g 12).length := by rw [List.size_toArray, I2.length, List.length_map]
  have e3 : vs3.toArray.size = (bitsTo S 12).length := by rw [List.size_toArray, I3.length, List.length_map]
  have e4 : ws.toArray.size = (bitsTo U 12).length + (bitsTo V 12).length := by rw [List.size_toArray, IW.length, List.length_append, List.length_map, List.length_map]
  have e5 : us.toArray.size = n / d := by rw [List.size_toArray, hul]
  have b1 := bits_len f
  have b2 := bits_len g
  have b3 := bits_len S
  have b4 := bits_len U
  have b5 := bits_len V
  obtain ⟨hpa, hpb⟩ := hpd
  have hpc := hpl.1
  generalize hla : (bitsTo f 12).length = la at e1 b1 hpb hpc
  generalize hlb : (bitsTo g 12).length = lb at e2 b2 hpb hpc
  generalize hlc : (bitsTo S 12).length = lc at e3 b3 hpa hpb hpc
  generalize hlw : (bitsTo U 12).length + (bitsTo V 12).length = lw at e4 hpa hpb
  generalize hlt : n / d = lt' at e5 hnd hpa hpb
  rename Fr _ _ _ _ => F24
  rename News _ _ _ _ => N24
  refine KM.len_K (n := la) N24 (.tail _ (.tail _ (.tail _ (.tail _ (.tail _ (.tail _ (.tail _ (.head _)))))))) e1 (by omega) ?_
  ktn_open
  refine KM.len_K (n := lb) N24 (.tail _ (.tail _ (.tail _ (.tail _ (.tail _ (.tail _ (.head _))))))) e2 (by omega) ?_
  ktn_open
  refine KM.len_K (n := lc) N24 (.tail _ (.tail _ (.tail _ (.tail _ (.tail _ (.head _)))))) e3 (by omega) ?_
  ktn_open
  rename Fr _ _ _ _ => F25
  rename News _ _ _ _ => N25
  refine KM.len_K (n := lc) N25 (.tail _ (.tail _ (.tail _ (.tail _ (.tail _ (.head _)))))) e3 (by omega) ?_
  ktn_open
  refine KM.len_K (n := lw) N25 (.head _) e4 (by omega) ?_
  ktn_open
  refine KM.len_K (n := lt') N25 (.tail _ (.tail _ (.tail _ (.head _)))) e5 (by omega) ?_
  ktn_open
  focus
    refine KM.len_K (n := lc) N25 (.tail _ (.tail _ (.tail _ (.tail _ (.tail _ (.head _)))))) e3 (by omega) ?_
    ktn_open
    refine KM.len_K (n := lw) N25 (.head _) e4 (by omega) ?_
    ktn_open
    refine KM.len_K (n := lt') N25 (.tail _ (.tail _ (.tail _ (.head _)))) e5 (by omega) ?_
    ktn_open
    · exfalso
      have := hpb (by omega)
      omega
  all_goals
    k_dflt (refine LCg.ListComp_U (F₀ := by k_asm) (by with_unfolding_all rfl) (by decide) (by rfl) (by decide) (by rfl) ?_)
    ktn_open
    rename Fr _ _ _ _ => F26
    rename News _ _ _ _ => N26
    refine LCg.CompSrc.ledger (caller_handled _) F26 N26 (.tail _ (.tail _ (.tail _ (.tail _ (.tail _ (.head _)))))) (by rw [sizeLine_eq, List.size_toArray]; omega) ?_
    intro g26
    refine comp_ind (fun j zs nw => nw = _ ∧ IntsAre zs (((bitsTo S 12).take j).map fun (c : Nat) => ((rep f g n c : Nat) : Int))) ⟨rfl, .nil⟩ ?_ ?_
    · intro j v us nw I' oI' C' oC' D' m₂ h8 tk8 E8 hj hv hJ8 hC hx F8 N8 off8 ne8
      obtain ⟨rfl, hJ8⟩ := hJ8
      clear F26 N26
      obtain ⟨y, ty, hy8, rfl⟩ := item_at I3 hv
      have hyn : y < n := ((bitsTo_mem hs4 hs2).mp (List.mem_of_getElem? hy8)).1
      ktn_open
      rename Fr _ _ _ _ => F27
      rename News _ _ _ _ => N27
      refine item_anyK (News.isList N27 (.tail _ (.tail _ (.tail _ (.tail _ (.tail _ (.tail _ (.tail _ (.head _))))))))) hOf (by omega) (by rw [often_len]; omega) (by omega) (fun t => ?_) (by with_unfolding_all rfl)
      rw [often_at hyn]
      try dsimp only
      ktn_open
      refine ⟨_, _, _, rfl, F27, N27, off8, .inr ⟨_, .tail _ (.tail _ (.tail _ (.tail _ (.tail _ (.head _))))), rfl, _, rfl⟩, rfl, ?_⟩
      rw [take_map hy8]
      exact hJ8.append (.cons _ _ .nil)
    · rintro zs nw ⟨rfl, hJ8⟩
      intro D4 h8 tk8 F8 N8 off8
      dsimp only
      have hJ9 := ints_all hJ8 (by rw [List.size_toArray, I3.length, List.length_map]; exact Nat.le_refl _)
      clear F26 N26
      ktn_open
      rename Fr _ _ _ _ => F27
      rename News _ _ _ _ => N27
      refine kso_min F27 N27 (News.isList N27 (.head _)) hJ9 (by rw [List.length_map]; exact bits_pos hs3 (by omega)) (caller_handled _) ?_
      intro h9 M tM tk9 F28 N28 hM _
      obtain ⟨y, hy, rfl⟩ := List.mem_map.mp hM
      obtain ⟨hy1, hy2⟩ := (bitsTo_mem hs4 hs2).mp hy
      have hfin := hpc y hy1 hy2
      try dsimp only
      ktn_open
      rename Fr _ _ _ _ => F29
      rename News _ _ _ _ => N29
      rw [decide_eq_true (by omega)]
      obtain ⟨ps, hps⟩ := tab_has htb3
      refine hQ _ _ ⟨_, _, _, _, ps, rfl, rfl, F29, N29, ?_⟩
      repeat (first | exact hps | refine .tail _ ?_)
end Mine
end
open PySem PySem.W PyProof.Rows
theorem PySem.Challenge.cw_oy0035_01_holds : PySem.Challenge.rw_oy0035_01.Holds := by
  exact Mine.law_holds
