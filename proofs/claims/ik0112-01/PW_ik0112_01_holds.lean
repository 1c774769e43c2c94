import PyProof.Rows.All
import Wide.All
import OpenK.AllK
import Wide.FinOn
import Lean
import PySem.Challenge.RW_ik0112_01
open PySem PySem.W PyProof.Rows PySem.Calls
set_option Elab.async false
set_option maxRecDepth 100000
set_option linter.unusedVariables false
set_option rowWalk.seconds 0
namespace Mine
set_option maxRecDepth 100000 in
set_option maxHeartbeats 8000000 in
open_top hd for PySem.Challenge.rw_ik0112_01
end Mine
namespace Mine
theorem know {h₀ : Heap} {L : Addr} {h : Heap} {m : Str → Option Value} {x : Str} {v : Value} (F : Fr h₀ L h m) (hm : m x = some v) :
    Fr h₀ L h (fun y => if y = x then some v else m y) := by
  have : (fun y => if y = x then some v else m y) = m := by
    funext y
    by_cases e : y = x
    · rw [if_pos e, e, hm]
    · rw [if_neg e]
  rw [this]; exact F
def TurnEnd (h₀ : Heap) (L I : Addr) (it : Obj) (J : (Str → Option Value) → List (Addr × Obj) → Prop) (s₁ s₂ : Shared) : Prop :=
  ∃ h' tk m' nx, s₂ = { s₁ with heap := h', toks := tk } ∧ Fr h₀ L h' m' ∧ News h₀ L h' ((I, it) :: nx) ∧ (∀ p ∈ nx, p.1 ≠ I) ∧ J m' nx
def TurnPost (h₀ : Heap) (L I : Addr) (it : Obj) (J : (Str → Option Value) → List (Addr × Obj) → Prop) (s₁ : Shared) (Q : Flow → Shared → Prop) (f : Flow) (s₂ : Shared) : Prop :=
  match f with
  | .ret v => Q (.ret v) s₂
  | .brk => Q .next s₂
  | _ => TurnEnd h₀ L I it J s₁ s₂
theorem TurnEnd.intro {h₀ : Heap} {L I : Addr} {it : Obj} {J : (Str → Option Value) → List (Addr × Obj) → Prop} {s₁ : Shared} {h' : Heap} {tk : Nat} {m' : Str → Option Value} {all : List (Addr × Obj)}
    (F : Fr h₀ L h' m') (N : News h₀ L h' all) (nx : List (Addr × Obj)) (sub : ∀ p ∈ (I, it) :: nx, p ∈ all) (off : ∀ p ∈ nx, p.1 ≠ I) (hj : J m' nx) :
    TurnEnd h₀ L I it J s₁ { s₁ with heap := h', toks := tk } := ⟨h', tk, m', nx, rfl, F, fun p hp => N p (sub p hp), off, hj⟩
section
variable {prog : Program} {w : World} {A : Around} {E : Value → Shared → Prop} {s : Shared} {env : Env} {h₀ : Heap} {x : Str} {body : List Stmt} {Q : Flow → Shared → Prop}
theorem loop_src {I : Addr} {src : List (Addr × Obj)} {n : Nat} {P : Nat → Value → Prop} {St : Nat → Heap → Prop} {m : Str → Option Value} {news : List (Addr × Obj)}
    (W : Walks prog w A I (I :: src.map (·.1)) [I] n P St) (hlive : ∀ i h, St i h → ∃ o, h.get? I = some o)
    (hI : h₀.get? I = none) (hLI : I ≠ env.locals) (hoff : ∀ p ∈ news, p.1 ≠ I) (hst : St 0 s.heap)
    (F : Fr h₀ env.locals s.heap m) (N : News h₀ env.locals s.heap news)
    (J : Nat → (Str → Option Value) → List (Addr × Obj) → Prop) (hj : J 0 m news) (hJs : ∀ i m nx, J i m nx → ∀ p ∈ src, p ∈ nx)
    (turn : ∀ i v m₁ nx it h tk, i < n → P i v → J i m₁ nx → (∀ p ∈ nx, p.1 ≠ I) → Fr h₀ env.locals h (fun y => if y = x then some v else m₁ y) → News h₀ env.locals h ((I, it) :: nx) →
      wpAny (model prog w) A (execs body env) (TurnPost h₀ env.locals I it (J (i + 1)) { s with heap := h, toks := tk } Q) E { s with heap := h, toks := tk })
    (done : ∀ m₁ nx h tk, J n m₁ nx → Fr h₀ env.locals h m₁ → News h₀ env.locals h nx → Q .next { s with heap := h, toks := tk }) :
    LoopAtV prog w A h₀ env x body Q E (.ref I) s := by
  have hsrc := hJs 0 m news hj
  refine ⟨I, _, _, n, P, St, m, news, J, rfl, W, ?_, ?_, ?_, hst, F, N, hj, ?_, ?_⟩
  · intro hm
    rcases List.mem_cons.mp hm with e | hm
    · exact hLI e.symm
    · obtain ⟨p, hp, e⟩ := List.mem_map.mp hm
      exact (N p (hsrc p hp)).2.1 e
  · intro b hb; rw [List.mem_singleton.mp hb]; exact hI
  · intro p hp hq; exact hoff p hp (List.mem_singleton.mp hq)
  · rintro i v m₁ news₁ s₁ own ⟨hh', tk', rfl⟩ hin hP hJ hoff₁ hown hget hfp hst₁ F₁ N₁
    obtain ⟨it, hit⟩ := hlive _ _ hst₁
    have hIown : (I, it) ∈ own := hfp I (List.mem_cons_self ..) hI it hit
    have hoff₂ : ∀ p ∈ news₁, p.1 ≠ I := fun p hp e => hoff₁ p hp (List.mem_singleton.mpr e)
    have N₂ : News h₀ env.locals hh' ((I, it) :: news₁) := fun p hp => by
      rcases List.mem_cons.mp hp with rfl | hp
      · exact N₁ _ (List.mem_append_left _ hIown)
      · exact N₁ _ (List.mem_append_right _ hp)
    refine wpAny_mono (turn i v m₁ news₁ it hh' tk' hin hP hJ hoff₂ F₁ N₂) (fun f s₂ p => ?_) fun _ _ e => e
    have fin : TurnEnd h₀ env.locals I it (J (i + 1)) { s with heap := hh', toks := tk' } s₂ → LoopStepU h₀ env.locals [I] own (J (i + 1)) { s with heap := hh', toks := tk' } .next s₂ := by
      rintro ⟨h', tk, m', nx, e, F', N', ho, r⟩
      refine ⟨rfl, h', tk, m', nx, e, F', fun p hp => ?_, fun p hp hq => ho p hp (List.mem_singleton.mp hq), r⟩
      rcases List.mem_append.mp hp with hp | hp
      · rcases List.mem_cons.mp (hown p hp) with e1 | hm
        · have h2 := hget p hp
          rw [e1] at h2
          have h3 : p.2 = it := Option.some.inj ((h2.symm.trans hit))
          have : p = (I, it) := Prod.ext e1 h3
          rw [this]; exact N' _ (List.mem_cons_self ..)
        · obtain ⟨q, hq, e1⟩ := List.mem_map.mp hm
          have h2 := hget p hp
          have h4 := (N₂ q (List.mem_cons_of_mem _ (hJs _ _ _ hJ q hq))).1
          rw [e1] at h4
          have h3 : p.2 = q.2 := Option.some.inj (h2.symm.trans h4)
          have : p = q := Prod.ext e1.symm h3
          rw [this]; exact N' _ (List.mem_cons_of_mem _ (hJs _ _ _ r q hq))
      · exact N' _ (List.mem_cons_of_mem _ hp)
    cases f with
    | ret v => exact .ret p
    | brk => exact .brk p
    | next => exact .next (fin p)
    | cont => exact .cont (fin p)
  · intro h' tk m' news' F' N' _ hJ
    exact done m' news' h' tk hJ F' N'
def Src (prog : Program) (w : World) (A : Around) (h₀ : Heap) (L : Addr) (s : Shared) (m : Str → Option Value) (news : List (Addr × Obj)) (I : Addr) (src : List (Addr × Obj)) (n : Nat) (P : Nat → Value → Prop) : Prop :=
  ∃ St : Nat → Heap → Prop, Walks prog w A I (I :: src.map (·.1)) [I] n P St ∧ (∀ i h, St i h → ∃ o, h.get? I = some o) ∧ h₀.get? I = none ∧ I ≠ L ∧ (∀ p ∈ news, p.1 ≠ I) ∧ St 0 s.heap ∧ Fr h₀ L s.heap m ∧ News h₀ L s.heap news
theorem iter_list {l : Addr} {o : Obj} {vs : List Value} {nn : Nat} {m : Str → Option Value} {news : List (Addr × Obj)} {Q' : Value → Shared → Prop}
    (hh : A.handled = none) (hl : (l, o) ∈ news) (hc : o.cls = .type "list") (hd : o.data = .seq vs.toArray nn)
    (F : Fr h₀ env.locals s.heap m) (N : News h₀ env.locals s.heap news)
    (h : ∀ I h', Src prog w A h₀ env.locals { s with heap := h' } m news I [(l, o)] vs.length (fun i v => vs[i]? = some v) → Q' (.ref I) { s with heap := h' }) :
    wpAny (model prog w) A (pyIter (.ref l)) Q' E s := by
  have hol : s.heap.get? l = some o := (N _ hl).1
  have hls : s.heap.IsList l vs.toArray := ⟨_, hol, hc, nn, hd⟩
  have hne : l ≠ s.heap.objs.size := Nat.ne_of_lt (Heap.lt_size hol)
  refine wpAny_pyIter_list hls (h _ _ ?_)
  have W := Walks.list (prog := prog) (w := w) hh s.heap.objs.size l hne vs.toArray
  have hlen : vs.toArray.size = vs.length := by simp
  have hP : (fun (i : Nat) (v : Value) => vs.toArray[i]? = some v) = fun i v => vs[i]? = some v := by funext i v; simp
  rw [hlen, hP] at W
  exact ⟨_, W, fun _ _ st => by obtain ⟨⟨oI, h1, _⟩, _⟩ := st; exact ⟨oI, h1⟩, next_is_new F, fun e => absurd F.ns.lt (e ▸ Nat.lt_irrefl _), fun p hp e => absurd (Heap.lt_size (N p hp).1) (e ▸ Nat.lt_irrefl _),
    ⟨⟨_, Heap.get?_push_size _ rfl, rfl, rfl⟩, hls.at fun o e => Heap.get?_push_of_some _ e⟩, F.push _, fun p hp => ⟨Heap.get?_push_of_some _ (N p hp).1, (N p hp).2⟩⟩
theorem iter_tuple {l : Addr} {o : Obj} {vs : List Value} {nn : Nat} {m : Str → Option Value} {news : List (Addr × Obj)} {Q' : Value → Shared → Prop}
    (hh : A.handled = none) (hl : (l, o) ∈ news) (hc : o.cls = .type "tuple") (hd : o.data = .seq vs.toArray nn)
    (F : Fr h₀ env.locals s.heap m) (N : News h₀ env.locals s.heap news)
    (h : ∀ I h', Src prog w A h₀ env.locals { s with heap := h' } m news I [(l, o)] vs.length (fun i v => vs[i]? = some v) → Q' (.ref I) { s with heap := h' }) :
    wpAny (model prog w) A (pyIter (.ref l)) Q' E s := by
  have hol : s.heap.get? l = some o := (N _ hl).1
  have hls : s.heap.IsTuple l vs.toArray := ⟨_, hol, hc, nn, hd⟩
  have hne : l ≠ s.heap.objs.size := Nat.ne_of_lt (Heap.lt_size hol)
  refine wpAny_pyIter_tuple hls (h _ _ ?_)
  have W := Walks.tuple (prog := prog) (w := w) hh s.heap.objs.size l hne vs.toArray
  have hlen : vs.toArray.size = vs.length := by simp
  have hP : (fun (i : Nat) (v : Value) => vs.toArray[i]? = some v) = fun i v => vs[i]? = some v := by funext i v; simp
  rw [hlen, hP] at W
  exact ⟨_, W, fun _ _ st => by obtain ⟨⟨oI, h1, _⟩, _⟩ := st; exact ⟨oI, h1⟩, next_is_new F, fun e => absurd F.ns.lt (e ▸ Nat.lt_irrefl _), fun p hp e => absurd (Heap.lt_size (N p hp).1) (e ▸ Nat.lt_irrefl _),
    ⟨⟨_, Heap.get?_push_size _ rfl, rfl, rfl⟩, hls.at fun o e => Heap.get?_push_of_some _ e⟩, F.push _, fun p hp => ⟨Heap.get?_push_of_some _ (N p hp).1, (N p hp).2⟩⟩
theorem iter_range {r : Addr} {a₀ b₀ : Int} {t₀ u₀ v₀ : Tok} {n : Nat} {m : Str → Option Value} {news : List (Addr × Obj)} {Q' : Value → Shared → Prop}
    (hh : A.handled = none) (hr : IsRange s.heap r a₀ b₀ 1 t₀ u₀ v₀) (hsmall : Builtin.Range.small a₀ b₀ 1 = true) (hsz : Builtin.Range.rangeSize a₀ b₀ 1 = (n : Int))
    (F : Fr h₀ env.locals s.heap m) (N : News h₀ env.locals s.heap news)
    (h : ∀ I h', Src prog w A h₀ env.locals { s with heap := h' } m news I [] n (fun i v => ∃ t, v = .int (a₀ + (i : Int)) t) → Q' (.ref I) { s with heap := h' }) :
    wpAny (model prog w) A (pyIter (.ref r)) Q' E s := by
  refine wpAny_pyIter_range hr hsmall (h _ _ ?_)
  have W : Walks prog w A s.heap.objs.size [s.heap.objs.size] [s.heap.objs.size] n (fun i v => ∃ t, v = .int (a₀ + i * 1) t)
      (fun i h => IsRangeIter h s.heap.objs.size (a₀ + (i : Nat) * 1) ((n : Int) - (i : Nat)) 1) := Walks.range hh _ a₀ 1 n
  have hP : (fun (i : Nat) (v : Value) => ∃ t, v = .int (a₀ + (i : Int) * 1) t) = fun i v => ∃ t, v = .int (a₀ + (i : Int)) t := by
    funext i v; rw [Int.mul_one]
  rw [hP] at W
  exact ⟨_, W, fun _ _ st => ⟨_, st⟩, next_is_new F, fun e => absurd F.ns.lt (e ▸ Nat.lt_irrefl _), fun p hp e => absurd (Heap.lt_size (N p hp).1) (e ▸ Nat.lt_irrefl _),
    by show IsRangeIter _ _ _ _ _; rw [hsz]; simpa using Heap.get?_push_size _ rfl, F.push _, fun p hp => ⟨Heap.get?_push_of_some _ (N p hp).1, (N p hp).2⟩⟩
def Hot0  (K : Nat → (Str → Option Value) → List (Addr × Obj) → Prop) (rest : List (Addr × Obj)) (i : Nat) (m' : Str → Option Value) (nx : List (Addr × Obj)) : Prop :=
  ∃ tl', nx = (tl' ++ rest) ∧ K  (i) m' tl'
theorem Hot0.intro {h₀ : Heap} {L I : Addr} {it : Obj} {s₁ : Shared} {h' : Heap} {tk : Nat} {m' : Str → Option Value} {all rest : List (Addr × Obj)} {i : Nat}
    {K : Nat → (Str → Option Value) → List (Addr × Obj) → Prop} (F : Fr h₀ L h' m') (N : News h₀ L h' all)  (tl : List (Addr × Obj))
    (sub : ∀ p ∈ (I, it) :: (tl ++ rest), p ∈ all) (off : ∀ p ∈ (tl ++ rest), p.1 ≠ I)  (hk : K  i m' tl) :
    TurnEnd h₀ L I it (Hot0  K rest i) s₁ { s₁ with heap := h', toks := tk } :=
  TurnEnd.intro F N _ sub off ⟨tl, rfl, hk⟩
theorem loop_hot0 {I : Addr} {src : List (Addr × Obj)} {n : Nat} {P : Nat → Value → Prop} {m : Str → Option Value} {rest : List (Addr × Obj)}
    (S : Src prog w A h₀ env.locals s m (rest) I src n P) (hsrc : ∀ p ∈ src, p ∈ rest)
    (K : Nat → (Str → Option Value) → List (Addr × Obj) → Prop) (hk : K  0 m [])
    (turn : ∀ i v m₁  tl it h tk, i < n → P i v → K  i m₁ tl → (∀ p ∈ tl ++ rest, p.1 ≠ I) → Fr h₀ env.locals h (fun y => if y = x then some v else m₁ y) → News h₀ env.locals h ((I, it) :: (tl ++ rest)) →
      wpAny (model prog w) A (execs body env) (TurnPost h₀ env.locals I it (Hot0  K rest (i + 1)) { s with heap := h, toks := tk } Q) E { s with heap := h, toks := tk })
    (done : ∀ m₁  tl h tk, K  n m₁ tl → Fr h₀ env.locals h m₁ → News h₀ env.locals h ((tl ++ rest)) → Q .next { s with heap := h, toks := tk }) :
    LoopAtV prog w A h₀ env x body Q E (.ref I) s := by
  obtain ⟨St, W, hlive, hI, hLI, hoff, hst, F, N⟩ := S
  refine loop_src W hlive hI hLI hoff hst F N (Hot0  K rest) ⟨[], rfl, hk⟩ ?_ ?_ ?_
  · rintro i m nx ⟨tl, rfl, _⟩ p hp
    exact List.mem_append_right _ (hsrc p hp)
  · rintro i v m₁ nx it h tk hi hP ⟨tl, rfl, hK⟩ hoff F₁ N₁
    exact turn i v m₁  tl it h tk hi hP hK   (fun p hp => hoff p (hp)) F₁ N₁
  · rintro m₁ nx h tk ⟨tl, rfl, hK⟩ F₁ N₁
    exact done m₁  tl h tk hK  F₁ N₁
def Hot1 (l1 : Addr) (K : Addr → Nat → (Str → Option Value) → List Value → List (Addr × Obj) → Prop) (rest : List (Addr × Obj)) (i : Nat) (m' : Str → Option Value) (nx : List (Addr × Obj)) : Prop :=
  ∃ w1' n1', ∃ tl', nx = (l1, W.listOf (w1').toArray n1') :: (tl' ++ rest) ∧ (∀ p ∈ tl' ++ rest, p.1 ≠ l1) ∧ K l1 (i) m' w1' tl'
theorem Hot1.intro {h₀ : Heap} {L I : Addr} {it : Obj} {s₁ : Shared} {h' : Heap} {tk : Nat} {m' : Str → Option Value} {all rest : List (Addr × Obj)} {i : Nat} {l1 : Addr}
    {K : Addr → Nat → (Str → Option Value) → List Value → List (Addr × Obj) → Prop} (F : Fr h₀ L h' m') (N : News h₀ L h' all) (w1 : List Value) (n1 : Nat) (tl : List (Addr × Obj))
    (sub : ∀ p ∈ (I, it) :: (l1, W.listOf (w1).toArray n1) :: (tl ++ rest), p ∈ all) (off : ∀ p ∈ (l1, W.listOf (w1).toArray n1) :: (tl ++ rest), p.1 ≠ I) (o1 : ∀ p ∈ tl ++ rest, p.1 ≠ l1) (hk : K l1 i m' w1 tl) :
    TurnEnd h₀ L I it (Hot1 l1 K rest i) s₁ { s₁ with heap := h', toks := tk } :=
  TurnEnd.intro F N _ sub off ⟨w1, n1, tl, rfl, o1, hk⟩
theorem loop_hot1 {I : Addr} {src : List (Addr × Obj)} {n : Nat} {P : Nat → Value → Prop} {m : Str → Option Value} {rest : List (Addr × Obj)} {l1 : Addr} {w1₀ : List Value} {n1₀ : Nat}
    (S : Src prog w A h₀ env.locals s m ((l1, W.listOf (w1₀).toArray n1₀) :: rest) I src n P) (hsrc : ∀ p ∈ src, p ∈ rest) (hne1 : ∀ p ∈ rest, p.1 ≠ l1)
    (K : Addr → Nat → (Str → Option Value) → List Value → List (Addr × Obj) → Prop) (hk : K l1 0 m w1₀ [])
    (turn : ∀ i v m₁ w1 n1 tl it h tk, i < n → P i v → K l1 i m₁ w1 tl → (∀ p ∈ tl ++ rest, p.1 ≠ l1) → @Ne Nat l1 I → (∀ p ∈ tl ++ rest, p.1 ≠ I) → Fr h₀ env.locals h (fun y => if y = x then some v else m₁ y) → News h₀ env.locals h ((I, it) :: (l1, W.listOf (w1).toArray n1) :: (tl ++ rest)) →
      wpAny (model prog w) A (execs body env) (TurnPost h₀ env.locals I it (Hot1 l1 K rest (i + 1)) { s with heap := h, toks := tk } Q) E { s with heap := h, toks := tk })
    (done : ∀ m₁ w1 n1 tl h tk, K l1 n m₁ w1 tl → (∀ p ∈ tl ++ rest, p.1 ≠ l1) → Fr h₀ env.locals h m₁ → News h₀ env.locals h ((l1, W.listOf (w1).toArray n1) :: (tl ++ rest)) → Q .next { s with heap := h, toks := tk }) :
    LoopAtV prog w A h₀ env x body Q E (.ref I) s := by
  obtain ⟨St, W, hlive, hI, hLI, hoff, hst, F, N⟩ := S
  refine loop_src W hlive hI hLI hoff hst F N (Hot1 l1 K rest) ⟨_, _, [], rfl, hne1, hk⟩ ?_ ?_ ?_
  · rintro i m nx ⟨w1, n1, tl, rfl, _, _⟩ p hp
    exact List.Mem.tail _ (List.mem_append_right _ (hsrc p hp))
  · rintro i v m₁ nx it h tk hi hP ⟨w1, n1, tl, rfl, o1, hK⟩ hoff F₁ N₁
    exact turn i v m₁ w1 n1 tl it h tk hi hP hK o1 (hoff _ (List.Mem.head _)) (fun p hp => hoff p (List.Mem.tail _ (hp))) F₁ N₁
  · rintro m₁ nx h tk ⟨w1, n1, tl, rfl, o1, hK⟩ F₁ N₁
    exact done m₁ w1 n1 tl h tk hK o1 F₁ N₁
def Hot2 (l1 : Addr) (l2 : Addr) (K : Addr → Addr → Nat → (Str → Option Value) → List Value → List Value → List (Addr × Obj) → Prop) (rest : List (Addr × Obj)) (i : Nat) (m' : Str → Option Value) (nx : List (Addr × Obj)) : Prop :=
  ∃ w1' n1', ∃ w2' n2', ∃ tl', nx = (l1, W.listOf (w1').toArray n1') :: (l2, W.listOf (w2').toArray n2') :: (tl' ++ rest) ∧ (∀ p ∈ tl' ++ rest, p.1 ≠ l1) ∧ (∀ p ∈ tl' ++ rest, p.1 ≠ l2) ∧ K l1 l2 (i) m' w1' w2' tl'
theorem Hot2.intro {h₀ : Heap} {L I : Addr} {it : Obj} {s₁ : Shared} {h' : Heap} {tk : Nat} {m' : Str → Option Value} {all rest : List (Addr × Obj)} {i : Nat} {l1 l2 : Addr}
    {K : Addr → Addr → Nat → (Str → Option Value) → List Value → List Value → List (Addr × Obj) → Prop} (F : Fr h₀ L h' m') (N : News h₀ L h' all) (w1 : List Value) (n1 : Nat) (w2 : List Value) (n2 : Nat) (tl : List (Addr × Obj))
    (sub : ∀ p ∈ (I, it) :: (l1, W.listOf (w1).toArray n1) :: (l2, W.listOf (w2).toArray n2) :: (tl ++ rest), p ∈ all) (off : ∀ p ∈ (l1, W.listOf (w1).toArray n1) :: (l2, W.listOf (w2).toArray n2) :: (tl ++ rest), p.1 ≠ I) (o1 : ∀ p ∈ tl ++ rest, p.1 ≠ l1) (o2 : ∀ p ∈ tl ++ rest, p.1 ≠ l2) (hk : K l1 l2 i m' w1 w2 tl) :
    TurnEnd h₀ L I it (Hot2 l1 l2 K rest i) s₁ { s₁ with heap := h', toks := tk } :=
  TurnEnd.intro F N _ sub off ⟨w1, n1, w2, n2, tl, rfl, o1, o2, hk⟩
theorem loop_hot2 {I : Addr} {src : List (Addr × Obj)} {n : Nat} {P : Nat → Value → Prop} {m : Str → Option Value} {rest : List (Addr × Obj)} {l1 l2 : Addr} {w1₀ : List Value} {n1₀ : Nat} {w2₀ : List Value} {n2₀ : Nat}
    (S : Src prog w A h₀ env.locals s m ((l1, W.listOf (w1₀).toArray n1₀) :: (l2, W.listOf (w2₀).toArray n2₀) :: rest) I src n P) (hsrc : ∀ p ∈ src, p ∈ rest) (hne1 : ∀ p ∈ rest, p.1 ≠ l1) (hne2 : ∀ p ∈ rest, p.1 ≠ l2) (hd12 : l1 ≠ l2)
    (K : Addr → Addr → Nat → (Str → Option Value) → List Value → List Value → List (Addr × Obj) → Prop) (hk : K l1 l2 0 m w1₀ w2₀ [])
    (turn : ∀ i v m₁ w1 n1 w2 n2 tl it h tk, i < n → P i v → K l1 l2 i m₁ w1 w2 tl → (∀ p ∈ tl ++ rest, p.1 ≠ l1) → (∀ p ∈ tl ++ rest, p.1 ≠ l2) → @Ne Nat l1 I → @Ne Nat l2 I → (∀ p ∈ tl ++ rest, p.1 ≠ I) → Fr h₀ env.locals h (fun y => if y = x then some v else m₁ y) → News h₀ env.locals h ((I, it) :: (l1, W.listOf (w1).toArray n1) :: (l2, W.listOf (w2).toArray n2) :: (tl ++ rest)) →
      wpAny (model prog w) A (execs body env) (TurnPost h₀ env.locals I it (Hot2 l1 l2 K rest (i + 1)) { s with heap := h, toks := tk } Q) E { s with heap := h, toks := tk })
    (done : ∀ m₁ w1 n1 w2 n2 tl h tk, K l1 l2 n m₁ w1 w2 tl → (∀ p ∈ tl ++ rest, p.1 ≠ l1) → (∀ p ∈ tl ++ rest, p.1 ≠ l2) → Fr h₀ env.locals h m₁ → News h₀ env.locals h ((l1, W.listOf (w1).toArray n1) :: (l2, W.listOf (w2).toArray n2) :: (tl ++ rest)) → Q .next { s with heap := h, toks := tk }) :
    LoopAtV prog w A h₀ env x body Q E (.ref I) s := by
  obtain ⟨St, W, hlive, hI, hLI, hoff, hst, F, N⟩ := S
  refine loop_src W hlive hI hLI hoff hst F N (Hot2 l1 l2 K rest) ⟨_, _, _, _, [], rfl, hne1, hne2, hk⟩ ?_ ?_ ?_
  · rintro i m nx ⟨w1, n1, w2, n2, tl, rfl, _, _, _⟩ p hp
    exact List.Mem.tail _ (List.Mem.tail _ (List.mem_append_right _ (hsrc p hp)))
  · rintro i v m₁ nx it h tk hi hP ⟨w1, n1, w2, n2, tl, rfl, o1, o2, hK⟩ hoff F₁ N₁
    exact turn i v m₁ w1 n1 w2 n2 tl it h tk hi hP hK o1 o2 (hoff _ (List.Mem.head _)) (hoff _ (List.Mem.tail _ (List.Mem.head _))) (fun p hp => hoff p (List.Mem.tail _ (List.Mem.tail _ (hp)))) F₁ N₁
  · rintro m₁ nx h tk ⟨w1, n1, w2, n2, tl, rfl, o1, o2, hK⟩ F₁ N₁
    exact done m₁ w1 n1 w2 n2 tl h tk hK o1 o2 F₁ N₁
def Hot3 (l1 : Addr) (l2 : Addr) (l3 : Addr) (K : Addr → Addr → Addr → Nat → (Str → Option Value) → List Value → List Value → List Value → List (Addr × Obj) → Prop) (rest : List (Addr × Obj)) (i : Nat) (m' : Str → Option Value) (nx : List (Addr × Obj)) : Prop :=
  ∃ w1' n1', ∃ w2' n2', ∃ w3' n3', ∃ tl', nx = (l1, W.listOf (w1').toArray n1') :: (l2, W.listOf (w2').toArray n2') :: (l3, W.listOf (w3').toArray n3') :: (tl' ++ rest) ∧ (∀ p ∈ tl' ++ rest, p.1 ≠ l1) ∧ (∀ p ∈ tl' ++ rest, p.1 ≠ l2) ∧ (∀ p ∈ tl' ++ rest, p.1 ≠ l3) ∧ K l1 l2 l3 (i) m' w1' w2' w3' tl'
theorem Hot3.intro {h₀ : Heap} {L I : Addr} {it : Obj} {s₁ : Shared} {h' : Heap} {tk : Nat} {m' : Str → Option Value} {all rest : List (Addr × Obj)} {i : Nat} {l1 l2 l3 : Addr}
    {K : Addr → Addr → Addr → Nat → (Str → Option Value) → List Value → List Value → List Value → List (Addr × Obj) → Prop} (F : Fr h₀ L h' m') (N : News h₀ L h' all) (w1 : List Value) (n1 : Nat) (w2 : List Value) (n2 : Nat) (w3 : List Value) (n3 : Nat) (tl : List (Addr × Obj))
    (sub : ∀ p ∈ (I, it) :: (l1, W.listOf (w1).toArray n1) :: (l2, W.listOf (w2).toArray n2) :: (l3, W.listOf (w3).toArray n3) :: (tl ++ rest), p ∈ all) (off : ∀ p ∈ (l1, W.listOf (w1).toArray n1) :: (l2, W.listOf (w2).toArray n2) :: (l3, W.listOf (w3).toArray n3) :: (tl ++ rest), p.1 ≠ I) (o1 : ∀ p ∈ tl ++ rest, p.1 ≠ l1) (o2 : ∀ p ∈ tl ++ rest, p.1 ≠ l2) (o3 : ∀ p ∈ tl ++ rest, p.1 ≠ l3) (hk : K l1 l2 l3 i m' w1 w2 w3 tl) :
    TurnEnd h₀ L I it (Hot3 l1 l2 l3 K rest i) s₁ { s₁ with heap := h', toks := tk } :=
  TurnEnd.intro F N _ sub off ⟨w1, n1, w2, n2, w3, n3, tl, rfl, o1, o2, o3, hk⟩
end
end Mine
namespace Mine
theorem size_ok {n : Nat} (h : n ≤ 1000000) : n ≤ sizeLine := by rw [sizeLine_eq]; omega
theorem allLt_ne {d : Addr} {l : List (Addr × Obj)} (h : AllLt d l) : ∀ p ∈ l, p.1 ≠ d := by
  induction l with
  | nil => intro p hp; cases hp
  | cons q r ih =>
    intro p hp
    rcases List.mem_cons.mp hp with rfl | hp
    · exact Nat.ne_of_lt h.1
    · exact ih h.2 p hp
section
variable {prog : Program} {w : World} {A : Around} {E : Value → Shared → Prop} {s : Shared} {h₀ : Heap} {L D : Addr} {m : Str → Option Value} {news news' : List (Addr × Obj)} {n : Nat} {ws : List Value}
theorem led_list (N : News h₀ L s.heap news) (hm : (D, W.listOf ws.toArray n) ∈ news) : s.heap.IsList D ws.toArray := ⟨_, (N _ hm).1, rfl, n, rfl⟩
theorem hot_append {x : Value} {Q : Value → Shared → Prop} (F : Fr h₀ L s.heap m) (N : News h₀ L s.heap news) (U : Upd D (W.listOf ws.toArray n) (W.listOf (ws ++ [x]).toArray (n + 1)) news news')
    (hz : ws.length ≤ 1000000) (h : ∀ h', Fr h₀ L h' m → News h₀ L h' news' → Q .none { s with heap := h' }) : wpAny (model prog w) A (call (.builtin "list.append") [.ref D, x]) Q E s := by
  have e : ws.toArray.push x = (ws ++ [x]).toArray := by simp
  rw [← e] at U
  exact append_K F N U h (by rw [List.size_toArray]; exact size_ok hz)
theorem hot_truthy {Q : Bool → Shared → Prop} (N : News h₀ L s.heap news) (hm : (D, W.listOf ws.toArray n) ∈ news) (hz : ws.length ≤ 1000000)
    (h : Q ((ws.length : Int) != 0) { s with toks := s.toks + 1 + 1 }) : wpAny (model prog w) A (truthy (.ref D)) Q E s := by
  refine wpAny_truthy_list (led_list N hm) (by rw [List.size_toArray]; omega) ?_
  have e : (!ws.toArray.isEmpty) = ((ws.length : Int) != 0) := by
    cases ws with
    | nil => rfl
    | cons a r => simp; omega
  rw [e]; exact h
theorem hot_last {value slice : Expr} {u : Tok} {v : Value} {Q : Value → Shared → Prop} (N : News h₀ L s.heap news) (hm : (D, W.listOf ws.toArray n) ∈ news) (hv : ws.getLast? = some v) (h : Q v s)
    (hs : subscripted slice false (.ref D) (.int (-1) u) = operate [.ref D, .int (-1) u] (getItem (.ref D) (.int (-1) u)) := by with_unfolding_all rfl) :
    wpAny (model prog w) A (subscriptTail value slice (.ref D) (.int (-1) u)) Q E s := by
  have hne : 0 < ws.length := by
    cases ws with
    | nil => cases hv
    | cons a r => exact Nat.succ_pos _
  have e : ((-1 : Int) + (ws.toArray.size : Nat)).toNat = ws.length - 1 := by rw [List.size_toArray]; omega
  refine tail_any (led_list N hm).typeIs slot_list_getitem.lookup (wpAny_getItem_list_neg (x := v) (led_list N hm) (by decide) (by rw [List.size_toArray]; omega) (by decide) ?_ h) hs
  rw [e, List.getElem?_toArray, ← List.getLast?_eq_getElem?]; exact hv
theorem hot_pop {v : Value} {Q : Value → Shared → Prop} (F : Fr h₀ L s.heap m) (N : News h₀ L s.heap news) (U : Upd D (W.listOf ws.toArray n) (W.listOf ws.dropLast.toArray (n + 1)) news news')
    (hz : ws.length ≤ 1000000) (hv : ws.getLast? = some v) (h : ∀ h', Fr h₀ L h' m → News h₀ L h' news' → Q v { s with heap := h' }) : wpAny (model prog w) A (call (.builtin "list.pop") [.ref D]) Q E s := by
  refine kl_pop F N (p := ws.dropLast) (y := v) ?_ U (by simpa using size_ok hz) h
  have e := kpa_last v ws.dropLast
  have e2 : ws.dropLast ++ [v] = ws := by
    obtain ⟨ys, hy⟩ := List.getLast?_eq_some_iff.mp hv
    subst hy; simp
  rw [e2] at e
  simpa using e
end
theorem StrsAre.last {ws : List Value} {ys : List Str} (hS : StrsAre ws ys) (hne : 0 < ws.length) : ∃ y t, ws.getLast? = some (.str y t) ∧ ys.getLast? = some y := by
  have hl := StrsAre.len_eq hS
  have h1 : ws.length - 1 < ws.length := by omega
  obtain ⟨y, t, e1, e2⟩ := StrsAre.item hS (ws.length - 1) _ (List.getElem?_eq_getElem h1)
  refine ⟨y, t, ?_, ?_⟩
  · rw [List.getLast?_eq_getElem?, List.getElem?_eq_getElem h1, e1]
  · rw [List.getLast?_eq_getElem?, ← hl]; exact e2
theorem StrsAre.drop_last {ws : List Value} {ys : List Str} (hS : StrsAre ws ys) : StrsAre ws.dropLast ys.dropLast := by
  have hl := StrsAre.len_eq hS
  rw [List.dropLast_eq_take, List.dropLast_eq_take, hl]
  exact StrsAre.take' hS _
theorem StrsAre.snoc {ws : List Value} {ys : List Str} (hS : StrsAre ws ys) (y : Str) (t : Tok) : StrsAre (ws ++ [.str y t]) (ys ++ [y]) := StrsAre.append' hS (.cons y t .nil)
section
variable {prog : Program} {w : World} {A : Around} {E : Value → Shared → Prop} {s : Shared} {h₀ : Heap} {L D : Addr} {m : Str → Option Value} {news news' : List (Addr × Obj)} {n : Nat} {ws : List Value} {ys : List Str}
theorem hot_lastS {value slice : Expr} {u : Tok} {Q : Value → Shared → Prop} (N : News h₀ L s.heap news) (hm : (D, W.listOf ws.toArray n) ∈ news) (hS : StrsAre ws ys) (hne : (ws.length : Int) ≠ 0)
    (h : ∀ y t, ws.getLast? = some (.str y t) → ys.getLast? = some y → Q (.str y t) s)
    (hs : subscripted slice false (.ref D) (.int (-1) u) = operate [.ref D, .int (-1) u] (getItem (.ref D) (.int (-1) u)) := by with_unfolding_all rfl) :
    wpAny (model prog w) A (subscriptTail value slice (.ref D) (.int (-1) u)) Q E s := by
  obtain ⟨y, t, e1, e2⟩ := StrsAre.last hS (by omega)
  exact hot_last N hm e1 (h y t e1 e2) hs
theorem hot_popS {Q : Value → Shared → Prop} (F : Fr h₀ L s.heap m) (N : News h₀ L s.heap news) (U : Upd D (W.listOf ws.toArray n) (W.listOf ws.dropLast.toArray (n + 1)) news news')
    (hz : ws.length ≤ 1000000) (hS : StrsAre ws ys) (hne : (ws.length : Int) ≠ 0) (h : ∀ h' y t, Fr h₀ L h' m → News h₀ L h' news' → Q (.str y t) { s with heap := h' }) : wpAny (model prog w) A (call (.builtin "list.pop") [.ref D]) Q E s := by
  obtain ⟨y, t, e1, e2⟩ := StrsAre.last hS (by omega)
  exact hot_pop F N U hz e1 fun h' F' N' => h h' y t F' N'
end
def wt (ys : List Str) : Nat := (ys.map (·.length)).sum + ys.length
theorem wt_append (a b : List Str) : wt (a ++ b) = wt a + wt b := by unfold wt; simp [List.sum_append]; omega
theorem join_le {sep : Str} (h1 : sep.length = 1) (ys : List Str) : (Txt.join sep ys).length ≤ wt ys := by
  show (PySem.Builtin.Str.glued sep ys).length ≤ _
  rw [StrLaws.glued_eq_join]
  have h := StrLaws.join_length_le sep ys
  rw [h1] at h
  unfold wt; omega
section
variable {prog : Program} {w : World} {A : Around} {E : Value → Shared → Prop} {s : Shared} {h₀ : Heap} {L D : Addr} {m : Str → Option Value} {news news' : List (Addr × Obj)} {n : Nat} {ws : List Value} {ys : List Str}
theorem hot_join {sep : Str} {t : Tok} {o : Obj} {Q : Value → Shared → Prop} (N : News h₀ L s.heap news) (hm : (D, o) ∈ news) (hc : o.cls = .type "list") (hd : o.data = .seq ws.toArray n) (hS : StrsAre ws ys) (hw : wt ys ≤ 1000000) (h1 : sep.length = 1)
    (h : ∀ t' k, (Txt.join sep ys).length ≤ 1000000 → Q (.str (Txt.join sep ys) t') { s with toks := k }) : wpAny (model prog w) A (call (.builtin "str.join") [.str sep t, .ref D]) Q E s := by
  have hj := Nat.le_trans (join_le h1 ys) hw
  refine join_list (items := ws.toArray) (ys := ys) ⟨_, (N _ hm).1, hc, n, hd⟩ (by simpa using hS) (by rw [h1]; unfold wt at hw; omega) fun t' k => h t' k hj
end
end Mine
section
open PySem.SeqAt
open AutoSeq1 (wpAny_loadPart')
open MeetsSeq MeetsSeq2 MeetsSeq3 SeqRoads2
namespace Mine
def LtAt (A : Around) (s : Shared) (y x : Value) (b : Bool) : Prop :=
  ∀ (prog : Program) (w : World) (E : Value → Shared → Prop) (Q : Value → Shared → Prop), Q (.bool b) s → wpAny (model prog w) A (richCompare .Lt y x) Q E s
inductive LexR (A : Around) (s : Shared) (fin : Bool) : List (Value × Value) → Bool → Prop
  | nil : LexR A s fin [] fin
  | eq {p q r b} : EqAt A s p q true → LexR A s fin r b → LexR A s fin ((p, q) :: r) b
  | ne {p q r b} : EqAt A s p q false → LtAt A s p q b → LexR A s fin ((p, q) :: r) b
theorem tuple_lt_meets (l b : Addr) (items items2 : Array Value) (n n2 : Nat) (dd dd2 : Option Addr) (sl sl2 : Array (Option Value)) (r : Bool) :
    Meets (Builtin.«tuple.__lt__» ⟨[.ref l, .ref b], []⟩)
      (fun A R s => s.heap.get? l = some { cls := .type "tuple", dict := dd, data := .seq items n, slots := sl } ∧ s.heap.get? b = some { cls := .type "tuple", dict := dd2, data := .seq items2 n2, slots := sl2 } ∧
        LexR A.in1 s (decide (items.size < items2.size)) (items.toList.zip items2.toList) r ∧ R (.ok (.ret (.bool r))) s) :=
  .of_wp fun prog w A R s h => by
    obtain ⟨hp, g, d, tk, os⟩ := s; obtain ⟨hl, hb, he, h⟩ := h
    have f2 := AutoSeq1.sub_tuple_tuple
    wp_walk using wpAny_loadPart' hl, wpAny_loadPart' hb, wpAny_forIn_list _ (fun rest b s' => b.1 = none ∧ s' = ⟨hp, g, d, tk, os⟩ ∧ LexR A.in1 ⟨hp, g, d, tk, os⟩ (decide (items.size < items2.size)) rest r) _
    case turn =>
      rintro ⟨y, x⟩ rest b s' ⟨hb', rfl, hz⟩
      cases hz with
      | eq e1 e2 =>
        refine wpAny_bind (e1 prog w _ _ ?_)
        wp_walk
        exact ⟨rfl, rfl, e2⟩
      | ne e1 e2 =>
        refine wpAny_bind (e1 prog w _ _ ?_)
        simp only [Bool.not_false, if_true]
        refine wpAny_bind (wpAny_rule (wpAny_bind (e2 prog w _ _ ?_)))
        refine wpAny_bind (wpAny_pure (wpAny_pure ?_))
        exact wpAny_pure ⟨_, rfl, h⟩
    case fin =>
      rintro ⟨b1, b2⟩ s' ⟨hb', rfl, hz⟩
      simp only at hb'
      subst hb'
      cases hz
      wp_walk
      exact ⟨_, rfl, by simpa [Builtin.Tuple.tupleCompareSizes] using h⟩
    case h =>
      exact ⟨rfl, rfl, he⟩
theorem LtAt.tuples {A : Around} {s : Shared} {l b : Addr} {o o' : Obj} {vs us : List Value} {n n' : Nat} {r : Bool} (hl : s.heap.get? l = some o) (hc : o.cls = .type "tuple") (hd : o.data = .seq vs.toArray n)
    (hb : s.heap.get? b = some o') (hc' : o'.cls = .type "tuple") (hd' : o'.data = .seq us.toArray n') (hu : A.units < cLine) (he : LexR A.in1 s (decide (vs.length < us.length)) (vs.zip us) r) : LtAt A s (.ref l) (.ref b) r := fun prog w E Q h => by
  obtain ⟨cls, dd, data, sl⟩ := o
  obtain ⟨cls2, dd2, data2, sl2⟩ := o'
  simp only at hc hd hc' hd'
  subst hc hd hc' hd'
  exact richCompare_meets_room (op := .Lt) ⟨_, hl, rfl⟩ ⟨_, hb, rfl⟩ F.slot_tuple_lt F.entry_tuple_lt (F.args_tuple_lt_2 _ _) (tuple_lt_meets l b vs.toArray us.toArray n n' dd dd2 sl sl2 r)
    ⟨hl, hb, by simpa using he, show Value.bool r ≠ Value.notImplemented ∧ Q (.bool r) s from ⟨(fun x => nomatch x), h⟩⟩ hu
theorem LtAt.int {A : Around} {s : Shared} (a b : Int) (t u : Tok) : LtAt A s (.int a t) (.int b u) (decide (a < b)) := fun prog w E Q h => lt_int h
theorem LtAt.str {A : Around} {s : Shared} (a b : Str) (t u : Tok) : LtAt A s (.str a t) (.str b u) (decide (a.cps.toList < b.cps.toList)) := fun prog w E Q h => PySem.P.lt_str h
def lexBy (lt : Dat → Dat → Bool) : List Dat → List Dat → Bool
  | [], [] => false
  | [], _ :: _ => true
  | _ :: _, [] => false
  | a :: as, b :: bs => if PyData.eqv (kqdP a) (kqdP b) then lexBy lt as bs else lt a b
def dlt : Nat → Dat → Dat → Bool
  | _, .int x, .int y => decide (x < y)
  | _, .str x, .str y => decide (x.cps.toList < y.cps.toList)
  | n + 1, .tuple xs, .tuple ys => lexBy (dlt n) xs ys
  | _, _, _ => false
def dcmp : Nat → Dat → Dat → Bool
  | _, .int _, .int _ => true
  | _, .str _, .str _ => true
  | n + 1, .tuple xs, .tuple ys => (xs.zip ys).all fun p => dcmp n p.1 p.2
  | _, _, _ => false
section
variable {h₀ : Heap} {L : Addr} {news : List (Addr × Obj)} {s : Shared}
theorem eq_dat {A : Around} {v u : Value} {a b : Dat} {n : Nat} (N : News h₀ L s.heap news) (ha : DatIn news v a) (hb : DatIn news u b) (ka : kqdOk n a = true) (kb : kqdOk n b = true) (hu : A.units + n < cLine) :
    EqAt A s v u (PyData.eqv (kqdP a) (kqdP b)) := fun prog w E Q h => by
  obtain ⟨as, ra⟩ := kqd_in N n ha ka
  obtain ⟨bs, rb⟩ := kqd_in N n hb kb
  have la := kqd_lay n a ka
  have lb := kqd_lay n b kb
  exact eqBoolOverData prog w A E s v u _ _ as bs Q ra rb la.1 lb.1 (by omega) h
theorem lex_dat {A : Around} {n : Nat} (ih : ∀ {v u : Value} {a b : Dat}, DatIn news v a → DatIn news u b → kqdOk n a = true → kqdOk n b = true → dcmp n a b = true → LtAt A s v u (dlt n a b)) (N : News h₀ L s.heap news) (hu : A.units + n < cLine) :
    ∀ {vs us : List Value} {as bs : List Dat}, DatAll news vs as → DatAll news us bs → (∀ d ∈ as, kqdOk n d = true) → (∀ d ∈ bs, kqdOk n d = true) → ((as.zip bs).all fun p => dcmp n p.1 p.2) = true →
      ∀ fin, (as.length < bs.length ↔ fin = true) → LexR A s fin (vs.zip us) (lexBy (dlt n) as bs)
  | _, _, _, _, .nil, .nil, _, _, _, fin, hf => by
    have : fin = false := by cases fin with | false => rfl | true => exact absurd (hf.mpr rfl) (Nat.lt_irrefl _)
    subst this; exact .nil
  | _, _, _, _, .nil, .cons _ _, _, _, _, fin, hf => by
    have : fin = true := hf.mp (Nat.succ_pos _)
    subst this; exact .nil
  | _, _, _, _, .cons _ _, .nil, _, _, _, fin, hf => by
    have : fin = false := by cases fin with | false => rfl | true => exact absurd (hf.mpr rfl) (Nat.not_lt_zero _)
    subst this; exact .nil
  | _, _, a :: as, b :: bs, .cons ha ra, .cons hb rb, ka, kb, hc, fin, hf => by
    have e := eq_dat (A := A) N ha hb (ka _ (.head _)) (kb _ (.head _)) hu
    simp only [List.zip_cons_cons, List.all_cons, Bool.and_eq_true] at hc
    unfold lexBy
    cases hq : PyData.eqv (kqdP a) (kqdP b) with
    | true =>
      rw [hq] at e
      rw [if_pos rfl]
      exact .eq e (lex_dat ih N hu ra rb (fun d h => ka d (.tail _ h)) (fun d h => kb d (.tail _ h)) hc.2 fin (by simpa using hf))
    | false =>
      rw [hq] at e
      rw [if_neg (by decide)]
      exact .ne e (ih ha hb (ka _ (.head _)) (kb _ (.head _)) hc.1)
theorem lt_dat (N : News h₀ L s.heap news) : ∀ (n : Nat) {A : Around} {v u : Value} {a b : Dat}, DatIn news v a → DatIn news u b → kqdOk n a = true → kqdOk n b = true → dcmp n a b = true → A.units + 2 * n < cLine → LtAt A s v u (dlt n a b) := by
  intro n
  induction n with
  | zero =>
    intro A v u a b ha hb ka kb hc hu
    cases ha <;> cases hb <;> first | exact LtAt.int _ _ _ _ | exact LtAt.str _ _ _ _ | (simp [dcmp] at hc; done)
  | succ n ih =>
    intro A v u a b ha hb ka kb hc hu
    cases ha <;> cases hb <;> first | exact LtAt.int _ _ _ _ | exact LtAt.str _ _ _ _ | (simp [dcmp] at hc; done) | skip
    rename_i hm r _ _ _ _ hm' r'
    refine LtAt.tuples (N.get hm) rfl rfl (N.get hm') rfl rfl (by omega) ?_
    refine lex_dat (fun h1 h2 h3 h4 h5 => ih h1 h2 h3 h4 h5 (by show A.units + 1 + 2 * n < cLine; omega)) N (by show A.units + 1 + n < cLine; omega) r r' (by simpa [kqdOk] using ka) (by simpa [kqdOk] using kb) (by simpa [dcmp] using hc) _ ?_
    rw [r.length, r'.length]; simp
end
end Mine
end
namespace Mine
theorem DatAll.at {news : List (Addr × Obj)} {vs : List Value} {ds : List Dat} (h : DatAll news vs ds) {i : Nat} {v : Value} (hv : vs[i]? = some v) : ∃ d, ds[i]? = some d ∧ DatIn news v d := by
  have hi : i < vs.length := (List.getElem?_eq_some_iff.mp hv).1
  have hi' : i < ds.length := by rw [← h.length]; exact hi
  obtain ⟨u, e1, e2⟩ := h.get hi'
  rw [hv] at e1
  exact ⟨_, List.getElem?_eq_getElem hi', (Option.some.inj e1) ▸ e2⟩
theorem DatAll.set {news : List (Addr × Obj)} : ∀ {vs : List Value} {ds : List Dat}, DatAll news vs ds → ∀ (i : Nat) {v : Value} {d : Dat}, DatIn news v d → DatAll news (vs.set i v) (ds.set i d)
  | _, _, .nil, _, _, _, _ => .nil
  | _, _, .cons h r, 0, _, _, hd => .cons hd r
  | _, _, .cons h r, i + 1, _, _, hd => .cons h (DatAll.set r i hd)
theorem DatAll.dropLast {news : List (Addr × Obj)} : ∀ {vs : List Value} {ds : List Dat}, DatAll news vs ds → DatAll news vs.dropLast ds.dropLast
  | _, _, .nil => .nil
  | _, _, .cons h .nil => .nil
  | _, _, .cons h (.cons h2 r) => .cons h (DatAll.dropLast (.cons h2 r))
section
variable {prog : Program} {w : World} {A : Around} {E : Value → Shared → Prop} {s : Shared} {h₀ : Heap} {L D : Addr} {m : Str → Option Value} {news news' cold : List (Addr × Obj)} {n : Nat} {ws : List Value} {ds : List Dat}
theorem hot_item {value slice : Expr} {k : Int} {u : Tok} {Q : Value → Shared → Prop} (N : News h₀ L s.heap news) (hm : (D, W.listOf ws.toArray n) ∈ news) (hD : DatAll cold ws ds) (h0 : 0 ≤ k) (h1 : k < ds.length) (h2 : k < 2 ^ 63)
    (h : ∀ v d, ws[k.toNat]? = some v → ds[k.toNat]? = some d → DatIn cold v d → Q v s)
    (hs : subscripted slice false (.ref D) (.int k u) = operate [.ref D, .int k u] (getItem (.ref D) (.int k u)) := by with_unfolding_all rfl) :
    wpAny (model prog w) A (subscriptTail value slice (.ref D) (.int k u)) Q E s := by
  have hl := hD.length
  have hk : k.toNat < ws.length := by omega
  have hv : ws[k.toNat]? = some (ws[k.toNat]'hk) := List.getElem?_eq_getElem hk
  obtain ⟨d, e1, e2⟩ := DatAll.at hD hv
  refine tail_any (led_list N hm).typeIs slot_list_getitem.lookup (wpAny_getItem_list (x := ws[k.toNat]'hk) (led_list N hm) h0 h2 ?_ (h _ d hv e1 e2)) hs
  rw [List.getElem?_toArray]; exact hv
theorem hot_set {k : Int} {t : Tok} {v : Value} {Q : Unit → Shared → Prop} (F : Fr h₀ L s.heap m) (N : News h₀ L s.heap news) (U : Upd D (W.listOf ws.toArray n) (W.listOf (ws.set k.toNat v).toArray n) news news') (hl : ws.length = ds.length) (h0 : 0 ≤ k) (h1 : k < ds.length) (h2 : k < 2 ^ 63)
    (h : ∀ h', Fr h₀ L h' m → News h₀ L h' news' → Q () { s with heap := h' }) : wpAny (model prog w) A (setItem (.ref D) (.int k t) v) Q E s := by
  obtain ⟨pre, post, rfl, rfl, a, b⟩ := U.split
  have z := N (D, W.listOf ws.toArray n) (List.mem_append.mpr (.inr (.head _)))
  have hs : ws.toArray.size = ds.length := by rw [List.size_toArray]; exact hl
  refine ki_setAt z.1 h0 h2 (by omega) (h _ (F.change (Heap.SameBut.update ..) z.2.1 z.2.2) (ki_turn _ N a b ?_ ?_))
  · show ws.toArray.setIfInBounds k.toNat v = (ws.set k.toNat v).toArray
    apply Array.toList_inj.mp
    simp
  · simp
theorem hot_lt {k : Nat} {v u : Value} {a b : Dat} {Q : Value → Shared → Prop} (N : News h₀ L s.heap news) (hs : ∀ p ∈ cold, p ∈ news) (ha : DatIn cold v a) (hb : DatIn cold u b) (ka : kqdOk k a = true) (kb : kqdOk k b = true) (hc : dcmp k a b = true) (hu : A.units + 2 * k < cLine)
    (h : Q (.bool (dlt k a b)) s) : wpAny (model prog w) A (compareOp .Lt v u) Q E s :=
  lt_dat N k (ha.mono hs) (hb.mono hs) ka kb hc hu prog w E Q h
theorem hot_popD {Q : Value → Shared → Prop} (F : Fr h₀ L s.heap m) (N : News h₀ L s.heap news) (U : Upd D (W.listOf ws.toArray n) (W.listOf ws.dropLast.toArray (n + 1)) news news')
    (hz : ds.length ≤ 1000000) (hD : DatAll cold ws ds) (hne : 0 < ds.length) (h : ∀ h' v d, Fr h₀ L h' m → News h₀ L h' news' → ds.getLast? = some d → DatIn cold v d → DatAll cold ws.dropLast ds.dropLast → Q v { s with heap := h' }) : wpAny (model prog w) A (call (.builtin "list.pop") [.ref D]) Q E s := by
  have hl := hD.length
  have hi : ws.length - 1 < ws.length := by omega
  have hv : ws[ws.length - 1]? = some (ws[ws.length - 1]'hi) := List.getElem?_eq_getElem hi
  obtain ⟨d, e1, e2⟩ := DatAll.at hD hv
  refine hot_pop F N U (by omega) (v := ws[ws.length - 1]'hi) (by rw [List.getLast?_eq_getElem?]; exact hv) fun h' F' N' => h h' _ d F' N' (by rw [List.getLast?_eq_getElem?, ← hl]; exact e1) e2 (DatAll.dropLast hD)
theorem hot_len {o : Obj} {Q : Value → Shared → Prop} (N : News h₀ L s.heap news) (hm : (D, o) ∈ news) (hc : o.cls = .type "list") (hd : o.data = .seq ws.toArray n) (hz : ws.length ≤ 1000000) (h : Q (.int ws.length (s.toks + 1)) { s with toks := s.toks + 1 + 1 }) :
    wpAny (model prog w) A (call (.builtin "len") [.ref D]) Q E s := by
  refine len_list (items := ws.toArray) ⟨_, (N _ hm).1, hc, n, hd⟩ (by rw [List.size_toArray]; omega) ?_
  rw [List.size_toArray]; exact h
end
def WHot1 (l1 : Addr) (K : Addr → Nat → (Str → Option Value) → List Value → List (Addr × Obj) → Prop) (rest : List (Addr × Obj)) (i : Nat) (m' : Str → Option Value) (nx : List (Addr × Obj)) : Prop :=
  ∃ w1 n1 tl, nx = (l1, W.listOf w1.toArray n1) :: (tl ++ rest) ∧ (∀ p ∈ tl ++ rest, p.1 ≠ l1) ∧ K l1 i m' w1 tl
section
variable {prog : Program} {w : World} {A : Around} {E : Value → Shared → Prop} {s : Shared} {env : Env} {h₀ : Heap} {L : Addr} {Q : Flow → Shared → Prop}
theorem while_hot1 {test : Expr} {body : List Stmt} {pos : Pos} {m : Str → Option Value} {rest : List (Addr × Obj)} {l1 : Addr} {w₀ : List Value} {k₀ n₀ : Nat}
    (F : Fr h₀ L s.heap m) (N : News h₀ L s.heap ((l1, W.listOf w₀.toArray k₀) :: rest)) (hne : ∀ p ∈ rest, p.1 ≠ l1)
    (K : Addr → Nat → (Str → Option Value) → List Value → List (Addr × Obj) → Prop) (hk : K l1 n₀ m w₀ [])
    (turn : ∀ n m₁ ws k tl h tk, K l1 n m₁ ws tl → (∀ p ∈ tl ++ rest, p.1 ≠ l1) → Fr h₀ L h m₁ → News h₀ L h ((l1, W.listOf ws.toArray k) :: (tl ++ rest)) →
      wpAny (model prog w) A (isTrue test env (eval test env)) (fun b s₂ =>
        if b = true then wpAny (model prog w) A (execs body env) (WhileStep2 h₀ L s (WHot1 l1 K rest) Q n) E s₂ else Q .next s₂) E { s with heap := h, toks := tk })
    (hE : PassesOwn (model prog w) A env E := by passes_own) :
    wpAny (model prog w) A (exec (.While test body [] pos) env) Q E s := by
  refine While_inv2 (WHot1 l1 K rest) F N ⟨_, _, [], rfl, hne, hk⟩ ?_ hE
  rintro n m₁ nx h tk F₁ N₁ ⟨ws, k, tl, rfl, ho, hK⟩
  exact turn n m₁ ws k tl h tk hK ho F₁ N₁
theorem WHot1.intro {l1 : Addr} {K : Addr → Nat → (Str → Option Value) → List Value → List (Addr × Obj) → Prop} {rest all : List (Addr × Obj)} {n : Nat} {h' : Heap} {tk : Nat} {m' : Str → Option Value} (F : Fr h₀ L h' m') (N : News h₀ L h' all)
    (n' : Nat) (ws : List Value) (k : Nat) (tl : List (Addr × Obj)) (sub : ∀ p ∈ (l1, W.listOf ws.toArray k) :: (tl ++ rest), p ∈ all) (ho : ∀ p ∈ tl ++ rest, p.1 ≠ l1) (hn : n' < n) (hk : K l1 n' m' ws tl) :
    ∃ h'' tk'' m₂ news₂ n'', ({ s with heap := h', toks := tk } : Shared) = { s with heap := h'', toks := tk'' } ∧ Fr h₀ L h'' m₂ ∧ News h₀ L h'' news₂ ∧ n'' < n ∧ WHot1 l1 K rest n'' m₂ news₂ :=
  ⟨h', tk, m', _, n', rfl, F, fun p hp => N p (sub p hp), hn, ws, k, tl, rfl, ho, hk⟩
end
section
variable {α : Type} (lt : α → α → Bool)
def siftdownF (start : Nat) (l : List α) (pos : Nat) (x : α) : List α :=
  if h : start < pos then
    match l[(pos - 1) / 2]? with
    | some p => if lt x p then siftdownF start (l.set pos p) ((pos - 1) / 2) x else l.set pos x
    | none => l.set pos x
  else l.set pos x
termination_by pos
decreasing_by omega
def childF (l : List α) (pos : Nat) : Nat :=
  match l[2 * pos + 1]?, l[2 * pos + 2]? with
  | some a, some b => if lt a b then 2 * pos + 1 else 2 * pos + 2
  | _, _ => 2 * pos + 1
theorem childF_gt (l : List α) (pos : Nat) : pos < childF lt l pos := by
  unfold childF; split
  · split <;> omega
  · omega
def sinkF (l : List α) (pos : Nat) : List α × Nat :=
  if h : 2 * pos + 1 < l.length then
    match l[childF lt l pos]? with
    | some c => sinkF (l.set pos c) (childF lt l pos)
    | none => (l, pos)
  else (l, pos)
termination_by l.length - pos
decreasing_by
  have := childF_gt lt l pos
  rw [List.length_set]; omega
def siftupF (l : List α) (pos : Nat) (x : α) : List α := let r := sinkF lt l pos; siftdownF lt pos (r.1.set r.2 x) r.2 x
def pushF (l : List α) (x : α) : List α := siftdownF lt 0 (l ++ [x]) l.length x
def popF (l : List α) (d : α) : α × List α :=
  let last := l.getLastD d
  match l.dropLast with
  | [] => (last, [])
  | a :: r => (a, siftupF lt (last :: r) 0 last)
end
end Mine
namespace Mine
theorem sub_ri_reversed : isSubtype (.type "range_iterator") (.type "reversed") = pure false := by rw [isSubtype_type]; kernel_rfl
section
variable {prog : Program} {w : World} {A : Around} {E : Value → Shared → Prop} {s : Shared}
def rrevObj (n : Nat) : Obj := { cls := .type "range_iterator", data := .fields #[rawInt ((n : Int) - 1), rawInt n, rawInt (-1)] }
theorem call_range_reversed {r : Addr} {n : Nat} {t u v : Tok} {Q : Value → Shared → Prop} (hr : IsRange s.heap r 0 n 1 t u v) (hn : n ≤ 1000000)
    (h : Q (.ref s.heap.objs.size) { s with heap := s.heap.push (rrevObj n) }) : wpAny (model prog w) A (call (.builtin "range.__reversed__") [.ref r]) Q E s := by
  have hT : s.TypeIs (.ref r) "range" := ⟨_, hr, rfl⟩
  have hsz : Builtin.Range.rangeSize 0 (n : Int) 1 = (n : Int) := by
    unfold Builtin.Range.rangeSize
    simp; omega
  refine wpAny_call_entry F.slot_range_reversed hT F.entry_range_reversed ?_ (F.args_range_reversed_1 _)
  have hs : (Builtin.Range.rangeFitsLong 0 && Builtin.Range.rangeFitsLong (n : Int) && Builtin.Range.rangeFitsLong 1 && Builtin.Range.rangeFitsLong (-1) && Builtin.Range.rangeFitsLong (0 - 1) && Builtin.Range.rangeFitsLong (n : Int)) = true := by
    unfold Builtin.Range.rangeFitsLong
    simp only [Bool.and_eq_true, decide_eq_true_eq]
    refine ⟨⟨⟨⟨⟨⟨by decide, by decide⟩, by omega, by omega⟩, by decide, by decide⟩, by decide, by decide⟩, by decide, by decide⟩, by omega, by omega⟩
  have body : wpAny (model prog w) A.in1 (Builtin.«range.__reversed__» ⟨[.ref r], []⟩) (fun fin s' => ∃ v, fin = Fin.done (Flow.ret v) ∧ Q v s') E s := by
    unfold Builtin.«range.__reversed__»
    refine wpAny_bind (wpAny_of_eq (a := Value.ref r) rfl ?_)
    have hf : wpAny (model prog w) A.in1 (Builtin.Range.rangeFields (.ref r)) (fun x s' => x = ((0 : Int), (n : Int), (1 : Int)) ∧ s' = s) E s := by
      unfold Builtin.Range.rangeFields
      repeat (any_goals (first | (refine wpAny_bind (wpAny_field hr rfl rfl ?_)) | assumption | wp_step))
      exact ⟨rfl, rfl⟩
    refine wpAny_bind (wpAny_mono hf (fun x s' hx => ?_) fun _ _ e => e)
    obtain ⟨rfl, rfl⟩ := hx
    dsimp only
    rw [hsz, hs]
    simp only [Bool.not_true, Bool.false_eq_true, if_false, if_true]
    have e1 : (0 : Int) + ((n : Int) - 1) * 1 = (n : Int) - 1 := by omega
    rw [e1]
    refine wpAny_bind (wpAny_newObj_type (wpAny_pure ⟨_, rfl, h⟩))
  exact body
theorem code_reversed_range {r : Addr} {n : Nat} {t u v : Tok} {Q₁ : Value → Shared → Prop} (hr : IsRange s.heap r 0 n 1 t u v) (hn : n ≤ 1000000)
    (h : Q₁ (.ref s.heap.objs.size) { s with heap := s.heap.push (rrevObj n) }) :
    codeAny (model prog w) A (.call (.builtin "reversed.__new__") ⟨[.type "reversed", .ref r], []⟩) (wants Q₁ E) s := by
  have hT : s.TypeIs (.ref r) "range" := ⟨_, hr, rfl⟩
  refine codeAny_of_tree ?_
  show wpAny _ A.in1 (do checkBuiltinCall "reversed.__new__" ⟨[.type "reversed", .ref r], []⟩; again (.builtin "reversed.__new__" ⟨[.type "reversed", .ref r], []⟩)) _ _ s
  refine wpAny_bind (wpAny_of_eq (F.newCall_reversed_1 _) (wpAny_pure ⟨plainId_quiet F.plain_reversed_new _, codeAny_builtin F.entry_reversed_new ?_⟩))
  rw [Around.under_plainId F.plain_reversed_new _]
  unfold Builtin.«reversed.__new__»
  refine wpAny_bind (wpAny_of_eq (newClass_reversed _) ?_)
  try dsimp only
  refine wpAny_bind (wpAny_of_eq (a := ()) (by first | rfl | kernel_rfl) ?_)
  refine wpAny_bind (wpAny_of_eq (a := ()) (by first | rfl | kernel_rfl) ?_)
  try dsimp only
  refine wpAny_bind (wpAny_specialOf hT F.slot_range_reversed.lookup ?_)
  try dsimp only
  refine wpAny_bind (wpAny_of_eq (F.slot_range_reversed.bind _) ?_)
  try dsimp only
  first
  | rw [if_neg (show ¬ ((Value.builtin "range.__reversed__" == Value.none) = true) from Bool.false_ne_true)]
  | (show wpAny _ _ (if (Value.builtin "range.__reversed__" == Value.none) = true then _ else _) _ _ _; rw [if_neg (show ¬ ((Value.builtin "range.__reversed__" == Value.none) = true) from Bool.false_ne_true)])
  refine wpAny_bind (wpAny_rule ?_)
  refine wpAny_bind (m := runValue (.call (.builtin "range.__reversed__") ⟨[.ref r], []⟩)) (show wpAny _ _ (call (.builtin "range.__reversed__") [.ref r]) _ _ _ from call_range_reversed hr hn ?_)
  first
  | exact wpAny_pure h
  | exact wpAny_bind (wpAny_pure (wpAny_pure h))
theorem call_reversed_range {r : Addr} {n : Nat} {t u v : Tok} {Q : Value → Shared → Prop} (hr : IsRange s.heap r 0 n 1 t u v) (hn : n ≤ 1000000)
    (h : Q (.ref s.heap.objs.size) { s with heap := s.heap.push (rrevObj n) }) : wpAny (model prog w) A (call (.type "reversed") [.ref r]) Q E s := by
  refine callType_other (U := "range_iterator") (Q₁ := fun obj s₁ => obj = .ref s.heap.objs.size ∧ s₁ = { s with heap := s.heap.push (rrevObj n) }) (by decide +kernel) F.create_reversed ⟨_, _, F.mro_reversed⟩ F.made_reversed sub_ri_reversed (F.typeCall_reversed_1 _) (code_reversed_range hr hn ⟨rfl, rfl⟩) ?_
  rintro obj s₁ ⟨rfl, rfl⟩
  exact ⟨⟨_, Heap.get?_push_size _ rfl, rfl⟩, h⟩
theorem rev_range_src {h₀ : Heap} {L : Addr} {m : Str → Option Value} {news : List (Addr × Obj)} {r : Addr} {n : Nat} {t u v : Tok} {Q : Value → Shared → Prop} (hh : A.handled = none) (F : Fr h₀ L s.heap m) (N : News h₀ L s.heap news)
    (hr : IsRange s.heap r 0 n 1 t u v) (hn : n ≤ 1000000)
    (h : ∀ I h', Src prog w A h₀ L { s with heap := h' } m news I [] n (fun i v => ∃ t, v = .int ((n : Int) - 1 - i) t) → Q (.ref I) { s with heap := h' }) : wpAny (model prog w) A (call (.type "reversed") [.ref r]) Q E s := by
  refine call_reversed_range hr hn (h _ _ ?_)
  have W := Walks.range (prog := prog) (w := w) hh s.heap.objs.size ((n : Int) - 1) (-1) n
  have hP : (fun (i : Nat) (v : Value) => ∃ t, v = .int ((n : Int) - 1 + (i : Int) * (-1)) t) = fun i v => ∃ t, v = .int ((n : Int) - 1 - i) t := by
    funext i v
    have : (n : Int) - 1 + (i : Int) * (-1) = (n : Int) - 1 - i := by omega
    rw [this]
  rw [hP] at W
  exact ⟨_, W, fun _ _ st => ⟨_, st⟩, next_is_new F, fun e => absurd F.ns.lt (e ▸ Nat.lt_irrefl _), fun p hp e => absurd (Heap.lt_size (N p hp).1) (e ▸ Nat.lt_irrefl _),
    by show IsRangeIter _ _ _ _ _; simpa [rrevObj] using Heap.get?_push_size s.heap (o := rrevObj n) rfl, F.push _, fun p hp => ⟨Heap.get?_push_of_some _ (N p hp).1, (N p hp).2⟩⟩
theorem iter_self {h₀ : Heap} {L : Addr} {m : Str → Option Value} {news src : List (Addr × Obj)} {I : Addr} {n : Nat} {P : Nat → Value → Prop} {Q : Value → Shared → Prop} (S : Src prog w A h₀ L s m news I src n P) (h : Q (.ref I) s) :
    wpAny (model prog w) A (pyIter (.ref I)) Q E s := by
  obtain ⟨St, W, _, _, _, _, hst, _, _⟩ := S
  exact W.self 0 s Q E hst h
end
end Mine
section
open LCg
open LCg LCt
namespace Mine
section
variable {prog : Program} {w : World} {A : Around} {E : Value → Shared → Prop} {s : Shared} {h₀ : Heap} {env : Env} {x : Str} {body : List Stmt} {Q : Flow → Shared → Prop}
theorem loop_tail {I : Addr} {src : List (Addr × Obj)} {n : Nat} {P : Nat → Value → Prop} {m : Str → Option Value} {rest tl₀ : List (Addr × Obj)}
    (S : Src prog w A h₀ env.locals s m (tl₀ ++ rest) I src n P) (hsrc : ∀ p ∈ src, p ∈ rest)
    (K : Nat → (Str → Option Value) → List (Addr × Obj) → Prop) (hk : K 0 m tl₀)
    (turn : ∀ i v m₁  tl it h tk, i < n → P i v → K  i m₁ tl → (∀ p ∈ tl ++ rest, p.1 ≠ I) → Fr h₀ env.locals h (fun y => if y = x then some v else m₁ y) → News h₀ env.locals h ((I, it) :: (tl ++ rest)) →
      wpAny (model prog w) A (execs body env) (TurnPost h₀ env.locals I it (Hot0  K rest (i + 1)) { s with heap := h, toks := tk } Q) E { s with heap := h, toks := tk })
    (done : ∀ m₁  tl h tk, K  n m₁ tl → Fr h₀ env.locals h m₁ → News h₀ env.locals h ((tl ++ rest)) → Q .next { s with heap := h, toks := tk }) :
    LoopAtV prog w A h₀ env x body Q E (.ref I) s := by
  obtain ⟨St, W, hlive, hI, hLI, hoff, hst, F, N⟩ := S
  refine loop_src W hlive hI hLI hoff hst F N (Hot0  K rest) ⟨tl₀, rfl, hk⟩ ?_ ?_ ?_
  · rintro i m nx ⟨tl, rfl, _⟩ p hp
    exact List.mem_append_right _ (hsrc p hp)
  · rintro i v m₁ nx it h tk hi hP ⟨tl, rfl, hK⟩ hoff F₁ N₁
    exact turn i v m₁  tl it h tk hi hP hK   (fun p hp => hoff p (hp)) F₁ N₁
  · rintro m₁ nx h tk ⟨tl, rfl, hK⟩ F₁ N₁
    exact done m₁  tl h tk hK  F₁ N₁
end
section
variable {prog : Program} {w : World} {A : Around} {s : Shared} {h₀ : Heap} {L : Addr} {m : Str → Option Value} {env : Env} {elt ct : Expr} {x x₂ : Str} {scope : Scope} {cl : List (Str × Addr)} {S : List (Addr × Obj) → Prop} {P : Nat → Value → Prop} {Fin : List Value → List (Addr × Obj) → Prop}
theorem end_mono {I : Addr} {oI : Obj} {C : Addr} {oC : Obj} {D : Addr} {oD : Obj} {s₁ s₂ : Shared} {r r' : Value → List (Addr × Obj) → Prop} {y : Value} (h : CompEnd h₀ L m s₁ I oI C oC D oD S r y s₂) (hr : ∀ y n, r y n → r' y n) : CompEnd h₀ L m s₁ I oI C oC D oD S r' y s₂ := by
  obtain ⟨h', tk, nw, a, b, c, d, e, f⟩ := h
  exact ⟨h', tk, nw, a, b, c, d, e, hr _ _ f⟩
theorem comp_all {n : Nat} {news : List (Addr × Obj)} (K : Nat → List Value → List (Addr × Obj) → Prop) (h0 : K 0 [] news)
    (turn : ∀ i ys news', i < n → K i ys news' → ∀ v I oI C oC D m₂ h tk (E' : Value → Shared → Prop), P i v → NsObj oC m₂ → m₂ x = some v → Fr h₀ L h m → News h₀ L h ((I, oI) :: (C, oC) :: (D, lst ys) :: news') → Off3 I C D news' → ((@Ne Nat I C) ∧ (@Ne Nat I D) ∧ (@Ne Nat C D)) →
      wpAny (model prog w) A (eval elt (compEnvC scope cl C env)) (CompEnd h₀ L m { s with heap := h, toks := tk } I oI C oC D (lst ys) S (fun y news'' => K (i + 1) (ys ++ [y]) news'')) E' { s with heap := h, toks := tk })
    (fin : ∀ ys news', K n ys news' → Fin ys news') : CompRest prog w A h₀ L m env elt x scope cl s S P Fin n 0 [] news := by
  have go : ∀ (k i : Nat) (ys : List Value) (nw : List (Addr × Obj)), i + k = n → K i ys nw → CompRest prog w A h₀ L m env elt x scope cl s S P Fin k i ys nw := by
    intro k
    induction k with
    | zero => intro i ys nw e hk; exact fin _ _ (by rw [← e]; exact hk)
    | succ k ih =>
      intro i ys nw e hk v I oI C oC D m₂ h tk E' hP hC hx F N o ne
      exact wpAny_mono (turn i ys nw (by omega) hk v I oI C oC D m₂ h tk E' hP hC hx F N o ne) (fun y s' hy => end_mono hy fun y nn hk' => ih (i + 1) _ _ (by omega) hk') fun _ _ e => e
  exact go n 0 [] news (by omega) h0
end
section
variable {prog : Program} {w : World} {A : Around} {s : Shared} {h₀ : Heap} {L : Addr} {m : Str → Option Value} {env : Env} {elt ct : Expr} {x x₂ : Str} {scope : Scope} {cl : List (Str × Addr)} {S : List (Addr × Obj) → Prop} {P : Nat → Value → Prop} {Fin : List Value → List (Addr × Obj) → Prop}
theorem comp_allT {n : Nat} {news : List (Addr × Obj)} (K : Nat → List Value → List (Addr × Obj) → Prop) (h0 : K 0 [] news)
    (turn : ∀ i ys news', i < n → K i ys news' → ∀ v I oI C oC D m₂ h tk (E' : Value → Shared → Prop), P i v → NsObj oC m₂ → m₂ x = some v → Fr h₀ L h m → News h₀ L h ((I, oI) :: (C, oC) :: (D, lst ys) :: news') → Off3 I C D news' → ((@Ne Nat I C) ∧ (@Ne Nat I D) ∧ (@Ne Nat C D)) →
      wpAny (model prog w) A (isTrue ct (compEnvC scope cl C env) (eval ct (compEnvC scope cl C env))) (fun ok s' => if ok = true then
        wpAny (model prog w) A (eval elt (compEnvC scope cl C env)) (CompEnd h₀ L m { s with heap := h, toks := tk } I oI C oC D (lst ys) S (fun y news'' => K (i + 1) (ys ++ [y]) news'')) E' s'
        else CompEnd h₀ L m { s with heap := h, toks := tk } I oI C oC D (lst ys) S (fun _ news'' => K (i + 1) ys news'') Value.none s') E' { s with heap := h, toks := tk })
    (fin : ∀ ys news', K n ys news' → Fin ys news') : CompRestT prog w A h₀ L m env ct elt x scope cl s S P Fin n 0 [] news := by
  have go : ∀ (k i : Nat) (ys : List Value) (nw : List (Addr × Obj)), i + k = n → K i ys nw → CompRestT prog w A h₀ L m env ct elt x scope cl s S P Fin k i ys nw := by
    intro k
    induction k with
    | zero => intro i ys nw e hk; exact fin _ _ (by rw [← e]; exact hk)
    | succ k ih =>
      intro i ys nw e hk v I oI C oC D m₂ h tk E' hP hC hx F N o ne
      refine wpAny_mono (turn i ys nw (by omega) hk v I oI C oC D m₂ h tk E' hP hC hx F N o ne) (fun ok s' hy => ?_) fun _ _ e => e
      cases ok with
      | true => exact wpAny_mono hy (fun y s' hy => end_mono hy fun y nn hk' => ih (i + 1) _ _ (by omega) hk') fun _ _ e => e
      | false =>
        simp only [Bool.false_eq_true, if_false] at hy ⊢
        exact end_mono hy fun y nn hk' => ih (i + 1) _ _ (by omega) hk'
  exact go n 0 [] news (by omega) h0
end
theorem sp_init (ws : List Value) : slicePick ws.toArray none (some (-1)) none = ws.dropLast.toArray := by
  have := slicePick_butLast ws.toArray 1 (Nat.le_refl 1)
  rw [show (-((1 : Nat) : Int)) = -1 from rfl] at this
  rw [this, List.dropLast_eq_take, List.size_toArray]
theorem sp_upto (ws : List Value) (k : Nat) : slicePick ws.toArray none (some (k : Int)) none = (ws.take k).toArray := by
  rw [slicePick_upto']
theorem sp_from (ws : List Value) (k : Nat) : slicePick ws.toArray (some (k : Int)) none none = (ws.drop k).toArray := by
  rw [slicePick_from']
theorem str_len0 {c : Str} (h : c.length = 0) : c = Str.ofString "" := by
  rcases c with ⟨a⟩
  have : a = #[] := Array.eq_empty_of_size_eq_zero h
  subst this
  exact ofString_empty.symm
section
variable {prog : Program} {w : World} {A : Around} {E : Value → Shared → Prop} {s : Shared} {h₀ : Heap} {L D : Addr} {m : Str → Option Value} {news : List (Addr × Obj)} {n : Nat} {ws : List Value} {ys : List Str}
theorem hot_itemS {value slice : Expr} {k : Int} {u : Tok} {Q : Value → Shared → Prop} {o : Obj} (N : News h₀ L s.heap news) (hm : (D, o) ∈ news) (hc : o.cls = .type "list") (hd : o.data = .seq ws.toArray n) (hS : StrsAre ws ys) (h0 : 0 ≤ k) (h1 : k < ws.length) (h2 : k < 2 ^ 63)
    (h : ∀ y t, ws[k.toNat]? = some (.str y t) → ys[k.toNat]? = some y → Q (.str y t) s)
    (hs : subscripted slice false (.ref D) (.int k u) = operate [.ref D, .int k u] (getItem (.ref D) (.int k u)) := by with_unfolding_all rfl) :
    wpAny (model prog w) A (subscriptTail value slice (.ref D) (.int k u)) Q E s := by
  have hl : s.heap.IsList D ws.toArray := ⟨o, (N _ hm).1, hc, n, hd⟩
  have hk : k.toNat < ws.length := by omega
  have hv : ws[k.toNat]? = some (ws[k.toNat]'hk) := List.getElem?_eq_getElem hk
  obtain ⟨y, t, e1, e2⟩ := hS.item _ _ hv
  rw [e1] at hv
  refine tail_any hl.typeIs slot_list_getitem.lookup (wpAny_getItem_list (x := .str y t) hl h0 h2 ?_ (h _ t hv e2)) hs
  rw [List.getElem?_toArray]; exact hv
end
def WExit (h₀ : Heap) (L : Addr) (s : Shared) (X : (Str → Option Value) → List (Addr × Obj) → Prop) (s₂ : Shared) : Prop :=
  ∃ h' tk m' nx, s₂ = { s with heap := h', toks := tk } ∧ Fr h₀ L h' m' ∧ News h₀ L h' nx ∧ X m' nx
theorem WExit.intro {h₀ : Heap} {L : Addr} {s : Shared} {X : (Str → Option Value) → List (Addr × Obj) → Prop} {h' : Heap} {tk : Nat} {m' : Str → Option Value} {nx : List (Addr × Obj)} (F : Fr h₀ L h' m') (N : News h₀ L h' nx) (x : X m' nx) :
    WExit h₀ L s X { s with heap := h', toks := tk } := ⟨h', tk, m', nx, rfl, F, N, x⟩
theorem WStep.intro {h₀ : Heap} {L : Addr} {s : Shared} {J : Nat → (Str → Option Value) → List (Addr × Obj) → Prop} {Q : Flow → Shared → Prop} {n : Nat} {h' : Heap} {tk : Nat} {m' : Str → Option Value} {nx : List (Addr × Obj)} (F : Fr h₀ L h' m') (N : News h₀ L h' nx) (n' : Nat) (hn : n' < n) (x : J n' m' nx) :
    WhileStep2 h₀ L s J Q n .next { s with heap := h', toks := tk } := ⟨h', tk, m', nx, n', rfl, F, N, hn, x⟩
section
variable {prog : Program} {w : World} {A : Around} {E : Value → Shared → Prop} {s : Shared} {env : Env} {h₀ : Heap} {L : Addr} {Q : Flow → Shared → Prop}
def WQ (h₀ : Heap) (L : Addr) (s : Shared) (X : (Str → Option Value) → List (Addr × Obj) → Prop) (Q : Flow → Shared → Prop) (f : Flow) (s₂ : Shared) : Prop :=
  match f with
  | .ret v => Q (.ret v) s₂
  | _ => WExit h₀ L s X s₂
theorem While_cut {test : Expr} {body : List Stmt} {pos : Pos} {m : Str → Option Value} {news : List (Addr × Obj)} (J : Nat → (Str → Option Value) → List (Addr × Obj) → Prop) (X : (Str → Option Value) → List (Addr × Obj) → Prop) {n₀ : Nat}
    (F : Fr h₀ L s.heap m) (N : News h₀ L s.heap news) (hJ : J n₀ m news)
    (turn : ∀ n m₁ news₁ h₁ tk₁, Fr h₀ L h₁ m₁ → News h₀ L h₁ news₁ → J n m₁ news₁ →
      wpAny (model prog w) A (isTrue test env (eval test env)) (fun b s₂ =>
        if b = true then wpAny (model prog w) A (execs body env) (WhileStep2 h₀ L s J (WQ h₀ L s X Q) n) E s₂ else WExit h₀ L s X s₂) E { s with heap := h₁, toks := tk₁ })
    (exit : ∀ m₁ nx h tk, X m₁ nx → Fr h₀ L h m₁ → News h₀ L h nx → Q .next { s with heap := h, toks := tk })
    (hE : PassesOwn (model prog w) A env E := by passes_own) :
    wpAny (model prog w) A (exec (.While test body [] pos) env) Q E s := by
  have hx : ∀ s₂, WExit h₀ L s X s₂ → Q .next s₂ := by
    rintro s₂ ⟨h', tk, m', nx, rfl, F, N, x⟩
    exact exit m' nx h' tk x F N
  refine While_inv2 J F N hJ ?_ hE
  intro n m₁ news₁ h₁ tk₁ F₁ N₁ hJ₁
  refine wpAny_mono (turn n m₁ news₁ h₁ tk₁ F₁ N₁ hJ₁) (fun b s₂ hb => ?_) fun _ _ e => e
  cases b with
  | false =>
    simp only [Bool.false_eq_true, if_false] at hb ⊢
    exact hx _ hb
  | true =>
    simp only [if_true] at hb ⊢
    refine wpAny_mono hb (fun f s₃ hf => ?_) fun _ _ e => e
    cases f with
    | next => exact hf
    | cont => exact hf
    | brk => exact hx _ hf
    | ret v => exact hf
end
section
variable {prog : Program} {w : World} {A : Around} {E : Value → Shared → Prop} {s : Shared} {h₀ : Heap} {env : Env}
theorem iter_range0 {r : Addr} {b₀ : Int} {t₀ u₀ v₀ : Tok} {n : Nat} {m : Str → Option Value} {news : List (Addr × Obj)} {Q' : Value → Shared → Prop}
    (hh : A.handled = none) (hr : IsRange s.heap r 0 b₀ 1 t₀ u₀ v₀) (hb : b₀ = (n : Int)) (hn : n ≤ 1000000)
    (F : Fr h₀ env.locals s.heap m) (N : News h₀ env.locals s.heap news)
    (h : ∀ I h', Src prog w A h₀ env.locals { s with heap := h' } m news I [] n (fun i v => ∃ t, v = .int (i : Int) t) → Q' (.ref I) { s with heap := h' }) :
    wpAny (model prog w) A (pyIter (.ref r)) Q' E s := by
  subst hb
  refine iter_range hh hr (small_one (by omega) (by omega) (by omega) (by omega)) (by rw [rangeSize_nat, Int.sub_zero, Int.toNat_natCast]) F N ?_
  intro I h' S
  have hP : (fun (i : Nat) (v : Value) => ∃ t, v = .int (0 + (i : Int)) t) = fun i v => ∃ t, v = .int (i : Int) t := by
    funext i v; rw [Int.zero_add]
  rw [hP] at S
  exact h I h' S
end
end Mine
end
namespace Mine
section
variable {prog : Program} {w : World} {A : Around} {E : Value → Shared → Prop} {s : Shared} {env : Env} {h₀ : Heap} {target : Expr} {body : List Stmt} {Q : Flow → Shared → Prop}
theorem items_all {ws : List (Addr × String)} {keep : List (Addr × Obj)} {xs : List Itm} {m : Str → Option Value} {news : List (Addr × Obj)}
    (K : Nat → (Str → Option Value) → List (Addr × Obj) → Prop) (h0 : K 0 m news)
    (turn : ∀ i a v h tk m₁ nw₁, xs[i]? = some a → a.Is v h → K i m₁ nw₁ → Fr h₀ env.locals h m₁ → AllObj ws (fun its => News h₀ env.locals h (its ++ nw₁) →
      wpAny (model prog w) A (assign target env v) (fun _ s₂ => wpAny (model prog w) A (execs body env) (UnrPostW h₀ env.locals { s with heap := h, toks := tk } its (fun m' n' => SubL keep n' ∧ K (i + 1) m' n') Q) E s₂) E { s with heap := h, toks := tk }))
    (done : ∀ m' n' h tk, K xs.length m' n' → Fr h₀ env.locals h m' → News h₀ env.locals h n' → Q .next { s with heap := h, toks := tk }) :
    ItemsRest prog w A E h₀ env target body Q s ws keep xs m news := by
  have mono : ∀ (its : List (Addr × Obj)) (s₁ : Shared) (R R' : (Str → Option Value) → List (Addr × Obj) → Prop) (f : Flow) (s₂ : Shared), (∀ m n, R m n → R' m n) → UnrPostW h₀ env.locals s₁ its R Q f s₂ → UnrPostW h₀ env.locals s₁ its R' Q f s₂ := by
    intro its s₁ R R' f s₂ hr h
    have e : UnrEndW h₀ env.locals s₁ its R s₂ → UnrEndW h₀ env.locals s₁ its R' s₂ := by
      rintro ⟨h', tk, m', n', a, b, c, d, r⟩
      exact ⟨h', tk, m', n', a, b, c, d, hr _ _ r⟩
    cases f with
    | ret v => exact h
    | brk => exact h
    | cont => exact e h
    | next => exact e h
  have objm : ∀ (ws : List (Addr × String)) (k k' : List (Addr × Obj) → Prop), (∀ its, k its → k' its) → AllObj ws k → AllObj ws k' := by
    intro ws
    induction ws with
    | nil => intro k k' hk h; exact hk _ h
    | cons a r ih => intro k k' hk h o ho; exact ih _ _ (fun its => hk _) (h o ho)
  have go : ∀ (r : List Itm) (i : Nat) (m₁ : Str → Option Value) (nw₁ : List (Addr × Obj)), xs.drop i = r → i + r.length = xs.length → K i m₁ nw₁ → ItemsRest prog w A E h₀ env target body Q s ws keep r m₁ nw₁ := by
    intro r
    induction r with
    | nil =>
      intro i m₁ nw₁ e hi hk h tk F N
      have e2 : i = xs.length := by simpa using hi
      exact done _ _ _ _ (e2 ▸ hk) F N
    | cons a r ih =>
      intro i m₁ nw₁ e hi hk v h tk hav F
      have hx : xs[i]? = some a := by
        have := congrArg List.head? e
        rw [List.head?_drop] at this
        exact this
      refine objm _ _ _ (fun its hh N => ?_) (turn i a v h tk m₁ nw₁ hx hav hk F)
      refine wpAny_mono (hh N) (fun _ s₂ h₂ => wpAny_mono h₂ (fun f s₃ h₃ => ?_) fun _ _ e => e) fun _ _ e => e
      refine mono _ _ _ _ _ _ (fun m' n' hr => ⟨hr.1, ih (i + 1) _ _ ?_ (by rw [List.length_cons] at hi; omega) hr.2⟩) h₃
      have := congrArg List.tail e
      rw [List.tail_drop] at this
      exact this
  exact go xs 0 m news rfl (Nat.zero_add _) h0
theorem hot_slice {h₀ : Heap} {L l : Addr} {m : Str → Option Value} {news : List (Addr × Obj)} {o : Obj} {ws : List Value} {n : Nat} {value slice : PySem.Expr} {vl vu : Value} {lo hi : Option Int} {Q : Value → Shared → Prop}
    (F : Fr h₀ L s.heap m) (N : News h₀ L s.heap news) (hm : (l, o) ∈ news) (hc : o.cls = .type "list") (hd : o.data = .seq ws.toArray n) (pl : IsPart vl lo) (pu : IsPart vu hi)
    (h : ∀ D h', Fr h₀ L h' m → News h₀ L h' ((D, listOf (slicePick ws.toArray lo hi none) 0) :: news) → (∀ p ∈ news, p.1 < D) → Q (.ref D) { s with heap := h' })
    (hs : subscripted slice false (.ref l) (.ref s.heap.objs.size) = operate [.ref s.heap.objs.size, .ref l] (getItem (.ref l) (.ref s.heap.objs.size))) (ht : ∀ r, letTemporaryGo value (.ref l) r = pure ()) (hz : ws.length ≤ 1000000) :
    wpAny (model prog w) A (subscriptTail value slice (.ref l) (.ref s.heap.objs.size)) Q E { s with heap := s.heap.push { cls := .type "slice", data := .fields #[vl, vu, .none] } } :=
  kmk_slice F N ⟨o, (N _ hm).1, hc, n, hd⟩ pl pu h hs ht (by rw [List.size_toArray, sizeLine_eq]; omega)
theorem hot_rev {h₀ : Heap} {L l : Addr} {m : Str → Option Value} {news : List (Addr × Obj)} {o : Obj} {ws : List Value} {n : Nat} {value slice : PySem.Expr} {vk : Value} {ops : List Value} {Q : Value → Shared → Prop}
    (F : Fr h₀ L s.heap m) (N : News h₀ L s.heap news) (hm : (l, o) ∈ news) (hc : o.cls = .type "list") (hd : o.data = .seq ws.toArray n) (pk : IsPart vk (some (-1)))
    (h : ∀ D h', Fr h₀ L h' m → News h₀ L h' ((D, listOf ws.reverse.toArray 0) :: news) → (∀ p ∈ news, p.1 < D) → Q (.ref D) { s with heap := h' })
    (hs : subscripted slice false (.ref l) (.ref s.heap.objs.size) = operate ops (getItem (.ref l) (.ref s.heap.objs.size))) (ht : ∀ r, letTemporaryGo value (.ref l) r = pure ()) (hz : ws.length ≤ 1000000) :
    wpAny (model prog w) A (subscriptTail value slice (.ref l) (.ref s.heap.objs.size)) Q E { s with heap := s.heap.push { cls := .type "slice", data := .fields #[.none, .none, vk] } } :=
  krv_lit (its := ws.toArray) F N ⟨o, (N _ hm).1, hc, n, hd⟩ pk (by simp) h hs ht (by rw [List.size_toArray, sizeLine_eq]; omega)
theorem hot_add {h₀ : Heap} {L a b : Addr} {m : Str → Option Value} {news : List (Addr × Obj)} {o1 o2 : Obj} {ws us : List Value} {n1 n2 : Nat} {Q : Value → Shared → Prop}
    (F : Fr h₀ L s.heap m) (N : News h₀ L s.heap news) (hm1 : (a, o1) ∈ news) (hc1 : o1.cls = .type "list") (hd1 : o1.data = .seq ws.toArray n1) (hm2 : (b, o2) ∈ news) (hc2 : o2.cls = .type "list") (hd2 : o2.data = .seq us.toArray n2)
    (h : ∀ D h', Fr h₀ L h' m → News h₀ L h' ((D, listOf (ws ++ us).toArray 0) :: news) → (∀ p ∈ news, p.1 < D) → Q (.ref D) { s with heap := h' })
    (hz : ws.length + us.length ≤ 1000000) : wpAny (model prog w) A (binaryOp .Add (.ref a) (.ref b)) Q E s :=
  kmk_add_lit (its := ws.toArray) (its2 := us.toArray) F N ⟨o1, (N _ hm1).1, hc1, n1, hd1⟩ ⟨o2, (N _ hm2).1, hc2, n2, hd2⟩ rfl h (by simp only [List.toList_toArray, sizeLine_eq]; omega)
theorem split_room {l : List (Str × Tok)} {x y : Str} {k : Nat} (h : l.map (fun x => x.1) = Txt.split x y) (hb : (Txt.split x y).length ≤ k) : (strValues l).length ≤ k := by
  rw [← h, List.length_map] at hb
  simpa [strValues] using hb
theorem enum_end {h₀ : Heap} {L I : Addr} {o1 o2 : Obj} {rest : (Str → Option Value) → List (Addr × Obj) → Prop} {s₁ : Shared} {h' : Heap} {tk : Nat} {m' : Str → Option Value} {nw : List (Addr × Obj)} (F : Fr h₀ L h' m') (N : News h₀ L h' ((I + 1, o1) :: (I, o2) :: nw))
    (hI : ∀ p ∈ nw, p.1 < I) (r : rest m' nw) : UnrEndW h₀ L s₁ [(I + 1, o1), (I, o2)] rest { s₁ with heap := h', toks := tk } := by
  refine ⟨h', tk, m', nw, rfl, F, N, fun p hp q hq => ?_, r⟩
  have h1 := hI p hp
  rcases List.mem_cons.mp hq with rfl | hq
  · exact Nat.ne_of_lt (Nat.lt_succ_of_lt h1)
  · rw [List.mem_singleton.mp hq]; exact Nat.ne_of_lt h1
end
end Mine
namespace Mine
theorem slot_map_next : Slot "map" "__next__" "map.__next__" :=
  .of (owner := "map") (n := "__next__") (by rw [typeLookup_type, builtinLookup_eq_fast]; kernel_rfl) (by decide +kernel) (by decide +kernel) (by decide +kernel)
    (by first | exact .inl (by decide +kernel) | exact .inr (by decide +kernel)) (by rw [isSubtype_type]; kernel_rfl)
theorem slot_map_iter : Slot "map" "__iter__" "map.__iter__" :=
  .of (owner := "map") (n := "__iter__") (by rw [typeLookup_type, builtinLookup_eq_fast]; kernel_rfl) (by decide +kernel) (by decide +kernel) (by decide +kernel)
    (by first | exact .inl (by decide +kernel) | exact .inr (by decide +kernel)) (by rw [isSubtype_type]; kernel_rfl)
theorem slot_map_init : Slot "map" "__init__" "object.__init__" :=
  .of (owner := "object") (n := "__init__") (by rw [typeLookup_type, builtinLookup_eq_fast]; kernel_rfl) (by decide +kernel) (by decide +kernel) (by decide +kernel)
    (by first | exact .inl (by decide +kernel) | exact .inr (by decide +kernel)) (by rw [isSubtype_type]; kernel_rfl)
theorem entry_map_next : entryFor table "map.__next__" = some Builtin.«map.__next__» := entryFor_of_tree (by kernel_rfl)
theorem entry_map_new : entryFor table "map.__new__" = some Builtin.«map.__new__» := entryFor_of_tree (by kernel_rfl)
theorem owner_map : Manifest.owners.lookup (String.ofList ['p', 'a', 'm'].reverse) = some Manifest.sig_map := by kernel_rfl
theorem args_map_next_1 (a : Value) : argsOk "map.__next__" ⟨[a], []⟩ := by
  unfold argsOk; rw [signature?_of (id := "map.__next__") (n := ['_', '_', 't', 'x', 'e', 'n', '_', '_']) (o := ['p', 'a', 'm']) (by kernel_rfl) owner_map]; kernel_rfl
theorem args_map_iter_1 (a : Value) : argsOk "map.__iter__" ⟨[a], []⟩ := by
  unfold argsOk; rw [signature?_of (id := "map.__iter__") (n := ['_', '_', 'r', 'e', 't', 'i', '_', '_']) (o := ['p', 'a', 'm']) (by kernel_rfl) owner_map]; kernel_rfl
theorem entry_map_iter : entryFor table "map.__iter__" = some Builtin.«dict_keyiterator.__iter__» :=
  entryFor_alias (id' := "dict_keyiterator.__iter__") (by kernel_rfl) (by first | rfl | decide +kernel | (unfold String.splitOn; simp +decide [String.splitOnAux])) (by decide +kernel) (by kernel_rfl)
theorem mro_map : mroOf (.type "map") = pure [.type "map", .type "object"] := by rw [mroOf_type]; kernel_rfl
theorem lookup_map_new : typeLookup (.type "map") "__new__" = pure (some (.builtin "map.__new__")) := by rw [typeLookup_type, builtinLookup_eq_fast]; kernel_rfl
theorem called_map : TypeCalled "map" "map.__new__" "object.__init__" :=
  ⟨by decide +kernel, by decide +kernel, ⟨_, _, mro_map⟩, madeBy_type mro_map lookup_map_new (by decide +kernel), by decide +kernel, by rw [isSubtype_type]; kernel_rfl, slot_map_init⟩
theorem typeCall_map_2 (a b : Value) : checkTypeCall "map" ⟨[a, b], []⟩ = pure () := by kernel_rfl
theorem newCall_map_2 (a b : Value) : checkBuiltinCall "map.__new__" ⟨[.type "map", a, b], []⟩ = pure () := by kernel_rfl
theorem sub_map : isSubtype (.type "map") (.type "map") = pure true := by rw [isSubtype_type]; kernel_rfl
theorem map_no_len : typeLookup (.type "map") "__len__" = pure none := by rw [typeLookup_type, builtinLookup_eq_fast]; kernel_rfl
theorem map_no_hint : typeLookup (.type "map") "__length_hint__" = pure none := by rw [typeLookup_type, builtinLookup_eq_fast]; kernel_rfl
abbrev mapObj (TI : Addr) (f : Value) : Obj := { cls := .type "map", data := .fields #[.ref TI, f] }
abbrev mapH1 (h : Heap) (l : Addr) : Heap := h.push { cls := .type "list_iterator", data := .fields #[.ref l, .int 0 0] }
abbrev mapH2 (h : Heap) (l : Addr) : Heap := (mapH1 h l).push { cls := .type "tuple", data := .seq #[.ref h.objs.size] }
abbrev mapH3 (h : Heap) (l : Addr) (f : Value) : Heap := (mapH2 h l).push (mapObj (mapH1 h l).objs.size f)
theorem meets_map_new (l : Addr) (xs : Array Value) (f : Addr) :
    Meets (Builtin.«map.__new__» ⟨[.type "map", .ref f, .ref l], []⟩) (fun _ R s => s.heap.IsList l xs ∧
      R (.ok (.ret (.ref (mapH2 s.heap l).objs.size))) { s with heap := mapH3 s.heap l (.ref f) }) :=
  .of_wp fun prog w A R s h => by
    obtain ⟨hp, g, d, tk, os⟩ := s; obtain ⟨hl1, h⟩ := h
    have hsub := sub_map
    have hL1 : Heap.IsList (Shared.heap ⟨hp, g, d, tk, os⟩) l xs := hl1
    wp_walk using wpAny_pyIter_list hL1
    exact ⟨_, rfl, h⟩
end Mine
namespace Mine
section
variable {prog : Program} {w : World} {A : Around} {E : Value → Shared → Prop} {s : Shared} {h₀ : Heap} {L : Addr} {m : Str → Option Value} {news : List (Addr × Obj)}
abbrev liObj (l : Addr) (i : Nat) : Obj := { cls := .type "list_iterator", data := .fields #[.ref l, .int i 0] }
abbrev tup1 (a : Addr) : Obj := { cls := .type "tuple", data := .seq #[.ref a] }
theorem call_map_2 {l f : Addr} {xs : Array Value} {Q : Value → Shared → Prop} (F : Fr h₀ L s.heap m) (N : News h₀ L s.heap news) (hl : s.heap.IsList l xs)
    (h : ∀ Z TI I h', Fr h₀ L h' m → News h₀ L h' ((Z, mapObj TI (.ref f)) :: (TI, tup1 I) :: (I, liObj l 0) :: news) → (∀ p ∈ news, p.1 < I) → I < TI → TI < Z → Q (.ref Z) { s with heap := h' }) :
    wpAny (model prog w) A (call (.type "map") [.ref f, .ref l]) Q E s := by
  refine callType_new called_map (by decide) (typeCall_map_2 _ _) (newCall_map_2 _ _) (fun obj => PySem.F.args_object_init_3 obj _ _) entry_map_new (meets_map_new l xs f) ⟨hl, ?_⟩
  have z1 : (mapH1 s.heap l).objs.size = s.heap.objs.size + 1 := Heap.size_push ..
  have z2 : (mapH2 s.heap l).objs.size = s.heap.objs.size + 2 := by rw [Heap.size_push, z1]
  have N1 := News.push F N (liObj l 0)
  have F1 := F.push (liObj l 0)
  have N2 := News.push F1 N1 (tup1 s.heap.objs.size)
  have F2 := F1.push (tup1 s.heap.objs.size)
  have N3 := News.push F2 N2 (mapObj (mapH1 s.heap l).objs.size (.ref f))
  have F3 := F2.push (mapObj (mapH1 s.heap l).objs.size (.ref f))
  refine ⟨⟨_, Heap.get?_push_size _ rfl, rfl⟩, h _ _ _ _ F3 N3 (fun p hp => Heap.lt_size (N p hp).1) ?_ ?_⟩
  · show s.heap.objs.size < (mapH1 s.heap l).objs.size
    rw [z1]; exact Nat.lt_succ_self _
  · show (mapH1 s.heap l).objs.size < (mapH2 s.heap l).objs.size
    rw [z1, z2]; exact Nat.lt_succ_self _
theorem next_map_item {Z TI I l : Addr} {f x : Value} {k : Nat} {xs : Array Value} {Q : Option Value → Shared → Prop} (hz : s.heap.get? Z = some (mapObj TI f)) (hT : s.heap.get? TI = some (tup1 I)) (hi : s.heap.IsListIter I l k) (hl : s.heap.IsList l xs) (hx : xs[k]? = some x)
    (hZI : Z ≠ I) (h : ∀ h', h'.IsListIter I l (k + 1) → Heap.SameBut I s.heap h' → wpAny (model prog w) A.in1 (call f [x]) (fun v s' => Q (some v) s') (fun _ _ => False) { s with heap := h' }) :
    wpAny (model prog w) A (pyNext (.ref Z)) Q E s := by
  have hTy : s.TypeIs (.ref Z) "map" := ⟨_, hz, rfl⟩
  unfold pyNext
  refine wpAny_bind (wpAny_attempt (wpAny_callSpecial?_slot (name := Str.ofString "__next__") hTy slot_map_next
    (wpAny_call_entry slot_map_next hTy entry_map_next ?_ (args_map_next_1 _))))
  show wpAny _ _ (field (.ref Z) 0 >>= _) _ _ _
  refine wpAny_bind (wpAny_field hz rfl (x := .ref TI) rfl ?_)
  refine wpAny_bind (wpAny_seqItems hT rfl ?_)
  show wpAny _ _ (forIn (#[Value.ref I] : Array Value) (#[] : Array Value) _ >>= _) _ _ _
  simp only [List.forIn_toArray, List.forIn_cons, List.forIn_nil]
  refine wpAny_bind (wpAny_bind (wpAny_bind (wpAny_holding (wpAny_nextOf_list_item hi hl hx fun h' hi' hs' => wpAny_pure (wpAny_pure ?_)))))
  refine wpAny_bind (wpAny_field (hs'.extBut _ _ hZI hz) rfl (x := f) rfl ?_)
  refine wpAny_bind (wpAny_holding ?_)
  refine wpAny_mono (h h' hi' hs') (fun v s' hv => ?_) fun _ _ e => e.elim
  refine wpAny_bind (wpAny_letGo ?_)
  exact wpAny_pure ⟨v, rfl, wpAny_pure hv⟩
theorem next_map_end {Z TI I l : Addr} {f : Value} {k : Nat} {xs : Array Value} {Q : Option Value → Shared → Prop} (hh : A.handled = none) (hz : s.heap.get? Z = some (mapObj TI f)) (hT : s.heap.get? TI = some (tup1 I)) (hi : s.heap.IsListIter I l k) (hl : s.heap.IsList l xs) (hx : xs[k]? = none)
    (h : ∀ h', Heap.ExtBut I s.heap h' → Q none { s with heap := h' }) :
    wpAny (model prog w) A (pyNext (.ref Z)) Q E s := by
  have hTy : s.TypeIs (.ref Z) "map" := ⟨_, hz, rfl⟩
  unfold pyNext
  refine wpAny_bind (wpAny_attempt (wpAny_callSpecial?_slot (name := Str.ofString "__next__") hTy slot_map_next
    (wpAny_call_entry slot_map_next hTy entry_map_next ?_ (args_map_next_1 _))))
  show wpAny _ _ (field (.ref Z) 0 >>= _) _ _ _
  refine wpAny_bind (wpAny_field hz rfl (x := .ref TI) rfl ?_)
  refine wpAny_bind (wpAny_seqItems hT rfl ?_)
  show wpAny _ _ (forIn (#[Value.ref I] : Array Value) (#[] : Array Value) _ >>= _) _ _ _
  simp only [List.forIn_toArray, List.forIn_cons, List.forIn_nil]
  refine wpAny_bind (wpAny_bind (wpAny_bind (wpAny_holding (wpAny_nextOf_list_end hh hi hl hx fun h' e hs' he => ?_))))
  obtain ⟨o, ho, hc⟩ := he
  refine wpAny_bind (wpAny_isInstance (T := "StopIteration") (b := true) ⟨o, ho, hc⟩ isSubtype_stop ?_)
  exact wpAny_pure (h _ hs')
theorem iter_map {Z TI : Addr} {f : Value} {Q : Value → Shared → Prop} (hz : s.heap.get? Z = some (mapObj TI f)) (h : Q (.ref Z) s) : wpAny (model prog w) A (pyIter (.ref Z)) Q E s := by
  have hT : s.TypeIs (.ref Z) "map" := ⟨_, hz, rfl⟩
  refine wpAny_pyIter_slot hT slot_map_iter (wpAny_call_entry slot_map_iter hT entry_map_iter ?_ (args_map_iter_1 _))
  show wpAny _ _ (ret (.ref Z)) _ _ s
  exact wpAny_pure ⟨_, rfl, "map", _, hT, slot_map_next.lookup, h⟩
theorem extend_loop {Z S : Addr} {res : Value} {R : Result → Shared → Prop} {n : Nat} {vals : List Value} (hn : vals.length ≤ 100000) (J : Nat → Shared → Prop)
    (stab : ∀ i s h', J i s → (∀ b o, b ≠ S → s.heap.get? b = some o → h'.get? b = some o) → J i { s with heap := h' })
    (item : ∀ i v s c, vals[i]? = some v → J i s → s.heap.get? S = some (listOf (vals.take i).toArray c) → ∀ (E' : Value → Shared → Prop),
      wpAny (model prog w) A.in1 (pyNext (.ref Z)) (fun r s' => r = some v ∧ J (i + 1) s' ∧ s'.heap.get? S = some (listOf (vals.take i).toArray c)) E' s)
    (done : ∀ s c, J vals.length s → s.heap.get? S = some (listOf vals.toArray c) → ∀ (E' : Value → Shared → Prop),
      wpAny (model prog w) A.in1 (pyNext (.ref Z)) (fun r s' => r = none ∧ R (.ok (.ret res)) s') E' s) :
    ∀ (k i : Nat) (s : Shared) (c : Nat), vals.length - i = k → i ≤ vals.length → J i s → s.heap.get? S = some (listOf (vals.take i).toArray c) →
    codeAny (model prog w) A (.builtin "list.extend.loop" ⟨[.ref S, .ref Z, res], []⟩) R s := by
  intro k
  induction k with
  | zero =>
    intro i s c hk hi hst hS
    have hin : i = vals.length := by omega
    subst hin
    rw [List.take_length] at hS
    refine codeAny_builtin PySem.F.entry_extend_loop ?_
    rw [Around.under_plainId PySem.F.plain_extend_loop _]
    show wpAny _ A.in1 (pyNext (.ref Z) >>= _) _ _ s
    refine wpAny_bind (wpAny_mono (done s c hst hS _) (fun r s' hr => ?_) fun _ _ e => e)
    obtain ⟨rfl, hr⟩ := hr
    exact wpAny_pure hr
  | succ k ih =>
    intro i s c hk hi hst hS
    have hlt : i < vals.length := by omega
    refine codeAny_builtin PySem.F.entry_extend_loop ?_
    rw [Around.under_plainId PySem.F.plain_extend_loop _]
    show wpAny _ A.in1 (pyNext (.ref Z) >>= _) _ _ s
    refine wpAny_bind (wpAny_mono (item i vals[i] s c (List.getElem?_eq_getElem hlt) hst hS _) (fun r s' hr => ?_) fun _ _ e => e)
    obtain ⟨rfl, hJ, hS'⟩ := hr
    show wpAny _ A.in1 (updateSeq S (·.push vals[i]) >>= _) _ _ _
    refine wpAny_bind ?_
    refine wpAny_updateSeq hS' rfl (wpAny_pure ⟨plainId_quiet PySem.F.plain_extend_loop _, ih (i + 1) _ (c + 1) (by omega) hlt (stab _ _ _ hJ fun b o hb e => ?_) ?_⟩) ?_ ?_
    · exact (Heap.get?_update_other _ _ (fun h : S = b => hb h.symm)).trans e
    · rw [Heap.get?_update_self _ hS' rfl]
      have e : (vals.take i).toArray.push vals[i] = (vals.take (i + 1)).toArray := by
        rw [List.push_toArray, List.take_add_one, List.getElem?_eq_getElem hlt]; rfl
      rw [← e]
      exact congrArg some (mapSeq_push _ _ _ _ _)
    · rw [List.size_toArray, List.length_take]; exact Nat.le_trans (Nat.min_le_right _ _) (Nat.le_trans hn (by rw [sizeLine_eq]; omega))
    · show ((vals.take i).toArray.push vals[i]).size ≤ _
      rw [Array.size_push, List.size_toArray, List.length_take, sizeLine_eq]; omega
theorem collect_map {Z : Addr} {Q : List Value → Shared → Prop} {vals : List Value} (hn : vals.length ≤ 100000) (J : Nat → Shared → Prop) (hT : ∀ i s, J i s → ∃ o, s.heap.get? Z = some o ∧ o.cls = .type "map")
    (h0 : ∀ o h', h' = s.heap.push o → J 0 { s with heap := h' })
    (stab : ∀ i s₁ h', J i s₁ → (∀ b o, b ≠ s.heap.objs.size → s₁.heap.get? b = some o → h'.get? b = some o) → J i { s₁ with heap := h' })
    (self : ∀ i s₁ (Q' : Value → Shared → Prop) E', J i s₁ → Q' (.ref Z) s₁ → wpAny (model prog w) A.in1 (pyIter (.ref Z)) Q' E' s₁)
    (item : ∀ i v s₁ c, vals[i]? = some v → J i s₁ → s₁.heap.get? s.heap.objs.size = some (listOf (vals.take i).toArray c) → ∀ (E' : Value → Shared → Prop),
      wpAny (model prog w) A.in1 (pyNext (.ref Z)) (fun r s' => r = some v ∧ J (i + 1) s' ∧ s'.heap.get? s.heap.objs.size = some (listOf (vals.take i).toArray c)) E' s₁)
    (done : ∀ s₁ c, J vals.length s₁ → s₁.heap.get? s.heap.objs.size = some (listOf vals.toArray c) → ∀ (E' : Value → Shared → Prop),
      wpAny (model prog w) A.in1 (pyNext (.ref Z)) (fun r s' => r = none ∧ Q vals s' ∧ s'.heap.get? s.heap.objs.size = some (listOf vals.toArray c)) E' s₁) :
    wpAny (model prog w) A (collect (.ref Z)) Q E s := by
  unfold collect
  refine wpAny_bind (wpAny_runValue (codeAny_builtin PySem.F.entry_proto_collect ?_))
  rw [Around.under_plainId PySem.F.plain_proto_collect _]
  show wpAny _ A.in1 (newList [] >>= fun l => again (.builtin "list.__iadd__" ⟨[l, .ref Z], []⟩)) _ _ s
  refine wpAny_bind (wpAny_newObj_type ?_)
  refine wpAny_pure ⟨plainId_quiet PySem.F.plain_list_iadd _, codeAny_builtin PySem.F.entry_list_iadd ?_⟩
  rw [Around.under_plainId PySem.F.plain_list_iadd _]
  have hJ0 := h0 { cls := .type "list", data := .seq ([] : List Value).toArray } _ rfl
  show wpAny _ A.in1 (Builtin.List.listExtendWith (.ref s.heap.objs.size) (.ref Z) (.ref s.heap.objs.size)) _ _ _
  unfold Builtin.List.listExtendWith
  have hT0 := hT 0 _ hJ0
  refine wpAny_bind (wpAny_typeOf (T := "map") hT0 ?_)
  have hS₁ : (s.heap.push { cls := .type "list", data := .seq ([] : List Value).toArray }).get? s.heap.objs.size = some { cls := .type "list", data := .seq ([] : List Value).toArray } := Heap.get?_push_size _ rfl
  have hSZ : s.heap.objs.size ≠ Z := fun e => by
    obtain ⟨o, ho, hc⟩ := hT0
    rw [← e] at ho
    have := ho.symm.trans hS₁
    cases this; simp at hc
  have h1 : Builtin.List.listSameRef (.ref s.heap.objs.size) (.ref Z) = false := by simp [Builtin.List.listSameRef, hSZ]
  have h2 : (Value.type "map" == Value.type "list") = false := by decide
  have h3 : (Value.type "map" == Value.type "tuple") = false := by decide
  simp only [h1, h2, h3, Bool.or_false, Bool.false_eq_true, if_false]
  refine wpAny_bind (self 0 _ _ _ hJ0 ?_)
  refine wpAny_bind (wpAny_holding ?_)
  unfold Builtin.List.listLengthHint
  refine wpAny_bind (wpAny_specialOf (T := "map") hT0 map_no_len ?_)
  show wpAny _ A.in1 (specialOf (Value.ref Z) (Str.ofString "__length_hint__") >>= _) _ _ _
  refine wpAny_bind (wpAny_specialOf (T := "map") hT0 map_no_hint ?_)
  refine wpAny_pure ?_
  show wpAny _ A.in1 (rule "list.extend.makes-room" >>= fun _ => Builtin.List.listTouch (.ref s.heap.objs.size) >>= fun _ =>
    again (.builtin "list.extend.loop" ⟨[.ref s.heap.objs.size, .ref Z, .ref s.heap.objs.size], []⟩)) _ _ _
  refine wpAny_bind (wpAny_rule ?_)
  refine wpAny_bind ?_
  show wpAny _ A.in1 (updateSeq s.heap.objs.size (·.push .none) >>= fun _ => updateSeq s.heap.objs.size (·.pop)) _ _ _
  refine wpAny_bind (wpAny_updateSeq hS₁ rfl ?_)
  have hS₂ := Heap.get?_update_self (Obj.mapSeq (·.push Value.none)) hS₁ rfl
  refine wpAny_updateSeq hS₂ rfl ?_
  have hS₃ := Heap.get?_update_self (Obj.mapSeq (·.pop)) hS₂ rfl
  have oth : ∀ b o, b ≠ s.heap.objs.size → (s.heap.push { cls := .type "list", data := .seq ([] : List Value).toArray }).get? b = some o →
      (((s.heap.push { cls := .type "list", data := .seq ([] : List Value).toArray }).update s.heap.objs.size (Obj.mapSeq (·.push Value.none))).update s.heap.objs.size (Obj.mapSeq (·.pop))).get? b = some o :=
    fun b o hb e => (Heap.get?_update_other _ _ (Ne.symm hb)).trans ((Heap.get?_update_other _ _ (Ne.symm hb)).trans e)
  refine wpAny_pure ⟨plainId_quiet PySem.F.plain_extend_loop _, extend_loop (n := 0) (vals := vals) hn J (fun i s₁ h' hJ hk => stab i s₁ h' hJ hk) item ?_ vals.length 0 _ 2 rfl (Nat.zero_le _) (stab 0 { s with heap := s.heap.push { cls := .type "list", data := .seq ([] : List Value).toArray } } _ hJ0 oth) hS₃⟩
  intro s₁ c hJ hS E'
  refine wpAny_mono (done s₁ c hJ hS E') (fun r s' hr => ?_) fun _ _ e => e
  obtain ⟨rfl, hq, hS'⟩ := hr
  refine ⟨rfl, ?_⟩
  show wpAny _ A (load s.heap.objs.size >>= _) _ _ s'
  refine wpAny_bind (wpAny_load hS' ?_)
  exact wpAny_pure hq
theorem call_tuple_map {Z : Addr} {Q : Value → Shared → Prop} {vals : List Value} (hn : vals.length ≤ 100000) (J : Nat → Shared → Prop) (hT : ∀ i s, J i s → ∃ o, s.heap.get? Z = some o ∧ o.cls = .type "map") (hJs : J 0 s)
    (h0 : ∀ o h', h' = s.heap.push o → J 0 { s with heap := h' })
    (stab : ∀ i s₁ h', J i s₁ → (∀ b o, b ≠ s.heap.objs.size → s₁.heap.get? b = some o → h'.get? b = some o) → J i { s₁ with heap := h' })
    (self : ∀ i s₁ (Q' : Value → Shared → Prop) E', J i s₁ → Q' (.ref Z) s₁ → wpAny (model prog w) A.in1.in1.in1 (pyIter (.ref Z)) Q' E' s₁)
    (item : ∀ i v s₁ c, vals[i]? = some v → J i s₁ → s₁.heap.get? s.heap.objs.size = some (listOf (vals.take i).toArray c) → ∀ (E' : Value → Shared → Prop),
      wpAny (model prog w) A.in1.in1.in1 (pyNext (.ref Z)) (fun r s' => r = some v ∧ J (i + 1) s' ∧ s'.heap.get? s.heap.objs.size = some (listOf (vals.take i).toArray c)) E' s₁)
    (done : ∀ s₁ c, J vals.length s₁ → s₁.heap.get? s.heap.objs.size = some (listOf vals.toArray c) → ∀ (E' : Value → Shared → Prop),
      wpAny (model prog w) A.in1.in1.in1 (pyNext (.ref Z)) (fun r s' => r = none ∧ Q (.ref s'.heap.objs.size) { s' with heap := s'.heap.push { cls := .type "tuple", data := .seq vals.toArray } } ∧ s'.heap.get? s.heap.objs.size = some (listOf vals.toArray c)) E' s₁) :
    wpAny (model prog w) A (call (.type "tuple") [.ref Z]) Q E s := by
  refine callType_codes (Q₁ := fun obj s₁ => s₁.TypeIs obj "tuple" ∧ Q obj s₁) PySem.F.called_tuple (PySem.F.typeCall_tuple_1 _) PySem.F.entry_object_init ?_ fun obj s₁ h₁ => ?_
  · refine codeAny_of_tree ?_
    show wpAny _ A.in1.in1 (do checkBuiltinCall "tuple.__new__" ⟨[.type "tuple", .ref Z], []⟩; again (.builtin "tuple.__new__" ⟨[.type "tuple", .ref Z], []⟩)) _ _ s
    refine wpAny_bind (wpAny_of_eq (PySem.F.newCall_tuple_1 _) (wpAny_pure ⟨plainId_quiet PySem.F.plain_tuple_new _, codeAny_builtin PySem.F.entry_tuple_new ?_⟩))
    rw [Around.under_plainId PySem.F.plain_tuple_new _]
    have hsub := sub_tuple_self
    have hinit := init_tuple_lookup
    have hmh := madeHere_tuple
    have hTI : s.TypeIs (.ref Z) "map" := hT 0 s hJs
    wp_walk using wpAny_typeOf hTI, collect_map (A := A.in1.in1) hn J hT h0 stab self item
    intro s₁ c hJ hS E'
    refine wpAny_mono (done s₁ c hJ hS E') (fun r s' hr => ?_) fun _ _ e => e
    obtain ⟨rfl, hq, hS'⟩ := hr
    refine ⟨rfl, ?_, hS'⟩
    show wpAny _ _ (Builtin.Tuple.tupleExact vals.toArray >>= fun v => ret v) _ _ _
    unfold Builtin.Tuple.tupleExact
    refine wpAny_bind (wpAny_newObj_type ?_ (by show vals.toArray.size ≤ sizeLine; rw [List.size_toArray, sizeLine_eq]; omega))
    refine wpAny_pure ?_
    exact ⟨⟨_, Heap.get?_push_size _ rfl, rfl⟩, hq⟩
  · exact ⟨h₁.1, PySem.F.args_object_init_2 obj _, object_init_meets PySem.F.called_tuple.init.lookup PySem.F.called_tuple.made (by decide) prog w A.in1 _ s₁ ⟨h₁.1, rfl, h₁.2⟩⟩
end
end Mine
namespace Mine
theorem allLt_lt {d : Addr} {l : List (Addr × Obj)} (h : AllLt d l) : ∀ p ∈ l, p.1 < d := by
  induction l with
  | nil => intro p hp; cases hp
  | cons q r ih =>
    intro p hp
    rcases List.mem_cons.mp hp with rfl | hp
    · exact h.1
    · exact ih h.2 p hp
theorem allLt_ne2 {d e : Addr} {l : List (Addr × Obj)} (h : AllLt d l) (hde : d ≤ e) : ∀ p ∈ l, p.1 ≠ e := fun p hp => Nat.ne_of_lt (Nat.lt_of_lt_of_le (allLt_lt h p hp) hde)
section
variable {prog : Program} {w : World} {A : Around} {E : Value → Shared → Prop} {s : Shared} {h₀ : Heap} {L : Addr} {m : Str → Option Value} {news : List (Addr × Obj)}
theorem tuple_map {Z TI I l f : Addr} {c : Nat} {vals : List Value} {Q : Value → Shared → Prop} (hh : A.handled = none) (hn : vals.length ≤ 100000) (F : Fr h₀ L s.heap m) (N : News h₀ L s.heap ((Z, mapObj TI (.ref f)) :: (TI, tup1 I) :: (I, liObj l 0) :: news))
    (hl : (l, listOf vals.toArray c) ∈ news) (hIn : ∀ p ∈ news, p.1 ≠ I) (hZI : Z ≠ I) (hTI : TI ≠ I)
    (fcall : ∀ v ∈ vals, ∀ h tk led, Fr h₀ L h m → News h₀ L h led → wpAny (model prog w) A.in1.in1.in1.in1 (call (.ref f) [v]) (fun r s' => ∃ h' tk', r = v ∧ s' = { s with heap := h', toks := tk' } ∧ Fr h₀ L h' m ∧ News h₀ L h' led) (fun _ _ => False) { s with heap := h, toks := tk })
    (ret : ∀ T h tk, Fr h₀ L h m → News h₀ L h ((T, { cls := .type "tuple", data := .seq vals.toArray }) :: news) → (∀ p ∈ news, p.1 < T) → Q (.ref T) { s with heap := h, toks := tk }) :
    wpAny (model prog w) A (call (.type "tuple") [.ref Z]) Q E s := by
  have hSL : s.heap.objs.size ≠ L := fun e => absurd F.ns.lt (e ▸ Nat.lt_irrefl _)
  have hS0 : h₀.get? s.heap.objs.size = none := next_is_new F
  have hSn : ∀ p ∈ (Z, mapObj TI (.ref f)) :: (TI, tup1 I) :: (I, liObj l 0) :: news, p.1 ≠ s.heap.objs.size := fun p hp => Nat.ne_of_lt (Heap.lt_size (N p hp).1)
  have hIL := (N (I, liObj l 0) (.tail _ (.tail _ (.head _)))).2
  refine call_tuple_map hn (fun i s₁ => ∃ h tk oI, s₁ = { s with heap := h, toks := tk } ∧ oI.cls = .type "list_iterator" ∧ oI.data = .fields #[.ref l, .int i 0] ∧ Fr h₀ L h m ∧ News h₀ L h ((Z, mapObj TI (.ref f)) :: (TI, tup1 I) :: (I, oI) :: news))
    ?hT ⟨_, _, liObj l 0, rfl, rfl, rfl, F, N⟩ ?h0 ?stab ?self ?item ?done
  case hT =>
    rintro i s₁ ⟨h, tk, oI, rfl, hc, hd, F₁, N₁⟩
    exact ⟨_, (N₁ _ (.head _)).1, rfl⟩
  case h0 =>
    rintro o h' rfl
    exact ⟨_, _, liObj l 0, rfl, rfl, rfl, F.push o, fun p hp => ⟨Heap.get?_push_of_some _ (N p hp).1, (N p hp).2⟩⟩
  case stab =>
    rintro i s₁ h' ⟨h, tk, oI, rfl, hc, hd, F₁, N₁⟩ hk
    refine ⟨h', tk, oI, rfl, hc, hd, ⟨F₁.ns.at' fun o e => hk L o (Ne.symm hSL) e, fun b o e => hk b o (fun q => by rw [q, hS0] at e; cases e) (F₁.keep b o e), F₁.above⟩, fun p hp => ⟨hk _ _ ?_ (N₁ p hp).1, (N₁ p hp).2⟩⟩
    rcases List.mem_cons.mp hp with rfl | hp
    · exact hSn _ (.head _)
    · rcases List.mem_cons.mp hp with rfl | hp
      · exact hSn _ (.tail _ (.head _))
      · rcases List.mem_cons.mp hp with rfl | hp
        · exact hSn (I, liObj l 0) (.tail _ (.tail _ (.head _)))
        · exact hSn _ (.tail _ (.tail _ (.tail _ hp)))
  case self =>
    rintro i s₁ Q' E' ⟨h, tk, oI, rfl, hc, hd, F₁, N₁⟩ hq
    exact iter_map (N₁ _ (.head _)).1 hq
  case item =>
    rintro i v s₁ c' hv ⟨h, tk, oI, rfl, hc, hd, F₁, N₁⟩ hS E'
    have hlist : ({ s with heap := h, toks := tk } : Shared).heap.IsList l vals.toArray := ⟨_, (N₁ _ (.tail _ (.tail _ (.tail _ hl)))).1, rfl, _, rfl⟩
    refine next_map_item (N₁ _ (.head _)).1 (N₁ _ (.tail _ (.head _))).1 ⟨oI, (N₁ _ (.tail _ (.tail _ (.head _)))).1, hc, hd⟩ hlist (by rw [List.getElem?_toArray]; exact hv) hZI fun h' hi' hs' => ?_
    obtain ⟨oI', eI', hc', hd'⟩ := hi'
    have F₂ : Fr h₀ L h' m := F₁.change hs' hIL.1 hIL.2
    have N₂ : News h₀ L h' ((s.heap.objs.size, listOf (vals.take i).toArray c') :: (Z, mapObj TI (.ref f)) :: (TI, tup1 I) :: (I, oI') :: news) := fun p hp => by
      rcases List.mem_cons.mp hp with rfl | hp
      · exact ⟨hs'.extBut _ _ (Ne.symm (hSn (I, liObj l 0) (.tail _ (.tail _ (.head _))))) hS, hSL, hS0⟩
      · rcases List.mem_cons.mp hp with rfl | hp
        · exact ⟨hs'.extBut _ _ hZI (N₁ _ (.head _)).1, (N₁ _ (.head _)).2⟩
        · rcases List.mem_cons.mp hp with rfl | hp
          · exact ⟨hs'.extBut _ _ hTI (N₁ _ (.tail _ (.head _))).1, (N₁ _ (.tail _ (.head _))).2⟩
          · rcases List.mem_cons.mp hp with rfl | hp
            · exact ⟨eI', hIL⟩
            · have z := N₁ p (.tail _ (.tail _ (.tail _ hp)))
              exact ⟨hs'.extBut _ _ (hIn p hp) z.1, z.2⟩
    refine wpAny_mono (fcall v (List.mem_of_getElem? hv) h' tk _ F₂ N₂) (fun r s' hr => ?_) fun _ _ e => e
    obtain ⟨h2, tk2, rfl, rfl, F₃, N₃⟩ := hr
    exact ⟨rfl, ⟨h2, tk2, oI', rfl, hc', hd', F₃, fun p hp => N₃ p (.tail _ hp)⟩, (N₃ _ (.head _)).1⟩
  case done =>
    rintro s₁ c' ⟨h, tk, oI, rfl, hc, hd, F₁, N₁⟩ hS E'
    have hlist : ({ s with heap := h, toks := tk } : Shared).heap.IsList l vals.toArray := ⟨_, (N₁ _ (.tail _ (.tail _ (.tail _ hl)))).1, rfl, _, rfl⟩
    refine next_map_end hh (N₁ _ (.head _)).1 (N₁ _ (.tail _ (.head _))).1 ⟨oI, (N₁ _ (.tail _ (.tail _ (.head _)))).1, hc, hd⟩ hlist (by rw [List.getElem?_toArray]; exact List.getElem?_eq_none (Nat.le_refl _)) fun h' hs' => ?_
    have F₂ : Fr h₀ L h' m := ⟨F₁.ns.at' fun o e => hs' L o hIL.1.symm e, fun b o e => hs' b o (fun q => by rw [q, hIL.2] at e; cases e) (F₁.keep b o e), F₁.above⟩
    have N₂ : News h₀ L h' news := fun p hp => by
      have z := N₁ p (.tail _ (.tail _ (.tail _ hp)))
      exact ⟨hs' _ _ (hIn p hp) z.1, z.2⟩
    refine ⟨rfl, ret _ _ _ (F₂.push _) (News.push F₂ N₂ _) (fun p hp => Heap.lt_size (N₂ p hp).1), hs' _ _ (Ne.symm (hSn (I, liObj l 0) (.tail _ (.tail _ (.head _))))) hS⟩
end
end Mine
section
open PyProof.Rows.LCg
namespace Mine
section
variable {prog : Program} {w : World} {A : Around} {E : Value → Shared → Prop} {s : Shared} {h₀ : Heap} {L : Addr} {m : Str → Option Value} {env : Env}
def GSrc (prog : Program) (w : World) (A : Around) (h₀ : Heap) (L : Addr) (m : Str → Option Value) (env : Env) (elt : Expr) (x : Str) (scope : Scope) (cl : List (Str × Addr)) (Fin : Shared → List Value → List (Addr × Obj) → Prop) (it : Value) (s₂ : Shared) : Prop :=
  ∃ (I : Addr) (fp : List Addr) (n : Nat) (P : Nat → Value → Prop) (St : Nat → Heap → Prop) (S : List (Addr × Obj) → Prop) (news : List (Addr × Obj)), it = .ref I ∧ Walks prog w A I fp [I] n P St ∧ n ≤ sizeLine ∧ (∀ i h, St i h → ∃ o, h.get? I = some o) ∧
    (∀ i h h' o nw, St i h → h.get? I = some o → h'.get? I = some o → (∀ b o, h₀.get? b = some o → h'.get? b = some o) → News h₀ L h' nw → S nw → St i h') ∧ St 0 s₂.heap ∧ (∀ b ∈ fp, b < s₂.heap.objs.size) ∧
    Fr h₀ L s₂.heap m ∧ News h₀ L s₂.heap news ∧ L ≠ I ∧ h₀.get? I = none ∧ (∀ p ∈ news, p.1 ≠ I) ∧ S news ∧ CompRest prog w A h₀ L m env elt x scope cl s₂ S P (Fin s₂) n 0 [] news
theorem Assign_ListComp_G {elt iter : Expr} {x y : Str} {px py : Pos} {scope : Scope} {cl : List (Str × Addr)} {pos spos : Pos} {Q : Flow → Shared → Prop} (F₀ : Fr h₀ L s.heap m) (hLe : env.locals = L)
    (hsw : swapsWith (.ListComp elt [⟨.Name x px, iter, [], 0⟩] scope pos) (some (.Name y py)) spos.line env = pure true)
    (hclos : closureFor scope env = pure cl) (hcell : ∀ z ∈ scope.names, z.2 ≠ .cell) (hkind : scope.kind = .function)
    (hnames : ∀ z ∈ scope.names, z.2 = .local → scope.names.lookup z.1 = some .local) (hx : scope.names.lookup x = some .local)
    (hy : env.kindOf y = some .local) (hp : (env.scope.kind == .class || (env.scope.kind == .module && env.locals != env.globals)) = false)
    (h : wpAny (model prog w) A (eval iter env) (fun xv s₁ => wpAny (model prog w) A (pyIter xv) (GSrc prog w A h₀ L m env elt x scope cl (fun s₂ => FinA h₀ L m s₂ y Q)) E s₁) E s)
    (hs : ∀ x, foldedSetIterable iter env x = pure x := by intro _; rfl) :
    wpAny (model prog w) A (exec (.Assign [.Name y py] (.ListComp elt [⟨.Name x px, iter, [], 0⟩] scope pos) spos) env) Q E s := by
  subst hLe
  rw [exec_Assign_Name_used _ _ _ _ hsw]
  refine wpAny_bind (wpAny_standAt (wpAny_bind ?_))
  show wpAny _ A (do let _ ← comprehension (.ListComp elt [⟨.Name x px, iter, [], 0⟩] scope pos) scope env _ (newList []) false (eval iter env) (some (assign (.Name y py) env))) _ _ s
  refine wpAny_bind (wpAny_mono (wpAny_comprehension_free (use := some (assign (.Name y py) env)) (Q := fun _ s' => Q .next s') rfl hs hclos hkind hnames
    (wpAny_mono h (fun xv s₁ h₁ => ?_) fun _ _ e => e)) (fun _ s' hq => wpAny_pure (wpAny_pure hq)) fun _ _ e => e)
  refine wpAny_mono h₁ (fun it s₂ h₂ => ?_) fun _ _ e => e
  obtain ⟨I, fp, n, P, St, S, news, rfl, W, hsz, hIo, hSt, hst, hfp, F, N, hLI, hI₀, off, hS, R⟩ := h₂
  refine block_U W hsz hIo hSt hcell hkind hx hst hfp F N hLI hI₀ off hS R ?_
  intro D C h' tk m' ys news' F' N' o1 hn hC₀ hD₀ hCL hDL hCD offC fin
  show wpAny _ A (assign (.Name y py) env (.ref D)) _ _ _
  refine wpAny_assign_Name (wpAny_storeName_local hy F'.ns (fun h₂ hn₂ hs₂ => ?_) hp)
  have hL₀ : h₀.get? env.locals = none := Heap.get?_none_of_le F'.above
  have F₂ : Fr h₀ env.locals h₂ (fun z => if z = y then some (.ref D) else m z) := ⟨hn₂, fun b o e => hs₂.extBut b o (fun q => by rw [q, hL₀] at e; cases e) (F'.keep b o e), F'.above⟩
  refine ⟨m', hn.sameBut hs₂ hCL, fun h'' hs'' => fin D h'' _ (F₂.change hs'' hCL hC₀) (fun p hp => ?_) o1⟩
  have z : h₂.get? p.1 = some p.2 := hs₂.extBut _ _ (N' p hp).2.1 (N' p hp).1
  refine ⟨hs''.extBut _ _ ?_ z, (N' p hp).2⟩
  rcases List.mem_cons.mp hp with rfl | hp
  · exact Ne.symm hCD
  · exact offC p hp
def TupIn (ax : Addr) (its : Array Value) (news : List (Addr × Obj)) : Prop := ∃ o, (ax, o) ∈ news ∧ o.cls = .type "tuple" ∧ ∃ n, o.data = .seq its n
theorem gsrc_tuple {elt : Expr} {x : Str} {scope : Scope} {cl : List (Str × Addr)} {Fin : Shared → List Value → List (Addr × Obj) → Prop} {ax : Addr} {its : Array Value} {k : Nat} {news : List (Addr × Obj)} {s₁ : Shared}
    (hh : A.handled = none) (F : Fr h₀ L s₁.heap m) (N : News h₀ L s₁.heap news) (hm : (ax, ({ cls := .type "tuple", data := .seq its k } : Obj)) ∈ news) (hsz : its.size ≤ sizeLine)
    (h : ∀ g, CompRest prog w A h₀ L m env elt x scope cl { s₁ with heap := g } (TupIn ax its) (fun i v => its[i]? = some v) (Fin { s₁ with heap := g }) its.size 0 [] news) :
    wpAny (model prog w) A (pyIter (.ref ax)) (GSrc prog w A h₀ L m env elt x scope cl Fin) E s₁ := by
  have hl : s₁.heap.IsTuple ax its := ⟨_, (N _ hm).1, rfl, _, rfl⟩
  have hlt : ax < s₁.heap.objs.size := Heap.lt_size (N _ hm).1
  refine wpAny_pyIter_tuple hl ?_
  have up : ∀ b o, s₁.heap.get? b = some o → (s₁.heap.push { cls := .type "tuple_iterator", data := .fields #[.ref ax, .int 0 0] }).get? b = some o := fun b o e => Heap.get?_push_of_some _ e
  refine ⟨_, _, _, _, _, TupIn ax its, news, rfl, Walks.tuple hh s₁.heap.objs.size ax (Nat.ne_of_lt hlt) its, hsz, fun i h st => by obtain ⟨o, e, _⟩ := st.1; exact ⟨o, e⟩, ?_, ⟨⟨_, Heap.get?_push_size _ rfl, rfl, rfl⟩, hl.at (up _)⟩, fun b hb => ?_, F.keeps up, N.grown up, Nat.ne_of_lt F.ns.lt, next_is_new F, fun p hp => Nat.ne_of_lt (Heap.lt_size (N p hp).1), ⟨_, hm, rfl, _, rfl⟩, h _⟩
  · rintro i h h' o nw st e e' kk NN ⟨o2, hm2, hc2, n2, hd2⟩
    exact ⟨by obtain ⟨o', q, r⟩ := st.1; rw [e] at q; cases q; exact ⟨o, e', r⟩, ⟨o2, (NN _ hm2).1, hc2, n2, hd2⟩⟩
  · show b < (s₁.heap.push _).objs.size
    rw [Heap.size_push]
    rcases List.mem_cons.mp hb with rfl | hb
    · exact Nat.lt_succ_self _
    · rw [List.mem_singleton.mp hb]; exact Nat.lt_succ_of_lt hlt
end
section
variable {h₀ : Heap} {L I C D : Addr} {m : Str → Option Value} {s₁ : Shared} {oI oC oD : Obj} {S : List (Addr × Obj) → Prop} {r : Value → List (Addr × Obj) → Prop} {y : Value} {h' : Heap} {tk : Nat} {rest : List (Addr × Obj)} {x : Addr × Obj}
theorem end_same (F : Fr h₀ L h' m) (N : News h₀ L h' ((I, oI) :: (C, oC) :: (D, oD) :: rest)) (off : Off3 I C D rest) (hS : S rest) (hr : r y rest) : CompEnd h₀ L m s₁ I oI C oC D oD S r y { s₁ with heap := h', toks := tk } :=
  ⟨h', tk, rest, rfl, F, N, off, hS, hr⟩
theorem end_new (F : Fr h₀ L h' m) (N : News h₀ L h' (x :: (I, oI) :: (C, oC) :: (D, oD) :: rest)) (hI : @Ne Nat x.1 I) (hC : @Ne Nat x.1 C) (hD : @Ne Nat x.1 D) (off : Off3 I C D rest) (hS : S (x :: rest)) (hr : r y (x :: rest)) :
    CompEnd h₀ L m s₁ I oI C oC D oD S r y { s₁ with heap := h', toks := tk } :=
  ⟨h', tk, x :: rest, rfl, F, fun p hp => N p (by
    rcases List.mem_cons.mp hp with rfl | hp
    · exact .tail _ (.head _)
    · rcases List.mem_cons.mp hp with rfl | hp
      · exact .tail _ (.tail _ (.head _))
      · rcases List.mem_cons.mp hp with rfl | hp
        · exact .tail _ (.tail _ (.tail _ (.head _)))
        · rcases List.mem_cons.mp hp with rfl | hp
          · exact .head _
          · exact .tail _ (.tail _ (.tail _ (.tail _ hp)))), ⟨⟨hI, hC, hD⟩, off⟩, hS, hr⟩
theorem lt_of_news {h : Heap} {a : Addr} {o : Obj} {l : List (Addr × Obj)} (N : News h₀ L h l) (hm : (a, o) ∈ l) : @Ne Nat h.objs.size a := Nat.ne_of_gt (Heap.lt_size (N _ hm).1)
end
end Mine
end
namespace Mine
section
variable {α : Type} (lt : α → α → Bool)
theorem siftdownF_len (s : Nat) : ∀ (p : Nat) (l : List α) (x : α), (siftdownF lt s l p x).length = l.length := by
  intro p
  induction p using Nat.strongRecOn with
  | ind p ih =>
    intro l x
    rw [siftdownF]
    split
    · rename_i h
      split
      · split
        · rw [ih _ (by omega), List.length_set]
        · rw [List.length_set]
      · rw [List.length_set]
    · rw [List.length_set]
theorem siftdownF_mem (s : Nat) : ∀ (p : Nat) (l : List α) (x : α), ∀ a ∈ siftdownF lt s l p x, a ∈ l ∨ a = x := by
  intro p
  induction p using Nat.strongRecOn with
  | ind p ih =>
    intro l x a ha
    rw [siftdownF] at ha
    split at ha
    · rename_i h
      split at ha
      · rename_i q hq
        split at ha
        · rcases ih _ (by omega) _ _ a ha with h1 | h1
          · rcases List.mem_or_eq_of_mem_set h1 with h2 | h2
            · exact .inl h2
            · exact .inl (h2 ▸ List.mem_of_getElem? hq)
          · exact .inr h1
        · exact List.mem_or_eq_of_mem_set ha
      · exact List.mem_or_eq_of_mem_set ha
    · exact List.mem_or_eq_of_mem_set ha
theorem sinkF_len : ∀ (n : Nat) (l : List α) (p : Nat), l.length - p = n → (sinkF lt l p).1.length = l.length := by
  intro n
  induction n using Nat.strongRecOn with
  | ind n ih =>
    intro l p hn
    rw [sinkF]
    split
    · rename_i h
      split
      · have := childF_gt lt l p
        rw [ih (l.length - childF lt l p) (by omega) _ _ (by rw [List.length_set]), List.length_set]
      · rfl
    · rfl
theorem sinkF_mem : ∀ (n : Nat) (l : List α) (p : Nat), l.length - p = n → ∀ a ∈ (sinkF lt l p).1, a ∈ l := by
  intro n
  induction n using Nat.strongRecOn with
  | ind n ih =>
    intro l p hn a ha
    rw [sinkF] at ha
    split at ha
    · rename_i h
      split at ha
      · rename_i c hc
        have := childF_gt lt l p
        have h1 := ih (l.length - childF lt l p) (by omega) _ _ (by rw [List.length_set]) a ha
        rcases List.mem_or_eq_of_mem_set h1 with h2 | h2
        · exact h2
        · exact h2 ▸ List.mem_of_getElem? hc
      · exact ha
    · exact ha
theorem siftupF_len (l : List α) (p : Nat) (x : α) : (siftupF lt l p x).length = l.length := by
  unfold siftupF
  dsimp only
  rw [siftdownF_len, List.length_set, sinkF_len lt _ l p rfl]
theorem siftupF_mem (l : List α) (p : Nat) (x : α) : ∀ a ∈ siftupF lt l p x, a ∈ l ∨ a = x := by
  intro a ha
  unfold siftupF at ha
  dsimp only at ha
  rcases siftdownF_mem lt _ _ _ _ a ha with h | h
  · rcases List.mem_or_eq_of_mem_set h with h2 | h2
    · exact .inl (sinkF_mem lt _ l p rfl a h2)
    · exact .inr h2
  · exact .inr h
def heapStep (l : List α) (i : Nat) : List α := match l[i]? with | some x => siftupF lt l i x | none => l
def heapifyF (l : List α) : List α := (List.range (l.length / 2)).reverse.foldl (heapStep lt) l
theorem heapStep_len (l : List α) (i : Nat) : (heapStep lt l i).length = l.length := by
  unfold heapStep; split
  · exact siftupF_len lt _ _ _
  · rfl
theorem heapStep_mem (l : List α) (i : Nat) : ∀ a ∈ heapStep lt l i, a ∈ l := by
  unfold heapStep; split
  · rename_i x hx
    intro a ha
    rcases siftupF_mem lt _ _ _ a ha with h | h
    · exact h
    · exact h ▸ List.mem_of_getElem? hx
  · exact fun _ h => h
theorem heapSteps_len (is : List Nat) : ∀ (l : List α), (is.foldl (heapStep lt) l).length = l.length := by
  induction is with
  | nil => intro l; rfl
  | cons i is ih => intro l; rw [List.foldl_cons, ih, heapStep_len]
theorem heapSteps_mem (is : List Nat) : ∀ (l : List α), ∀ a ∈ is.foldl (heapStep lt) l, a ∈ l := by
  induction is with
  | nil => intro l a h; exact h
  | cons i is ih => intro l a h; rw [List.foldl_cons] at h; exact heapStep_mem lt _ _ a (ih _ a h)
end
theorem rev_range_at {N i : Nat} (h : i < N) : (List.range N).reverse[i]? = some (N - 1 - i) := by
  rw [List.getElem?_reverse (by simpa using h), List.length_range, List.getElem?_range (by omega)]
theorem mem_swap {α : Type} {a b : α} {l : List α} : ∀ p ∈ a :: b :: l, p ∈ b :: a :: l := fun p hp => by
  rcases List.mem_cons.mp hp with rfl | hp
  · exact .tail _ (.head _)
  · rcases List.mem_cons.mp hp with rfl | hp
    · exact .head _
    · exact .tail _ (.tail _ hp)
theorem mem_rot3 {α : Type} {a b c : α} {l : List α} : ∀ p ∈ c :: a :: b :: l, p ∈ a :: b :: c :: l := fun p hp => by
  rcases List.mem_cons.mp hp with rfl | hp
  · exact .tail _ (.tail _ (.head _))
  · rcases List.mem_cons.mp hp with rfl | hp
    · exact .head _
    · rcases List.mem_cons.mp hp with rfl | hp
      · exact .tail _ (.head _)
      · exact .tail _ (.tail _ (.tail _ hp))
theorem off_cons {I : Addr} {q : Addr × Obj} {l : List (Addr × Obj)} (h1 : q.1 ≠ I) (h2 : ∀ p ∈ l, p.1 ≠ I) : ∀ p ∈ q :: l, p.1 ≠ I := fun p hp => by
  rcases List.mem_cons.mp hp with rfl | hp
  · exact h1
  · exact h2 p hp
theorem off_app {I : Addr} {a b : List (Addr × Obj)} (h1 : ∀ p ∈ a, p.1 ≠ I) (h2 : ∀ p ∈ b, p.1 ≠ I) : ∀ p ∈ a ++ b, p.1 ≠ I := fun p hp => by
  rcases List.mem_append.mp hp with hp | hp
  · exact h1 p hp
  · exact h2 p hp
end Mine
namespace Mine
theorem top_off_A20 : True := by
  w_top off
  trivial
local macro_rules | `(tactic| ktr_unf) => `(tactic| repeat' (first | (k_unfold; (try dsimp only)) | (k_end; wrow_close) | ((fail_if_success (with_reducible show LCg.CompEnd _ _ _ _ _ _ _ _ _ _ _ _ _ _)); (fail_if_success (with_reducible show LCt.CompSrcT _ _ _ _ _ _ _ _ _ _ _ _ _ _ _)); (fail_if_success (with_reducible show LCg.CompSrc _ _ _ _ _ _ _ _ _ _ _ _ _ _)); (fail_if_success (with_reducible show wpAny _ _ (exec (Stmt.While _ _ _ _) _) _ _ _)); (fail_if_success (with_reducible show wpAny _ _ (exec (Stmt.For _ _ _ _ _) _) _ _ _)); (fail_if_success (with_reducible show wpAny _ _ (pyIter (Value.ref _)) _ _ _)); walk1) | ((fail_if_success (with_reducible show LCg.CompEnd _ _ _ _ _ _ _ _ _ _ _ _ _ _)); (fail_if_success (with_reducible show LCt.CompSrcT _ _ _ _ _ _ _ _ _ _ _ _ _ _ _)); (fail_if_success (with_reducible show LCg.CompSrc _ _ _ _ _ _ _ _ _ _ _ _ _ _)); (fail_if_success (with_reducible show wpAny _ _ (exec (Stmt.While _ _ _ _) _) _ _ _)); (fail_if_success (with_reducible show wpAny _ _ (exec (Stmt.For _ _ _ _ _) _) _ _ _)); (fail_if_success (with_reducible show wpAny _ _ (pyIter (Value.ref _)) _ _ _)); dsimp only; walk1) | (leave1; walk_say "STEP leave1"; try dsimp only) | fail "no step"))
local macro_rules | `(tactic| k_all) => `(tactic| first | assumption | exact allLt_ne (by assumption) | exact allLt_ne (And.right (by assumption)) | exact allLt_ne (And.right (And.right (by assumption))) | exact allLt_ne (And.right (And.right (And.right (by assumption)))) | exact allLt_ne (And.right (And.right (And.right (And.right (by assumption))))) | exact allLt_ne (And.right (And.right (And.right (And.right (And.right (by assumption)))))) | exact allLt_ne (And.right (And.right (And.right (And.right (And.right (And.right (by assumption))))))) | exact allLt_ne (And.right (And.right (And.right (And.right (And.right (And.right (And.right (by assumption)))))))) | exact allLt_ne (And.right (And.right (And.right (And.right (And.right (And.right (And.right (And.right (by assumption))))))))))
local macro_rules | `(tactic| walk_at "call builtin:list.append") => `(tactic| (k_here; (with_reducible show wpAny _ _ (call (Value.builtin _) [Value.ref _, _]) _ _ _); k_dflt (refine' hot_append ?F ?N ?U ?z ?_; (case F => k_asm); (case N => k_asm); (case U => k_upd); (case z => first | assumption | omega | (simp only [List.length_append, List.length_cons, List.length_nil]; omega)); k_whole); intro h' F' N'; (try k_sweep)))
local macro_rules | `(tactic| walk_at "truthy ref") => `(tactic| (k_here; k_dflt (refine' hot_truthy ?N ?m ?z ?_; (case N => k_asm); (case m => k_mem); (case z => first | assumption | omega); k_whole)))
local macro_rules | `(tactic| walk_at "subscriptTail Name UnaryOp ref int") => `(tactic| (k_here; (with_reducible show wpAny _ _ (subscriptTail _ _ (Value.ref _) (Value.int _ _)) _ _ _); (with_unfolding_all refine' hot_lastS ?N ?m ?S ?e ?_ ?r; (case N => k_asm); (case m => k_mem); (case S => assumption); (case e => assumption); (case r => with_unfolding_all rfl); k_whole); intro y8 t8 hy8 hz8))
local macro_rules | `(tactic| walk_at "call builtin:list.pop") => `(tactic| (k_here; (with_reducible show wpAny _ _ (call (Value.builtin _) [Value.ref _]) _ _ _); k_dflt (refine' hot_popS ?F ?N ?U ?z ?S ?e ?_; (case F => k_asm); (case N => k_asm); (case U => k_upd); (case z => first | assumption | omega); (case S => assumption); (case e => assumption); k_whole); intro h' y8 t8 F' N'; (try k_sweep)))
local macro_rules | `(tactic| walk_at "call builtin:str.join") => `(tactic| (k_here; (with_reducible show wpAny _ _ (call (Value.builtin _) [Value.str _ _, Value.ref _]) _ _ _); k_dflt (refine' hot_join ?N ?m ?c ?d ?S ?w ?o ?_; (case N => k_asm); (case m => k_mem); (case c => rfl); (case d => rfl); (case S => assumption); (case w => assumption); (case o => decide); k_whole); intro t8 k8 hj8))
local macro_rules | `(tactic| walk_at "subscriptTail Name Name ref int") => `(tactic| (k_here; (with_reducible show wpAny _ _ (subscriptTail _ _ (Value.ref _) (Value.int _ _)) _ _ _); (with_unfolding_all refine' hot_itemS ?N ?m ?c ?d ?S ?a ?b ?x ?_ ?r; (case N => k_asm); (case m => k_mem); (case c => rfl); (case d => rfl); (case S => assumption); (case a => omega); (case b => omega); (case x => omega); (case r => with_unfolding_all rfl); k_whole); intro y8 t8 hy8 hz8))
local macro_rules | `(tactic| walk_at "subscriptTail Name Constant ref int") => `(tactic| (k_here; (with_reducible show wpAny _ _ (subscriptTail _ _ (Value.ref _) (Value.int _ _)) _ _ _); (with_unfolding_all refine' hot_itemS ?N ?m ?c ?d ?S ?a ?b ?x ?_ ?r; (case N => k_asm); (case m => k_mem); (case c => rfl); (case d => rfl); (case S => assumption); (case a => omega); (case b => omega); (case x => omega); (case r => with_unfolding_all rfl); k_whole); intro y8 t8 hy8 hz8))
local macro_rules | `(tactic| walk_at "subscriptTail Name Slice ref ref") => `(tactic| (k_here; (with_reducible show wpAny _ _ (subscriptTail _ (PySem.Expr.Slice _ _ none _) (Value.ref _) (Value.ref _)) _ _ _); k_dflt (refine' hot_slice ?F ?N ?m ?c ?d ?p ?q ?_ ?s ?t ?z; (case F => k_asm); (case N => k_asm); (case m => k_mem); (case c => exact rfl); (case d => exact rfl); (case p => kmk_part); (case q => kmk_part); (case s => with_unfolding_all rfl); (case t => kmk_pure); (case z => first | omega | (refine split_room (by assumption) ?_; omega))); intro D' h' F' N' l1; (try k_lt l1); (try k_sweep)))
local macro_rules | `(tactic| walk_at "subscriptTail Name Slice ref ref") => `(tactic| (k_here; (with_reducible show wpAny _ _ (subscriptTail _ (PySem.Expr.Slice none none (some _) _) (Value.ref _) (Value.ref _)) _ _ _); k_dflt (refine' hot_rev ?F ?N ?m ?c ?d ?p ?_ ?s ?t ?z; (case F => k_asm); (case N => k_asm); (case m => k_mem); (case c => exact rfl); (case d => exact rfl); (case p => exact IsPart.int _ _); (case s => with_unfolding_all rfl); (case t => kmk_pure); (case z => first | omega | (refine split_room (by assumption) ?_; omega))); intro D' h' F' N' l1; (try k_lt l1); (try k_sweep)))
local macro_rules | `(tactic| walk_at "eval ListComp") => `(tactic| (k_here; k_dflt (refine LCg.ListComp_U (F₀ := by k_asm) (by with_unfolding_all rfl) (by decide) (by rfl) (by decide) (by rfl) ?_)))
local macro_rules | `(tactic| walk_at "subscriptTail Name BinOp ref int") => `(tactic| (k_here; (with_reducible show wpAny _ _ (subscriptTail _ _ (Value.ref _) (Value.int _ _)) _ _ _); (with_unfolding_all refine' hot_itemS ?N ?m ?c ?d ?S ?a ?b ?x ?_ ?r; (case N => k_asm); (case m => k_mem); (case c => rfl); (case d => rfl); (case S => assumption); (case a => first | omega | (rw [Int.fmod_eq_emod_of_nonneg _ (by decide)]; omega)); (case b => first | omega | (rw [Int.fmod_eq_emod_of_nonneg _ (by decide)]; omega)); (case x => first | omega | (rw [Int.fmod_eq_emod_of_nonneg _ (by decide)]; omega)); (case r => with_unfolding_all rfl); k_whole); intro y8 t8 hy8 hz8))
def poolW (x : Int) : List Str := [Str.ofString "", Str.ofString "a", Str.ofString "ab", Str.ofString "...", Str.ofString ".", Str.ofString "..", Str.ofString "b", Str.mk #[(48 + (x.fdiv 512).fmod 55000).toNat]]
def pickW (x : Int) (p : Nat) : Str := (poolW x).getD ((x.fdiv (8 ^ p)).fmod 8).toNat (Str.ofString "")
def textW (x : Int) : Str := Str.ofString "/./" ++ Txt.join (Str.ofString "/") ((List.range 3).map (pickW x))
theorem pool_len {x : Int} {c : Str} (h : c ∈ poolW x) : c.length ≤ 3 := by
  simp only [poolW, List.mem_cons, List.not_mem_nil, or_false] at h
  rcases h with rfl | rfl | rfl | rfl | rfl | rfl | rfl | rfl
  · decide
  · decide
  · decide
  · decide
  · decide
  · decide
  · decide
  · show (1 : Nat) ≤ 3; decide
theorem pick_of {x k : Int} {p : Nat} {y : Str} (hk : (8 : Int) ^ p = k) (h : (poolW x)[((x.fdiv k).fmod 8).toNat]? = some y) : pickW x p = y := by
  unfold pickW
  rw [hk, List.getD_eq_getElem?_getD, h]; rfl
theorem pick_len (x : Int) (p : Nat) : (pickW x p).length ≤ 3 := by
  unfold pickW
  rw [List.getD_eq_getElem?_getD]
  cases h : (poolW x)[((x.fdiv (8 ^ p)).fmod 8).toNat]? with
  | none => decide
  | some y => exact pool_len (List.mem_of_getElem? h)
theorem wt_le' {l : List Str} {b : Nat} (h : ∀ y ∈ l, y.length ≤ b) : wt l ≤ l.length * (b + 1) := by
  induction l with
  | nil => simp [wt]
  | cons a l ih =>
    have h3 : wt (a :: l) = wt [a] + wt l := wt_append [a] l
    have h4 : wt [a] = a.length + 1 := by simp [wt]
    have h5 := ih fun y hy => h y (.tail _ hy)
    have h6 := h a (.head _)
    rw [List.length_cons, Nat.succ_mul]; omega
theorem text_wt (x : Int) : wt ((List.range 3).map (pickW x)) ≤ 12 := by
  have := wt_le' (l := (List.range 3).map (pickW x)) (b := 3) (fun y hy => by
    obtain ⟨p, _, rfl⟩ := List.mem_map.mp hy
    exact pick_len x p)
  simpa using this
theorem range_snoc {f : Nat → Str} {ys : List Value} {i : Nat} {y : Str} {t : Tok} (h : StrsAre ys ((List.range i).map f)) (e : f i = y) : StrsAre (ys ++ [.str y t]) ((List.range (i + 1)).map f) := by
  rw [List.range_succ, List.map_append, List.map_singleton, e]
  exact StrsAre.snoc h _ _
theorem as_list {h₀ h : Heap} {L l : Addr} {ws : List Value} {k : Nat} {r : List (Addr × Obj)} {ys : List Str} (N : News h₀ L h ((l, W.listOf (List.toArray ws) k) :: r)) (hS : StrsAre ws ys) : ∃ vs : List Value, StrsAre vs ys ∧ News h₀ L h ((l, W.listOf vs.toArray k) :: r) := ⟨ws, hS, N⟩
set_option maxHeartbeats 8000000 in
theorem text_c {w : World} {p : Program} {loose : List Str} {mean : ExcName → Option Value} {mg mb : Str → Option Value} {news : List (Addr × Obj)}
  {dp un : Nat} {gd : Option (List Code)} {env : Env} {outer : List Env} {A₀ : Around} {base h₀ : Heap} {L : Addr} {m : Str → Option Value} {s : Shared} {Q E : Value → Shared → Prop} {x : Int} {tx : Tok}
  (B : Below A₀ base outer h₀) (F : Fr h₀ L s.heap m) (X : (hd.heap_39 w.params).In h₀) (N : News h₀ L s.heap news) (T : Top p loose mean mg mb h₀)
  (hf : env.frame = some L) (hk : env.scope.kind = .function) (hd : dp + 2 < recursionLimit) (hu : un + 100 < cLine)
  (ret : ∀ t h1 tk, Fr h₀ L h1 m → News h₀ L h1 news → Q (.str (textW x) t) { s with heap := h1, toks := tk }) :
  wpAny (model Challenge.rw_ik0112_01.row.prog w) { handled := none, depth := dp, frames := some (env :: outer), guards := gd, units := un } (call (.ref 222) [.int x tx]) Q E s := by
  revert X; k_fill; intro X
  refine wpAny_call ?_
  k_dflt (refine' code_defC ?k1 ?k2 ?k3 ?k4 ?k5 ?kA ?kF ?kK ?k6 ?k7 ?k8 ?k9 ?kB ?kD ?_ ?c2 ?c3 ?c4; (case kA => exact rfl); (case kF => exact hf); (case kK => exact hk); (case k1 => k_asm); (case k2 => k_asm); (case k3 => k_asm); (case k4 => k_asm); (case k5 => k_asm); (case k6 => k_is); (case k7 => k_is); (case k8 => exact Nat.lt_of_le_of_lt (Nat.le_add_right _ _) hd); (case k9 => first | exact BindsTo.of_eq rfl | (refine' kp_binds ?kx ?ke; (case kx => k_in); (case ke => exact fun _ => rfl))); (case kB => exact rfl); (case kD => decide +kernel); (case c2 => exact rfl); (case c3 => exact rfl); (case c4 => exact rfl); k_whole; intro g' L' h' tk' cells' FG' F' N' Y' B' X' T' l1; (try k_lt l1); k_cells Y'; (try simp only [List.cons_append, List.nil_append] at N'); (try dsimp only); (try k_fold))
  have hL1 := allLt_ne2 (allLt_of l1) (Nat.le_succ L')
  have hL2 := allLt_ne2 (allLt_of l1) (Nat.le_add_right L' 2)
  ktr_unf
  (with_reducible rename Fr _ _ _ _ => lF')
  (with_reducible rename News _ _ _ _ => lN')
  rename IsRange _ _ _ _ _ _ _ _ => hR
  obtain ⟨vs, hpS, N2⟩ := as_list (ys := poolW x) lN' (.cons _ _ (.cons _ _ (.cons _ _ (.cons _ _ (.cons _ _ (.cons _ _ (.cons _ _ (.cons _ _ .nil))))))))
  have hpl : vs.length = 8 := hpS.len_eq
  clear lN'
  refine LCg.CompSrc.range (n := 3) rfl lF' N2 hR (by decide) (by decide) (by rw [sizeLine_eq]; decide) ?_
  intro g5
  refine comp_all (fun i ys nw => nw = _ ∧ StrsAre ys ((List.range i).map (pickW x))) ⟨rfl, .nil⟩ ?turnT ?finT
  case turnT =>
    rintro i ys nw hi ⟨rfl, hY⟩ v I5 oI5 C5 oC5 D5 m5 h5 tk5 E5 ⟨t5, rfl⟩ hC5 hx5 F5 N5 off5 ne5
    have hf0 := Int.emod_nonneg (x / 1) (by decide : (8 : Int) ≠ 0)
    obtain rfl | rfl | rfl : i = 0 ∨ i = 1 ∨ i = 2 := by omega
    · rw [show ((0 : Int) + ((0 : Nat) : Int)) = 0 from rfl] at hx5
      ktr_unf
      refine' end_same (by assumption) (by assumption) off5 trivial ?_
      exact ⟨rfl, range_snoc hY (pick_of rfl (by assumption))⟩
    · rw [show ((0 : Int) + ((1 : Nat) : Int)) = 1 from rfl] at hx5
      ktr_unf
      refine' end_same (by assumption) (by assumption) off5 trivial ?_
      exact ⟨rfl, range_snoc hY (pick_of rfl (by assumption))⟩
    · rw [show ((0 : Int) + ((2 : Nat) : Int)) = 2 from rfl] at hx5
      ktr_unf
      refine' end_same (by assumption) (by assumption) off5 trivial ?_
      exact ⟨rfl, range_snoc hY (pick_of rfl (by assumption))⟩
  case finT =>
    rintro ysX nw ⟨rfl, hYX⟩
    have hwt := text_wt x
    have hwt2 : wt ((List.range 3).map (pickW x)) ≤ 1000000 := by omega
    have hsl : (Str.ofString "/").length = 1 := by decide
    have hst : Str.ofString "/./" ++ Txt.join (Str.ofString "/") ((List.range 3).map (pickW x)) = textW x := rfl
    ktr_unf
    rw [hst]
    refine ret _ _ _ ?ra ?rb
    case ra => k_asm
    case rb => (refine' cb_drop ?rx ?ry; (case rx => assumption); (case ry => (intro p hp; repeat (first | exact hp | exact List.Mem.head _ | refine List.Mem.tail _ ?_))))
end Mine
namespace Mine
section
variable {prog : Program} {w : World} {A : Around} {E : Value → Shared → Prop} {s : Shared}
theorem sub_str_str : isSubtype (.type "str") (.type "str") = pure true := by rw [isSubtype_type]; kernel_rfl
theorem args_issubclass_nested_3 (a b c : Value) : argsOk "issubclass.nested" ⟨[a, b, c], []⟩ := by unfold argsOk; kernel_rfl
theorem kind_issubclass_nested : builtinKind "issubclass.nested" = none := by decide +kernel
theorem plain_issubclass_nested : plainId "issubclass.nested" = true := by decide +kernel
theorem issub_str_nested {k : Value} {dep : Int} {tk : Tok} {Q : Fin → Shared → Prop} (hk : k = .int dep tk) (hq : Q (.done (.ret (.bool true))) s) :
    wpAny (model prog w) A (Builtin.«issubclass.nested» ⟨[.type "str", .type "str", k], []⟩) Q E s := by
  subst hk
  have hself := sub_str_str
  repeat (any_goals (first | assumption | (rw [hself]) | wp_step))
theorem issub_str_meets (dep : Int) (tk : Tok) : Meets (Builtin.«issubclass.nested» ⟨[.type "str", .type "str", .int dep tk], []⟩) (fun _ R s => R (.ok (.ret (.bool true))) s) :=
  fun _ _ _ _ _ hs => issub_str_nested rfl hs
theorem issub_tup_nested {tp : Addr} {o : Obj} {n : Nat} {r cs : List Value} {tk : Tok} {Q : Fin → Shared → Prop}
    (htp : s.heap.get? tp = some o) (hc : o.cls = .type "tuple") (hcs : cs = Value.type "str" :: r) (hd : o.data = .seq cs.toArray n)
    (hq : Q (.done (.ret (.bool true))) s) : wpAny (model prog w) A (Builtin.«issubclass.nested» ⟨[.type "str", .ref tp, .int 0 tk], []⟩) Q E s := by
  obtain ⟨h, g, d, t, os⟩ := s
  obtain ⟨oc, od, odat, osl⟩ := o
  dsimp only at hc hd
  subst hc hd
  have hT2 : (⟨h, g, d, t, os⟩ : Shared).TypeIs (.ref tp) "tuple" := ⟨_, htp, rfl⟩
  have f1 := F.isi_sub_tuple
  repeat (any_goals (first | assumption | wp_step))
  refine wpAny_arrayLoop ?_
  simp only [Option.getD_some, List.toList_toArray]
  subst hcs
  rw [List.forIn_cons]
  refine wpAny_bind (wpAny_bind (call_function_meets kind_issubclass_nested plain_issubclass_nested F.entry_issubclass_nested (args_issubclass_nested_3 _ _ _) (issub_str_meets _ _) ?_))
  repeat (any_goals (first | assumption | wp_step))
theorem issub_tup {tp : Addr} {o : Obj} {n : Nat} {r : List Value} {Q : Value → Shared → Prop}
    (htp : s.heap.get? tp = some o) (hc : o.cls = .type "tuple") (hd : o.data = .seq (Value.type "str" :: r).toArray n) (hq : Q (.bool true) s) :
    wpAny (model prog w) A (call (.builtin "issubclass") [.type "str", .ref tp]) Q E s := by
  refine call_issubclass (S := fun _ R s' => R (.ok (.ret (.bool true))) s' ∧ s'.heap = s.heap) (fun _ _ _ _ s' hs => ?_) ⟨hq, rfl⟩
  exact issubclass_outer (issub_tup_nested (by rw [hs.2]; exact htp) hc rfl hd hs.1)
end
end Mine
namespace Mine
theorem top_off_A2 : True := by
  w_top off
  trivial
local macro_rules | `(tactic| walk_at "call builtin:issubclass") => `(tactic| (k_here; k_dflt (refine' issub_tup (s := _) ?a ?b ?c ?_; (case a => exact News.get (by k_asm) (by k_mem)); (case b => rfl); (case c => rfl); k_whole)))
set_option maxHeartbeats 8000000 in
theorem fspath_c {w : World} {p : Program} {loose : List Str} {mean : ExcName → Option Value} {mg mb : Str → Option Value} {news : List (Addr × Obj)}
  {dp un : Nat} {gd : Option (List Code)} {env : Env} {outer : List Env} {A₀ : Around} {base h₀ : Heap} {L : Addr} {m : Str → Option Value} {s : Shared} {Q E : Value → Shared → Prop} {x : Str} {t : Tok}
  (B : Below A₀ base outer h₀) (F : Fr h₀ L s.heap m) (X : (hd.heap_39 w.params).In h₀) (N : News h₀ L s.heap news) (T : Top p loose mean mg mb h₀)
  (hf : env.frame = some L) (hk : env.scope.kind = .function) (hd : dp + 1 < recursionLimit) (hu : un + 8 < cLine)
  (ret : ∀ t h1 tk, Fr h₀ L h1 m → News h₀ L h1 news → Q (.str x t) { s with heap := h1, toks := tk }) :
  wpAny (model Challenge.rw_ik0112_01.row.prog w) { handled := none, depth := dp, frames := some (env :: outer), guards := gd, units := un } (call (.ref 94) [.str x t]) Q E s := by
  revert X; k_fill; intro X
  refine wpAny_call ?_
  k_dflt (refine' code_def ?k1 ?k2 ?k3 ?k4 ?k5 ?kA ?kF ?kK ?k6 ?k7 ?k8 ?k9 ?kB ?_ ?c2 ?c3 ?c4 ?c5; (case kA => exact rfl); (case kF => exact hf); (case kK => exact hk); (case k1 => k_asm); (case k2 => k_asm); (case k3 => k_asm); (case k4 => k_asm); (case k5 => k_asm); (case k6 => k_is); (case k7 => k_is); (case k8 => exact Nat.lt_of_le_of_lt (Nat.le_add_right _ _) hd); (case k9 => exact BindsTo.of_eq rfl); (case c5 => decide); (case kB => exact locs rfl); (case c2 => exact rfl); (case c3 => exact rfl); (case c4 => exact rfl); k_whole; intro g' L' h' FG' F' N' B' X' T'; (try dsimp only); (try k_fold))
  k_steps
  all_goals (refine ret _ _ _ ?ra ?rb; (case ra => k_asm); (case rb => first | k_asm | (refine' cb_drop ?rx ?ry; (case rx => assumption); (case ry => kcj_all))))
set_option maxHeartbeats 8000000 in
theorem getsep_c {w : World} {p : Program} {loose : List Str} {mean : ExcName → Option Value} {mg mb : Str → Option Value} {news : List (Addr × Obj)}
  {dp un : Nat} {gd : Option (List Code)} {env : Env} {outer : List Env} {A₀ : Around} {base h₀ : Heap} {L : Addr} {m : Str → Option Value} {s : Shared} {Q E : Value → Shared → Prop} {x : Str} {t : Tok}
  (B : Below A₀ base outer h₀) (F : Fr h₀ L s.heap m) (X : (hd.heap_39 w.params).In h₀) (N : News h₀ L s.heap news) (T : Top p loose mean mg mb h₀)
  (hf : env.frame = some L) (hk : env.scope.kind = .function) (hd : dp + 1 < recursionLimit) (hu : un + 8 < cLine)
  (ret : ∀ t h1 tk, Fr h₀ L h1 m → News h₀ L h1 news → Q (.str (Str.ofString "/") t) { s with heap := h1, toks := tk }) :
  wpAny (model Challenge.rw_ik0112_01.row.prog w) { handled := none, depth := dp, frames := some (env :: outer), guards := gd, units := un } (call (.ref 108) [.str x t]) Q E s := by
  revert X; k_fill; intro X
  refine wpAny_call ?_
  k_dflt (refine' code_def ?k1 ?k2 ?k3 ?k4 ?k5 ?kA ?kF ?kK ?k6 ?k7 ?k8 ?k9 ?kB ?_ ?c2 ?c3 ?c4 ?c5; (case kA => exact rfl); (case kF => exact hf); (case kK => exact hk); (case k1 => k_asm); (case k2 => k_asm); (case k3 => k_asm); (case k4 => k_asm); (case k5 => k_asm); (case k6 => k_is); (case k7 => k_is); (case k8 => exact Nat.lt_of_le_of_lt (Nat.le_add_right _ _) hd); (case k9 => exact BindsTo.of_eq rfl); (case c5 => decide); (case kB => exact locs rfl); (case c2 => exact rfl); (case c3 => exact rfl); (case c4 => exact rfl); k_whole; intro g' L' h' FG' F' N' B' X' T'; (try dsimp only); (try k_fold))
  k_steps
  all_goals (refine ret _ _ _ ?ra ?rb; (case ra => k_asm); (case rb => first | k_asm | (refine' cb_drop ?rx ?ry; (case rx => assumption); (case ry => kcj_all))))
end Mine
namespace Mine
theorem top_off_A3 : True := by
  w_top off
  trivial
local macro_rules | `(tactic| walk_at "call ref") => `(tactic| (k_here; k_dflt (refine' fspath_c ?B ?F ?X ?N ?T ?hf ?hk ?hd ?hu  ?_; (case B => k_asm); (case F => k_asm); (case X => k_asm); (case N => k_asm); (case T => k_asm); (case hf => exact rfl); (case hk => exact rfl); (case hd => ktr_room); (case hu => ktr_units);  k_whole; intro t9 h9 tk9 F9 N9; (try dsimp only); (try k_fold))))
local macro_rules | `(tactic| walk_at "call ref") => `(tactic| (k_here; k_dflt (refine' getsep_c ?B ?F ?X ?N ?T ?hf ?hk ?hd ?hu  ?_; (case B => k_asm); (case F => k_asm); (case X => k_asm); (case N => k_asm); (case T => k_asm); (case hf => exact rfl); (case hk => exact rfl); (case hd => ktr_room); (case hu => ktr_units);  k_whole; intro t9 h9 tk9 F9 N9; (try dsimp only); (try k_fold))))
def headW (x : Str) : Str := Txt.slice x none (some (Txt.rfind x (Str.ofString "/") + 1))
def basenameW (x : Str) : Str := Txt.slice x (some (Txt.rfind x (Str.ofString "/") + 1)) none
def dirnameW (x : Str) : Str := if (headW x).length = 0 then headW x else if (headW x != Txt.mul (Str.ofString "/") ((headW x).length : Int)) = true then Txt.rstripChars (headW x) (Str.ofString "/") else headW x
theorem dirnameW1 {x : Str} (h : ((headW x).length : Int) = 0) : dirnameW x = headW x := by unfold dirnameW; rw [if_pos (by omega)]
theorem dirnameW2 {x : Str} (h : ((headW x).length : Int) ≠ 0) (h2 : (headW x != Txt.mul (Str.ofString "/") ((headW x).length : Int)) = true) : dirnameW x = Txt.rstripChars (headW x) (Str.ofString "/") := by
  unfold dirnameW; rw [if_neg (by omega), if_pos h2]
theorem dirnameW3 {x : Str} (h : ((headW x).length : Int) ≠ 0) (h2 : (headW x != Txt.mul (Str.ofString "/") ((headW x).length : Int)) = false) : dirnameW x = headW x := by
  unfold dirnameW; rw [if_neg (by omega), if_neg (by rw [h2]; decide)]
set_option maxHeartbeats 8000000 in
theorem basename_c {w : World} {p : Program} {loose : List Str} {mean : ExcName → Option Value} {mg mb : Str → Option Value} {news : List (Addr × Obj)}
  {dp un : Nat} {gd : Option (List Code)} {env : Env} {outer : List Env} {A₀ : Around} {base h₀ : Heap} {L : Addr} {m : Str → Option Value} {s : Shared} {Q E : Value → Shared → Prop} {x : Str} {t : Tok}
  (B : Below A₀ base outer h₀) (F : Fr h₀ L s.heap m) (X : (hd.heap_39 w.params).In h₀) (N : News h₀ L s.heap news) (T : Top p loose mean mg mb h₀)
  (hf : env.frame = some L) (hk : env.scope.kind = .function) (hd : dp + 2 < recursionLimit) (hu : un + 16 < cLine) (hx : x.length ≤ 100000)
  (ret : ∀ t h1 tk, Fr h₀ L h1 m → News h₀ L h1 news → Q (.str (basenameW x) t) { s with heap := h1, toks := tk }) :
  wpAny (model Challenge.rw_ik0112_01.row.prog w) { handled := none, depth := dp, frames := some (env :: outer), guards := gd, units := un } (call (.ref 136) [.str x t]) Q E s := by
  revert X; k_fill; intro X
  refine wpAny_call ?_
  k_dflt (refine' code_def ?k1 ?k2 ?k3 ?k4 ?k5 ?kA ?kF ?kK ?k6 ?k7 ?k8 ?k9 ?kB ?_ ?c2 ?c3 ?c4 ?c5; (case kA => exact rfl); (case kF => exact hf); (case kK => exact hk); (case k1 => k_asm); (case k2 => k_asm); (case k3 => k_asm); (case k4 => k_asm); (case k5 => k_asm); (case k6 => k_is); (case k7 => k_is); (case k8 => exact Nat.lt_of_le_of_lt (Nat.le_add_right _ _) hd); (case k9 => exact BindsTo.of_eq rfl); (case c5 => decide); (case kB => exact locs rfl); (case c2 => exact rfl); (case c3 => exact rfl); (case c4 => exact rfl); k_whole; intro g' L' h' FG' F' N' B' X' T'; (try dsimp only); (try k_fold))
  k_steps
  all_goals (refine ret _ _ _ ?ra ?rb; (case ra => k_asm); (case rb => first | k_asm | (refine' cb_drop ?rx ?ry; (case rx => assumption); (case ry => kcj_all))))
set_option maxHeartbeats 8000000 in
theorem dirname_c {w : World} {p : Program} {loose : List Str} {mean : ExcName → Option Value} {mg mb : Str → Option Value} {news : List (Addr × Obj)}
  {dp un : Nat} {gd : Option (List Code)} {env : Env} {outer : List Env} {A₀ : Around} {base h₀ : Heap} {L : Addr} {m : Str → Option Value} {s : Shared} {Q E : Value → Shared → Prop} {x : Str} {t : Tok}
  (B : Below A₀ base outer h₀) (F : Fr h₀ L s.heap m) (X : (hd.heap_39 w.params).In h₀) (N : News h₀ L s.heap news) (T : Top p loose mean mg mb h₀)
  (hf : env.frame = some L) (hk : env.scope.kind = .function) (hd : dp + 2 < recursionLimit) (hu : un + 16 < cLine) (hx : x.length ≤ 100000)
  (ret : ∀ t h1 tk, Fr h₀ L h1 m → News h₀ L h1 news → Q (.str (dirnameW x) t) { s with heap := h1, toks := tk }) :
  wpAny (model Challenge.rw_ik0112_01.row.prog w) { handled := none, depth := dp, frames := some (env :: outer), guards := gd, units := un } (call (.ref 143) [.str x t]) Q E s := by
  revert X; k_fill; intro X
  refine wpAny_call ?_
  k_dflt (refine' code_def ?k1 ?k2 ?k3 ?k4 ?k5 ?kA ?kF ?kK ?k6 ?k7 ?k8 ?k9 ?kB ?_ ?c2 ?c3 ?c4 ?c5; (case kA => exact rfl); (case kF => exact hf); (case kK => exact hk); (case k1 => k_asm); (case k2 => k_asm); (case k3 => k_asm); (case k4 => k_asm); (case k5 => k_asm); (case k6 => k_is); (case k7 => k_is); (case k8 => exact Nat.lt_of_le_of_lt (Nat.le_add_right _ _) hd); (case k9 => exact BindsTo.of_eq rfl); (case c5 => decide); (case kB => exact locs rfl); (case c2 => exact rfl); (case c3 => exact rfl); (case c4 => exact rfl); k_whole; intro g' L' h' FG' F' N' B' X' T'; (try dsimp only); (try k_fold))
  k_steps
  all_goals (
    (first | (have e := dirnameW1 (x := x) (by assumption)) | (have e := dirnameW2 (x := x) (by assumption) (by assumption)) | (have e := dirnameW3 (x := x) (by assumption) (by assumption)))
    rw [e] at ret)
  all_goals (refine ret _ _ _ ?ra ?rb; (case ra => k_asm); (case rb => first | k_asm | (refine' cb_drop ?rx ?ry; (case rx => assumption); (case ry => kcj_all))))
set_option maxHeartbeats 8000000 in
theorem split_c {w : World} {p : Program} {loose : List Str} {mean : ExcName → Option Value} {mg mb : Str → Option Value} {news : List (Addr × Obj)}
  {dp un : Nat} {gd : Option (List Code)} {env : Env} {outer : List Env} {A₀ : Around} {base h₀ : Heap} {L : Addr} {m : Str → Option Value} {s : Shared} {Q E : Value → Shared → Prop} {x : Str} {t : Tok}
  (B : Below A₀ base outer h₀) (F : Fr h₀ L s.heap m) (X : (hd.heap_39 w.params).In h₀) (N : News h₀ L s.heap news) (T : Top p loose mean mg mb h₀)
  (hf : env.frame = some L) (hk : env.scope.kind = .function) (hd : dp + 2 < recursionLimit) (hu : un + 16 < cLine) (hx : x.length ≤ 100000)
  (ret : ∀ D t1 t2 h1 tk, Fr h₀ L h1 m → News h₀ L h1 ((D, { cls := .type "tuple", data := .seq #[.str (dirnameW x) t1, .str (basenameW x) t2] }) :: news) → Q (.ref D) { s with heap := h1, toks := tk }) :
  wpAny (model Challenge.rw_ik0112_01.row.prog w) { handled := none, depth := dp, frames := some (env :: outer), guards := gd, units := un } (call (.ref 122) [.str x t]) Q E s := by
  revert X; k_fill; intro X
  refine wpAny_call ?_
  k_dflt (refine' code_def ?k1 ?k2 ?k3 ?k4 ?k5 ?kA ?kF ?kK ?k6 ?k7 ?k8 ?k9 ?kB ?_ ?c2 ?c3 ?c4 ?c5; (case kA => exact rfl); (case kF => exact hf); (case kK => exact hk); (case k1 => k_asm); (case k2 => k_asm); (case k3 => k_asm); (case k4 => k_asm); (case k5 => k_asm); (case k6 => k_is); (case k7 => k_is); (case k8 => exact Nat.lt_of_le_of_lt (Nat.le_add_right _ _) hd); (case k9 => exact BindsTo.of_eq rfl); (case c5 => decide); (case kB => exact locs rfl); (case c2 => exact rfl); (case c3 => exact rfl); (case c4 => exact rfl); k_whole; intro g' L' h' FG' F' N' B' X' T'; (try dsimp only); (try k_fold))
  k_steps
  all_goals (
    (first | (have e := dirnameW1 (x := x) (by assumption)) | (have e := dirnameW2 (x := x) (by assumption) (by assumption)) | (have e := dirnameW3 (x := x) (by assumption) (by assumption)))
    rw [e] at ret)
  all_goals (refine' ret _ _ _ _ _ ?ra ?rb; (case rb => first | k_asm | (refine' cb_drop ?rx ?ry; (case rx => assumption); (case ry => kcj_all))); (case ra => k_asm))
set_option maxHeartbeats 8000000 in
theorem splitroot_c {w : World} {p : Program} {loose : List Str} {mean : ExcName → Option Value} {mg mb : Str → Option Value} {news : List (Addr × Obj)}
  {dp un : Nat} {gd : Option (List Code)} {env : Env} {outer : List Env} {A₀ : Around} {base h₀ : Heap} {L : Addr} {m : Str → Option Value} {s : Shared} {Q E : Value → Shared → Prop} {x : Str} {t : Tok}
  (B : Below A₀ base outer h₀) (F : Fr h₀ L s.heap m) (X : (hd.heap_39 w.params).In h₀) (N : News h₀ L s.heap news) (T : Top p loose mean mg mb h₀)
  (hf : env.frame = some L) (hk : env.scope.kind = .function) (hd : dp + 2 < recursionLimit) (hu : un + 16 < cLine) (hx : x.length ≤ 100000) (hs1 : (Txt.slice x none (some 1) != Str.ofString "/") = false) (hs2 : (Txt.slice x (some 1) (some 2) != Str.ofString "/") = true)
  (ret : ∀ D t1 t2 t3 h1 tk, Fr h₀ L h1 m → News h₀ L h1 ((D, { cls := .type "tuple", data := .seq #[.str (Str.ofString "") t1, .str (Str.ofString "/") t2, .str (Txt.slice x (some 1) none) t3] }) :: news) → Q (.ref D) { s with heap := h1, toks := tk }) :
  wpAny (model Challenge.rw_ik0112_01.row.prog w) { handled := none, depth := dp, frames := some (env :: outer), guards := gd, units := un } (call (.ref 129) [.str x t]) Q E s := by
  revert X; k_fill; intro X
  refine wpAny_call ?_
  k_dflt (refine' code_def ?k1 ?k2 ?k3 ?k4 ?k5 ?kA ?kF ?kK ?k6 ?k7 ?k8 ?k9 ?kB ?_ ?c2 ?c3 ?c4 ?c5; (case kA => exact rfl); (case kF => exact hf); (case kK => exact hk); (case k1 => k_asm); (case k2 => k_asm); (case k3 => k_asm); (case k4 => k_asm); (case k5 => k_asm); (case k6 => k_is); (case k7 => k_is); (case k8 => exact Nat.lt_of_le_of_lt (Nat.le_add_right _ _) hd); (case k9 => exact BindsTo.of_eq rfl); (case c5 => decide); (case kB => exact locs rfl); (case c2 => exact rfl); (case c3 => exact rfl); (case c4 => exact rfl); k_whole; intro g' L' h' FG' F' N' B' X' T'; (try dsimp only); (try k_fold))
  k_steps
  all_goals (try (exfalso; simp_all; done))
  all_goals (refine' ret _ _ _ _ _ _ ?ra ?rb; (case rb => first | k_asm | (refine' cb_drop ?rx ?ry; (case rx => assumption); (case ry => kcj_all))); (case ra => k_asm))
def joinW (x y : Str) : Str := if Txt.startswith y (Str.ofString "/") = true then y else if x.length = 0 then y else if Txt.endswith x (Str.ofString "/") = true then x ++ y else x ++ (Str.ofString "/" ++ y)
theorem joinW1 {x y : Str} (h : Txt.startswith y (Str.ofString "/") = true) : joinW x y = y := by unfold joinW; rw [if_pos h]
theorem joinW2 {x y : Str} (h : Txt.startswith y (Str.ofString "/") = false) (h2 : (x.length : Int) = 0) : joinW x y = y := by
  unfold joinW; rw [if_neg (by rw [h]; decide), if_pos (by omega)]
theorem joinW3 {x y : Str} (h : Txt.startswith y (Str.ofString "/") = false) (h2 : (x.length : Int) ≠ 0) (h3 : Txt.endswith x (Str.ofString "/") = true) : joinW x y = x ++ y := by
  unfold joinW; rw [if_neg (by rw [h]; decide), if_neg (by omega), if_pos h3]
theorem joinW4 {x y : Str} (h : Txt.startswith y (Str.ofString "/") = false) (h2 : (x.length : Int) ≠ 0) (h3 : Txt.endswith x (Str.ofString "/") = false) : joinW x y = x ++ (Str.ofString "/" ++ y) := by
  unfold joinW; rw [if_neg (by rw [h]; decide), if_neg (by omega), if_neg (by rw [h3]; decide)]
set_option maxHeartbeats 8000000 in
theorem join_c {w : World} {p : Program} {loose : List Str} {mean : ExcName → Option Value} {mg mb : Str → Option Value} {news : List (Addr × Obj)}
  {dp un : Nat} {gd : Option (List Code)} {env : Env} {outer : List Env} {A₀ : Around} {base h₀ : Heap} {L : Addr} {m : Str → Option Value} {s : Shared} {Q E : Value → Shared → Prop} {x y : Str} {t u : Tok}
  (B : Below A₀ base outer h₀) (F : Fr h₀ L s.heap m) (X : (hd.heap_39 w.params).In h₀) (N : News h₀ L s.heap news) (T : Top p loose mean mg mb h₀)
  (hf : env.frame = some L) (hk : env.scope.kind = .function) (hd : dp + 2 < recursionLimit) (hu : un + 16 < cLine) (hx : x.length ≤ 100000) (hy : y.length ≤ 100000)
  (ret : ∀ t h1 tk, Fr h₀ L h1 m → News h₀ L h1 news → Q (.str (joinW x y) t) { s with heap := h1, toks := tk }) :
  wpAny (model Challenge.rw_ik0112_01.row.prog w) { handled := none, depth := dp, frames := some (env :: outer), guards := gd, units := un } (call (.ref 115) [.str x t, .str y u]) Q E s := by
  revert X; k_fill; intro X
  refine wpAny_call ?_
  k_dflt (refine' kp_rest ?k1 ?k2 ?k3 ?k4 ?k5 ?kA ?kF ?kK ?k6 ?k7 ?k8 ?kV ?kP ?kG ?kB ?_ ?c2 ?c3 ?c4 ?c5; (case kA => exact rfl); (case kF => exact hf); (case kK => exact hk); (case k1 => k_asm); (case k2 => k_asm); (case k3 => k_asm); (case k4 => k_asm); (case k5 => k_asm); (case k6 => k_is); (case k7 => k_is); (case k8 => exact Nat.lt_of_le_of_lt (Nat.le_add_right _ _) hd); (case kV => kl_lit); (case kP => exact rfl); (case kG => exact fun _ => rfl); (case kB => exact fun _ => locs rfl); (case c5 => decide); (case c2 => exact rfl); (case c3 => exact rfl); (case c4 => exact rfl); k_whole; intro D' g' L' h' l1 FG' F' N' B' X' T'; (try k_lt l1); (try dsimp only); (try k_fold))
  k_steps
  (with_reducible rename Fr _ _ _ _ => lF')
  (with_reducible rename News _ _ _ _ => lN')
  refine For_invVF lF' rfl rfl ?_
  refine ld lF' rfl ?_
  refine iter_tuple rfl (List.Mem.head _) rfl rfl lF' lN' (fun I h' S => loop_hot0 S (fun p hp => by rw [List.mem_singleton.mp hp]; exact List.Mem.head _) (fun i m' tl => tl = [] ∧ (∃ t', m' (Str.ofString "path") = some (.str (if i = 0 then x else joinW x y) t')) ∧ (∃ t', m' (Str.ofString "sep") = some (.str (Str.ofString "/") t'))) ⟨rfl, ⟨_, rfl⟩, ⟨_, rfl⟩⟩ ?_ ?_)
  · rintro i v m₁ tl it h tk hlt hv ⟨rfl, ⟨t', hp⟩, ⟨t'', hsep⟩⟩ hoff F₁ N₁
    have hi : i = 0 := by
      cases i with
      | zero => rfl
      | succ i => simp at hv
    subst hi
    have hv' : v = .str y u := by simpa using hv.symm
    subst hv'
    simp only [if_true] at hp
    have F₂ := know (know F₁ (x := Str.ofString "sep") hsep) (x := Str.ofString "path") hp
    clear F₁ lF' lN'
    k_steps
    all_goals (
      (show TurnEnd _ _ _ _ _ _ _)
      (first | (have e := joinW1 (x := x) (y := y) (by assumption)) | (have e := joinW2 (x := x) (y := y) (by assumption) (by assumption)) | (have e := joinW3 (x := x) (y := y) (by assumption) (by assumption) (by assumption)) | (have e := joinW4 (x := x) (y := y) (by assumption) (by assumption) (by assumption)))
      refine Hot0.intro (by assumption) (by assumption) [] (fun p hp => hp) hoff ⟨rfl, ⟨_, congrArg (fun z => some (Value.str z _)) e.symm⟩, ⟨_, rfl⟩⟩)
  · rintro m₁ tl h tk ⟨rfl, ⟨t', hp⟩, ⟨t'', hsep⟩⟩ F₁ N₁
    simp only [List.length_cons, List.length_nil, Nat.zero_add, Nat.one_ne_zero, if_false] at hp
    have F₂ := know (know F₁ (x := Str.ofString "sep") hsep) (x := Str.ofString "path") hp
    clear F₁ lF' lN'
    k_steps
    all_goals (refine ret _ _ _ ?ra ?rb; (case ra => k_asm); (case rb => first | k_asm | (refine' cb_drop ?rx ?ry; (case rx => assumption); (case ry => kcj_all))))
end Mine
namespace Mine
theorem top_off_A5 : True := by
  w_top off
  trivial
local macro_rules | `(tactic| walk_at "call ref") => `(tactic| (k_here; k_dflt (refine' fspath_c ?B ?F ?X ?N ?T ?hf ?hk ?hd ?hu  ?_; (case B => k_asm); (case F => k_asm); (case X => k_asm); (case N => k_asm); (case T => k_asm); (case hf => exact rfl); (case hk => exact rfl); (case hd => ktr_room); (case hu => ktr_units);  k_whole; intro t9 h9 tk9 F9 N9; (try dsimp only); (try k_fold))))
local macro_rules | `(tactic| walk_at "call ref") => `(tactic| (k_here; k_dflt (refine' getsep_c ?B ?F ?X ?N ?T ?hf ?hk ?hd ?hu  ?_; (case B => k_asm); (case F => k_asm); (case X => k_asm); (case N => k_asm); (case T => k_asm); (case hf => exact rfl); (case hk => exact rfl); (case hd => ktr_room); (case hu => ktr_units);  k_whole; intro t9 h9 tk9 F9 N9; (try dsimp only); (try k_fold))))
local macro_rules | `(tactic| walk_at "call ref") => `(tactic| (k_here; k_dflt (refine' splitroot_c ?B ?F ?X ?N ?T ?hf ?hk ?hd ?hu ?h1 ?h2 ?h3 ?_; (case B => k_asm); (case F => k_asm); (case X => k_asm); (case N => k_asm); (case T => k_asm); (case hf => exact rfl); (case hk => exact rfl); (case hd => ktr_room); (case hu => ktr_units); (case h1 => assumption); (case h2 => assumption); (case h3 => assumption); k_whole; intro D9 t91 t92 t93 h9 tk9 F9 N9; (try dsimp only); (try k_fold))))
def pieceW (acc : List Str) (c : Str) : List Str :=
  if c.length = 0 then acc else if c = Str.ofString "." then acc else if c = Str.ofString ".." then acc.dropLast else acc ++ [c]
def piecesW (l : List Str) : List Str := l.foldl pieceW []
def normW (x : Str) : Str := Str.ofString "/" ++ Txt.join (Str.ofString "/") (piecesW (Txt.split (Txt.slice x (some 1) none) (Str.ofString "/")))
theorem pieces_len : ∀ (l acc : List Str), (l.foldl pieceW acc).length ≤ acc.length + l.length
  | [], acc => Nat.le_add_right _ _
  | c :: l, acc => by
    have h1 := pieces_len l (pieceW acc c)
    have h2 : (pieceW acc c).length ≤ acc.length + 1 := by
      unfold pieceW; split
      · omega
      · split
        · omega
        · split
          · rw [List.length_dropLast]; omega
          · rw [List.length_append]; simp
    rw [List.foldl_cons, List.length_cons]; omega
theorem wt_dropLast (l : List Str) : wt l.dropLast ≤ wt l := by
  rcases List.eq_nil_or_concat l with rfl | ⟨r, a, rfl⟩
  · exact Nat.le_refl _
  · rw [List.concat_eq_append, List.dropLast_concat, wt_append]; omega
theorem pieces_wt : ∀ (l acc : List Str), wt (l.foldl pieceW acc) ≤ wt acc + wt l
  | [], acc => Nat.le_add_right _ _
  | c :: l, acc => by
    have h1 := pieces_wt l (pieceW acc c)
    have h3 : wt (c :: l) = wt [c] + wt l := wt_append [c] l
    have h2 : wt (pieceW acc c) ≤ wt acc + wt [c] := by
      unfold pieceW; split
      · omega
      · split
        · omega
        · split
          · have := wt_dropLast acc; omega
          · rw [wt_append]; omega
    rw [List.foldl_cons]; omega
theorem pieces_dd : ∀ (l acc : List Str), (∀ a ∈ acc, a ≠ Str.ofString "..") → ∀ a ∈ l.foldl pieceW acc, a ≠ Str.ofString ".."
  | [], acc, h => h
  | c :: l, acc, h => by
    rw [List.foldl_cons]
    refine pieces_dd l _ ?_
    unfold pieceW; split
    · exact h
    · split
      · exact h
      · split
        · exact fun a ha => h a (List.dropLast_subset _ ha)
        · rename_i hne
          intro a ha
          rcases List.mem_append.mp ha with ha | ha
          · exact h a ha
          · rw [List.mem_singleton.mp ha]; exact hne
theorem pieces_snoc {ys : List Str} {i : Nat} {c : Str} (hc : ys[i]? = some c) : piecesW (ys.take (i + 1)) = pieceW (piecesW (ys.take i)) c := by
  unfold piecesW
  rw [List.take_add_one, hc, List.foldl_append]; rfl
theorem pieceW1 {acc : List Str} {c : Str} (h : (c.length : Int) = 0) : pieceW acc c = acc := by unfold pieceW; rw [if_pos (by omega)]
theorem pieceW2 {acc : List Str} {c : Str} (h0 : (c.length : Int) ≠ 0) (h : (c == Str.ofString ".") = true) : pieceW acc c = acc := by
  unfold pieceW; rw [if_neg (by omega), if_pos (beq_iff_eq.mp h)]
theorem pieceW3 {acc : List Str} {c : Str} (h0 : (c.length : Int) ≠ 0) (h : (c == Str.ofString ".") = false) (h2 : (c != Str.ofString "..") = true) : pieceW acc c = acc ++ [c] := by
  unfold pieceW; rw [if_neg (by omega), if_neg (by simpa using h), if_neg (by simpa using h2)]
theorem pieceW4 {acc : List Str} {c : Str} (h0 : (c.length : Int) ≠ 0) (h : (c == Str.ofString ".") = false) (h2 : (c != Str.ofString "..") = false) : pieceW acc c = acc.dropLast := by
  unfold pieceW; rw [if_neg (by omega), if_neg (by simpa using h), if_pos (by simpa using h2)]
theorem norm_e5 {ws : List Value} {acc : List Str} {c : Str} (hW : StrsAre ws acc) (h0 : (c.length : Int) ≠ 0) (h : (c == Str.ofString ".") = false) (h2 : (c != Str.ofString "..") = false) (hz : (ws.length : Int) = 0) : StrsAre ws (pieceW acc c) := by
  rw [pieceW4 h0 h h2]
  have hl := StrsAre.len_eq hW
  have : acc = [] := List.eq_nil_of_length_eq_zero (by omega)
  subst this; exact hW
theorem norm_last {acc : List Str} {y : Str} (hdd : ∀ a ∈ acc, a ≠ Str.ofString "..") (hz : acc.getLast? = some y) (h : (y == Str.ofString "..") = true) : False :=
  hdd y (List.mem_of_getLast? hz) (beq_iff_eq.mp h)
local macro_rules | `(tactic| k_all) => `(tactic| first | assumption | exact allLt_ne (by assumption))
local macro_rules | `(tactic| walk_at "call builtin:list.append") => `(tactic| (k_here; (with_reducible show wpAny _ _ (call (Value.builtin _) [Value.ref _, _]) _ _ _); k_dflt (refine' hot_append ?F ?N ?U ?z ?_; (case F => k_asm); (case N => k_asm); (case U => k_upd); (case z => first | assumption | omega | (simp only [List.length_append, List.length_cons, List.length_nil]; omega)); k_whole); intro h' F' N'; (try k_sweep)))
local macro_rules | `(tactic| walk_at "truthy ref") => `(tactic| (k_here; k_dflt (refine' hot_truthy ?N ?m ?z ?_; (case N => k_asm); (case m => k_mem); (case z => first | assumption | omega); k_whole)))
local macro_rules | `(tactic| walk_at "subscriptTail Name UnaryOp ref int") => `(tactic| (k_here; (with_reducible show wpAny _ _ (subscriptTail _ _ (Value.ref _) (Value.int _ _)) _ _ _); (with_unfolding_all refine' hot_lastS ?N ?m ?S ?e ?_ ?r; (case N => k_asm); (case m => k_mem); (case S => assumption); (case e => assumption); (case r => with_unfolding_all rfl); k_whole); intro y8 t8 hy8 hz8))
local macro_rules | `(tactic| walk_at "call builtin:list.pop") => `(tactic| (k_here; (with_reducible show wpAny _ _ (call (Value.builtin _) [Value.ref _]) _ _ _); k_dflt (refine' hot_popS ?F ?N ?U ?z ?S ?e ?_; (case F => k_asm); (case N => k_asm); (case U => k_upd); (case z => first | assumption | omega); (case S => assumption); (case e => assumption); k_whole); intro h' y8 t8 F' N'; (try k_sweep)))
local macro_rules | `(tactic| walk_at "call builtin:str.join") => `(tactic| (k_here; (with_reducible show wpAny _ _ (call (Value.builtin _) [Value.str _ _, Value.ref _]) _ _ _); k_dflt (refine' hot_join ?N ?m ?c ?d ?S ?w ?o ?_; (case N => k_asm); (case m => k_mem); (case c => rfl); (case d => rfl); (case S => assumption); (case w => assumption); (case o => decide); k_whole); intro t8 k8 hj8))
set_option maxHeartbeats 8000000 in
theorem normpath_c {w : World} {p : Program} {loose : List Str} {mean : ExcName → Option Value} {mg mb : Str → Option Value} {news : List (Addr × Obj)}
  {dp un : Nat} {gd : Option (List Code)} {env : Env} {outer : List Env} {A₀ : Around} {base h₀ : Heap} {L : Addr} {m : Str → Option Value} {s : Shared} {Q E : Value → Shared → Prop} {x : Str} {t : Tok}
  (B : Below A₀ base outer h₀) (F : Fr h₀ L s.heap m) (X : (hd.heap_39 w.params).In h₀) (N : News h₀ L s.heap news) (T : Top p loose mean mg mb h₀)
  (hf : env.frame = some L) (hk : env.scope.kind = .function) (hd : dp + 3 < recursionLimit) (hu : un + 24 < cLine) (hx : x.length ≤ 100000) (hx0 : (x.length : Int) ≠ 0) (hs1 : (Txt.slice x none (some 1) != Str.ofString "/") = false) (hs2 : (Txt.slice x (some 1) (some 2) != Str.ofString "/") = true) (hsp : wt (Txt.split (Txt.slice x (some 1) none) (Str.ofString "/")) ≤ 100000)
  (ret : ∀ t h1 tk, Fr h₀ L h1 m → News h₀ L h1 news → Q (.str (normW x) t) { s with heap := h1, toks := tk }) :
  wpAny (model Challenge.rw_ik0112_01.row.prog w) { handled := none, depth := dp, frames := some (env :: outer), guards := gd, units := un } (call (.ref 150) [.str x t]) Q E s := by
  revert X; k_fill; intro X
  refine wpAny_call ?_
  k_dflt (refine' code_def ?k1 ?k2 ?k3 ?k4 ?k5 ?kA ?kF ?kK ?k6 ?k7 ?k8 ?k9 ?kB ?_ ?c2 ?c3 ?c4 ?c5; (case kA => exact rfl); (case kF => exact hf); (case kK => exact hk); (case k1 => k_asm); (case k2 => k_asm); (case k3 => k_asm); (case k4 => k_asm); (case k5 => k_asm); (case k6 => k_is); (case k7 => k_is); (case k8 => exact Nat.lt_of_le_of_lt (Nat.le_add_right _ _) hd); (case k9 => exact BindsTo.of_eq rfl); (case c5 => decide); (case kB => exact locs rfl); (case c2 => exact rfl); (case c3 => exact rfl); (case c4 => exact rfl); k_whole; intro g' L' h' FG' F' N' B' X' T'; (try dsimp only); (try k_fold))
  k_steps
  all_goals (try (exfalso; omega))
  (with_reducible rename Fr _ _ _ _ => lF')
  (with_reducible rename News _ _ _ _ => lN')
  rename List (Str × Tok) => l
  rename List.map _ l = _ => hl
  rename StrsAre _ _ => hS
  rename ∀ a : Str, a ∈ List.map _ l → _ => hlen
  generalize hsv : strValues l = vs at *
  generalize hys : List.map (fun x => x.fst) l = ys at *
  refine For_invVF lF' rfl rfl ?_
  refine ld lF' rfl ?_
  refine iter_list rfl (List.Mem.tail _ (List.Mem.head _)) rfl rfl lF' lN' (fun I h' S => loop_hot1 S (fun p hp => by rw [List.mem_singleton.mp hp]; exact List.Mem.head _) ?hne (fun lc i m' ws tl => tl = [] ∧ StrsAre ws (piecesW (ys.take i)) ∧ (∃ t', m' (Str.ofString "dot") = some (.str (Str.ofString ".") t')) ∧ (∃ t', m' (Str.ofString "dotdot") = some (.str (Str.ofString "..") t')) ∧ (∃ t', m' (Str.ofString "sep") = some (.str (Str.ofString "/") t')) ∧ (∃ t', m' (Str.ofString "initial_slashes") = some (.str (Str.ofString "/") t')) ∧ m' (Str.ofString "new_comps") = some (.ref lc)) ?hk ?turn ?done)
  case hne => (k_all)
  case hk => exact ⟨rfl, StrsAre.nil, ⟨_, rfl⟩, ⟨_, rfl⟩, ⟨_, rfl⟩, ⟨_, rfl⟩, rfl⟩
  case turn =>
    rintro i v m₁ ws n tl it h tk hi hv ⟨rfl, hW, ⟨t1, hm1⟩, ⟨t2, hm2⟩, ⟨t3, hm3⟩, ⟨t4, hm4⟩, hm5⟩ ho hI hoff F₁ N₁
    obtain ⟨c, tc, rfl, hc⟩ := hS.item i v hv
    have F₂ := know (know (know (know (know F₁ (x := Str.ofString "dot") hm1) (x := Str.ofString "dotdot") hm2) (x := Str.ofString "sep") hm3) (x := Str.ofString "initial_slashes") hm4) (x := Str.ofString "new_comps") hm5
    simp only [List.nil_append] at N₁ ho hoff
    have hwl : ws.length ≤ 100000 := by
      have h1 := StrsAre.len_eq hW
      have h2 := pieces_len (ys.take i) []
      have h3 := StrsAre.len_eq hS
      simp only [piecesW, List.length_take, List.length_nil] at h1 h2
      rw [← hl] at hsp
      unfold wt at hsp
      omega
    have hdd := pieces_dd (ys.take i) [] (fun _ h => nomatch h)
    have hcl : c.length ≤ 100000 := Nat.le_trans (hlen c (List.mem_of_getElem? hc)) (Nat.le_trans (Txt.slice_le _ _ _) hx)
    clear F₁ lF' lN' S
    k_steps
    all_goals (try (exfalso; first | omega | (exact norm_last hdd (by assumption) (by assumption))))
    all_goals (
      (show TurnEnd _ _ _ _ _ _ _)
      (refine Hot1.intro (by assumption) (by assumption) _ _ [] (fun p hp => hp) ?_ ho ⟨rfl, ?_, ⟨_, rfl⟩, ⟨_, rfl⟩, ⟨_, rfl⟩, ⟨_, rfl⟩, rfl⟩)
      (· intro p hp; rcases List.mem_cons.mp hp with rfl | hp; exact hI; exact hoff p hp)
      (· rw [pieces_snoc hc]; first
          | (rw [pieceW1 (by assumption)]; exact hW)
          | (rw [pieceW2 (by assumption) (by assumption)]; exact hW)
          | (rw [pieceW3 (by assumption) (by assumption) (by assumption)]; exact StrsAre.snoc hW _ _)
          | (exact norm_e5 hW (by assumption) (by assumption) (by assumption) (by assumption))
          | (rw [pieceW4 (by assumption) (by assumption) (by assumption)]; exact StrsAre.drop_last hW)))
  case done =>
    rintro m₁ ws n tl h tk ⟨rfl, hW, ⟨t1, hm1⟩, ⟨t2, hm2⟩, ⟨t3, hm3⟩, ⟨t4, hm4⟩, hm5⟩ ho F₁ N₁
    have F₂ := know (know (know (know (know F₁ (x := Str.ofString "dot") hm1) (x := Str.ofString "dotdot") hm2) (x := Str.ofString "sep") hm3) (x := Str.ofString "initial_slashes") hm4) (x := Str.ofString "new_comps") hm5
    simp only [List.nil_append] at N₁ ho
    rw [StrsAre.len_eq hS, List.take_length] at hW
    have hpw : wt (piecesW ys) ≤ 1000000 := by
      have h1 := pieces_wt ys []
      rw [← hl] at hsp
      have h2 : wt ([] : List Str) = 0 := rfl
      unfold piecesW
      omega
    rw [hl] at hW hpw
    clear F₁ lF' lN' S
    k_steps
    all_goals (refine ret _ _ _ ?ra ?rb; (case ra => k_asm); (case rb => first | k_asm | (refine' cb_drop ?rx ?ry; (case rx => assumption); (case ry => kcj_all))))
end Mine
namespace Mine
theorem top_off_A14 : True := by
  w_top off
  trivial
local macro_rules | `(tactic| ktr_unf) => `(tactic| repeat' (first | (k_unfold; (try dsimp only)) | (k_end; wrow_close) | ((fail_if_success (with_reducible show wpAny _ _ (exec (Stmt.While _ _ _ _) _) _ _ _)); (fail_if_success (with_reducible show wpAny _ _ (exec (Stmt.For _ _ _ _ _) _) _ _ _)); (fail_if_success (with_reducible show wpAny _ _ (pyIter (Value.ref _)) _ _ _)); walk1) | ((fail_if_success (with_reducible show wpAny _ _ (exec (Stmt.While _ _ _ _) _) _ _ _)); (fail_if_success (with_reducible show wpAny _ _ (exec (Stmt.For _ _ _ _ _) _) _ _ _)); (fail_if_success (with_reducible show wpAny _ _ (pyIter (Value.ref _)) _ _ _)); dsimp only; walk1) | (leave1; walk_say "STEP leave1"; try dsimp only) | fail "no step"))
local macro_rules | `(tactic| k_all) => `(tactic| first | assumption | exact allLt_ne (by assumption))
local macro_rules | `(tactic| walk_at "call builtin:list.append") => `(tactic| (k_here; (with_reducible show wpAny _ _ (call (Value.builtin _) [Value.ref _, _]) _ _ _); k_dflt (refine' hot_append ?F ?N ?U ?z ?_; (case F => k_asm); (case N => k_asm); (case U => k_upd); (case z => first | assumption | omega | (simp only [List.length_append, List.length_cons, List.length_nil]; omega)); k_whole); intro h' F' N'; (try k_sweep)))
local macro_rules | `(tactic| walk_at "truthy ref") => `(tactic| (k_here; k_dflt (refine' hot_truthy ?N ?m ?z ?_; (case N => k_asm); (case m => k_mem); (case z => first | assumption | omega); k_whole)))
local macro_rules | `(tactic| walk_at "subscriptTail Name UnaryOp ref int") => `(tactic| (k_here; (with_reducible show wpAny _ _ (subscriptTail _ _ (Value.ref _) (Value.int _ _)) _ _ _); (with_unfolding_all refine' hot_lastS ?N ?m ?S ?e ?_ ?r; (case N => k_asm); (case m => k_mem); (case S => assumption); (case e => assumption); (case r => with_unfolding_all rfl); k_whole); intro y8 t8 hy8 hz8))
local macro_rules | `(tactic| walk_at "call builtin:list.pop") => `(tactic| (k_here; (with_reducible show wpAny _ _ (call (Value.builtin _) [Value.ref _]) _ _ _); k_dflt (refine' hot_popS ?F ?N ?U ?z ?S ?e ?_; (case F => k_asm); (case N => k_asm); (case U => k_upd); (case z => first | assumption | omega); (case S => assumption); (case e => assumption); k_whole); intro h' y8 t8 F' N'; (try k_sweep)))
local macro_rules | `(tactic| walk_at "call builtin:str.join") => `(tactic| (k_here; (with_reducible show wpAny _ _ (call (Value.builtin _) [Value.str _ _, Value.ref _]) _ _ _); k_dflt (refine' hot_join ?N ?m ?c ?d ?S ?w ?o ?_; (case N => k_asm); (case m => k_mem); (case c => rfl); (case d => rfl); (case S => assumption); (case w => assumption); (case o => decide); k_whole); intro t8 k8 hj8))
def straightStep (acc : List Str) (c : Str) : List Str :=
  if c = Str.ofString ".." then acc.dropLast else if c.length = 0 ∨ c = Str.ofString "." then acc else acc ++ [c]
def straightW (x : Str) : List Str := (Txt.split x (Str.ofString "/")).foldl straightStep []
theorem straight_len : ∀ (l acc : List Str), (l.foldl straightStep acc).length ≤ acc.length + l.length
  | [], acc => Nat.le_add_right _ _
  | c :: l, acc => by
    have h1 := straight_len l (straightStep acc c)
    have h2 : (straightStep acc c).length ≤ acc.length + 1 := by
      unfold straightStep; split
      · rw [List.length_dropLast]; omega
      · split
        · omega
        · rw [List.length_append]; simp
    rw [List.foldl_cons, List.length_cons]; omega
theorem straight_snoc {ys : List Str} {i : Nat} {c : Str} (hc : ys[i]? = some c) : (ys.take (i + 1)).foldl straightStep [] = straightStep ((ys.take i).foldl straightStep []) c := by
  rw [List.take_add_one, hc, List.foldl_append]; rfl
set_option maxHeartbeats 8000000 in
theorem straight_c {w : World} {p : Program} {loose : List Str} {mean : ExcName → Option Value} {mg mb : Str → Option Value} {news : List (Addr × Obj)}
  {dp un : Nat} {gd : Option (List Code)} {env : Env} {outer : List Env} {A₀ : Around} {base h₀ : Heap} {L : Addr} {m : Str → Option Value} {s : Shared} {Q E : Value → Shared → Prop} {x : Str} {u : Tok}
  (B : Below A₀ base outer h₀) (F : Fr h₀ L s.heap m) (X : (hd.heap_39 w.params).In h₀) (N : News h₀ L s.heap news) (T : Top p loose mean mg mb h₀)
  (hf : env.frame = some L) (hk : env.scope.kind = .function) (hd : dp + 1 < recursionLimit) (hu : un + 16 < cLine) (hx : x.length ≤ 100000) (hx2 : (Txt.split x (Str.ofString "/")).length ≤ 100000)
  (ret : ∀ D ws n h1 tk, Fr h₀ L h1 m → News h₀ L h1 ((D, W.listOf ws.toArray n) :: news) → (∀ p ∈ news, p.1 ≠ D) → StrsAre ws (straightW x) → Q (.ref D) { s with heap := h1, toks := tk }) :
  wpAny (model Challenge.rw_ik0112_01.row.prog w) { handled := none, depth := dp, frames := some (env :: outer), guards := gd, units := un } (call (.ref 229) [.str x u]) Q E s := by
  revert X; k_fill; intro X
  refine wpAny_call ?_
  k_dflt (refine' code_def ?k1 ?k2 ?k3 ?k4 ?k5 ?kA ?kF ?kK ?k6 ?k7 ?k8 ?k9 ?kB ?_ ?c2 ?c3 ?c4 ?c5; (case kA => exact rfl); (case kF => exact hf); (case kK => exact hk); (case k1 => k_asm); (case k2 => k_asm); (case k3 => k_asm); (case k4 => k_asm); (case k5 => k_asm); (case k6 => k_is); (case k7 => k_is); (case k8 => exact Nat.lt_of_le_of_lt (Nat.le_add_right _ _) hd); (case k9 => exact BindsTo.of_eq rfl); (case c5 => decide); (case kB => exact locs rfl); (case c2 => exact rfl); (case c3 => exact rfl); (case c4 => exact rfl); k_whole; intro g' L' h' FG' F' N' B' X' T'; (try dsimp only); (try k_fold))
  ktr_unf
  (with_reducible rename Fr _ _ _ _ => lF')
  refine For_invVF lF' rfl rfl ?_
  ktr_unf
  (with_reducible rename Fr _ _ _ _ => lF')
  (with_reducible rename News _ _ _ _ => lN')
  rename List (Str × Tok) => l
  rename List.map _ l = _ => hl
  rename StrsAre _ _ => hS
  rename ∀ p ∈ news, p.1 < _ => hAl
  rename ∀ a : Str, a ∈ List.map _ l → _ => hlen
  generalize hsv : strValues l = vs at *
  generalize hys : List.map (fun x => x.fst) l = ys at *
  have N2 := cb_drop lN' mem_swap
  refine iter_list rfl (List.Mem.tail _ (List.Mem.head _)) rfl rfl lF' N2 (fun I h' S => loop_tail (tl₀ := [_]) (rest := _ :: news) S (fun p hp => by rw [List.mem_singleton.mp hp]; exact List.Mem.head _) (fun i m' tl => ∃ nm ws n, tl = [(nm, W.listOf ws.toArray n)] ∧ m' (Str.ofString "names") = some (.ref nm) ∧ (∀ p ∈ news, p.1 ≠ nm) ∧ StrsAre ws ((ys.take i).foldl straightStep [])) ?hk ?turn ?done)
  case hk => exact ⟨_, [], 0, rfl, rfl, fun p hp => Nat.ne_of_lt (hAl p hp), .nil⟩
  case turn =>
    rintro i v m₁ tl it h tk hi hv ⟨nm, ws, n, rfl, hm1, hfr, hW⟩ hoff F₁ N₁
    obtain ⟨c, tc, rfl, hc⟩ := hS.item i v hv
    have F₂ := know F₁ (x := Str.ofString "names") hm1
    simp only [List.cons_append, List.nil_append] at N₁ hoff
    have hwl : ws.length ≤ 200000 := by
      have h1 := StrsAre.len_eq hW
      have h2 := straight_len (ys.take i) []
      have h3 := StrsAre.len_eq hS
      simp only [List.length_take, List.length_nil] at h1 h2
      rw [← hl] at hx2
      omega
    clear F₁
    ktr_unf
    all_goals (
      (rename News _ _ _ _ => lN9)
      (rename Fr _ _ _ _ => lF9)
      (show TurnEnd _ _ _ _ _ _ _))
    · rename (c == _) = true => hc9
      rw [sp_init] at lN9
      refine' Hot0.intro lF9 lN9 [_] ?sub ?off ⟨_, ws.dropLast, 0, ?tl, rfl, ?fr, ?str⟩
      case tl => exact rfl
      case sub => kcj_all
      case fr => exact fun p hp => Nat.ne_of_lt (Nat.lt_succ_of_lt (Heap.lt_size (N₁ p (.tail _ (.tail _ (.tail _ hp)))).1))
      case off => exact off_cons (Nat.ne_of_gt (Nat.lt_succ_of_lt (Heap.lt_size (N₁ (I, it) (.head _)).1))) (fun p hp => hoff p (.tail _ hp))
      case str =>
        rw [straight_snoc hc, straightStep, if_pos (beq_iff_eq.mp hc9)]
        exact StrsAre.drop_last hW
    · rename (c == _) = false => hc9
      rename List.any _ _ = true => ha9
      refine' Hot0.intro lF9 lN9 [_] ?sub ?off ⟨_, ws, n, ?tl, rfl, ?fr, ?str⟩
      case tl => exact rfl
      case sub => kcj_all
      case off => exact hoff
      case fr => exact hfr
      case str =>
        rw [straight_snoc hc, straightStep, if_neg (by simpa using hc9), if_pos]
        · exact hW
        · simp only [List.any_cons, List.any_nil, Bool.or_false, Bool.or_eq_true, beq_iff_eq] at ha9
          rcases ha9 with rfl | rfl
          · exact .inl rfl
          · exact .inr rfl
    · rename (c == _) = false => hc9
      rename List.any _ _ = false => ha9
      refine' Hot0.intro lF9 lN9 [_] ?sub ?off ⟨_, ws ++ [.str c tc], 0, ?tl, rfl, ?fr, ?str⟩
      case tl => exact rfl
      case sub => kcj_all
      case fr => exact fun p hp => Nat.ne_of_lt (Heap.lt_size (o := p.2) (News.get (by assumption) (List.Mem.tail _ (List.Mem.tail _ (List.Mem.tail _ (List.Mem.tail _ (List.Mem.tail _ hp)))))))
      case off =>
        refine off_cons ?_ (fun p hp => hoff p (.tail _ hp))
        exact Nat.ne_of_gt (Heap.lt_size (News.get (by assumption) (by k_mem)))
      case str =>
        rw [straight_snoc hc, straightStep, if_neg (by simpa using hc9), if_neg]
        · exact StrsAre.snoc (by assumption) _ _
        · simp only [List.any_cons, List.any_nil, Bool.or_false, Bool.or_eq_false_iff, beq_eq_false_iff_ne] at ha9
          rintro (h0 | rfl)
          · exact ha9.1 (str_len0 h0).symm
          · exact ha9.2 rfl
  case done =>
    rintro m₁ tl h tk ⟨nm, ws, n, rfl, hm1, hfr, hW⟩ F₁ N₁
    simp only [List.cons_append, List.nil_append] at N₁
    rw [StrsAre.len_eq hS, List.take_length, hl] at hW
    have F₂ := know F₁ (x := Str.ofString "names") hm1
    clear F₁
    ktr_unf
    refine ret nm ws n _ _ (by assumption) ?_ hfr hW
    refine' cb_drop ?rx ?ry
    case rx => assumption
    case ry => kcj_all
end Mine
namespace Mine
theorem top_off_A15 : True := by
  w_top off
  trivial
local macro_rules | `(tactic| ktr_unf) => `(tactic| repeat' (first | (k_unfold; (try dsimp only)) | (k_end; wrow_close) | ((fail_if_success (with_reducible show wpAny _ _ (exec (Stmt.While _ _ _ _) _) _ _ _)); (fail_if_success (with_reducible show wpAny _ _ (exec (Stmt.For _ _ _ _ _) _) _ _ _)); walk1) | ((fail_if_success (with_reducible show wpAny _ _ (exec (Stmt.While _ _ _ _) _) _ _ _)); (fail_if_success (with_reducible show wpAny _ _ (exec (Stmt.For _ _ _ _ _) _) _ _ _)); dsimp only; walk1) | (leave1; walk_say "STEP leave1"; try dsimp only) | fail "no step"))
local macro_rules | `(tactic| k_all) => `(tactic| first | assumption | exact allLt_ne (by assumption))
local macro_rules | `(tactic| walk_at "call builtin:list.append") => `(tactic| (k_here; (with_reducible show wpAny _ _ (call (Value.builtin _) [Value.ref _, _]) _ _ _); k_dflt (refine' hot_append ?F ?N ?U ?z ?_; (case F => k_asm); (case N => k_asm); (case U => k_upd); (case z => first | assumption | omega | (simp only [List.length_append, List.length_cons, List.length_nil]; omega)); k_whole); intro h' F' N'; (try k_sweep)))
local macro_rules | `(tactic| walk_at "truthy ref") => `(tactic| (k_here; k_dflt (refine' hot_truthy ?N ?m ?z ?_; (case N => k_asm); (case m => k_mem); (case z => first | assumption | omega); k_whole)))
local macro_rules | `(tactic| walk_at "subscriptTail Name UnaryOp ref int") => `(tactic| (k_here; (with_reducible show wpAny _ _ (subscriptTail _ _ (Value.ref _) (Value.int _ _)) _ _ _); (with_unfolding_all refine' hot_lastS ?N ?m ?S ?e ?_ ?r; (case N => k_asm); (case m => k_mem); (case S => assumption); (case e => assumption); (case r => with_unfolding_all rfl); k_whole); intro y8 t8 hy8 hz8))
local macro_rules | `(tactic| walk_at "call builtin:list.pop") => `(tactic| (k_here; (with_reducible show wpAny _ _ (call (Value.builtin _) [Value.ref _]) _ _ _); k_dflt (refine' hot_popS ?F ?N ?U ?z ?S ?e ?_; (case F => k_asm); (case N => k_asm); (case U => k_upd); (case z => first | assumption | omega); (case S => assumption); (case e => assumption); k_whole); intro h' y8 t8 F' N'; (try k_sweep)))
local macro_rules | `(tactic| walk_at "call builtin:str.join") => `(tactic| (k_here; (with_reducible show wpAny _ _ (call (Value.builtin _) [Value.str _ _, Value.ref _]) _ _ _); k_dflt (refine' hot_join ?N ?m ?c ?d ?S ?w ?o ?_; (case N => k_asm); (case m => k_mem); (case c => rfl); (case d => rfl); (case S => assumption); (case w => assumption); (case o => decide); k_whole); intro t8 k8 hj8))
local macro_rules | `(tactic| walk_at "subscriptTail Name Name ref int") => `(tactic| (k_here; (with_reducible show wpAny _ _ (subscriptTail _ _ (Value.ref _) (Value.int _ _)) _ _ _); (with_unfolding_all refine' hot_itemS ?N ?m ?c ?d ?S ?a ?b ?x ?_ ?r; (case N => k_asm); (case m => k_mem); (case c => rfl); (case d => rfl); (case S => assumption); (case a => omega); (case b => omega); (case x => omega); (case r => with_unfolding_all rfl); k_whole); intro y8 t8 hy8 hz8))
local macro_rules | `(tactic| walk_at "subscriptTail Name Constant ref int") => `(tactic| (k_here; (with_reducible show wpAny _ _ (subscriptTail _ _ (Value.ref _) (Value.int _ _)) _ _ _); (with_unfolding_all refine' hot_itemS ?N ?m ?c ?d ?S ?a ?b ?x ?_ ?r; (case N => k_asm); (case m => k_mem); (case c => rfl); (case d => rfl); (case S => assumption); (case a => omega); (case b => omega); (case x => omega); (case r => with_unfolding_all rfl); k_whole); intro y8 t8 hy8 hz8))
local macro_rules | `(tactic| walk_at "call builtin:len") => `(tactic| (k_here; (with_reducible show wpAny _ _ (call (Value.builtin "len") [Value.ref _]) _ _ _); k_dflt (refine' hot_len ?N ?m ?c ?d ?z ?_; (case N => k_asm); (case m => k_mem); (case c => rfl); (case d => rfl); (case z => first | assumption | omega | (simp only [List.length_append, List.length_cons, List.length_nil, List.length_set]; omega)); k_whole)))
local macro_rules | `(tactic| walk_at "binaryOp Mult ref int") => `(tactic| (k_here; (with_reducible show wpAny _ _ (binaryOp Operator.Mult (Value.ref _) (Value.int _ _)) _ _ _); k_dflt (refine' KMa.mul ?F ?N ?l ?lo ?hi ?z ?e ?_; (case F => k_asm); (case N => k_asm); (case l => is_list); (case lo => omega); (case hi => omega); (case z => (simp only [List.length_cons, List.length_nil]; omega)); (case e => exact rfl); k_whole); intro D' h' F' N' l1; (try k_lt l1); (try k_sweep)))
local macro_rules | `(tactic| walk_at "binaryOp Add ref ref") => `(tactic| (k_here; (with_reducible show wpAny _ _ (binaryOp _ (Value.ref _) (Value.ref _)) _ _ _); k_dflt (refine' kmk_add_lit ?F ?N ?a ?b ?e ?_ ?z; (case F => k_asm); (case N => k_asm); (case a => kmk_list); (case b => kmk_list); (case e => exact rfl); (case z => first | omega | ((simp only [List.toList_toArray, rep_len, List.length_drop, List.length_take, List.length_cons, List.length_nil, sizeLine_eq]); omega))); intro D' h' F' N' l1; (try k_lt l1); (try k_sweep)))
def lcpN : List Str → List Str → Nat
  | a :: x, b :: y => if a = b then lcpN x y + 1 else 0
  | _, _ => 0
theorem lcp_le : ∀ (x y : List Str), lcpN x y ≤ x.length ∧ lcpN x y ≤ y.length
  | [], y => by simp [lcpN]
  | a :: x, [] => by simp [lcpN]
  | a :: x, b :: y => by
    have := lcp_le x y
    simp only [lcpN, List.length_cons]
    split <;> omega
theorem lcp_drop0 {x y : List Str} {k : Nat} (h : x.length ≤ k ∨ y.length ≤ k) : lcpN (x.drop k) (y.drop k) = 0 := by
  have := lcp_le (x.drop k) (y.drop k)
  simp only [List.length_drop] at this
  omega
theorem lcp_step {x y : List Str} {k : Nat} {a b : Str} (ha : x[k]? = some a) (hb : y[k]? = some b) : lcpN (x.drop k) (y.drop k) = if a = b then lcpN (x.drop (k + 1)) (y.drop (k + 1)) + 1 else 0 := by
  obtain ⟨h1, e1⟩ := List.getElem?_eq_some_iff.mp ha
  obtain ⟨h2, e2⟩ := List.getElem?_eq_some_iff.mp hb
  rw [List.drop_eq_getElem_cons h1, List.drop_eq_getElem_cons h2, e1, e2, lcpN]
theorem rep_strs (v : Str) (t : Tok) : ∀ n, StrsAre (List.replicate n [Value.str v t]).flatten (List.replicate n v)
  | 0 => .nil
  | n + 1 => by
    rw [List.replicate_succ, List.replicate_succ, List.flatten_cons]
    exact .cons _ _ (rep_strs v t n)
theorem strs_drop : ∀ {ws : List Value} {ys : List Str}, StrsAre ws ys → ∀ n, StrsAre (ws.drop n) (ys.drop n)
  | _, _, .nil, n => by simpa using StrsAre.nil
  | _, _, .cons y t r, 0 => .cons y t r
  | _, _, .cons _ _ r, n + 1 => strs_drop r n
theorem wt_drop (l : List Str) (n : Nat) : wt (l.drop n) ≤ wt l := by
  have := wt_append (l.take n) (l.drop n)
  rw [List.take_append_drop] at this; omega
theorem wt_rep (n : Nat) (v : Str) : wt (List.replicate n v) = n * (v.length + 1) := by
  induction n with
  | zero => simp [wt]
  | succ n ih =>
    rw [List.replicate_succ, show v :: List.replicate n v = [v] ++ List.replicate n v from rfl, wt_append, ih, Nat.succ_mul]
    simp only [wt, List.map_cons, List.map_nil, List.sum_cons, List.sum_nil, List.length_cons, List.length_nil]; omega
def wayW (home goal : List Str) : Str := Txt.join (Str.ofString "/") (List.replicate (home.length - lcpN home goal) (Str.ofString "..") ++ goal.drop (lcpN home goal))
set_option maxHeartbeats 8000000 in
theorem way_c {w : World} {p : Program} {loose : List Str} {mean : ExcName → Option Value} {mg mb : Str → Option Value} {news : List (Addr × Obj)}
  {dp un : Nat} {gd : Option (List Code)} {env : Env} {outer : List Env} {A₀ : Around} {base h₀ : Heap} {L : Addr} {m : Str → Option Value} {s : Shared} {Q E : Value → Shared → Prop} {H G : Addr} {ws1 ws2 : List Value} {c1 c2 : Nat} {home goal : List Str}
  (B : Below A₀ base outer h₀) (F : Fr h₀ L s.heap m) (X : (hd.heap_39 w.params).In h₀) (N : News h₀ L s.heap ((H, W.listOf ws1.toArray c1) :: (G, W.listOf ws2.toArray c2) :: news)) (T : Top p loose mean mg mb h₀)
  (hf : env.frame = some L) (hk : env.scope.kind = .function) (hd : dp + 1 < recursionLimit) (hu : un + 16 < cLine) (hS1 : StrsAre ws1 home) (hS2 : StrsAre ws2 goal) (hz1 : home.length ≤ 100) (hz2 : goal.length ≤ 1000) (hw : wt goal ≤ 100000)
  (ret : ∀ t h1 tk, Fr h₀ L h1 m → News h₀ L h1 ((H, W.listOf ws1.toArray c1) :: (G, W.listOf ws2.toArray c2) :: news) → Q (.str (wayW home goal) t) { s with heap := h1, toks := tk }) :
  wpAny (model Challenge.rw_ik0112_01.row.prog w) { handled := none, depth := dp, frames := some (env :: outer), guards := gd, units := un } (call (.ref 236) [.ref H, .ref G]) Q E s := by
  revert X; k_fill; intro X
  refine wpAny_call ?_
  k_dflt (refine' code_def ?k1 ?k2 ?k3 ?k4 ?k5 ?kA ?kF ?kK ?k6 ?k7 ?k8 ?k9 ?kB ?_ ?c2 ?c3 ?c4 ?c5; (case kA => exact rfl); (case kF => exact hf); (case kK => exact hk); (case k1 => k_asm); (case k2 => k_asm); (case k3 => k_asm); (case k4 => k_asm); (case k5 => k_asm); (case k6 => k_is); (case k7 => k_is); (case k8 => exact Nat.lt_of_le_of_lt (Nat.le_add_right _ _) hd); (case k9 => exact BindsTo.of_eq rfl); (case c5 => decide); (case kB => exact locs rfl); (case c2 => exact rfl); (case c3 => exact rfl); (case c4 => exact rfl); k_whole; intro g' L' h' FG' F' N' B' X' T'; (try dsimp only); (try k_fold))
  have hl1 := StrsAre.len_eq hS1
  have hl2 := StrsAre.len_eq hS2
  ktr_unf
  (with_reducible rename Fr _ _ _ _ => lF')
  (with_reducible rename News _ _ _ _ => lN')
  have hle := lcp_le home goal
  refine While_cut (n₀ := ws1.length) (fun n m' nx => nx = (H, W.listOf ws1.toArray c1) :: (G, W.listOf ws2.toArray c2) :: news ∧ m' (Str.ofString "home") = some (.ref H) ∧ m' (Str.ofString "goal") = some (.ref G) ∧ ∃ k : Nat, n = ws1.length - k ∧ (∃ t, m' (Str.ofString "k") = some (.int k t)) ∧ k ≤ lcpN home goal ∧ lcpN (home.drop k) (goal.drop k) + k = lcpN home goal)
    (fun m' nx => nx = (H, W.listOf ws1.toArray c1) :: (G, W.listOf ws2.toArray c2) :: news ∧ m' (Str.ofString "home") = some (.ref H) ∧ m' (Str.ofString "goal") = some (.ref G) ∧ ∃ t, m' (Str.ofString "k") = some (.int (lcpN home goal) t)) lF' lN' ⟨rfl, rfl, rfl, 0, by omega, ⟨_, rfl⟩, Nat.zero_le _, by simp⟩ ?turn ?exit
  case exit =>
    rintro m₁ nx h tk ⟨rfl, hm1, hm2, t3, hm3⟩ F₁ N₁
    have F₂ := know (know (know F₁ (x := Str.ofString "home") hm1) (x := Str.ofString "goal") hm2) (x := Str.ofString "k") hm3
    clear F₁ lF' lN'
    ktr_unf
    rename News _ _ _ _ => lN9
    rename Fr _ _ _ _ => lF9
    rw [sp_from] at lN9
    refine' kmk_add_lit lF9 lN9 ?a ?b ?e ?h ?z
    case a => exact ⟨_, (lN9 _ (.tail _ (.head _))).1, rfl, _, rfl⟩
    case b => exact ⟨_, (lN9 _ (.head _)).1, rfl, _, rfl⟩
    case e => exact rfl
    case z => rw [sizeLine_eq]; simp only [List.toList_toArray, List.length_drop, (rep_strs _ _ _).len_eq, List.length_replicate]; omega
    case h =>
      intro D9 h9 F9 N9 l9
      have hS9 : StrsAre ((List.replicate ((ws1.length : Int) - (lcpN home goal : Int)).toNat [Value.str (Str.ofString "..") (tk + 1)]).flatten ++ ws2.drop (lcpN home goal)) (List.replicate (home.length - lcpN home goal) (Str.ofString "..") ++ goal.drop (lcpN home goal)) := by
        have e : ((ws1.length : Int) - (lcpN home goal : Int)).toNat = home.length - lcpN home goal := by omega
        rw [e]
        exact StrsAre.append' (rep_strs _ _ _) (strs_drop hS2 _)
      have hw9 : wt (List.replicate (home.length - lcpN home goal) (Str.ofString "..") ++ goal.drop (lcpN home goal)) ≤ 1000000 := by
        have h1 := wt_drop goal (lcpN home goal)
        rw [wt_append, wt_rep]
        have h2 : (Str.ofString "..").length = 2 := by decide
        rw [h2]
        omega
      try simp only [] at N9
      clear lF9 lN9
      ktr_unf
      refine ret _ _ _ (by assumption) ?_
      refine' cb_drop ?rx ?ry
      case rx => assumption
      case ry => kcj_all
  case turn =>
  rintro n m₁ nx h tk F₁ N₁ ⟨rfl, hm1, hm2, k, rfl, ⟨t3, hm3⟩, hk, he⟩
  have F₂ := know (know (know F₁ (x := Str.ofString "home") hm1) (x := Str.ofString "goal") hm2) (x := Str.ofString "k") hm3
  clear F₁ lF' lN'
  ktr_unf
  · rename (_ == _) = true => hq
    rename home[_]? = _ => hh
    rename goal[_]? = _ => hg
    rw [Int.toNat_natCast] at hh hg
    have hq' := beq_iff_eq.mp hq
    have h5 := lcp_step hh hg
    rw [if_pos hq'] at h5
    refine WStep.intro (by assumption) (by assumption) (ws1.length - (k + 1)) (by omega) ⟨rfl, rfl, rfl, k + 1, rfl, ⟨_, congrArg (fun z => some (Value.int z _)) (show ((k : Int) + 1) = ((k + 1 : Nat) : Int) by omega)⟩, by omega, by omega⟩
  · rename (_ == _) = false => hq
    rename home[_]? = _ => hh
    rename goal[_]? = _ => hg
    rw [Int.toNat_natCast] at hh hg
    have hq' := beq_eq_false_iff_ne.mp hq
    have h5 := lcp_step hh hg
    rw [if_neg hq'] at h5
    refine WExit.intro (by assumption) (by assumption) ⟨rfl, rfl, rfl, _, congrArg (fun z => some (Value.int z _)) (show (k : Int) = (lcpN home goal : Nat) by omega)⟩
  all_goals (
    have h5 := lcp_drop0 (x := home) (y := goal) (k := k) (by omega)
    refine WExit.intro (by assumption) (by assumption) ⟨rfl, rfl, rfl, _, congrArg (fun z => some (Value.int z _)) (show (k : Int) = (lcpN home goal : Nat) by omega)⟩)
end Mine
namespace Mine
theorem top_off_A16 : True := by
  w_top off
  trivial
local macro_rules | `(tactic| ktr_unf) => `(tactic| repeat' (first | (k_unfold; (try dsimp only)) | (k_end; wrow_close) | ((fail_if_success (with_reducible show wpAny _ _ (exec (Stmt.While _ _ _ _) _) _ _ _)); (fail_if_success (with_reducible show wpAny _ _ (exec (Stmt.For _ _ _ _ _) _) _ _ _)); (fail_if_success (with_reducible show wpAny _ _ (pyIter (Value.ref _)) _ _ _)); walk1) | ((fail_if_success (with_reducible show wpAny _ _ (exec (Stmt.While _ _ _ _) _) _ _ _)); (fail_if_success (with_reducible show wpAny _ _ (exec (Stmt.For _ _ _ _ _) _) _ _ _)); (fail_if_success (with_reducible show wpAny _ _ (pyIter (Value.ref _)) _ _ _)); dsimp only; walk1) | (leave1; walk_say "STEP leave1"; try dsimp only) | fail "no step"))
local macro_rules | `(tactic| k_all) => `(tactic| first | assumption | exact allLt_ne (by assumption))
local macro_rules | `(tactic| walk_at "call builtin:list.append") => `(tactic| (k_here; (with_reducible show wpAny _ _ (call (Value.builtin _) [Value.ref _, _]) _ _ _); k_dflt (refine' hot_append ?F ?N ?U ?z ?_; (case F => k_asm); (case N => k_asm); (case U => k_upd); (case z => first | assumption | omega | (simp only [List.length_append, List.length_cons, List.length_nil]; omega)); k_whole); intro h' F' N'; (try k_sweep)))
local macro_rules | `(tactic| walk_at "truthy ref") => `(tactic| (k_here; k_dflt (refine' hot_truthy ?N ?m ?z ?_; (case N => k_asm); (case m => k_mem); (case z => first | assumption | omega); k_whole)))
local macro_rules | `(tactic| walk_at "subscriptTail Name UnaryOp ref int") => `(tactic| (k_here; (with_reducible show wpAny _ _ (subscriptTail _ _ (Value.ref _) (Value.int _ _)) _ _ _); (with_unfolding_all refine' hot_lastS ?N ?m ?S ?e ?_ ?r; (case N => k_asm); (case m => k_mem); (case S => assumption); (case e => assumption); (case r => with_unfolding_all rfl); k_whole); intro y8 t8 hy8 hz8))
local macro_rules | `(tactic| walk_at "call builtin:list.pop") => `(tactic| (k_here; (with_reducible show wpAny _ _ (call (Value.builtin _) [Value.ref _]) _ _ _); k_dflt (refine' hot_popS ?F ?N ?U ?z ?S ?e ?_; (case F => k_asm); (case N => k_asm); (case U => k_upd); (case z => first | assumption | omega); (case S => assumption); (case e => assumption); k_whole); intro h' y8 t8 F' N'; (try k_sweep)))
local macro_rules | `(tactic| walk_at "call builtin:str.join") => `(tactic| (k_here; (with_reducible show wpAny _ _ (call (Value.builtin _) [Value.str _ _, Value.ref _]) _ _ _); k_dflt (refine' hot_join ?N ?m ?c ?d ?S ?w ?o ?_; (case N => k_asm); (case m => k_mem); (case c => rfl); (case d => rfl); (case S => assumption); (case w => assumption); (case o => decide); k_whole); intro t8 k8 hj8))
local macro_rules | `(tactic| walk_at "subscriptTail Name Name ref int") => `(tactic| (k_here; (with_reducible show wpAny _ _ (subscriptTail _ _ (Value.ref _) (Value.int _ _)) _ _ _); (with_unfolding_all refine' hot_itemS ?N ?m ?c ?d ?S ?a ?b ?x ?_ ?r; (case N => k_asm); (case m => k_mem); (case c => rfl); (case d => rfl); (case S => assumption); (case a => omega); (case b => omega); (case x => omega); (case r => with_unfolding_all rfl); k_whole); intro y8 t8 hy8 hz8))
local macro_rules | `(tactic| walk_at "subscriptTail Name Constant ref int") => `(tactic| (k_here; (with_reducible show wpAny _ _ (subscriptTail _ _ (Value.ref _) (Value.int _ _)) _ _ _); (with_unfolding_all refine' hot_itemS ?N ?m ?c ?d ?S ?a ?b ?x ?_ ?r; (case N => k_asm); (case m => k_mem); (case c => rfl); (case d => rfl); (case S => assumption); (case a => omega); (case b => omega); (case x => omega); (case r => with_unfolding_all rfl); k_whole); intro y8 t8 hy8 hz8))
local macro_rules | `(tactic| walk_at "call builtin:len") => `(tactic| (k_here; (with_reducible show wpAny _ _ (call (Value.builtin "len") [Value.ref _]) _ _ _); k_dflt (refine' hot_len ?N ?m ?c ?d ?z ?_; (case N => k_asm); (case m => k_mem); (case c => rfl); (case d => rfl); (case z => first | assumption | omega | (simp only [List.length_append, List.length_cons, List.length_nil, List.length_set]; omega)); k_whole)))
local macro_rules | `(tactic| walk_at "binaryOp Mult ref int") => `(tactic| (k_here; (with_reducible show wpAny _ _ (binaryOp Operator.Mult (Value.ref _) (Value.int _ _)) _ _ _); k_dflt (refine' KMa.mul ?F ?N ?l ?lo ?hi ?z ?e ?_; (case F => k_asm); (case N => k_asm); (case l => is_list); (case lo => omega); (case hi => omega); (case z => (simp only [List.length_cons, List.length_nil]; omega)); (case e => exact rfl); k_whole); intro D' h' F' N' l1; (try k_lt l1); (try k_sweep)))
local macro_rules | `(tactic| walk_at "binaryOp Add ref ref") => `(tactic| (k_here; (with_reducible show wpAny _ _ (binaryOp _ (Value.ref _) (Value.ref _)) _ _ _); k_dflt (refine' kmk_add_lit ?F ?N ?a ?b ?e ?_ ?z; (case F => k_asm); (case N => k_asm); (case a => kmk_list); (case b => kmk_list); (case e => exact rfl); (case z => first | omega | ((simp only [List.toList_toArray, List.length_drop, List.length_take, List.length_cons, List.length_nil, sizeLine_eq]); omega))); intro D' h' F' N' l1; (try k_lt l1); (try k_sweep)))
local macro_rules | `(tactic| walk_at "call ref") => `(tactic| (k_here; k_dflt (refine' straight_c ?B ?F ?X ?N ?T ?hf ?hk ?hd ?hu ?h1 ?h2 ?_; (case B => k_asm); (case F => k_asm); (case X => k_asm); (case N => k_asm); (case T => k_asm); (case hf => exact rfl); (case hk => exact rfl); (case hd => ktr_room); (case hu => ktr_units); (case h1 => assumption); (case h2 => assumption); k_whole; intro D9 ws9 n9 h9 tk9 F9 N9 hfr9 hS9; (try dsimp only); (try k_fold))))
def namesD (l : List Str) : Dat := .list (l.map .str)
def treeStep (names : List Str) (acc : List (List Str)) (k : Nat) : List (List Str) := if names.take k ∈ acc then acc else acc ++ [names.take k]
def treeOne (acc : List (List Str)) (x : Str) : List (List Str) := (List.range ((straightW x).length + 1)).foldl (treeStep (straightW x)) acc
theorem news_perm1 {α : Type} (i2 l d i h : α) (t2 t n : List α) : ∀ p ∈ l :: d :: i2 :: i :: h :: (t2 ++ (t ++ n)), p ∈ i2 :: l :: (t2 ++ d :: i :: (t ++ h :: n)) := by intro p hp; grind
theorem news_sub1 {α : Type} (i2 l d i h d1 : α) (t2 t n : List α) : ∀ p ∈ t2 ++ t, p ∈ d1 :: l :: d :: i2 :: i :: h :: (t2 ++ (t ++ n)) := by intro p hp; grind
theorem news_perm4 {α : Type} (i l d : α) (t2 t n : List α) : ∀ p ∈ i :: l :: ((t2 ++ t) ++ n), p ∈ l :: (t2 ++ d :: i :: (t ++ n)) := by intro p hp; grind
theorem news_sub2 {α : Type} (i d : α) (t2 t n : List α) : ∀ p ∈ (t2 ++ t) ++ n, p ∈ t2 ++ d :: i :: (t ++ n) := by intro p hp; grind
theorem news_sub3 {α : Type} (i2 d i h : α) (t2 t n : List α) : ∀ p ∈ d :: i2 :: i :: h :: (t2 ++ (t ++ n)), p ∈ i2 :: (t2 ++ d :: i :: (t ++ h :: n)) := by intro p hp; grind
theorem news_perm2 {α : Type} (i2 l d i h d1 d2 : α) (t2 t n : List α) : ∀ p ∈ i2 :: l :: ((d2 :: t2) ++ (d :: i :: (t ++ h :: n))), p ∈ d2 :: d1 :: l :: d :: i2 :: i :: h :: (t2 ++ (t ++ n)) := by intro p hp; grind
theorem news_perm3 {α : Type} (i2 l d i h d1 : α) (t2 t n : List α) : ∀ p ∈ i2 :: l :: (t2 ++ (d :: i :: (t ++ h :: n))), p ∈ d1 :: l :: d :: i2 :: i :: h :: (t2 ++ (t ++ n)) := by intro p hp; grind
theorem strs_dat {news : List (Addr × Obj)} : ∀ {ws : List Value} {ys : List Str}, StrsAre ws ys → DatAll news ws (ys.map .str)
  | _, _, .nil => .nil
  | _, _, .cons y t r => .cons (.str y t) (strs_dat r)
theorem strs_take : ∀ {ws : List Value} {ys : List Str}, StrsAre ws ys → ∀ n, StrsAre (ws.take n) (ys.take n)
  | _, _, .nil, n => by simpa using StrsAre.nil
  | _, _, .cons y t r, 0 => .nil
  | _, _, .cons _ _ r, n + 1 => .cons _ _ (strs_take r n)
def okN (l : List Str) : Prop := kqdOk 8 (namesD l) = true
theorem okN_iff {l : List Str} : okN l ↔ ∀ x ∈ l, PyData.strOk x = true := by
  unfold okN namesD
  simp [kqdOk]
theorem okN_take {l : List Str} (h : okN l) (k : Nat) : okN (l.take k) := okN_iff.mpr fun x hx => okN_iff.mp h x (List.mem_of_mem_take hx)
theorem mapstr_inj : ∀ {a b : List Str}, a.map Dat.str = b.map Dat.str → a = b
  | [], [], _ => rfl
  | x :: a, y :: b, h => by
    simp only [List.map_cons, List.cons.injEq, Dat.str.injEq] at h
    rw [h.1, mapstr_inj h.2]
theorem namesD_inj {a b : List Str} (h : namesD a = namesD b) : a = b := by
  unfold namesD at h
  exact mapstr_inj (Dat.list.inj h)
theorem mem_namesD {a : List Str} {l : List (List Str)} : namesD a ∈ l.map namesD ↔ a ∈ l := by
  constructor
  · intro h
    obtain ⟨b, hb, e⟩ := List.mem_map.mp h
    exact namesD_inj e ▸ hb
  · exact List.mem_map_of_mem
theorem dec_names {a : List Str} {l : List (List Str)} {i : Decidable (namesD a ∈ l.map namesD)} : @decide _ i = decide (a ∈ l) := decide_eq_decide.mpr mem_namesD
def treeW (ts : List Str) : List (List Str) := ts.foldl treeOne []
set_option maxHeartbeats 8000000 in
theorem tree_c {w : World} {p : Program} {loose : List Str} {mean : ExcName → Option Value} {mg mb : Str → Option Value} {news : List (Addr × Obj)}
  {dp un : Nat} {gd : Option (List Code)} {env : Env} {outer : List Env} {A₀ : Around} {base h₀ : Heap} {L : Addr} {m : Str → Option Value} {s : Shared} {Q E : Value → Shared → Prop} {H : Addr} {ws : List Value} {c : Nat} {ts : List Str}
  (B : Below A₀ base outer h₀) (F : Fr h₀ L s.heap m) (X : (hd.heap_39 w.params).In h₀) (N : News h₀ L s.heap ((H, W.listOf ws.toArray c) :: news)) (T : Top p loose mean mg mb h₀)
  (hf : env.frame = some L) (hk : env.scope.kind = .function) (hd : dp + 2 < recursionLimit) (hu : un + 200 < cLine) (hS : StrsAre ws ts) (hz : ts.length ≤ 10) (hx : ∀ x ∈ ts, x.length ≤ 100000 ∧ (Txt.split x (Str.ofString "/")).length ≤ 100000 ∧ (straightW x).length ≤ 10 ∧ kqdOk 8 (namesD (straightW x)) = true)
  (ret : ∀ D wt n tl h1 tk, Fr h₀ L h1 m → News h₀ L h1 ((D, W.listOf wt.toArray n) :: (tl ++ (H, W.listOf ws.toArray c) :: news)) → (∀ p ∈ tl ++ (H, W.listOf ws.toArray c) :: news, p.1 ≠ D) → DatAll tl wt ((treeW ts).map namesD) → Q (.ref D) { s with heap := h1, toks := tk }) :
  wpAny (model Challenge.rw_ik0112_01.row.prog w) { handled := none, depth := dp, frames := some (env :: outer), guards := gd, units := un } (call (.ref 243) [.ref H]) Q E s := by
  revert X; k_fill; intro X
  refine wpAny_call ?_
  k_dflt (refine' code_def ?k1 ?k2 ?k3 ?k4 ?k5 ?kA ?kF ?kK ?k6 ?k7 ?k8 ?k9 ?kB ?_ ?c2 ?c3 ?c4 ?c5; (case kA => exact rfl); (case kF => exact hf); (case kK => exact hk); (case k1 => k_asm); (case k2 => k_asm); (case k3 => k_asm); (case k4 => k_asm); (case k5 => k_asm); (case k6 => k_is); (case k7 => k_is); (case k8 => exact Nat.lt_of_le_of_lt (Nat.le_add_right _ _) hd); (case k9 => exact BindsTo.of_eq rfl); (case c5 => decide); (case kB => exact locs rfl); (case c2 => exact rfl); (case c3 => exact rfl); (case c4 => exact rfl); k_whole; intro g' L' h' FG' F' N' B' X' T'; (try dsimp only); (try k_fold))
  have hlen := StrsAre.len_eq hS
  ktr_unf
  (with_reducible rename Fr _ _ _ _ => lF')
  (with_reducible rename News _ _ _ _ => lN')
  refine For_invVF lF' rfl rfl ?_
  ktr_unf
  refine iter_list rfl (List.Mem.tail _ (List.Mem.head _)) rfl rfl lF' lN' (fun I h' S => loop_hot1 S (fun p hp => by rw [List.mem_singleton.mp hp]; exact List.Mem.head _) ?hne (fun lc i m' wt tl => m' (Str.ofString "tree") = some (.ref lc) ∧ DatAll tl wt (((ts.take i).foldl treeOne []).map namesD) ∧ (∀ a ∈ (ts.take i).foldl treeOne [], okN a) ∧ ((ts.take i).foldl treeOne []).length ≤ 11 * i) ⟨rfl, .nil, fun _ h => (nomatch h), Nat.le_refl _⟩ ?turn ?done)
  case hne => k_all
  case turn =>
    rintro i v m₁ wt n tl it h tk hi hv ⟨hm1, hA, hkA, hzA⟩ ho hI hoff F₁ N₁
    obtain ⟨x, tx, rfl, hx1⟩ := hS.item i v hv
    have F₂ := know F₁ (x := Str.ofString "tree") hm1
    have hx2 := hx x (List.mem_of_getElem? hx1)
    have hx3 := hx2.1
    have hx4 := hx2.2.1
    clear F₁ lF' lN'
    ktr_unf
    (with_reducible rename Fr _ _ _ _ => lF')
    refine For_invVF lF' rfl rfl ?_
    ktr_unf
    (with_reducible rename Fr _ _ _ _ => lF')
    (with_reducible rename News _ _ _ _ => lN')
    rename IsRange _ _ _ _ _ _ _ _ => hR
    rename StrsAre _ (straightW x) => hW
    have hl3 := StrsAre.len_eq hW
    rename ∀ p ∈ (I, it) :: _, p.1 ≠ _ => hf9
    have N3 := cb_drop lN' mem_rot3
    refine iter_range0 (n := (straightW x).length + 1) rfl hR rfl (by omega) lF' N3 (fun I2 h2 S2 => loop_hot1 S2 (fun p hp => nomatch hp) ?hne2 (fun lc k m' w2 tl2 => m' (Str.ofString "tree") = some (.ref lc) ∧ m' (Str.ofString "names") = some _ ∧ DatAll (tl2 ++ tl) w2 (((List.range k).foldl (treeStep (straightW x)) ((ts.take i).foldl treeOne [])).map namesD) ∧ (∀ a ∈ (List.range k).foldl (treeStep (straightW x)) ((ts.take i).foldl treeOne []), okN a) ∧ ((List.range k).foldl (treeStep (straightW x)) ((ts.take i).foldl treeOne [])).length ≤ 11 * i + k ∧ ∀ p ∈ tl2, p.1 ≠ I) ⟨rfl, rfl, hA, hkA, hzA, fun _ h => (nomatch h)⟩ ?turn2 ?done2)
    case hne2 =>
      exact off_cons (Ne.symm (hf9 _ (.tail _ (.head _)))) (off_cons (Ne.symm hI) ho)
    case turn2 =>
      rintro k v2 m₂ w2 n2 tl2 it2 h2 tk2 hk2 ⟨t2, rfl⟩ ⟨hm2, hm3, hA2, hkA2, hzA2, hoI⟩ ho2 hI2 hoff2 F3 N3
      have F4 := know (know F3 (x := Str.ofString "tree") hm2) (x := Str.ofString "names") hm3
      have N4 := cb_drop N3 (news_perm1 _ _ _ _ _ _ _ _)
      have hnext : (List.range (k + 1)).foldl (treeStep (straightW x)) ((ts.take i).foldl treeOne []) = treeStep (straightW x) ((List.range k).foldl (treeStep (straightW x)) ((ts.take i).foldl treeOne [])) k := by
        rw [List.range_succ, List.foldl_append]; rfl
      generalize (List.range k).foldl (treeStep (straightW x)) ((ts.take i).foldl treeOne []) = acc at hA2 hkA2 hzA2 hnext
      have hlw := hA2.length
      rw [List.length_map] at hlw
      have hi10 : i < 10 := by omega
      have hW2 := hW
      clear F3 lF' lN' N3 N₁
      ktr_unf
      rename News _ _ _ _ => lN9
      rw [sp_upto] at lN9
      refine' kqd_notIn (ds := acc.map namesD) (d := namesD ((straightW x).take k)) lN9 (.tail _ (.head _)) rfl rfl hA2 ?sa (DatIn.list (.head _) (strs_dat (strs_take hW2 k))) (fun _ h => h) ?ha (okN_take hx2.2.2.2 k) ?hu ?_
      case sa => exact news_sub1 _ _ _ _ _ _ _ _ _
      case ha => exact fun d hd => by obtain ⟨a, ha, rfl⟩ := List.mem_map.mp hd; exact hkA2 a ha
      case hu => ktr_units
      rw [dec_names]
      ktr_unf
      · rename _ ∈ acc => hin
        show TurnEnd _ _ _ _ _ _ _
        refine Hot1.intro (by assumption) lN9 w2 n2 tl2 (news_perm3 _ _ _ _ _ _ _ _ _) (off_cons hI2 hoff2) ho2 ⟨rfl, rfl, ?_, ?_, ?_, hoI⟩
        all_goals rw [hnext, treeStep, if_pos hin]
        · exact hA2
        · exact hkA2
        · omega
      · rename ¬ _ ∈ acc => hin
        rename News _ _ _ _ => lN8
        rw [sp_upto] at lN8
        have hd1 := Nat.ne_of_gt (Nat.lt_succ_of_lt (Heap.lt_size (News.get N4 (List.Mem.head _))))
        have hd2 := Nat.ne_of_gt (Nat.lt_succ_of_lt (Heap.lt_size (News.get lN9 (List.Mem.tail _ (List.Mem.head _)))))
        have hd3 := Nat.ne_of_gt (Nat.lt_succ_of_lt (Heap.lt_size (News.get lN9 (List.Mem.tail _ (List.Mem.tail _ (List.Mem.tail _ (List.Mem.tail _ (List.Mem.head _))))))))
        have hall := fun (p : Addr × Obj) hp => off_cons (q := (I2, it2)) (Ne.symm hI2) ho2 p (news_sub3 _ _ _ _ _ _ _ p hp)
        refine hot_append (ws := w2) (n := n2) (by assumption) lN8 (Upd.tail hd2 (Upd.tail hd1 (Upd.head hall))) (by omega) ?_
        intro h7 F7 N7
        ktr_unf
        show TurnEnd _ _ _ _ _ _ _
        refine Hot1.intro (by assumption) N7 (w2 ++ [_]) (n2 + 1) (_ :: tl2) (news_perm2 _ _ _ _ _ _ _ _ _ _) (off_cons hI2 (off_cons ?_ hoff2)) (off_cons hd2 ho2) ⟨rfl, rfl, ?_, ?_, ?_, off_cons hd3 hoI⟩
        · exact Nat.ne_of_gt (Nat.lt_succ_of_lt (Heap.lt_size (News.get lN9 (List.Mem.tail _ (List.Mem.tail _ (List.Mem.tail _ (List.Mem.head _)))))))
        all_goals rw [hnext, treeStep, if_neg hin]
        · rw [List.map_append]
          exact DatAll.append (hA2.mono (fun p hp => .tail _ hp)) (DatAll.one (DatIn.list (.head _) (strs_dat (strs_take hW2 k))))
        · intro a ha
          rcases List.mem_append.mp ha with ha | ha
          · exact hkA2 a ha
          · rw [List.mem_singleton.mp ha]; exact okN_take hx2.2.2.2 k
        · rw [List.length_append, List.length_singleton]; omega
    case done2 =>
      rintro m₂ w2 n2 tl2 h2 tk2 ⟨hm2, hm3, hA2, hkA2, hzA2, hoI⟩ ho2 F3 N3
      have F4 := know (know F3 (x := Str.ofString "tree") hm2) (x := Str.ofString "names") hm3
      clear F3 lF' lN'
      have hnext : (ts.take (i + 1)).foldl treeOne [] = (List.range ((straightW x).length + 1)).foldl (treeStep (straightW x)) ((ts.take i).foldl treeOne []) := by
        rw [List.take_add_one, hx1, List.foldl_append]; rfl
      ktr_unf
      show TurnEnd _ _ _ _ _ _ _
      refine Hot1.intro F4 N3 w2 n2 (tl2 ++ tl) (news_perm4 _ _ _ _ _ _) (off_cons hI ?_) ?_ ⟨rfl, by rw [hnext]; exact hA2, by rw [hnext]; exact hkA2, by rw [hnext]; omega⟩
      · exact off_app (off_app hoI (fun p hp => hoff p (List.mem_append_left _ hp))) (fun p hp => hoff p (List.mem_append_right _ hp))
      · exact fun p hp => ho2 p (news_sub2 _ _ _ _ _ p hp)
  case done =>
    rintro m₁ wt n tl h tk ⟨hm1, hA, hkA, hzA⟩ ho F₁ N₁
    have F₂ := know F₁ (x := Str.ofString "tree") hm1
    rw [List.take_of_length_le (by omega)] at hA
    clear F₁ lF' lN'
    ktr_unf
    exact ret _ _ _ _ _ _ (by assumption) (by assumption) ho hA
end Mine
namespace Mine
theorem top_off_A2b : True := by
  w_top off
  trivial
local macro_rules | `(tactic| walk_at "call builtin:issubclass") => `(tactic| (k_here; k_dflt (refine' issub_tup (s := _) ?a ?b ?c ?_; (case a => exact News.get (by k_asm) (by k_mem)); (case b => rfl); (case c => rfl); k_whole)))
set_option maxHeartbeats 8000000 in
theorem fspath_same {w : World} {p : Program} {loose : List Str} {mean : ExcName → Option Value} {mg mb : Str → Option Value} {news : List (Addr × Obj)}
  {dp un : Nat} {gd : Option (List Code)} {env : Env} {outer : List Env} {A₀ : Around} {base h₀ : Heap} {L : Addr} {m : Str → Option Value} {s : Shared} {Q E : Value → Shared → Prop} {x : Str} {t : Tok}
  (B : Below A₀ base outer h₀) (F : Fr h₀ L s.heap m) (X : (hd.heap_39 w.params).In h₀) (N : News h₀ L s.heap news) (T : Top p loose mean mg mb h₀)
  (hf : env.frame = some L) (hk : env.scope.kind = .function) (hd : dp + 1 < recursionLimit) (hu : un + 8 < cLine)
  (ret : ∀ h1 tk, Fr h₀ L h1 m → News h₀ L h1 news → Q (.str x t) { s with heap := h1, toks := tk }) :
  wpAny (model Challenge.rw_ik0112_01.row.prog w) { handled := none, depth := dp, frames := some (env :: outer), guards := gd, units := un } (call (.ref 94) [.str x t]) Q E s := by
  revert X; k_fill; intro X
  refine wpAny_call ?_
  k_dflt (refine' code_def ?k1 ?k2 ?k3 ?k4 ?k5 ?kA ?kF ?kK ?k6 ?k7 ?k8 ?k9 ?kB ?_ ?c2 ?c3 ?c4 ?c5; (case kA => exact rfl); (case kF => exact hf); (case kK => exact hk); (case k1 => k_asm); (case k2 => k_asm); (case k3 => k_asm); (case k4 => k_asm); (case k5 => k_asm); (case k6 => k_is); (case k7 => k_is); (case k8 => exact Nat.lt_of_le_of_lt (Nat.le_add_right _ _) hd); (case k9 => exact BindsTo.of_eq rfl); (case c5 => decide); (case kB => exact locs rfl); (case c2 => exact rfl); (case c3 => exact rfl); (case c4 => exact rfl); k_whole; intro g' L' h' FG' F' N' B' X' T'; (try dsimp only); (try k_fold))
  k_steps
  all_goals (refine ret _ _ ?ra ?rb; (case ra => k_asm); (case rb => first | k_asm | (refine' cb_drop ?rx ?ry; (case rx => assumption); (case ry => kcj_all))))
end Mine
section
open PyProof.Rows.LCg
namespace Mine
section
variable {prog : Program} {w : World} {A : Around} {E : Value → Shared → Prop} {s : Shared} {h₀ : Heap} {L : Addr} {m : Str → Option Value} {env : Env}
abbrev byTxt (w : World) : Bool := w.params.followText "set-order"
abbrev setE (w : World) : Obj := { cls := .type "set", dict := none, data := .set #[] 0 (.fresh 0 0 (!byTxt w)) }
def tab1 (led : Bool) : SetTable := { mask := 7, place := #[1], dummies := #[], finger := 0, led := led, moves := 0, plain := true }
abbrev setT (w : World) : Obj := { cls := .type "set", dict := none, data := .set #[(1, .bool true)] 1 (tab1 (!byTxt w)) }
theorem lay_true (led : Bool) : layNew (.fresh 0 0 led) #[] 1 (.bool true) = (#[(1, .bool true)], tab1 led, false, false) := by cases led <;> decide +kernel
theorem typeIs_bool' (b : Bool) : s.TypeIs (.bool b) "bool" := by rfl
theorem hash_true {Q : Int → Shared → Prop} (h : Q 1 { s with toks := s.toks + 1 }) : wpAny (model prog w) A (pyHash (.bool true)) Q E s := by
  show wpAny _ A (pyHashByItsType (.bool true)) _ _ _
  unfold pyHashByItsType
  have hv : [Value.bool true].any Value.onHeap = false := rfl
  refine wpAny_bind ?_
  rw [cRoomFor, if_neg (by rw [hv]; exact Bool.false_ne_true)]; refine wpAny_pure ?_
  refine wpAny_bind (wpAny_specialOf (typeIs_bool' true) PySem.F.slot_bool_hash.lookup ?_)
  show wpAny _ _ (if (some (Value.builtin "int.__hash__") == some Value.none) = true then _ else _) Q E s
  rw [if_neg (by rw [beq_builtin_none]; exact Bool.false_ne_true)]
  refine wpAny_bind (wpAny_specialOf (typeIs_bool' true) PySem.F.slot_bool_hash.lookup ?_)
  show wpAny _ _ (callSpecialIfBoundUnlessNone? (.bool true) "__hash__" _ >>= _) Q E s
  refine wpAny_bind (wpAny_callSpecialIfBoundUnlessNone?_slot (typeIs_bool' true) PySem.F.slot_bool_hash
    (wpAny_call_entry PySem.F.slot_bool_hash (typeIs_bool' true) entry_int_hash
      (show wpAny _ _ (do ret (← mkInt (rawHash 1))) _ _ s from wpAny_ret_mkInt ?_) (args_int_hash _)))
  exact wpAny_pure h
theorem add_true0 {S : Addr} {Q : Value → Shared → Prop} (ho : s.heap.get? S = some (setE w)) (h : ∀ h' tk, Heap.SameBut S s.heap h' → h'.get? S = some (setT w) → Q .none { s with heap := h', toks := tk }) :
    wpAny (model prog w) A (call (.builtin "set.add") [.ref S, .bool true]) Q E s := by
  have hT : s.TypeIs (.ref S) "set" := ⟨_, ho, rfl⟩
  refine wpAny_call_entry PySem.F.slot_set_add hT PySem.F.entry_set_add ?_ (PySem.F.args_set_add_2 _ _)
  unfold Builtin.«set.add» Builtin.Frozenset.oneOther
  simp only [List.isEmpty_nil, bind_assoc]
  unfold Builtin.Frozenset.addrOf setAdd
  refine wpAny_bind (wpAny_pure ?_)
  try dsimp only
  refine wpAny_bind (wpAny_pure ?_)
  try dsimp only
  refine wpAny_bind ?_
  refine wpAny_holding ?_
  refine wpAny_bind (hash_true ?_)
  unfold setAddHashed setAddHashedIn
  refine wpAny_holding ?_
  refine wpAny_bind (wpAny_setState_of (s := { s with toks := s.toks + 1 }) ho rfl (by rfl) ?_)
  try dsimp only
  rw [if_pos (by decide +kernel)]
  unfold setAddByScan
  refine wpAny_bind (wpAny_bind (wpAny_rule ?_))
  refine wpAny_bind (show wpAny _ _ (setScan S (.bool true) 1 true #[]) _ _ _ from wpAny_pure ?_)
  try dsimp only
  rw [lay_true]
  refine wpAny_bind (show wpAny _ _ (pure () : Sem Unit) _ _ _ from wpAny_pure ?_)
  show wpAny _ _ (if true = true then _ else _) _ _ _
  rw [if_pos rfl]
  refine wpAny_bind (show wpAny _ _ (pure true : Sem Bool) _ _ _ from wpAny_pure ?_)
  try dsimp only
  rw [if_pos rfl]
  have tf : ((!false) && (tab1 (!byTxt w)).tooFull) = false := by cases byTxt w <;> decide +kernel
  refine wpAny_bind (wpAny_storeSet_of (s := { s with toks := s.toks + 1 }) ho rfl ?_ (by rw [sizeLine_eq]; exact Nat.le_add_left 1 _))
  try dsimp only
  rw [tf]
  rw [if_neg Bool.false_ne_true]
  refine wpAny_pure ?_
  try dsimp only
  refine wpAny_pure ?_
  show wpAny _ _ (ret Value.none) _ _ _
  refine wpAny_pure ⟨_, rfl, h _ _ (Heap.SameBut.update ..) ?_⟩
  rw [Heap.get?_update_self _ ho rfl]
  rfl
theorem add_true1 {S : Addr} {Q : Value → Shared → Prop} (ho : s.heap.get? S = some (setT w)) (h : ∀ tk, Q .none { s with toks := tk }) :
    wpAny (model prog w) A (call (.builtin "set.add") [.ref S, .bool true]) Q E s := by
  have hT : s.TypeIs (.ref S) "set" := ⟨_, ho, rfl⟩
  refine wpAny_call_entry PySem.F.slot_set_add hT PySem.F.entry_set_add ?_ (PySem.F.args_set_add_2 _ _)
  unfold Builtin.«set.add» Builtin.Frozenset.oneOther
  simp only [List.isEmpty_nil, bind_assoc]
  unfold Builtin.Frozenset.addrOf setAdd
  refine wpAny_bind (wpAny_pure ?_)
  try dsimp only
  refine wpAny_bind (wpAny_pure ?_)
  try dsimp only
  refine wpAny_bind ?_
  refine wpAny_holding ?_
  refine wpAny_bind (hash_true ?_)
  unfold setAddHashed setAddHashedIn
  refine wpAny_holding ?_
  refine wpAny_bind (wpAny_setState_of (s := { s with toks := s.toks + 1 }) ho rfl (by rfl) ?_)
  try dsimp only
  rw [if_pos (by decide +kernel)]
  unfold setAddByScan
  refine wpAny_bind (wpAny_bind (wpAny_rule ?_))
  refine wpAny_bind ?_
  show wpAny _ _ (setScanFrom S (.bool true) 1 true [(1, .bool true)] 0) _ _ _
  unfold setScanFrom
  rw [if_pos (by decide)]
  refine wpAny_bind (wpAny_setEpoch_of (s := { s with toks := s.toks + 1 }) ho rfl (by rfl) ?_)
  refine wpAny_bind (m := eqBool (.bool true) (.bool true)) ?_
  unfold eqBool
  refine wpAny_holding ?_
  rw [if_pos (by decide)]
  refine wpAny_bind (wpAny_rule (wpAny_pure ?_))
  rw [if_pos rfl]
  refine wpAny_pure ?_
  try dsimp only
  refine wpAny_pure (wpAny_pure ?_)
  show wpAny _ _ (ret Value.none) _ _ _
  exact wpAny_pure ⟨_, rfl, h _⟩
theorem entry_set_iter : entryFor table "set.__iter__" = some Builtin.«frozenset.__iter__» :=
  entryFor_alias (id' := "frozenset.__iter__") (by kernel_rfl) (by first | rfl | decide +kernel | (unfold String.splitOn; simp +decide [String.splitOnAux])) (by decide +kernel) (by kernel_rfl)
theorem slot_si_next : Slot "set_iterator" "__next__" "set_iterator.__next__" :=
  .of (owner := "set_iterator") (n := "__next__") (by rw [typeLookup_type, builtinLookup_eq_fast]; kernel_rfl) (by decide +kernel) (by decide +kernel) (by decide +kernel)
    (by first | exact .inl (by decide +kernel) | exact .inr (by decide +kernel)) (by rw [isSubtype_type]; kernel_rfl)
theorem entry_si_next : entryFor table "set_iterator.__next__" = some Builtin.«set_iterator.__next__» := entryFor_of_tree (by kernel_rfl)
theorem args_si_next (a : Value) : argsOk "set_iterator.__next__" ⟨[a], []⟩ := by unfold argsOk; kernel_rfl
abbrev siObj (S : Addr) (k i : Nat) : Obj := { cls := .type "set_iterator", data := .fields #[.int k 0, .int i 0, .ref S, .int 1 0, .int 1 0] }
theorem iter_set1 {S : Addr} {Q : Value → Shared → Prop} (ho : s.heap.get? S = some (setT w)) (h : Q (.ref s.heap.objs.size) { s with heap := s.heap.push (siObj S 0 0) }) :
    wpAny (model prog w) A (pyIter (.ref S)) Q E s := by
  have hT : s.TypeIs (.ref S) "set" := ⟨_, ho, rfl⟩
  refine wpAny_pyIter_slot hT PySem.F.slot_set_iter (wpAny_call_entry PySem.F.slot_set_iter hT entry_set_iter ?_ (PySem.F.args_set_iter_1 _))
  show wpAny _ _ (Builtin.«frozenset.__iter__» ⟨[.ref S], []⟩) _ _ s
  unfold Builtin.«frozenset.__iter__»
  refine wpAny_bind (show wpAny _ _ (pure S : Sem Addr) _ _ _ from wpAny_pure ?_)
  unfold Builtin.Frozenset.sizeOf
  refine wpAny_bind (wpAny_bind (wpAny_setEntries_of ho rfl (by rfl) (wpAny_pure ?_)))
  unfold setDrawn
  refine wpAny_bind (wpAny_bind (wpAny_setState_of ho rfl (by rfl) ?_))
  try dsimp only
  unfold setsByText
  refine wpAny_bind (wpAny_bind (wpAny_askSetting (wpAny_pure ?_)))
  refine wpAny_pure ?_
  try dsimp only
  split
  · rename_i hh
    exact absurd (show false = true from (Bool.and_eq_true_iff.mp hh).2) Bool.false_ne_true
  refine wpAny_bind (wpAny_pure ?_)
  refine wpAny_bind (wpAny_setEpoch_of ho rfl (by rfl) ?_)
  unfold newFields
  refine wpAny_bind ?_
  refine wpAny_newObj_type ?_
  exact wpAny_pure ⟨_, rfl, "set_iterator", _, ⟨_, Heap.get?_push_size _ rfl, rfl⟩, slot_si_next.lookup, h⟩
theorem pick1 {α : Type} (f : Nat → Nat) (x : α) : pickOrder f #[x] = #[x] := by
  show pickOrder.go f 1 0 [x] #[] = _
  unfold pickOrder.go
  have e : f 0 % [x].length = 0 := Nat.mod_one _
  rw [e]
  rfl
theorem set1_walk {S : Addr} {Q : Array (Int × Value) → Shared → Prop} (ho : s.heap.get? S = some (setT w)) (h : Q #[(1, .bool true)] s) : wpAny (model prog w) A (setWalk S) Q E s := by
  unfold setWalk
  refine wpAny_bind (wpAny_setState_of ho rfl (by rfl) ?_)
  try dsimp only
  unfold setsByText
  refine wpAny_bind (wpAny_bind (wpAny_askSetting (wpAny_pure ?_)))
  split
  · refine wpAny_bind (wpAny_askSetting ?_)
    rw [pick1]
    exact wpAny_pure h
  · split
    · rename_i hh
      exact absurd (show false = true from hh) Bool.false_ne_true
    · refine wpAny_bind ?_
      show wpAny _ _ (if (!(tab1 (!byTxt w)).led && false) = true then _ else pure ()) _ _ _
      rw [if_neg (by rw [Bool.and_false]; exact Bool.false_ne_true)]
      exact wpAny_pure (wpAny_pure h)
theorem setNext_gen {S : Addr} {k g : Nat} {r : Option (Value × Nat)} {Q : Option (Value × Nat) → Shared → Prop} (ho : s.heap.get? S = some (setT w))
    (h1 : byTxt w = true → (#[((1 : Int), Value.bool true)] : Array (Int × Value))[g]?.map (fun e => (e.2, k)) = r)
    (h2 : byTxt w = false → (match (#[((1 : Int), Value.bool true)] : Array (Int × Value))[SetTable.below #[1] k]?, (#[1] : Array Nat)[SetTable.below #[1] k]? with | some (_, x), some j => some (x, j + 1) | _, _ => none) = r)
    (h : Q r s) : wpAny (model prog w) A (setNext S k g 1) Q E s := by
  unfold setNext
  refine wpAny_bind (wpAny_setState_of ho rfl (by rfl) ?_)
  try dsimp only
  unfold setsByText
  refine wpAny_bind (wpAny_bind (wpAny_askSetting (wpAny_pure ?_)))
  cases hb : byTxt w with
  | true =>
    show wpAny _ _ (if byTxt w = true then _ else _) _ _ _
    rw [if_pos hb]
    rw [if_neg (by decide)]
    refine wpAny_bind (set1_walk ho (wpAny_pure ?_))
    rw [h1 hb]; exact h
  | false =>
    show wpAny _ _ (if byTxt w = true then _ else _) _ _ _
    rw [if_neg (by rw [hb]; exact Bool.false_ne_true)]
    split
    · rename_i hh
      exact absurd (show false = true from hh) Bool.false_ne_true
    · refine wpAny_bind ?_
      show wpAny _ _ (if false = true then _ else pure ()) _ _ _
      rw [if_neg Bool.false_ne_true]
      refine wpAny_pure (wpAny_pure ?_)
      rw [← h2 hb] at h
      exact h
theorem setNext0 {S : Addr} {Q : Option (Value × Nat) → Shared → Prop} (ho : s.heap.get? S = some (setT w)) (h : Q (some (.bool true, if byTxt w then 0 else 2)) s) : wpAny (model prog w) A (setNext S 0 0 1) Q E s := by
  refine setNext_gen ho (fun hb => ?_) (fun hb => ?_) h
  · rw [if_pos hb]; rfl
  · rw [if_neg (by rw [hb]; exact Bool.false_ne_true)]; rfl
theorem setNext1 {S : Addr} {k : Nat} {Q : Option (Value × Nat) → Shared → Prop} (hk : byTxt w = false → k = 2) (ho : s.heap.get? S = some (setT w)) (h : Q none s) : wpAny (model prog w) A (setNext S k 1 1) Q E s := by
  refine setNext_gen ho (fun hb => rfl) (fun hb => ?_) h
  rw [hk hb]; rfl
theorem next_set_item {I S : Addr} {Q : Option Value → Shared → Prop} (hi : s.heap.get? I = some (siObj S 0 0)) (ho : s.heap.get? S = some (setT w)) (hIS : S ≠ I)
    (h : ∀ h' k, Heap.SameBut I s.heap h' → h'.get? I = some (siObj S k 1) → (byTxt w = false → k = 2) → Q (some (.bool true)) { s with heap := h' }) : wpAny (model prog w) A (pyNext (.ref I)) Q E s := by
  have hT : s.TypeIs (.ref I) "set_iterator" := ⟨_, hi, rfl⟩
  unfold pyNext
  refine wpAny_bind (wpAny_attempt (wpAny_callSpecial?_slot (name := Str.ofString "__next__") hT slot_si_next
    (wpAny_call_entry slot_si_next hT entry_si_next ?_ (args_si_next _))))
  unfold Builtin.«set_iterator.__next__»
  refine wpAny_bind (show wpAny _ _ (pure (Value.ref I, []) : Sem (Value × List Value)) _ _ _ from wpAny_pure ?_)
  refine wpAny_bind (wpAny_fieldsOf hi rfl ?_)
  try dsimp only
  refine wpAny_bind (wpAny_setEntries_of ho rfl (by rfl) ?_)
  rw [if_neg (by decide)]
  try dsimp only
  refine wpAny_bind (setNext0 ho ?_)
  try dsimp only
  refine wpAny_bind (wpAny_setField_rec hi (by simp) fun h1 e1 b1 => ?_)
  refine wpAny_bind (wpAny_setField_rec e1 (by simp) fun h2 e2 b2 => ?_)
  refine wpAny_pure ⟨_, rfl, wpAny_pure (h h2 (if byTxt w then 0 else 2) (b1.trans b2) e2 ?_)⟩
  intro hb
  rw [if_neg (by rw [hb]; exact Bool.false_ne_true)]
theorem next_set_end {I S : Addr} {k : Nat} {Q : Option Value → Shared → Prop} (hh : A.handled = none) (hi : s.heap.get? I = some (siObj S k 1)) (hk : byTxt w = false → k = 2) (ho : s.heap.get? S = some (setT w)) (hIS : S ≠ I)
    (h : ∀ h', Heap.ExtBut I s.heap h' → Q none { s with heap := h' }) : wpAny (model prog w) A (pyNext (.ref I)) Q E s := by
  have hT : s.TypeIs (.ref I) "set_iterator" := ⟨_, hi, rfl⟩
  unfold pyNext
  refine wpAny_bind (wpAny_attempt (wpAny_callSpecial?_slot (name := Str.ofString "__next__") hT slot_si_next
    (wpAny_call_entry slot_si_next hT entry_si_next ?_ (args_si_next _))))
  unfold Builtin.«set_iterator.__next__»
  refine wpAny_bind (show wpAny _ _ (pure (Value.ref I, []) : Sem (Value × List Value)) _ _ _ from wpAny_pure ?_)
  refine wpAny_bind (wpAny_fieldsOf hi rfl ?_)
  try dsimp only
  refine wpAny_bind (wpAny_setEntries_of ho rfl (by rfl) ?_)
  rw [if_neg (by decide)]
  try dsimp only
  refine wpAny_bind (setNext1 hk ho ?_)
  try dsimp only
  refine wpAny_bind (wpAny_setField_rec hi (by simp) fun h1 e1 b1 => ?_)
  show wpAny _ _ (newExc (.type "StopIteration") [] >>= _) _ _ _
  refine wpAny_bind ?_
  simp only [newExc, newTuple]
  refine wpAny_bind (wpAny_newObj_type ?_ (by size_fits))
  refine wpAny_bind (m := firstArgMember _ _) (wpAny_of_eq (a := Value.none) (by first | rfl | (simp only [firstArgMember]; rfl)) ?_)
  refine wpAny_newObj_type ?_ (by size_fits)
  simp only [raiseNew]
  refine wpAny_bind (wpAny_handled ?_)
  first | rw [show A.in1.handled = none from hh] | rw [hh]
  refine wpAny_bind (wpAny_pure (wpAny_throw ?_))
  refine wpAny_bind (wpAny_isInstance (T := "StopIteration") (b := true) ⟨_, Heap.get?_push_size _ rfl, rfl⟩ isSubtype_stop ?_)
  exact wpAny_pure (h _ ((b1.extBut.push _).push _))
theorem unpack_set1 {S : Addr} {t : Value → Sem Unit} {Q : Unit → Shared → Prop} (hh : A.handled = none) (ho : s.heap.get? S = some (setT w))
    (h : ∀ h', (∀ b o, s.heap.get? b = some o → h'.get? b = some o) → wpAny (model prog w) A (assignInOrder [t] [.bool true]) Q E { s with heap := h' }) : wpAny (model prog w) A (unpack (.ref S) [(false, t)]) Q E s := by
  unfold unpack
  refine wpAny_bind (wpAny_holding ?_)
  have hT : s.TypeIs (.ref S) "set" := ⟨_, ho, rfl⟩
  have hne : S ≠ s.heap.objs.size := Nat.ne_of_lt (Heap.lt_size ho)
  unfold unpackItems
  refine wpAny_bind ?_
  unfold notIterableAtAll
  refine wpAny_bind (wpAny_specialOf hT PySem.F.slot_set_iter.lookup ?_)
  refine wpAny_pure ?_
  simp only [Bool.false_eq_true, if_false]
  refine wpAny_bind (wpAny_holding (iter_set1 ho ?_))
  have e0 : (s.heap.push (siObj S 0 0)).get? s.heap.objs.size = some (siObj S 0 0) := Heap.get?_push_size _ rfl
  refine wpAny_bind (wpAny_holding ?_)
  show wpAny _ _ (draw (.ref s.heap.objs.size) 1) _ _ _
  unfold draw
  refine wpAny_bind (next_set_item e0 (Heap.get?_push_of_some _ ho) hne fun h1 k b1 e1 hk => ?_)
  try dsimp only
  refine wpAny_bind (wpAny_holding ?_)
  show wpAny _ _ (pure []) _ _ _
  refine wpAny_pure (wpAny_pure ?_)
  rw [if_neg (by simp)]
  refine wpAny_bind (wpAny_holding (next_set_end hh e1 hk (b1.extBut _ _ hne (Heap.get?_push_of_some _ ho)) hne fun h2 b2 => ?_))
  simp only [Option.isSome_none, Bool.false_eq_true, if_false]
  refine wpAny_pure (h h2 fun b o e => ?_)
  have hb : b ≠ s.heap.objs.size := Nat.ne_of_lt (Heap.lt_size e)
  exact b2 _ _ hb (b1.extBut _ _ hb (Heap.get?_push_of_some _ e))
end
end Mine
end
section
open PyProof.Rows.LCg
namespace Mine
section
variable {prog : Program} {w : World} {A : Around} {E : Value → Shared → Prop} {R : Result → Shared → Prop} {s : Shared} {h₀ : Heap} {L : Addr} {m : Str → Option Value} {env : Env}
theorem codeAny_compStart_set {elt target iter ifs rest scope pos it acc env}
    (h0 : codeAny (model prog w) A (.compLoop (.SetComp elt (⟨target, iter, ifs, 0⟩ :: rest) scope pos) 0 it acc env) R s)
    (h : wpAny (model prog w) A (pyIter it) (fun it' s' => codeAny (model prog w) A (.compLoop (.SetComp elt (⟨target, iter, ifs, 0⟩ :: rest) scope pos) 0 it' acc env) R s')
      (notedBy (model prog w) A env fun x s' => R (.error x) s') s) :
    codeAny (model prog w) A (.compStart (.SetComp elt (⟨target, iter, ifs, 0⟩ :: rest) scope pos) 0 it acc env) R s := by
  refine codeAny_of_tree ?_
  show wpAny _ _ ((compStart (.SetComp elt (⟨target, iter, ifs, 0⟩ :: rest) scope pos) 0 it acc env).onRaise (fun x => do noteFrame x env; standAt theWindowsPlace)) _ _ s
  refine wpAny_notedAt ?_
  unfold compStart
  show wpAny _ _ (ask >>= _) _ _ s
  refine wpAny_bind (wpAny_askSetting (wpAny_ite ?_))
  split
  · first
      | exact wpAny_bind (wpAny_pure (wpAny_pure (And.intro rfl h0)))
      | exact wpAny_pure (And.intro rfl h0)
  · first
      | exact wpAny_bind (wpAny_rule (wpAny_bind (wpAny_standAt (wpAny_bind (wpAny_mono h (fun it' s' h' => wpAny_pure (And.intro rfl h')) fun _ _ x => x)))))
      | (refine wpAny_bind (wpAny_rule ?_); show wpAny _ _ (standAt iter.pos >>= _) _ _ s; exact wpAny_bind (wpAny_standAt (wpAny_bind (wpAny_mono h (fun it' s' h' => wpAny_pure (And.intro rfl h')) fun _ _ x => x))))
theorem compTurn_set1 (elt target iter : Expr) (scope : Scope) (pos : Pos) (it acc : Value) (env : Env) :
    compTurn (.SetComp elt [⟨target, iter, [], 0⟩] scope pos) 0 it acc env = (standAt iter.pos >>= fun _ => pyNext it >>= fun r => match r with
      | none => pure (.done .next)
      | some v => letOwnedTupleGo target it v >>= fun _ => assign target env v >>= fun _ =>
        (eval elt env >>= fun x => standAt elt.pos >>= fun _ => call (.builtin "set.add") [acc, x] >>= fun _ => pure ()) >>= fun _ =>
          again (.compLoop (.SetComp elt [⟨target, iter, [], 0⟩] scope pos) 0 it acc env)) := by rfl
theorem codeAny_compLoop_set {elt target iter : Expr} {scope : Scope} {pos : Pos} {it acc : Value} {env : Env} (I : Nat → Shared → Prop)
    (turn : ∀ n s, I n s → wpAny (model prog w) A (pyNext it) (fun r s₁ => match r with
      | none => R (.ok .next) s₁
      | some v => wpAny (model prog w) A (assign target env v) (fun _ s₂ => wpAny (model prog w) A (eval elt env) (fun x s₃ =>
          wpAny (model prog w) A (call (.builtin "set.add") [acc, x]) (fun _ s₄ => ∃ m, m < n ∧ I m s₄) (notedBy (model prog w) A env fun e s' => R (.error e) s') s₃)
          (notedBy (model prog w) A env fun e s' => R (.error e) s') s₂) (notedBy (model prog w) A env fun e s' => R (.error e) s') s₁) (notedBy (model prog w) A env fun e s' => R (.error e) s') s)
    (n : Nat) (h : I n s) (ht : ∀ v, letOwnedTupleGo target it v = pure () := by intro _; rfl) :
    codeAny (model prog w) A (.compLoop (.SetComp elt [⟨target, iter, [], 0⟩] scope pos) 0 it acc env) R s := by
  refine codeAny_loop rfl I (fun n s hI => ?_) n h
  show wpAny _ _ ((compTurn (.SetComp elt [⟨target, iter, [], 0⟩] scope pos) 0 it acc env).onRaise (fun x => do noteFrame x env; theTreesLotGoes x)) _ _ s
  refine wpAny_noted ?_
  rw [compTurn_set1]
  refine wpAny_bind (wpAny_standAt (wpAny_bind (wpAny_mono (turn n s hI) (fun r s₁ h₁ => ?_) fun _ _ h' => h')))
  cases r with
  | none => exact wpAny_pure h₁
  | some v =>
    refine wpAny_bind (wpAny_of_eq (ht v) ?_)
    exact wpAny_bind (wpAny_mono h₁ (fun _ s₂ h₂ => wpAny_bind (wpAny_bind (wpAny_mono h₂ (fun x s₃ h₃ => wpAny_bind (wpAny_standAt (wpAny_bind (wpAny_mono h₃
      (fun _ s₄ h₄ => wpAny_pure (wpAny_pure ⟨rfl, h₄⟩)) fun _ _ h' => h')))) fun _ _ h' => h'))) fun _ _ h' => h')
theorem set_block {elt iter : Expr} {x : Str} {px : Pos} {scope : Scope} {cl : List (Str × Addr)} {pos : Pos} {I : Addr} {fp : List Addr} {n : Nat} {P : Nat → Value → Prop} {St : Nat → Heap → Prop} {news : List (Addr × Obj)}
    {RR : Value → Addr → Result → Shared → Prop}
    (W : Walks prog w A I fp [I] n P St) (hn : 0 < n) (hIo : ∀ i h, St i h → ∃ o, h.get? I = some o)
    (hSt : ∀ i h h' o, St i h → h.get? I = some o → h'.get? I = some o → News h₀ L h' news → St i h')
    (hcell : ∀ y ∈ scope.names, y.2 ≠ .cell) (hkind : scope.kind = .function) (hx : scope.names.lookup x = some .local) (hst : St 0 s.heap) (hfp : ∀ b ∈ fp, b < s.heap.objs.size)
    (F : Fr h₀ L s.heap m) (N : News h₀ L s.heap news) (hIL : L ≠ I) (hI₀ : h₀.get? I = none) (off : ∀ p ∈ news, p.1 ≠ I)
    (turn : ∀ i v I' oI C oC D oD m₂ h tk (E' : Value → Shared → Prop), i < n → P i v → NsObj oC m₂ → m₂ x = some v → Fr h₀ L h m → News h₀ L h ((I', oI) :: (C, oC) :: (D, oD) :: news) →
      wpAny (model prog w) A (eval elt (compEnvC scope cl C env)) (fun y s' => y = .bool true ∧ ∃ h' tk', s' = { s with heap := h', toks := tk' } ∧ Fr h₀ L h' m ∧ News h₀ L h' ((I', oI) :: (C, oC) :: (D, oD) :: news)) E' { s with heap := h, toks := tk })
    (hRR : ∀ D C h tk m', Fr h₀ L h m → News h₀ L h ((D, setT w) :: news) → (∀ p ∈ news, p.1 < D) → h.Ns C m' → h₀.get? C = none → C ≠ L → C ≠ D → (∀ p ∈ news, p.1 ≠ C) → RR (.ref D) C (.ok .next) { s with heap := h, toks := tk }) :
    wpAny (model prog w) A (newSet (.type "set")) (fun acc s₃ => wpAny (model prog w) A (newFunctionEnv scope env.globals cl [] env.qual none .none (some env)) (fun cenv s₄ =>
      codeAny (model prog w) A (.compStart (.SetComp elt [⟨.Name x px, iter, [], 0⟩] scope pos) 0 (.ref I) acc { cenv with scope := relabel scope env }) (RR acc cenv.locals) s₄) E s₃) E s := by
  have hDn : ∀ p ∈ news, p.1 < s.heap.objs.size := fun p hp => Heap.lt_size (N p hp).1
  have hLlt : L < s.heap.objs.size := F.ns.lt
  have hD₀ : h₀.get? s.heap.objs.size = none := next_is_new F
  have hset : ∀ Q' : Value → Shared → Prop, Q' (.ref s.heap.objs.size) { s with heap := s.heap.push (setE w) } → wpAny (model prog w) A (newSet (.type "set")) Q' E s := by
    intro Q' hq
    unfold newSet setsByText
    refine wpAny_bind (wpAny_bind (wpAny_askSetting (wpAny_pure ?_)))
    dsimp only
    simp only [newObj]
    exact wpAny_bind (wpAny_alloc (wpAny_pure hq))
  refine hset _ ?_
  refine wpAny_newFunctionEnv hcell (by intro y hy; simp at hy) (fun h₁ hns₁ hsb₁ => ?_) hkind
  dsimp only at hns₁ hsb₁ ⊢
  have hCs : (s.heap.push (setE w)).objs.size = s.heap.objs.size + 1 := Heap.size_push ..
  generalize hC : (s.heap.push (setE w)).objs.size = C at hns₁ hsb₁ hCs ⊢
  have hCD : C ≠ s.heap.objs.size := by rw [hCs]; exact Nat.ne_of_gt (Nat.lt_succ_self _)
  have F₀ := F.push (setE w)
  have N₀ := News.push F N (setE w)
  have hC₀ : h₀.get? C = none := by rw [← hC]; exact next_is_new F₀
  have hCL : C ≠ L := by rw [hCs]; exact Nat.ne_of_gt (Nat.lt_succ_of_lt hLlt)
  have old : ∀ b o, b ≠ C → (s.heap.push (setE w)).get? b = some o → h₁.get? b = some o := fun b o hb e => hsb₁.extBut b o hb (Heap.get?_push_of_some _ e)
  have hnC : ∀ p ∈ (s.heap.objs.size, setE w) :: news, p.1 ≠ C := fun p hp => Nat.ne_of_lt (by rw [← hC]; exact Heap.lt_size (N₀ p hp).1)
  have F₁ : Fr h₀ L h₁ m := ⟨F₀.ns.at' fun o e => old L o (Ne.symm hCL) e, fun b o e => old b o (fun q => by rw [q, hC₀] at e; cases e) (F₀.keep b o e), F₀.above⟩
  have N₁ : News h₀ L h₁ ((s.heap.objs.size, setE w) :: news) := fun p hp => ⟨old _ _ (hnC p hp) (N₀ p hp).1, (N₀ p hp).2⟩
  have hIf : I ∈ fp := W.sub I (List.mem_singleton.mpr rfl)
  have hIlt : I < s.heap.objs.size := hfp I hIf
  have hst₁ : St 0 h₁ := W.frame _ _ _ hst fun b hb o e => old b o (fun q => by have := hfp b hb; rw [q, hCs] at this; exact absurd this (Nat.not_lt.mpr (Nat.le_succ _))) (Heap.get?_push_of_some _ e)
  have hDf : s.heap.objs.size ∉ fp := fun hm => Nat.lt_irrefl _ (hfp _ hm)
  have hCf : C ∉ fp := fun hm => by have := hfp _ hm; rw [hCs] at this; exact absurd this (Nat.not_lt.mpr (Nat.le_succ _))
  have hCI : C ≠ I := fun e => hCf (e ▸ hIf)
  have hDI : s.heap.objs.size ≠ I := fun e => hDf (e ▸ hIf)
  have loop : ∀ s₃ : Shared, s₃ = { s with heap := h₁, toks := s.toks + ([] : List (Str × Value)).length } →
      codeAny (model prog w) A (.compLoop (.SetComp elt [⟨.Name x px, iter, [], 0⟩] scope pos) 0 (.ref I) (.ref s.heap.objs.size) (compEnvC scope cl C env)) (RR (.ref s.heap.objs.size) C) s₃ := by
    rintro s₃ rfl
    refine codeAny_compLoop_set
      (fun k s' => ∃ h' tk i m', s' = { s with heap := h', toks := tk } ∧ i ≤ n ∧ k = n + 1 - i ∧ St i h' ∧ Fr h₀ L h' m ∧ h'.Ns C m' ∧ News h₀ L h' ((s.heap.objs.size, if i = 0 then setE w else setT w) :: news)) ?_ (n + 1)
      ⟨h₁, _, 0, _, rfl, Nat.zero_le _, rfl, hst₁, F₁, hns₁, N₁⟩
    rintro k s' ⟨h', tk, i, m', rfl, hi, rfl, hst', F', hn', N'⟩
    by_cases hlt : i < n
    · refine W.item i _ _ _ hlt hst' fun v h₂ tk₂ hPv hst₂ hk₂ => ?_
      have F₂ : Fr h₀ L h₂ m := fr_but F' hk₂ hIL hI₀
      have N₂ := news_but N' hk₂ (fun p hp => by
        rcases List.mem_cons.mp hp with rfl | hp
        · exact hDI
        · exact off p hp)
      refine wpAny_assign_Name (wpAny_storeName_local (lookup_relabel_local hx) (hn'.at' fun o e => hk₂ _ o (by simpa using hCI) e) (fun h₃ hn₃ hs₃ => ?_) (by simp [compEnvC, relabel, hkind]))
      have hst₃ : St (i + 1) h₃ := W.frame _ _ _ hst₂ fun b hb o e => hs₃.extBut b o (fun q => hCf (by have q' : b = C := q; rw [← q']; exact hb)) e
      obtain ⟨oI, heI⟩ := hIo _ _ hst₃
      obtain ⟨oC, heC, hoC⟩ := ns_obj hn₃
      have F₃ : Fr h₀ L h₃ m := F₂.change hs₃ hCL hC₀
      have N₃ : News h₀ L h₃ ((I, oI) :: (C, oC) :: (s.heap.objs.size, if i = 0 then setE w else setT w) :: news) := fun p hp => by
        rcases List.mem_cons.mp hp with rfl | hp
        · exact ⟨heI, Ne.symm hIL, hI₀⟩
        · rcases List.mem_cons.mp hp with rfl | hp
          · exact ⟨heC, hCL, hC₀⟩
          · refine ⟨hs₃.extBut _ _ ?_ (N₂ p hp).1, (N₂ p hp).2⟩
            rcases List.mem_cons.mp hp with rfl | hp
            · exact Ne.symm hCD
            · exact hnC p (.tail _ hp)
      refine wpAny_mono (turn i v I oI C oC s.heap.objs.size _ _ h₃ _ _ hlt hPv hoC (by simp) F₃ N₃) (fun y s₄ h₄ => ?_) fun _ _ e => e
      obtain ⟨rfl, h₄', tk₄, rfl, F₄, N₄⟩ := h₄
      have zD := (N₄ _ (.tail _ (.tail _ (.head _)))).1
      have zI := (N₄ _ (.head _)).1
      have zC := (N₄ _ (.tail _ (.head _))).1
      have N₄' : News h₀ L h₄' news := fun p hp => N₄ p (.tail _ (.tail _ (.tail _ hp)))
      have hst₄ : St (i + 1) h₄' := hSt _ _ _ _ hst₃ heI zI N₄'
      have fin : ∀ h₅ tk₅, Heap.SameBut s.heap.objs.size h₄' h₅ → h₅.get? s.heap.objs.size = some (setT w) → ∃ mm, mm < n + 1 - i ∧ ∃ h' tk i m', ({ s with heap := h₅, toks := tk₅ } : Shared) = { s with heap := h', toks := tk } ∧ i ≤ n ∧ mm = n + 1 - i ∧ St i h' ∧ Fr h₀ L h' m ∧ h'.Ns C m' ∧ News h₀ L h' ((s.heap.objs.size, if i = 0 then setE w else setT w) :: news) := by
        intro h₅ tk₅ hs₅ e₅
        refine ⟨n + 1 - (i + 1), by omega, h₅, tk₅, i + 1, _, rfl, hlt, rfl, W.frame _ _ _ hst₄ fun b hb o e => hs₅.extBut b o (fun q => hDf (q ▸ hb)) e, F₄.change hs₅ (Nat.ne_of_gt hLlt) hD₀, (hoC.ns zC).sameBut hs₅ hCD, fun p hp => ?_⟩
        rcases List.mem_cons.mp hp with rfl | hp
        · exact ⟨by rw [if_neg (Nat.succ_ne_zero i)]; exact e₅, Nat.ne_of_gt hLlt, hD₀⟩
        · exact ⟨hs₅.extBut _ _ (Nat.ne_of_lt (hDn p hp)) (N₄' p hp).1, (N₄' p hp).2⟩
      by_cases hi0 : i = 0
      · rw [if_pos hi0] at zD
        exact add_true0 zD fun h₅ tk₅ hs₅ e₅ => fin h₅ tk₅ hs₅ e₅
      · rw [if_neg hi0] at zD
        exact add_true1 zD fun tk₅ => fin h₄' tk₅ (.refl ..) zD
    · obtain rfl : i = n := Nat.le_antisymm hi (Nat.not_lt.mp hlt)
      refine W.done _ _ _ hst' fun h₂ tk₂ hk₂ => ?_
      rw [if_neg (Nat.ne_of_gt hn)] at N'
      exact hRR _ _ h₂ tk₂ _ (fr_but F' hk₂ hIL hI₀) (news_but N' hk₂ fun p hp => by
        rcases List.mem_cons.mp hp with rfl | hp
        · exact hDI
        · exact off p hp) hDn (hn'.at' fun o e => hk₂ _ o (by simpa using hCI) e) hC₀ hCL hCD (fun p hp => hnC p (.tail _ hp))
  exact codeAny_compStart_set (loop _ rfl) (W.self 0 _ _ _ hst₁ (loop _ rfl))
def SetTurn (prog : Program) (w : World) (A : Around) (h₀ : Heap) (L : Addr) (m : Str → Option Value) (env : Env) (elt : Expr) (x : Str) (scope : Scope) (cl : List (Str × Addr)) (s : Shared) (news : List (Addr × Obj)) (v : Value) : Prop :=
  ∀ I' oI C oC D oD m₂ h tk (E' : Value → Shared → Prop), NsObj oC m₂ → m₂ x = some v → Fr h₀ L h m → News h₀ L h ((I', oI) :: (C, oC) :: (D, oD) :: news) →
      wpAny (model prog w) A (eval elt (compEnvC scope cl C env)) (fun y s' => y = .bool true ∧ ∃ h' tk', s' = { s with heap := h', toks := tk' } ∧ Fr h₀ L h' m ∧ News h₀ L h' ((I', oI) :: (C, oC) :: (D, oD) :: news)) E' { s with heap := h, toks := tk }
theorem SetComp_tuple {elt iter : Expr} {x : Str} {px : Pos} {scope : Scope} {cl : List (Str × Addr)} {pos : Pos} {Q : Value → Shared → Prop} (_F₀ : Fr h₀ L s.heap m)
    (hclos : closureFor scope env = pure cl) (hcell : ∀ y ∈ scope.names, y.2 ≠ .cell) (hkind : scope.kind = .function)
    (hnames : ∀ y ∈ scope.names, y.2 = .local → scope.names.lookup y.1 = some .local) (hx : scope.names.lookup x = some .local)
    (h : wpAny (model prog w) A (eval iter env) (fun xv s₁ => ∃ ax its k news, xv = .ref ax ∧ A.handled = none ∧ Fr h₀ L s₁.heap m ∧ News h₀ L s₁.heap news ∧ (ax, ({ cls := .type "tuple", data := .seq its k } : Obj)) ∈ news ∧ 0 < its.size ∧
      (∀ v ∈ its, SetTurn prog w A h₀ L m env elt x scope cl s₁ news v) ∧ ∀ D h tk, Fr h₀ L h m → News h₀ L h ((D, setT w) :: news) → (∀ p ∈ news, p.1 < D) → Q (.ref D) { s₁ with heap := h, toks := tk }) E s)
    (hs : ∀ x, foldedSetIterable iter env x = pure x := by intro _; rfl) :
    wpAny (model prog w) A (eval (.SetComp elt [⟨.Name x px, iter, [], 0⟩] scope pos) env) Q E s := by
  show wpAny _ A (comprehension (.SetComp elt [⟨.Name x px, iter, [], 0⟩] scope pos) scope env _ (newSet (.type "set")) false (eval iter env)) _ _ s
  refine wpAny_comprehension_free (use := none) rfl hs hclos hkind hnames (wpAny_mono h (fun xv s₁ h₁ => ?_) fun _ _ e => e)
  obtain ⟨ax, its, k, news, rfl, hh, F, N, hm, h0, turn, fin⟩ := h₁
  have hl : s₁.heap.IsTuple ax its := ⟨_, (N _ hm).1, rfl, _, rfl⟩
  have hlt : ax < s₁.heap.objs.size := Heap.lt_size (N _ hm).1
  have up : ∀ b o, s₁.heap.get? b = some o → (s₁.heap.push { cls := .type "tuple_iterator", data := .fields #[.ref ax, .int 0 0] }).get? b = some o := fun b o e => Heap.get?_push_of_some _ e
  refine wpAny_pyIter_tuple hl ?_
  refine set_block (Walks.tuple hh s₁.heap.objs.size ax (Nat.ne_of_lt hlt) its) h0 (fun i h st => by obtain ⟨o, e, _⟩ := st.1; exact ⟨o, e⟩) ?_ hcell hkind hx ⟨⟨_, Heap.get?_push_size _ rfl, rfl, rfl⟩, hl.at (up _)⟩ (fun b hb => ?_)
    (F.keeps up) (N.grown up) (Nat.ne_of_lt F.ns.lt) (next_is_new F) (fun p hp => Nat.ne_of_lt (Heap.lt_size (N p hp).1)) ?_ ?_
  · rintro i h h' o st e e' NN
    exact ⟨by obtain ⟨o', q, r⟩ := st.1; rw [e] at q; cases q; exact ⟨o, e', r⟩, ⟨_, (NN _ hm).1, rfl, _, rfl⟩⟩
  · show b < (s₁.heap.push _).objs.size
    rw [Heap.size_push]
    rcases List.mem_cons.mp hb with rfl | hb
    · exact Nat.lt_succ_self _
    · rw [List.mem_singleton.mp hb]; exact Nat.lt_succ_of_lt hlt
  · intro i v I' oI C oC D oD m₂ h tk E' hi hP hC hm2 F' N'
    exact turn v (Array.mem_of_getElem? hP) I' oI C oC D oD m₂ h tk E' hC hm2 F' N'
  · intro D C h tk m' F' N' hD hn hC₀ hCL hCD offC
    refine ⟨m', hn, fun h'' hs'' => fin D h'' tk (F'.change hs'' hCL hC₀) (fun p hp => ?_) hD⟩
    refine ⟨hs''.extBut _ _ ?_ (N' p hp).1, (N' p hp).2⟩
    rcases List.mem_cons.mp hp with rfl | hp
    · exact Ne.symm hCD
    · exact offC p hp
theorem gsrc_list {elt : Expr} {x : Str} {scope : Scope} {cl : List (Str × Addr)} {Fin : Shared → List Value → List (Addr × Obj) → Prop} {ax : Addr} {its : Array Value} {k : Nat} {news : List (Addr × Obj)} {s₁ : Shared}
    (hh : A.handled = none) (F : Fr h₀ L s₁.heap m) (N : News h₀ L s₁.heap news) (hm : (ax, ({ cls := .type "list", data := .seq its k } : Obj)) ∈ news) (hsz : its.size ≤ sizeLine)
    (h : ∀ g, CompRest prog w A h₀ L m env elt x scope cl { s₁ with heap := g } (SrcAt h₀ ax its) (fun i v => its[i]? = some v) (Fin { s₁ with heap := g }) its.size 0 [] news) :
    wpAny (model prog w) A (pyIter (.ref ax)) (GSrc prog w A h₀ L m env elt x scope cl Fin) E s₁ := by
  have hl : s₁.heap.IsList ax its := ⟨_, (N _ hm).1, rfl, _, rfl⟩
  have hlt : ax < s₁.heap.objs.size := Heap.lt_size (N _ hm).1
  refine wpAny_pyIter_list hl ?_
  have up : ∀ b o, s₁.heap.get? b = some o → (s₁.heap.push { cls := .type "list_iterator", data := .fields #[.ref ax, .int 0 0] }).get? b = some o := fun b o e => Heap.get?_push_of_some _ e
  refine ⟨_, _, _, _, _, SrcAt h₀ ax its, news, rfl, Walks.list hh s₁.heap.objs.size ax (Nat.ne_of_lt hlt) its, hsz, fun i h st => by obtain ⟨o, e, _⟩ := st.1; exact ⟨o, e⟩, list_st, ⟨⟨_, Heap.get?_push_size _ rfl, rfl, rfl⟩, hl.at (up _)⟩, fun b hb => ?_, F.keeps up, N.grown up, Nat.ne_of_lt F.ns.lt, next_is_new F, fun p hp => Nat.ne_of_lt (Heap.lt_size (N p hp).1), .inr ⟨_, hm, rfl, _, rfl⟩, h _⟩
  show b < (s₁.heap.push _).objs.size
  rw [Heap.size_push]
  rcases List.mem_cons.mp hb with rfl | hb
  · exact Nat.lt_succ_self _
  · rw [List.mem_singleton.mp hb]; exact Nat.lt_succ_of_lt hlt
end
end Mine
end
namespace Mine
theorem entry_lel : entryFor table "list.__eq__.loop" = some Builtin.«list.__eq__.loop» := entryFor_of_tree (by kernel_rfl)
theorem plain_lel : plainId "list.__eq__.loop" = true := by decide +kernel
def lexS : List Str → List Str → Bool
  | [], [] => false
  | [], _ :: _ => true
  | _ :: _, [] => false
  | a :: x, b :: y => if a = b then lexS x y else decide (a.cps.toList < b.cps.toList)
section
variable {prog : Program} {w : World} {A : Around} {E : Value → Shared → Prop} {s : Shared} {R : Result → Shared → Prop}
theorem lex_nil {ys : List Str} {i : Nat} : lexS [] (ys.drop i) = decide (i < ys.length) := by
  cases h : ys.drop i with
  | nil => rw [lexS]; have := List.drop_eq_nil_iff.mp h; simp; omega
  | cons a r =>
    rw [lexS]
    have h2 : (ys.drop i).length = (a :: r).length := by rw [h]
    rw [List.length_drop, List.length_cons] at h2
    simp; omega
theorem lel_lt {l b : Addr} {o o' : Obj} {vs us : List Value} {n n' : Nat} {xs ys : List Str} (hl : s.heap.get? l = some o) (hd : o.data = .seq vs.toArray n) (hb : s.heap.get? b = some o') (hd' : o'.data = .seq us.toArray n')
    (hX : StrsAre vs xs) (hY : StrsAre us ys) : ∀ (k i : Nat), vs.length - i = k → i ≤ vs.length → i ≤ us.length → R (.ok (.ret (.bool (lexS (xs.drop i) (ys.drop i))))) s →
    codeAny (model prog w) A (.builtin "list.__eq__.loop" ⟨[.ref l, .ref b, .int (i : Int) 0, .int 0 0], []⟩) R s := by
  have hlx := hX.len_eq
  have hly := hY.len_eq
  intro k
  induction k with
  | zero =>
    intro i hk hi1 hi2 hr
    have hi : i = vs.length := by omega
    refine codeAny_builtin entry_lel ?_
    rw [Around.under_plainId plain_lel _]
    show wpAny _ _ (Builtin.List.listItems (.ref l) >>= fun _ => _) _ _ _
    refine wpAny_bind (listItems_at hl hd ?_)
    refine wpAny_bind (listItems_at hb hd' ?_)
    simp only [List.getElem?_toArray, Int.toNat_natCast]
    rw [List.getElem?_eq_none (by omega : vs.length ≤ i)]
    refine wpAny_bind (listItems_at hl hd ?_)
    refine wpAny_bind (listItems_at hb hd' ?_)
    refine wpAny_pure ?_
    rw [List.drop_eq_nil_iff.mpr (by omega : xs.length ≤ i), lex_nil] at hr
    show R (.ok (.ret (.bool (decide (vs.toArray.size < us.toArray.size))))) s
    rw [List.size_toArray, List.size_toArray, ← hi, hly]
    exact hr
  | succ k ih =>
    intro i hk hi1 hi2 hr
    have hlt : i < vs.length := by omega
    obtain ⟨x, t, ev, ex⟩ := hX.item i _ (List.getElem?_eq_getElem hlt)
    have ev' : vs[i]? = some (.str x t) := by rw [List.getElem?_eq_getElem hlt, ev]
    obtain ⟨hx1, hx2⟩ := List.getElem?_eq_some_iff.mp ex
    rw [List.drop_eq_getElem_cons hx1, hx2] at hr
    refine codeAny_builtin entry_lel ?_
    rw [Around.under_plainId plain_lel _]
    show wpAny _ _ (Builtin.List.listItems (.ref l) >>= fun _ => _) _ _ _
    refine wpAny_bind (listItems_at hl hd ?_)
    refine wpAny_bind (listItems_at hb hd' ?_)
    simp only [List.getElem?_toArray, Int.toNat_natCast]
    rw [ev']
    by_cases hu : i < us.length
    · obtain ⟨y, t2, eu, ey⟩ := hY.item i _ (List.getElem?_eq_getElem hu)
      have eu' : us[i]? = some (.str y t2) := by rw [List.getElem?_eq_getElem hu, eu]
      obtain ⟨hy1, hy2⟩ := List.getElem?_eq_some_iff.mp ey
      rw [List.drop_eq_getElem_cons hy1, hy2, lexS] at hr
      rw [eu']
      refine wpAny_bind (wpAny_eqBool_str ?_)
      by_cases hxy : x = y
      · rw [if_pos hxy] at hr
        rw [if_pos (by rw [hxy]; exact beq_self_eq_true y)]
        exact wpAny_pure ⟨plainId_quiet plain_lel _, ih (i + 1) (by omega) (by omega) (by omega) hr⟩
      · rw [if_neg hxy] at hr
        rw [if_neg (by simpa using hxy)]
        refine wpAny_bind (listItems_at hl hd ?_)
        refine wpAny_bind (listItems_at hb hd' ?_)
        simp only [List.getElem?_toArray, Int.toNat_natCast]
        rw [ev', eu']
        refine wpAny_bind (LtAt.str x y t t2 prog w _ _ ?_)
        exact wpAny_pure hr
    · rw [List.getElem?_eq_none (by omega : us.length ≤ i)]
      refine wpAny_bind (listItems_at hl hd ?_)
      refine wpAny_bind (listItems_at hb hd' ?_)
      refine wpAny_pure ?_
      rw [List.drop_eq_nil_iff.mpr (by omega : ys.length ≤ i), lexS] at hr
      show R (.ok (.ret (.bool (decide (vs.toArray.size < us.toArray.size))))) s
      rw [List.size_toArray, List.size_toArray, decide_eq_false (by omega)]
      exact hr
end
end Mine
namespace Mine
section
variable {prog : Program} {w : World} {A : Around} {E : Value → Shared → Prop} {s : Shared}
theorem lex_r {l : List Str} : lexS l [] = false := by cases l <;> rfl
variable {R : Result → Shared → Prop}
theorem lel_gt {l b : Addr} {o o' : Obj} {vs us : List Value} {n n' : Nat} {xs ys : List Str} (hl : s.heap.get? l = some o) (hd : o.data = .seq vs.toArray n) (hb : s.heap.get? b = some o') (hd' : o'.data = .seq us.toArray n')
    (hX : StrsAre vs xs) (hY : StrsAre us ys) : ∀ (k i : Nat), vs.length - i = k → i ≤ vs.length → i ≤ us.length → R (.ok (.ret (.bool (lexS (ys.drop i) (xs.drop i))))) s →
    codeAny (model prog w) A (.builtin "list.__eq__.loop" ⟨[.ref l, .ref b, .int (i : Int) 0, .int 4 0], []⟩) R s := by
  have hlx := hX.len_eq
  have hly := hY.len_eq
  intro k
  induction k with
  | zero =>
    intro i hk hi1 hi2 hr
    have hi : i = vs.length := by omega
    refine codeAny_builtin entry_lel ?_
    rw [Around.under_plainId plain_lel _]
    show wpAny _ _ (Builtin.List.listItems (.ref l) >>= fun _ => _) _ _ _
    refine wpAny_bind (listItems_at hl hd ?_)
    refine wpAny_bind (listItems_at hb hd' ?_)
    simp only [List.getElem?_toArray, Int.toNat_natCast]
    rw [List.getElem?_eq_none (by omega : vs.length ≤ i)]
    refine wpAny_bind (listItems_at hl hd ?_)
    refine wpAny_bind (listItems_at hb hd' ?_)
    refine wpAny_pure ?_
    rw [List.drop_eq_nil_iff.mpr (by omega : xs.length ≤ i), lex_r] at hr
    show R (.ok (.ret (.bool (decide (vs.toArray.size > us.toArray.size))))) s
    rw [List.size_toArray, List.size_toArray, decide_eq_false (by omega)]
    exact hr
  | succ k ih =>
    intro i hk hi1 hi2 hr
    have hlt : i < vs.length := by omega
    obtain ⟨x, t, ev, ex⟩ := hX.item i _ (List.getElem?_eq_getElem hlt)
    have ev' : vs[i]? = some (.str x t) := by rw [List.getElem?_eq_getElem hlt, ev]
    obtain ⟨hx1, hx2⟩ := List.getElem?_eq_some_iff.mp ex
    rw [List.drop_eq_getElem_cons hx1, hx2] at hr
    refine codeAny_builtin entry_lel ?_
    rw [Around.under_plainId plain_lel _]
    show wpAny _ _ (Builtin.List.listItems (.ref l) >>= fun _ => _) _ _ _
    refine wpAny_bind (listItems_at hl hd ?_)
    refine wpAny_bind (listItems_at hb hd' ?_)
    simp only [List.getElem?_toArray, Int.toNat_natCast]
    rw [ev']
    by_cases hu : i < us.length
    · obtain ⟨y, t2, eu, ey⟩ := hY.item i _ (List.getElem?_eq_getElem hu)
      have eu' : us[i]? = some (.str y t2) := by rw [List.getElem?_eq_getElem hu, eu]
      obtain ⟨hy1, hy2⟩ := List.getElem?_eq_some_iff.mp ey
      rw [List.drop_eq_getElem_cons hy1, hy2, lexS] at hr
      rw [eu']
      refine wpAny_bind (wpAny_eqBool_str ?_)
      by_cases hxy : y = x
      · rw [if_pos hxy] at hr
        rw [if_pos (by rw [hxy]; exact beq_self_eq_true x)]
        exact wpAny_pure ⟨plainId_quiet plain_lel _, ih (i + 1) (by omega) (by omega) (by omega) hr⟩
      · rw [if_neg hxy] at hr
        rw [if_neg (by simpa using fun e : x = y => hxy e.symm)]
        refine wpAny_bind (listItems_at hl hd ?_)
        refine wpAny_bind (listItems_at hb hd' ?_)
        simp only [List.getElem?_toArray, Int.toNat_natCast]
        rw [ev', eu']
        refine wpAny_bind (PySem.P.gt_str ?_)
        exact wpAny_pure hr
    · rw [List.getElem?_eq_none (by omega : us.length ≤ i)]
      refine wpAny_bind (listItems_at hl hd ?_)
      refine wpAny_bind (listItems_at hb hd' ?_)
      refine wpAny_pure ?_
      rw [List.drop_eq_nil_iff.mpr (by omega : ys.length ≤ i), lexS] at hr
      show R (.ok (.ret (.bool (decide (vs.toArray.size > us.toArray.size))))) s
      rw [List.size_toArray, List.size_toArray, decide_eq_true (by omega)]
      exact hr
theorem list_lt {l b : Addr} {o o' : Obj} {vs us : List Value} {n n' : Nat} {xs ys : List Str} {Q : Value → Shared → Prop} (hl : s.heap.get? l = some o) (hc : o.cls = .type "list") (hd : o.data = .seq vs.toArray n) (hb : s.heap.get? b = some o') (hc' : o'.cls = .type "list") (hd' : o'.data = .seq us.toArray n')
    (hX : StrsAre vs xs) (hY : StrsAre us ys) (hu : A.units < cLine) (h : Q (.bool (lexS xs ys)) s) : wpAny (model prog w) A (richCompare .Lt (.ref l) (.ref b)) Q E s := by
  have hT : s.TypeIs (.ref l) "list" := ⟨_, hl, hc⟩
  have hT' : s.TypeIs (.ref b) "list" := ⟨_, hb, hc'⟩
  refine wpAny_richCompare_same_room (op := .Lt) hT hT' PySem.F.slot_list_lt ?_ hu
  refine wpAny_call (codeAny_call_builtin PySem.F.slot_list_lt.plain PySem.F.entry_list_lt (PySem.F.slot_list_lt.check _ _ _ _ _ _ _ _ hT (PySem.F.args_list_lt_2 _ _) ?_))
  unfold Builtin.«list.__lt__»
  show wpAny _ _ (isInstance (.ref b) (.type "list") >>= fun _ => _) _ _ _
  refine wpAny_bind (wpAny_isInstance (T := "list") (b := true) hT' sub_list_self ?_)
  show wpAny _ _ (again (.builtin "list.__eq__.loop" ⟨[.ref l, .ref b, .int ((0 : Nat) : Int) 0, .int 0 0], []⟩)) _ _ _
  exact wpAny_pure ⟨plainId_quiet plain_lel _, lel_lt hl hd hb hd' hX hY _ 0 rfl (Nat.zero_le _) (Nat.zero_le _) ⟨(fun x => nomatch x), h⟩⟩
theorem list_gt {l b : Addr} {o o' : Obj} {vs us : List Value} {n n' : Nat} {xs ys : List Str} {Q : Value → Shared → Prop} (hl : s.heap.get? l = some o) (hc : o.cls = .type "list") (hd : o.data = .seq vs.toArray n) (hb : s.heap.get? b = some o') (hc' : o'.cls = .type "list") (hd' : o'.data = .seq us.toArray n')
    (hX : StrsAre vs xs) (hY : StrsAre us ys) (hu : A.units < cLine) (h : Q (.bool (lexS ys xs)) s) : wpAny (model prog w) A (richCompare .Gt (.ref l) (.ref b)) Q E s := by
  have hT : s.TypeIs (.ref l) "list" := ⟨_, hl, hc⟩
  have hT' : s.TypeIs (.ref b) "list" := ⟨_, hb, hc'⟩
  refine wpAny_richCompare_same_room (op := .Gt) hT hT' PySem.F.slot_list_gt ?_ hu
  refine wpAny_call (codeAny_call_builtin PySem.F.slot_list_gt.plain PySem.F.entry_list_gt (PySem.F.slot_list_gt.check _ _ _ _ _ _ _ _ hT (PySem.F.args_list_gt_2 _ _) ?_))
  unfold Builtin.«list.__gt__»
  show wpAny _ _ (isInstance (.ref b) (.type "list") >>= fun _ => _) _ _ _
  refine wpAny_bind (wpAny_isInstance (T := "list") (b := true) hT' sub_list_self ?_)
  show wpAny _ _ (again (.builtin "list.__eq__.loop" ⟨[.ref l, .ref b, .int ((0 : Nat) : Int) 0, .int 4 0], []⟩)) _ _ _
  exact wpAny_pure ⟨plainId_quiet plain_lel _, lel_gt hl hd hb hd' hX hY _ 0 rfl (Nat.zero_le _) (Nat.zero_le _) ⟨(fun x => nomatch x), h⟩⟩
end
end Mine
namespace Mine
section
variable {prog : Program} {w : World} {A : Around} {E : Value → Shared → Prop} {s : Shared} {R : Result → Shared → Prop}
theorem min_end {I S : Addr} {v : Value} {c : Nat} (hS : s.heap.get? S = some { cls := .type "list", dict := none, data := .seq #[v, v] c, slots := #[] })
    (hn : ∀ (E' : Value → Shared → Prop), wpAny (model prog w) A.in1 (pyNext (.ref I)) (fun r s' => r = none ∧ s'.heap.get? S = some { cls := .type "list", dict := none, data := .seq #[v, v] c, slots := #[] } ∧
      ∀ h', (∀ b o, b ≠ S → s'.heap.get? b = some o → h'.get? b = some o) → R (.ok (.ret v)) { s' with heap := h' }) E' s) :
    codeAny (model prog w) A (.builtin "min.loop" ⟨[.ref I, .none, .ref S], []⟩) R s := by
  refine codeAny_builtin PySem.F.entry_min_loop ?_
  rw [Around.under_plainId PySem.F.plain_min_loop _]
  show wpAny _ A.in1 (seqItems? (.ref S) >>= _) _ _ s
  refine wpAny_bind (wpAny_seqItems hS rfl ?_)
  show wpAny _ A.in1 (tryCatch (pyNext (.ref I)) _ >>= _) _ _ s
  refine wpAny_bind (wpAny_tryCatch (wpAny_mono (hn _) (fun r s' hr => ?_) fun _ _ e => e))
  obtain ⟨rfl, hS', hr⟩ := hr
  show wpAny _ A.in1 (updateSeq S (fun _ => #[]) >>= _) _ _ _
  refine wpAny_bind ?_
  refine wpAny_updateSeq hS' rfl ?_
  refine wpAny_bind (wpAny_letGo (wpAny_pure ?_))
  exact hr _ fun b o hb e => (Heap.get?_update_other _ _ (Ne.symm hb)).trans e
theorem min_turn {I S : Addr} {o v : Value} {c : Nat} {b : Bool} (hS : s.heap.get? S = some { cls := .type "list", dict := none, data := .seq #[o, o] c, slots := #[] })
    (hn : ∀ (E' : Value → Shared → Prop), wpAny (model prog w) A.in1 (pyNext (.ref I)) (fun r s' => r = some v ∧ s'.heap.get? S = some { cls := .type "list", dict := none, data := .seq #[o, o] c, slots := #[] } ∧
      (∀ (E' : Value → Shared → Prop) (Q' : Value → Shared → Prop), Q' (.bool b) s' → wpAny (model prog w) A.in1 (richCompare .Lt v o) Q' E' s') ∧
      ∀ h' c', h'.get? S = some { cls := .type "list", dict := none, data := .seq (if b then #[v, v] else #[o, o]) c', slots := #[] } → (∀ b o, b ≠ S → s'.heap.get? b = some o → h'.get? b = some o) → codeAny (model prog w) A (.builtin "min.loop" ⟨[.ref I, .none, .ref S], []⟩) R { s' with heap := h' }) E' s) :
    codeAny (model prog w) A (.builtin "min.loop" ⟨[.ref I, .none, .ref S], []⟩) R s := by
  have hname : (toString "min" ++ toString ".loop" : String) = "min.loop" := by decide
  refine codeAny_builtin PySem.F.entry_min_loop ?_
  rw [Around.under_plainId PySem.F.plain_min_loop _]
  show wpAny _ A.in1 (seqItems? (.ref S) >>= _) _ _ s
  refine wpAny_bind (wpAny_seqItems hS rfl ?_)
  show wpAny _ A.in1 (tryCatch (pyNext (.ref I)) _ >>= _) _ _ s
  refine wpAny_bind (wpAny_tryCatch (wpAny_mono (hn _) (fun r s' hr => ?_) fun _ _ e => e))
  obtain ⟨rfl, hS', hcmp, hr⟩ := hr
  refine wpAny_bind (wpAny_pure ?_)
  show wpAny _ A.in1 (tryCatch (holding [v, v] (richCompare .Lt v o >>= _)) _ >>= _) _ _ _
  refine wpAny_bind (wpAny_tryCatch (wpAny_holding (wpAny_bind (hcmp _ _ ?_))))
  refine wpAny_bind (wpAny_holding (wpAny_truthy_bool ?_))
  refine wpAny_bind (wpAny_letGo (wpAny_pure ?_))
  rw [hname]
  cases b with
  | true =>
    rw [if_pos rfl]
    refine wpAny_bind ?_
    refine wpAny_updateSeq hS' rfl (wpAny_bind (wpAny_letGo ?_))
    refine wpAny_pure ⟨plainId_quiet PySem.F.plain_min_loop _, hr _ c ?_ fun b o hb e => (Heap.get?_update_other _ _ (Ne.symm hb)).trans e⟩
    rw [Heap.get?_update_self _ hS' rfl]; rfl
  | false =>
    rw [if_neg Bool.false_ne_true]
    refine wpAny_bind (wpAny_letGo ?_)
    exact wpAny_pure ⟨plainId_quiet PySem.F.plain_min_loop _, hr s'.heap c hS' fun _ _ _ e => e⟩
theorem min_first {I S : Addr} {v : Value} {c : Nat} (hS : s.heap.get? S = some { cls := .type "list", dict := none, data := .seq #[] c, slots := #[] })
    (hn : ∀ (E' : Value → Shared → Prop), wpAny (model prog w) A.in1 (pyNext (.ref I)) (fun r s' => r = some v ∧ s'.heap.get? S = some { cls := .type "list", dict := none, data := .seq #[] c, slots := #[] } ∧
      ∀ h' c', h'.get? S = some { cls := .type "list", dict := none, data := .seq #[v, v] c', slots := #[] } → (∀ b o, b ≠ S → s'.heap.get? b = some o → h'.get? b = some o) → codeAny (model prog w) A (.builtin "min.loop" ⟨[.ref I, .none, .ref S], []⟩) R { s' with heap := h' }) E' s) :
    codeAny (model prog w) A (.builtin "min.loop" ⟨[.ref I, .none, .ref S], []⟩) R s := by
  have hname : (toString "min" ++ toString ".loop" : String) = "min.loop" := by decide
  refine codeAny_builtin PySem.F.entry_min_loop ?_
  rw [Around.under_plainId PySem.F.plain_min_loop _]
  show wpAny _ A.in1 (seqItems? (.ref S) >>= _) _ _ s
  refine wpAny_bind (wpAny_seqItems hS rfl ?_)
  show wpAny _ A.in1 (tryCatch (pyNext (.ref I)) _ >>= _) _ _ s
  refine wpAny_bind (wpAny_tryCatch (wpAny_mono (hn _) (fun r s' hr => ?_) fun _ _ e => e))
  obtain ⟨rfl, hS', hr⟩ := hr
  show wpAny _ A.in1 (updateSeq S (fun _ => #[v, v]) >>= _) _ _ _
  refine wpAny_bind ?_
  refine wpAny_updateSeq hS' rfl ?_
  rw [hname]
  refine wpAny_pure ⟨plainId_quiet PySem.F.plain_min_loop _, hr _ (c + 1) ?_ fun b o hb e => (Heap.get?_update_other _ _ (Ne.symm hb)).trans e⟩
  rw [Heap.get?_update_self _ hS' rfl]; rfl
theorem max_end {I S : Addr} {v : Value} {c : Nat} (hS : s.heap.get? S = some { cls := .type "list", dict := none, data := .seq #[v, v] c, slots := #[] })
    (hn : ∀ (E' : Value → Shared → Prop), wpAny (model prog w) A.in1 (pyNext (.ref I)) (fun r s' => r = none ∧ s'.heap.get? S = some { cls := .type "list", dict := none, data := .seq #[v, v] c, slots := #[] } ∧
      ∀ h', (∀ b o, b ≠ S → s'.heap.get? b = some o → h'.get? b = some o) → R (.ok (.ret v)) { s' with heap := h' }) E' s) :
    codeAny (model prog w) A (.builtin "max.loop" ⟨[.ref I, .none, .ref S], []⟩) R s := by
  refine codeAny_builtin PySem.F.entry_max_loop ?_
  rw [Around.under_plainId PySem.F.plain_max_loop _]
  show wpAny _ A.in1 (seqItems? (.ref S) >>= _) _ _ s
  refine wpAny_bind (wpAny_seqItems hS rfl ?_)
  show wpAny _ A.in1 (tryCatch (pyNext (.ref I)) _ >>= _) _ _ s
  refine wpAny_bind (wpAny_tryCatch (wpAny_mono (hn _) (fun r s' hr => ?_) fun _ _ e => e))
  obtain ⟨rfl, hS', hr⟩ := hr
  show wpAny _ A.in1 (updateSeq S (fun _ => #[]) >>= _) _ _ _
  refine wpAny_bind ?_
  refine wpAny_updateSeq hS' rfl ?_
  refine wpAny_bind (wpAny_letGo (wpAny_pure ?_))
  exact hr _ fun b o hb e => (Heap.get?_update_other _ _ (Ne.symm hb)).trans e
theorem max_turn {I S : Addr} {o v : Value} {c : Nat} {b : Bool} (hS : s.heap.get? S = some { cls := .type "list", dict := none, data := .seq #[o, o] c, slots := #[] })
    (hn : ∀ (E' : Value → Shared → Prop), wpAny (model prog w) A.in1 (pyNext (.ref I)) (fun r s' => r = some v ∧ s'.heap.get? S = some { cls := .type "list", dict := none, data := .seq #[o, o] c, slots := #[] } ∧
      (∀ (E' : Value → Shared → Prop) (Q' : Value → Shared → Prop), Q' (.bool b) s' → wpAny (model prog w) A.in1 (richCompare .Gt v o) Q' E' s') ∧
      ∀ h' c', h'.get? S = some { cls := .type "list", dict := none, data := .seq (if b then #[v, v] else #[o, o]) c', slots := #[] } → (∀ b o, b ≠ S → s'.heap.get? b = some o → h'.get? b = some o) → codeAny (model prog w) A (.builtin "max.loop" ⟨[.ref I, .none, .ref S], []⟩) R { s' with heap := h' }) E' s) :
    codeAny (model prog w) A (.builtin "max.loop" ⟨[.ref I, .none, .ref S], []⟩) R s := by
  have hname : (toString "max" ++ toString ".loop" : String) = "max.loop" := by decide
  refine codeAny_builtin PySem.F.entry_max_loop ?_
  rw [Around.under_plainId PySem.F.plain_max_loop _]
  show wpAny _ A.in1 (seqItems? (.ref S) >>= _) _ _ s
  refine wpAny_bind (wpAny_seqItems hS rfl ?_)
  show wpAny _ A.in1 (tryCatch (pyNext (.ref I)) _ >>= _) _ _ s
  refine wpAny_bind (wpAny_tryCatch (wpAny_mono (hn _) (fun r s' hr => ?_) fun _ _ e => e))
  obtain ⟨rfl, hS', hcmp, hr⟩ := hr
  refine wpAny_bind (wpAny_pure ?_)
  show wpAny _ A.in1 (tryCatch (holding [v, v] (richCompare .Gt v o >>= _)) _ >>= _) _ _ _
  refine wpAny_bind (wpAny_tryCatch (wpAny_holding (wpAny_bind (hcmp _ _ ?_))))
  refine wpAny_bind (wpAny_holding (wpAny_truthy_bool ?_))
  refine wpAny_bind (wpAny_letGo (wpAny_pure ?_))
  rw [hname]
  cases b with
  | true =>
    rw [if_pos rfl]
    refine wpAny_bind ?_
    refine wpAny_updateSeq hS' rfl (wpAny_bind (wpAny_letGo ?_))
    refine wpAny_pure ⟨plainId_quiet PySem.F.plain_max_loop _, hr _ c ?_ fun b o hb e => (Heap.get?_update_other _ _ (Ne.symm hb)).trans e⟩
    rw [Heap.get?_update_self _ hS' rfl]; rfl
  | false =>
    rw [if_neg Bool.false_ne_true]
    refine wpAny_bind (wpAny_letGo ?_)
    exact wpAny_pure ⟨plainId_quiet PySem.F.plain_max_loop _, hr s'.heap c hS' fun _ _ _ e => e⟩
theorem max_first {I S : Addr} {v : Value} {c : Nat} (hS : s.heap.get? S = some { cls := .type "list", dict := none, data := .seq #[] c, slots := #[] })
    (hn : ∀ (E' : Value → Shared → Prop), wpAny (model prog w) A.in1 (pyNext (.ref I)) (fun r s' => r = some v ∧ s'.heap.get? S = some { cls := .type "list", dict := none, data := .seq #[] c, slots := #[] } ∧
      ∀ h' c', h'.get? S = some { cls := .type "list", dict := none, data := .seq #[v, v] c', slots := #[] } → (∀ b o, b ≠ S → s'.heap.get? b = some o → h'.get? b = some o) → codeAny (model prog w) A (.builtin "max.loop" ⟨[.ref I, .none, .ref S], []⟩) R { s' with heap := h' }) E' s) :
    codeAny (model prog w) A (.builtin "max.loop" ⟨[.ref I, .none, .ref S], []⟩) R s := by
  have hname : (toString "max" ++ toString ".loop" : String) = "max.loop" := by decide
  refine codeAny_builtin PySem.F.entry_max_loop ?_
  rw [Around.under_plainId PySem.F.plain_max_loop _]
  show wpAny _ A.in1 (seqItems? (.ref S) >>= _) _ _ s
  refine wpAny_bind (wpAny_seqItems hS rfl ?_)
  show wpAny _ A.in1 (tryCatch (pyNext (.ref I)) _ >>= _) _ _ s
  refine wpAny_bind (wpAny_tryCatch (wpAny_mono (hn _) (fun r s' hr => ?_) fun _ _ e => e))
  obtain ⟨rfl, hS', hr⟩ := hr
  show wpAny _ A.in1 (updateSeq S (fun _ => #[v, v]) >>= _) _ _ _
  refine wpAny_bind ?_
  refine wpAny_updateSeq hS' rfl ?_
  rw [hname]
  refine wpAny_pure ⟨plainId_quiet PySem.F.plain_max_loop _, hr _ (c + 1) ?_ fun b o hb e => (Heap.get?_update_other _ _ (Ne.symm hb)).trans e⟩
  rw [Heap.get?_update_self _ hS' rfl]; rfl
end
end Mine
namespace Mine
section
variable {prog : Program} {w : World} {A : Around} {E : Value → Shared → Prop} {s : Shared} {h₀ : Heap} {L : Addr} {m : Str → Option Value} {news : List (Addr × Obj)}
theorem call_min2 {l a b : Addr} {k ka kb : Nat} {va vb : List Value} {xs ys : List Str} {Q : Value → Shared → Prop} (hh : A.handled = none) (hu : A.units + 5 < cLine) (F : Fr h₀ L s.heap m) (N : News h₀ L s.heap news)
    (hm : (l, listOf #[.ref a, .ref b] k) ∈ news) (ha : (a, listOf va.toArray ka) ∈ news) (hb : (b, listOf vb.toArray kb) ∈ news) (hX : StrsAre va xs) (hY : StrsAre vb ys)
    (ret : ∀ h tk, Fr h₀ L h m → News h₀ L h news → Q (.ref (if lexS ys xs then b else a)) { s with heap := h, toks := tk }) : wpAny (model prog w) A (call (.builtin "min") [.ref l]) Q E s := by
  have hname : (toString "min" ++ toString ".loop" : String) = "min.loop" := by decide
  have hl : s.heap.IsList l #[.ref a, .ref b] := ⟨_, (N _ hm).1, rfl, _, rfl⟩
  have hlt : l < s.heap.objs.size := Heap.lt_size (N _ hm).1
  refine call_function_tree PySem.F.kind_min PySem.F.plain_min PySem.F.entry_min (PySem.F.args_min1 _) ?_
  show wpAny _ A.in1 (Builtin.Builtins.bindParams "min" ["key", "default"] 0 ⟨[], []⟩ >>= _) _ _ s
  refine wpAny_bind (wpAny_of_eq (show Builtin.Builtins.bindParams "min" ["key", "default"] 0 ⟨[], []⟩ = pure [none, none] from rfl) ?_)
  refine wpAny_bind (wpAny_pure ?_)
  refine wpAny_bind (wpAny_pyIter_list hl ?_)
  refine wpAny_bind (wpAny_newObj_type ?_)
  rw [hname]
  have W := Walks.list (prog := prog) (w := w) (A := A.in1) hh s.heap.objs.size l (Nat.ne_of_lt hlt) #[.ref a, .ref b]
  have hS0 : ((s.heap.push { cls := .type "list_iterator", data := .fields #[.ref l, .int 0 0] }).push { cls := .type "list", data := .seq ([] : List Value).toArray }).get? (s.heap.push { cls := .type "list_iterator", data := .fields #[.ref l, .int 0 0] }).objs.size = some { cls := .type "list", data := .seq ([] : List Value).toArray } := Heap.get?_push_size _ rfl
  have hSz : (s.heap.push { cls := .type "list_iterator", data := .fields #[.ref l, .int 0 0] }).objs.size = s.heap.objs.size + 1 := Heap.size_push ..
  have hI0 : (s.heap.push { cls := .type "list_iterator", data := .fields #[.ref l, .int 0 0] }).get? s.heap.objs.size = some _ := Heap.get?_push_size _ rfl
  have hk0 : ∀ b o, s.heap.get? b = some o → ((s.heap.push { cls := .type "list_iterator", data := .fields #[.ref l, .int 0 0] }).push { cls := .type "list", data := .seq ([] : List Value).toArray }).get? b = some o := fun b o e => Heap.get?_push_of_some _ (Heap.get?_push_of_some _ e)
  have hst0 : ((s.heap.push { cls := .type "list_iterator", data := .fields #[.ref l, .int 0 0] }).push { cls := .type "list", data := .seq ([] : List Value).toArray }).IsListIter s.heap.objs.size l 0 := ⟨_, Heap.get?_push_of_some _ hI0, rfl, rfl⟩
  show wpAny _ _ (again (.builtin "min.loop" ⟨[.ref s.heap.objs.size, .none, .ref (s.heap.push { cls := .type "list_iterator", data := .fields #[.ref l, .int 0 0] }).objs.size], []⟩)) _ _ { s with heap := (s.heap.push { cls := .type "list_iterator", data := .fields #[.ref l, .int 0 0] }).push { cls := .type "list", data := .seq ([] : List Value).toArray } }
  generalize (s.heap.push { cls := .type "list_iterator", data := .fields #[.ref l, .int 0 0] }).push { cls := .type "list", data := .seq ([] : List Value).toArray } = H2 at *
  generalize (s.heap.push { cls := .type "list_iterator", data := .fields #[.ref l, .int 0 0] }).objs.size = S at *
  have hSI : S ≠ s.heap.objs.size := by rw [hSz]; exact Nat.succ_ne_self _
  have old1 : ∀ b o, s.heap.get? b = some o → b ≠ s.heap.objs.size := fun b o e => Nat.ne_of_lt (Heap.lt_size e)
  have old2 : ∀ b o, s.heap.get? b = some o → b ≠ S := fun b o e => by rw [hSz]; exact Nat.ne_of_lt (Nat.lt_succ_of_lt (Heap.lt_size e))
  have lst : ∀ h' : Heap, (∀ b o, s.heap.get? b = some o → h'.get? b = some o) → h'.IsList l #[.ref a, .ref b] := fun h' hk => hl.at fun o e => hk _ o e
  have led : ∀ (h' : Heap), (∀ b o, s.heap.get? b = some o → h'.get? b = some o) → Fr h₀ L h' m ∧ News h₀ L h' news := fun h' hk => ⟨F.keeps hk, N.grown hk⟩
  have keep1 : ∀ (h h' : Heap), (∀ b o, s.heap.get? b = some o → h.get? b = some o) → (∀ b o, b ∉ [s.heap.objs.size] → h.get? b = some o → h'.get? b = some o) → ∀ b o, s.heap.get? b = some o → h'.get? b = some o := fun h h' k1 k2 b o e => k2 b o (by simpa using old1 b o e) (k1 b o e)
  have keep2 : ∀ (h h' : Heap), (∀ b o, s.heap.get? b = some o → h.get? b = some o) → (∀ b o, b ≠ S → h.get? b = some o → h'.get? b = some o) → ∀ b o, s.heap.get? b = some o → h'.get? b = some o := fun h h' k1 k2 b o e => k2 b o (old2 b o e) (k1 b o e)
  have itk : ∀ (i : Nat) (h h' : Heap), h.IsListIter s.heap.objs.size l i → (∀ b o, b ≠ S → h.get? b = some o → h'.get? b = some o) → h'.IsListIter s.heap.objs.size l i := fun i h h' x k => x.at fun o e => k _ o (Ne.symm hSI) e
  refine wpAny_pure ⟨plainId_quiet PySem.F.plain_min_loop _, min_first (v := .ref a) hS0 fun E1 => W.item 0 _ _ _ (by simp) ⟨hst0, lst _ hk0⟩ fun v1 h1 t1 hv1 hst1 hk1 => ⟨by simpa using hv1.symm, hk1 _ _ (by simpa using hSI) hS0, fun h2 c2 hS2 hk2 => ?_⟩⟩
  have K1 := keep1 _ _ hk0 hk1
  have K2 := keep2 _ _ K1 hk2
  refine min_turn (o := .ref a) (v := .ref b) (b := lexS ys xs) hS2 fun E2 => W.item 1 _ _ _ (by simp) ⟨itk _ _ _ hst1.1 hk2, lst _ K2⟩ fun v3 h3 t3 hv3 hst3 hk3 => ⟨by simpa using hv3.symm, hk3 _ _ (by simpa using hSI) hS2, ?_, fun h4 c4 hS4 hk4 => ?_⟩
  · intro E3 Q3 hq
    have K3 := keep1 _ _ K2 hk3
    have N3 := (led _ K3).2
    exact list_lt (s := { s with heap := h3, toks := t3 }) (N3 _ hb).1 rfl rfl (N3 _ ha).1 rfl rfl hY hX (by show A.units + 1 < cLine; omega) hq
  · have K3 := keep1 _ _ K2 hk3
    have K4 := keep2 _ _ K3 hk4
    have e4 : (if lexS ys xs = true then (#[.ref b, .ref b] : Array Value) else #[.ref a, .ref a]) = #[.ref (if lexS ys xs = true then b else a), .ref (if lexS ys xs = true then b else a)] := by split <;> rfl
    rw [e4] at hS4
    refine min_end hS4 fun E5 => W.done _ _ _ ⟨itk _ _ _ hst3.1 hk4, lst _ K4⟩ fun h5 t5 hk5 => ⟨rfl, hk5 _ _ (by simpa using hSI) hS4, fun h6 hk6 => ?_⟩
    have K6 := keep2 _ _ (keep1 _ _ K4 hk5) hk6
    exact ret h6 t5 (led _ K6).1 (led _ K6).2
theorem call_max2 {l a b : Addr} {k ka kb : Nat} {va vb : List Value} {xs ys : List Str} {Q : Value → Shared → Prop} (hh : A.handled = none) (hu : A.units + 5 < cLine) (F : Fr h₀ L s.heap m) (N : News h₀ L s.heap news)
    (hm : (l, listOf #[.ref a, .ref b] k) ∈ news) (ha : (a, listOf va.toArray ka) ∈ news) (hb : (b, listOf vb.toArray kb) ∈ news) (hX : StrsAre va xs) (hY : StrsAre vb ys)
    (ret : ∀ h tk, Fr h₀ L h m → News h₀ L h news → Q (.ref (if lexS xs ys then b else a)) { s with heap := h, toks := tk }) : wpAny (model prog w) A (call (.builtin "max") [.ref l]) Q E s := by
  have hname : (toString "max" ++ toString ".loop" : String) = "max.loop" := by decide
  have hl : s.heap.IsList l #[.ref a, .ref b] := ⟨_, (N _ hm).1, rfl, _, rfl⟩
  have hlt : l < s.heap.objs.size := Heap.lt_size (N _ hm).1
  refine call_function_tree PySem.F.kind_max PySem.F.plain_max PySem.F.entry_max (PySem.F.args_max1 _) ?_
  show wpAny _ A.in1 (Builtin.Builtins.bindParams "max" ["key", "default"] 0 ⟨[], []⟩ >>= _) _ _ s
  refine wpAny_bind (wpAny_of_eq (show Builtin.Builtins.bindParams "max" ["key", "default"] 0 ⟨[], []⟩ = pure [none, none] from rfl) ?_)
  refine wpAny_bind (wpAny_pure ?_)
  refine wpAny_bind (wpAny_pyIter_list hl ?_)
  refine wpAny_bind (wpAny_newObj_type ?_)
  rw [hname]
  have W := Walks.list (prog := prog) (w := w) (A := A.in1) hh s.heap.objs.size l (Nat.ne_of_lt hlt) #[.ref a, .ref b]
  have hS0 : ((s.heap.push { cls := .type "list_iterator", data := .fields #[.ref l, .int 0 0] }).push { cls := .type "list", data := .seq ([] : List Value).toArray }).get? (s.heap.push { cls := .type "list_iterator", data := .fields #[.ref l, .int 0 0] }).objs.size = some { cls := .type "list", data := .seq ([] : List Value).toArray } := Heap.get?_push_size _ rfl
  have hSz : (s.heap.push { cls := .type "list_iterator", data := .fields #[.ref l, .int 0 0] }).objs.size = s.heap.objs.size + 1 := Heap.size_push ..
  have hI0 : (s.heap.push { cls := .type "list_iterator", data := .fields #[.ref l, .int 0 0] }).get? s.heap.objs.size = some _ := Heap.get?_push_size _ rfl
  have hk0 : ∀ b o, s.heap.get? b = some o → ((s.heap.push { cls := .type "list_iterator", data := .fields #[.ref l, .int 0 0] }).push { cls := .type "list", data := .seq ([] : List Value).toArray }).get? b = some o := fun b o e => Heap.get?_push_of_some _ (Heap.get?_push_of_some _ e)
  have hst0 : ((s.heap.push { cls := .type "list_iterator", data := .fields #[.ref l, .int 0 0] }).push { cls := .type "list", data := .seq ([] : List Value).toArray }).IsListIter s.heap.objs.size l 0 := ⟨_, Heap.get?_push_of_some _ hI0, rfl, rfl⟩
  show wpAny _ _ (again (.builtin "max.loop" ⟨[.ref s.heap.objs.size, .none, .ref (s.heap.push { cls := .type "list_iterator", data := .fields #[.ref l, .int 0 0] }).objs.size], []⟩)) _ _ { s with heap := (s.heap.push { cls := .type "list_iterator", data := .fields #[.ref l, .int 0 0] }).push { cls := .type "list", data := .seq ([] : List Value).toArray } }
  generalize (s.heap.push { cls := .type "list_iterator", data := .fields #[.ref l, .int 0 0] }).push { cls := .type "list", data := .seq ([] : List Value).toArray } = H2 at *
  generalize (s.heap.push { cls := .type "list_iterator", data := .fields #[.ref l, .int 0 0] }).objs.size = S at *
  have hSI : S ≠ s.heap.objs.size := by rw [hSz]; exact Nat.succ_ne_self _
  have old1 : ∀ b o, s.heap.get? b = some o → b ≠ s.heap.objs.size := fun b o e => Nat.ne_of_lt (Heap.lt_size e)
  have old2 : ∀ b o, s.heap.get? b = some o → b ≠ S := fun b o e => by rw [hSz]; exact Nat.ne_of_lt (Nat.lt_succ_of_lt (Heap.lt_size e))
  have lst : ∀ h' : Heap, (∀ b o, s.heap.get? b = some o → h'.get? b = some o) → h'.IsList l #[.ref a, .ref b] := fun h' hk => hl.at fun o e => hk _ o e
  have led : ∀ (h' : Heap), (∀ b o, s.heap.get? b = some o → h'.get? b = some o) → Fr h₀ L h' m ∧ News h₀ L h' news := fun h' hk => ⟨F.keeps hk, N.grown hk⟩
  have keep1 : ∀ (h h' : Heap), (∀ b o, s.heap.get? b = some o → h.get? b = some o) → (∀ b o, b ∉ [s.heap.objs.size] → h.get? b = some o → h'.get? b = some o) → ∀ b o, s.heap.get? b = some o → h'.get? b = some o := fun h h' k1 k2 b o e => k2 b o (by simpa using old1 b o e) (k1 b o e)
  have keep2 : ∀ (h h' : Heap), (∀ b o, s.heap.get? b = some o → h.get? b = some o) → (∀ b o, b ≠ S → h.get? b = some o → h'.get? b = some o) → ∀ b o, s.heap.get? b = some o → h'.get? b = some o := fun h h' k1 k2 b o e => k2 b o (old2 b o e) (k1 b o e)
  have itk : ∀ (i : Nat) (h h' : Heap), h.IsListIter s.heap.objs.size l i → (∀ b o, b ≠ S → h.get? b = some o → h'.get? b = some o) → h'.IsListIter s.heap.objs.size l i := fun i h h' x k => x.at fun o e => k _ o (Ne.symm hSI) e
  refine wpAny_pure ⟨plainId_quiet PySem.F.plain_max_loop _, max_first (v := .ref a) hS0 fun E1 => W.item 0 _ _ _ (by simp) ⟨hst0, lst _ hk0⟩ fun v1 h1 t1 hv1 hst1 hk1 => ⟨by simpa using hv1.symm, hk1 _ _ (by simpa using hSI) hS0, fun h2 c2 hS2 hk2 => ?_⟩⟩
  have K1 := keep1 _ _ hk0 hk1
  have K2 := keep2 _ _ K1 hk2
  refine max_turn (o := .ref a) (v := .ref b) (b := lexS xs ys) hS2 fun E2 => W.item 1 _ _ _ (by simp) ⟨itk _ _ _ hst1.1 hk2, lst _ K2⟩ fun v3 h3 t3 hv3 hst3 hk3 => ⟨by simpa using hv3.symm, hk3 _ _ (by simpa using hSI) hS2, ?_, fun h4 c4 hS4 hk4 => ?_⟩
  · intro E3 Q3 hq
    have K3 := keep1 _ _ K2 hk3
    have N3 := (led _ K3).2
    exact list_gt (s := { s with heap := h3, toks := t3 }) (N3 _ hb).1 rfl rfl (N3 _ ha).1 rfl rfl hY hX (by show A.units + 1 < cLine; omega) hq
  · have K3 := keep1 _ _ K2 hk3
    have K4 := keep2 _ _ K3 hk4
    have e4 : (if lexS xs ys = true then (#[.ref b, .ref b] : Array Value) else #[.ref a, .ref a]) = #[.ref (if lexS xs ys = true then b else a), .ref (if lexS xs ys = true then b else a)] := by split <;> rfl
    rw [e4] at hS4
    refine max_end hS4 fun E5 => W.done _ _ _ ⟨itk _ _ _ hst3.1 hk4, lst _ K4⟩ fun h5 t5 hk5 => ⟨rfl, hk5 _ _ (by simpa using hSI) hS4, fun h6 hk6 => ?_⟩
    have K6 := keep2 _ _ (keep1 _ _ K4 hk5) hk6
    exact ret h6 t5 (led _ K6).1 (led _ K6).2
end
end Mine
namespace Mine
theorem natlist_asymm {a b : List Nat} (h : a < b) : ¬ b < a := List.lt_asymm h
theorem lexS_asymm : ∀ {x y : List Str}, lexS x y = true → lexS y x = false
  | [], [], h => by simp [lexS] at h
  | [], _ :: _, _ => by simp [lexS]
  | _ :: _, [], h => by simp [lexS] at h
  | a :: x, b :: y, h => by
    rw [lexS] at h ⊢
    by_cases e : a = b
    · subst e
      rw [if_pos rfl] at h ⊢
      exact lexS_asymm h
    · rw [if_neg e] at h
      rw [if_neg (Ne.symm e)]
      have := natlist_asymm (of_decide_eq_true h)
      simpa using this
theorem lexS_prefix : ∀ {x y : List Str} {i : Nat}, lexS y x = false → x.take i = y.take i → i < x.length → i < y.length
  | [], _, i, _, _, h => absurd h (Nat.not_lt_zero _)
  | a :: x, [], i, hl, _, _ => by simp [lexS] at hl
  | a :: x, b :: y, 0, _, _, _ => Nat.succ_pos _
  | a :: x, b :: y, i + 1, hl, ht, h => by
    simp only [List.take_succ_cons, List.cons.injEq] at ht
    rw [lexS, if_pos ht.1.symm] at hl
    have := lexS_prefix hl ht.2 (Nat.lt_of_succ_lt_succ h)
    simpa using this
theorem lcp_comm : ∀ (x y : List Str), lcpN x y = lcpN y x
  | [], [] => rfl
  | [], _ :: _ => by simp [lcpN]
  | _ :: _, [] => by simp [lcpN]
  | a :: x, b :: y => by
    rw [lcpN, lcpN, lcp_comm x y]
    by_cases e : a = b
    · rw [if_pos e, if_pos e.symm]
    · rw [if_neg e, if_neg (Ne.symm e)]
theorem lcp_take : ∀ (x y : List Str), x.take (lcpN x y) = y.take (lcpN x y)
  | [], [] => rfl
  | [], _ :: _ => by simp [lcpN]
  | _ :: _, [] => by simp [lcpN]
  | a :: x, b :: y => by
    rw [lcpN]
    by_cases e : a = b
    · rw [if_pos e, e, List.take_succ_cons, List.take_succ_cons, lcp_take x y]
    · rw [if_neg e]; rfl
theorem lcp_all {x y : List Str} (h : x.take x.length = y.take x.length) : lcpN x y = x.length := by
  induction x generalizing y with
  | nil => simp [lcpN]
  | cons a x ih =>
    cases y with
    | nil => simp at h
    | cons b y =>
      simp only [List.length_cons, List.take_succ_cons, List.cons.injEq] at h
      rw [lcpN, if_pos h.1, ih h.2]; rfl
theorem lcp_at {x y : List Str} {i : Nat} {a b : Str} (ht : x.take i = y.take i) (ha : x[i]? = some a) (hb : y[i]? = some b) (hne : a ≠ b) : lcpN x y = i := by
  induction i generalizing x y with
  | zero =>
    cases x with
    | nil => simp at ha
    | cons c x =>
      cases y with
      | nil => simp at hb
      | cons d y =>
        simp only [List.getElem?_cons_zero, Option.some.injEq] at ha hb
        subst ha hb
        rw [lcpN, if_neg hne]
  | succ i ih =>
    cases x with
    | nil => simp at ha
    | cons c x =>
      cases y with
      | nil => simp at hb
      | cons d y =>
        simp only [List.take_succ_cons, List.cons.injEq] at ht
        simp only [List.getElem?_cons_succ] at ha hb
        rw [lcpN, if_pos ht.1, ih ht.2 ha hb]
theorem take_snoc {x y : List Str} {i : Nat} {a : Str} (ht : x.take i = y.take i) (ha : x[i]? = some a) (hb : y[i]? = some a) : x.take (i + 1) = y.take (i + 1) := by
  rw [List.take_add_one, List.take_add_one, ht, ha, hb]
theorem wt_filter (p : Str → Bool) (l : List Str) : wt (l.filter p) ≤ wt l := by
  induction l with
  | nil => exact Nat.le_refl _
  | cons a l ih =>
    have h1 : wt (a :: l) = wt [a] + wt l := wt_append [a] l
    rw [List.filter_cons]
    split
    · have h2 : wt (a :: l.filter p) = wt [a] + wt (l.filter p) := wt_append [a] _
      omega
    · omega
theorem wt_take (l : List Str) (n : Nat) : wt (l.take n) ≤ wt l := by
  have := wt_append (l.take n) (l.drop n)
  rw [List.take_append_drop] at this; omega
theorem pick2 {news : List (Addr × Obj)} {h₀ h : Heap} {L : Addr} (N : News h₀ L h news) {a b : Addr} {va vb : List Value} {xs ys : List Str} (hma : (a, LCg.lst va) ∈ news) (hmb : (b, LCg.lst vb) ∈ news)
    (hX : StrsAre va xs) (hY : StrsAre vb ys) :
    ∃ A1 v1 p1 A2 v2 p2, (if lexS ys xs = true then b else a) = A1 ∧ (if lexS xs ys = true then b else a) = A2 ∧ (A1, LCg.lst v1) ∈ news ∧ StrsAre v1 p1 ∧
      (A2, LCg.lst v2) ∈ news ∧ StrsAre v2 p2 ∧ lexS p2 p1 = false ∧ p1.take (lcpN p1 p2) = xs.take (lcpN xs ys) ∧ p1.length ≤ xs.length + ys.length ∧ wt p1 ≤ wt xs + wt ys := by
  cases h1 : lexS ys xs with
  | true =>
    have h2 := lexS_asymm h1
    refine ⟨b, vb, ys, a, va, xs, rfl, by rw [h2]; rfl, hmb, hY, hma, hX, h2, ?_, by omega, by omega⟩
    rw [lcp_comm ys xs, lcp_take]
  | false =>
    cases h2 : lexS xs ys with
    | true => exact ⟨a, va, xs, b, vb, ys, rfl, rfl, hma, hX, hmb, hY, h1, rfl, by omega, by omega⟩
    | false =>
      have e : xs = ys := by
        clear hX hY hma hmb
        induction xs generalizing ys with
        | nil => cases ys with
          | nil => rfl
          | cons b y => simp [lexS] at h2
        | cons c xs ih => cases ys with
          | nil => simp [lexS] at h1
          | cons d ys =>
            rw [lexS] at h1 h2
            by_cases e : c = d
            · subst e
              rw [if_pos rfl] at h1 h2
              rw [ih h1 h2]
            · rw [if_neg (Ne.symm e)] at h1
              rw [if_neg e] at h2
              have h3 := of_decide_eq_false h1
              have h4 := of_decide_eq_false h2
              have h5 : c.cps.toList = d.cps.toList := List.le_antisymm (by simpa using h3) (by simpa using h4)
              exact absurd (by cases c; cases d; simp_all) e
      subst e
      refine ⟨a, va, xs, a, va, xs, rfl, rfl, hma, hX, hma, hX, h1, rfl, by omega, by omega⟩
end Mine
namespace Mine
theorem top_off_A18 : True := by
  w_top off
  trivial
local macro_rules | `(tactic| ktr_unf) => `(tactic| repeat' (first | (k_unfold; (try dsimp only)) | (k_end; wrow_close) | ((fail_if_success (with_reducible show LCg.CompEnd _ _ _ _ _ _ _ _ _ _ _ _ _ _)); (fail_if_success (with_reducible show LCt.CompSrcT _ _ _ _ _ _ _ _ _ _ _ _ _ _ _)); (fail_if_success (with_reducible show LCg.CompSrc _ _ _ _ _ _ _ _ _ _ _ _ _ _)); (fail_if_success (with_reducible show wpAny _ _ (exec (Stmt.While _ _ _ _) _) _ _ _)); (fail_if_success (with_reducible show wpAny _ _ (exec (Stmt.For _ _ _ _ _) _) _ _ _)); (fail_if_success (with_reducible show wpAny _ _ (pyIter (Value.ref _)) _ _ _)); walk1) | ((fail_if_success (with_reducible show LCg.CompEnd _ _ _ _ _ _ _ _ _ _ _ _ _ _)); (fail_if_success (with_reducible show LCt.CompSrcT _ _ _ _ _ _ _ _ _ _ _ _ _ _ _)); (fail_if_success (with_reducible show LCg.CompSrc _ _ _ _ _ _ _ _ _ _ _ _ _ _)); (fail_if_success (with_reducible show wpAny _ _ (exec (Stmt.While _ _ _ _) _) _ _ _)); (fail_if_success (with_reducible show wpAny _ _ (exec (Stmt.For _ _ _ _ _) _) _ _ _)); (fail_if_success (with_reducible show wpAny _ _ (pyIter (Value.ref _)) _ _ _)); dsimp only; walk1) | (leave1; walk_say "STEP leave1"; try dsimp only) | fail "no step"))
local macro_rules | `(tactic| k_all) => `(tactic| first | assumption | exact allLt_ne (by assumption))
local macro_rules | `(tactic| walk_at "call builtin:list.append") => `(tactic| (k_here; (with_reducible show wpAny _ _ (call (Value.builtin _) [Value.ref _, _]) _ _ _); k_dflt (refine' hot_append ?F ?N ?U ?z ?_; (case F => k_asm); (case N => k_asm); (case U => k_upd); (case z => first | assumption | omega | (simp only [List.length_append, List.length_cons, List.length_nil]; omega)); k_whole); intro h' F' N'; (try k_sweep)))
local macro_rules | `(tactic| walk_at "truthy ref") => `(tactic| (k_here; k_dflt (refine' hot_truthy ?N ?m ?z ?_; (case N => k_asm); (case m => k_mem); (case z => first | assumption | omega); k_whole)))
local macro_rules | `(tactic| walk_at "subscriptTail Name UnaryOp ref int") => `(tactic| (k_here; (with_reducible show wpAny _ _ (subscriptTail _ _ (Value.ref _) (Value.int _ _)) _ _ _); (with_unfolding_all refine' hot_lastS ?N ?m ?S ?e ?_ ?r; (case N => k_asm); (case m => k_mem); (case S => assumption); (case e => assumption); (case r => with_unfolding_all rfl); k_whole); intro y8 t8 hy8 hz8))
local macro_rules | `(tactic| walk_at "call builtin:list.pop") => `(tactic| (k_here; (with_reducible show wpAny _ _ (call (Value.builtin _) [Value.ref _]) _ _ _); k_dflt (refine' hot_popS ?F ?N ?U ?z ?S ?e ?_; (case F => k_asm); (case N => k_asm); (case U => k_upd); (case z => first | assumption | omega); (case S => assumption); (case e => assumption); k_whole); intro h' y8 t8 F' N'; (try k_sweep)))
local macro_rules | `(tactic| walk_at "call builtin:str.join") => `(tactic| (k_here; (with_reducible show wpAny _ _ (call (Value.builtin _) [Value.str _ _, Value.ref _]) _ _ _); k_dflt (refine' hot_join ?N ?m ?c ?d ?S ?w ?o ?_; (case N => k_asm); (case m => k_mem); (case c => rfl); (case d => rfl); (case S => assumption); (case w => assumption); (case o => decide); k_whole); intro t8 k8 hj8))
local macro_rules | `(tactic| walk_at "subscriptTail Name Name ref int") => `(tactic| (k_here; (with_reducible show wpAny _ _ (subscriptTail _ _ (Value.ref _) (Value.int _ _)) _ _ _); (with_unfolding_all refine' hot_itemS ?N ?m ?c ?d ?S ?a ?b ?x ?_ ?r; (case N => k_asm); (case m => k_mem); (case c => rfl); (case d => rfl); (case S => assumption); (case a => omega); (case b => omega); (case x => omega); (case r => with_unfolding_all rfl); k_whole); intro y8 t8 hy8 hz8))
local macro_rules | `(tactic| walk_at "subscriptTail Name Constant ref int") => `(tactic| (k_here; (with_reducible show wpAny _ _ (subscriptTail _ _ (Value.ref _) (Value.int _ _)) _ _ _); (with_unfolding_all refine' hot_itemS ?N ?m ?c ?d ?S ?a ?b ?x ?_ ?r; (case N => k_asm); (case m => k_mem); (case c => rfl); (case d => rfl); (case S => assumption); (case a => omega); (case b => omega); (case x => omega); (case r => with_unfolding_all rfl); k_whole); intro y8 t8 hy8 hz8))
local macro_rules | `(tactic| walk_at "subscriptTail Name Slice ref ref") => `(tactic| (k_here; (with_reducible show wpAny _ _ (subscriptTail _ (PySem.Expr.Slice _ _ none _) (Value.ref _) (Value.ref _)) _ _ _); k_dflt (refine' hot_slice ?F ?N ?m ?c ?d ?p ?q ?_ ?s ?t ?z; (case F => k_asm); (case N => k_asm); (case m => k_mem); (case c => exact rfl); (case d => exact rfl); (case p => kmk_part); (case q => kmk_part); (case s => with_unfolding_all rfl); (case t => kmk_pure); (case z => omega)); intro D' h' F' N' l1; (try k_lt l1); (try k_sweep)))
local macro_rules | `(tactic| walk_at "subscriptTail Name Slice ref ref") => `(tactic| (k_here; (with_reducible show wpAny _ _ (subscriptTail _ (PySem.Expr.Slice none none (some _) _) (Value.ref _) (Value.ref _)) _ _ _); k_dflt (refine' hot_rev ?F ?N ?m ?c ?d ?p ?_ ?s ?t ?z; (case F => k_asm); (case N => k_asm); (case m => k_mem); (case c => exact rfl); (case d => exact rfl); (case p => exact IsPart.int _ _); (case s => with_unfolding_all rfl); (case t => kmk_pure); (case z => omega)); intro D' h' F' N' l1; (try k_lt l1); (try k_sweep)))
local macro_rules | `(tactic| walk_at "call ref") => `(tactic| (k_here; k_dflt (refine' fspath_c ?B ?F ?X ?N ?T ?hf ?hk ?hd ?hu  ?_; (case B => k_asm); (case F => k_asm); (case X => k_asm); (case N => k_asm); (case T => k_asm); (case hf => exact rfl); (case hk => exact rfl); (case hd => ktr_room); (case hu => ktr_units);  k_whole; intro t9 h9 tk9 F9 N9; (try dsimp only); (try k_fold))))
local macro_rules | `(tactic| walk_at "call ref") => `(tactic| (k_here; k_dflt (refine' getsep_c ?B ?F ?X ?N ?T ?hf ?hk ?hd ?hu  ?_; (case B => k_asm); (case F => k_asm); (case X => k_asm); (case N => k_asm); (case T => k_asm); (case hf => exact rfl); (case hk => exact rfl); (case hd => ktr_room); (case hu => ktr_units);  k_whole; intro t9 h9 tk9 F9 N9; (try dsimp only); (try k_fold))))
local macro_rules | `(tactic| walk_at "call type:map") => `(tactic| (k_here; (with_reducible show wpAny _ _ (call (Value.type _) [Value.ref _, Value.ref _]) _ _ _); k_dflt (refine' call_map_2 ?F ?N ?l ?_; (case F => k_asm); (case N => k_asm); (case l => is_list); k_whole); intro Z9 T9 I9 h' F' N' l1 l2 l3; (try dsimp only)))
local macro_rules | `(tactic| walk_at "exec Try") => `(tactic| ((with_reducible show wpAny _ _ (exec (Stmt.Try _ (_ :: _) _ [] _) _) _ _ _); refine wpAny_Try_except ?_))
local macro_rules | `(tactic| walk_at "call builtin:min") => `(tactic| (k_here; (with_reducible show wpAny _ _ (call (Value.builtin _) [Value.ref _]) _ _ _); k_dflt (refine' call_min2 ?hh ?hu ?F ?N ?m ?a ?b ?X ?Y ?_; (case hh => exact rfl); (case F => k_asm); (case N => k_asm); (case m => k_mem); (case a => k_mem); (case b => k_mem); (case X => assumption); (case Y => assumption); (case hu => ktr_units); k_whole); intro h9 tk9 F9 N9; (try dsimp only)))
local macro_rules | `(tactic| walk_at "call builtin:max") => `(tactic| (k_here; (with_reducible show wpAny _ _ (call (Value.builtin _) [Value.ref _]) _ _ _); k_dflt (refine' call_max2 ?hh ?hu ?F ?N ?m ?a ?b ?X ?Y ?_; (case hh => exact rfl); (case F => k_asm); (case N => k_asm); (case m => k_mem); (case a => k_mem); (case b => k_mem); (case X => assumption); (case Y => assumption); (case hu => ktr_units); k_whole); intro h9 tk9 F9 N9; (try dsimp only)))
local macro_rules | `(tactic| walk_at "eval ListComp") => `(tactic| (k_here; k_dflt (refine LCt.ListComp_T (F₀ := by k_asm) (by with_unfolding_all rfl) (by decide) (by rfl) (by decide) (by rfl) ?_)))
local macro_rules | `(tactic| walk_at "exec Assign cons ListComp") => `(tactic| (k_here; k_dflt (refine Assign_ListComp_G (F₀ := by k_asm) (by rfl) (by with_unfolding_all rfl) (by with_unfolding_all rfl) (by decide) (by rfl) (by decide) (by rfl) (by rfl) (by rfl) ?_)))
def keepW (c : Str) : Bool := decide (c.length ≠ 0) && decide (c ≠ Str.ofString ".")
theorem led_cut {h₀ h : Heap} {L A1 A2 : Addr} {o1 o2 : Obj} {x0 x1 x2 x3 x4 x5 x6 x7 c1 c2 q : Addr × Obj} {r : List (Addr × Obj)} (N : News h₀ L h (x0 :: x1 :: x2 :: x3 :: x4 :: x5 :: x6 :: x7 :: c1 :: c2 :: q :: r))
    (h1 : (A1, o1) ∈ x0 :: x1 :: x2 :: x3 :: x4 :: x5 :: x6 :: x7 :: c1 :: c2 :: q :: r) (h2 : (A2, o2) ∈ x0 :: x1 :: x2 :: x3 :: x4 :: x5 :: x6 :: x7 :: c1 :: c2 :: q :: r) : News h₀ L h ((A1, o1) :: (A2, o2) :: c1 :: c2 :: q :: r) := fun p hp => by
  rcases List.mem_cons.mp hp with rfl | hp
  · exact N _ h1
  · rcases List.mem_cons.mp hp with rfl | hp
    · exact N _ h2
    · exact N _ (.tail _ (.tail _ (.tail _ (.tail _ (.tail _ (.tail _ (.tail _ (.tail _ hp))))))))
theorem of_bne_false {a b : Str} (h : (a != b) = false) : a = b := by simpa using h
def keepL (x : Str) : List Str := (Txt.split x (Str.ofString "/")).filter keepW
def commonW (a b : Str) : Str := Str.ofString "/" ++ Txt.join (Str.ofString "/") ((keepL a).take (lcpN (keepL a) (keepL b)))
theorem keep_yes {c : Str} (h1 : (c.length : Int) ≠ 0) (h2 : (c != Str.ofString ".") = true) : (some c).toList.filter keepW = [c] := by
  have h3 : c.length ≠ 0 := by omega
  have h4 : c ≠ Str.ofString "." := by simpa using h2
  simp [keepW, h3, h4]
theorem keep_no1 {c : Str} (h1 : (c.length : Int) = 0) : (some c).toList.filter keepW = [] := by
  have h3 : c.length = 0 := by omega
  simp [keepW, h3]
theorem keep_no2 {c : Str} (h2 : (c != Str.ofString ".") = false) : (some c).toList.filter keepW = [] := by
  have h4 : c = Str.ofString "." := by simpa using h2
  simp [keepW, h4]
theorem len_of_split {l : List (Str × Tok)} {r : List Str} {x c : Str} (h : l.map (·.1) = r) (hl : ∀ z : Str, z ∈ l.map (fun x => x.1) → z.length ≤ x.length) (hc : c ∈ r) : c.length ≤ x.length := hl c (h ▸ hc)
theorem strs_of_split {l : List (Str × Tok)} {r : List Str} (h : l.map (·.1) = r) (hS : StrsAre (strValues l) (l.map (·.1))) : StrsAre (strValues l) r := h ▸ hS
set_option maxHeartbeats 8000000 in
theorem common_c {w : World} {p : Program} {loose : List Str} {mean : ExcName → Option Value} {mg mb : Str → Option Value} {news : List (Addr × Obj)}
  {dp un : Nat} {gd : Option (List Code)} {env : Env} {outer : List Env} {A₀ : Around} {base h₀ : Heap} {L : Addr} {m : Str → Option Value} {s : Shared} {Q E : Value → Shared → Prop} {H : Addr} {a b : Str} {ta tb : Tok} {c : Nat}
  (B : Below A₀ base outer h₀) (F : Fr h₀ L s.heap m) (X : (hd.heap_39 w.params).In h₀) (N : News h₀ L s.heap ((H, W.listOf [.str a ta, .str b tb].toArray c) :: news)) (T : Top p loose mean mg mb h₀)
  (hf : env.frame = some L) (hk : env.scope.kind = .function) (hd : dp + 2 < recursionLimit) (hu : un + 32 < cLine) (ha : a.length ≤ 1000) (hb : b.length ≤ 1000) (ha2 : Txt.startswith a (Str.ofString "/") = true) (hsa5 : (Txt.split a (Str.ofString "/")).length ≤ 1000) (hsb5 : (Txt.split b (Str.ofString "/")).length ≤ 1000) (hb2 : Txt.startswith b (Str.ofString "/") = true) (hwa : wt (Txt.split a (Str.ofString "/")) ≤ 100000) (hwb : wt (Txt.split b (Str.ofString "/")) ≤ 100000)
  (ret : ∀ t h1 tk, Fr h₀ L h1 m → News h₀ L h1 ((H, W.listOf [.str a ta, .str b tb].toArray c) :: news) → Q (.str (commonW a b) t) { s with heap := h1, toks := tk }) :
  wpAny (model Challenge.rw_ik0112_01.row.prog w) { handled := none, depth := dp, frames := some (env :: outer), guards := gd, units := un } (call (.ref 155) [.ref H]) Q E s := by
  revert X; k_fill; intro X
  refine wpAny_call ?_
  k_dflt (refine' code_defC ?k1 ?k2 ?k3 ?k4 ?k5 ?kA ?kF ?kK ?k6 ?k7 ?k8 ?k9 ?kB ?kD ?_ ?c2 ?c3 ?c4; (case kA => exact rfl); (case kF => exact hf); (case kK => exact hk); (case k1 => k_asm); (case k2 => k_asm); (case k3 => k_asm); (case k4 => k_asm); (case k5 => k_asm); (case k6 => k_is); (case k7 => k_is); (case k8 => exact Nat.lt_of_le_of_lt (Nat.le_add_right _ _) hd); (case k9 => first | exact BindsTo.of_eq rfl | (refine' kp_binds ?kx ?ke; (case kx => k_in); (case ke => exact fun _ => rfl))); (case kB => exact rfl); (case kD => decide +kernel); (case c2 => exact rfl); (case c3 => exact rfl); (case c4 => exact rfl); k_whole; intro g' L' h' tk' cells' FG' F' N' Y' B' X' T' l1; (try k_lt l1); k_cells Y'; (try simp only [List.cons_append, List.nil_append] at N'); (try dsimp only); (try k_fold))
  have hL1 := allLt_ne2 l1.2 (Nat.le_succ L')
  have hL2 := allLt_ne2 l1.2 (Nat.le_add_right L' 2)
  ktr_unf
  rename ∀ p ∈ (_ : List (Addr × Obj)), p.1 < (_ : Nat) => hlt
  have hIn := fun p hp => Nat.ne_of_lt (hlt p hp)
  have hn2 : [Value.str a ta, Value.str b tb].length ≤ 100000 := by rw [List.length_cons, List.length_cons, List.length_nil]; omega
  refine' tuple_map (vals := [.str a ta, .str b tb]) rfl hn2 ?F ?N ?l hIn ?z1 ?z2 ?fc ?_
  case F => k_asm
  case N => k_asm
  case l => k_mem
  case z1 => exact Nat.ne_of_gt (Nat.lt_trans (by assumption) (by assumption))
  case z2 => exact Nat.ne_of_gt (by assumption)
  case fc =>
    intro v hv h tk led F1 N1
    obtain ⟨x, tx, rfl⟩ : ∃ x t, v = .str x t := by
      rcases List.mem_cons.mp hv with rfl | hv
      · exact ⟨_, _, rfl⟩
      · rw [List.mem_singleton.mp hv]; exact ⟨_, _, rfl⟩
    refine fspath_same (by k_asm) F1 (by k_asm) N1 (by k_asm) rfl rfl (by ktr_room) (by ktr_units) ?_
    exact fun h1 tk1 F2 N2 => ⟨h1, tk1, rfl, rfl, F2, N2⟩
  intro T9 h9 tk9 F9 N9 l9; k_lt l9
  ktr_unf
  refine gsrc_tuple rfl (by k_asm) (by k_asm) (by k_mem) (by size_fits) ?_
  intro g'
  (show LCg.CompRest _ _ _ _ _ _ _ _ _ _ _ _ _ _ _ 2 0 [] _)
  ktr_unf
  rename News _ _ _ _ => lN9
  refine' end_new (by assumption) lN9 ?x1 ?x2 ?x3 ?off ?S ?_
  case x1 => exact lt_of_news (by assumption) (List.Mem.head _)
  case x2 => exact lt_of_news (by assumption) (List.Mem.tail _ (List.Mem.head _))
  case x3 => exact lt_of_news (by assumption) (List.Mem.tail _ (List.Mem.tail _ (List.Mem.head _)))
  case off => assumption
  case S => exact ⟨_, by k_mem, rfl, _, rfl⟩
  ktr_unf
  rename News _ _ _ _ => lN9
  refine' end_new (by assumption) lN9 ?x1 ?x2 ?x3 ?off ?S ?_
  case x1 => exact lt_of_news (by assumption) (List.Mem.head _)
  case x2 => exact lt_of_news (by assumption) (List.Mem.tail _ (List.Mem.head _))
  case x3 => exact lt_of_news (by assumption) (List.Mem.tail _ (List.Mem.tail _ (List.Mem.head _)))
  case off => assumption
  case S => exact ⟨_, by k_mem, rfl, _, rfl⟩
  ktr_unf
  refine SetComp_tuple (by k_asm) (by with_unfolding_all rfl) (by decide) (by rfl) (by decide) (by rfl) ?_
  walk1
  refine ⟨_, _, _, _, rfl, rfl, (by k_asm), (by k_asm), (by k_mem), (by simp), ?turn, ?fin⟩
  case turn =>
    intro v hv I2 oI2 C2 oC2 D2 oD2 m2 h2 tk2 E2 hC2 hm2 F2 N2
    obtain ⟨x, tx, rfl, hxs⟩ : ∃ x t, v = .str x t ∧ Txt.startswith x (Str.ofString "/") = true := by
      simp only [List.mem_toArray, List.mem_cons, List.not_mem_nil, or_false] at hv
      rcases hv with rfl | rfl
      · exact ⟨_, _, rfl, ha2⟩
      · exact ⟨_, _, rfl, hb2⟩
    ktr_unf
    all_goals (first | assumption | (rw [hxs]; done) | exact congrArg _ hxs)
  case fin =>
    intro D2 h2 tk2 F2 N2 hD2
    k_lt hD2
    rw [PyProof.Rows.assign_Tuple]
    refine wpAny_bind (wpAny_standAt (unpack_set1 rfl (N2 _ (List.Mem.head _)).1 fun h3 hk3 => ?_))
    have F3 := F2.keeps hk3
    have N3 := N2.grown hk3
    clear F2 N2
    refine assignInOrder_cons ?_
    ktr_unf
    refine gsrc_list rfl (by k_asm) (by k_asm) (by k_mem) (by size_fits) ?_
    intro g'
    (show LCg.CompRest _ _ _ _ _ _ _ _ _ _ _ _ _ _ _ 2 0 [] _)
    ktr_unf
    have hsa := strs_of_split ‹_ = Txt.split a (Str.ofString "/")› (by assumption)
    refine' LCt.CompSrcT.ledger rfl (by k_asm) (by k_asm) (by k_mem) ?hsz ?_
    case hsz => rw [List.size_toArray, hsa.len_eq, sizeLine_eq]; omega
    intro g5
    refine comp_allT (fun i ys nw => nw = _ ∧ StrsAre ys (((Txt.split a (Str.ofString "/")).take i).filter keepW)) ⟨rfl, .nil⟩ ?turnT ?finT
    case turnT =>
      rintro i ys nw hi ⟨rfl, hY⟩ v I5 oI5 C5 oC5 D5 m5 h5 tk5 E5 hv5 hC5 hx5 F5 N5 off5 ne5
      rw [List.getElem?_toArray] at hv5
      obtain ⟨c5, t5, rfl, hc5⟩ := hsa.item _ _ hv5
      have hcl : c5.length ≤ 100000 := Nat.le_trans (len_of_split ‹_ = Txt.split a (Str.ofString "/")› (by assumption) (List.mem_of_getElem? hc5)) (by omega)
      ktr_unf
      all_goals (refine' end_same (by assumption) (by assumption) off5 ?S5 ?_; (case S5 => exact Or.inr ⟨_, by k_mem, rfl, _, rfl⟩); refine ⟨rfl, ?_⟩)
      all_goals (rw [List.take_add_one, hc5, List.filter_append])
      all_goals first
        | (rw [show (some c5).toList.filter keepW = [c5] from keep_yes (by assumption) (by assumption)]; exact StrsAre.snoc hY _ _)
        | (rw [show (some c5).toList.filter keepW = [] from keep_no1 (by assumption), List.append_nil]; exact hY)
        | (rw [show (some c5).toList.filter keepW = [] from keep_no2 (by assumption), List.append_nil]; exact hY)
    case finT =>
    rintro ysa nw ⟨rfl, hYa⟩
    rw [List.size_toArray, hsa.len_eq, List.take_length] at hYa
    ktr_unf
    refine' end_new (by assumption) (by assumption) ?x1 ?x2 ?x3 ?off ?S ?_
    case x1 => k_ne
    case x2 => k_ne
    case x3 => k_ne
    case off => assumption
    case S => exact Or.inr ⟨_, by k_mem, rfl, _, rfl⟩
    ktr_unf
    have hsb := strs_of_split ‹_ = Txt.split b (Str.ofString "/")› (by assumption)
    refine' LCt.CompSrcT.ledger rfl (by k_asm) (by k_asm) (by k_mem) ?hsz ?_
    case hsz => rw [List.size_toArray, hsb.len_eq, sizeLine_eq]; omega
    intro g5
    refine comp_allT (fun i ys nw => nw = _ ∧ StrsAre ys (((Txt.split b (Str.ofString "/")).take i).filter keepW)) ⟨rfl, .nil⟩ ?turnT ?finT
    case turnT =>
      rintro i ys nw hi ⟨rfl, hY⟩ v I5 oI5 C5 oC5 D5 m5 h5 tk5 E5 hv5 hC5 hx5 F5 N5 off5 ne5
      rw [List.getElem?_toArray] at hv5
      obtain ⟨c5, t5, rfl, hc5⟩ := hsb.item _ _ hv5
      have hcl : c5.length ≤ 100000 := Nat.le_trans (len_of_split ‹_ = Txt.split b (Str.ofString "/")› (by assumption) (List.mem_of_getElem? hc5)) (by omega)
      ktr_unf
      all_goals (refine' end_same (by assumption) (by assumption) off5 ?S5 ?_; (case S5 => exact Or.inr ⟨_, by k_mem, rfl, _, rfl⟩); refine ⟨rfl, ?_⟩)
      all_goals (rw [List.take_add_one, hc5, List.filter_append])
      all_goals first
        | (rw [show (some c5).toList.filter keepW = [c5] from keep_yes (by assumption) (by assumption)]; exact StrsAre.snoc hY _ _)
        | (rw [show (some c5).toList.filter keepW = [] from keep_no1 (by assumption), List.append_nil]; exact hY)
        | (rw [show (some c5).toList.filter keepW = [] from keep_no2 (by assumption), List.append_nil]; exact hY)
    case finT =>
    rintro ysb nw ⟨rfl, hYb⟩
    rw [List.size_toArray, hsb.len_eq, List.take_length] at hYb
    ktr_unf
    refine' end_new (by assumption) (by assumption) ?x1 ?x2 ?x3 ?off ?S ?_
    case x1 => k_ne
    case x2 => k_ne
    case x3 => k_ne
    case off => assumption
    case S => exact Or.inr ⟨_, by k_mem, rfl, _, rfl⟩
    ktr_unf
    (with_reducible rename Fr _ _ _ _ => lF')
    (with_reducible rename News _ _ _ ((_, LCg.lst [Value.ref _, Value.ref _]) :: (_, LCg.lst ysb) :: (_, LCg.lst ysa) :: _) => lN')
    obtain ⟨A1, v1, p1, A2, v2, p2, e1, e2, hm1, hS1, hm2, hS2, hlx, hlcp, hp1, hwp1⟩ := pick2 lN' (a := _) (b := _) (va := ysa) (vb := ysb) (List.Mem.tail _ (List.Mem.tail _ (List.Mem.head _))) (List.Mem.tail _ (List.Mem.head _)) hYa hYb
    have F5 := know (know (know lF' (x := Str.ofString "s1") (v := .ref A1) (congrArg (fun z => some (Value.ref z)) e1)) (x := Str.ofString "s2") (v := .ref A2) (congrArg (fun z => some (Value.ref z)) e2)) (x := Str.ofString "common") (v := .ref A1) (congrArg (fun z => some (Value.ref z)) e1)
    have N5 := led_cut lN' hm1 hm2
    have hw1 := wt_filter keepW (Txt.split a (Str.ofString "/"))
    have hw2 := wt_filter keepW (Txt.split b (Str.ofString "/"))
    have hw3 : wt p1 ≤ 1000000 := by omega
    have hw4 : wt (p1.take (lcpN p1 p2)) ≤ 1000000 := Nat.le_trans (wt_take _ _) hw3
    have hf1 := List.length_filter_le keepW (Txt.split a (Str.ofString "/"))
    have hf2 := List.length_filter_le keepW (Txt.split b (Str.ofString "/"))
    have hl3 : p1.length ≤ 10000 := by omega
    clear hf1 hf2 hw1 hw2 hwp1 hp1 hwa hwb ha hb hsa5 hsb5
    have hl1 := hS1.len_eq
    have hl2 := hS2.len_eq
    have hcw : Str.ofString "/" ++ Txt.join (Str.ofString "/") (p1.take (lcpN p1 p2)) = commonW a b := by rw [hlcp]; rfl
    refine For_turns F5 ?_
    clear lF' lN'
    ktr_unf
    (with_reducible rename Fr _ _ _ _ => lF')
    (with_reducible rename News _ _ _ _ => lN')
    refine ktu_enum (vs := v1) rfl lF' lN' (List.Mem.head _) rfl rfl rfl (fun I hI => items_all (fun i m' nw => nw = _ ∧ m' (Str.ofString "common") = some (.ref A1) ∧ m' (Str.ofString "s1") = some (.ref A1) ∧ m' (Str.ofString "s2") = some (.ref A2) ∧ m' (Str.ofString "isabs") = some (.bool true) ∧ p1.take i = p2.take i) ⟨rfl, rfl, rfl, rfl, rfl, rfl⟩ ?turn ?done)
    case turn =>
      rintro i a v h tk m₁ nw₁ hx hav ⟨rfl, hk1, hk2, hk3, hk4, hk5⟩ F₁
      refine AllObj.cons fun o1 ho1 => AllObj.cons fun o2 ho2 => AllObj.nil fun N₁ => ?_
      have hi : i < v1.length := by
        have := (List.getElem?_eq_some_iff.mp hx).1
        rwa [enumItems_length] at this
      have hv1 := List.getElem?_eq_getElem hi
      obtain ⟨c5, t5, e5, hc5⟩ := hS1.item _ _ hv1
      rw [e5] at hv1
      have hx2 := enumItems_get v1 0 i hv1
      rw [hx2] at hx
      cases hx
      obtain ⟨T, tT, rfl, hT⟩ := hav
      have F₂ := know (know (know (know F₁ (x := Str.ofString "common") hk1) (x := Str.ofString "s1") hk2) (x := Str.ofString "s2") hk3) (x := Str.ofString "isabs") hk4
      clear F₁ lF' lN'
      have hi2 := lexS_prefix hlx hk5 (by omega)
      dsimp only at hT
      rw [Nat.zero_add] at hT
      simp only [List.cons_append, List.nil_append] at N₁
      ktr_unf
      · rename (_ != _) = true => hne
        rename p2[_]? = _ => hq2
        rw [Int.toNat_natCast] at hq2
        have hl := lcp_at hk5 hc5 hq2 (by simpa using hne)
        rw [hl] at hcw hw4
        rename News _ _ _ _ => lN9
        rw [sp_upto] at lN9
        refine hot_join lN9 (.head _) rfl rfl (StrsAre.take' hS1 i) hw4 (by decide) ?_
        intro t8 k8 hj8
        ktr_unf
        rw [hcw]
        refine ret _ _ _ ?ra ?rb
        case ra => k_asm
        case rb => (refine' cb_drop ?rx ?ry; (case rx => assumption); (case ry => (intro p hp; repeat (first | exact hp | exact List.Mem.head _ | refine List.Mem.tail _ ?_))))
      · rename (_ != _) = false => hne
        rename p2[_]? = _ => hq2
        rw [Int.toNat_natCast] at hq2
        rw [← of_bne_false hne] at hq2
        refine enum_end (by assumption) (by assumption) hI ⟨⟨List.Mem.head _, trivial⟩, rfl, rfl, rfl, rfl, rfl, take_snoc hk5 hc5 hq2⟩
    case done =>
      rintro m₁ nw₁ h tk ⟨rfl, hk1, hk2, hk3, hk4, hk5⟩ F₁ N₁
      have F₂ := know (know (know (know F₁ (x := Str.ofString "common") hk1) (x := Str.ofString "s1") hk2) (x := Str.ofString "s2") hk3) (x := Str.ofString "isabs") hk4
      clear F₁ lF' lN'
      rw [enumItems_length, hl1] at hk5
      rw [lcp_all hk5, List.take_length] at hcw
      ktr_unf
      rw [hcw]
      refine ret _ _ _ ?rc ?rd
      case rc => k_asm
      case rd => (refine' cb_drop ?rx ?ry; (case rx => assumption); (case ry => (intro p hp; repeat (first | exact hp | exact List.Mem.head _ | refine List.Mem.tail _ ?_))))
end Mine
namespace Mine
theorem top_off_A19 : True := by
  w_top off
  trivial
local macro_rules | `(tactic| ktr_unf) => `(tactic| repeat' (first | (k_unfold; (try dsimp only)) | (k_end; wrow_close) | ((fail_if_success (with_reducible show LCg.CompEnd _ _ _ _ _ _ _ _ _ _ _ _ _ _)); (fail_if_success (with_reducible show LCt.CompSrcT _ _ _ _ _ _ _ _ _ _ _ _ _ _ _)); (fail_if_success (with_reducible show LCg.CompSrc _ _ _ _ _ _ _ _ _ _ _ _ _ _)); (fail_if_success (with_reducible show wpAny _ _ (exec (Stmt.While _ _ _ _) _) _ _ _)); (fail_if_success (with_reducible show wpAny _ _ (exec (Stmt.For _ _ _ _ _) _) _ _ _)); (fail_if_success (with_reducible show wpAny _ _ (pyIter (Value.ref _)) _ _ _)); walk1) | ((fail_if_success (with_reducible show LCg.CompEnd _ _ _ _ _ _ _ _ _ _ _ _ _ _)); (fail_if_success (with_reducible show LCt.CompSrcT _ _ _ _ _ _ _ _ _ _ _ _ _ _ _)); (fail_if_success (with_reducible show LCg.CompSrc _ _ _ _ _ _ _ _ _ _ _ _ _ _)); (fail_if_success (with_reducible show wpAny _ _ (exec (Stmt.While _ _ _ _) _) _ _ _)); (fail_if_success (with_reducible show wpAny _ _ (exec (Stmt.For _ _ _ _ _) _) _ _ _)); (fail_if_success (with_reducible show wpAny _ _ (pyIter (Value.ref _)) _ _ _)); dsimp only; walk1) | (leave1; walk_say "STEP leave1"; try dsimp only) | fail "no step"))
local macro_rules | `(tactic| k_all) => `(tactic| first | assumption | exact allLt_ne (by assumption) | exact allLt_ne (And.right (by assumption)) | exact allLt_ne (And.right (And.right (by assumption))) | exact allLt_ne (And.right (And.right (And.right (by assumption)))) | exact allLt_ne (And.right (And.right (And.right (And.right (by assumption))))) | exact allLt_ne (And.right (And.right (And.right (And.right (And.right (by assumption)))))) | exact allLt_ne (And.right (And.right (And.right (And.right (And.right (And.right (by assumption))))))) | exact allLt_ne (And.right (And.right (And.right (And.right (And.right (And.right (And.right (by assumption)))))))) | exact allLt_ne (And.right (And.right (And.right (And.right (And.right (And.right (And.right (And.right (by assumption))))))))))
local macro_rules | `(tactic| walk_at "call builtin:list.append") => `(tactic| (k_here; (with_reducible show wpAny _ _ (call (Value.builtin _) [Value.ref _, _]) _ _ _); k_dflt (refine' hot_append ?F ?N ?U ?z ?_; (case F => k_asm); (case N => k_asm); (case U => k_upd); (case z => first | assumption | omega | (simp only [List.length_append, List.length_cons, List.length_nil]; omega)); k_whole); intro h' F' N'; (try k_sweep)))
local macro_rules | `(tactic| walk_at "truthy ref") => `(tactic| (k_here; k_dflt (refine' hot_truthy ?N ?m ?z ?_; (case N => k_asm); (case m => k_mem); (case z => first | assumption | omega); k_whole)))
local macro_rules | `(tactic| walk_at "subscriptTail Name UnaryOp ref int") => `(tactic| (k_here; (with_reducible show wpAny _ _ (subscriptTail _ _ (Value.ref _) (Value.int _ _)) _ _ _); (with_unfolding_all refine' hot_lastS ?N ?m ?S ?e ?_ ?r; (case N => k_asm); (case m => k_mem); (case S => assumption); (case e => assumption); (case r => with_unfolding_all rfl); k_whole); intro y8 t8 hy8 hz8))
local macro_rules | `(tactic| walk_at "call builtin:list.pop") => `(tactic| (k_here; (with_reducible show wpAny _ _ (call (Value.builtin _) [Value.ref _]) _ _ _); k_dflt (refine' hot_popS ?F ?N ?U ?z ?S ?e ?_; (case F => k_asm); (case N => k_asm); (case U => k_upd); (case z => first | assumption | omega); (case S => assumption); (case e => assumption); k_whole); intro h' y8 t8 F' N'; (try k_sweep)))
local macro_rules | `(tactic| walk_at "call builtin:str.join") => `(tactic| (k_here; (with_reducible show wpAny _ _ (call (Value.builtin _) [Value.str _ _, Value.ref _]) _ _ _); k_dflt (refine' hot_join ?N ?m ?c ?d ?S ?w ?o ?_; (case N => k_asm); (case m => k_mem); (case c => rfl); (case d => rfl); (case S => assumption); (case w => assumption); (case o => decide); k_whole); intro t8 k8 hj8))
local macro_rules | `(tactic| walk_at "subscriptTail Name Slice ref ref") => `(tactic| (k_here; (with_reducible show wpAny _ _ (subscriptTail _ (PySem.Expr.Slice _ _ none _) (Value.ref _) (Value.ref _)) _ _ _); k_dflt (refine' hot_slice ?F ?N ?m ?c ?d ?p ?q ?_ ?s ?t ?z; (case F => k_asm); (case N => k_asm); (case m => k_mem); (case c => exact rfl); (case d => exact rfl); (case p => kmk_part); (case q => kmk_part); (case s => with_unfolding_all rfl); (case t => kmk_pure); (case z => first | omega | (refine split_room (by assumption) ?_; omega))); intro D' h' F' N' l1; (try k_lt l1); (try k_sweep)))
local macro_rules | `(tactic| walk_at "subscriptTail Name Slice ref ref") => `(tactic| (k_here; (with_reducible show wpAny _ _ (subscriptTail _ (PySem.Expr.Slice none none (some _) _) (Value.ref _) (Value.ref _)) _ _ _); k_dflt (refine' hot_rev ?F ?N ?m ?c ?d ?p ?_ ?s ?t ?z; (case F => k_asm); (case N => k_asm); (case m => k_mem); (case c => exact rfl); (case d => exact rfl); (case p => exact IsPart.int _ _); (case s => with_unfolding_all rfl); (case t => kmk_pure); (case z => first | omega | (refine split_room (by assumption) ?_; omega))); intro D' h' F' N' l1; (try k_lt l1); (try k_sweep)))
local macro_rules | `(tactic| walk_at "binaryOp Add ref ref") => `(tactic| (k_here; (with_reducible show wpAny _ _ (binaryOp _ (Value.ref _) (Value.ref _)) _ _ _); k_dflt (refine' hot_add ?F ?N ?a ?c ?d ?b ?e ?f ?_ ?z; (case F => k_asm); (case N => k_asm); (case a => k_mem); (case c => exact rfl); (case d => exact rfl); (case b => k_mem); (case e => exact rfl); (case f => exact rfl); (case z => first | omega | (simp only [List.length_reverse, List.length_cons, List.length_nil]; omega))); intro D' h' F' N' l1; (try k_lt l1); (try k_sweep)))
local macro_rules | `(tactic| walk_at "call ref") => `(tactic| (k_here; k_dflt (refine' common_c ?B ?F ?X ?N ?T ?hf ?hk ?hd ?hu ?h1 ?h2 ?h3 ?h4 ?h5 ?h6 ?h7 ?h8 ?_; (case B => k_asm); (case F => k_asm); (case X => k_asm); (case N => k_asm); (case T => k_asm); (case hf => exact rfl); (case hk => exact rfl); (case hd => ktr_room); (case hu => ktr_units); (case h1 => omega); (case h2 => omega); (case h3 => assumption); (case h4 => omega); (case h5 => omega); (case h6 => assumption); (case h7 => omega); (case h8 => omega); k_whole; intro t9 h9 tk9 F9 N9; (try dsimp only); (try k_fold))))
local macro_rules | `(tactic| walk_at "call ref") => `(tactic| (k_here; k_dflt (refine' dirname_c ?B ?F ?X ?N ?T ?hf ?hk ?hd ?hu ?h1 ?_; (case B => k_asm); (case F => k_asm); (case X => k_asm); (case N => k_asm); (case T => k_asm); (case hf => exact rfl); (case hk => exact rfl); (case hd => ktr_room); (case hu => ktr_units); (case h1 => omega); k_whole; intro t9 h9 tk9 F9 N9; (try dsimp only); (try k_fold))))
local macro_rules | `(tactic| walk_at "call ref") => `(tactic| (k_here; k_dflt (refine' split_c ?B ?F ?X ?N ?T ?hf ?hk ?hd ?hu ?h1 ?_; (case B => k_asm); (case F => k_asm); (case X => k_asm); (case N => k_asm); (case T => k_asm); (case hf => exact rfl); (case hk => exact rfl); (case hd => ktr_room); (case hu => ktr_units); (case h1 => omega); k_whole; intro D9 t91 t92 h9 tk9 F9 N9; (try dsimp only); (try k_fold))))
local macro_rules | `(tactic| walk_at "call ref") => `(tactic| (k_here; k_dflt (refine' join_c ?B ?F ?X ?N ?T ?hf ?hk ?hd ?hu ?h1 ?h2 ?_; (case B => k_asm); (case F => k_asm); (case X => k_asm); (case N => k_asm); (case T => k_asm); (case hf => exact rfl); (case hk => exact rfl); (case hd => ktr_room); (case hu => ktr_units); (case h1 => omega); (case h2 => omega); k_whole; intro t9 h9 tk9 F9 N9; (try dsimp only); (try k_fold))))
def iterN {α : Type} (f : α → α) : Nat → α → α
  | 0, x => x
  | n + 1, x => f (iterN f n x)
def upStep (both : Str) (s : Str × Nat) : Str × Nat := if s.1 = both then s else (dirnameW s.1, s.2 + 1)
def nmStep (both : Str) (s : Str × List Str) : Str × List Str := if s.1 = both then s else (dirnameW s.1, s.2 ++ [basenameW s.1])
theorem headW_len (x : Str) : (headW x).length ≤ x.length := Txt.slice_le _ _ _
theorem basenameW_len (x : Str) : (basenameW x).length ≤ x.length := Txt.slice_le _ _ _
theorem dirnameW_len (x : Str) : (dirnameW x).length ≤ x.length := by
  have := headW_len x
  unfold dirnameW
  split
  · exact this
  · split
    · exact Nat.le_trans (len_rstripChars _ _) this
    · exact this
theorem up_len (both x : Str) : ∀ n, (iterN (upStep both) n (x, 0)).1.length ≤ x.length ∧ (iterN (upStep both) n (x, 0)).2 ≤ n
  | 0 => ⟨Nat.le_refl _, Nat.le_refl _⟩
  | n + 1 => by
    have h := up_len both x n
    have h2 := dirnameW_len (iterN (upStep both) n (x, 0)).1
    rw [iterN, upStep]
    split
    · exact ⟨h.1, Nat.le_succ_of_le h.2⟩
    · exact ⟨Nat.le_trans h2 h.1, Nat.succ_le_succ h.2⟩
theorem nm_len (both x : Str) : ∀ n, (iterN (nmStep both) n (x, [])).1.length ≤ x.length ∧ (iterN (nmStep both) n (x, [])).2.length ≤ n ∧ ∀ y ∈ (iterN (nmStep both) n (x, [])).2, y.length ≤ x.length
  | 0 => ⟨Nat.le_refl _, Nat.le_refl _, fun _ h => nomatch h⟩
  | n + 1 => by
    have h := nm_len both x n
    have h2 := dirnameW_len (iterN (nmStep both) n (x, [])).1
    have h3 := basenameW_len (iterN (nmStep both) n (x, [])).1
    rw [iterN, nmStep]
    split
    · exact ⟨h.1, Nat.le_succ_of_le h.2.1, h.2.2⟩
    · refine ⟨Nat.le_trans h2 h.1, ?_, fun y hy => ?_⟩
      · rw [List.length_append]; exact Nat.succ_le_succ h.2.1
      · rcases List.mem_append.mp hy with hy | hy
        · exact h.2.2 y hy
        · rw [List.mem_singleton.mp hy]; exact Nat.le_trans h3 h.1
theorem joinW_len (x y : Str) : (joinW x y).length ≤ x.length + 1 + y.length := by
  have h1 : (Str.ofString "/").length = 1 := by decide
  unfold joinW
  split
  · omega
  · split
    · omega
    · split
      · rw [Str.length_append]; omega
      · rw [Str.length_append, Str.length_append, h1]; omega
theorem joins_len : ∀ (l : List Str) (x : Str), (l.foldl joinW x).length ≤ x.length + wt l
  | [], x => by simp [wt]
  | a :: l, x => by
    have h := joins_len l (joinW x a)
    have h2 := joinW_len x a
    have h3 : wt (a :: l) = wt [a] + wt l := wt_append [a] l
    have h4 : wt [a] = a.length + 1 := by simp [wt]
    rw [List.foldl_cons]; omega
theorem wt_le {l : List Str} {b : Nat} (h : ∀ y ∈ l, y.length ≤ b) : wt l ≤ l.length * (b + 1) := by
  induction l with
  | nil => simp [wt]
  | cons a l ih =>
    have h3 : wt (a :: l) = wt [a] + wt l := wt_append [a] l
    have h4 : wt [a] = a.length + 1 := by simp [wt]
    have h5 := ih fun y hy => h y (.tail _ hy)
    have h6 := h a (.head _)
    rw [List.length_cons, Nat.succ_mul]; omega
def linkUps (here both : Str) : Nat := (iterN (upStep both) ((Txt.split here (Str.ofString "/")).length - 1) (here, 0)).2
def linkNames (place both : Str) : List Str := (iterN (nmStep both) ((Txt.split place (Str.ofString "/")).length - 1) (place, [])).2
def linkW (here place : Str) : Str := (List.replicate (linkUps here (commonW here place)) (Str.ofString "..") ++ (linkNames place (commonW here place)).reverse).foldl joinW (Str.ofString "")
theorem perm_link {α : Type} (p s t n u h : α) (r : List α) : ∀ x ∈ u :: p :: n :: h :: r, x ∈ p :: s :: t :: n :: u :: h :: r := by intro p hp; grind
theorem perm_link2 {α : Type} (p s u q n h : α) (r : List α) : ∀ x ∈ n :: p :: u :: h :: r, x ∈ p :: s :: u :: q :: n :: h :: r := by intro p hp; grind
theorem wt_reverse (l : List Str) : wt l.reverse = wt l := by unfold wt; rw [List.map_reverse, List.sum_reverse, List.length_reverse]
theorem perm_link3 {α : Type} (x y n q u h : α) (r : List α) : ∀ p ∈ x :: r, p ∈ x :: y :: n :: q :: u :: h :: r := by intro p hp; grind
theorem wt_mem {l : List Str} {c : Str} (h : c ∈ l) : c.length ≤ wt l := by
  induction l with
  | nil => cases h
  | cons a l ih =>
    have h3 : wt (a :: l) = wt [a] + wt l := wt_append [a] l
    have h4 : wt [a] = a.length + 1 := by simp [wt]
    rcases List.mem_cons.mp h with rfl | h
    · omega
    · have := ih h; omega
theorem sp_from1 (ws : List Value) : slicePick ws.toArray (some 1) none none = (ws.drop 1).toArray := sp_from ws 1
theorem strs_rep_snoc {ws : List Value} {n : Nat} {v : Str} (h : StrsAre ws (List.replicate n v)) (t : Tok) : StrsAre (ws ++ [.str v t]) (List.replicate (n + 1) v) := by
  rw [List.replicate_succ']; exact StrsAre.snoc h _ _
theorem strs_rev {ws : List Value} {ys : List Str} (h : StrsAre ws ys) : StrsAre ws.reverse ys.reverse := by
  induction h with
  | nil => exact .nil
  | cons y t r ih => rw [List.reverse_cons, List.reverse_cons]; exact StrsAre.snoc ih _ _
set_option maxHeartbeats 8000000 in
theorem link_c {w : World} {p : Program} {loose : List Str} {mean : ExcName → Option Value} {mg mb : Str → Option Value} {news : List (Addr × Obj)}
  {dp un : Nat} {gd : Option (List Code)} {env : Env} {outer : List Env} {A₀ : Around} {base h₀ : Heap} {L : Addr} {m : Str → Option Value} {s : Shared} {Q E : Value → Shared → Prop} {a b : Str} {ta tb : Tok}
  (B : Below A₀ base outer h₀) (F : Fr h₀ L s.heap m) (X : (hd.heap_39 w.params).In h₀) (N : News h₀ L s.heap news) (T : Top p loose mean mg mb h₀)
  (hf : env.frame = some L) (hk : env.scope.kind = .function) (hd : dp + 4 < recursionLimit) (hu : un + 200 < cLine) (ha : a.length ≤ 100) (hb : b.length ≤ 100) (ha2 : Txt.startswith a (Str.ofString "/") = true) (hb2 : Txt.startswith b (Str.ofString "/") = true)
  (ret : ∀ t h1 tk, Fr h₀ L h1 m → News h₀ L h1 news → Q (.str (linkW a b) t) { s with heap := h1, toks := tk }) :
  wpAny (model Challenge.rw_ik0112_01.row.prog w) { handled := none, depth := dp, frames := some (env :: outer), guards := gd, units := un } (call (.ref 255) [.str a ta, .str b tb]) Q E s := by
  revert X; k_fill; intro X
  refine wpAny_call ?_
  k_dflt (refine' code_def ?k1 ?k2 ?k3 ?k4 ?k5 ?kA ?kF ?kK ?k6 ?k7 ?k8 ?k9 ?kB ?_ ?c2 ?c3 ?c4 ?c5; (case kA => exact rfl); (case kF => exact hf); (case kK => exact hk); (case k1 => k_asm); (case k2 => k_asm); (case k3 => k_asm); (case k4 => k_asm); (case k5 => k_asm); (case k6 => k_is); (case k7 => k_is); (case k8 => exact Nat.lt_of_le_of_lt (Nat.le_add_right _ _) hd); (case k9 => exact BindsTo.of_eq rfl); (case c5 => decide); (case kB => exact locs rfl); (case c2 => exact rfl); (case c3 => exact rfl); (case c4 => exact rfl); k_whole; intro g' L' h' FG' F' N' B' X' T'; (try dsimp only); (try k_fold))
  have hwa : wt (Txt.split a (Str.ofString "/")) ≤ 101 := by have := split_weight a (Str.ofString "/") (by decide); unfold wt; omega
  have hwb : wt (Txt.split b (Str.ofString "/")) ≤ 101 := by have := split_weight b (Str.ofString "/") (by decide); unfold wt; omega
  have hla : (Txt.split a (Str.ofString "/")).length ≤ 101 := by unfold wt at hwa; omega
  have hlb : (Txt.split b (Str.ofString "/")).length ≤ 101 := by unfold wt at hwb; omega
  ktr_unf
  (with_reducible rename Fr _ _ _ _ => lF')
  refine For_invVF lF' rfl rfl ?_
  ktr_unf
  (with_reducible rename Fr _ _ _ _ => lF')
  (with_reducible rename News _ _ _ _ => lN')
  rename List (Str × Tok) => l
  rename List.map _ l = _ => hl
  rename StrsAre _ _ => hS
  rw [hl] at hS
  rw [sp_from1] at lN'
  have hSd := strs_drop hS 1
  generalize (strValues l).drop 1 = vs at *
  have N2 := cb_drop lN' (perm_link _ _ _ _ _ _ _)
  refine iter_list rfl (List.Mem.tail _ (List.Mem.head _)) rfl rfl lF' N2 (fun I h' S => loop_hot1 S (fun p hp => by rw [List.mem_singleton.mp hp]; exact List.Mem.head _) ?hne (fun lc i m' ws tl => tl = [] ∧ (∃ t, m' (Str.ofString "here") = some (.str (iterN (upStep (commonW a b)) i (a, 0)).1 t)) ∧ (∃ t, m' (Str.ofString "both") = some (.str (commonW a b) t)) ∧ (∃ t, m' (Str.ofString "place") = some (.str b t)) ∧ (∃ t, m' (Str.ofString "text") = some (.str (Str.ofString "") t)) ∧ m' (Str.ofString "ups") = some (.ref lc) ∧ m' (Str.ofString "names") = some (.ref _) ∧ StrsAre ws (List.replicate (iterN (upStep (commonW a b)) i (a, 0)).2 (Str.ofString ".."))) ⟨rfl, ⟨_, rfl⟩, ⟨_, rfl⟩, ⟨_, rfl⟩, ⟨_, rfl⟩, rfl, rfl, .nil⟩ ?turn ?done)
  case hne => (k_all)
  case turn =>
    rintro i v m₁ wt n tl it h tk hi hv ⟨rfl, ⟨t1, hm1⟩, ⟨t2, hm2⟩, ⟨t3, hm3⟩, ⟨t4, hm4⟩, hm5, hm6, hW⟩ ho hI hoff F₁ N₁
    have F₂ := know (know (know (know (know (know F₁ (x := Str.ofString "here") hm1) (x := Str.ofString "both") hm2) (x := Str.ofString "place") hm3) (x := Str.ofString "text") hm4) (x := Str.ofString "ups") hm5) (x := Str.ofString "names") hm6
    simp only [List.nil_append] at N₁ ho hoff
    dsimp only at hm6
    have hb1 := up_len (commonW a b) a i
    have hst : iterN (upStep (commonW a b)) (i + 1) (a, 0) = upStep (commonW a b) (iterN (upStep (commonW a b)) i (a, 0)) := rfl
    generalize iterN (upStep (commonW a b)) i (a, 0) = st at *
    obtain ⟨hx, ux⟩ := st
    dsimp only at hb1 hW hm1
    have hi2 : vs.length = (Txt.split a (Str.ofString "/")).length - 1 := by rw [hSd.len_eq, List.length_drop]
    have hwl := hW.len_eq
    rw [List.length_replicate] at hwl
    clear F₁ lF' lN'
    ktr_unf
    all_goals (show TurnEnd _ _ _ _ _ _ _)
    · rename (_ != _) = true => hq
      have e : hx ≠ commonW a b := by simpa using hq
      rw [upStep, if_neg e] at hst
      refine Hot1.intro (by assumption) (by assumption) _ _ [] (fun p hp => hp) ?_ ho ⟨rfl, ⟨_, by rw [hst]; rfl⟩, ⟨_, rfl⟩, ⟨_, rfl⟩, ⟨_, rfl⟩, rfl, rfl, by rw [hst]; exact strs_rep_snoc hW _⟩
      exact off_cons hI hoff
    · rename (_ != _) = false => hq
      have e : hx = commonW a b := by simpa using hq
      rw [upStep, if_pos e] at hst
      refine Hot1.intro (by assumption) (by assumption) _ _ [] (fun p hp => hp) ?_ ho ⟨rfl, ⟨_, by rw [hst]; rfl⟩, ⟨_, rfl⟩, ⟨_, rfl⟩, ⟨_, rfl⟩, rfl, rfl, by rw [hst]; exact hW⟩
      exact off_cons hI hoff
  case done =>
    rintro m₁ wU nU tl h tk ⟨rfl, ⟨t1, hm1⟩, ⟨t2, hm2⟩, ⟨t3, hm3⟩, ⟨t4, hm4⟩, hm5, hm6, hWU⟩ ho F₁ N₁
    dsimp only at hm6
    have F₂ := know (know (know (know (know (know F₁ (x := Str.ofString "here") hm1) (x := Str.ofString "both") hm2) (x := Str.ofString "place") hm3) (x := Str.ofString "text") hm4) (x := Str.ofString "ups") hm5) (x := Str.ofString "names") hm6
    simp only [List.nil_append] at N₁ ho
    rw [hSd.len_eq, List.length_drop] at hWU
    clear F₁ lF' lN' N2
    ktr_unf
    (with_reducible rename Fr _ _ _ _ => lF')
    refine For_invVF lF' rfl rfl ?_
    ktr_unf
    (with_reducible rename Fr _ _ _ _ => lF')
    (with_reducible rename News _ _ _ _ => lN')
    rename List (Str × Tok) => l2
    rename List.map _ l2 = _ => hl2
    rename StrsAre (strValues l2) _ => hS2
    rw [hl2] at hS2
    rw [sp_from1] at lN'
    have hSe := strs_drop hS2 1
    generalize (strValues l2).drop 1 = vs2 at *
    have N2 := cb_drop lN' (perm_link2 _ _ _ _ _ _ _)
    have hvl := hSe.len_eq
    rw [List.length_drop] at hvl
    have hwu := hWU.len_eq
    rw [List.length_replicate] at hwu
    have hul := (up_len (commonW a b) a ((Txt.split a (Str.ofString "/")).length - 1)).2
    clear hS hSd hS2 hl hl2
    refine iter_list rfl (List.Mem.tail _ (List.Mem.head _)) rfl rfl lF' N2 (fun I h' S => loop_hot1 S (fun p hp => by rw [List.mem_singleton.mp hp]; exact List.Mem.head _) ?hne2 (fun lc i m' ws tl => tl = [] ∧ (∃ t, m' (Str.ofString "place") = some (.str (iterN (nmStep (commonW a b)) i (b, [])).1 t)) ∧ (∃ t, m' (Str.ofString "both") = some (.str (commonW a b) t)) ∧ (∃ t, m' (Str.ofString "text") = some (.str (Str.ofString "") t)) ∧ m' (Str.ofString "names") = some (.ref lc) ∧ m' (Str.ofString "ups") = some (.ref _) ∧ StrsAre ws (iterN (nmStep (commonW a b)) i (b, [])).2) ⟨rfl, ⟨_, rfl⟩, ⟨_, rfl⟩, ⟨_, rfl⟩, rfl, rfl, .nil⟩ ?turn2 ?done2)
    case hne2 => (k_all)
    case turn2 =>
      rintro i v m₁ wt n tl it h tk hi hv ⟨rfl, ⟨t1, hm1⟩, ⟨t2, hm2⟩, ⟨t3, hm3⟩, hm4, hm5, hW⟩ ho hI hoff F₁ N₁
      have F₂ := know (know (know (know (know F₁ (x := Str.ofString "place") hm1) (x := Str.ofString "both") hm2) (x := Str.ofString "text") hm3) (x := Str.ofString "names") hm4) (x := Str.ofString "ups") hm5
      simp only [List.nil_append] at N₁ ho hoff
      try dsimp only at hm5
      have hb1 := nm_len (commonW a b) b i
      have hst : iterN (nmStep (commonW a b)) (i + 1) (b, []) = nmStep (commonW a b) (iterN (nmStep (commonW a b)) i (b, [])) := rfl
      generalize iterN (nmStep (commonW a b)) i (b, []) = st at *
      obtain ⟨px, nx⟩ := st
      dsimp only at hb1 hW hm1
      obtain ⟨hb2, hb3, hb4⟩ := hb1
      clear hb4
      have hwl := hW.len_eq
      clear F₁ lF' lN'
      ktr_unf
      · rename News _ _ _ _ => lN9
        have lN8 := cb_drop lN9 (fun p hp => .tail _ hp)
        clear lN9
        ktr_unf
        rename (_ != _) = true => hq
        show TurnEnd _ _ _ _ _ _ _
        have e : px ≠ commonW a b := by simpa using hq
        rw [nmStep, if_neg e] at hst
        refine Hot1.intro (by assumption) (by assumption) _ _ [] (fun p hp => hp) ?_ ho ⟨rfl, ⟨_, by rw [hst]; rfl⟩, ⟨_, rfl⟩, ⟨_, rfl⟩, rfl, rfl, by rw [hst]; exact StrsAre.snoc hW _ _⟩
        exact off_cons hI hoff
      · rename (_ != _) = false => hq
        show TurnEnd _ _ _ _ _ _ _
        have e : px = commonW a b := by simpa using hq
        rw [nmStep, if_pos e] at hst
        refine Hot1.intro (by assumption) (by assumption) _ _ [] (fun p hp => hp) ?_ ho ⟨rfl, ⟨_, by rw [hst]; rfl⟩, ⟨_, rfl⟩, ⟨_, rfl⟩, rfl, rfl, by rw [hst]; exact hW⟩
        exact off_cons hI hoff
    case done2 =>
      rintro m₁ wN nN tl h tk ⟨rfl, ⟨t1, hm1⟩, ⟨t2, hm2⟩, ⟨t3, hm3⟩, hm4, hm5, hWN⟩ ho F₁ N₁
      have F₂ := know (know (know (know (know F₁ (x := Str.ofString "place") hm1) (x := Str.ofString "both") hm2) (x := Str.ofString "text") hm3) (x := Str.ofString "names") hm4) (x := Str.ofString "ups") hm5
      simp only [List.nil_append] at N₁ ho
      try dsimp only at hm5
      rw [hvl] at hWN
      have hwn := hWN.len_eq
      obtain ⟨-, hnl, hny⟩ := nm_len (commonW a b) b ((Txt.split b (Str.ofString "/")).length - 1)
      have hwtn := wt_le hny
      clear F₁ lF' lN' N2
      clear hny hvl
      have hSA := StrsAre.append' hWU (strs_rev hWN)
      have hlk : linkW a b = (List.replicate (iterN (upStep (commonW a b)) ((Txt.split a (Str.ofString "/")).length - 1) (a, 0)).2 (Str.ofString "..") ++ (iterN (nmStep (commonW a b)) ((Txt.split b (Str.ofString "/")).length - 1) (b, [])).2.reverse).foldl joinW (Str.ofString "") := rfl
      have hww : wt (List.replicate (iterN (upStep (commonW a b)) ((Txt.split a (Str.ofString "/")).length - 1) (a, 0)).2 (Str.ofString "..") ++ (iterN (nmStep (commonW a b)) ((Txt.split b (Str.ofString "/")).length - 1) (b, [])).2.reverse) ≤ 20000 := by
        rw [wt_append, wt_rep, wt_reverse]
        have h1 : (Str.ofString "..").length = 2 := by decide
        rw [h1]
        have h5 : (iterN (nmStep (commonW a b)) ((Txt.split b (Str.ofString "/")).length - 1) (b, [])).2.length * (b.length + 1) ≤ 100 * 101 := Nat.mul_le_mul (by omega) (by omega)
        omega
      generalize hX : (List.replicate (iterN (upStep (commonW a b)) ((Txt.split a (Str.ofString "/")).length - 1) (a, 0)).2 (Str.ofString "..") ++ (iterN (nmStep (commonW a b)) ((Txt.split b (Str.ofString "/")).length - 1) (b, [])).2.reverse) = X at hSA hlk hww
      clear hX hwtn
      ktr_unf
      (with_reducible rename Fr _ _ _ _ => lF')
      refine For_invVF lF' rfl rfl ?_
      ktr_unf
      (with_reducible rename Fr _ _ _ _ => lF')
      (with_reducible rename News _ _ _ _ => lN')
      have N3 := cb_drop lN' (perm_link3 _ _ _ _ _ _ _)
      have hxl := hSA.len_eq
      refine iter_list rfl (List.Mem.head _) rfl rfl lF' N3 (fun I h' S => loop_hot0 S (fun p hp => by rw [List.mem_singleton.mp hp]; exact List.Mem.head _) (fun i m' tl => tl = [] ∧ ∃ t, m' (Str.ofString "text") = some (.str ((X.take i).foldl joinW (Str.ofString "")) t)) ⟨rfl, _, rfl⟩ ?turn3 ?done3)
      case turn3 =>
        rintro i v m₁ tl it h tk hi hv ⟨rfl, t1, hm1⟩ hoff F₁ N₁
        obtain ⟨c, tc, rfl, hc⟩ := hSA.item i v hv
        have F₂ := know F₁ (x := Str.ofString "text") hm1
        simp only [List.nil_append] at N₁ hoff
        have hnx : (X.take (i + 1)).foldl joinW (Str.ofString "") = joinW ((X.take i).foldl joinW (Str.ofString "")) c := by
          rw [List.take_add_one, hc, List.foldl_append]; rfl
        have hl5 := joins_len (X.take i) (Str.ofString "")
        have hl6 := wt_take X i
        have hl7 : (Str.ofString "").length = 0 := by decide
        have hcl : c.length ≤ 20000 := by
          have := wt_mem (List.mem_of_getElem? hc)
          omega
        rw [hl7] at hl5
        generalize (X.take i).foldl joinW (Str.ofString "") = tx at *
        clear F₁ lF' lN' S
        ktr_unf
        show TurnEnd _ _ _ _ _ _ _
        refine Hot0.intro (by assumption) (by assumption) [] (fun p hp => hp) hoff ⟨rfl, _, by rw [hnx]; rfl⟩
      case done3 =>
        rintro m₁ tl h tk ⟨rfl, t1, hm1⟩ F₁ N₁
        rw [hxl, List.take_length, ← hlk] at hm1
        have F₂ := know F₁ (x := Str.ofString "text") hm1
        simp only [List.nil_append] at N₁
        clear F₁ lF' lN' N3
        ktr_unf
        refine ret _ _ _ ?ra ?rb
        case ra => k_asm
        case rb => (refine' cb_drop ?rx ?ry; (case rx => assumption); (case ry => (intro p hp; repeat (first | exact hp | exact List.Mem.head _ | refine List.Mem.tail _ ?_))))
end Mine
namespace Mine
section
variable {α β : Type} (f : α → β) (lt : β → β → Bool)
def ltOf (a b : α) : Bool := lt (f a) (f b)
theorem siftdown_map (s : Nat) : ∀ (p : Nat) (l : List α) (x : α), siftdownF lt s (l.map f) p (f x) = (siftdownF (ltOf f lt) s l p x).map f := by
  intro p
  induction p using Nat.strongRecOn with
  | ind p ih =>
    intro l x
    rw [siftdownF, siftdownF]
    split
    · rename_i h
      rw [List.getElem?_map]
      cases hq : l[(p - 1) / 2]? with
      | none => simp
      | some q =>
        simp only [Option.map_some]
        show (if lt (f x) (f q) = true then _ else _) = List.map f (if lt (f x) (f q) = true then _ else _)
        split
        · rw [← List.map_set, ih _ (by omega)]
        · rw [List.map_set]
    · rw [List.map_set]
theorem child_map (l : List α) (p : Nat) : childF lt (l.map f) p = childF (ltOf f lt) l p := by
  unfold childF
  rw [List.getElem?_map, List.getElem?_map]
  cases l[2 * p + 1]? <;> cases l[2 * p + 2]? <;> rfl
theorem sink_map : ∀ (n : Nat) (l : List α) (p : Nat), l.length - p = n → sinkF lt (l.map f) p = ((sinkF (ltOf f lt) l p).1.map f, (sinkF (ltOf f lt) l p).2) := by
  intro n
  induction n using Nat.strongRecOn with
  | ind n ih =>
    intro l p hn
    rw [sinkF, sinkF]
    simp only [List.length_map, child_map]
    split
    · rename_i h
      have hc := childF_gt (ltOf f lt) l p
      rw [List.getElem?_map]
      cases hq : l[childF (ltOf f lt) l p]? with
      | none => simp
      | some q =>
        simp only [Option.map_some]
        rw [← List.map_set, ih (l.length - childF (ltOf f lt) l p) (by omega) _ _ (by rw [List.length_set])]
    · rfl
theorem siftup_map (l : List α) (p : Nat) (x : α) : siftupF lt (l.map f) p (f x) = (siftupF (ltOf f lt) l p x).map f := by
  unfold siftupF
  dsimp only
  rw [sink_map f lt _ l p rfl]
  dsimp only
  rw [← List.map_set, siftdown_map]
theorem push_map (l : List α) (x : α) : pushF lt (l.map f) (f x) = (pushF (ltOf f lt) l x).map f := by
  unfold pushF
  rw [List.length_map, show l.map f ++ [f x] = (l ++ [x]).map f by simp, siftdown_map]
theorem pop_map (l : List α) (d : α) : popF lt (l.map f) (f d) = (f (popF (ltOf f lt) l d).1, (popF (ltOf f lt) l d).2.map f) := by
  unfold popF
  have e : (l.map f).getLastD (f d) = f (l.getLastD d) := by
    rw [List.getLastD_eq_getLast?, List.getLastD_eq_getLast?, List.getLast?_map]
    cases l.getLast? <;> rfl
  dsimp only
  rw [e, ← List.map_dropLast]
  cases l.dropLast with
  | nil => rfl
  | cons a r =>
    simp only [List.map_cons]
    rw [← List.map_cons (f := f), siftup_map]
end
end Mine
namespace Mine
abbrev Ent := Nat × Str
abbrev Row := Nat × Str × Str
def encE (e : Ent) : Dat := .tuple [.int (e.1 : Int), .str e.2]
def encR (r : Row) : Dat := .tuple [.int (r.1 : Int), .str r.2.1, .str r.2.2]
def ltE : Ent → Ent → Bool := ltOf encE (dlt 2)
def kidsW (places : List Str) (place : Str) : List Str := Str.ofString ".." :: (places.filter (fun q => decide (dirnameW q = place) && decide (q ≠ place))).map basenameW
def pushAll (text : Str) (H : List Ent) (ns : List Str) : List Ent := ns.foldl (fun H nm => pushF ltE H ((joinW text nm).length, joinW text nm)) H
def toldStep (start : Str) (places : List Str) (s : List Ent × List Row) : List Ent × List Row :=
  if s.1 = [] then s else
    let r := popF ltE s.1 (0, Str.ofString "")
    let place := normW (joinW start r.1.2)
    if place ∈ s.2.map (fun r => r.2.2) then (r.2, s.2)
    else (pushAll r.1.2 r.2 (kidsW places place), s.2 ++ [(r.1.1, r.1.2, place)])
def toldW (start : Str) (places : List Str) : List Ent × List Row := iterN (toldStep start places) (2 * places.length + 1) ([(0, Str.ofString "")], [])
theorem cap5 {h₀ h : Heap} {L a b c d e : Addr} {o1 o2 o3 o4 o5 : Obj} {r : List (Addr × Obj)} (N : News h₀ L h ((a, o1) :: (b, o2) :: (c, o3) :: (d, o4) :: (e, o5) :: r)) :
    ∃ a' b' c' d' e' : Addr, a' = a ∧ b' = b ∧ c' = c ∧ d' = d ∧ e' = e := ⟨_, _, _, _, _, rfl, rfl, rfl, rfl, rfl⟩
section
variable {G : Str → Prop} {start : Str} {places : List Str}
theorem popF_mem {α : Type} (lt : α → α → Bool) {l : List α} {d : α} (h : l ≠ []) : (popF lt l d).1 ∈ l ∧ (∀ x ∈ (popF lt l d).2, x ∈ l) ∧ (popF lt l d).2.length + 1 = l.length := by
  obtain ⟨r, a, rfl⟩ : ∃ r a, l = r ++ [a] := by
    rcases List.eq_nil_or_concat l with h2 | ⟨r, a, h2⟩
    · exact absurd h2 h
    · exact ⟨r, a, by simpa using h2⟩
  unfold popF
  have e : (r ++ [a]).getLastD d = a := by rw [List.getLastD_eq_getLast?, List.getLast?_concat]; rfl
  dsimp only
  rw [e, List.dropLast_concat]
  cases r with
  | nil => exact ⟨by simp, fun x h => (nomatch h), rfl⟩
  | cons b r =>
    refine ⟨by simp, fun x hx => ?_, ?_⟩
    · dsimp only at hx
      rcases siftupF_mem lt _ _ _ x hx with h1 | h1
      · rcases List.mem_cons.mp h1 with h1 | h1
        · rw [h1]; simp
        · simp [h1]
      · rw [h1]; simp
    · dsimp only
      rw [siftupF_len]; simp
theorem pushF_mem {α : Type} (lt : α → α → Bool) {l : List α} {d : α} : (∀ x ∈ pushF lt l d, x ∈ l ∨ x = d) ∧ (pushF lt l d).length = l.length + 1 := by
  unfold pushF
  refine ⟨fun x hx => ?_, by rw [siftdownF_len]; simp⟩
  rcases siftdownF_mem lt _ _ _ _ x hx with h | h
  · rcases List.mem_append.mp h with h | h
    · exact .inl h
    · exact .inr (List.mem_singleton.mp h)
  · exact .inr h
theorem pushAll_mem {text : Str} : ∀ (ns : List Str) (H : List Ent), (∀ x ∈ pushAll text H ns, x ∈ H ∨ ∃ nm ∈ ns, x = ((joinW text nm).length, joinW text nm)) ∧ (pushAll text H ns).length = H.length + ns.length
  | [], H => ⟨fun x h => .inl h, rfl⟩
  | n :: ns, H => by
    have h1 := pushF_mem ltE (l := H) (d := ((joinW text n).length, joinW text n))
    have h2 := pushAll_mem (text := text) ns (pushF ltE H ((joinW text n).length, joinW text n))
    have e : pushAll text H (n :: ns) = pushAll text (pushF ltE H ((joinW text n).length, joinW text n)) ns := rfl
    rw [e]
    refine ⟨fun x hx => ?_, by rw [h2.2, h1.2, List.length_cons]; omega⟩
    rcases h2.1 x hx with h | ⟨nm, h, rfl⟩
    · rcases h1.1 x h with h | h
      · exact .inl h
      · exact .inr ⟨n, .head _, h⟩
    · exact .inr ⟨nm, .tail _ h, rfl⟩
structure TInv (G : Str → Prop) (s : List Ent × List Row) (i : Nat) : Prop where
  heap : ∀ e ∈ s.1, G e.2 ∧ e.2.length ≤ 101 * i ∧ e.1 = e.2.length
  told : ∀ r ∈ s.2, PyData.strOk r.2.1 = true ∧ PyData.strOk r.2.2 = true
  hl : s.1.length ≤ 1 + 21 * i
  tl : s.2.length ≤ i
theorem kids_mem {place : Str} (hGd : G (Str.ofString "..")) (hGb : ∀ q ∈ places, G (basenameW q)) (hpo : ∀ q ∈ places, q.length ≤ 100) : ∀ n ∈ kidsW places place, G n ∧ n.length ≤ 100 := by
  intro n hn
  rcases List.mem_cons.mp hn with rfl | hn
  · exact ⟨hGd, by decide⟩
  · obtain ⟨q, hq, rfl⟩ := List.mem_map.mp hn
    have hq := (List.mem_filter.mp hq).1
    exact ⟨hGb q hq, Nat.le_trans (basenameW_len q) (hpo q hq)⟩
theorem kids_len {place : Str} : (kidsW places place).length ≤ 1 + places.length := by
  unfold kidsW
  rw [List.length_cons, List.length_map]
  have := List.length_filter_le (fun q => decide (dirnameW q = place) && decide (q ≠ place)) places
  omega
theorem told_inv (hG0 : G (Str.ofString "")) (hGj : ∀ x y, G x → G y → G (joinW x y)) (hGd : G (Str.ofString "..")) (hGb : ∀ q ∈ places, G (basenameW q)) (hGo : ∀ x, G x → PyData.strOk x = true)
    (hpo : ∀ q ∈ places, q.length ≤ 100) (hpz : places.length ≤ 20) (hGn : ∀ t, G t → t.length ≤ 10000 → PyData.strOk (normW (joinW start t)) = true) :
    ∀ i, i ≤ 50 → TInv G (iterN (toldStep start places) i ([(0, Str.ofString "")], [])) i
  | 0, _ => ⟨fun e he => by rw [List.mem_singleton.mp he]; exact ⟨hG0, by decide, by decide⟩, fun r h => (nomatch h), Nat.le_refl _, Nat.le_refl _⟩
  | i + 1, hi => by
    have ih := told_inv hG0 hGj hGd hGb hGo hpo hpz hGn i (by omega)
    rw [iterN]
    generalize iterN (toldStep start places) i ([(0, Str.ofString "")], []) = s at ih
    unfold toldStep
    split
    · exact ⟨fun e he => by have := ih.heap e he; exact ⟨this.1, by omega, this.2.2⟩, ih.told, by have := ih.hl; omega, by have := ih.tl; omega⟩
    · rename_i hne
      have hp := popF_mem ltE (d := (0, Str.ofString "")) hne
      generalize popF ltE s.1 (0, Str.ofString "") = r at hp
      have hr := ih.heap _ hp.1
      dsimp only
      split
      · exact ⟨fun e he => by have := ih.heap e (hp.2.1 e he); exact ⟨this.1, by omega, this.2.2⟩, ih.told, by have := ih.hl; have := hp.2.2; dsimp only; omega, by have := ih.tl; dsimp only; omega⟩
      · have hk := kids_mem (place := normW (joinW start r.1.2)) hGd hGb hpo
        have hkl := kids_len (places := places) (place := normW (joinW start r.1.2))
        have hpa := pushAll_mem (text := r.1.2) (kidsW places (normW (joinW start r.1.2))) r.2
        refine ⟨fun e he => ?_, fun x hx => ?_, ?_, ?_⟩
        · rcases hpa.1 e he with h | ⟨nm, hn, rfl⟩
          · have := ih.heap e (hp.2.1 e h); exact ⟨this.1, by omega, this.2.2⟩
          · have h1 := hk nm hn
            have h2 := joinW_len r.1.2 nm
            exact ⟨hGj _ _ hr.1 h1.1, by dsimp only; omega, rfl⟩
        · rcases List.mem_append.mp hx with hx | hx
          · exact ih.told x hx
          · rw [List.mem_singleton.mp hx]
            exact ⟨hGo _ hr.1, hGn _ hr.1 (by omega)⟩
        · dsimp only; rw [hpa.2]; have := hp.2.2; have := ih.hl; omega
        · dsimp only; rw [List.length_append, List.length_singleton]; have := ih.tl; omega
end
end Mine
namespace Mine
theorem top_off_A6 : True := by
  w_top off
  trivial
local macro_rules | `(tactic| ktr_unf) => `(tactic| repeat' (first | (k_unfold; (try dsimp only)) | (k_end; wrow_close) | ((fail_if_success (with_reducible show wpAny _ _ (exec (Stmt.While _ _ _ _) _) _ _ _)); (fail_if_success (with_reducible show wpAny _ _ (exec (Stmt.For _ _ _ _ _) _) _ _ _)); walk1) | ((fail_if_success (with_reducible show wpAny _ _ (exec (Stmt.While _ _ _ _) _) _ _ _)); (fail_if_success (with_reducible show wpAny _ _ (exec (Stmt.For _ _ _ _ _) _) _ _ _)); dsimp only; walk1) | (leave1; walk_say "STEP leave1"; try dsimp only) | fail "no step"))
local macro_rules | `(tactic| k_all) => `(tactic| first | assumption | exact allLt_ne (by assumption))
local macro_rules | `(tactic| walk_at "call builtin:list.append") => `(tactic| (k_here; (with_reducible show wpAny _ _ (call (Value.builtin _) [Value.ref _, _]) _ _ _); k_dflt (refine' hot_append ?F ?N ?U ?z ?_; (case F => k_asm); (case N => k_asm); (case U => k_upd); (case z => first | assumption | omega | (simp only [List.length_append, List.length_cons, List.length_nil]; omega)); k_whole); intro h' F' N'; (try k_sweep)))
local macro_rules | `(tactic| walk_at "truthy ref") => `(tactic| (k_here; k_dflt (refine' hot_truthy ?N ?m ?z ?_; (case N => k_asm); (case m => k_mem); (case z => first | assumption | omega); k_whole)))
local macro_rules | `(tactic| walk_at "subscriptTail Name UnaryOp ref int") => `(tactic| (k_here; (with_reducible show wpAny _ _ (subscriptTail _ _ (Value.ref _) (Value.int _ _)) _ _ _); (with_unfolding_all refine' hot_lastS ?N ?m ?S ?e ?_ ?r; (case N => k_asm); (case m => k_mem); (case S => assumption); (case e => assumption); (case r => with_unfolding_all rfl); k_whole); intro y8 t8 hy8 hz8))
local macro_rules | `(tactic| walk_at "call builtin:list.pop") => `(tactic| (k_here; (with_reducible show wpAny _ _ (call (Value.builtin _) [Value.ref _]) _ _ _); k_dflt (refine' hot_popS ?F ?N ?U ?z ?S ?e ?_; (case F => k_asm); (case N => k_asm); (case U => k_upd); (case z => first | assumption | omega); (case S => assumption); (case e => assumption); k_whole); intro h' y8 t8 F' N'; (try k_sweep)))
local macro_rules | `(tactic| walk_at "call builtin:str.join") => `(tactic| (k_here; (with_reducible show wpAny _ _ (call (Value.builtin _) [Value.str _ _, Value.ref _]) _ _ _); k_dflt (refine' hot_join ?N ?m ?c ?d ?S ?w ?o ?_; (case N => k_asm); (case m => k_mem); (case c => rfl); (case d => rfl); (case S => assumption); (case w => assumption); (case o => decide); k_whole); intro t8 k8 hj8))
local macro_rules | `(tactic| walk_at "subscriptTail Name Name ref int") => `(tactic| (k_here; (with_reducible show wpAny _ _ (subscriptTail _ _ (Value.ref _) (Value.int _ _)) _ _ _); (with_unfolding_all refine' hot_item ?N ?m ?D ?a ?b ?c ?_ ?r; (case N => k_asm); (case m => k_mem); (case D => assumption); (case a => omega); (case b => omega); (case c => omega); (case r => with_unfolding_all rfl); k_whole); intro v8 d8 hv8 hd8 hD8))
local macro_rules | `(tactic| walk_at "setItem ref int") => `(tactic| (k_here; (with_reducible show wpAny _ _ (PySem.setItem (Value.ref _) (Value.int _ _) _) _ _ _); k_dflt (refine' hot_set ?F ?N ?U ?l ?a ?b ?c ?_; (case F => k_asm); (case N => k_asm); (case U => k_upd); (case l => exact DatAll.length (by assumption)); (case a => omega); (case b => omega); (case c => omega); k_whole); intro h' F' N'; (try k_sweep)))
local macro_rules | `(tactic| walk_at "subscriptTail Name Constant ref int") => `(tactic| (k_here; (with_reducible show wpAny _ _ (subscriptTail _ _ (Value.ref _) (Value.int _ _)) _ _ _); (with_unfolding_all refine' hot_item ?N ?m ?D ?a ?b ?c ?_ ?r; (case N => k_asm); (case m => k_mem); (case D => assumption); (case a => omega); (case b => omega); (case c => omega); (case r => with_unfolding_all rfl); k_whole); intro v8 d8 hv8 hd8 hD8))
local macro_rules | `(tactic| walk_at "call builtin:list.pop") => `(tactic| (k_here; (with_reducible show wpAny _ _ (call (Value.builtin _) [Value.ref _]) _ _ _); k_dflt (refine' hot_popD ?F ?N ?U ?z ?D ?e ?_; (case F => k_asm); (case N => k_asm); (case U => k_upd); (case z => omega); (case D => assumption); (case e => omega); k_whole); intro h' v8 d8 F' N' hd8 hD8 hA8; (try k_sweep)))
local macro_rules | `(tactic| walk_at "call builtin:len") => `(tactic| (k_here; (with_reducible show wpAny _ _ (call (Value.builtin "len") [Value.ref _]) _ _ _); k_dflt (refine' hot_len ?N ?m ?c ?d ?z ?_; (case N => k_asm); (case m => k_mem); (case c => rfl); (case d => rfl); (case z => first | assumption | omega | (simp only [List.length_append, List.length_cons, List.length_nil, List.length_set]; omega)); k_whole)))
section
variable {α : Type} {lt : α → α → Bool} {a n : Nat} {l : List α} {x p : α}
theorem sd_step (h : a < n) (hp : l[(n - 1) / 2]? = some p) (hl : lt x p = true) : siftdownF lt a l n x = siftdownF lt a (l.set n p) ((n - 1) / 2) x := by
  rw [siftdownF, dif_pos h, hp]; simp only [hl, if_true]
theorem sd_stop (h : a < n) (hp : l[(n - 1) / 2]? = some p) (hl : lt x p = false) : siftdownF lt a l n x = l.set n x := by
  rw [siftdownF, dif_pos h, hp]; simp only [hl, Bool.false_eq_true, if_false]
theorem sd_end (h : ¬ a < n) : siftdownF lt a l n x = l.set n x := by
  rw [siftdownF, dif_neg h]
end
theorem set_sub {α : Type} {l m : List α} {n : Nat} {p : α} (h : ∀ a ∈ l, a ∈ m) (hp : p ∈ m) : ∀ a ∈ l.set n p, a ∈ m := fun a ha =>
  (List.mem_or_eq_of_mem_set ha).elim (h a) fun e => e ▸ hp
theorem shr1 {n : Nat} (h : 0 < n) : ((n : Int) - 1).fdiv (2 ^ Int.toNat 1) = (((n - 1) / 2 : Nat) : Int) := by
  have e : (2 : Int) ^ Int.toNat 1 = 2 := by decide
  rw [e, Int.fdiv_eq_ediv_of_nonneg _ (by decide)]
  omega
set_option maxHeartbeats 8000000 in
theorem siftdown_c {w : World} {p : Program} {loose : List Str} {mean : ExcName → Option Value} {mg mb : Str → Option Value} {rest cold : List (Addr × Obj)} {D : Addr} {ws : List Value} {c : Nat} {ds : List Dat} {k : Nat}
  {dp un : Nat} {gd : Option (List Code)} {env : Env} {outer : List Env} {A₀ : Around} {base h₀ : Heap} {L : Addr} {m : Str → Option Value} {s : Shared} {Q E : Value → Shared → Prop} {a b : Nat} {t u : Tok} {x : Dat}
  (B : Below A₀ base outer h₀) (F : Fr h₀ L s.heap m) (X : (hd.heap_39 w.params).In h₀) (N : News h₀ L s.heap ((D, W.listOf ws.toArray c) :: rest)) (hne : ∀ p ∈ rest, p.1 ≠ D) (hcold : ∀ p ∈ cold, p ∈ rest) (hD : DatAll cold ws ds) (hz : ds.length ≤ 100000) (hok : ∀ a ∈ ds, kqdOk k a = true) (hcmp : ∀ a ∈ ds, ∀ b ∈ ds, dcmp k a b = true) (hk9 : k ≤ 4) (T : Top p loose mean mg mb h₀)
  (hf : env.frame = some L) (hk : env.scope.kind = .function) (hd : dp + 1 < recursionLimit) (hu : un + 16 < cLine) (hb : b < ds.length) (hx : ds[b]? = some x)
  (ret : ∀  ws1 c1 h1 tk, Fr h₀ L h1 m → News h₀ L h1 ((D, W.listOf ws1.toArray c1) :: rest) → DatAll cold ws1 (siftdownF (dlt k) a ds b x) → Q (.none) { s with heap := h1, toks := tk }) :
  wpAny (model Challenge.rw_ik0112_01.row.prog w) { handled := none, depth := dp, frames := some (env :: outer), guards := gd, units := un } (call (.ref 190) [.ref D, .int a t, .int b u]) Q E s := by
  revert X; k_fill; intro X
  refine wpAny_call ?_
  k_dflt (refine' code_def ?k1 ?k2 ?k3 ?k4 ?k5 ?kA ?kF ?kK ?k6 ?k7 ?k8 ?k9 ?kB ?_ ?c2 ?c3 ?c4 ?c5; (case kA => exact rfl); (case kF => exact hf); (case kK => exact hk); (case k1 => k_asm); (case k2 => k_asm); (case k3 => k_asm); (case k4 => k_asm); (case k5 => k_asm); (case k6 => k_is); (case k7 => k_is); (case k8 => exact Nat.lt_of_le_of_lt (Nat.le_add_right _ _) hd); (case k9 => exact BindsTo.of_eq rfl); (case c5 => decide); (case kB => exact locs rfl); (case c2 => exact rfl); (case c3 => exact rfl); (case c4 => exact rfl); k_whole; intro g' L' h' FG' F' N' B' X' T'; (try dsimp only); (try k_fold))
  ktr_unf
  (with_reducible rename Fr _ _ _ _ => lF')
  (with_reducible rename News _ _ _ _ => lN')
  rename ds[(b : Int).toNat]? = _ => hd8
  rename DatIn _ _ _ => hD8
  have e8 := hd8
  rw [Int.toNat_natCast, hx] at e8
  cases e8
  refine while_hot1 lF' lN' hne (fun lc n m' ws tl => tl = [] ∧ n < ds.length ∧ (∃ t, m' (Str.ofString "pos") = some (.int (n : Nat) t)) ∧ m' (Str.ofString "heap") = some (.ref lc) ∧ m' (Str.ofString "newitem") = some _ ∧ (∃ t, m' (Str.ofString "startpos") = some (.int (a : Nat) t)) ∧ ∃ ds', DatAll cold ws ds' ∧ ds'.length = ds.length ∧ (∀ a ∈ ds', a ∈ ds) ∧ siftdownF (dlt k) a ds' n x = siftdownF (dlt k) a ds b x) ⟨rfl, hb, ⟨_, rfl⟩, rfl, rfl, ⟨_, rfl⟩, ds, hD, rfl, fun _ h => h, rfl⟩ ?_
  rintro n m₁ ws₁ c₁ tl h tk₁ ⟨rfl, hn, ⟨t1, hm1⟩, hm2, hm3, ⟨t4, hm4⟩, ds', hD', hl', hin, hgo⟩ ho F₁ N₁
  have F₂ := know (know (know (know F₁ (x := Str.ofString "pos") hm1) (x := Str.ofString "heap") hm2) (x := Str.ofString "newitem") hm3) (x := Str.ofString "startpos") hm4
  simp only [List.nil_append] at N₁ ho
  have hpp : 0 < n → ((n : Int) - 1).fdiv (2 ^ Int.toNat 1) = (((n - 1) / 2 : Nat) : Int) := shr1
  clear F₁ lF' lN' hD
  ktr_unf
  · rename ds'[_]? = _ => hd9
    rename DatIn _ _ _ => hD9
    rename News _ _ _ _ => lN'
    have han : a < n := by omega
    rw [hpp (by omega), Int.toNat_natCast] at hd9
    refine hot_lt (k := k) lN' (fun p hp => List.Mem.tail _ (hcold p hp)) hD8 hD9 (hok _ (List.mem_of_getElem? hx)) (hok _ (hin _ (List.mem_of_getElem? hd9))) (hcmp _ (List.mem_of_getElem? hx) _ (hin _ (List.mem_of_getElem? hd9))) (by (simp only [units_deeper]); have := cLine_is; omega) ?_
    ktr_unf
    all_goals ((try dsimp only); (try ktr_unf); (try dsimp only))
    · unfold WhileStep2
      dsimp only
      refine WHot1.intro (by assumption) (by assumption) ((n - 1) / 2) _ _ [] (fun p hp => hp) ho (by omega) ⟨rfl, by omega, ⟨_, congrArg (fun z => some (Value.int z _)) (hpp (by omega))⟩, rfl, rfl, ⟨_, rfl⟩, _, DatAll.set hD' n hD9, by rw [List.length_set]; exact hl', set_sub hin (hin _ (List.mem_of_getElem? hd9)), ?_⟩
      exact (sd_step (lt := (dlt k)) han hd9 (by assumption)).symm.trans hgo
    · unfold WhileStep2
      dsimp only
      ktr_unf
      rw [sd_stop (lt := (dlt k)) han hd9 (by assumption)] at hgo
      rw [← hgo] at ret
      exact ret _ _ _ _ (by assumption) (by assumption) (DatAll.set hD' n hD8)
  · rw [sd_end (by omega)] at hgo
    rw [← hgo] at ret
    exact ret _ _ _ _ (by assumption) (by assumption) (DatAll.set hD' n hD8)
set_option maxHeartbeats 8000000 in
theorem siftdownmax_c {w : World} {p : Program} {loose : List Str} {mean : ExcName → Option Value} {mg mb : Str → Option Value} {rest cold : List (Addr × Obj)} {D : Addr} {ws : List Value} {c : Nat} {ds : List Dat} {k : Nat}
  {dp un : Nat} {gd : Option (List Code)} {env : Env} {outer : List Env} {A₀ : Around} {base h₀ : Heap} {L : Addr} {m : Str → Option Value} {s : Shared} {Q E : Value → Shared → Prop} {a b : Nat} {t u : Tok} {x : Dat}
  (B : Below A₀ base outer h₀) (F : Fr h₀ L s.heap m) (X : (hd.heap_39 w.params).In h₀) (N : News h₀ L s.heap ((D, W.listOf ws.toArray c) :: rest)) (hne : ∀ p ∈ rest, p.1 ≠ D) (hcold : ∀ p ∈ cold, p ∈ rest) (hD : DatAll cold ws ds) (hz : ds.length ≤ 100000) (hok : ∀ a ∈ ds, kqdOk k a = true) (hcmp : ∀ a ∈ ds, ∀ b ∈ ds, dcmp k a b = true) (hk9 : k ≤ 4) (T : Top p loose mean mg mb h₀)
  (hf : env.frame = some L) (hk : env.scope.kind = .function) (hd : dp + 1 < recursionLimit) (hu : un + 16 < cLine) (hb : b < ds.length) (hx : ds[b]? = some x)
  (ret : ∀  ws1 c1 h1 tk, Fr h₀ L h1 m → News h₀ L h1 ((D, W.listOf ws1.toArray c1) :: rest) → DatAll cold ws1 (siftdownF (fun p q => dlt k q p) a ds b x) → Q (.none) { s with heap := h1, toks := tk }) :
  wpAny (model Challenge.rw_ik0112_01.row.prog w) { handled := none, depth := dp, frames := some (env :: outer), guards := gd, units := un } (call (.ref 204) [.ref D, .int a t, .int b u]) Q E s := by
  revert X; k_fill; intro X
  refine wpAny_call ?_
  k_dflt (refine' code_def ?k1 ?k2 ?k3 ?k4 ?k5 ?kA ?kF ?kK ?k6 ?k7 ?k8 ?k9 ?kB ?_ ?c2 ?c3 ?c4 ?c5; (case kA => exact rfl); (case kF => exact hf); (case kK => exact hk); (case k1 => k_asm); (case k2 => k_asm); (case k3 => k_asm); (case k4 => k_asm); (case k5 => k_asm); (case k6 => k_is); (case k7 => k_is); (case k8 => exact Nat.lt_of_le_of_lt (Nat.le_add_right _ _) hd); (case k9 => exact BindsTo.of_eq rfl); (case c5 => decide); (case kB => exact locs rfl); (case c2 => exact rfl); (case c3 => exact rfl); (case c4 => exact rfl); k_whole; intro g' L' h' FG' F' N' B' X' T'; (try dsimp only); (try k_fold))
  ktr_unf
  (with_reducible rename Fr _ _ _ _ => lF')
  (with_reducible rename News _ _ _ _ => lN')
  rename ds[(b : Int).toNat]? = _ => hd8
  rename DatIn _ _ _ => hD8
  have e8 := hd8
  rw [Int.toNat_natCast, hx] at e8
  cases e8
  refine while_hot1 lF' lN' hne (fun lc n m' ws tl => tl = [] ∧ n < ds.length ∧ (∃ t, m' (Str.ofString "pos") = some (.int (n : Nat) t)) ∧ m' (Str.ofString "heap") = some (.ref lc) ∧ m' (Str.ofString "newitem") = some _ ∧ (∃ t, m' (Str.ofString "startpos") = some (.int (a : Nat) t)) ∧ ∃ ds', DatAll cold ws ds' ∧ ds'.length = ds.length ∧ (∀ a ∈ ds', a ∈ ds) ∧ siftdownF (fun p q => dlt k q p) a ds' n x = siftdownF (fun p q => dlt k q p) a ds b x) ⟨rfl, hb, ⟨_, rfl⟩, rfl, rfl, ⟨_, rfl⟩, ds, hD, rfl, fun _ h => h, rfl⟩ ?_
  rintro n m₁ ws₁ c₁ tl h tk₁ ⟨rfl, hn, ⟨t1, hm1⟩, hm2, hm3, ⟨t4, hm4⟩, ds', hD', hl', hin, hgo⟩ ho F₁ N₁
  have F₂ := know (know (know (know F₁ (x := Str.ofString "pos") hm1) (x := Str.ofString "heap") hm2) (x := Str.ofString "newitem") hm3) (x := Str.ofString "startpos") hm4
  simp only [List.nil_append] at N₁ ho
  have hpp : 0 < n → ((n : Int) - 1).fdiv (2 ^ Int.toNat 1) = (((n - 1) / 2 : Nat) : Int) := shr1
  clear F₁ lF' lN' hD
  ktr_unf
  · rename ds'[_]? = _ => hd9
    rename DatIn _ _ _ => hD9
    rename News _ _ _ _ => lN'
    have han : a < n := by omega
    rw [hpp (by omega), Int.toNat_natCast] at hd9
    refine hot_lt (k := k) lN' (fun p hp => List.Mem.tail _ (hcold p hp)) hD9 hD8 (hok _ (hin _ (List.mem_of_getElem? hd9))) (hok _ (List.mem_of_getElem? hx)) (hcmp _ (hin _ (List.mem_of_getElem? hd9)) _ (List.mem_of_getElem? hx)) (by (simp only [units_deeper]); have := cLine_is; omega) ?_
    ktr_unf
    all_goals ((try dsimp only); (try ktr_unf); (try dsimp only))
    · unfold WhileStep2
      dsimp only
      refine WHot1.intro (by assumption) (by assumption) ((n - 1) / 2) _ _ [] (fun p hp => hp) ho (by omega) ⟨rfl, by omega, ⟨_, congrArg (fun z => some (Value.int z _)) (hpp (by omega))⟩, rfl, rfl, ⟨_, rfl⟩, _, DatAll.set hD' n hD9, by rw [List.length_set]; exact hl', set_sub hin (hin _ (List.mem_of_getElem? hd9)), ?_⟩
      exact (sd_step (lt := (fun p q => dlt k q p)) han hd9 (by assumption)).symm.trans hgo
    · unfold WhileStep2
      dsimp only
      ktr_unf
      rw [sd_stop (lt := (fun p q => dlt k q p)) han hd9 (by assumption)] at hgo
      rw [← hgo] at ret
      exact ret _ _ _ _ (by assumption) (by assumption) (DatAll.set hD' n hD8)
  · rw [sd_end (by omega)] at hgo
    rw [← hgo] at ret
    exact ret _ _ _ _ (by assumption) (by assumption) (DatAll.set hD' n hD8)
end Mine
namespace Mine
theorem top_off_A7 : True := by
  w_top off
  trivial
local macro_rules | `(tactic| walk_at "0") => `(tactic| skip)
local macro_rules | `(tactic| ktr_unf) => `(tactic| repeat' (first | (k_unfold; (try dsimp only)) | (k_end; wrow_close) | ((fail_if_success (with_reducible show wpAny _ _ (exec (Stmt.While _ _ _ _) _) _ _ _)); (fail_if_success (with_reducible show wpAny _ _ (exec (Stmt.For _ _ _ _ _) _) _ _ _)); walk1) | ((fail_if_success (with_reducible show wpAny _ _ (exec (Stmt.While _ _ _ _) _) _ _ _)); (fail_if_success (with_reducible show wpAny _ _ (exec (Stmt.For _ _ _ _ _) _) _ _ _)); dsimp only; walk1) | (leave1; walk_say "STEP leave1"; try dsimp only) | fail "no step"))
local macro_rules | `(tactic| k_all) => `(tactic| first | assumption | exact allLt_ne (by assumption))
local macro_rules | `(tactic| walk_at "call builtin:list.append") => `(tactic| (k_here; (with_reducible show wpAny _ _ (call (Value.builtin _) [Value.ref _, _]) _ _ _); k_dflt (refine' hot_append ?F ?N ?U ?z ?_; (case F => k_asm); (case N => k_asm); (case U => k_upd); (case z => first | assumption | omega | (simp only [List.length_append, List.length_cons, List.length_nil]; omega)); k_whole); intro h' F' N'; (try k_sweep)))
local macro_rules | `(tactic| walk_at "truthy ref") => `(tactic| (k_here; k_dflt (refine' hot_truthy ?N ?m ?z ?_; (case N => k_asm); (case m => k_mem); (case z => first | assumption | omega); k_whole)))
local macro_rules | `(tactic| walk_at "subscriptTail Name UnaryOp ref int") => `(tactic| (k_here; (with_reducible show wpAny _ _ (subscriptTail _ _ (Value.ref _) (Value.int _ _)) _ _ _); (with_unfolding_all refine' hot_lastS ?N ?m ?S ?e ?_ ?r; (case N => k_asm); (case m => k_mem); (case S => assumption); (case e => assumption); (case r => with_unfolding_all rfl); k_whole); intro y8 t8 hy8 hz8))
local macro_rules | `(tactic| walk_at "call builtin:list.pop") => `(tactic| (k_here; (with_reducible show wpAny _ _ (call (Value.builtin _) [Value.ref _]) _ _ _); k_dflt (refine' hot_popS ?F ?N ?U ?z ?S ?e ?_; (case F => k_asm); (case N => k_asm); (case U => k_upd); (case z => first | assumption | omega); (case S => assumption); (case e => assumption); k_whole); intro h' y8 t8 F' N'; (try k_sweep)))
local macro_rules | `(tactic| walk_at "call builtin:str.join") => `(tactic| (k_here; (with_reducible show wpAny _ _ (call (Value.builtin _) [Value.str _ _, Value.ref _]) _ _ _); k_dflt (refine' hot_join ?N ?m ?c ?d ?S ?w ?o ?_; (case N => k_asm); (case m => k_mem); (case c => rfl); (case d => rfl); (case S => assumption); (case w => assumption); (case o => decide); k_whole); intro t8 k8 hj8))
local macro_rules | `(tactic| walk_at "subscriptTail Name Name ref int") => `(tactic| (k_here; (with_reducible show wpAny _ _ (subscriptTail _ _ (Value.ref _) (Value.int _ _)) _ _ _); (with_unfolding_all refine' hot_item ?N ?m ?D ?a ?b ?c ?_ ?r; (case N => k_asm); (case m => k_mem); (case D => assumption); (case a => omega); (case b => omega); (case c => omega); (case r => with_unfolding_all rfl); k_whole); intro v8 d8 hv8 hd8 hD8))
local macro_rules | `(tactic| walk_at "setItem ref int") => `(tactic| (k_here; (with_reducible show wpAny _ _ (PySem.setItem (Value.ref _) (Value.int _ _) _) _ _ _); k_dflt (refine' hot_set ?F ?N ?U ?l ?a ?b ?c ?_; (case F => k_asm); (case N => k_asm); (case U => k_upd); (case l => exact DatAll.length (by assumption)); (case a => omega); (case b => omega); (case c => omega); k_whole); intro h' F' N'; (try k_sweep)))
local macro_rules | `(tactic| walk_at "subscriptTail Name Constant ref int") => `(tactic| (k_here; (with_reducible show wpAny _ _ (subscriptTail _ _ (Value.ref _) (Value.int _ _)) _ _ _); (with_unfolding_all refine' hot_item ?N ?m ?D ?a ?b ?c ?_ ?r; (case N => k_asm); (case m => k_mem); (case D => assumption); (case a => omega); (case b => omega); (case c => omega); (case r => with_unfolding_all rfl); k_whole); intro v8 d8 hv8 hd8 hD8))
local macro_rules | `(tactic| walk_at "call builtin:list.pop") => `(tactic| (k_here; (with_reducible show wpAny _ _ (call (Value.builtin _) [Value.ref _]) _ _ _); k_dflt (refine' hot_popD ?F ?N ?U ?z ?D ?e ?_; (case F => k_asm); (case N => k_asm); (case U => k_upd); (case z => omega); (case D => assumption); (case e => omega); k_whole); intro h' v8 d8 F' N' hd8 hD8 hA8; (try k_sweep)))
local macro_rules | `(tactic| walk_at "call builtin:len") => `(tactic| (k_here; (with_reducible show wpAny _ _ (call (Value.builtin "len") [Value.ref _]) _ _ _); k_dflt (refine' hot_len ?N ?m ?c ?d ?z ?_; (case N => k_asm); (case m => k_mem); (case c => rfl); (case d => rfl); (case z => first | assumption | omega | (simp only [List.length_append, List.length_cons, List.length_nil, List.length_set]; omega)); k_whole)))
section
variable {α : Type} {lt : α → α → Bool} {p : Nat} {l : List α} {a b c : α}
theorem sink_step (h : 2 * p + 1 < l.length) (hc : l[childF lt l p]? = some c) : sinkF lt l p = sinkF lt (l.set p c) (childF lt l p) := by
  rw [sinkF, dif_pos h, hc]
theorem sink_end (h : ¬ 2 * p + 1 < l.length) : sinkF lt l p = (l, p) := by
  rw [sinkF, dif_neg h]
theorem child1 (h : l.length ≤ 2 * p + 2) : childF lt l p = 2 * p + 1 := by
  unfold childF
  rw [List.getElem?_eq_none h]
  cases l[2 * p + 1]? <;> rfl
theorem child2 (h1 : l[2 * p + 1]? = some a) (h2 : l[2 * p + 2]? = some b) (h : lt a b = true) : childF lt l p = 2 * p + 1 := by
  unfold childF
  rw [h1, h2]; simp [h]
theorem child3 (h1 : l[2 * p + 1]? = some a) (h2 : l[2 * p + 2]? = some b) (h : lt a b = false) : childF lt l p = 2 * p + 2 := by
  unfold childF
  rw [h1, h2]; simp [h]
end
theorem toNat1 (p : Nat) : (2 * (p : Int) + 1).toNat = 2 * p + 1 := by omega
theorem toNat2 (p : Nat) : (2 * (p : Int) + 1 + 1).toNat = 2 * p + 2 := by omega
set_option maxHeartbeats 8000000 in
theorem siftup_c {w : World} {p : Program} {loose : List Str} {mean : ExcName → Option Value} {mg mb : Str → Option Value} {rest cold : List (Addr × Obj)} {D : Addr} {ws : List Value} {c : Nat} {ds : List Dat} {k : Nat}
  {dp un : Nat} {gd : Option (List Code)} {env : Env} {outer : List Env} {A₀ : Around} {base h₀ : Heap} {L : Addr} {m : Str → Option Value} {s : Shared} {Q E : Value → Shared → Prop} {a : Nat} {t : Tok} {x : Dat}
  (B : Below A₀ base outer h₀) (F : Fr h₀ L s.heap m) (X : (hd.heap_39 w.params).In h₀) (N : News h₀ L s.heap ((D, W.listOf ws.toArray c) :: rest)) (hne : ∀ p ∈ rest, p.1 ≠ D) (hcold : ∀ p ∈ cold, p ∈ rest) (hD : DatAll cold ws ds) (hz : ds.length ≤ 100000) (hok : ∀ a ∈ ds, kqdOk k a = true) (hcmp : ∀ a ∈ ds, ∀ b ∈ ds, dcmp k a b = true) (hk9 : k ≤ 4) (T : Top p loose mean mg mb h₀)
  (hf : env.frame = some L) (hk : env.scope.kind = .function) (hd : dp + 2 < recursionLimit) (hu : un + 32 < cLine) (hb : a < ds.length) (hx : ds[a]? = some x)
  (ret : ∀  ws1 c1 h1 tk, Fr h₀ L h1 m → News h₀ L h1 ((D, W.listOf ws1.toArray c1) :: rest) → DatAll cold ws1 (siftupF (dlt k) ds a x) → Q (.none) { s with heap := h1, toks := tk }) :
  wpAny (model Challenge.rw_ik0112_01.row.prog w) { handled := none, depth := dp, frames := some (env :: outer), guards := gd, units := un } (call (.ref 197) [.ref D, .int a t]) Q E s := by
  revert X; k_fill; intro X
  refine wpAny_call ?_
  k_dflt (refine' code_def ?k1 ?k2 ?k3 ?k4 ?k5 ?kA ?kF ?kK ?k6 ?k7 ?k8 ?k9 ?kB ?_ ?c2 ?c3 ?c4 ?c5; (case kA => exact rfl); (case kF => exact hf); (case kK => exact hk); (case k1 => k_asm); (case k2 => k_asm); (case k3 => k_asm); (case k4 => k_asm); (case k5 => k_asm); (case k6 => k_is); (case k7 => k_is); (case k8 => exact Nat.lt_of_le_of_lt (Nat.le_add_right _ _) hd); (case k9 => exact BindsTo.of_eq rfl); (case c5 => decide); (case kB => exact locs rfl); (case c2 => exact rfl); (case c3 => exact rfl); (case c4 => exact rfl); k_whole; intro g' L' h' FG' F' N' B' X' T'; (try dsimp only); (try k_fold))
  ktr_unf
  (with_reducible rename Fr _ _ _ _ => lF')
  (with_reducible rename News _ _ _ _ => lN')
  rename ds[(a : Int).toNat]? = _ => hd8
  rename DatIn _ _ _ => hD8
  have e8 := hd8
  rw [Int.toNat_natCast, hx] at e8
  cases e8
  have hlen := hD.length
  refine while_hot1 (n₀ := ds.length - a) lF' lN' hne (fun lc n m' ws tl => tl = [] ∧ m' (Str.ofString "heap") = some (.ref lc) ∧ m' (Str.ofString "newitem") = some _ ∧ (∃ t, m' (Str.ofString "startpos") = some (.int (a : Nat) t)) ∧ (∃ t, m' (Str.ofString "endpos") = some (.int (ds.length : Nat) t)) ∧ ∃ ds' : List Dat, ∃ p : Nat, n = ds.length - p ∧ p < ds.length ∧ (∃ t, m' (Str.ofString "pos") = some (.int (p : Nat) t)) ∧ (∃ t, m' (Str.ofString "childpos") = some (.int (2 * (p : Int) + 1) t)) ∧ DatAll cold ws ds' ∧ ds'.length = ds.length ∧ (∀ a ∈ ds', a ∈ ds) ∧ sinkF (dlt k) ds' p = sinkF (dlt k) ds a) ⟨rfl, rfl, rfl, ⟨_, rfl⟩, ⟨_, by rw [← hlen]; rfl⟩, ds, a, rfl, hb, ⟨_, rfl⟩, ⟨_, rfl⟩, hD, rfl, fun _ h => h, rfl⟩ ?_
  rintro n m₁ ws₁ c₁ tl h tk₁ ⟨rfl, hm2, hm3, ⟨t4, hm4⟩, ⟨t5, hm5⟩, ds', p, rfl, hp, ⟨t1, hm1⟩, ⟨t6, hm6⟩, hD', hl', hin, hgo⟩ ho F₁ N₁
  have F₂ := know (know (know (know (know (know F₁ (x := Str.ofString "pos") hm1) (x := Str.ofString "heap") hm2) (x := Str.ofString "newitem") hm3) (x := Str.ofString "startpos") hm4) (x := Str.ofString "endpos") hm5) (x := Str.ofString "childpos") hm6
  simp only [List.nil_append] at N₁ ho
  clear F₁ lF' lN' hD
  ktr_unf
  · refine hot_lt (k := k) (by assumption) (fun p hp => List.Mem.tail _ (hcold p hp)) (by assumption) (by assumption) (hok _ (hin _ (List.mem_of_getElem? (by assumption)))) (hok _ (hin _ (List.mem_of_getElem? (by assumption)))) (hcmp _ (hin _ (List.mem_of_getElem? (by assumption))) _ (hin _ (List.mem_of_getElem? (by assumption)))) (by (simp only [units_deeper]); have := cLine_is; omega) ?_
    ktr_unf
    all_goals ((try dsimp only); (try ktr_unf); (try dsimp only))
    all_goals (
      (rename ds'[_]? = _ => hq)
      (rename DatIn _ _ _ => hDq))
    · have hch : childF (dlt k) ds' p = 2 * p + 1 := by
        refine' child2 ?h1 ?h2 ?h
        case h => assumption
        case h1 => rw [← toNat1]; assumption
        case h2 => rw [← toNat2]; assumption
      rw [toNat1] at hq
      have hst := sink_step (lt := (dlt k)) (l := ds') (p := p) (by omega) (by rw [hch]; exact hq)
      rw [hch] at hst
      unfold WhileStep2
      dsimp only
      refine WHot1.intro (by assumption) (by assumption) (ds.length - (2 * p + 1)) _ _ [] (fun p hp => hp) ho (by omega) ⟨rfl, rfl, rfl, ⟨_, rfl⟩, ⟨_, rfl⟩, _, 2 * p + 1, rfl, by omega, ⟨_, congrArg (fun z => some (Value.int z _)) (show (2 * (p : Int) + 1 : Int) = ((2 * p + 1 : Nat) : Int) by omega)⟩, ⟨_, congrArg (fun z => some (Value.int z _)) (show (2 * (2 * (p : Int) + 1) + 1 : Int) = 2 * ((2 * p + 1 : Nat) : Int) + 1 by omega)⟩, DatAll.set hD' p hDq, by rw [List.length_set]; exact hl', set_sub hin (hin _ (List.mem_of_getElem? hq)), hst.symm.trans hgo⟩
    · have hch : childF (dlt k) ds' p = 2 * p + 2 := by
        refine' child3 ?h1 ?h2 ?h
        case h => assumption
        case h1 => rw [← toNat1]; assumption
        case h2 => rw [← toNat2]; assumption
      rw [toNat2] at hq
      have hst := sink_step (lt := (dlt k)) (l := ds') (p := p) (by omega) (by rw [hch]; exact hq)
      rw [hch] at hst
      unfold WhileStep2
      dsimp only
      refine WHot1.intro (by assumption) (by assumption) (ds.length - (2 * p + 2)) _ _ [] (fun p hp => hp) ho (by omega) ⟨rfl, rfl, rfl, ⟨_, rfl⟩, ⟨_, rfl⟩, _, 2 * p + 2, rfl, by omega, ⟨_, congrArg (fun z => some (Value.int z _)) (show (2 * (p : Int) + 1 + 1 : Int) = ((2 * p + 2 : Nat) : Int) by omega)⟩, ⟨_, congrArg (fun z => some (Value.int z _)) (show (2 * (2 * (p : Int) + 1 + 1) + 1 : Int) = 2 * ((2 * p + 2 : Nat) : Int) + 1 by omega)⟩, DatAll.set hD' p hDq, by rw [List.length_set]; exact hl', set_sub hin (hin _ (List.mem_of_getElem? hq)), hst.symm.trans hgo⟩
  · (rename ds'[_]? = _ => hq)
    (rename DatIn _ _ _ => hDq)
    have hch : childF (dlt k) ds' p = 2 * p + 1 := child1 (by omega)
    rw [toNat1] at hq
    have hst := sink_step (lt := (dlt k)) (l := ds') (p := p) (by omega) (by rw [hch]; exact hq)
    rw [hch] at hst
    unfold WhileStep2
    dsimp only
    refine WHot1.intro (by assumption) (by assumption) (ds.length - (2 * p + 1)) _ _ [] (fun p hp => hp) ho (by omega) ⟨rfl, rfl, rfl, ⟨_, rfl⟩, ⟨_, rfl⟩, _, 2 * p + 1, rfl, by omega, ⟨_, congrArg (fun z => some (Value.int z _)) (show (2 * (p : Int) + 1 : Int) = ((2 * p + 1 : Nat) : Int) by omega)⟩, ⟨_, congrArg (fun z => some (Value.int z _)) (show (2 * (2 * (p : Int) + 1) + 1 : Int) = 2 * ((2 * p + 1 : Nat) : Int) + 1 by omega)⟩, DatAll.set hD' p hDq, by rw [List.length_set]; exact hl', set_sub hin (hin _ (List.mem_of_getElem? hq)), hst.symm.trans hgo⟩
  · have hend := sink_end (lt := (dlt k)) (l := ds') (p := p) (by omega)
    rw [hend] at hgo
    have hfin : siftupF (dlt k) ds a x = siftdownF (dlt k) a (ds'.set p x) p x := by unfold siftupF; rw [← hgo]
    rw [hfin] at ret
    refine siftdown_c (ds := ds'.set p x) (x := x) (k := k) (by assumption) (by assumption) (by assumption) (by assumption) hne hcold (DatAll.set hD' p hD8) (by rw [List.length_set]; omega) (fun a ha => hok a (set_sub hin (List.mem_of_getElem? hx) a ha)) (fun a ha b hb => hcmp a (set_sub hin (List.mem_of_getElem? hx) a ha) b (set_sub hin (List.mem_of_getElem? hx) b hb)) hk9 (by assumption) rfl rfl (by ktr_room) (by ktr_units) (by rw [List.length_set]; omega) (by rw [List.getElem?_set_self (by omega)]) ?_
    intro ws2 c2 h2 tk2 F2 N2 D2
    (try dsimp only)
    ktr_unf
    exact ret _ _ _ _ (by assumption) (by assumption) D2
set_option maxHeartbeats 8000000 in
theorem siftupmax_c {w : World} {p : Program} {loose : List Str} {mean : ExcName → Option Value} {mg mb : Str → Option Value} {rest cold : List (Addr × Obj)} {D : Addr} {ws : List Value} {c : Nat} {ds : List Dat} {k : Nat}
  {dp un : Nat} {gd : Option (List Code)} {env : Env} {outer : List Env} {A₀ : Around} {base h₀ : Heap} {L : Addr} {m : Str → Option Value} {s : Shared} {Q E : Value → Shared → Prop} {a : Nat} {t : Tok} {x : Dat}
  (B : Below A₀ base outer h₀) (F : Fr h₀ L s.heap m) (X : (hd.heap_39 w.params).In h₀) (N : News h₀ L s.heap ((D, W.listOf ws.toArray c) :: rest)) (hne : ∀ p ∈ rest, p.1 ≠ D) (hcold : ∀ p ∈ cold, p ∈ rest) (hD : DatAll cold ws ds) (hz : ds.length ≤ 100000) (hok : ∀ a ∈ ds, kqdOk k a = true) (hcmp : ∀ a ∈ ds, ∀ b ∈ ds, dcmp k a b = true) (hk9 : k ≤ 4) (T : Top p loose mean mg mb h₀)
  (hf : env.frame = some L) (hk : env.scope.kind = .function) (hd : dp + 2 < recursionLimit) (hu : un + 32 < cLine) (hb : a < ds.length) (hx : ds[a]? = some x)
  (ret : ∀  ws1 c1 h1 tk, Fr h₀ L h1 m → News h₀ L h1 ((D, W.listOf ws1.toArray c1) :: rest) → DatAll cold ws1 (siftupF (fun p q => dlt k q p) ds a x) → Q (.none) { s with heap := h1, toks := tk }) :
  wpAny (model Challenge.rw_ik0112_01.row.prog w) { handled := none, depth := dp, frames := some (env :: outer), guards := gd, units := un } (call (.ref 211) [.ref D, .int a t]) Q E s := by
  revert X; k_fill; intro X
  refine wpAny_call ?_
  k_dflt (refine' code_def ?k1 ?k2 ?k3 ?k4 ?k5 ?kA ?kF ?kK ?k6 ?k7 ?k8 ?k9 ?kB ?_ ?c2 ?c3 ?c4 ?c5; (case kA => exact rfl); (case kF => exact hf); (case kK => exact hk); (case k1 => k_asm); (case k2 => k_asm); (case k3 => k_asm); (case k4 => k_asm); (case k5 => k_asm); (case k6 => k_is); (case k7 => k_is); (case k8 => exact Nat.lt_of_le_of_lt (Nat.le_add_right _ _) hd); (case k9 => exact BindsTo.of_eq rfl); (case c5 => decide); (case kB => exact locs rfl); (case c2 => exact rfl); (case c3 => exact rfl); (case c4 => exact rfl); k_whole; intro g' L' h' FG' F' N' B' X' T'; (try dsimp only); (try k_fold))
  ktr_unf
  (with_reducible rename Fr _ _ _ _ => lF')
  (with_reducible rename News _ _ _ _ => lN')
  rename ds[(a : Int).toNat]? = _ => hd8
  rename DatIn _ _ _ => hD8
  have e8 := hd8
  rw [Int.toNat_natCast, hx] at e8
  cases e8
  have hlen := hD.length
  refine while_hot1 (n₀ := ds.length - a) lF' lN' hne (fun lc n m' ws tl => tl = [] ∧ m' (Str.ofString "heap") = some (.ref lc) ∧ m' (Str.ofString "newitem") = some _ ∧ (∃ t, m' (Str.ofString "startpos") = some (.int (a : Nat) t)) ∧ (∃ t, m' (Str.ofString "endpos") = some (.int (ds.length : Nat) t)) ∧ ∃ ds' : List Dat, ∃ p : Nat, n = ds.length - p ∧ p < ds.length ∧ (∃ t, m' (Str.ofString "pos") = some (.int (p : Nat) t)) ∧ (∃ t, m' (Str.ofString "childpos") = some (.int (2 * (p : Int) + 1) t)) ∧ DatAll cold ws ds' ∧ ds'.length = ds.length ∧ (∀ a ∈ ds', a ∈ ds) ∧ sinkF (fun p q => dlt k q p) ds' p = sinkF (fun p q => dlt k q p) ds a) ⟨rfl, rfl, rfl, ⟨_, rfl⟩, ⟨_, by rw [← hlen]; rfl⟩, ds, a, rfl, hb, ⟨_, rfl⟩, ⟨_, rfl⟩, hD, rfl, fun _ h => h, rfl⟩ ?_
  rintro n m₁ ws₁ c₁ tl h tk₁ ⟨rfl, hm2, hm3, ⟨t4, hm4⟩, ⟨t5, hm5⟩, ds', p, rfl, hp, ⟨t1, hm1⟩, ⟨t6, hm6⟩, hD', hl', hin, hgo⟩ ho F₁ N₁
  have F₂ := know (know (know (know (know (know F₁ (x := Str.ofString "pos") hm1) (x := Str.ofString "heap") hm2) (x := Str.ofString "newitem") hm3) (x := Str.ofString "startpos") hm4) (x := Str.ofString "endpos") hm5) (x := Str.ofString "childpos") hm6
  simp only [List.nil_append] at N₁ ho
  clear F₁ lF' lN' hD
  ktr_unf
  · refine hot_lt (k := k) (by assumption) (fun p hp => List.Mem.tail _ (hcold p hp)) (by assumption) (by assumption) (hok _ (hin _ (List.mem_of_getElem? (by assumption)))) (hok _ (hin _ (List.mem_of_getElem? (by assumption)))) (hcmp _ (hin _ (List.mem_of_getElem? (by assumption))) _ (hin _ (List.mem_of_getElem? (by assumption)))) (by (simp only [units_deeper]); have := cLine_is; omega) ?_
    ktr_unf
    all_goals ((try dsimp only); (try ktr_unf); (try dsimp only))
    all_goals (
      (rename ds'[_]? = _ => hq)
      (rename DatIn _ _ _ => hDq))
    · have hch : childF (fun p q => dlt k q p) ds' p = 2 * p + 1 := by
        refine' child2 ?h1 ?h2 ?h
        case h => assumption
        case h1 => rw [← toNat1]; assumption
        case h2 => rw [← toNat2]; assumption
      rw [toNat1] at hq
      have hst := sink_step (lt := (fun p q => dlt k q p)) (l := ds') (p := p) (by omega) (by rw [hch]; exact hq)
      rw [hch] at hst
      unfold WhileStep2
      dsimp only
      refine WHot1.intro (by assumption) (by assumption) (ds.length - (2 * p + 1)) _ _ [] (fun p hp => hp) ho (by omega) ⟨rfl, rfl, rfl, ⟨_, rfl⟩, ⟨_, rfl⟩, _, 2 * p + 1, rfl, by omega, ⟨_, congrArg (fun z => some (Value.int z _)) (show (2 * (p : Int) + 1 : Int) = ((2 * p + 1 : Nat) : Int) by omega)⟩, ⟨_, congrArg (fun z => some (Value.int z _)) (show (2 * (2 * (p : Int) + 1) + 1 : Int) = 2 * ((2 * p + 1 : Nat) : Int) + 1 by omega)⟩, DatAll.set hD' p hDq, by rw [List.length_set]; exact hl', set_sub hin (hin _ (List.mem_of_getElem? hq)), hst.symm.trans hgo⟩
    · have hch : childF (fun p q => dlt k q p) ds' p = 2 * p + 2 := by
        refine' child3 ?h1 ?h2 ?h
        case h => assumption
        case h1 => rw [← toNat1]; assumption
        case h2 => rw [← toNat2]; assumption
      rw [toNat2] at hq
      have hst := sink_step (lt := (fun p q => dlt k q p)) (l := ds') (p := p) (by omega) (by rw [hch]; exact hq)
      rw [hch] at hst
      unfold WhileStep2
      dsimp only
      refine WHot1.intro (by assumption) (by assumption) (ds.length - (2 * p + 2)) _ _ [] (fun p hp => hp) ho (by omega) ⟨rfl, rfl, rfl, ⟨_, rfl⟩, ⟨_, rfl⟩, _, 2 * p + 2, rfl, by omega, ⟨_, congrArg (fun z => some (Value.int z _)) (show (2 * (p : Int) + 1 + 1 : Int) = ((2 * p + 2 : Nat) : Int) by omega)⟩, ⟨_, congrArg (fun z => some (Value.int z _)) (show (2 * (2 * (p : Int) + 1 + 1) + 1 : Int) = 2 * ((2 * p + 2 : Nat) : Int) + 1 by omega)⟩, DatAll.set hD' p hDq, by rw [List.length_set]; exact hl', set_sub hin (hin _ (List.mem_of_getElem? hq)), hst.symm.trans hgo⟩
  · (rename ds'[_]? = _ => hq)
    (rename DatIn _ _ _ => hDq)
    have hch : childF (fun p q => dlt k q p) ds' p = 2 * p + 1 := child1 (by omega)
    rw [toNat1] at hq
    have hst := sink_step (lt := (fun p q => dlt k q p)) (l := ds') (p := p) (by omega) (by rw [hch]; exact hq)
    rw [hch] at hst
    unfold WhileStep2
    dsimp only
    refine WHot1.intro (by assumption) (by assumption) (ds.length - (2 * p + 1)) _ _ [] (fun p hp => hp) ho (by omega) ⟨rfl, rfl, rfl, ⟨_, rfl⟩, ⟨_, rfl⟩, _, 2 * p + 1, rfl, by omega, ⟨_, congrArg (fun z => some (Value.int z _)) (show (2 * (p : Int) + 1 : Int) = ((2 * p + 1 : Nat) : Int) by omega)⟩, ⟨_, congrArg (fun z => some (Value.int z _)) (show (2 * (2 * (p : Int) + 1) + 1 : Int) = 2 * ((2 * p + 1 : Nat) : Int) + 1 by omega)⟩, DatAll.set hD' p hDq, by rw [List.length_set]; exact hl', set_sub hin (hin _ (List.mem_of_getElem? hq)), hst.symm.trans hgo⟩
  · have hend := sink_end (lt := (fun p q => dlt k q p)) (l := ds') (p := p) (by omega)
    rw [hend] at hgo
    have hfin : siftupF (fun p q => dlt k q p) ds a x = siftdownF (fun p q => dlt k q p) a (ds'.set p x) p x := by unfold siftupF; rw [← hgo]
    rw [hfin] at ret
    refine siftdownmax_c (ds := ds'.set p x) (x := x) (k := k) (by assumption) (by assumption) (by assumption) (by assumption) hne hcold (DatAll.set hD' p hD8) (by rw [List.length_set]; omega) (fun a ha => hok a (set_sub hin (List.mem_of_getElem? hx) a ha)) (fun a ha b hb => hcmp a (set_sub hin (List.mem_of_getElem? hx) a ha) b (set_sub hin (List.mem_of_getElem? hx) b hb)) hk9 (by assumption) rfl rfl (by ktr_room) (by ktr_units) (by rw [List.length_set]; omega) (by rw [List.getElem?_set_self (by omega)]) ?_
    intro ws2 c2 h2 tk2 F2 N2 D2
    (try dsimp only)
    ktr_unf
    exact ret _ _ _ _ (by assumption) (by assumption) D2
end Mine
namespace Mine
theorem top_off_A8 : True := by
  w_top off
  trivial
local macro_rules | `(tactic| walk_at "0") => `(tactic| skip)
local macro_rules | `(tactic| walk_at "1") => `(tactic| skip)
local macro_rules | `(tactic| walk_at "2") => `(tactic| skip)
local macro_rules | `(tactic| ktr_unf) => `(tactic| repeat' (first | (k_unfold; (try dsimp only)) | (k_end; wrow_close) | ((fail_if_success (with_reducible show wpAny _ _ (exec (Stmt.While _ _ _ _) _) _ _ _)); (fail_if_success (with_reducible show wpAny _ _ (exec (Stmt.For _ _ _ _ _) _) _ _ _)); walk1) | ((fail_if_success (with_reducible show wpAny _ _ (exec (Stmt.While _ _ _ _) _) _ _ _)); (fail_if_success (with_reducible show wpAny _ _ (exec (Stmt.For _ _ _ _ _) _) _ _ _)); dsimp only; walk1) | (leave1; walk_say "STEP leave1"; try dsimp only) | fail "no step"))
local macro_rules | `(tactic| k_all) => `(tactic| first | assumption | exact allLt_ne (by assumption))
local macro_rules | `(tactic| walk_at "call builtin:list.append") => `(tactic| (k_here; (with_reducible show wpAny _ _ (call (Value.builtin _) [Value.ref _, _]) _ _ _); k_dflt (refine' hot_append ?F ?N ?U ?z ?_; (case F => k_asm); (case N => k_asm); (case U => k_upd); (case z => first | assumption | omega | (simp only [List.length_append, List.length_cons, List.length_nil]; omega)); k_whole); intro h' F' N'; (try k_sweep)))
local macro_rules | `(tactic| walk_at "truthy ref") => `(tactic| (k_here; k_dflt (refine' hot_truthy ?N ?m ?z ?_; (case N => k_asm); (case m => k_mem); (case z => first | assumption | omega); k_whole)))
local macro_rules | `(tactic| walk_at "subscriptTail Name UnaryOp ref int") => `(tactic| (k_here; (with_reducible show wpAny _ _ (subscriptTail _ _ (Value.ref _) (Value.int _ _)) _ _ _); (with_unfolding_all refine' hot_lastS ?N ?m ?S ?e ?_ ?r; (case N => k_asm); (case m => k_mem); (case S => assumption); (case e => assumption); (case r => with_unfolding_all rfl); k_whole); intro y8 t8 hy8 hz8))
local macro_rules | `(tactic| walk_at "call builtin:list.pop") => `(tactic| (k_here; (with_reducible show wpAny _ _ (call (Value.builtin _) [Value.ref _]) _ _ _); k_dflt (refine' hot_popS ?F ?N ?U ?z ?S ?e ?_; (case F => k_asm); (case N => k_asm); (case U => k_upd); (case z => first | assumption | omega); (case S => assumption); (case e => assumption); k_whole); intro h' y8 t8 F' N'; (try k_sweep)))
local macro_rules | `(tactic| walk_at "call builtin:str.join") => `(tactic| (k_here; (with_reducible show wpAny _ _ (call (Value.builtin _) [Value.str _ _, Value.ref _]) _ _ _); k_dflt (refine' hot_join ?N ?m ?c ?d ?S ?w ?o ?_; (case N => k_asm); (case m => k_mem); (case c => rfl); (case d => rfl); (case S => assumption); (case w => assumption); (case o => decide); k_whole); intro t8 k8 hj8))
local macro_rules | `(tactic| walk_at "subscriptTail Name Name ref int") => `(tactic| (k_here; (with_reducible show wpAny _ _ (subscriptTail _ _ (Value.ref _) (Value.int _ _)) _ _ _); (with_unfolding_all refine' hot_item ?N ?m ?D ?a ?b ?c ?_ ?r; (case N => k_asm); (case m => k_mem); (case D => assumption); (case a => omega); (case b => omega); (case c => omega); (case r => with_unfolding_all rfl); k_whole); intro v8 d8 hv8 hd8 hD8))
local macro_rules | `(tactic| walk_at "setItem ref int") => `(tactic| (k_here; (with_reducible show wpAny _ _ (PySem.setItem (Value.ref _) (Value.int _ _) _) _ _ _); k_dflt (refine' hot_set ?F ?N ?U ?l ?a ?b ?c ?_; (case F => k_asm); (case N => k_asm); (case U => k_upd); (case l => exact DatAll.length (by assumption)); (case a => omega); (case b => omega); (case c => omega); k_whole); intro h' F' N'; (try k_sweep)))
local macro_rules | `(tactic| walk_at "subscriptTail Name Constant ref int") => `(tactic| (k_here; (with_reducible show wpAny _ _ (subscriptTail _ _ (Value.ref _) (Value.int _ _)) _ _ _); (with_unfolding_all refine' hot_item ?N ?m ?D ?a ?b ?c ?_ ?r; (case N => k_asm); (case m => k_mem); (case D => assumption); (case a => omega); (case b => omega); (case c => omega); (case r => with_unfolding_all rfl); k_whole); intro v8 d8 hv8 hd8 hD8))
local macro_rules | `(tactic| walk_at "call builtin:list.pop") => `(tactic| (k_here; (with_reducible show wpAny _ _ (call (Value.builtin _) [Value.ref _]) _ _ _); k_dflt (refine' hot_popD ?F ?N ?U ?z ?D ?e ?_; (case F => k_asm); (case N => k_asm); (case U => k_upd); (case z => omega); (case D => assumption); (case e => omega); k_whole); intro h' v8 d8 F' N' hd8 hD8 hA8; (try k_sweep)))
local macro_rules | `(tactic| walk_at "call builtin:len") => `(tactic| (k_here; (with_reducible show wpAny _ _ (call (Value.builtin "len") [Value.ref _]) _ _ _); k_dflt (refine' hot_len ?N ?m ?c ?d ?z ?_; (case N => k_asm); (case m => k_mem); (case c => rfl); (case d => rfl); (case z => first | assumption | omega | (simp only [List.length_append, List.length_cons, List.length_nil, List.length_set]; omega)); k_whole)))
set_option maxHeartbeats 8000000 in
theorem heappush_c {w : World} {p : Program} {loose : List Str} {mean : ExcName → Option Value} {mg mb : Str → Option Value} {rest cold : List (Addr × Obj)} {D : Addr} {ws : List Value} {c : Nat} {ds : List Dat} {k : Nat}
  {dp un : Nat} {gd : Option (List Code)} {env : Env} {outer : List Env} {A₀ : Around} {base h₀ : Heap} {L : Addr} {m : Str → Option Value} {s : Shared} {Q E : Value → Shared → Prop} {v : Value} {d : Dat}
  (B : Below A₀ base outer h₀) (F : Fr h₀ L s.heap m) (X : (hd.heap_39 w.params).In h₀) (N : News h₀ L s.heap ((D, W.listOf ws.toArray c) :: rest)) (hne : ∀ p ∈ rest, p.1 ≠ D) (hcold : ∀ p ∈ cold, p ∈ rest) (hD : DatAll cold ws ds) (hz : ds.length ≤ 100000) (hok : ∀ a ∈ ds, kqdOk k a = true) (hcmp : ∀ a ∈ ds, ∀ b ∈ ds, dcmp k a b = true) (hk9 : k ≤ 4) (T : Top p loose mean mg mb h₀)
  (hf : env.frame = some L) (hk : env.scope.kind = .function) (hd : dp + 2 < recursionLimit) (hu : un + 32 < cLine) (hz2 : ds.length < 100000) (hd8 : DatIn cold v d) (hok2 : ∀ a ∈ ds ++ [d], kqdOk k a = true) (hcmp2 : ∀ a ∈ ds ++ [d], ∀ b ∈ ds ++ [d], dcmp k a b = true)
  (ret : ∀  ws1 c1 h1 tk, Fr h₀ L h1 m → News h₀ L h1 ((D, W.listOf ws1.toArray c1) :: rest) → DatAll cold ws1 (pushF (dlt k) ds d) → Q (.none) { s with heap := h1, toks := tk }) :
  wpAny (model Challenge.rw_ik0112_01.row.prog w) { handled := none, depth := dp, frames := some (env :: outer), guards := gd, units := un } (call (.ref 162) [.ref D, v]) Q E s := by
  revert X; k_fill; intro X
  refine wpAny_call ?_
  k_dflt (refine' code_def ?k1 ?k2 ?k3 ?k4 ?k5 ?kA ?kF ?kK ?k6 ?k7 ?k8 ?k9 ?kB ?_ ?c2 ?c3 ?c4 ?c5; (case kA => exact rfl); (case kF => exact hf); (case kK => exact hk); (case k1 => k_asm); (case k2 => k_asm); (case k3 => k_asm); (case k4 => k_asm); (case k5 => k_asm); (case k6 => k_is); (case k7 => k_is); (case k8 => exact Nat.lt_of_le_of_lt (Nat.le_add_right _ _) hd); (case k9 => exact BindsTo.of_eq rfl); (case c5 => decide); (case kB => exact locs rfl); (case c2 => exact rfl); (case c3 => exact rfl); (case c4 => exact rfl); k_whole; intro g' L' h' FG' F' N' B' X' T'; (try dsimp only); (try k_fold))
  have hlen := hD.length
  ktr_unf
  have e1 : ((ws ++ [v]).length : Int) - 1 = ((ds.length : Nat) : Int) := by rw [List.length_append, List.length_singleton]; omega
  rw [e1]
  refine siftdown_c (a := 0) (b := ds.length) (ds := ds ++ [d]) (x := d) (k := k) (by assumption) (by assumption) (by assumption) (by assumption) hne hcold (DatAll.append hD (DatAll.one hd8)) (by rw [List.length_append, List.length_singleton]; omega) hok2 hcmp2 hk9 (by assumption) rfl rfl (by ktr_room) (by ktr_units) (by rw [List.length_append, List.length_singleton]; omega) (by simp) ?_
  intro ws2 c2 h2 tk2 F2 N2 D2
  (try dsimp only)
  ktr_unf
  exact ret _ _ _ _ (by assumption) (by assumption) D2
set_option maxHeartbeats 8000000 in
theorem heappop_c {w : World} {p : Program} {loose : List Str} {mean : ExcName → Option Value} {mg mb : Str → Option Value} {rest cold : List (Addr × Obj)} {D : Addr} {ws : List Value} {c : Nat} {ds : List Dat} {k : Nat}
  {dp un : Nat} {gd : Option (List Code)} {env : Env} {outer : List Env} {A₀ : Around} {base h₀ : Heap} {L : Addr} {m : Str → Option Value} {s : Shared} {Q E : Value → Shared → Prop} {d0 : Dat}
  (B : Below A₀ base outer h₀) (F : Fr h₀ L s.heap m) (X : (hd.heap_39 w.params).In h₀) (N : News h₀ L s.heap ((D, W.listOf ws.toArray c) :: rest)) (hne : ∀ p ∈ rest, p.1 ≠ D) (hcold : ∀ p ∈ cold, p ∈ rest) (hD : DatAll cold ws ds) (hz : ds.length ≤ 100000) (hok : ∀ a ∈ ds, kqdOk k a = true) (hcmp : ∀ a ∈ ds, ∀ b ∈ ds, dcmp k a b = true) (hk9 : k ≤ 4) (T : Top p loose mean mg mb h₀)
  (hf : env.frame = some L) (hk : env.scope.kind = .function) (hd : dp + 3 < recursionLimit) (hu : un + 48 < cLine) (hp : 0 < ds.length)
  (ret : ∀ v ws1 c1 h1 tk, Fr h₀ L h1 m → News h₀ L h1 ((D, W.listOf ws1.toArray c1) :: rest) → DatIn cold v (popF (dlt k) ds d0).1 → DatAll cold ws1 (popF (dlt k) ds d0).2 → Q v { s with heap := h1, toks := tk }) :
  wpAny (model Challenge.rw_ik0112_01.row.prog w) { handled := none, depth := dp, frames := some (env :: outer), guards := gd, units := un } (call (.ref 169) [.ref D]) Q E s := by
  revert X; k_fill; intro X
  refine wpAny_call ?_
  k_dflt (refine' code_def ?k1 ?k2 ?k3 ?k4 ?k5 ?kA ?kF ?kK ?k6 ?k7 ?k8 ?k9 ?kB ?_ ?c2 ?c3 ?c4 ?c5; (case kA => exact rfl); (case kF => exact hf); (case kK => exact hk); (case k1 => k_asm); (case k2 => k_asm); (case k3 => k_asm); (case k4 => k_asm); (case k5 => k_asm); (case k6 => k_is); (case k7 => k_is); (case k8 => exact Nat.lt_of_le_of_lt (Nat.le_add_right _ _) hd); (case k9 => exact BindsTo.of_eq rfl); (case c5 => decide); (case kB => exact locs rfl); (case c2 => exact rfl); (case c3 => exact rfl); (case c4 => exact rfl); k_whole; intro g' L' h' FG' F' N' B' X' T'; (try dsimp only); (try k_fold))
  have hlen := hD.length
  ktr_unf
  dsimp only
  rename News _ _ _ _ => lN'
  rename Fr _ _ _ _ => lF'
  refine' hot_popD (ws := ws) (ds := ds) lF' lN' ?U ?z ?D ?e ?_
  case U => k_upd
  case z => omega
  case D => assumption
  case e => omega
  intro h9 v9 d9 F9 N9 hd9 hD9 hA9
  have hlast : ds.getLastD d0 = d9 := by rw [List.getLastD_eq_getLast?, hd9]; rfl
  have hlen2 := hA9.length
  rw [List.length_dropLast, List.length_dropLast] at hlen2
  have hdl : ws.dropLast.length = ds.dropLast.length := hA9.length
  clear lF' lN'
  have hq9 : ws.dropLast.length = ws.length - 1 := List.length_dropLast
  have hz9 : ws.dropLast.length ≤ 1000000 := by rw [List.length_dropLast]; omega
  have hmem9 : d9 ∈ ds := List.mem_of_getLast? hd9
  have hsub : ∀ a ∈ ds.dropLast, a ∈ ds := fun a ha => List.dropLast_subset _ ha
  try dsimp only
  ktr_unf
  · rename ds.dropLast[_]? = _ => hd0
    rename DatIn _ _ _ => hD0
    have e0 : Int.toNat 0 = 0 := rfl
    rw [e0] at hd0
    obtain ⟨a, r, har⟩ : ∃ a r, ds.dropLast = a :: r := by
      cases hq : ds.dropLast with
      | nil => rw [hq] at hd0; cases hd0
      | cons a r => exact ⟨a, r, rfl⟩
    rw [har] at hd0 hsub
    have ea : a = _ := Option.some.inj hd0
    rw [← ea] at hD0
    have hpop : popF (dlt k) ds d0 = (a, siftupF (dlt k) (d9 :: r) 0 d9) := by unfold popF; rw [har, hlast]
    rw [hpop] at ret
    have hA0 : DatAll cold (ws.dropLast.set 0 v9) (d9 :: r) := by
      have := DatAll.set hA9 0 hD9
      rw [har] at this; exact this
    have hsub2 : ∀ a ∈ d9 :: r, a ∈ ds := fun b hb => by
      rcases List.mem_cons.mp hb with rfl | hb
      · exact hmem9
      · exact hsub b (.tail _ hb)
    have hl9 := hA0.length
    rw [List.length_set] at hl9
    refine siftup_c (a := 0) (ds := d9 :: r) (x := d9) (k := k) (by assumption) (by assumption) (by assumption) (by assumption) hne hcold hA0 (by omega) (fun a ha => hok a (hsub2 a ha)) (fun a ha b hb => hcmp a (hsub2 a ha) b (hsub2 b hb)) hk9 (by assumption) rfl rfl (by ktr_room) (by ktr_units) (Nat.succ_pos _) rfl ?_
    intro ws2 c2 h2 tk2 F2 N2 D2
    (try dsimp only)
    ktr_unf
    exact ret _ _ _ _ _ (by assumption) (by assumption) hD0 D2
  · have hnil : ds.dropLast = [] := List.eq_nil_of_length_eq_zero (by omega)
    have hpop : popF (dlt k) ds d0 = (d9, []) := by unfold popF; rw [hnil, hlast]
    rw [hpop] at ret
    have hw : ws.dropLast = [] := List.eq_nil_of_length_eq_zero (by omega)
    refine ret _ ws.dropLast _ _ _ (by assumption) (by assumption) hD9 ?_
    rw [hw]; exact .nil
set_option maxHeartbeats 8000000 in
theorem heaprep_c {w : World} {p : Program} {loose : List Str} {mean : ExcName → Option Value} {mg mb : Str → Option Value} {rest cold : List (Addr × Obj)} {D : Addr} {ws : List Value} {c : Nat} {ds : List Dat} {k : Nat}
  {dp un : Nat} {gd : Option (List Code)} {env : Env} {outer : List Env} {A₀ : Around} {base h₀ : Heap} {L : Addr} {m : Str → Option Value} {s : Shared} {Q E : Value → Shared → Prop} {v : Value} {d x : Dat}
  (B : Below A₀ base outer h₀) (F : Fr h₀ L s.heap m) (X : (hd.heap_39 w.params).In h₀) (N : News h₀ L s.heap ((D, W.listOf ws.toArray c) :: rest)) (hne : ∀ p ∈ rest, p.1 ≠ D) (hcold : ∀ p ∈ cold, p ∈ rest) (hD : DatAll cold ws ds) (hz : ds.length ≤ 100000) (hok : ∀ a ∈ ds, kqdOk k a = true) (hcmp : ∀ a ∈ ds, ∀ b ∈ ds, dcmp k a b = true) (hk9 : k ≤ 4) (T : Top p loose mean mg mb h₀)
  (hf : env.frame = some L) (hk : env.scope.kind = .function) (hd : dp + 3 < recursionLimit) (hu : un + 48 < cLine) (hx : ds[0]? = some x) (hd8 : DatIn cold v d) (hok2 : ∀ a ∈ ds ++ [d], kqdOk k a = true) (hcmp2 : ∀ a ∈ ds ++ [d], ∀ b ∈ ds ++ [d], dcmp k a b = true)
  (ret : ∀ u ws1 c1 h1 tk, Fr h₀ L h1 m → News h₀ L h1 ((D, W.listOf ws1.toArray c1) :: rest) → DatIn cold u x → DatAll cold ws1 (siftupF (fun p q => dlt k q p) (ds.set 0 d) 0 d) → Q u { s with heap := h1, toks := tk }) :
  wpAny (model Challenge.rw_ik0112_01.row.prog w) { handled := none, depth := dp, frames := some (env :: outer), guards := gd, units := un } (call (.ref 176) [.ref D, v]) Q E s := by
  revert X; k_fill; intro X
  refine wpAny_call ?_
  k_dflt (refine' code_def ?k1 ?k2 ?k3 ?k4 ?k5 ?kA ?kF ?kK ?k6 ?k7 ?k8 ?k9 ?kB ?_ ?c2 ?c3 ?c4 ?c5; (case kA => exact rfl); (case kF => exact hf); (case kK => exact hk); (case k1 => k_asm); (case k2 => k_asm); (case k3 => k_asm); (case k4 => k_asm); (case k5 => k_asm); (case k6 => k_is); (case k7 => k_is); (case k8 => exact Nat.lt_of_le_of_lt (Nat.le_add_right _ _) hd); (case k9 => exact BindsTo.of_eq rfl); (case c5 => decide); (case kB => exact locs rfl); (case c2 => exact rfl); (case c3 => exact rfl); (case c4 => exact rfl); k_whole; intro g' L' h' FG' F' N' B' X' T'; (try dsimp only); (try k_fold))
  have hlen := hD.length
  have h0 : 0 < ds.length := (List.getElem?_eq_some_iff.mp hx).1
  ktr_unf
  rename ds[_]? = _ => hd9
  rename DatIn _ _ _ => hD9
  have e0 : Int.toNat 0 = 0 := rfl
  rw [e0, hx] at hd9
  cases hd9
  have hsub : ∀ a ∈ ds.set 0 d, a ∈ ds ++ [d] := set_sub (fun a ha => List.mem_append_left _ ha) (List.mem_append_right _ (List.mem_singleton.mpr rfl))
  refine siftupmax_c (a := 0) (ds := ds.set 0 d) (x := d) (k := k) (by assumption) (by assumption) (by assumption) (by assumption) hne hcold (DatAll.set hD 0 hd8) (by rw [List.length_set]; omega) (fun a ha => hok2 a (hsub a ha)) (fun a ha b hb => hcmp2 a (hsub a ha) b (hsub b hb)) hk9 (by assumption) rfl rfl (by ktr_room) (by ktr_units) (by rw [List.length_set]; exact h0) (by rw [List.getElem?_set_self h0]) ?_
  intro ws2 c2 h2 tk2 F2 N2 D2
  (try dsimp only)
  ktr_unf
  exact ret _ _ _ _ _ (by assumption) (by assumption) hD9 D2
end Mine
namespace Mine
theorem top_off_A21 : True := by
  w_top off
  trivial
local macro_rules | `(tactic| ktr_unf) => `(tactic| repeat' (first | (k_unfold; (try dsimp only)) | (k_end; wrow_close) | ((fail_if_success (with_reducible show LCg.CompEnd _ _ _ _ _ _ _ _ _ _ _ _ _ _)); (fail_if_success (with_reducible show LCt.CompSrcT _ _ _ _ _ _ _ _ _ _ _ _ _ _ _)); (fail_if_success (with_reducible show LCg.CompSrc _ _ _ _ _ _ _ _ _ _ _ _ _ _)); (fail_if_success (with_reducible show wpAny _ _ (exec (Stmt.While _ _ _ _) _) _ _ _)); (fail_if_success (with_reducible show wpAny _ _ (exec (Stmt.For _ _ _ _ _) _) _ _ _)); (fail_if_success (with_reducible show wpAny _ _ (pyIter (Value.ref _)) _ _ _)); (fail_if_success (with_reducible show wpAny _ _ (compareOp CmpOp.NotEq (Value.ref _) (Value.ref _)) _ _ _)); (fail_if_success (with_reducible show wpAny _ _ (compareOp CmpOp.NotIn _ (Value.ref _)) _ _ _)); (fail_if_success (with_reducible show wpAny _ _ (call (Value.ref 169) _) _ _ _)); (fail_if_success (with_reducible show wpAny _ _ (call (Value.ref 162) _) _ _ _)); (fail_if_success (with_reducible show wpAny _ _ (call (Value.ref 136) _) _ _ _)); walk1) | ((fail_if_success (with_reducible show LCg.CompEnd _ _ _ _ _ _ _ _ _ _ _ _ _ _)); (fail_if_success (with_reducible show LCt.CompSrcT _ _ _ _ _ _ _ _ _ _ _ _ _ _ _)); (fail_if_success (with_reducible show LCg.CompSrc _ _ _ _ _ _ _ _ _ _ _ _ _ _)); (fail_if_success (with_reducible show wpAny _ _ (exec (Stmt.While _ _ _ _) _) _ _ _)); (fail_if_success (with_reducible show wpAny _ _ (exec (Stmt.For _ _ _ _ _) _) _ _ _)); (fail_if_success (with_reducible show wpAny _ _ (pyIter (Value.ref _)) _ _ _)); (fail_if_success (with_reducible show wpAny _ _ (compareOp CmpOp.NotEq (Value.ref _) (Value.ref _)) _ _ _)); (fail_if_success (with_reducible show wpAny _ _ (compareOp CmpOp.NotIn _ (Value.ref _)) _ _ _)); (fail_if_success (with_reducible show wpAny _ _ (call (Value.ref 169) _) _ _ _)); (fail_if_success (with_reducible show wpAny _ _ (call (Value.ref 162) _) _ _ _)); (fail_if_success (with_reducible show wpAny _ _ (call (Value.ref 136) _) _ _ _)); dsimp only; walk1) | (leave1; walk_say "STEP leave1"; try dsimp only) | fail "no step"))
local macro_rules | `(tactic| k_all) => `(tactic| first | assumption | exact allLt_ne (by assumption) | exact allLt_ne (And.right (by assumption)) | exact allLt_ne (And.right (And.right (by assumption))) | exact allLt_ne (And.right (And.right (And.right (by assumption)))) | exact allLt_ne (And.right (And.right (And.right (And.right (by assumption))))) | exact allLt_ne (And.right (And.right (And.right (And.right (And.right (by assumption)))))) | exact allLt_ne (And.right (And.right (And.right (And.right (And.right (And.right (by assumption))))))) | exact allLt_ne (And.right (And.right (And.right (And.right (And.right (And.right (And.right (by assumption)))))))) | exact allLt_ne (And.right (And.right (And.right (And.right (And.right (And.right (And.right (And.right (by assumption))))))))))
local macro_rules | `(tactic| walk_at "call builtin:list.append") => `(tactic| (k_here; (with_reducible show wpAny _ _ (call (Value.builtin _) [Value.ref _, _]) _ _ _); k_dflt (refine' hot_append ?F ?N ?U ?z ?_; (case F => k_asm); (case N => k_asm); (case U => k_upd); (case z => first | with_reducible assumption | omega | (simp only [List.length_append, List.length_cons, List.length_nil]; omega)); k_whole); intro h' F' N'; (try k_sweep)))
local macro_rules | `(tactic| walk_at "truthy ref") => `(tactic| (k_here; k_dflt (refine' hot_truthy ?N ?m ?z ?_; (case N => k_asm); (case m => k_mem); (case z => first | with_reducible assumption | omega); k_whole)))
local macro_rules | `(tactic| walk_at "subscriptTail Name UnaryOp ref int") => `(tactic| (k_here; (with_reducible show wpAny _ _ (subscriptTail _ _ (Value.ref _) (Value.int _ _)) _ _ _); (with_unfolding_all refine' hot_lastS ?N ?m ?S ?e ?_ ?r; (case N => k_asm); (case m => k_mem); (case S => assumption); (case e => assumption); (case r => with_unfolding_all rfl); k_whole); intro y8 t8 hy8 hz8))
local macro_rules | `(tactic| walk_at "call builtin:list.pop") => `(tactic| (k_here; (with_reducible show wpAny _ _ (call (Value.builtin _) [Value.ref _]) _ _ _); k_dflt (refine' hot_popS ?F ?N ?U ?z ?S ?e ?_; (case F => k_asm); (case N => k_asm); (case U => k_upd); (case z => first | with_reducible assumption | omega); (case S => assumption); (case e => assumption); k_whole); intro h' y8 t8 F' N'; (try k_sweep)))
local macro_rules | `(tactic| walk_at "call builtin:str.join") => `(tactic| (k_here; (with_reducible show wpAny _ _ (call (Value.builtin _) [Value.str _ _, Value.ref _]) _ _ _); k_dflt (refine' hot_join ?N ?m ?c ?d ?S ?w ?o ?_; (case N => k_asm); (case m => k_mem); (case c => rfl); (case d => rfl); (case S => assumption); (case w => assumption); (case o => decide); k_whole); intro t8 k8 hj8))
local macro_rules | `(tactic| walk_at "call builtin:len") => `(tactic| (k_here; (with_reducible show wpAny _ _ (call (Value.builtin "len") [Value.ref _]) _ _ _); k_dflt (refine' hot_len ?N ?m ?c ?d ?z ?_; (case N => k_asm); (case m => k_mem); (case c => rfl); (case d => rfl); (case z => first | with_reducible assumption | omega | (simp only [List.length_append, List.length_cons, List.length_nil, List.length_set]; omega)); k_whole)))
local macro_rules | `(tactic| walk_at "subscriptTail Name Name ref int") => `(tactic| (k_here; (with_reducible show wpAny _ _ (subscriptTail _ _ (Value.ref _) (Value.int _ _)) _ _ _); (with_unfolding_all refine' hot_itemS ?N ?m ?c ?d ?S ?a ?b ?x ?_ ?r; (case N => k_asm); (case m => k_mem); (case c => rfl); (case d => rfl); (case S => assumption); (case a => omega); (case b => omega); (case x => omega); (case r => with_unfolding_all rfl); k_whole); intro y8 t8 hy8 hz8))
local macro_rules | `(tactic| walk_at "subscriptTail Name Constant ref int") => `(tactic| (k_here; (with_reducible show wpAny _ _ (subscriptTail _ _ (Value.ref _) (Value.int _ _)) _ _ _); (with_unfolding_all refine' hot_itemS ?N ?m ?c ?d ?S ?a ?b ?x ?_ ?r; (case N => k_asm); (case m => k_mem); (case c => rfl); (case d => rfl); (case S => assumption); (case a => omega); (case b => omega); (case x => omega); (case r => with_unfolding_all rfl); k_whole); intro y8 t8 hy8 hz8))
local macro_rules | `(tactic| walk_at "subscriptTail Name Slice ref ref") => `(tactic| (k_here; (with_reducible show wpAny _ _ (subscriptTail _ (PySem.Expr.Slice _ _ none _) (Value.ref _) (Value.ref _)) _ _ _); k_dflt (refine' hot_slice ?F ?N ?m ?c ?d ?p ?q ?_ ?s ?t ?z; (case F => k_asm); (case N => k_asm); (case m => k_mem); (case c => exact rfl); (case d => exact rfl); (case p => kmk_part); (case q => kmk_part); (case s => with_unfolding_all rfl); (case t => kmk_pure); (case z => first | omega | (refine split_room (by assumption) ?_; omega))); intro D' h' F' N' l1; (try k_lt l1); (try k_sweep)))
local macro_rules | `(tactic| walk_at "subscriptTail Name Slice ref ref") => `(tactic| (k_here; (with_reducible show wpAny _ _ (subscriptTail _ (PySem.Expr.Slice none none (some _) _) (Value.ref _) (Value.ref _)) _ _ _); k_dflt (refine' hot_rev ?F ?N ?m ?c ?d ?p ?_ ?s ?t ?z; (case F => k_asm); (case N => k_asm); (case m => k_mem); (case c => exact rfl); (case d => exact rfl); (case p => exact IsPart.int _ _); (case s => with_unfolding_all rfl); (case t => kmk_pure); (case z => first | omega | (refine split_room (by assumption) ?_; omega))); intro D' h' F' N' l1; (try k_lt l1); (try k_sweep)))
local macro_rules | `(tactic| walk_at "eval ListComp") => `(tactic| (k_here; k_dflt (refine LCg.ListComp_U (F₀ := by k_asm) (by with_unfolding_all rfl) (by decide) (by rfl) (by decide) (by rfl) ?_)))
local macro_rules | `(tactic| walk_at "exec Assign cons ListComp") => `(tactic| (k_here; k_dflt (refine LCg.Assign_ListComp_U (F₀ := by k_asm) (by rfl) (by with_unfolding_all rfl) (by with_unfolding_all rfl) (by decide) (by rfl) (by decide) (by rfl) (by rfl) (by rfl) ?_)))
local macro_rules | `(tactic| walk_at "subscriptTail Name Constant ref int") => `(tactic| (k_here; (with_reducible show wpAny _ _ (subscriptTail _ _ (Value.ref _) (Value.int _ _)) _ _ _); k_dflt (refine' item_tupleT ?t ?a ?b ?c ?d ?_; (case t => exact News.isTup (by k_asm) (by first | with_reducible assumption | k_mem)); (case a => decide); (case b => decide); (case c => rfl); (case d => rfl); k_whole)))
local macro_rules | `(tactic| walk_at "newList") => `(tactic| (k_here; k_dflt (refine' newList_K ?k1 ?k2 ?_ ?z; (case k1 => k_asm); (case k2 => k_asm); (case z => first | exact Nat.le_trans (m := 1) (Nat.le_refl _) (size_ok (by omega)) | exact Nat.le_trans (m := 0) (Nat.le_refl _) (size_ok (by omega)) | exact Nat.le_trans (m := 2) (Nat.le_refl _) (size_ok (by omega)) | exact Nat.le_trans (m := 3) (Nat.le_refl _) (size_ok (by omega))); k_whole); intro l' h' F' N' l1; (try k_lt l1); (try k_sweep)))
local macro_rules | `(tactic| k_mem) => `(tactic| ((repeat (first | (with_reducible exact List.mem_cons_self) | (with_reducible refine List.mem_append_right _ ?_) | (with_reducible refine List.mem_cons_of_mem _ ?_))); done))
local macro_rules | `(tactic| walk_at "call ref") => `(tactic| (k_here; (with_reducible show wpAny _ _ (call (Value.ref 143) _) _ _ _); k_dflt (refine' dirname_c ?B ?F ?X ?N ?T ?hf ?hk ?hd ?hu ?h1 ?_; (case B => k_asm); (case F => k_asm); (case X => k_asm); (case N => k_asm); (case T => k_asm); (case hf => exact rfl); (case hk => exact rfl); (case hd => ktr_room); (case hu => ktr_units); (case h1 => omega); k_whole; intro t9 h9 tk9 F9 N9; (try dsimp only); (try k_fold))))
local macro_rules | `(tactic| walk_at "call ref") => `(tactic| (k_here; (with_reducible show wpAny _ _ (call (Value.ref 136) _) _ _ _); k_dflt (refine' basename_c ?B ?F ?X ?N ?T ?hf ?hk ?hd ?hu ?h1 ?_; (case B => k_asm); (case F => k_asm); (case X => k_asm); (case N => k_asm); (case T => k_asm); (case hf => exact rfl); (case hk => exact rfl); (case hd => ktr_room); (case hu => ktr_units); (case h1 => omega); k_whole; intro t9 h9 tk9 F9 N9; (try dsimp only); (try k_fold))))
local macro_rules | `(tactic| walk_at "call ref") => `(tactic| (k_here; (with_reducible show wpAny _ _ (call (Value.ref 115) _) _ _ _); k_dflt (refine' join_c ?B ?F ?X ?N ?T ?hf ?hk ?hd ?hu ?h1 ?h2 ?_; (case B => k_asm); (case F => k_asm); (case X => k_asm); (case N => k_asm); (case T => k_asm); (case hf => exact rfl); (case hk => exact rfl); (case hd => ktr_room); (case hu => ktr_units); (case h1 => omega); (case h2 => omega); k_whole; intro t9 h9 tk9 F9 N9; (try dsimp only); (try k_fold))))
local macro_rules | `(tactic| walk_at "call ref") => `(tactic| (k_here; (with_reducible show wpAny _ _ (call (Value.ref 150) _) _ _ _); k_dflt (refine' normpath_c ?B ?F ?X ?N ?T ?hf ?hk ?hd ?hu ?h1 ?h2 ?h3 ?h4 ?h5 ?_; (case B => k_asm); (case F => k_asm); (case X => k_asm); (case N => k_asm); (case T => k_asm); (case hf => exact rfl); (case hk => exact rfl); (case hd => ktr_room); (case hu => ktr_units); (case h1 => omega); (case h2 => with_reducible assumption); (case h3 => with_reducible assumption); (case h4 => with_reducible assumption); (case h5 => with_reducible assumption); k_whole; intro t9 h9 tk9 F9 N9; (try dsimp only); (try k_fold))))
theorem told_perm1 {α : Type} (t T H e a : α) (r : List α) : ∀ p ∈ H :: T :: e :: a :: r, p ∈ t :: T :: H :: e :: a :: r := by intro p hp; grind
theorem tp7 {α : Type} {H X I : α} {r : List α} : ∀ p ∈ I :: H :: X :: r, p ∈ H :: X :: I :: r := fun p hp => by
  rcases List.mem_cons.mp hp with rfl | hp
  · exact .tail _ (.tail _ (.head _))
  rcases List.mem_cons.mp hp with rfl | hp
  · exact .head _
  rcases List.mem_cons.mp hp with rfl | hp
  · exact .tail _ (.head _)
  exact .tail _ (.tail _ (.tail _ (hp)))
theorem tp5 {α : Type} {X I H : α} {r : List α} : ∀ p ∈ H :: X :: I :: r, p ∈ X :: I :: H :: r := fun p hp => by
  rcases List.mem_cons.mp hp with rfl | hp
  · exact .tail _ (.tail _ (.head _))
  rcases List.mem_cons.mp hp with rfl | hp
  · exact .head _
  rcases List.mem_cons.mp hp with rfl | hp
  · exact .tail _ (.head _)
  exact .tail _ (.tail _ (.tail _ (hp)))
theorem tp4 {α : Type} {N D H T I : α} {r : List α} : ∀ p ∈ H :: N :: D :: T :: I :: r, p ∈ N :: D :: H :: T :: I :: r := fun p hp => by
  rcases List.mem_cons.mp hp with rfl | hp
  · exact .tail _ (.tail _ (.head _))
  rcases List.mem_cons.mp hp with rfl | hp
  · exact .head _
  rcases List.mem_cons.mp hp with rfl | hp
  · exact .tail _ (.head _)
  rcases List.mem_cons.mp hp with rfl | hp
  · exact .tail _ (.tail _ (.tail _ (.head _)))
  rcases List.mem_cons.mp hp with rfl | hp
  · exact .tail _ (.tail _ (.tail _ (.tail _ (.head _))))
  exact .tail _ (.tail _ (.tail _ (.tail _ (.tail _ (hp)))))
theorem tp1 {α : Type} {l I H T : α} {r : List α} : ∀ p ∈ H :: T :: I :: r, p ∈ l :: I :: H :: T :: r := fun p hp => by
  rcases List.mem_cons.mp hp with rfl | hp
  · exact .tail _ (.tail _ (.head _))
  rcases List.mem_cons.mp hp with rfl | hp
  · exact .tail _ (.tail _ (.tail _ (.head _)))
  rcases List.mem_cons.mp hp with rfl | hp
  · exact .tail _ (.head _)
  exact .tail _ (.tail _ (.tail _ (.tail _ (hp))))
theorem tp2 {α : Type} {H T I : α} {r : List α} : ∀ p ∈ I :: H :: T :: r, p ∈ H :: T :: I :: r := fun p hp => by
  rcases List.mem_cons.mp hp with rfl | hp
  · exact .tail _ (.tail _ (.head _))
  rcases List.mem_cons.mp hp with rfl | hp
  · exact .head _
  rcases List.mem_cons.mp hp with rfl | hp
  · exact .tail _ (.head _)
  exact .tail _ (.tail _ (.tail _ (hp)))
theorem okE {e : Ent} (h : PyData.strOk e.2 = true) : ∀ k, kqdOk (k + 1) (encE e) = true := fun k => by cases k <;> simp [encE, kqdOk, h]
theorem okR {e : Row} (h1 : PyData.strOk e.2.1 = true) (h2 : PyData.strOk e.2.2 = true) : ∀ k, kqdOk (k + 1) (encR e) = true := fun k => by cases k <;> simp [encR, kqdOk, h1, h2]
theorem okE_all {G : Str → Prop} {st : List Ent × List Row} {i : Nat} (hGo : ∀ x, G x → PyData.strOk x = true) (h : TInv G st i) {k : Nat} : ∀ d ∈ st.1.map encE, kqdOk (k + 1) d = true := fun d hd => by
  obtain ⟨e, he, rfl⟩ := List.mem_map.mp hd
  exact okE (hGo _ (h.heap e he).1) k
theorem cmpE (H : List Ent) : ∀ a ∈ H.map encE, ∀ b ∈ H.map encE, dcmp 2 a b = true := fun a ha b hb => by
  obtain ⟨e, he, rfl⟩ := List.mem_map.mp ha
  obtain ⟨e, he, rfl⟩ := List.mem_map.mp hb
  rfl
theorem in_ent {cold : List (Addr × Obj)} {v : Value} {n : Nat} {x : Str} (h : DatIn cold v (encE (n, x))) : ∃ a t1 t2 k, v = .ref a ∧ (a, ({ cls := .type "tuple", data := .seq #[.int (n : Int) t1, .str x t2] k } : Obj)) ∈ cold := by
  unfold encE at h
  cases h with
  | tuple hm r => cases r with
    | cons h1 r => cases r with
      | cons h2 r => cases r; cases h1; cases h2; exact ⟨_, _, _, _, rfl, hm⟩
theorem in_row {cold : List (Addr × Obj)} {v : Value} {n : Nat} {x y : Str} (h : DatIn cold v (encR (n, x, y))) : ∃ a t1 t2 t3 k, v = .ref a ∧ (a, ({ cls := .type "tuple", data := .seq #[.int (n : Int) t1, .str x t2, .str y t3] k } : Obj)) ∈ cold := by
  unfold encR at h
  cases h with
  | tuple hm r => cases r with
    | cons h1 r => cases r with
      | cons h2 r => cases r with
        | cons h3 r => cases r; cases h1; cases h2; cases h3; exact ⟨_, _, _, _, _, rfl, hm⟩
theorem tp3 {h₀ h : Heap} {L : Addr} {H T I x : Addr × Obj} {r : List (Addr × Obj)} (hm : x ∈ r) (N : News h₀ L h (H :: T :: I :: r)) : News h₀ L h (x :: H :: T :: I :: r) := fun p hp => by
  rcases List.mem_cons.mp hp with rfl | hp
  · exact N _ (.tail _ (.tail _ (.tail _ hm)))
  · exact N _ hp
theorem tm6 {α : Type} {a b c d e f x : α} {r : List α} (h : x ∈ r) : x ∈ a :: b :: c :: d :: e :: f :: r := .tail _ (.tail _ (.tail _ (.tail _ (.tail _ (.tail _ h)))))
theorem strs_datT {news : List (Addr × Obj)} : ∀ {ws : List Value} {ys : List Str}, StrsAre ws ys → DatAll news ws (ys.map .str)
  | _, _, .nil => .nil
  | _, _, .cons y t r => .cons (.str y t) (strs_datT r)
theorem okS_all {G : Str → Prop} {st : List Ent × List Row} {i : Nat} (h : TInv G st i) {k : Nat} : ∀ d ∈ (st.2.map (fun r => r.2.2)).map Dat.str, kqdOk k d = true := fun d hd => by
  obtain ⟨e, he, rfl⟩ := List.mem_map.mp hd
  obtain ⟨r, hr, rfl⟩ := List.mem_map.mp he
  have := (h.told r hr).2
  cases k <;> simp [kqdOk, this]
theorem dstr_mem {y : Str} {l : List Str} : Dat.str y ∈ l.map Dat.str ↔ y ∈ l := ⟨fun h => by
  obtain ⟨z, hz, e⟩ := List.mem_map.mp h
  rw [← Dat.str.inj e]; exact hz, fun h => List.mem_map.mpr ⟨y, h, rfl⟩⟩
theorem dstr_in {y : Str} {l : List Str} (inst : Decidable (Dat.str y ∈ l.map Dat.str)) (h : y ∈ l) : (!@decide _ inst) = false := by
  rw [decide_eq_true (dstr_mem.mpr h)]; rfl
theorem dstr_out {y : Str} {l : List Str} (inst : Decidable (Dat.str y ∈ l.map Dat.str)) (h : y ∉ l) : (!@decide _ inst) = true := by
  rw [decide_eq_false (fun q => h (dstr_mem.mp q))]; rfl
theorem told_cap2 {h₀ h : Heap} {L n d : Addr} {H T I : Addr × Obj} {on : Obj} {sz : Nat} {tx pl : Str} {t1 t2 t3 : Tok} {r : List (Addr × Obj)} (N : News h₀ L h ((n, on) :: (d, { cls := .type "tuple", data := .seq #[.int (sz : Int) t1, .str tx t2, .str pl t3] }) :: H :: T :: I :: r)) :
    ∃ (n' d' : Addr) (od : Obj), n' = n ∧ d' = d ∧ DatIn [(d, od)] (.ref d) (encR (sz, tx, pl)) ∧ News h₀ L h ((n, on) :: (d, od) :: H :: T :: I :: r) :=
  ⟨_, _, _, rfl, rfl, .tuple (vs := [.int (sz : Int) t1, .str tx t2, .str pl t3]) (.head _) (.cons (.int _ _) (.cons (.str _ _) (.cons (.str _ _) .nil))), N⟩
def kidP (place q : Str) : Bool := decide (dirnameW q = place) && decide (q ≠ place)
theorem kid_snoc {places : List Str} {pl q : Str} {k : Nat} (hq : places[k]? = some q) (h1 : (dirnameW q == pl) = true) (h2 : (q != pl) = true) : Str.ofString ".." :: ((places.take (k + 1)).filter (kidP pl)).map basenameW = (Str.ofString ".." :: ((places.take k).filter (kidP pl)).map basenameW) ++ [basenameW q] := by
  have e : kidP pl q = true := by unfold kidP; rw [decide_eq_true (beq_iff_eq.mp h1), decide_eq_true (by simpa using h2)]; rfl
  rw [List.take_add_one, hq, List.filter_append, List.map_append, List.cons_append]
  simp [e]
theorem kid_skip2 {places : List Str} {pl q : Str} {k : Nat} (hq : places[k]? = some q) (h2 : (q != pl) = false) : Str.ofString ".." :: ((places.take (k + 1)).filter (kidP pl)).map basenameW = (Str.ofString ".." :: ((places.take k).filter (kidP pl)).map basenameW) := by
  have e : kidP pl q = false := by unfold kidP; rw [decide_eq_false (p := q ≠ pl) (by simpa using h2), Bool.and_false]
  rw [List.take_add_one, hq, List.filter_append, List.map_append]
  simp [e]
theorem kid_skip1 {places : List Str} {pl q : Str} {k : Nat} (hq : places[k]? = some q) (h2 : (dirnameW q == pl) = false) : Str.ofString ".." :: ((places.take (k + 1)).filter (kidP pl)).map basenameW = (Str.ofString ".." :: ((places.take k).filter (kidP pl)).map basenameW) := by
  have e : kidP pl q = false := by unfold kidP; rw [decide_eq_false (p := dirnameW q = pl) (by simpa using h2), Bool.false_and]
  rw [List.take_add_one, hq, List.filter_append, List.map_append]
  simp [e]
theorem tall {h : Addr} {l : List (Addr × Obj)} (hl : AllLt h l) : ∀ p ∈ l, @Ne Nat h p.1 := fun p hp => Nat.ne_of_gt (allLt_lt hl p hp)
theorem told_cap3 {h₀ h : Heap} {L x : Addr} {n : Nat} {jn : Str} {t1 t2 : Tok} {r : List (Addr × Obj)} (N : News h₀ L h ((x, { cls := .type "tuple", data := .seq #[.int (n : Int) t1, .str jn t2] }) :: r)) (hl : AllLt x r) :
    ∃ (x' : Addr) (ox : Obj), x' = x ∧ DatIn [(x, ox)] (.ref x) (encE (n, jn)) ∧ News h₀ L h ((x, ox) :: r) ∧ AllLt x r :=
  ⟨_, _, rfl, .tuple (vs := [.int (n : Int) t1, .str jn t2]) (.head _) (.cons (.int _ _) (.cons (.str _ _) .nil)), N, hl⟩
theorem okE_allP {PA : List Ent} (h : ∀ e ∈ PA, PyData.strOk e.2 = true) {k : Nat} : ∀ d ∈ PA.map encE, kqdOk (k + 1) d = true := fun d hd => by
  obtain ⟨e, he, rfl⟩ := List.mem_map.mp hd
  exact okE (h e he) k
theorem okE_snoc {PA : List Ent} {n : Nat} {x : Str} (h : ∀ e ∈ PA, PyData.strOk e.2 = true) (hx : PyData.strOk x = true) {k : Nat} : ∀ d ∈ PA.map encE ++ [encE (n, x)], kqdOk (k + 1) d = true := fun d hd => by
  rcases List.mem_append.mp hd with hd | hd
  · exact okE_allP h d hd
  · rw [List.mem_singleton.mp hd]; exact okE hx k
theorem cmpE_snoc (PA : List Ent) (e : Ent) : ∀ a ∈ PA.map encE ++ [encE e], ∀ b ∈ PA.map encE ++ [encE e], dcmp 2 a b = true := by
  have := cmpE (PA ++ [e])
  rwa [List.map_append] at this
theorem tp6 {α : Type} {X I N D T I2 : α} {t3 r : List α} : ∀ p ∈ X :: (t3 ++ r), p ∈ X :: I :: (t3 ++ N :: D :: T :: I2 :: r) := fun p hp => by
  rcases List.mem_cons.mp hp with rfl | hp
  · exact .head _
  · rcases List.mem_append.mp hp with hp | hp
    · exact .tail _ (.tail _ (List.mem_append_left _ hp))
    · exact .tail _ (.tail _ (List.mem_append_right _ (.tail _ (.tail _ (.tail _ (.tail _ hp))))))
theorem toff {a : Addr} {t3 tl b : List (Addr × Obj)} {d : Addr × Obj} (h1 : ∀ p ∈ t3, p.1 ≠ a) (h2 : @Ne Nat d.1 a) (h3 : ∀ p ∈ tl ++ b, p.1 ≠ a) : ∀ p ∈ (t3 ++ d :: tl) ++ b, p.1 ≠ a := fun p hp => by
  rcases List.mem_append.mp hp with hp | hp
  · rcases List.mem_append.mp hp with hp | hp
    · exact h1 p hp
    · rcases List.mem_cons.mp hp with rfl | hp
      · exact h2
      · exact h3 p (List.mem_append_left _ hp)
  · exact h3 p (List.mem_append_right _ hp)
theorem tp8 {α : Type} (H N D T I : α) (t3 t b : List α) : ∀ p ∈ I :: H :: T :: ((t3 ++ D :: t) ++ b), p ∈ H :: (t3 ++ N :: D :: T :: I :: (t ++ b)) := by intro p hp; grind
theorem tp9 {α : Type} (D : α) (t3 t b : List α) : ∀ p ∈ t3 ++ (t ++ b), p ∈ (t3 ++ D :: t) ++ b := by intro p hp; grind
theorem tp10 {α : Type} (D H T e a : α) (t b : List α) : ∀ p ∈ (D :: H :: T :: (t ++ [e, a])) ++ b, p ∈ D :: H :: T :: (t ++ e :: a :: b) := by intro p hp; grind
theorem tp11 {α : Type} (D H T e a : α) (t b : List α) : ∀ p ∈ t ++ e :: a :: b, p ∈ (D :: H :: T :: (t ++ [e, a])) ++ b := by intro p hp; grind
theorem told_cap {h₀ h : Heap} {L t T H e : Addr} {a : Addr × Obj} {ot oT oH : Obj} {k1 k2 : Tok} {r : List (Addr × Obj)} (N : News h₀ L h ((t, ot) :: (T, oT) :: (H, oH) :: (e, { cls := .type "tuple", data := .seq #[.int 0 k1, .str (Str.ofString "") k2] }) :: a :: r)) :
    ∃ oe, DatIn ((e, oe) :: a :: r) (.ref e) (encE (0, Str.ofString "")) ∧ News h₀ L h ((H, oH) :: (T, oT) :: (e, oe) :: a :: r) :=
  ⟨_, .tuple (vs := [.int 0 k1, .str (Str.ofString "") k2]) (.head _) (.cons (.int _ _) (.cons (.str _ _) .nil)), cb_drop N (told_perm1 _ _ _ _ _ _)⟩
set_option maxHeartbeats 8000000 in
theorem told_c {w : World} {p : Program} {loose : List Str} {mean : ExcName → Option Value} {mg mb : Str → Option Value} {news : List (Addr × Obj)}
  {dp un : Nat} {gd : Option (List Code)} {env : Env} {outer : List Env} {A₀ : Around} {base h₀ : Heap} {L : Addr} {m : Str → Option Value} {s : Shared} {Q E : Value → Shared → Prop} {G : Str → Prop} {P : Addr} {wp : List Value} {cp : Nat} {start : Str} {ts : Tok} {places : List Str}
  (B : Below A₀ base outer h₀) (F : Fr h₀ L s.heap m) (X : (hd.heap_39 w.params).In h₀) (N : News h₀ L s.heap ((P, W.listOf wp.toArray cp) :: news)) (T : Top p loose mean mg mb h₀)
  (hf : env.frame = some L) (hk : env.scope.kind = .function) (hd : dp + 5 < recursionLimit) (hu : un + 300 < cLine) (hS : StrsAre wp places) (hpz : places.length ≤ 20) (hst : start.length ≤ 100) (hG0 : G (Str.ofString "")) (hGj : ∀ x y, G x → G y → G (joinW x y)) (hGd : G (Str.ofString "..")) (hGb : ∀ q ∈ places, G (basenameW q)) (hGo : ∀ x, G x → PyData.strOk x = true) (hpo : ∀ q ∈ places, q.length ≤ 100 ∧ PyData.strOk q = true) (hGn : ∀ t, G t → t.length ≤ 10000 → ((joinW start t).length : Int) ≠ 0 ∧ (Txt.slice (joinW start t) none (some 1) != Str.ofString "/") = false ∧ (Txt.slice (joinW start t) (some 1) (some 2) != Str.ofString "/") = true ∧ PyData.strOk (normW (joinW start t)) = true)
  (ret : ∀ D nw h1 tk, Fr h₀ L h1 m → News h₀ L h1 (nw ++ (P, W.listOf wp.toArray cp) :: news) → DatIn (nw ++ (P, W.listOf wp.toArray cp) :: news) (.ref D) (.tuple [.list ((toldW start places).2.map encR), .list ((toldW start places).1.map encE)]) → Q (.ref D) { s with heap := h1, toks := tk }) :
  wpAny (model Challenge.rw_ik0112_01.row.prog w) { handled := none, depth := dp, frames := some (env :: outer), guards := gd, units := un } (call (.ref 248) [.str start ts, .ref P]) Q E s := by
  revert X; k_fill; intro X
  refine wpAny_call ?_
  k_dflt (refine' code_def ?k1 ?k2 ?k3 ?k4 ?k5 ?kA ?kF ?kK ?k6 ?k7 ?k8 ?k9 ?kB ?_ ?c2 ?c3 ?c4 ?c5; (case kA => exact rfl); (case kF => exact hf); (case kK => exact hk); (case k1 => k_asm); (case k2 => k_asm); (case k3 => k_asm); (case k4 => k_asm); (case k5 => k_asm); (case k6 => k_is); (case k7 => k_is); (case k8 => exact Nat.lt_of_le_of_lt (Nat.le_add_right _ _) hd); (case k9 => exact BindsTo.of_eq rfl); (case c5 => decide); (case kB => exact locs rfl); (case c2 => exact rfl); (case c3 => exact rfl); (case c4 => exact rfl); k_whole; intro g' L' h' FG' F' N' B' X' T'; (try dsimp only); (try k_fold))
  have hpl := hS.len_eq
  ktr_unf
  refine LCg.CompSrc.ledger rfl (by k_asm) (by k_asm) (List.Mem.head _) (by rw [List.size_toArray, sizeLine_eq]; omega) ?_
  intro g5
  refine comp_all (fun i ys nw => nw = _ ∧ StrsAre ys ((places.take i).map dirnameW)) ⟨rfl, .nil⟩ ?turnA ?finA
  case turnA =>
    rintro i ys nw hi ⟨rfl, hY⟩ v I5 oI5 C5 oC5 D5 m5 h5 tk5 E5 hv5 hC5 hx5 F5 N5 off5 ne5
    rw [List.getElem?_toArray] at hv5
    obtain ⟨q, tq, rfl, hq⟩ := hS.item _ _ hv5
    have hql := (hpo q (List.mem_of_getElem? hq)).1
    ktr_unf
    refine' end_same (by assumption) (by assumption) off5 ?S5 ?_
    case S5 => exact Or.inr ⟨_, .head _, rfl, _, rfl⟩
    refine ⟨rfl, ?_⟩
    rw [List.take_add_one, hq, List.map_append]
    exact StrsAre.snoc hY _ _
  case finA =>
    rintro ya nw ⟨rfl, hYA⟩
    rw [List.size_toArray, hpl, List.take_length] at hYA
    ktr_unf
    (with_reducible rename Fr _ _ _ _ => lF')
    (with_reducible rename News _ _ _ _ => lN')
    obtain ⟨lt', lT, lH, lE, lA, et, eT, eH, ee, eA⟩ := cap5 lN'
    subst et eT eH ee eA
    refine For_invVF lF' rfl rfl ?_
    ktr_unf
    (with_reducible rename Fr _ _ _ _ => lF')
    (with_reducible rename News _ _ _ _ => lN')
    rename IsRange _ _ _ _ _ _ _ _ => hR
    obtain ⟨oE, hE0, N2⟩ := told_cap lN'
    have hHT : @Ne Nat lH lT := by k_ne
    refine iter_range0 (n := 2 * places.length + 1) rfl hR (by omega) (by omega) lF' N2 (fun I h' S => loop_hot2 S (fun p hp => nomatch hp) ?hne1 ?hne2 ?hd12 (fun lh lt i m' w1 w2 tl => m' (Str.ofString "heap") = some (.ref lh) ∧ m' (Str.ofString "told") = some (.ref lt) ∧ m' (Str.ofString "above") = some (.ref lA) ∧ m' (Str.ofString "places") = some (.ref P) ∧ (∃ t, m' (Str.ofString "start") = some (.str start t)) ∧
      DatAll (tl ++ (lE, oE) :: (lA, LCg.lst ya) :: (P, W.listOf wp.toArray cp) :: news) w1 ((iterN (toldStep start places) i ([(0, Str.ofString "")], [])).1.map encE) ∧
      DatAll (tl ++ (lE, oE) :: (lA, LCg.lst ya) :: (P, W.listOf wp.toArray cp) :: news) w2 ((iterN (toldStep start places) i ([(0, Str.ofString "")], [])).2.map encR)) ⟨rfl, rfl, rfl, rfl, ⟨_, rfl⟩, .cons hE0 .nil, .nil⟩ ?turn ?done)
    case hne1 => (k_all)
    case hne2 => (k_all)
    case hd12 => k_ne
    case turn =>
      rintro i v m₁ w1 n1 w2 n2 tl it h tk hi ⟨t0, rfl⟩ ⟨hm1, hm2, hm3, hm4, ⟨ts2, hm5⟩, hA1, hA2⟩ ho1 ho2 hI1 hI2 hoff F₁ N₁
      have F₂ := know (know (know (know (know F₁ (x := Str.ofString "heap") hm1) (x := Str.ofString "told") hm2) (x := Str.ofString "above") hm3) (x := Str.ofString "places") hm4) (x := Str.ofString "start") hm5
      have hinv := told_inv (start := start) hG0 hGj hGd hGb hGo (fun q hq => (hpo q hq).1) hpz (fun t h1 h2 => (hGn t h1 h2).2.2.2) i (by omega)
      have hst2 : iterN (toldStep start places) (i + 1) ([(0, Str.ofString "")], []) = toldStep start places (iterN (toldStep start places) i ([(0, Str.ofString "")], [])) := rfl
      generalize iterN (toldStep start places) i ([(0, Str.ofString "")], []) = st at *
      obtain ⟨H, Tl⟩ := st
      dsimp only at hA1 hA2
      clear F₁ lF' lN' N2 S
      ktr_unf
      (with_reducible rename Fr _ _ _ _ => lF')
      (with_reducible rename News _ _ _ _ => lN')
      refine kqd_ne lN' (.tail _ (.tail _ (.head _))) rfl rfl hA1 (fun p hp => .tail _ (.tail _ (.tail _ (.tail _ hp)))) (.head _) rfl rfl (DatAll.nil (news := [])) (fun p hp => nomatch hp) (okE_all hGo hinv) (fun d hd => nomatch hd) (by ktr_units) ?_
      have N3 := cb_drop lN' tp1
      clear lN'
      by_cases hH : H = []
      · have eb : ∀ (inst : Decidable (H.map encE = [])), (!@decide _ inst) = false := fun inst => by simp [hH]
        rw [eb]
        ktr_unf
        show TurnEnd _ _ _ _ _ _ _
        have e2 : toldStep start places (H, Tl) = (H, Tl) := by unfold toldStep; exact if_pos hH
        refine Hot2.intro (by assumption) N3 w1 n1 w2 n2 tl tp2 (off_cons hI1 (off_cons hI2 hoff)) ho1 ho2 ⟨rfl, rfl, rfl, rfl, ⟨_, rfl⟩, ?_, ?_⟩
        · rw [hst2, e2]; exact hA1
        · rw [hst2, e2]; exact hA2
      · have eb : ∀ (inst : Decidable (H.map encE = [])), (!@decide _ inst) = true := fun inst => by simp [hH]
        rw [eb]
        ktr_unf
        have hpm := popF_mem ltE (d := (0, Str.ofString "")) hH
        have hts : toldStep start places (H, Tl) = _ := if_neg hH
        dsimp only at hts
        refine heappop_c (D := lH) (ds := H.map encE) (k := 2) (d0 := encE (0, Str.ofString "")) (cold := tl ++ (lE, oE) :: (lA, LCg.lst ya) :: (P, W.listOf wp.toArray cp) :: news) (by assumption) lF' (by assumption) N3 (off_cons (Ne.symm hHT) (off_cons (Ne.symm hI1) ho1)) (fun p hp => .tail _ (.tail _ hp)) hA1 ?hz (okE_all hGo hinv) (cmpE H) (by decide) (by assumption) rfl rfl (by ktr_room) (by ktr_units) ?hp ?_
        case hz => have := hinv.hl; dsimp only at this; rw [List.length_map]; omega
        case hp => rw [List.length_map]; exact List.length_pos_iff.mpr hH
        intro v3 w3 n3 h3 tk3 F3 N4 hv3 hA3
        rw [pop_map] at hv3 hA3
        change DatIn _ v3 (encE (popF ltE H (0, Str.ofString "")).1) at hv3
        change DatAll _ w3 ((popF ltE H (0, Str.ofString "")).2.map encE) at hA3
        generalize popF ltE H (0, Str.ofString "") = pr at *
        obtain ⟨⟨sz, tx⟩, H2⟩ := pr
        dsimp only at hv3 hA3 hpm hts
        obtain ⟨hpm1, hpm2, hpm3⟩ := hpm
        have hen := hinv.heap _ hpm1
        dsimp only at hen
        obtain ⟨hG9, hel, hsz⟩ := hen
        obtain ⟨a9, t91, t92, n9, rfl, hm9⟩ := in_ent hv3
        have N5 := tp3 hm9 N4
        have hg := hGn tx hG9 (by omega)
        obtain ⟨hg1, hg2, hg3, hg4⟩ := hg
        have hjl := joinW_len start tx
        have hsw : wt (Txt.split (Txt.slice (joinW start tx) (some 1) none) (Str.ofString "/")) ≤ 100000 := by
          have h1 := split_weight (Txt.slice (joinW start tx) (some 1) none) (Str.ofString "/") (by decide)
          have h2 := Txt.slice_le (joinW start tx) (some 1) none
          unfold wt; omega
        clear N4 N3 lF'
        try dsimp only
        ktr_unf
        (with_reducible rename Fr _ _ _ _ => lF')
        (with_reducible rename News _ _ _ _ => lN')
        have hA2l := hA2.length
        rw [List.length_map] at hA2l
        have htl := hinv.tl
        dsimp only at htl
        have N6 := cb_drop lN' (fun p hp => .tail _ hp)
        clear lN'
        refine LCg.CompSrc.ledger rfl lF' N6 (.tail _ (.head _)) (by rw [List.size_toArray, sizeLine_eq]; omega) ?_
        intro g6
        refine comp_all (fun i ys nw => nw = _ ∧ StrsAre ys ((Tl.take i).map (fun r => r.2.2))) ⟨rfl, .nil⟩ ?turnB ?finB
        case turnB =>
          rintro k ys nw hk ⟨rfl, hY⟩ v I5 oI5 C5 oC5 D5 m5 h5 tk5 E5 hv5 hC5 hx5 F5 N7 off5 ne5
          rw [List.getElem?_toArray] at hv5
          obtain ⟨d, hd, hdin⟩ := DatAll.at hA2 hv5
          rw [List.getElem?_map] at hd
          obtain ⟨⟨rn, rx, ry⟩, hr, rfl⟩ := Option.map_eq_some_iff.mp hd
          obtain ⟨a8, s1, s2, s3, k8, rfl, hm8⟩ := in_row hdin
          have hm7 := tm6 (a := (I5, oI5)) (b := (C5, oC5)) (c := (D5, LCg.lst ys)) (d := (lH, W.listOf w3.toArray n3)) (e := (lT, W.listOf w2.toArray n2)) (f := (I, it)) hm8
          ktr_unf
          refine' end_same (by assumption) (by assumption) off5 ?S5 ?_
          case S5 => exact Or.inr ⟨_, .tail _ (.head _), rfl, _, rfl⟩
          refine ⟨rfl, ?_⟩
          rw [List.take_add_one, hr, List.map_append]
          exact StrsAre.snoc hY _ _
        case finB =>
          rintro yb nw ⟨rfl, hYB⟩
          rw [List.size_toArray, hA2l, List.take_length] at hYB
          generalize normW (joinW start tx) = pl at *
          ktr_unf
          (with_reducible rename Fr _ _ _ _ => lF')
          (with_reducible rename News _ _ _ _ => lN')
          refine kqd_notIn lN' (.head _) rfl rfl (strs_datT (news := []) hYB) (fun p hp => nomatch hp) (DatIn.str (news := []) _ _) (fun p hp => nomatch hp) (okS_all hinv) hg4 (by ktr_units) ?_
          have N8 := cb_drop lN' (fun p hp => .tail _ hp)
          clear lN'
          by_cases hP : pl ∈ Tl.map (fun r => r.2.2)
          · have eb : ∀ (inst : Decidable (Dat.str pl ∈ (Tl.map (fun r => r.2.2)).map Dat.str)), (!@decide _ inst) = false := fun inst => dstr_in inst hP
            rw [eb]
            rw [if_pos hP] at hts
            ktr_unf
            show TurnEnd _ _ _ _ _ _ _
            refine Hot2.intro (by assumption) N8 w3 n3 w2 n2 tl tp2 (off_cons hI1 (off_cons hI2 hoff)) ho1 ho2 ⟨rfl, rfl, rfl, rfl, ⟨_, rfl⟩, ?_, ?_⟩
            · rw [hst2, hts]; exact hA3
            · rw [hst2, hts]; exact hA2
          · have eb : ∀ (inst : Decidable (Dat.str pl ∈ (Tl.map (fun r => r.2.2)).map Dat.str)), (!@decide _ inst) = true := fun inst => dstr_out inst hP
            rw [eb]
            rw [if_neg hP] at hts
            have hTI := off_cons (q := (I, it)) (Ne.symm hI2) ho2
            have hw2 : w2.length ≤ 100 := by omega
            ktr_unf
            (with_reducible rename Fr _ _ _ _ => lF')
            (with_reducible rename News _ _ _ _ => lN')
            try clear N8
            obtain ⟨lN, lD, oD, en, ed, hR9, N9⟩ := told_cap2 lN'
            subst en ed
            have hDH : @Ne Nat lD lH := by k_ne
            have hDT : @Ne Nat lD lT := by k_ne
            have hDI : @Ne Nat lD I := by k_ne
            clear lN'
            refine For_invVF lF' rfl rfl ?_
            ktr_unf
            (with_reducible rename Fr _ _ _ _ => lF')
            (with_reducible rename News _ _ _ _ => lN')
            (with_reducible rename IsRange _ _ _ _ _ _ _ _ => hR2)
            refine iter_range0 (n := places.length) rfl hR2 (by omega) (by omega) lF' lN' (fun I2 h2 S2 => loop_hot1 S2 (fun p hp => nomatch hp) ?hneN (fun lc k m' ws tl2 => tl2 = [] ∧ m' (Str.ofString "above") = some (.ref lA) ∧ m' (Str.ofString "places") = some (.ref P) ∧ (∃ t, m' (Str.ofString "place") = some (.str pl t)) ∧ (∃ t, m' (Str.ofString "text") = some (.str tx t)) ∧ m' (Str.ofString "names") = some (.ref lc) ∧ m' (Str.ofString "heap") = some (.ref lH) ∧ m' (Str.ofString "told") = some (.ref lT) ∧ (∃ t, m' (Str.ofString "start") = some (.str start t)) ∧ StrsAre ws (Str.ofString ".." :: ((places.take k).filter (kidP pl)).map basenameW)) ⟨rfl, rfl, rfl, ⟨_, rfl⟩, ⟨_, rfl⟩, rfl, rfl, rfl, ⟨_, rfl⟩, .cons _ _ .nil⟩ ?turnN ?doneN)
            case hneN => (k_all)
            case turnN =>
              rintro k v m₂ ws k9 tl2 it2 h2 tk2 hk ⟨t2, rfl⟩ ⟨rfl, hm1, hm2, ⟨t3, hm3⟩, ⟨t4, hm4⟩, hm5, hm6, hm7, ⟨t5, hm8⟩, hW⟩ hoN hIN hoff2 F5 N5
              have F6 := know (know (know (know (know (know (know (know F5 (x := Str.ofString "above") hm1) (x := Str.ofString "places") hm2) (x := Str.ofString "place") hm3) (x := Str.ofString "text") hm4) (x := Str.ofString "names") hm5) (x := Str.ofString "heap") hm6) (x := Str.ofString "told") hm7) (x := Str.ofString "start") hm8
              simp only [List.nil_append] at N5 hoN hoff2
              obtain ⟨q, hq⟩ : ∃ q, places[k]? = some q := ⟨_, List.getElem?_eq_getElem hk⟩
              have hyl := hYA.len_eq
              rw [List.length_map] at hyl
              have hql := (hpo q (List.mem_of_getElem? hq)).1
              have hwl : ws.length ≤ 101 := by rw [hW.len_eq, List.length_cons, List.length_map]; have := List.length_filter_le (kidP pl) (places.take k); rw [List.length_take] at this; omega
              clear F5 lF' lN'
              ktr_unf
              · (with_reducible rename places[_]? = some _ => hz1)
                (with_reducible rename (List.map dirnameW places)[_]? = some _ => hz0)
                rw [Int.toNat_natCast, hq] at hz1
                rw [List.getElem?_map, Int.toNat_natCast, hq] at hz0
                cases hz1
                cases hz0
                (with_reducible rename places[_]? = some _ => hz1)
                rw [Int.toNat_natCast, hq] at hz1
                cases hz1
                walk1
                ktr_unf
                (with_reducible rename Fr _ _ _ _ => lF')
                (with_reducible rename News _ _ _ _ => lN')
                show TurnEnd _ _ _ _ _ _ _
                refine Hot1.intro lF' lN' _ _ [] (fun p hp => hp) (off_cons hIN hoff2) hoN ⟨rfl, rfl, rfl, ⟨_, rfl⟩, ⟨_, rfl⟩, rfl, rfl, rfl, ⟨_, rfl⟩, ?_⟩
                rw [kid_snoc hq (by with_reducible assumption) (by with_reducible assumption)]
                exact StrsAre.snoc hW _ _
              · (with_reducible rename places[_]? = some _ => hz1)
                (with_reducible rename (List.map dirnameW places)[_]? = some _ => hz0)
                rw [Int.toNat_natCast, hq] at hz1
                rw [List.getElem?_map, Int.toNat_natCast, hq] at hz0
                cases hz1
                cases hz0
                (with_reducible rename Fr _ _ _ _ => lF')
                (with_reducible rename News _ _ _ _ => lN')
                show TurnEnd _ _ _ _ _ _ _
                refine Hot1.intro lF' lN' ws _ [] (fun p hp => hp) (off_cons hIN hoff2) hoN ⟨rfl, rfl, rfl, ⟨_, rfl⟩, ⟨_, rfl⟩, rfl, rfl, rfl, ⟨_, rfl⟩, ?_⟩
                rw [kid_skip2 hq (by with_reducible assumption)]
                exact hW
              · (with_reducible rename (List.map dirnameW places)[_]? = some _ => hz0)
                rw [List.getElem?_map, Int.toNat_natCast, hq] at hz0
                cases hz0
                (with_reducible rename Fr _ _ _ _ => lF')
                (with_reducible rename News _ _ _ _ => lN')
                show TurnEnd _ _ _ _ _ _ _
                refine Hot1.intro lF' lN' ws _ [] (fun p hp => hp) (off_cons hIN hoff2) hoN ⟨rfl, rfl, rfl, ⟨_, rfl⟩, ⟨_, rfl⟩, rfl, rfl, rfl, ⟨_, rfl⟩, ?_⟩
                rw [kid_skip1 hq (by with_reducible assumption)]
                exact hW
            case doneN =>
              rintro m₂ wN kN tl2 h2 tk2 ⟨rfl, hm1, hm2, ⟨t3, hm3⟩, ⟨t4, hm4⟩, hm5, hm6, hm7, ⟨t5, hm8⟩, hW⟩ hoN F5 N5
              have F6 := know (know (know (know (know (know (know (know F5 (x := Str.ofString "above") hm1) (x := Str.ofString "places") hm2) (x := Str.ofString "place") hm3) (x := Str.ofString "text") hm4) (x := Str.ofString "names") hm5) (x := Str.ofString "heap") hm6) (x := Str.ofString "told") hm7) (x := Str.ofString "start") hm8
              simp only [List.nil_append] at N5 hoN
              rw [List.take_length] at hW
              change StrsAre wN (kidsW places pl) at hW
              have hkm := kids_mem (G := G) (place := pl) hGd hGb (fun q hq => (hpo q hq).1)
              have hkl := kids_len (places := places) (place := pl)
              have hwl := hW.len_eq
              generalize kidsW places pl = ns at *
              have hA30 : DatAll ([] ++ (tl ++ (lE, oE) :: (lA, LCg.lst ya) :: (P, W.listOf wp.toArray cp) :: news)) w3 ((pushAll tx H2 (ns.take 0)).map encE) := hA3
              clear F5 lF' lN'
              ktr_unf
              (with_reducible rename Fr _ _ _ _ => lF')
              refine For_invVF lF' rfl rfl ?_
              ktr_unf
              (with_reducible rename Fr _ _ _ _ => lF')
              have N6 := cb_drop N5 tp4
              clear N5
              refine iter_list rfl (List.Mem.tail _ (List.Mem.head _)) rfl rfl lF' N6 (fun I3 h3 S3 => loop_hot1 S3 (fun p hp => by rw [List.mem_singleton.mp hp]; exact List.Mem.head _) ?hneP (fun lc j m' w tl3 => m' (Str.ofString "above") = some (.ref lA) ∧ m' (Str.ofString "places") = some (.ref P) ∧ (∃ t, m' (Str.ofString "text") = some (.str tx t)) ∧ m' (Str.ofString "heap") = some (.ref lc) ∧ m' (Str.ofString "told") = some (.ref lT) ∧ (∃ t, m' (Str.ofString "start") = some (.str start t)) ∧
                DatAll (tl3 ++ (tl ++ (lE, oE) :: (lA, LCg.lst ya) :: (P, W.listOf wp.toArray cp) :: news)) w ((pushAll tx H2 (ns.take j)).map encE) ∧ (∀ p ∈ tl3, p.1 ≠ lT ∧ p.1 ≠ I)) ⟨rfl, rfl, ⟨_, rfl⟩, rfl, rfl, ⟨_, rfl⟩, hA30, fun p hp => nomatch hp⟩ ?turnP ?doneP)
              case hneP => exact off_cons (Ne.symm (hoN _ (.tail _ (.head _)))) (off_cons hDH (off_cons (Ne.symm hHT) (off_cons (Ne.symm hI1) ho1)))
              case turnP =>
                rintro j v m₃ w k9 tl3 it3 h3 tk3 hj hv ⟨hm1, hm2, ⟨t4, hm4⟩, hm6, hm7, ⟨t5, hm8⟩, hA4, hfr⟩ ho3 hI3 hoff3 F7 N7
                have F8 := know (know (know (know (know (know F7 (x := Str.ofString "above") hm1) (x := Str.ofString "places") hm2) (x := Str.ofString "text") hm4) (x := Str.ofString "heap") hm6) (x := Str.ofString "told") hm7) (x := Str.ofString "start") hm8
                obtain ⟨nm, tn, rfl, hn⟩ := hW.item j v hv
                have hnm := hkm nm (List.mem_of_getElem? hn)
                obtain ⟨hnG, hnl⟩ := hnm
                have hjl2 := joinW_len tx nm
                clear F7 lF'
                ktr_unf
                (with_reducible rename Fr _ _ _ _ => lF')
                (with_reducible rename News _ _ _ _ => lN')
                (with_reducible rename _ < _ ∧ _ => hl9)
                obtain ⟨lX, oX, eX, hX9, N9, hlX⟩ := told_cap3 lN' hl9
                subst eX
                clear lN' hl9
                have hpa := pushAll_mem (text := tx) (ns.take j) H2
                obtain ⟨hpa1, hpa2⟩ := hpa
                have hpl9 : (pushAll tx H2 (ns.take j)).length ≤ 10000 := by
                  rw [hpa2, List.length_take]
                  have := hinv.hl
                  dsimp only at this
                  omega
                have hns : pushAll tx H2 (ns.take (j + 1)) = pushF ltE (pushAll tx H2 (ns.take j)) ((joinW tx nm).length, joinW tx nm) := by
                  rw [List.take_add_one, hn]; unfold pushAll; rw [List.foldl_append]; rfl
                have hok9 : ∀ e ∈ pushAll tx H2 (ns.take j), PyData.strOk e.2 = true := fun e he => by
                  rcases hpa1 e he with h | ⟨n', hn', rfl⟩
                  · exact hGo _ (hinv.heap e (hpm2 e h)).1
                  · exact hGo _ (hGj _ _ hG9 (hkm _ (List.mem_of_mem_take hn')).1)
                have hokX : PyData.strOk (joinW tx nm) = true := hGo _ (hGj _ _ hG9 hnG)
                clear hpa1 hpa2
                generalize pushAll tx H2 (ns.take j) = PA at *
                generalize joinW tx nm = jn at *
                have N10 := cb_drop N9 tp5
                have hfX := tall hlX
                refine heappush_c (D := lH) (ds := PA.map encE) (d := encE (jn.length, jn)) (k := 2) (cold := (lX, oX) :: (tl3 ++ (tl ++ (lE, oE) :: (lA, LCg.lst ya) :: (P, W.listOf wp.toArray cp) :: news))) (by assumption) lF' (by assumption) N10 (off_cons (hfX _ (.tail _ (.head _))) (off_cons (Ne.symm hI3) ho3)) tp6 (hA4.mono (fun p hp => .tail _ hp)) ?hz (okE_allP hok9) (cmpE PA) (by decide) (by assumption) rfl rfl (by ktr_room) (by ktr_units) ?hz2 (hX9.mono (fun p hp => by rw [List.mem_singleton.mp hp]; exact .head _)) (okE_snoc hok9 hokX) (cmpE_snoc PA _) ?_
                case hz => rw [List.length_map]; omega
                case hz2 => rw [List.length_map]; omega
                intro w5 n5 h5 tk5 F9 N11 hA5
                rw [push_map] at hA5
                change DatAll _ w5 ((pushF ltE PA (jn.length, jn)).map encE) at hA5
                rw [← hns] at hA5
                ktr_unf
                (with_reducible rename Fr _ _ _ _ => lF')
                show TurnEnd _ _ _ _ _ _ _
                refine Hot1.intro lF' N11 w5 n5 ((lX, oX) :: tl3) tp7 (off_cons hI3 (off_cons (hfX _ (.head _)) hoff3)) (off_cons (hfX _ (.tail _ (.head _))) ho3) ⟨rfl, rfl, ⟨_, rfl⟩, rfl, rfl, ⟨_, rfl⟩, hA5, ?_⟩
                intro p hp
                rcases List.mem_cons.mp hp with rfl | hp
                · exact ⟨hfX _ (.tail _ (.tail _ (List.mem_append_right _ (.tail _ (.tail _ (.head _)))))), hfX _ (.tail _ (.tail _ (List.mem_append_right _ (.tail _ (.tail _ (.tail _ (.head _)))))))⟩
                · exact hfr p hp
              case doneP =>
                rintro m₃ w k9 tl3 h3 tk3 ⟨hm1, hm2, ⟨t4, hm4⟩, hm6, hm7, ⟨t5, hm8⟩, hA4, hfr⟩ ho3 F7 N7
                have F8 := know (know (know (know (know (know F7 (x := Str.ofString "above") hm1) (x := Str.ofString "places") hm2) (x := Str.ofString "text") hm4) (x := Str.ofString "heap") hm6) (x := Str.ofString "told") hm7) (x := Str.ofString "start") hm8
                rw [hwl, List.take_length] at hA4
                clear F7 lF'
                ktr_unf
                (with_reducible rename Fr _ _ _ _ => lF')
                show TurnEnd _ _ _ _ _ _ _
                refine Hot2.intro lF' N7 w k9 (w2 ++ [.ref lD]) (n2 + 1) (tl3 ++ (lD, oD) :: tl) (tp8 _ _ _ _ _ _ _ _) (off_cons hI1 (off_cons hI2 (toff (fun p hp => (hfr p hp).2) hDI hoff))) (toff (fun p hp => ho3 p (List.mem_append_left _ hp)) hDH ho1) (toff (fun p hp => (hfr p hp).1) hDT ho2) ⟨rfl, rfl, rfl, rfl, ⟨_, rfl⟩, ?_, ?_⟩
                · rw [hst2, hts]; exact hA4.mono (tp9 _ _ _ _)
                · rw [hst2, hts]
                  dsimp only
                  rw [List.map_append]
                  exact DatAll.append (hA2.mono (fun p hp => tp9 _ _ _ _ p (List.mem_append_right _ hp))) (DatAll.one (hR9.mono (fun p hp => by rw [List.mem_singleton.mp hp]; exact List.mem_append_left _ (List.mem_append_right _ (.head _)))))
    case done =>
      rintro m₁ w1 n1 w2 n2 tl h tk ⟨hm1, hm2, hm3, hm4, ⟨ts2, hm5⟩, hA1, hA2⟩ ho1 ho2 F₁ N₁
      have F₂ := know (know F₁ (x := Str.ofString "heap") hm1) (x := Str.ofString "told") hm2
      clear F₁ lF' lN' N2
      ktr_unf
      (with_reducible rename Fr _ _ _ _ => lF')
      (with_reducible rename News _ _ _ _ => lN')
      refine ret _ (_ :: _ :: _ :: (tl ++ [_, _])) _ _ lF' (cb_drop lN' (tp10 _ _ _ _ _ _ _)) (.tuple (vs := [.ref lT, .ref lH]) (.head _) (.cons (.list (.tail _ (.tail _ (.head _))) (hA2.mono ?_)) (.cons (.list (.tail _ (.head _)) (hA1.mono ?_)) .nil)))
      all_goals exact tp11 _ _ _ _ _ _ _
end Mine
namespace Mine
abbrev cp (x : Str) : List Nat := x.cps.toList
theorem str_ext {x y : Str} (h : cp x = cp y) : x = y := by
  cases x; cases y
  simp only [cp, Array.toList_inj] at h
  rw [h]
theorem cp_append (x y : Str) : cp (x ++ y) = cp x ++ cp y := by
  show ((x ++ y).cps).toList = _
  rw [show (x ++ y).cps = x.cps ++ y.cps from rfl, Array.toList_append]
theorem cp_len (x : Str) : (cp x).length = x.length := by simp [cp, Str.length]
def joinN (c : Nat) : List (List Nat) → List Nat
  | [] => []
  | [a] => a
  | a :: b :: r => a ++ c :: joinN c (b :: r)
theorem slash_cp : cp (Str.ofString "/") = [47] := by decide
theorem join_cp : ∀ (l : List Str), cp (Txt.join (Str.ofString "/") l) = joinN 47 (l.map cp)
  | [] => by decide
  | [a] => by
    show cp (PySem.Builtin.Str.glued _ _) = _
    rw [StrLaws.glued_eq_join]
    rfl
  | a :: b :: r => by
    have ih := join_cp (b :: r)
    show cp (PySem.Builtin.Str.glued _ _) = _
    rw [StrLaws.glued_eq_join]
    have e : Str.join (Str.ofString "/") (a :: b :: r) = a ++ Str.ofString "/" ++ Str.join (Str.ofString "/") (b :: r) := rfl
    rw [e, cp_append, cp_append, slash_cp]
    rw [show Txt.join (Str.ofString "/") (b :: r) = PySem.Builtin.Str.glued (Str.ofString "/") (b :: r) from rfl, StrLaws.glued_eq_join] at ih
    rw [ih]
    simp [joinN]
theorem joinN_inj {c : Nat} : ∀ {l k : List (List Nat)}, l ≠ [] → k ≠ [] → (∀ a ∈ l, c ∉ a) → (∀ a ∈ k, c ∉ a) → joinN c l = joinN c k → l = k := by
  have cut : ∀ {a b : List Nat} {r s : List Nat}, c ∉ a → c ∉ b → a ++ c :: r = b ++ c :: s → a = b ∧ r = s := by
    intro a
    induction a with
    | nil =>
      intro b r s ha hb h
      cases b with
      | nil => exact ⟨rfl, by simpa using h⟩
      | cons x b =>
        simp only [List.nil_append, List.cons_append, List.cons.injEq] at h
        exact absurd (h.1 ▸ List.mem_cons_self) hb
    | cons x a ih =>
      intro b r s ha hb h
      cases b with
      | nil =>
        simp only [List.nil_append, List.cons_append, List.cons.injEq] at h
        exact absurd (h.1 ▸ List.mem_cons_self) ha
      | cons y b =>
        simp only [List.cons_append, List.cons.injEq] at h
        obtain ⟨rfl, h⟩ := h
        have := ih (fun q => ha (.tail _ q)) (fun q => hb (.tail _ q)) h
        exact ⟨by rw [this.1], this.2⟩
  have no : ∀ {a : List Nat} {b r : List Nat}, c ∉ a → a ≠ b ++ c :: r := by
    rintro a b r ha rfl
    exact ha (List.mem_append_right _ (.head _))
  intro l
  induction l with
  | nil => intro k h; exact absurd rfl h
  | cons a l ih =>
    intro k _ hk hl hk2 h
    cases k with
    | nil => exact absurd rfl hk
    | cons b k =>
      cases l with
      | nil =>
        cases k with
        | nil => simpa [joinN] using h
        | cons d k => exact absurd h (by simp only [joinN]; exact no (hl a (.head _)))
      | cons d l =>
        cases k with
        | nil => exact absurd h.symm (by simp only [joinN]; exact no (hk2 b (.head _)))
        | cons f k =>
          simp only [joinN] at h
          obtain ⟨rfl, h2⟩ := cut (hl a (.head _)) (hk2 b (.head _)) h
          rw [ih (by simp) (by simp) (fun q hq => hl q (.tail _ hq)) (fun q hq => hk2 q (.tail _ hq)) h2]
def SF (x : Str) : Prop := 47 ∉ cp x
theorem split_ne (x : Str) : Txt.split x (Str.ofString "/") ≠ [] := by
  intro h
  have h1 := StrLaws.join_split x (Str.ofString "/")
  rw [h] at h1
  have h2 : x = Str.ofString "" := by rw [← h1]; decide
  rw [h2] at h
  revert h
  decide
theorem slash_eq : Str.ofString "/" = ⟨#[47]⟩ := by decide
theorem split_join {l : List Str} (hne : l ≠ []) (h : ∀ a ∈ l, SF a) : Txt.split (Txt.join (Str.ofString "/") l) (Str.ofString "/") = l := by
  have h1 := StrLaws.join_split (Txt.join (Str.ofString "/") l) (Str.ofString "/")
  have h2 : ∀ p ∈ Txt.split (Txt.join (Str.ofString "/") l) (Str.ofString "/"), SF p := by
    rw [slash_eq]
    exact StrLaws.split_free _ 47
  have h3 := split_ne (Txt.join (Str.ofString "/") l)
  generalize Txt.split (Txt.join (Str.ofString "/") l) (Str.ofString "/") = k at h1 h2 h3
  have e : Txt.join (Str.ofString "/") k = Str.join (Str.ofString "/") k := by
    show PySem.Builtin.Str.glued _ _ = _
    rw [StrLaws.glued_eq_join]
  rw [← e] at h1
  have h4 := congrArg cp h1
  rw [join_cp, join_cp] at h4
  have h5 := joinN_inj (c := 47) (by simpa using h3) (by simpa using hne) (fun a ha => by obtain ⟨x, hx, rfl⟩ := List.mem_map.mp ha; exact h2 x hx) (fun a ha => by obtain ⟨x, hx, rfl⟩ := List.mem_map.mp ha; exact h x hx) h4
  have inj : ∀ {a b : List Str}, a.map cp = b.map cp → a = b := by
    intro a
    induction a with
    | nil => intro b h; cases b with | nil => rfl | cons _ _ => simp at h
    | cons x a ih => intro b h; cases b with
      | nil => simp at h
      | cons y b =>
        simp only [List.map_cons, List.cons.injEq] at h
        rw [str_ext h.1, ih h.2]
  exact inj h5
end Mine
namespace Mine
structure Nm (x : Str) : Prop where
  sf : SF x
  ne : x ≠ Str.ofString ""
  dot : x ≠ Str.ofString "."
  dd : x ≠ Str.ofString ".."
  ok : PyData.strOk x = true
  len : x.length ≤ 3
theorem strOk_iff (x : Str) : PyData.strOk x = true ↔ ∀ c ∈ cp x, c < 0x110000 := by
  unfold PyData.strOk
  rw [Array.all_eq_true_iff_forall_mem]
  simp
theorem pool_facts {x : Int} {c : Str} (h : c ∈ poolW x) : SF c ∧ PyData.strOk c = true ∧ c.length ≤ 3 := by
  refine ⟨?_, ?_, pool_len h⟩
  · simp only [poolW, List.mem_cons, List.not_mem_nil, or_false] at h
    rcases h with rfl | rfl | rfl | rfl | rfl | rfl | rfl | rfl
    · unfold SF; decide
    · unfold SF; decide
    · unfold SF; decide
    · unfold SF; decide
    · unfold SF; decide
    · unfold SF; decide
    · unfold SF; decide
    · unfold SF cp
      have h0 : 0 ≤ (x.fdiv 512).fmod 55000 := Int.fmod_nonneg_of_pos _ (by decide)
      simp
      omega
  · simp only [poolW, List.mem_cons, List.not_mem_nil, or_false] at h
    rcases h with rfl | rfl | rfl | rfl | rfl | rfl | rfl | rfl
    · decide +kernel
    · decide +kernel
    · decide +kernel
    · decide +kernel
    · decide +kernel
    · decide +kernel
    · decide +kernel
    · have h0 : 0 ≤ (x.fdiv 512).fmod 55000 := Int.fmod_nonneg_of_pos _ (by decide)
      have h1 : (x.fdiv 512).fmod 55000 < 55000 := Int.fmod_lt_of_pos _ (by decide)
      rw [strOk_iff]
      intro c hc
      have : c = (48 + (x.fdiv 512).fmod 55000).toNat := by simpa using hc
      omega
theorem pick_mem (x : Int) (p : Nat) : pickW x p ∈ poolW x := by
  unfold pickW
  rw [List.getD_eq_getElem?_getD]
  cases h : (poolW x)[((x.fdiv (8 ^ p)).fmod 8).toNat]? with
  | none => simp [poolW]
  | some y => exact List.mem_of_getElem? h
theorem text_glue (x : Int) : textW x = Txt.join (Str.ofString "/") (Str.ofString "" :: Str.ofString "." :: (List.range 3).map (pickW x)) := by
  apply str_ext
  unfold textW
  rw [cp_append, join_cp, join_cp]
  have e : cp (Str.ofString "/./") = [47, 46, 47] := by decide
  have e1 : cp (Str.ofString "") = [] := by decide
  have e2 : cp (Str.ofString ".") = [46] := by decide
  rw [e, List.map_cons, List.map_cons, e1, e2]
  rfl
theorem split_text (x : Int) : Txt.split (textW x) (Str.ofString "/") = Str.ofString "" :: Str.ofString "." :: (List.range 3).map (pickW x) := by
  rw [text_glue]
  refine split_join (by simp) fun a ha => ?_
  rcases List.mem_cons.mp ha with rfl | ha
  · unfold SF; decide
  · rcases List.mem_cons.mp ha with rfl | ha
    · unfold SF; decide
    · obtain ⟨p, _, rfl⟩ := List.mem_map.mp ha
      exact (pool_facts (pick_mem x p)).1
theorem straight_keep : ∀ (l acc : List Str), (∀ a ∈ l, SF a ∧ PyData.strOk a = true ∧ a.length ≤ 3) → (∀ a ∈ acc, Nm a) → ∀ a ∈ l.foldl straightStep acc, Nm a
  | [], acc, h, ha => ha
  | c :: l, acc, h, ha => by
    rw [List.foldl_cons]
    refine straight_keep l _ (fun a q => h a (.tail _ q)) ?_
    unfold straightStep
    split
    · exact fun a q => ha a (List.dropLast_subset _ q)
    · split
      · exact ha
      · rename_i h1 h2
        intro a q
        rcases List.mem_append.mp q with q | q
        · exact ha a q
        · rw [List.mem_singleton.mp q]
          have hc := h c (.head _)
          refine ⟨hc.1, fun e => h2 (.inl (by rw [e]; decide)), fun e => h2 (.inr e), h1, hc.2.1, hc.2.2⟩
theorem straight_text (x : Int) : straightW (textW x) = ((List.range 3).map (pickW x)).foldl straightStep [] := by
  unfold straightW
  rw [split_text, List.foldl_cons, List.foldl_cons]
  rfl
theorem straight_nm (x : Int) : (∀ a ∈ straightW (textW x), Nm a) ∧ (straightW (textW x)).length ≤ 3 := by
  rw [straight_text]
  refine ⟨straight_keep _ _ (fun a ha => ?_) (fun a h => nomatch h), ?_⟩
  · obtain ⟨p, _, rfl⟩ := List.mem_map.mp ha
    exact pool_facts (pick_mem x p)
  · have := straight_len ((List.range 3).map (pickW x)) []
    simpa using this
end Mine
namespace Mine
theorem cp_slice_to {x : Str} {k : Nat} (h : k ≤ x.length) : cp (Txt.slice x none (some (k : Int))) = (cp x).take k := by
  have := beq_iff_eq.mp (slice_closes_toL (x := x) (j := (k : Int)) (by omega) (by omega))
  rw [this]
  simp [cp]
theorem cp_slice_from {x : Str} {k : Nat} (h : k ≤ x.length) : cp (Txt.slice x (some (k : Int)) none) = (cp x).drop k := by
  have := slice_from_eq (x := x) (i := (k : Int)) (b := x.length) (by omega) (by omega) rfl
  rw [this]
  have hl : (cp x).length = x.length := cp_len x
  simp only [cp, Int.toNat_natCast]
  rw [List.take_of_length_le]
  rw [List.length_drop]
  have : x.cps.toList.length = x.length := hl
  omega
theorem cp_slice {x : Str} {i j : Nat} (h1 : i ≤ j) (h : j ≤ x.length) : cp (Txt.slice x (some (i : Int)) (some (j : Int))) = ((cp x).drop i).take (j - i) := by
  have := beq_iff_eq.mp (slice_closesL (x := x) (i := (i : Int)) (j := (j : Int)) (by omega) (by omega) (by omega))
  rw [this]
  have e : ((j : Int) - (i : Int)).toNat = j - i := by omega
  simp only [cp, Int.toNat_natCast, e]
theorem root_facts {x : Str} {c : Nat} {r : List Nat} (h : cp x = 47 :: c :: r) (hc : c ≠ 47) :
    (x.length : Int) ≠ 0 ∧ (Txt.slice x none (some 1) != Str.ofString "/") = false ∧ (Txt.slice x (some 1) (some 2) != Str.ofString "/") = true ∧ cp (Txt.slice x (some 1) none) = c :: r := by
  have hl : x.length = r.length + 2 := by rw [← cp_len, h]; rfl
  refine ⟨by omega, ?_, ?_, ?_⟩
  · have e : Txt.slice x none (some 1) = Str.ofString "/" := str_ext (by
      rw [show (1 : Int) = ((1 : Nat) : Int) from rfl, cp_slice_to (by omega), h, slash_cp]; rfl)
    rw [e]; simp
  · have e : cp (Txt.slice x (some 1) (some 2)) = [c] := by
      rw [show (1 : Int) = ((1 : Nat) : Int) from rfl, show (2 : Int) = ((2 : Nat) : Int) from rfl, cp_slice (by omega) (by omega), h]; rfl
    have ne : Txt.slice x (some 1) (some 2) ≠ Str.ofString "/" := fun q => by
      rw [q, slash_cp] at e
      exact hc (List.cons.inj e).1.symm
    simpa using ne
  · rw [show (1 : Int) = ((1 : Nat) : Int) from rfl, cp_slice_from (by omega), h]; rfl
theorem text_cp (n : Int) : ∃ r, cp (textW n) = 47 :: 46 :: r := by
  unfold textW
  rw [cp_append]
  have e : cp (Str.ofString "/./") = [47, 46, 47] := by decide
  rw [e]
  exact ⟨_, rfl⟩
theorem text_root (n : Int) : ((textW n).length : Int) ≠ 0 ∧ (Txt.slice (textW n) none (some 1) != Str.ofString "/") = false ∧ (Txt.slice (textW n) (some 1) (some 2) != Str.ofString "/") = true := by
  obtain ⟨r, h⟩ := text_cp n
  have := root_facts h (by decide)
  exact ⟨this.1, this.2.1, this.2.2.1⟩
end Mine
namespace Mine
section
variable {n : Nat} (lt : Nat → Nat → Bool)
def SB (a b : Nat) : Prop := lt a b = true ∨ (lt b a = false ∧ a < b)
structure SWO (n : Nat) (lt : Nat → Nat → Bool) : Prop where
  asym : ∀ a b, a < n → b < n → lt a b = true → lt b a = false
  ntr : ∀ a b c, a < n → b < n → c < n → lt a c = true → lt a b = true ∨ lt b c = true
variable {lt}
theorem SB.not {a b : Nat} (W : SWO n lt) (ha : a < n) (hb : b < n) (h : SB lt a b) : lt b a = false := by
  rcases h with h | h
  · exact W.asym a b ha hb h
  · exact h.1
theorem lt_tr (W : SWO n lt) {a b c : Nat} (ha : a < n) (hb : b < n) (hc : c < n) (h1 : lt a b = true) (h2 : lt c b = false) : lt a c = true := by
  rcases W.ntr a c b ha hc hb h1 with h | h
  · exact h
  · rw [h2] at h; cases h
theorem lt_tr2 (W : SWO n lt) {a b c : Nat} (ha : a < n) (hb : b < n) (hc : c < n) (h1 : lt b a = false) (h2 : lt b c = true) : lt a c = true := by
  rcases W.ntr b a c hb ha hc h2 with h | h
  · rw [h1] at h; cases h
  · exact h
theorem SB.trans (W : SWO n lt) {a b c : Nat} (ha : a < n) (hb : b < n) (hc : c < n) (h1 : SB lt a b) (h2 : SB lt b c) : SB lt a c := by
  rcases h1 with h1 | h1
  · exact .inl (lt_tr W ha hb hc h1 (h2.not W hb hc))
  · rcases h2 with h2 | h2
    · exact .inl (lt_tr2 W ha hb hc h1.1 h2)
    · refine .inr ⟨?_, Nat.lt_trans h1.2 h2.2⟩
      cases e : lt c a with
      | false => rfl
      | true =>
        rcases W.ntr c b a hc hb ha e with h | h
        · rw [h2.1] at h; cases h
        · rw [h1.1] at h; cases h
abbrev at' (p : Array Nat) (k : Nat) : Nat := p.getD k 0
theorem at_eq {p q : Array Nat} {i j : Nat} (h : p[i]? = q[j]?) : at' p i = at' q j := by
  unfold at'
  rw [Array.getD_eq_getD_getElem?, Array.getD_eq_getD_getElem?, h]
theorem rev_at {p : Array Nat} {i j : Nat} (hj : j ≤ p.size) (k : Nat) : at' (kas_rev p i j) k = if i ≤ k ∧ k < j then at' p (i + j - 1 - k) else at' p k := by
  have e := getElem?_mirror_all (i := i) hj k
  by_cases h : i ≤ k ∧ k < j
  · rw [if_pos h] at e ⊢; exact at_eq e
  · rw [if_neg h] at e ⊢; exact at_eq e
theorem bub_at {p : Array Nat} {l k : Nat} (hk : k < p.size) (hl : l ≤ k) (x : Nat) : at' (bubble p k (k - l)) x = if x = l then at' p k else if l < x ∧ x ≤ k then at' p (x - 1) else at' p x := by
  have e := getElem?_bubble hk (k - l) (Nat.sub_le _ _) x
  have hkl : k - (k - l) = l := by omega
  rw [hkl] at e
  by_cases h : x = l
  · rw [if_pos h] at e ⊢; exact at_eq e
  · rw [if_neg h] at e ⊢
    by_cases h2 : l < x ∧ x ≤ k
    · rw [if_pos h2] at e ⊢; exact at_eq e
    · rw [if_neg h2] at e ⊢; exact at_eq e
structure Pl (n : Nat) (p : Array Nat) (k : Nat) : Prop where
  size : p.size = n
  le : k ≤ n
  pre : ∀ a, a < k → at' p a < k
  suf : ∀ a, k ≤ a → a < n → at' p a = a
  perm : p.Perm (List.range n).toArray
def Asc (lt : Nat → Nat → Bool) (p : Array Nat) (k : Nat) : Prop := ∀ a b, a < b → b < k → SB lt (at' p a) (at' p b)
theorem Pl.lo {p : Array Nat} {k a : Nat} (P : Pl n p k) (ha : a < n) : at' p a < n := by
  by_cases h : a < k
  · exact Nat.lt_of_lt_of_le (P.pre a h) P.le
  · rw [P.suf a (by omega) ha]; exact ha
theorem Pl.succ {p : Array Nat} {k : Nat} (P : Pl n p k) (hk : k < n) : Pl n p (k + 1) where
  size := P.size
  le := hk
  pre := fun a ha => by
    by_cases h : a < k
    · exact Nat.lt_succ_of_lt (P.pre a h)
    · have : a = k := by omega
      rw [this, P.suf k (Nat.le_refl _) hk]; exact Nat.lt_succ_self _
  suf := fun a h1 h2 => P.suf a (by omega) h2
  perm := P.perm
theorem Pl.rev {p : Array Nat} {k i j : Nat} (P : Pl n p k) (hij : i ≤ j) (hj : j ≤ k) : Pl n (kas_rev p i j) k where
  size := by rw [kas_rev_size]; exact P.size
  le := P.le
  pre := fun a ha => by
    rw [rev_at (by rw [P.size]; have := P.le; omega)]
    split
    · exact P.pre _ (by omega)
    · exact P.pre _ ha
  suf := fun a h1 h2 => by
    rw [rev_at (by rw [P.size]; have := P.le; omega), if_neg (by omega)]
    exact P.suf a h1 h2
  perm := (mirror_perm _ _ _ _).trans P.perm
theorem Pl.bub {p : Array Nat} {k l : Nat} (P : Pl n p k) (hk : k < n) (hl : l ≤ k) : Pl n (bubble p k (k - l)) (k + 1) where
  size := by rw [bubble_size]; exact P.size
  le := hk
  pre := fun a ha => by
    have hp := (P.succ hk).pre
    rw [bub_at (by rw [P.size]; exact hk) hl]
    split
    · exact hp k (Nat.lt_succ_self _)
    · split
      · exact hp _ (by omega)
      · exact hp _ ha
  suf := fun a h1 h2 => by
    rw [bub_at (by rw [P.size]; exact hk) hl, if_neg (by omega), if_neg (by omega)]
    exact P.suf a (by omega) h2
  perm := (bubble_perm _ _ _).trans P.perm
theorem Pl.start (hn : 1 ≤ n) : Pl n (List.range n).toArray 1 where
  size := by simp
  le := hn
  pre := fun a ha => by
    have : a = 0 := by omega
    subst this
    simp [at', Array.getD_eq_getD_getElem?]
    have : 0 < n := hn
    simp [this]
  suf := fun a h1 h2 => by simp [at', Array.getD_eq_getD_getElem?, h2]
  perm := .refl _
theorem asc_succ {p : Array Nat} {k : Nat} (W : SWO n lt) (P : Pl n p k) (A : Asc lt p k) (hk : k < n) (hk1 : 1 ≤ k) (h : lt (at' p k) (at' p (k - 1)) = false) : Asc lt p (k + 1) := by
  have hl : SB lt (at' p (k - 1)) (at' p k) := .inr ⟨h, by rw [P.suf k (Nat.le_refl _) hk]; exact P.pre _ (by omega)⟩
  intro a b hab hb
  by_cases h2 : b < k
  · exact A a b hab h2
  · have : b = k := by omega
    subst this
    by_cases h3 : a = b - 1
    · rw [h3]; exact hl
    · exact (A a (b - 1) (by omega) (by omega)).trans W (P.lo (by omega)) (P.lo (by omega)) (P.lo hk) hl
end
section
variable {n : Nat} {lt : Nat → Nat → Bool} {cmp : Nat → Nat → (Bool → Shared → Prop) → Shared → Prop} {s : Shared}
theorem asc_wp (hc : ∀ i j C, i < n → j < n → C (lt i j) s → cmp i j C s) (W : SWO n lt) {p : Array Nat} {Q : Nat → Shared → Prop} : ∀ (f m : Nat), 1 ≤ m → m + f = n → Pl n p m → Asc lt p m →
    (∀ m', m ≤ m' → m' ≤ n → Pl n p m' → Asc lt p m' → (m' < n → lt (at' p m') (at' p (m' - 1)) = true) → Q m' s) → (kas_asc p f m).kasWp cmp Q s
  | 0, m, h1, hm, P, A, h => h m (Nat.le_refl _) (by omega) P A (fun h => by omega)
  | f + 1, m, h1, hm, P, A, h => by
    refine hc _ _ _ (P.lo (by omega)) (P.lo (by omega)) ?_
    cases e : lt (p.getD m 0) (p.getD (m - 1) 0) with
    | true => exact h m (Nat.le_refl _) (by omega) P A (fun _ => e)
    | false =>
      show (kas_asc p f (m + 1)).kasWp cmp Q s
      exact asc_wp hc W f (m + 1) (by omega) (by omega) (P.succ (by omega)) (asc_succ W P A (by omega) h1 e) fun m' a b c d e => h m' (by omega) b c d e
structure DI (n : Nat) (lt : Nat → Nat → Bool) (p : Array Nat) (k q : Nat) : Prop where
  pl : Pl n p k
  le : q + 1 ≤ k
  front : ∀ a b, a < b → b < k - 1 - q → SB lt (at' p b) (at' p a)
  drop : ∀ a b, a < k - 1 - q → k - 1 - q ≤ b → b < k → lt (at' p b) (at' p a) = true
  block : ∀ a b, k - 1 - q ≤ a → a < b → b < k → lt (at' p a) (at' p b) = false ∧ lt (at' p b) (at' p a) = false ∧ at' p a < at' p b
def Desc (lt : Nat → Nat → Bool) (p : Array Nat) (k : Nat) : Prop := ∀ a b, a < b → b < k → SB lt (at' p b) (at' p a)
theorem DI.rev {p : Array Nat} {k q : Nat} (D : DI n lt p k q) : Pl n (kas_rev p (k - (q + 1)) k) k ∧ Desc lt (kas_rev p (k - (q + 1)) k) k ∧ (∀ a, a < k → ∃ b, b < k ∧ at' (kas_rev p (k - (q + 1)) k) a = at' p b) := by
  have hle := D.le
  have hs : k ≤ p.size := by rw [D.pl.size]; exact D.pl.le
  have e : k - (q + 1) = k - 1 - q := by omega
  refine ⟨D.pl.rev (by omega) (Nat.le_refl _), fun a b hab hb => ?_, fun a ha => ?_⟩
  · rw [rev_at hs, rev_at hs]
    by_cases ha : a < k - 1 - q
    · rw [if_neg (c := k - (q + 1) ≤ a ∧ a < k) (by omega)]
      by_cases hb2 : b < k - 1 - q
      · rw [if_neg (by omega)]; exact D.front a b hab hb2
      · rw [if_pos (by omega)]; exact .inl (D.drop a _ ha (by omega) (by omega))
    · rw [if_pos (c := k - (q + 1) ≤ a ∧ a < k) (by omega), if_pos (by omega)]
      have := D.block (k - (q + 1) + k - 1 - b) (k - (q + 1) + k - 1 - a) (by omega) (by omega) (by omega)
      exact .inr ⟨this.2.1, this.2.2⟩
  · rw [rev_at hs]
    split
    · exact ⟨_, by omega, rfl⟩
    · exact ⟨a, ha, rfl⟩
theorem DI.desc {p : Array Nat} {k : Nat} (D : DI n lt p k 0) : Desc lt p k := fun a b hab hb => by
  by_cases h : b < k - 1
  · exact D.front a b hab h
  · exact .inl (D.drop a b (by omega) (by omega) hb)
theorem desc_wp (hc : ∀ i j C, i < n → j < n → C (lt i j) s → cmp i j C s) (W : SWO n lt) {Q : Array Nat × Nat × Nat → Shared → Prop} : ∀ (f : Nat) (p : Array Nat) (k q : Nat), k + f = n → DI n lt p k q →
    (∀ p' k' q', DI n lt p' k' q' → Q (p', k', q') s) → (kas_desc f p k q).kasWp cmp Q s
  | 0, p, k, q, hk, D, h => h p k q D
  | f + 1, p, k, q, hk, D, h => by
    have hkn : k < n := by omega
    have hq := D.le
    have hkk := D.pl.suf k (Nat.le_refl _) hkn
    have hl := D.pl.lo (a := k - 1) (by omega)
    refine hc _ _ _ (D.pl.lo hkn) hl ?_
    show KasT.kasWp cmp (if lt (at' p k) (at' p (k - 1)) = true then _ else _) _ s
    cases e : lt (at' p k) (at' p (k - 1)) with
    | true =>
      rw [if_pos rfl]
      have low : ∀ a, a < k → lt k (at' p a) = true := fun a ha => by
        rw [hkk] at e
        by_cases h1 : a < k - 1 - q
        · exact lt_tr W hkn hl (D.pl.lo (by omega)) e (W.asym _ _ hl (D.pl.lo (by omega)) (D.drop a (k - 1) h1 (by omega) (by omega)))
        · by_cases h2 : a = k - 1
          · rw [h2]; exact e
          · exact lt_tr W hkn hl (D.pl.lo (by omega)) e (D.block a (k - 1) (by omega) (by omega) (by omega)).1
      by_cases h0 : q > 0
      · rw [if_pos h0]
        obtain ⟨P1, D1, R1⟩ := D.rev
        have hk1 := P1.suf k (Nat.le_refl _) hkn
        refine desc_wp hc W f _ (k + 1) 0 (by omega) ⟨P1.succ hkn, by omega, fun a b hab hb => D1 a b hab (by omega), fun a b ha hb hb2 => ?_, fun a b ha hab hb => by omega⟩ h
        have : b = k := by omega
        subst this
        rw [hk1]
        obtain ⟨c, hc2, ec⟩ := R1 a (by omega)
        rw [ec]; exact low c hc2
      · rw [if_neg h0]
        have hq0 : q = 0 := by omega
        subst hq0
        refine desc_wp hc W f _ (k + 1) 0 (by omega) ⟨D.pl.succ hkn, by omega, fun a b hab hb => D.desc a b hab (by omega), fun a b ha hb hb2 => ?_, fun a b ha hab hb => by omega⟩ h
        have : b = k := by omega
        subst this
        rw [hkk]; exact low a (by omega)
    | false =>
      rw [if_neg (by decide)]
      refine hc _ _ _ hl (D.pl.lo hkn) ?_
      show KasT.kasWp cmp (if lt (at' p (k - 1)) (at' p k) = true then _ else _) _ s
      cases e2 : lt (at' p (k - 1)) (at' p k) with
      | true => rw [if_pos rfl]; exact h p k q D
      | false =>
        rw [if_neg (by decide)]
        have hcc : k + 1 - 1 - (q + 1) = k - 1 - q := by omega
        refine desc_wp hc W f p (k + 1) (q + 1) (by omega) ⟨D.pl.succ hkn, by omega, fun a b hab hb => D.front a b hab (by omega), fun a b ha hb hb2 => ?_, fun a b ha hab hb => ?_⟩ h
        · by_cases h1 : b < k
          · exact D.drop a b (by omega) (by omega) h1
          · have : b = k := by omega
            subst this
            exact lt_tr2 W (D.pl.lo hkn) hl (D.pl.lo (by omega)) e2 (D.drop a (b - 1) (by omega) (by omega) (by omega))
        · by_cases h1 : b < k
          · exact D.block a b (by omega) hab h1
          · have : b = k := by omega
            subst this
            have han := D.pl.lo (a := a) (by omega)
            refine ⟨?_, ?_, ?_⟩
            · cases e3 : lt (at' p a) (at' p b) with
              | false => rfl
              | true =>
                rcases W.ntr _ (at' p (b - 1)) _ han hl (D.pl.lo hkn) e3 with h5 | h5
                · by_cases h6 : a = b - 1
                  · rw [h6] at h5; rw [W.asym _ _ hl hl h5] at h5; cases h5
                  · rw [(D.block a (b - 1) (by omega) (by omega) (by omega)).1] at h5; cases h5
                · rw [e2] at h5; cases h5
            · cases e3 : lt (at' p b) (at' p a) with
              | false => rfl
              | true =>
                rcases W.ntr _ (at' p (b - 1)) _ (D.pl.lo hkn) hl han e3 with h5 | h5
                · rw [e] at h5; cases h5
                · by_cases h6 : a = b - 1
                  · rw [h6] at h5; rw [W.asym _ _ hl hl h5] at h5; cases h5
                  · rw [(D.block a (b - 1) (by omega) (by omega) (by omega)).2.1] at h5; cases h5
            · rw [hkk]; exact D.pl.pre a (by omega)
theorem tail3_wp (hc : ∀ i j C, i < n → j < n → C (lt i j) s → cmp i j C s) (W : SWO n lt) {Q : Nat × Array Nat → Shared → Prop} {p : Array Nat} {k : Nat} (hk : 1 ≤ k) (P : Pl n p k) (D : Desc lt p k)
    (h : ∀ m p', 1 ≤ m → Pl n p' m → Asc lt p' m → Q (m, p') s) : (kas_tail3 k n p).kasWp cmp Q s := by
  unfold kas_tail3
  rw [KasT.kasWp_bind]
  have hs : k ≤ p.size := by rw [P.size]; exact P.le
  have hkn := P.le
  refine asc_wp hc W (n - k) k hk (by omega) (P.rev (Nat.zero_le _) (Nat.le_refl _)) (fun a b hab hb => ?_) fun m' h1 h2 P' A' _ => h m' _ (by omega) P' A'
  rw [rev_at hs, rev_at hs, if_pos (by omega), if_pos (by omega)]
  exact D _ _ (by omega) (by omega)
theorem descPart_wp (hc : ∀ i j C, i < n → j < n → C (lt i j) s → cmp i j C s) (W : SWO n lt) {Q : Nat × Array Nat → Shared → Prop} {p : Array Nat} {m : Nat} (hm : m < n) (D : DI n lt p (m + 1) 0)
    (h : ∀ m p', 1 ≤ m → Pl n p' m → Asc lt p' m → Q (m, p') s) : (kas_descPart m n p).kasWp cmp Q s := by
  unfold kas_descPart
  rw [KasT.kasWp_bind]
  refine desc_wp hc W _ p (m + 1) 0 (by omega) D fun p' k' q' D' => ?_
  have := D'.le
  dsimp only
  by_cases h0 : q' > 0
  · rw [if_pos h0]
    obtain ⟨P1, D1, _⟩ := D'.rev
    exact tail3_wp hc W (by omega) P1 D1 h
  · rw [if_neg h0]
    have hq0 : q' = 0 := by omega
    subst hq0
    exact tail3_wp hc W (by omega) D'.pl D'.desc h
theorem count_wp (hc : ∀ i j C, i < n → j < n → C (lt i j) s → cmp i j C s) (W : SWO n lt) (hn : 1 ≤ n) {Q : Nat × Array Nat → Shared → Prop}
    (h : ∀ m p', 1 ≤ m → Pl n p' m → Asc lt p' m → Q (m, p') s) : (kas_count n (List.toArray (List.range n))).kasWp cmp Q s := by
  unfold kas_count
  rw [KasT.kasWp_bind]
  refine asc_wp hc W (n - 1) 1 (Nat.le_refl _) (by omega) (Pl.start hn) (fun a b hab hb => by omega) fun m h1 h2 P A hstop => ?_
  have hid : ∀ a, a < n → at' (List.range n).toArray a = a := fun a ha => by
    by_cases h0 : 1 ≤ a
    · exact (Pl.start hn).suf a h0 ha
    · have : a = 0 := by omega
      subst this
      have := (Pl.start hn).pre 0 (by omega)
      omega
  by_cases hmn : m = n
  · subst hmn
    rw [if_pos (by simp)]
    exact h _ _ h1 P A
  · have hmn2 : m < n := by omega
    have hs := hstop hmn2
    rw [hid m hmn2, hid (m - 1) (by omega)] at hs
    rw [if_neg (by simpa using hmn)]
    by_cases hm1 : m > 1
    · rw [if_pos hm1]
      refine hc _ _ _ (P.lo (by omega)) (P.lo (by omega)) ?_
      show KasT.kasWp cmp (if lt (at' (List.range n).toArray 0) (at' (List.range n).toArray (m - 1)) = true then _ else _) _ s
      rw [hid 0 (by omega), hid (m - 1) (by omega)]
      cases e : lt 0 (m - 1) with
      | true => rw [if_pos rfl]; exact h _ _ h1 P A
      | false =>
        rw [if_neg (by decide)]
        have A2 : ∀ a b, a < b → b < m → SB lt a b := fun a b hab hb => by
          have := A a b hab hb
          rwa [hid a (by omega), hid b (by omega)] at this
        have eqv : ∀ a b, a < b → b < m → lt a b = false := fun a b hab hb => by
          cases e3 : lt a b with
          | false => rfl
          | true =>
            have h0b : lt 0 b = true := by
              by_cases ha0 : a = 0
              · rw [← ha0]; exact e3
              · exact lt_tr2 W (by omega) (by omega : a < n) (by omega) ((A2 0 a (by omega) (by omega)).not W (by omega) (by omega)) e3
            by_cases hbm : b = m - 1
            · rw [hbm] at h0b; rw [e] at h0b; cases h0b
            · have := lt_tr W (by omega) (by omega) (by omega : m - 1 < n) h0b ((A2 b (m - 1) (by omega) (by omega)).not W (by omega) (by omega))
              rw [e] at this; cases this
        have hsz : m ≤ (List.range n).toArray.size := by simp; omega
        have P1 := P.rev (Nat.zero_le _) (Nat.le_refl m)
        have val : ∀ a, a < m → at' (kas_rev (List.range n).toArray 0 m) a = m - 1 - a := fun a ha => by
          rw [rev_at hsz, if_pos (by omega), hid _ (by omega)]; omega
        have valm : at' (kas_rev (List.range n).toArray 0 m) m = m := P1.suf m (Nat.le_refl _) hmn2
        refine descPart_wp hc W hmn2 ⟨P1.succ hmn2, by omega, fun a b hab hb => ?_, fun a b ha hb hb2 => ?_, fun a b ha hab hb => by omega⟩ h
        · rw [val a (by omega), val b (by omega)]
          exact .inr ⟨(A2 (m - 1 - b) (m - 1 - a) (by omega) (by omega)).not W (by omega) (by omega), by omega⟩
        · have : b = m := by omega
          subst this
          rw [val a (by omega), valm]
          by_cases hz : b - 1 - a = b - 1
          · rw [hz]; exact hs
          · exact lt_tr W (by omega) (by omega : b - 1 < n) (by omega) hs (eqv _ _ (by omega) (by omega))
    · rw [if_neg hm1]
      have : m = 1 := by omega
      subst this
      refine descPart_wp hc W hmn2 ⟨P.succ hmn2, by omega, fun a b hab hb => by omega, fun a b ha hb hb2 => ?_, fun a b ha hab hb => by omega⟩ h
      have hb1 : b = 1 := by omega
      have ha0 : a = 0 := by omega
      subst hb1 ha0
      rw [hid 1 (by omega), hid 0 (by omega)]
      exact hs
theorem place_wp (hc : ∀ i j C, i < n → j < n → C (lt i j) s → cmp i j C s) (W : SWO n lt) {p : Array Nat} {k : Nat} (P : Pl n p k) (A : Asc lt p k) (hk : k < n) {Q : Nat → Shared → Prop} : ∀ (f l r : Nat), l ≤ r → r ≤ k → r - l ≤ f →
    (∀ i, i < l → lt k (at' p i) = false) → (∀ i, r ≤ i → i < k → lt k (at' p i) = true) →
    (∀ l', l' ≤ k → (∀ i, i < l' → lt k (at' p i) = false) → (∀ i, l' ≤ i → i < k → lt k (at' p i) = true) → Q l' s) → (kas_place p k f l r).kasWp cmp Q s
  | 0, l, r, hlr, hrk, hf, h1, h2, h => h l (by omega) h1 (fun i hi => h2 i (by omega))
  | f + 1, l, r, hlr, hrk, hf, h1, h2, h => by
    unfold kas_place
    by_cases hge : l ≥ r
    · rw [if_pos hge]; exact h l (by omega) h1 (fun i hi => h2 i (by omega))
    · rw [if_neg hge]
      have hkk := P.suf k (Nat.le_refl _) hk
      refine hc _ _ _ (P.lo hk) (P.lo (by omega)) ?_
      show KasT.kasWp cmp (if lt (at' p k) (at' p ((l + r) / 2)) = true then _ else _) _ s
      rw [hkk]
      have hmid : at' p ((l + r) / 2) < n := P.lo (by omega)
      cases e : lt k (at' p ((l + r) / 2)) with
      | true =>
        rw [if_pos rfl]
        refine place_wp hc W P A hk f l ((l + r) / 2) (by omega) (by omega) (by omega) h1 (fun i hi hik => ?_) h
        by_cases hi2 : i = (l + r) / 2
        · rw [hi2]; exact e
        · exact lt_tr W hk hmid (P.lo (by omega)) e ((A _ i (by omega) hik).not W hmid (P.lo (by omega)))
      | false =>
        rw [if_neg (by decide)]
        refine place_wp hc W P A hk f ((l + r) / 2 + 1) r (by omega) hrk (by omega) (fun i hi => ?_) h2 h
        by_cases hi2 : i = (l + r) / 2
        · rw [hi2]; exact e
        · cases e2 : lt k (at' p i) with
          | false => rfl
          | true =>
            have := lt_tr W hk (P.lo (by omega)) hmid e2 ((A i ((l + r) / 2) (by omega) (by omega)).not W (P.lo (by omega)) hmid)
            rw [e] at this; cases this
theorem bin_wp (hc : ∀ i j C, i < n → j < n → C (lt i j) s → cmp i j C s) (W : SWO n lt) {Q : Array Nat → Shared → Prop} (h : ∀ p, Pl n p n → Asc lt p n → Q p s) : ∀ (f : Nat) (p : Array Nat) (k : Nat), k + f = n → Pl n p k → Asc lt p k →
    (kas_bin f p k).kasWp cmp Q s
  | 0, p, k, hk, P, A => by
    have : k = n := by omega
    subst this
    exact h p P A
  | f + 1, p, k, hk, P, A => by
    have hkn : k < n := by omega
    unfold kas_bin
    rw [KasT.kasWp_bind]
    refine place_wp hc W P A hkn k 0 k (Nat.zero_le _) (Nat.le_refl _) (by omega) (fun i hi => by omega) (fun i h1 h2 => by omega) fun l hl h1 h2 => ?_
    refine bin_wp hc W h f _ (k + 1) (by omega) (P.bub hkn hl) fun a b hab hb => ?_
    have hs : k < p.size := by rw [P.size]; exact hkn
    have hkk := P.suf k (Nat.le_refl _) hkn
    rw [bub_at hs hl, bub_at hs hl, hkk]
    by_cases ea : a = l
    · rw [if_pos ea, if_neg (by omega), if_pos (by omega)]
      exact .inl (h2 _ (by omega) (by omega))
    · rw [if_neg ea]
      by_cases eb : b = l
      · rw [if_pos eb, if_neg (by omega)]
        exact .inr ⟨h1 _ (by omega), P.pre _ (by omega)⟩
      · rw [if_neg eb]
        by_cases ha : l < a ∧ a ≤ k
        · rw [if_pos ha, if_pos (by omega)]; exact A _ _ (by omega) (by omega)
        · rw [if_neg ha]
          by_cases hb2 : l < b ∧ b ≤ k
          · rw [if_pos hb2]; exact A _ _ (by omega) (by omega)
          · rw [if_neg hb2]; exact A _ _ (by omega) (by omega)
theorem sort_wp (hc : ∀ i j C, i < n → j < n → C (lt i j) s → cmp i j C s) (W : SWO n lt) (hn : 1 ≤ n) {Q : Array Nat → Shared → Prop} (h : ∀ p, p.toList.Perm (List.range n) → p.toList.Pairwise (SB lt) → Q p s) :
    (kas_sort n).kasWp cmp Q s := by
  have fin : ∀ p, Pl n p n → Asc lt p n → Q p s := fun p P A => by
    refine h p ?_ ?_
    · have := P.perm
      simpa using Array.perm_iff_toList_perm.mp this
    · rw [List.pairwise_iff_getElem]
      intro i j hi hj hij
      have hi' : i < p.size := by simpa using hi
      have hj' : j < p.size := by simpa using hj
      have := A i j hij (by rw [← P.size]; exact hj')
      have e1 : at' p i = p.toList[i] := by simp [at', Array.getD, hi']
      have e2 : at' p j = p.toList[j] := by simp [at', Array.getD, hj']
      rwa [e1, e2] at this
  unfold kas_sort
  rw [KasT.kasWp_bind]
  refine count_wp hc W hn fun m p hm P A => ?_
  dsimp only
  have hmx : max m 1 = m := by omega
  rw [hmx]
  have hle := P.le
  by_cases hmn : m < n
  · rw [if_pos hmn]
    exact bin_wp hc W fin (n - m) p m (by omega) P A
  · rw [if_neg hmn]
    have : m = n := by omega
    subst this
    exact fin p P A
end
end Mine
section
open PySem.SeqAt
namespace Mine
section
variable {prog : Program} {w : World} {A : Around} {s : Shared} {h₀ : Heap} {L : Addr} {news : List (Addr × Obj)}
def FirstD (b : Bool) (d : Dat) : Prop := ∃ x r, d = .tuple (x :: r) ∧ (if b = true then ∃ p, x = .int p else ∃ q, x = .tuple q)
theorem lexD (N : News h₀ L s.heap news) {n : Nat} {b : Bool} {Q : Bool → Shared → Prop} (hu : A.units + 2 * n + 8 < cLine) :
    ∀ {vs us : List Value} {as bs : List Dat}, DatAll news vs as → DatAll news us bs → (∀ d ∈ as, kqdOk n d = true) → (∀ d ∈ bs, kqdOk n d = true) → ((as.zip bs).all fun p => dcmp n p.1 p.2) = true →
      ∀ (i : Nat), (b = true → i = 0 → ∀ x y, as.head? = some x → bs.head? = some y → (∃ p, x = .int p) ∧ ∃ q, y = .int q) →
      ∀ fin, (as.length < bs.length ↔ fin = true) → Q (lexBy (dlt n) as bs) s → KatLex prog w A b fin Q (vs.zip us) i s
  | _, _, _, _, .nil, .nil, _, _, _, i, _, fin, hf, hq => by
    have : fin = false := by cases fin with | false => rfl | true => exact absurd (hf.mpr rfl) (Nat.lt_irrefl _)
    subst this; exact kat_nil hq
  | _, _, _, _, .nil, .cons _ _, _, _, _, i, _, fin, hf, hq => by
    have : fin = true := hf.mp (Nat.succ_pos _)
    subst this; exact kat_nil hq
  | _, _, _, _, .cons _ _, .nil, _, _, _, i, _, fin, hf, hq => by
    have : fin = false := by cases fin with | false => rfl | true => exact absurd (hf.mpr rfl) (Nat.not_lt_zero _)
    subst this; exact kat_nil hq
  | _, _, a :: as, c :: bs, .cons ha ra, .cons hb rb, ka, kb, hc, i, hint, fin, hf, hq => by
    simp only [List.zip_cons_cons, List.all_cons, Bool.and_eq_true] at hc
    refine kat_cons ((eq_dat (A := A) N ha hb (ka _ (.head _)) (kb _ (.head _)) (by omega)) prog w _ _ ?_)
    unfold lexBy at hq
    cases he : PyData.eqv (kqdP a) (kqdP c) with
    | true =>
      rw [he, if_pos rfl] at hq
      exact kat_yes (lexD N hu ra rb (fun d h => ka d (.tail _ h)) (fun d h => kb d (.tail _ h)) hc.2 (i + 1) (fun _ h => by omega) fin (by simpa using hf) hq)
    | false =>
      rw [he, if_neg (by decide)] at hq
      refine kat_no ?_
      cases hbi : (b && i == 0) with
      | true =>
        simp only [Bool.and_eq_true, beq_iff_eq] at hbi
        obtain ⟨⟨p, rfl⟩, ⟨q, rfl⟩⟩ := hint hbi.1 hbi.2 a c rfl rfl
        cases ha; cases hb
        refine oneLt_int ?_
        have e : dlt n (.int p) (.int q) = decide (p < q) := by cases n <;> rfl
        rw [e] at hq; exact hq
      | false =>
        refine kat_one _ _ ?_
        exact lt_dat N n ha hb (ka _ (.head _)) (kb _ (.head _)) hc.1 (by omega) prog w _ _ hq
theorem datGetD {vs : List Value} {ds : List Dat} (h : DatAll news vs ds) {i : Nat} (hi : i < ds.length) : DatIn news (vs.getD i .none) (ds.getD i .none) := by
  obtain ⟨v, e, hv⟩ := h.get hi
  rw [List.getD_eq_getElem?_getD, e, List.getD_eq_getElem?_getD, List.getElem?_eq_getElem hi]
  exact hv
theorem getD_mem {α : Type} {ds : List α} {i : Nat} {d : α} (hi : i < ds.length) : ds.getD i d ∈ ds := by
  rw [List.getD_eq_getElem?_getD, List.getElem?_eq_getElem hi]
  exact List.getElem_mem hi
theorem ask_tup (N : News h₀ L s.heap news) {k : Nat} {b : Bool} {vs : List Value} {ds : List Dat} (hD : DatAll news vs ds) (hok : ∀ d ∈ ds, kqdOk (k + 1) d = true) (hcmp : ∀ a ∈ ds, ∀ c ∈ ds, dcmp (k + 1) a c = true) (ht : ∀ d ∈ ds, FirstD b d)
    (hu : A.units + 2 * k + 8 < cLine) {i j : Nat} (hi : i < ds.length) (hj : j < ds.length) {C : Bool → Shared → Prop} (hC : C (dlt (k + 1) (ds.getD i .none) (ds.getD j .none)) s) : kas_ask prog w A (tuples' b) vs i j C s := by
  unfold kas_ask
  have d1 := datGetD hD hi
  have d2 := datGetD hD hj
  have m1 := getD_mem (d := Dat.none) hi
  have m2 := getD_mem (d := Dat.none) hj
  generalize vs.getD i .none = v at *
  generalize vs.getD j .none = u at *
  generalize ds.getD i .none = a at *
  generalize ds.getD j .none = c at *
  obtain ⟨x, r, rfl, hx⟩ := ht a m1
  obtain ⟨y, r', rfl, hy⟩ := ht c m2
  have ka := hok _ m1
  have kc := hok _ m2
  have hc := hcmp _ m1 _ m2
  cases d1 with
  | tuple hm ra => cases d2 with
    | tuple hm' rc =>
      refine kat_lt (N.get hm) rfl (N.get hm') rfl ?_
      refine lexD N hu ra rc (by simpa [kqdOk] using ka) (by simpa [kqdOk] using kc) (by simpa [dcmp] using hc) 0 (fun hb _ x' y' e1 e2 => ?_) _ ?_ hC
      · cases e1; cases e2
        rw [if_pos hb] at hx hy
        exact ⟨hx, hy⟩
      · have l1 := ra.length
        have l2 := rc.length
        simp only [List.size_toArray, decide_eq_true_eq, l1, l2]
theorem kind_tups (N : News h₀ L s.heap news) {b : Bool} : ∀ {vs : List Value} {ds : List Dat}, DatAll news vs ds → (∀ d ∈ ds, FirstD b d) →
    ∃ fs, KatTups s.heap vs fs ∧ fs.length = ds.length ∧ ∀ v ∈ fs, Looks (model prog w) s.heap (typeOf v) (.type (if b = true then "int" else "tuple"))
  | _, _, .nil, _ => ⟨[], KatTups.nil, rfl, fun _ h => nomatch h⟩
  | _, _, .cons (d := d) hd r, ht => by
    obtain ⟨fs, h1, h2, h3⟩ := kind_tups N r (fun d h => ht d (.tail _ h))
    obtain ⟨x, q, rfl, hx⟩ := ht d (.head _)
    cases hd with
    | tuple hm ra => cases ra with
      | cons hf rr =>
        rename_i f fr
        refine ⟨f :: fs, KatTups.cons (N.get hm) rfl rfl (by simp) h1, by simp [h2], fun v hv => ?_⟩
        rcases List.mem_cons.mp hv with rfl | hv
        · cases b with
          | true =>
            rw [if_pos rfl] at hx ⊢
            obtain ⟨p, rfl⟩ := hx
            cases hf
            exact Looks.of_pure rfl
          | false =>
            rw [if_neg (by decide)] at hx ⊢
            obtain ⟨p, rfl⟩ := hx
            cases hf with
            | tuple hm2 _ => exact (Looks.ld (N.get hm2)).andThen .now
        · exact h3 v hv
theorem kind_tup (N : News h₀ L s.heap news) {b : Bool} {vs : List Value} {ds : List Dat} {E : Value → Shared → Prop} {Q : SortKind → Shared → Prop} (hD : DatAll news vs ds) (ht : ∀ d ∈ ds, FirstD b d) (hne : 0 < ds.length) (h : Q (tuples' b) s) :
    wpAny (model prog w) A (keyKind' vs.toArray) Q E s := by
  obtain ⟨fs, h1, h2, h3⟩ := kind_tups (prog := prog) (w := w) N hD ht
  refine kat_kind h1 (by omega) h3 (by cases b <;> decide) ?_
  cases b <;> exact h
theorem kind_ints (N : News h₀ L s.heap news) {vs : List Value} {ds : List Dat} {E : Value → Shared → Prop} {Q : SortKind → Shared → Prop} (hD : DatAll news vs ds) (ht : ∀ d ∈ ds, ∃ p, d = .int p) (hne : 2 ≤ ds.length) (h : Q oneType' s) :
    wpAny (model prog w) A (keyKind' vs.toArray) Q E s := by
  have hl := hD.length
  refine kas_kind (T := .type "int") (by omega) (fun v hv => ?_) (by decide) (by decide) h
  obtain ⟨i, hi, rfl⟩ := List.getElem_of_mem hv
  obtain ⟨d, e, hd⟩ := DatAll.at hD (List.getElem?_eq_getElem hi)
  obtain ⟨p, rfl⟩ := ht d (List.mem_of_getElem? e)
  cases hq : vs[i] <;> rw [hq] at hd <;> cases hd
  exact Looks.of_pure rfl
theorem ask_int {vs : List Value} {ds : List Dat} (hD : DatAll news vs ds) (ht : ∀ d ∈ ds, ∃ p, d = .int p) {k i j : Nat} (hi : i < ds.length) (hj : j < ds.length) {C : Bool → Shared → Prop} (hC : C (dlt k (ds.getD i .none) (ds.getD j .none)) s) : kas_ask prog w A oneType' vs i j C s := by
  unfold kas_ask
  have d1 := datGetD hD hi
  have d2 := datGetD hD hj
  obtain ⟨p, e1⟩ := ht _ (getD_mem (d := Dat.none) hi)
  obtain ⟨q, e2⟩ := ht _ (getD_mem (d := Dat.none) hj)
  generalize vs.getD i .none = v at *
  generalize vs.getD j .none = u at *
  rw [e1] at d1 hC
  rw [e2] at d2 hC
  have e : dlt k (.int p) (.int q) = decide (p < q) := by cases k <;> rfl
  rw [e] at hC
  cases d1; cases d2
  exact kat_lt_int hC
def ltIx (k : Nat) (ds : List Dat) (i j : Nat) : Bool := dlt k (ds.getD i .none) (ds.getD j .none)
def SortedBy (k : Nat) (ks ds es : List Dat) : Prop := ∃ p : List Nat, p.Perm (List.range ks.length) ∧ p.Pairwise (SB (ltIx k ks)) ∧ es = p.map fun i => ds.getD i .none
theorem dat_pick {vs : List Value} {ds : List Dat} (hD : DatAll news vs ds) : ∀ (p : List Nat), (∀ i ∈ p, i < ds.length) → DatAll news (p.map fun i => vs.getD i .none) (p.map fun i => ds.getD i .none)
  | [], _ => .nil
  | i :: p, h => .cons (datGetD hD (h i (.head _))) (dat_pick hD p (fun j hj => h j (.tail _ hj)))
structure Sortable (k : Nat) (ds : List Dat) : Prop where
  ok : ∀ d ∈ ds, kqdOk (k + 1) d = true
  cmp : ∀ a ∈ ds, ∀ c ∈ ds, dcmp (k + 1) a c = true
  swo : SWO ds.length (ltIx (k + 1) ds)
  kind : (∃ b, ∀ d ∈ ds, FirstD b d) ∨ ∀ d ∈ ds, ∃ p, d = .int p
theorem sort_all (N : News h₀ L s.heap news) {k : Nat} {vs : List Value} {ds : List Dat} (hD : DatAll news vs ds) (S : Sortable k ds) (h2 : 2 ≤ ds.length) (hu : A.units + 2 * k + 8 < cLine) {Q : Array Nat → Shared → Prop} {E : Value → Shared → Prop}
    (h : ∀ p : Array Nat, p.toList.Perm (List.range ds.length) → p.toList.Pairwise (SB (ltIx (k + 1) ds)) → Q p s) :
    wpAny (model prog w) A (keyKind' vs.toArray) (fun κ s' => (kas_sort vs.length).kasWp (kas_ask prog w A κ vs) Q s') E s := by
  have hl := hD.length
  rcases S.kind with ⟨b, hb⟩ | hi
  · refine kind_tup N hD hb (by omega) ?_
    rw [hl]
    exact sort_wp (fun i j C hi hj hC => ask_tup N hD S.ok S.cmp hb hu hi hj hC) S.swo (by omega) h
  · refine kind_ints N hD hi (by omega) ?_
    rw [hl]
    exact sort_wp (fun i j C hi' hj hC => ask_int hD hi hi' hj hC) S.swo (by omega) h
end
section
variable {prog : Program} {w : World} {A : Around} {E : Value → Shared → Prop} {s : Shared} {h₀ : Heap} {L l : Addr} {m : Str → Option Value} {news cold : List (Addr × Obj)}
theorem sorted_dat {k c : Nat} {vs : List Value} {ds : List Dat} {Q : Value → Shared → Prop} (F : Fr h₀ L s.heap m) (N : News h₀ L s.heap news) (hm : (l, listOf vs.toArray c) ∈ news) (hD : DatAll cold vs ds) (hs : ∀ p ∈ cold, p ∈ news) (S : Sortable k ds) (h2 : 2 ≤ ds.length) (h64 : ds.length < 64)
    (hu : A.units + 2 * k + 16 < cLine)
    (ret : ∀ D us es c h', Fr h₀ L h' m → News h₀ L h' ((D, listOf us.toArray c) :: news) → (∀ p ∈ news, p.1 < D) → DatAll cold us es → SortedBy (k + 1) ds ds es → Q (.ref D) { s with heap := h' }) :
    wpAny (model prog w) A (call (.builtin "sorted") [.ref l]) Q E s := by
  have hl := hD.length
  refine kat_sorted F N ⟨_, (N _ hm).1, rfl, _, rfl⟩ (by omega) (by omega) fun D e1 h' F' N' l1 => ?_
  refine sort_all N' (hD.mono fun p hp => .tail _ (hs p hp)) S h2 (by show A.units + 1 + 1 + _ + _ < _; omega) fun p hp hw => ?_
  refine KasFin.intro F' N' (UpdF.head fun q hq => Nat.ne_of_lt (l1 q hq)) fun h2 c2 F2 N2 => ?_
  exact ret D _ _ c2 h2 F2 N2 l1 (dat_pick hD p.toList fun i hi => by simpa using (hp.mem_iff.mp hi)) ⟨_, hp, hw, rfl⟩
theorem lsort_dat {k c : Nat} {vs : List Value} {ds : List Dat} {Q : Value → Shared → Prop} (F : Fr h₀ L s.heap m) (N : News h₀ L s.heap ((l, listOf vs.toArray c) :: news)) (hne : ∀ p ∈ news, p.1 ≠ l) (hD : DatAll cold vs ds) (hs : ∀ p ∈ cold, p ∈ news) (S : Sortable k ds) (h2 : 2 ≤ ds.length) (h64 : ds.length < 64)
    (hu : A.units + 2 * k + 16 < cLine)
    (ret : ∀ us es c h', Fr h₀ L h' m → News h₀ L h' ((l, listOf us.toArray c) :: news) → DatAll cold us es → SortedBy (k + 1) ds ds es → Q .none { s with heap := h' }) :
    wpAny (model prog w) A (call (.builtin "list.sort") [.ref l]) Q E s := by
  have hl := hD.length
  refine kat_lsort F N (UpdF.head hne) (List.toList_toArray ..) (by omega) (by omega) fun e1 h' F' N' => ?_
  refine sort_all N' (hD.mono fun p hp => .tail _ (hs p hp)) S h2 (by show A.units + 1 + _ + _ < _; omega) fun p hp hw => ?_
  refine KasFin.intro F' N' (UpdF.head hne) fun h2 c2 F2 N2 => ?_
  exact ret _ _ c2 h2 F2 N2 (dat_pick hD p.toList fun i hi => by simpa using (hp.mem_iff.mp hi)) ⟨_, hp, hw, rfl⟩
def KeyFn (prog : Program) (w : World) (A : Around) (h₀ : Heap) (L : Addr) (m : Str → Option Value) (base : List (Addr × Obj)) (f : Value) (v : Value) (d : Dat) : Prop :=
  ∀ (s : Shared) (led : List (Addr × Obj)) (Q : Value → Shared → Prop) (E : Value → Shared → Prop), Fr h₀ L s.heap m → (∀ p ∈ base, p ∈ led) → News h₀ L s.heap led →
    (∀ u tl h tk, Fr h₀ L h m → News h₀ L h (tl ++ led) → (∀ p ∈ tl, ∀ q ∈ led, q.1 < p.1) → DatIn tl u d → Q u { s with heap := h, toks := tk }) → wpAny (model prog w) A (call f [v]) Q E s
theorem updF_app {d : Addr} {o : Obj} {r : List (Addr × Obj)} (hr : ∀ p ∈ r, p.1 ≠ d) : ∀ (pre : List (Addr × Obj)), (∀ p ∈ pre, p.1 ≠ d) → UpdF d o (pre ++ (d, o) :: r) (fun o' => pre ++ (d, o') :: r)
  | [], _ => UpdF.head hr
  | p :: pre, h => UpdF.tail (h p (.head _)) (updF_app hr pre (fun q hq => h q (.tail _ hq)))
theorem keys_go {kS D : Addr} {f : Value} {Fin : List Value → Nat → Shared → Prop} {e1 : Nat} (hkD : @Ne Nat kS D) (hnk : ∀ p ∈ news, p.1 ≠ kS) :
    ∀ (r : List Value) (rd : List Dat) (ks : List Value) (kd : List Dat) (e : Nat) (pre : List (Addr × Obj)) (s : Shared), r.length = rd.length → (∀ (i : Nat) v d, r[i]? = some v → rd[i]? = some d → KeyFn prog w A h₀ L m news f v d) →
      Fr h₀ L s.heap m → News h₀ L s.heap (pre ++ (kS, seqObj "list" (List.toArray ks) e) :: (D, seqObj "list" #[] e1) :: news) → (∀ p ∈ pre, p.1 ≠ kS ∧ p.1 ≠ D) → DatAll pre ks kd →
      (∀ ks' e' pre' h tk, Fr h₀ L h m → News h₀ L h (pre' ++ (kS, seqObj "list" (List.toArray ks') e') :: (D, seqObj "list" #[] e1) :: news) → (∀ p ∈ pre', p.1 ≠ kS ∧ p.1 ≠ D) → DatAll pre' ks' (kd ++ rd) → Fin ks' e' { s with heap := h, toks := tk }) →
      KatKeys prog w A h₀ L m kS f Fin r ks e s
  | [], rd, ks, kd, e, pre, s, hl, hk, F, N, hp, hD, fin => by
    have : rd = [] := List.eq_nil_of_length_eq_zero hl.symm
    subst this
    rw [List.append_nil] at fin
    exact KatKeys.nil (fin ks e pre s.heap s.toks F N hp hD)
  | v :: r, [], ks, kd, e, pre, s, hl, hk, F, N, hp, hD, fin => by cases hl
  | v :: r, d :: rd, ks, kd, e, pre, s, hl, hk, F, N, hp, hD, fin => by
    refine KatKeys.cons (hk 0 v d rfl rfl s _ _ _ F (fun p hp => List.mem_append_right _ (.tail _ (.tail _ hp))) N fun u tl h tk F' N' hfr hu => ?_)
    have hk1 : ∀ p ∈ tl, p.1 ≠ kS ∧ p.1 ≠ D := fun p hpt => ⟨Nat.ne_of_gt (hfr p hpt _ (List.mem_append_right _ (.head _))), Nat.ne_of_gt (hfr p hpt _ (List.mem_append_right _ (.tail _ (.head _))))⟩
    have hp' : ∀ p ∈ tl ++ pre, p.1 ≠ kS ∧ p.1 ≠ D := fun p hq => (List.mem_append.mp hq).elim (hk1 p) (hp p)
    rw [← List.append_assoc] at N'
    refine KatBack.intro F' N' (updF_app (off_cons (Ne.symm hkD) hnk) (tl ++ pre) fun p hq => (hp' p hq).1) fun h2 c F2 N2 => ?_
    refine keys_go hkD hnk r rd (ks ++ [u]) (kd ++ [d]) c (tl ++ pre) _ (Nat.succ.inj hl) (fun i v d h1 h2 => hk (i + 1) v d h1 h2) F2 N2 hp' (DatAll.append (hD.mono fun p hq => List.mem_append_right _ hq) (DatAll.one (hu.mono fun p hq => List.mem_append_left _ hq))) ?_
    intro ks' e' pre' h3 tk3 F3 N3 hp3 hD3
    refine fin ks' e' pre' h3 tk3 F3 N3 hp3 ?_
    rwa [List.append_assoc] at hD3
theorem sortedK_dat {k c : Nat} {f : Addr} {vs : List Value} {ds ks : List Dat} {Q : Value → Shared → Prop} (F : Fr h₀ L s.heap m) (N : News h₀ L s.heap news) (hm : (l, listOf vs.toArray c) ∈ news) (hD : DatAll cold vs ds) (hs : ∀ p ∈ cold, p ∈ news) (hkl : ks.length = ds.length) (S : Sortable k ks) (h2 : 2 ≤ ds.length) (h64 : ds.length < 64)
    (hu : A.units + 2 * k + 16 < cLine) (hkey : ∀ (i : Nat) v d, vs[i]? = some v → ks[i]? = some d → KeyFn prog w A.in1.in1 h₀ L m news (.ref f) v d)
    (ret : ∀ D us es c h' tk, Fr h₀ L h' m → News h₀ L h' ((D, listOf us.toArray c) :: news) → (∀ p ∈ news, p.1 < D) → DatAll cold us es → SortedBy (k + 1) ks ds es → Q (.ref D) { s with heap := h', toks := tk }) :
    wpAny (model prog w) A (call (.builtin "sorted") [.ref l] [(Str.ofString "key", .ref f)]) Q E s := by
  have hl := hD.length
  refine kat_sortedK (b := false) F N ⟨_, (N _ hm).1, rfl, _, rfl⟩ (by omega) (by omega) (ksk_s1 _ _) (fun _ => ksk_l1 _ _) (fun _ => ksk_t1 _ _) fun D kS e1 h' F' N' hlt l1 => ?_
  have hkD : @Ne Nat kS D := Nat.ne_of_gt hlt
  have hnD : ∀ p ∈ news, p.1 ≠ D := fun p hp => Nat.ne_of_lt (l1 p hp)
  have hnk : ∀ p ∈ news, p.1 ≠ kS := fun p hp => Nat.ne_of_lt (Nat.lt_trans (l1 p hp) hlt)
  refine keys_go hkD hnk vs ks [] [] 0 [] _ (by omega) hkey F' N' (fun _ h => nomatch h) .nil ?_
  intro ks' e' pre' h3 tk3 F3 N3 hp3 hD3
  rw [List.nil_append] at hD3
  have hl3 := hD3.length
  have e : vs.length = ks'.length := by omega
  rw [e]
  refine sort_all N3 (hD3.mono fun p hp => List.mem_append_left _ hp) S (by omega) (by show A.units + 1 + 1 + _ + _ < _; omega) fun p hp hw => ?_
  refine KatFin.intro F3 N3 (updF_app (off_cons (Ne.symm hkD) hnk) pre' fun p hq => (hp3 p hq).1) fun h4 c4 F4 N4 => ?_
  have N5 : News h₀ L h4 ((pre' ++ [(kS, seqObj "list" #[] c4)]) ++ (D, seqObj "list" #[] e1) :: news) := by rw [List.append_assoc]; exact N4
  refine KasFin.intro F4 N5 (updF_app hnD _ fun p hq => ?_) fun h5 c5 F5 N6 => ?_
  · rcases List.mem_append.mp hq with hq | hq
    · exact (hp3 p hq).2
    · rw [List.mem_singleton.mp hq]; exact hkD
  · refine ret D _ _ c5 h5 tk3 F5 (fun p hp => N6 p (List.mem_append_right _ hp)) l1 (dat_pick hD p.toList fun i hi => ?_) ⟨_, hp, hw, rfl⟩
    have := hp.mem_iff.mp hi
    rw [List.mem_range] at this
    omega
end
end Mine
end
section
open PyProof
namespace Mine
theorem mro_obj : mroOf (.type "object") = pure [.type "object"] := by rw [mroOf_type]; kernel_rfl
theorem look_obj_new : typeLookup (.type "object") "__new__" = pure (some (.builtin "object.__new__")) := by rw [typeLookup_type, builtinLookup_eq_fast]; kernel_rfl
theorem made_obj : Bind.madeBy (.type "object") = pure (some "object.__new__") := madeBy_type mro_obj look_obj_new (by decide +kernel)
theorem called_obj : TypeCalled "object" "object.__new__" "object.__init__" :=
  ⟨by decide +kernel, by decide +kernel, ⟨_, _, mro_obj⟩, made_obj, by decide +kernel, by rw [isSubtype_type]; kernel_rfl, PySem.F.slot_object_init⟩
theorem typeCall_obj : checkTypeCall "object" ⟨[], []⟩ = pure () := by kernel_rfl
theorem newCall_obj : checkBuiltinCall "object.__new__" ⟨[.type "object"], []⟩ = pure () := by kernel_rfl
theorem entry_obj_new : entryFor table "object.__new__" = some Builtin.«object.__new__» := entryFor_of_tree (by kernel_rfl)
theorem here_obj : Bind.madeHere "object.__new__" (.type "object") = pure () := by kernel_rfl
theorem obj_new_meets : Meets (Builtin.«object.__new__» ⟨[.type "object"], []⟩) (fun _ R s => R (.ok (.ret (.ref s.heap.objs.size))) { s with heap := s.heap.push { cls := .type "object", data := .plain } }) :=
  .of_wp fun prog w A R s h => by
    unfold Builtin.«object.__new__»
    dsimp only
    refine wpAny_bind (wpAny_of_eq (show isType (.type "object") = pure true from rfl) ?_)
    simp only [Bool.not_true, Bool.false_eq_true, if_false]
    rw [if_neg (by decide +kernel)]
    refine wpAny_bind (wpAny_of_eq here_obj ?_)
    rw [if_neg (by decide)]
    rw [if_neg (by decide +kernel)]
    refine wpAny_bind (wpAny_pure ?_)
    refine wpAny_bind (wpAny_newObj_type ?_)
    rw [if_neg (by decide +kernel)]
    exact wpAny_pure ⟨_, rfl, h⟩
section
variable {prog : Program} {w : World} {A : Around} {E : Value → Shared → Prop} {s : Shared} {h₀ : Heap} {L : Addr} {m : Str → Option Value} {news : List (Addr × Obj)}
theorem call_object {Q : Value → Shared → Prop} (F : Fr h₀ L s.heap m) (N : News h₀ L s.heap news)
    (h : ∀ D h', Fr h₀ L h' m → News h₀ L h' ((D, { cls := .type "object", data := .plain }) :: news) → (∀ p ∈ news, p.1 < D) → Q (.ref D) { s with heap := h' }) : wpAny (model prog w) A (call (.type "object") []) Q E s :=
  callType_meets called_obj typeCall_obj newCall_obj entry_obj_new PySem.F.entry_object_init obj_new_meets (Q₁ := fun obj s₁ => obj = .ref s.heap.objs.size ∧ s₁ = { s with heap := s.heap.push { cls := .type "object", data := .plain } }) ⟨rfl, rfl⟩
    fun obj s₁ hq => by
      obtain ⟨rfl, rfl⟩ := hq
      refine ⟨⟨_, Heap.get?_push_size _ rfl, rfl⟩, PySem.F.args_object_init_1 _, fun _ R s => R (.ok (.ret .none)) s, .of_wp fun prog w A R s hs => wpAny_pure ⟨_, rfl, hs⟩, rfl, ?_⟩
      exact h _ _ (F.push _) (News.push F N _) (fun p hp => Heap.lt_size (N p hp).1)
theorem call_iter {l : Addr} {o : Obj} {vs : List Value} {c : Nat} {Q : Value → Shared → Prop} (F : Fr h₀ L s.heap m) (N : News h₀ L s.heap news) (hm : (l, o) ∈ news) (hc : o.cls = .type "list") (hd : o.data = .seq vs.toArray c)
    (h : ∀ I h', Fr h₀ L h' m → News h₀ L h' ((I, { cls := .type "list_iterator", data := .fields #[.ref l, .int 0 0] }) :: news) → (∀ p ∈ news, p.1 < I) → Q (.ref I) { s with heap := h' }) :
    wpAny (model prog w) A (call (.builtin "iter") [.ref l]) Q E s := by
  refine call_function_entry (by decide +kernel) (by decide +kernel) kdk_entry_iter (kdk_args_iter _) ?_
  unfold Builtin.«iter»
  refine wpAny_bind (m := someArgs "iter" 1 2 _) (wpAny_of_eq (a := [Value.ref l]) (by first | rfl | kernel_rfl!) ?_)
  show wpAny _ _ (pyIter (.ref l) >>= _) _ _ _
  refine wpAny_bind (wpAny_pyIter_list ⟨o, (N _ hm).1, hc, c, hd⟩ ?_)
  exact wpAny_pure ⟨_, rfl, h _ _ (F.push _) (News.push F N _ rfl) (fun p hp => Heap.lt_size (N p hp).1)⟩
end
end Mine
end
section
open PyProof
namespace Mine
def minF (lt : Nat → Nat → Bool) : Nat → Nat
  | 0 => 0
  | j + 1 => if lt (j + 1) (minF lt j) = true then j + 1 else minF lt j
theorem minF_le (lt : Nat → Nat → Bool) : ∀ j, minF lt j ≤ j
  | 0 => Nat.le_refl _
  | j + 1 => by rw [minF]; split; exact Nat.le_refl _; exact Nat.le_succ_of_le (minF_le lt j)
theorem min_args2 (a d v : Value) : argsOk "min" ⟨[a], [(Str.ofString "default", d), (Str.ofString "key", v)]⟩ := by unfold argsOk; kernel_rfl
section
variable {prog : Program} {w : World} {A : Around} {E : Value → Shared → Prop} {s : Shared} {h₀ : Heap} {L l q I S : Addr} {m : Str → Option Value} {news : List (Addr × Obj)} {vs : List Value} {R : Result → Shared → Prop} {Q : Value → Shared → Prop}
theorem minK_loop {kd : List Dat} {k : Nat} {kw : List (Str × Value)} (hh : A.handled = none) (hu : A.units + 2 * k + 8 < cLine) (hl : ∀ h, News h₀ L h news → h.IsList l vs.toArray) (hlI : l ≠ I) (hSI : S ≠ I) (hnS : ∀ p ∈ news, p.1 ≠ S) (hnI : ∀ p ∈ news, p.1 ≠ I)
    (hkl : kd.length = vs.length) (hok : ∀ d ∈ kd, kqdOk k d = true) (hcmp : ∀ a ∈ kd, ∀ c ∈ kd, dcmp k a c = true)
    (turn : ∀ (i : Nat) v d, vs[i]? = some v → kd[i]? = some d → KeyFn prog w A.in1 h₀ L m news (.ref q) v d)
    (hR : ∀ v h' tk', vs[minF (ltIx k kd) (vs.length - 1)]? = some v → Fr h₀ L h' m → News h₀ L h' news → R (.ok (.ret v)) { s with heap := h', toks := tk' }) :
    ∀ (r j : Nat) (h : Heap) (tk : Nat) (vb kb : Value) (c : Nat) (oI : Obj) (pre : List (Addr × Obj)), vs.length - (j + 1) = r → j + 1 ≤ vs.length → Fr h₀ L h m →
      News h₀ L h (pre ++ (S, seqObj "list" #[vb, kb] c) :: (I, oI) :: news) → (∀ p ∈ pre, p.1 ≠ S ∧ p.1 ≠ I) → h.IsListIter I l (j + 1) → vs[minF (ltIx k kd) j]? = some vb → DatIn pre kb (kd.getD (minF (ltIx k kd) j) .none) →
      codeAny (model prog w) A (.builtin "min.loop" ⟨[.ref I, .ref q, .ref S], kw⟩) R { s with heap := h, toks := tk } := by
  have hname : (toString "min" ++ toString ".loop" : String) = "min.loop" := by decide
  have W := Walks.list (prog := prog) (w := w) (A := A.in1) hh I l hlI vs.toArray
  have hsz : vs.toArray.size = vs.length := List.size_toArray ..
  intro r
  induction r with
  | zero =>
    intro j h tk vb kb c oI pre hr hj F N hpre hit hvb hkb
    have hin : j + 1 = vs.length := by omega
    have nS := N (S, seqObj "list" #[vb, kb] c) (List.mem_append_right _ (.head _))
    have nI := N (I, oI) (List.mem_append_right _ (.tail _ (.head _)))
    have Nn : News h₀ L h news := fun p hp => N p (List.mem_append_right _ (.tail _ (.tail _ hp)))
    refine codeAny_builtin PySem.F.entry_min_loop ?_
    rw [Around.under_plainId PySem.F.plain_min_loop _]
    show wpAny _ A.in1 (seqItems? (.ref S) >>= _) _ _ _
    refine wpAny_bind (wpAny_seqItems nS.1 rfl ?_)
    show wpAny _ A.in1 (tryCatch (pyNext (.ref I)) _ >>= _) _ _ _
    refine wpAny_bind (wpAny_tryCatch (W.done _ _ _ ⟨by rw [hsz, ← hin]; exact hit, hl h Nn⟩ fun h' tk' hk' => ?_))
    have F1 := kmk_fr F hk' nI.2.1 nI.2.2
    have N1 := kmk_news Nn hk' hnI
    have hS' := hk' S _ (by simpa using hSI) nS.1
    have s1 := Heap.SameBut.update h' S (Obj.mapSeq fun _ => (#[] : Array Value))
    show wpAny _ A.in1 (updateSeq S (fun _ => #[]) >>= _) _ _ _
    refine wpAny_bind ?_
    refine wpAny_updateSeq hS' rfl (wpAny_bind (wpAny_letGo (wpAny_pure ?_)))
    exact hR vb _ _ (by rw [show vs.length - 1 = j by omega]; exact hvb) (ksk_fr F1 s1 nS.2.1 nS.2.2) (ksk_news N1 s1 hnS)
  | succ r ih =>
    intro j h tk vb kb c oI pre hr hj F N hpre hit hvb hkb
    have hlt : j + 1 < vs.length := by omega
    have nS := N (S, seqObj "list" #[vb, kb] c) (List.mem_append_right _ (.head _))
    have nI := N (I, oI) (List.mem_append_right _ (.tail _ (.head _)))
    have Nn : News h₀ L h news := fun p hp => N p (List.mem_append_right _ (.tail _ (.tail _ hp)))
    refine codeAny_builtin PySem.F.entry_min_loop ?_
    rw [Around.under_plainId PySem.F.plain_min_loop _]
    show wpAny _ A.in1 (seqItems? (.ref S) >>= _) _ _ _
    refine wpAny_bind (wpAny_seqItems nS.1 rfl ?_)
    show wpAny _ A.in1 (tryCatch (pyNext (.ref I)) _ >>= _) _ _ _
    refine wpAny_bind (wpAny_tryCatch (W.item (j + 1) _ _ _ (by rw [hsz]; exact hlt) ⟨hit, hl h Nn⟩ fun v h' tk' hP hst' hk' => ?_))
    have hv : vs[j + 1]? = some v := by simpa using hP
    obtain ⟨oI', hoI', hoc, hod⟩ := id hst'.1
    have F1 := kmk_fr F hk' nI.2.1 nI.2.2
    have N1 : News h₀ L h' (pre ++ (S, seqObj "list" #[vb, kb] c) :: (I, oI') :: news) := fun p hp => by
      rcases List.mem_append.mp hp with hp | hp
      · exact ⟨hk' p.1 _ (by simpa using (hpre p hp).2) (N p (List.mem_append_left _ hp)).1, (N p (List.mem_append_left _ hp)).2⟩
      · rcases List.mem_cons.mp hp with rfl | hp
        · exact ⟨hk' S _ (by simpa using hSI) nS.1, nS.2⟩
        · rcases List.mem_cons.mp hp with rfl | hp
          · exact ⟨hoI', nI.2⟩
          · exact kmk_news Nn hk' hnI p hp
    show wpAny _ A.in1 (tryCatch (holding [v] (call (.ref q) [v])) _ >>= _) _ _ _
    have hjk : j + 1 < kd.length := by omega
    have hdk : kd[j + 1]? = some (kd[j + 1]'hjk) := List.getElem?_eq_getElem hjk
    refine wpAny_bind (wpAny_tryCatch (wpAny_holding (turn (j + 1) v _ hv hdk _ _ _ _ F1 (fun p hp => List.mem_append_right _ (.tail _ (.tail _ hp))) N1 fun u tl h2 tk2 F2 N2 hfr hu2 => ?_)))
    have hfS : ∀ p ∈ tl ++ pre, p.1 ≠ S ∧ p.1 ≠ I := fun p hp => by
      rcases List.mem_append.mp hp with hp | hp
      · exact ⟨Nat.ne_of_gt (hfr p hp _ (List.mem_append_right _ (.head _))), Nat.ne_of_gt (hfr p hp _ (List.mem_append_right _ (.tail _ (.head _))))⟩
      · exact hpre p hp
    rw [← List.append_assoc] at N2
    have nS2 := N2 (S, seqObj "list" #[vb, kb] c) (List.mem_append_right _ (.head _))
    have nI2 := N2 (I, oI') (List.mem_append_right _ (.tail _ (.head _)))
    have hit2 : h2.IsListIter I l (j + 1 + 1) := ⟨oI', nI2.1, hoc, hod⟩
    have hmj := minF_le (ltIx k kd) j
    have hmk : minF (ltIx k kd) j < kd.length := by omega
    have hlx : ltIx k kd (j + 1) (minF (ltIx k kd) j) = dlt k (kd[j + 1]'hjk) (kd.getD (minF (ltIx k kd) j) .none) := by
      unfold ltIx
      rw [List.getD_eq_getElem?_getD, hdk]; rfl
    show wpAny _ A.in1 (tryCatch (holding [v, u] (richCompare .Lt u kb >>= _)) _ >>= _) _ _ _
    refine wpAny_bind (wpAny_tryCatch (wpAny_holding (wpAny_bind (lt_dat (s := { s with heap := h2, toks := tk2 }) N2 k (hu2.mono fun p hp => List.mem_append_left _ (List.mem_append_left _ hp)) (hkb.mono fun p hp => List.mem_append_left _ (List.mem_append_right _ hp)) (hok _ (List.getElem_mem hjk)) (hok _ (getD_mem hmk)) (hcmp _ (List.getElem_mem hjk) _ (getD_mem hmk)) (by show A.units + 1 + 2 * k < cLine; omega) prog w _ _ ?_))))
    rw [← hlx]
    refine wpAny_bind (wpAny_holding (wpAny_truthy_bool ?_))
    refine wpAny_bind (wpAny_letGo (wpAny_pure ?_))
    cases hb : ltIx k kd (j + 1) (minF (ltIx k kd) j) with
    | true =>
      have hmF : minF (ltIx k kd) (j + 1) = j + 1 := by rw [minF, if_pos hb]
      have s1 := Heap.SameBut.update h2 S (Obj.mapSeq fun _ => #[v, u])
      obtain ⟨c2, hc2⟩ : ∃ c2, (h2.update S (Obj.mapSeq fun _ => #[v, u])).get? S = some (seqObj "list" #[v, u] c2) := ⟨_, get?_update_seq nS2.1 fun _ => #[v, u]⟩
      simp only [if_true]
      refine wpAny_bind ?_
      refine wpAny_updateSeq nS2.1 rfl (wpAny_bind (wpAny_letGo ?_))
      rw [hname]
      refine wpAny_pure ⟨plainId_quiet PySem.F.plain_min_loop _, ih (j + 1) _ _ v u c2 oI' (tl ++ pre) (by omega) hlt (ksk_fr F2 s1 nS2.2.1 nS2.2.2) (fun p hp => ?_) hfS ⟨oI', (s1.2 I hSI.symm).trans nI2.1, hoc, hod⟩ (by rw [hmF]; exact hv) ?_⟩
      · rcases List.mem_append.mp hp with hq | hq
        · exact ksk_news (news := tl ++ pre) (fun p hp => N2 p (List.mem_append_left _ hp)) s1 (fun p hp => (hfS p hp).1) p hq
        · rcases List.mem_cons.mp hq with rfl | hq
          · exact ⟨hc2, nS2.2⟩
          · rcases List.mem_cons.mp hq with rfl | hq
            · exact ⟨(s1.2 I hSI.symm).trans nI2.1, nI2.2⟩
            · exact ksk_news (news := news) (fun p hp => N2 p (List.mem_append_right _ (.tail _ (.tail _ hp)))) s1 hnS p hq
      · rw [hmF, List.getD_eq_getElem?_getD, hdk]
        exact hu2.mono fun p hp => List.mem_append_left _ hp
    | false =>
      have hmF : minF (ltIx k kd) (j + 1) = minF (ltIx k kd) j := by rw [minF, if_neg (by rw [hb]; decide)]
      simp only [Bool.false_eq_true, if_false]
      refine wpAny_bind (wpAny_letGo ?_)
      rw [hname]
      refine wpAny_pure ⟨plainId_quiet PySem.F.plain_min_loop _, ih (j + 1) _ _ vb kb c oI' (tl ++ pre) (by omega) hlt F2 N2 hfS hit2 (by rw [hmF]; exact hvb) (by rw [hmF]; exact hkb.mono fun p hp => List.mem_append_right _ hp)⟩
theorem call_minK {kd : List Dat} {k : Nat} {c : Nat} {o : Obj} {df : Value} (hh : A.handled = none) (hu : A.units + 2 * k + 16 < cLine) (F : Fr h₀ L s.heap m) (N : News h₀ L s.heap ((I, { cls := .type "list_iterator", data := .fields #[.ref l, .int 0 0] }) :: news))
    (hnI : ∀ p ∈ news, p.1 ≠ I) (hm : (l, o) ∈ news) (hc : o.cls = .type "list") (hd : o.data = .seq vs.toArray c) (hne : 0 < vs.length)
    (hkl : kd.length = vs.length) (hok : ∀ d ∈ kd, kqdOk k d = true) (hcmp : ∀ a ∈ kd, ∀ c ∈ kd, dcmp k a c = true)
    (turn : ∀ (i : Nat) v d, vs[i]? = some v → kd[i]? = some d → KeyFn prog w A.in1 h₀ L m news (.ref q) v d)
    (ret : ∀ v h' tk', vs[minF (ltIx k kd) (vs.length - 1)]? = some v → Fr h₀ L h' m → News h₀ L h' news → Q v { s with heap := h', toks := tk' }) :
    wpAny (model prog w) A (call (.builtin "min") [.ref I] [(Str.ofString "default", df), (Str.ofString "key", .ref q)]) Q E s := by
  have hname : (toString "min" ++ toString ".loop" : String) = "min.loop" := by decide
  have nI := N (I, { cls := .type "list_iterator", data := .fields #[.ref l, .int 0 0] }) (.head _)
  have Nn : News h₀ L s.heap news := fun p hp => N p (.tail _ hp)
  have hl : ∀ h, News h₀ L h news → h.IsList l vs.toArray := fun h N => ⟨o, (N _ hm).1, hc, c, hd⟩
  have hlI : l ≠ I := hnI _ hm
  have hIz : I < s.heap.objs.size := Heap.lt_size nI.1
  refine kmk_tree PySem.F.kind_min PySem.F.plain_min PySem.F.entry_min (min_args2 _ _ _) ?_
  show wpAny _ A.in1 (Builtin.Builtins.bindParams "min" ["key", "default"] 0 ⟨[], [(Str.ofString "default", df), (Str.ofString "key", .ref q)]⟩ >>= _) _ _ s
  refine wpAny_bind (wpAny_of_eq (show Builtin.Builtins.bindParams "min" ["key", "default"] 0 ⟨[], [(Str.ofString "default", df), (Str.ofString "key", .ref q)]⟩ = pure [some (.ref q), some df] from rfl) ?_)
  refine wpAny_bind (wpAny_pure ?_)
  have W := Walks.list (prog := prog) (w := w) (A := A.in1) hh I l hlI vs.toArray
  have hsz : vs.toArray.size = vs.length := List.size_toArray ..
  have hit0 : s.heap.IsListIter I l 0 := ⟨_, nI.1, rfl, rfl⟩
  refine wpAny_bind (W.self 0 s _ _ ⟨hit0, hl _ Nn⟩ ?_)
  refine wpAny_bind (wpAny_newList ?_ (Nat.zero_le _))
  rw [hname]
  refine wpAny_pure ⟨plainId_quiet PySem.F.plain_min_loop _, ?_⟩
  have hL : L < s.heap.objs.size := F.ns.lt
  have hSI : s.heap.objs.size ≠ I := Nat.ne_of_gt hIz
  have FH : Fr h₀ L (s.heap.push (seqObj "list" #[] 0)) m := F.push _
  have gS : (s.heap.push (seqObj "list" #[] 0)).get? s.heap.objs.size = some (seqObj "list" #[] 0) := Heap.get?_push_size _ rfl
  have NH : News h₀ L (s.heap.push (seqObj "list" #[] 0)) news := Nn.grown fun b x e => Heap.get?_push_of_some _ e
  have gI := Heap.get?_push_of_some (seqObj "list" #[] 0) nI.1
  have hnS : ∀ p ∈ news, p.1 ≠ s.heap.objs.size := fun p hp => Nat.ne_of_lt (Heap.lt_size (Nn p hp).1)
  have aS : s.heap.objs.size ≠ L := Nat.ne_of_gt hL
  have zS : h₀.get? s.heap.objs.size = none := next_is_new F
  show codeAny _ _ (.builtin "min.loop" ⟨[.ref I, .ref q, .ref s.heap.objs.size], [(Str.ofString "default", df)]⟩) _ { s with heap := s.heap.push (seqObj "list" #[] 0) }
  generalize s.heap.push (seqObj "list" #[] 0) = H1 at *
  generalize s.heap.objs.size = S at *
  refine codeAny_builtin PySem.F.entry_min_loop ?_
  rw [Around.under_plainId PySem.F.plain_min_loop _]
  show wpAny _ A.in1 (seqItems? (.ref S) >>= _) _ _ _
  refine wpAny_bind (wpAny_seqItems gS rfl ?_)
  show wpAny _ A.in1 (tryCatch (pyNext (.ref I)) _ >>= _) _ _ _
  refine wpAny_bind (wpAny_tryCatch (W.item 0 _ _ _ (by rw [hsz]; exact hne) ⟨⟨_, gI, rfl, rfl⟩, hl _ NH⟩ fun v h' tk' hP hst' hk' => ?_))
  have hv : vs[0]? = some v := by simpa using hP
  obtain ⟨oI', hoI', hoc, hod⟩ := id hst'.1
  have F1 := kmk_fr FH hk' nI.2.1 nI.2.2
  have N1 : News h₀ L h' ((S, seqObj "list" #[] 0) :: (I, oI') :: news) := fun p hp => by
    rcases List.mem_cons.mp hp with rfl | hp
    · exact ⟨hk' _ _ (by simpa using hSI) gS, aS, zS⟩
    · rcases List.mem_cons.mp hp with rfl | hp
      · exact ⟨hoI', nI.2⟩
      · exact kmk_news NH hk' hnI p hp
  show wpAny _ A.in1 (tryCatch (holding [v] (call (.ref q) [v])) _ >>= _) _ _ _
  have hjk : 0 < kd.length := by omega
  have hdk : kd[0]? = some (kd[0]'hjk) := List.getElem?_eq_getElem hjk
  refine wpAny_bind (wpAny_tryCatch (wpAny_holding (turn 0 v _ hv hdk _ _ _ _ F1 (fun p hp => .tail _ (.tail _ hp)) N1 fun u tl h2 tk2 F2 N2 hfr hu2 => ?_)))
  have hfS : ∀ p ∈ tl, p.1 ≠ S ∧ p.1 ≠ I := fun p hp => ⟨Nat.ne_of_gt (hfr p hp _ (.head _)), Nat.ne_of_gt (hfr p hp _ (.tail _ (.head _)))⟩
  have nS2 := N2 (S, seqObj "list" #[] 0) (List.mem_append_right _ (.head _))
  have nI2 := N2 (I, oI') (List.mem_append_right _ (.tail _ (.head _)))
  have s1 := Heap.SameBut.update h2 S (Obj.mapSeq fun _ => #[v, u])
  obtain ⟨c2, hc2⟩ : ∃ c2, (h2.update S (Obj.mapSeq fun _ => #[v, u])).get? S = some (seqObj "list" #[v, u] c2) := ⟨_, get?_update_seq nS2.1 fun _ => #[v, u]⟩
  show wpAny _ A.in1 (updateSeq S (fun _ => #[v, u]) >>= _) _ _ _
  refine wpAny_bind ?_
  refine wpAny_updateSeq nS2.1 rfl ?_
  rw [hname]
  refine wpAny_pure ⟨plainId_quiet PySem.F.plain_min_loop _, minK_loop (k := k) (kd := kd) (s := s) hh (by omega) hl hlI hSI hnS hnI hkl hok hcmp turn (fun v h' tk' hv F N => ret v h' tk' hv F N) _ 0 _ _ v u c2 oI' tl rfl hne (ksk_fr F2 s1 nS2.2.1 nS2.2.2) (fun p hp => ?_) hfS ⟨oI', (s1.2 I hSI.symm).trans nI2.1, hoc, hod⟩ (by rw [minF]; exact hv) ?_⟩
  · rcases List.mem_append.mp hp with hq | hq
    · exact ksk_news (news := tl) (fun p hp => N2 p (List.mem_append_left _ hp)) s1 (fun p hp => (hfS p hp).1) p hq
    · rcases List.mem_cons.mp hq with rfl | hq
      · exact ⟨hc2, nS2.2⟩
      · rcases List.mem_cons.mp hq with rfl | hq
        · exact ⟨(s1.2 I hSI.symm).trans nI2.1, nI2.2⟩
        · exact ksk_news (news := news) (fun p hp => N2 p (List.mem_append_right _ (.tail _ (.tail _ hp)))) s1 hnS p hq
  · rw [minF, List.getD_eq_getElem?_getD, hdk]
    exact hu2
end
end Mine
end
section
open PyProof
namespace Mine
section
variable {prog : Program} {w : World} {A : Around} {E : Value → Shared → Prop} {s : Shared}
theorem nextOf_range_item {it : Addr} {x left step : Int} {Q : Value → Shared → Prop} (hit : IsRangeIter s.heap it x left step) (hleft : 0 < left)
    (hQ : ∀ h', IsRangeIter h' it (x + step) (left - 1) step → Heap.SameBut it s.heap h' → Q (.int x s.toks) { s with heap := h', toks := s.toks + 1 }) :
    wpAny (model prog w) A (Builtin.SmallTypes.nextOf (.ref it)) Q E s := by
  have hT : s.TypeIs (.ref it) "range_iterator" := ⟨_, hit, rfl⟩
  unfold Builtin.SmallTypes.nextOf
  refine wpAny_bind (wpAny_callSpecial?_slot (name := Str.ofString "__next__") hT F.slot_range_iterator_next
    (call_meets F.slot_range_iterator_next hT F.entry_range_iterator_next (F.args_range_iterator_next_1 _) (AutoRange.range_iterator___next___range_iterator_1 it x left step (by omega)) ⟨hit, ?_⟩))
  exact wpAny_pure (hQ _ (Heap.get?_update_self _ (Heap.get?_update_self _ hit rfl) rfl) ((Heap.SameBut.update ..).trans (Heap.SameBut.update ..)))
theorem nextOf_range_end {it : Addr} {x left step : Int} {Q : Value → Shared → Prop} (hh : A.handled = none) (hit : IsRangeIter s.heap it x left step) (hleft : left ≤ 0)
    (hE : ∀ h' e, Heap.ExtBut it s.heap h' → (∃ o, h'.get? e = some o ∧ o.cls = .type "StopIteration") → E (.ref e) { s with heap := h' }) :
    wpAny (model prog w) A (Builtin.SmallTypes.nextOf (.ref it)) Q E s := by
  have hT : s.TypeIs (.ref it) "range_iterator" := ⟨_, hit, rfl⟩
  unfold Builtin.SmallTypes.nextOf
  refine wpAny_bind (wpAny_callSpecial?_slot (name := Str.ofString "__next__") hT F.slot_range_iterator_next
    (wpAny_call_entry F.slot_range_iterator_next hT F.entry_range_iterator_next ?_ (F.args_range_iterator_next_1 _)))
  show wpAny _ _ (field (.ref it) 0 >>= _) _ _ s
  refine wpAny_bind (wpAny_field hit rfl (x := rawInt x) rfl ?_)
  show wpAny _ _ (field (.ref it) 1 >>= _) _ _ s
  refine wpAny_bind (wpAny_field hit rfl (x := rawInt left) rfl ?_)
  show wpAny _ _ (field (.ref it) 2 >>= _) _ _ s
  refine wpAny_bind (wpAny_field hit rfl (x := rawInt step) rfl ?_)
  show wpAny _ _ (if left ≤ 0 then _ else _) _ _ s
  rw [if_pos hleft]
  refine wpAny_bind (wpAny_rule ?_)
  refine wpAny_bind ?_
  show wpAny _ _ (newExc (.type "StopIteration") [] >>= _) _ _ _
  refine wpAny_bind ?_
  simp only [newExc, newTuple]
  refine wpAny_bind (wpAny_newObj_type ?_ (by size_fits))
  refine wpAny_bind (m := firstArgMember _ _) (wpAny_of_eq (a := Value.none) (by first | rfl | (simp only [firstArgMember]; rfl)) ?_)
  refine wpAny_newObj_type ?_ (by size_fits)
  simp only [raiseNew]
  refine wpAny_bind (wpAny_handled ?_)
  first | rw [show A.in1.handled = none from hh] | rw [hh]
  refine wpAny_bind (wpAny_pure (wpAny_throw ?_))
  refine hE _ _ (fun b o _ e => Heap.get?_push_of_some _ (Heap.get?_push_of_some _ e)) ⟨_, Heap.get?_push_size _ rfl, rfl⟩
structure ZAp (z TI TO i1 i2 l2 : Addr) : Prop where
  TIz : TI ≠ z
  TOz : TO ≠ z
  i1z : i1 ≠ z
  i2z : i2 ≠ z
  TITO : TI ≠ TO
  TIi1 : TI ≠ i1
  TIi2 : TI ≠ i2
  TOi1 : TO ≠ i1
  TOi2 : TO ≠ i2
  i12 : i1 ≠ i2
  l2z : l2 ≠ z
  l2TO : l2 ≠ TO
  l2i1 : l2 ≠ i1
  l2i2 : l2 ≠ i2
theorem zipR_next_item {z TI TO i1 i2 l2 : Addr} {k2 : Nat} {x left : Int} {ys : Array Value} {y a b : Value} {Q : Value → Shared → Prop} (D : ZAp z TI TO i1 i2 l2)
    (hz : IsZip s.heap z TI TO .none) (hTI : IsPair s.heap TI (.ref i1) (.ref i2)) (hTO : IsPair s.heap TO a b)
    (h1 : IsRangeIter s.heap i1 x left 1) (hleft : 0 < left) (h2 : s.heap.IsListIter i2 l2 k2) (hl2 : s.heap.IsList l2 ys) (hy : ys[k2]? = some y)
    (hQ : ∀ h', IsZip h' z TI TO (rawInt s.heap.objs.size) → IsPair h' TO (.int x s.toks) y → IsRangeIter h' i1 (x + 1) (left - 1) 1 → h'.IsListIter i2 l2 (k2 + 1) → IsPair h' s.heap.objs.size (.int x s.toks) y → h'.objs.size = s.heap.objs.size + 1 →
      (∀ c o, c ≠ z → c ≠ TO → c ≠ i1 → c ≠ i2 → s.heap.get? c = some o → h'.get? c = some o) → Q (.ref s.heap.objs.size) { s with heap := h', toks := s.toks + 1 }) :
    wpAny (model prog w) A (Builtin.«zip.__next__» ⟨[.ref z], []⟩) (fun fin s' => ∃ v, fin = .done (.ret v) ∧ Q v s') E s := by
  show wpAny _ _ (field (.ref z) 2 >>= _) _ _ _
  refine wpAny_bind (wpAny_field hz rfl (x := .bool false) rfl ?_)
  show wpAny _ _ (field (.ref z) 3 >>= _) _ _ _
  refine wpAny_bind (wpAny_field hz rfl (x := .ref TI) rfl ?_)
  refine wpAny_bind (wpAny_seqItems hTI rfl ?_)
  show wpAny _ _ (Builtin.SmallTypes.ownedTupleIsFree (.ref z) >>= _) _ _ _
  refine wpAny_bind ?_
  unfold Builtin.SmallTypes.ownedTupleIsFree
  refine wpAny_bind (wpAny_field hz rfl (x := .none) rfl (wpAny_pure ?_))
  simp only [if_true]
  refine wpAny_bind (wpAny_rule ?_)
  refine wpAny_bind (wpAny_field hz rfl (x := .ref TO) rfl ?_)
  refine wpAny_bind (wpAny_setField_rec hz (by simp) fun h₁ hz₁ hs₁ => ?_)
  replace hz₁ : IsZip h₁ z TI TO .ellipsis := hz₁
  refine wpAny_bind ?_
  simp only [List.zipIdx_cons, List.zipIdx_nil, List.forIn_cons, List.forIn_nil]
  refine wpAny_bind (wpAny_bind (wpAny_onRaise ?_))
  show wpAny _ _ (Builtin.SmallTypes.nextOf (.ref i1) >>= _) _ _ _
  refine wpAny_bind (nextOf_range_item (hs₁.extBut _ _ D.i1z h1) hleft fun h₂ h1₂ hs₂ => wpAny_pure ?_)
  have hTO₂ : IsPair h₂ TO a b := hs₂.extBut _ _ D.TOi1 (hs₁.extBut _ _ D.TOz hTO)
  refine wpAny_bind (wpAny_seqItems hTO₂ rfl ?_)
  refine wpAny_bind (wpAny_updateSeq_pair hTO₂ fun h₃ hTO₃ hs₃ => ?_)
  replace hTO₃ : IsPair h₃ TO (.int x s.toks) b := hTO₃
  refine wpAny_bind (wpAny_letGo (wpAny_pure ?_))
  refine wpAny_bind (wpAny_bind (wpAny_onRaise ?_))
  show wpAny _ _ (Builtin.SmallTypes.nextOf (.ref i2) >>= _) _ _ _
  refine wpAny_bind (wpAny_nextOf_list_item (((h2.extBut hs₁.extBut D.i2z).extBut hs₂.extBut D.i12.symm).extBut hs₃.extBut D.TOi2.symm)
    (((hl2.extBut hs₁.extBut D.l2z).extBut hs₂.extBut D.l2i1).extBut hs₃.extBut D.l2TO) hy fun h₄ h2₄ hs₄ => wpAny_pure ?_)
  have hTO₄ : IsPair h₄ TO (.int x s.toks) b := hs₄.extBut _ _ D.TOi2 hTO₃
  refine wpAny_bind (wpAny_seqItems hTO₄ rfl ?_)
  refine wpAny_bind (wpAny_updateSeq_pair hTO₄ fun h₅ hTO₅ hs₅ => ?_)
  replace hTO₅ : IsPair h₅ TO (.int x s.toks) y := hTO₅
  refine wpAny_bind (wpAny_letGo (wpAny_pure (wpAny_pure ?_)))
  refine wpAny_bind (wpAny_seqItems hTO₅ rfl ?_)
  refine wpAny_bind (wpAny_newTuple ?_)
  have hsz : h₅.objs.size = s.heap.objs.size := by rw [hs₅.1, hs₄.1, hs₃.1, hs₂.1, hs₁.1]
  have hz₅ : IsZip h₅ z TI TO .ellipsis := hs₅.extBut _ _ D.TOz.symm (hs₄.extBut _ _ D.i2z.symm (hs₃.extBut _ _ D.TOz.symm (hs₂.extBut _ _ D.i1z.symm hz₁)))
  have hk₅ : ∀ c o, c ≠ z → c ≠ TO → c ≠ i1 → c ≠ i2 → s.heap.get? c = some o → h₅.get? c = some o := fun c o c1 c2 c3 c4 e =>
    hs₅.extBut _ _ c2 (hs₄.extBut _ _ c4 (hs₃.extBut _ _ c2 (hs₂.extBut _ _ c3 (hs₁.extBut _ _ c1 e))))
  have h1₅ : IsRangeIter h₅ i1 (x + 1) (left - 1) 1 := hs₅.extBut _ _ D.TOi1.symm (hs₄.extBut _ _ D.i12 (hs₃.extBut _ _ D.TOi1.symm h1₂))
  have h2₅ : h₅.IsListIter i2 l2 (k2 + 1) := h2₄.extBut hs₅.extBut D.TOi2.symm
  have hzlt : z < h₅.objs.size := Heap.lt_size hz₅
  show wpAny _ _ (Builtin.SmallTypes.ownedTupleHandOut (.ref z) (.ref h₅.objs.size) >>= _) _ _ _
  refine wpAny_bind ?_
  unfold Builtin.SmallTypes.ownedTupleHandOut
  have hz₆ : IsZip (h₅.push { cls := .type "tuple", data := .seq #[.int x s.toks, y] }) z TI TO .ellipsis := Heap.get?_push_of_some _ hz₅
  refine wpAny_bind (wpAny_setField_rec hz₆ (by simp) fun h₇ hz₇ hs₇ => ?_)
  replace hz₇ : IsZip h₇ z TI TO (rawInt h₅.objs.size) := hz₇
  refine wpAny_setField_rec hz₇ (by simp) fun h₈ hz₈ hs₈ => ?_
  replace hz₈ : IsZip h₈ z TI TO (rawInt h₅.objs.size) := hz₈
  have up : ∀ c o, c ≠ z → h₅.get? c = some o → h₈.get? c = some o := fun c o c1 e => hs₈.extBut _ _ c1 (hs₇.extBut _ _ c1 (Heap.get?_push_of_some _ e))
  have hT₈ : IsPair h₈ h₅.objs.size (.int x s.toks) y := hs₈.extBut _ _ (Nat.ne_of_gt hzlt) (hs₇.extBut _ _ (Nat.ne_of_gt hzlt) (Heap.get?_push_size _ rfl))
  have hz8 : h₈.objs.size = h₅.objs.size + 1 := by rw [hs₈.1, hs₇.1, Heap.size_push]
  rw [hsz] at hz₈ hT₈ hz8
  refine wpAny_pure ⟨_, rfl, ?_⟩
  show Q (.ref h₅.objs.size) _
  rw [hsz]
  exact hQ h₈ hz₈ (up _ _ D.TOz hTO₅) (up _ _ D.i1z h1₅) (h2₅.at fun o e => up _ o D.i2z e) hT₈ hz8 fun c o c1 c2 c3 c4 e => up c o c1 (hk₅ c o c1 c2 c3 c4 e)
theorem zipR_next_end {z TI TO i1 i2 : Addr} {x left : Int} {Q : Fin → Shared → Prop} (hh : A.handled = none) (i1z : i1 ≠ z)
    (hz : IsZip s.heap z TI TO .none) (hTI : IsPair s.heap TI (.ref i1) (.ref i2)) (h1 : IsRangeIter s.heap i1 x left 1) (hleft : left ≤ 0)
    (hE : ∀ h' e, (∀ c o, c ≠ z → c ≠ i1 → s.heap.get? c = some o → h'.get? c = some o) → (∃ o, h'.get? e = some o ∧ o.cls = .type "StopIteration") → E (.ref e) { s with heap := h' }) :
    wpAny (model prog w) A (Builtin.«zip.__next__» ⟨[.ref z], []⟩) Q E s := by
  show wpAny _ _ (field (.ref z) 2 >>= _) _ _ _
  refine wpAny_bind (wpAny_field hz rfl (x := .bool false) rfl ?_)
  show wpAny _ _ (field (.ref z) 3 >>= _) _ _ _
  refine wpAny_bind (wpAny_field hz rfl (x := .ref TI) rfl ?_)
  refine wpAny_bind (wpAny_seqItems hTI rfl ?_)
  show wpAny _ _ (Builtin.SmallTypes.ownedTupleIsFree (.ref z) >>= _) _ _ _
  refine wpAny_bind ?_
  unfold Builtin.SmallTypes.ownedTupleIsFree
  refine wpAny_bind (wpAny_field hz rfl (x := .none) rfl (wpAny_pure ?_))
  simp only [if_true]
  refine wpAny_bind (wpAny_rule ?_)
  refine wpAny_bind (wpAny_field hz rfl (x := .ref TO) rfl ?_)
  refine wpAny_bind (wpAny_setField_rec hz (by simp) fun h₁ hz₁ hs₁ => ?_)
  replace hz₁ : IsZip h₁ z TI TO .ellipsis := hz₁
  refine wpAny_bind ?_
  simp only [List.zipIdx_cons, List.zipIdx_nil, List.forIn_cons, List.forIn_nil]
  refine wpAny_bind (wpAny_bind (wpAny_onRaise ?_))
  show wpAny _ _ (Builtin.SmallTypes.nextOf (.ref i1) >>= _) _ _ _
  refine wpAny_bind (nextOf_range_end hh (hs₁.extBut _ _ i1z h1) hleft fun h₂ e hs₂ he => ?_)
  obtain ⟨oe, hoe, hce⟩ := he
  have hz₂ : IsZip h₂ z TI TO .ellipsis := hs₂ _ _ i1z.symm hz₁
  have hez : e ≠ z := fun x => by subst x; rw [hz₂] at hoe; cases hoe; simp at hce
  refine wpAny_setField_rec hz₂ (by simp) fun h₃ _ hs₃ => hE h₃ e (fun c o c1 c3 x => hs₃.extBut _ _ c1 (hs₂ _ _ c3 (hs₁.extBut _ _ c1 x))) ⟨oe, hs₃.extBut _ _ hez hoe, hce⟩
theorem pyNext_zipR_item {z TI TO i1 i2 l2 : Addr} {k2 : Nat} {x left : Int} {ys : Array Value} {y a b : Value} {Q : Option Value → Shared → Prop} (D : ZAp z TI TO i1 i2 l2)
    (hz : IsZip s.heap z TI TO .none) (hTI : IsPair s.heap TI (.ref i1) (.ref i2)) (hTO : IsPair s.heap TO a b)
    (h1 : IsRangeIter s.heap i1 x left 1) (hleft : 0 < left) (h2 : s.heap.IsListIter i2 l2 k2) (hl2 : s.heap.IsList l2 ys) (hy : ys[k2]? = some y)
    (hQ : ∀ h', IsZip h' z TI TO (rawInt s.heap.objs.size) → IsPair h' TO (.int x s.toks) y → IsRangeIter h' i1 (x + 1) (left - 1) 1 → h'.IsListIter i2 l2 (k2 + 1) → IsPair h' s.heap.objs.size (.int x s.toks) y → h'.objs.size = s.heap.objs.size + 1 →
      (∀ c o, c ≠ z → c ≠ TO → c ≠ i1 → c ≠ i2 → s.heap.get? c = some o → h'.get? c = some o) → Q (some (.ref s.heap.objs.size)) { s with heap := h', toks := s.toks + 1 }) :
    wpAny (model prog w) A (pyNext (.ref z)) Q E s := by
  have hT : s.TypeIs (.ref z) "zip" := ⟨_, hz, rfl⟩
  unfold pyNext
  exact wpAny_bind (wpAny_attempt (wpAny_callSpecial?_slot (name := Str.ofString "__next__") hT F.slot_zip_next
    (wpAny_call_entry F.slot_zip_next hT F.entry_zip_next
      (zipR_next_item D hz hTI hTO h1 hleft h2 hl2 hy fun h' a1 a2 a3 a4 a5 a6 a7 => wpAny_pure (hQ h' a1 a2 a3 a4 a5 a6 a7)) (F.args_zip_next_1 _))))
theorem pyNext_zipR_end {z TI TO i1 i2 : Addr} {x left : Int} {Q : Option Value → Shared → Prop} (hh : A.handled = none) (i1z : i1 ≠ z)
    (hz : IsZip s.heap z TI TO .none) (hTI : IsPair s.heap TI (.ref i1) (.ref i2)) (h1 : IsRangeIter s.heap i1 x left 1) (hleft : left ≤ 0)
    (hQ : ∀ h', (∀ c o, c ≠ z → c ≠ i1 → s.heap.get? c = some o → h'.get? c = some o) → Q none { s with heap := h' }) : wpAny (model prog w) A (pyNext (.ref z)) Q E s := by
  have hT : s.TypeIs (.ref z) "zip" := ⟨_, hz, rfl⟩
  unfold pyNext
  refine wpAny_bind (wpAny_attempt (wpAny_callSpecial?_slot (name := Str.ofString "__next__") hT F.slot_zip_next
    (wpAny_call_entry F.slot_zip_next hT F.entry_zip_next (zipR_next_end hh i1z hz hTI h1 hleft fun h' e hk he => ?_) (F.args_zip_next_1 _))))
  obtain ⟨o, ho, hc⟩ := he
  refine wpAny_bind (wpAny_isInstance (T := "StopIteration") (b := true) ⟨o, ho, hc⟩ isSubtype_stop ?_)
  exact wpAny_pure (hQ _ hk)
end
end Mine
end
section
open PyProof
namespace Mine
abbrev zrI (n : Nat) : Obj := { cls := .type "range_iterator", dict := none, data := .fields #[rawInt 0, rawInt (Builtin.Range.rangeSize 0 (n : Int) 1), rawInt 1], slots := #[] }
abbrev zrH1 (h : Heap) (n : Nat) : Heap := h.push (zrI n)
abbrev zrH2 (h : Heap) (n : Nat) (I : Addr) : Heap := (zrH1 h n).push { cls := .type "tuple", data := .seq #[.ref h.objs.size, .ref I] }
abbrev zrH3 (h : Heap) (n : Nat) (I : Addr) : Heap := (zrH2 h n I).push { cls := .type "tuple", data := .seq #[.none, .none] }
abbrev zrZ (h : Heap) (n : Nat) (I : Addr) : Obj := { cls := .type "zip", data := .fields #[.none, .bool false, .bool false, .ref (zrH1 h n).objs.size, .ref (zrH2 h n I).objs.size] }
abbrev zrH4 (h : Heap) (n : Nat) (I : Addr) : Heap := (zrH3 h n I).push (zrZ h n I)
theorem meets_zipR_new (r I l : Addr) (k n : Nat) (t u v : Tok) (hsm : Builtin.Range.small 0 (n : Int) 1 = true) :
    Meets (Builtin.«zip.__new__» ⟨[.type "zip", .ref r, .ref I], []⟩) (fun _ R s => IsRange s.heap r 0 (n : Int) 1 t u v ∧ s.heap.IsListIter I l k ∧
      R (.ok (.ret (.ref (zrH3 s.heap n I).objs.size))) { s with heap := zrH4 s.heap n I }) :=
  .of_wp fun prog w A R s h => by
    obtain ⟨hp, g, d, tk, os⟩ := s; obtain ⟨hl1, hl2, h⟩ := h
    have hsub := sub_zip
    have hL1 : IsRange (Shared.heap ⟨hp, g, d, tk, os⟩) r 0 (n : Int) 1 t u v := hl1
    have hL2 : Heap.IsListIter (Shared.heap ⟨hp.push (zrI n), g, d, tk, os⟩) I l k := hl2.at fun o e => Heap.get?_push_of_some _ e
    wp_walk using wpAny_pyIter_range hL1 hsm, wpAny_pyIter_listiter hL2
    exact ⟨_, rfl, h⟩
section
variable {prog : Program} {w : World} {A : Around} {E : Value → Shared → Prop} {s : Shared} {h₀ : Heap} {L : Addr} {m : Str → Option Value} {news : List (Addr × Obj)}
theorem call_zipR {r I l : Addr} {k n : Nat} {t u v : Tok} {Q : Value → Shared → Prop} (F : Fr h₀ L s.heap m) (N : News h₀ L s.heap news) (hr : IsRange s.heap r 0 (n : Int) 1 t u v) (hsm : Builtin.Range.small 0 (n : Int) 1 = true) (hit : s.heap.IsListIter I l k)
    (h : ∀ (z TO TI i1 : Addr) h', Fr h₀ L h' m → News h₀ L h' ((z, { cls := .type "zip", dict := none, data := .fields #[.none, .bool false, .bool false, .ref TI, .ref TO], slots := #[] }) :: (TO, { cls := .type "tuple", data := .seq #[.none, .none] }) :: (TI, { cls := .type "tuple", data := .seq #[.ref i1, .ref I] }) :: (i1, zrI n) :: news) →
      TO < z → TI < TO → i1 < TI → (∀ p ∈ news, p.1 < i1) → I < i1 → Q (.ref z) { s with heap := h' }) :
    wpAny (model prog w) A (call (.type "zip") [.ref r, .ref I]) Q E s := by
  refine callType_new PySem.F.called_zip (by decide) (PySem.F.typeCall_zip_2 _ _) (PySem.F.newCall_zip_2 _ _) (fun obj => PySem.F.args_object_init_3 obj _ _) PySem.F.entry_zip_new
    (meets_zipR_new r I l k n t u v hsm) ⟨hr, hit, ?_⟩
  have z1 : (zrH1 s.heap n).objs.size = s.heap.objs.size + 1 := Heap.size_push ..
  have z2 : (zrH2 s.heap n I).objs.size = s.heap.objs.size + 2 := by rw [Heap.size_push, z1]
  have z3 : (zrH3 s.heap n I).objs.size = s.heap.objs.size + 3 := by rw [Heap.size_push, z2]
  have g4 : (zrH4 s.heap n I).get? (zrH3 s.heap n I).objs.size = some _ := Heap.get?_push_size _ rfl
  refine ⟨⟨_, g4, rfl⟩, h _ (zrH2 s.heap n I).objs.size (zrH1 s.heap n).objs.size s.heap.objs.size _ ((((F.push _).push _).push _).push _) (News.push (((F.push _).push _).push _) (News.push ((F.push _).push _) (News.push (F.push _) (News.push F N _) _) _) _) ?_ ?_ ?_ (fun p hp => Heap.lt_size (N p hp).1) ?_⟩
  · rw [z2, z3]; exact Nat.lt_succ_self _
  · rw [z1, z2]; exact Nat.lt_succ_self _
  · rw [z1]; exact Nat.lt_succ_self _
  · obtain ⟨o, e, _⟩ := hit; exact Heap.lt_size e
end
end Mine
end
section
open PyProof PyProof.Rows.LCg PyProof.Rows.LCp
namespace Mine
def ZL (z TO TI i1 I : Addr) (a b : Value) (n i : Nat) (oI : Obj) : List (Addr × Obj) :=
  [(z, { cls := .type "zip", dict := none, data := .fields #[.none, .bool false, .bool false, .ref TI, .ref TO], slots := #[] }), (TO, { cls := .type "tuple", data := .seq #[a, b] }), (TI, { cls := .type "tuple", data := .seq #[.ref i1, .ref I] }),
   (i1, { cls := .type "range_iterator", dict := none, data := .fields #[rawInt (i : Int), rawInt ((n : Int) - i), rawInt 1], slots := #[] }), (I, oI)]
def ZA (z TO TI i1 I : Addr) (p : Addr) : Prop := p ≠ z ∧ p ≠ TO ∧ p ≠ TI ∧ p ≠ i1 ∧ p ≠ I
def ZIt (oI : Obj) (l : Addr) (i : Nat) : Prop := oI.cls = .type "list_iterator" ∧ oI.data = .fields #[.ref l, .int i 0]
def ZEnd (h₀ : Heap) (L : Addr) (m : Str → Option Value) (s₁ : Shared) (C : Addr) (oC : Obj) (D : Addr) (oD : Obj) (zl : List (Addr × Obj)) (r : Value → List (Addr × Obj) → Prop) (old : List (Addr × Obj)) (y : Value) (s₂ : Shared) : Prop :=
  ∃ h' tk tl, s₂ = { s₁ with heap := h', toks := tk } ∧ Fr h₀ L h' m ∧ News h₀ L h' ((C, oC) :: (D, oD) :: (zl ++ (tl ++ old))) ∧ (∀ p ∈ tl, ∀ q ∈ (C, oC) :: (D, oD) :: (zl ++ old), q.1 < p.1) ∧ r y (tl ++ old)
section
variable {prog : Program} {w : World} {A : Around} {E : Value → Shared → Prop} {s : Shared} {h₀ : Heap} {L : Addr} {m : Str → Option Value} {env : Env}
theorem zl_off {z TO TI i1 I : Addr} {a b : Value} {n i : Nat} {oI : Obj} {p : Addr} (h : ZA z TO TI i1 I p) : ∀ q ∈ ZL z TO TI i1 I a b n i oI, p ≠ q.1 := fun q hq => by
  obtain ⟨h1, h2, h3, h4, h5⟩ := h
  simp only [ZL, List.mem_cons, List.not_mem_nil, or_false] at hq
  rcases hq with rfl | rfl | rfl | rfl | rfl
  · exact h1
  · exact h2
  · exact h3
  · exact h4
  · exact h5
theorem zl_of {z TO TI i1 I : Addr} {a b : Value} {n i : Nat} {oI : Obj} {p : Addr} (h : ∀ q ∈ ZL z TO TI i1 I a b n i oI, p ≠ q.1) : ZA z TO TI i1 I p :=
  ⟨h _ (.head _), h _ (.tail _ (.head _)), h _ (.tail _ (.tail _ (.head _))), h _ (.tail _ (.tail _ (.tail _ (.head _)))), h _ (.tail _ (.tail _ (.tail _ (.tail _ (.head _)))))⟩
theorem zip_block {elt iter : Expr} {x x₂ : Str} {px px₂ tp : Pos} {tkn} {scope : Scope} {cl : List (Str × Addr)} {pos : Pos} {s₂ : Shared} {z TO TI i1 I l : Addr} {n c : Nat} {oI ol : Obj} {vs : List Value} {news : List (Addr × Obj)}
    {RR : Value → Addr → Result → Shared → Prop} (K : Nat → List Value → List (Addr × Obj) → Prop)
    (hcell : ∀ y ∈ scope.names, y.2 ≠ .cell) (hkind : scope.kind = .function) (hx : scope.names.lookup x = some .local) (hx₂ : scope.names.lookup x₂ = some .local) (hxx : x ≠ x₂) (hh : A.handled = none)
    (D : ZAp z TI TO i1 I l) (F : Fr h₀ L s₂.heap m) (N : News h₀ L s₂.heap (ZL z TO TI i1 I .none .none n 0 oI ++ news)) (off : ∀ p ∈ news, ZA z TO TI i1 I p.1)
    (hl : ∀ i ys nw, K i ys nw → (l, ol) ∈ nw) (hlc : ol.cls = .type "list") (hld : ol.data = .seq vs.toArray c) (hn : n ≤ vs.length) (hnz : n ≤ 100000) (hoI : ZIt oI l 0) (h0 : K 0 [] news)
    (turn : ∀ i ys nw a b oI, i < n → K i ys nw → ∀ v t C oC D m₂ h tk (E' : Value → Shared → Prop), vs[i]? = some v → NsObj oC m₂ → m₂ x = some (.int i t) → m₂ x₂ = some v → Fr h₀ L h m → News h₀ L h ((C, oC) :: (D, lst ys) :: (ZL z TO TI i1 I a b n (i + 1) oI ++ nw)) →
      (∀ p ∈ nw, p.1 ≠ C ∧ p.1 ≠ D) → @Ne Nat C D →
      wpAny (model prog w) A (eval elt (compEnvC scope cl C env)) (ZEnd h₀ L m { s₂ with heap := h, toks := tk } C oC D (lst ys) (ZL z TO TI i1 I a b n (i + 1) oI) (fun y nw' => K (i + 1) (ys ++ [y]) nw') nw) E' { s₂ with heap := h, toks := tk })
    (hRR : ∀ D C h tk m' ys nw oI, K n ys nw → ZIt oI l n → Fr h₀ L h m → News h₀ L h ((D, lst ys) :: (I, oI) :: nw) → (∀ p ∈ nw, p.1 ≠ D ∧ p.1 ≠ I ∧ p.1 ≠ C) → @Ne Nat D I → @Ne Nat I C → h.Ns C m' → h₀.get? C = none → h₀.get? D = none → C ≠ L → D ≠ L → C ≠ D → RR (.ref D) C (.ok .next) { s₂ with heap := h, toks := tk }) :
    wpAny (model prog w) A (newList []) (fun acc s₃ => wpAny (model prog w) A (newFunctionEnv scope env.globals cl [] env.qual none .none (some env)) (fun cenv s₄ =>
      codeAny (model prog w) A (.compStart (.ListComp elt [⟨.Tuple [.Name x px, .Name x₂ px₂] tkn tp, iter, [], 0⟩] scope pos) 0 (.ref z) acc { cenv with scope := relabel scope env }) (RR acc cenv.locals) s₄) E s₃) E s₂ := by
  refine wpAny_newObj_type (wpAny_newFunctionEnv hcell (by intro y hy; simp at hy) (fun h₁ hns₁ hsb₁ => ?_) hkind)
  dsimp only at hns₁ hsb₁ ⊢
  generalize hH2 : s₂.heap.push { cls := .type "list", dict := none, data := .seq ([] : List Value).toArray } = H2 at hns₁ hsb₁ ⊢
  have hC : H2.objs.size = s₂.heap.objs.size + 1 := by rw [← hH2, Heap.size_push]
  have hDC : s₂.heap.objs.size ≠ H2.objs.size := by rw [hC]; exact Nat.ne_of_lt (Nat.lt_succ_self _)
  have below : ∀ b, b < s₂.heap.objs.size → b ≠ H2.objs.size ∧ b ≠ s₂.heap.objs.size := fun b hb => ⟨by rw [hC]; exact Nat.ne_of_lt (Nat.lt_succ_of_lt hb), Nat.ne_of_lt hb⟩
  have old : ∀ b o, s₂.heap.get? b = some o → h₁.get? b = some o := fun b o e => hsb₁.extBut b o (below b (Heap.lt_size e)).1 (Heap.get?_push_of_some _ (hH2 ▸ Heap.get?_push_of_some _ e))
  have hacc : h₁.get? s₂.heap.objs.size = some (lst []) := hsb₁.extBut _ _ hDC (Heap.get?_push_of_some _ (hH2 ▸ Heap.get?_push_size _ rfl))
  have fresh : ∀ a, s₂.heap.objs.size ≤ a → s₂.heap.get? a = none := fun a ha => by
    cases e : s₂.heap.get? a with
    | none => rfl
    | some o' => exact absurd (Heap.lt_size e) (Nat.not_lt.mpr ha)
  have fresh₀ : ∀ a, s₂.heap.objs.size ≤ a → h₀.get? a = none := fun a ha => by
    cases e : h₀.get? a with
    | none => rfl
    | some o' => have := F.keep a o' e; rw [fresh a ha] at this; cases this
  have hD₀ : h₀.get? s₂.heap.objs.size = none := fresh₀ _ (Nat.le_refl _)
  have hC₀ : h₀.get? H2.objs.size = none := fresh₀ _ (by rw [hC]; exact Nat.le_succ _)
  have hLlt : L < s₂.heap.objs.size := F.ns.lt
  have hDL : s₂.heap.objs.size ≠ L := Ne.symm (below L hLlt).2
  have hCL : H2.objs.size ≠ L := Ne.symm (below L hLlt).1
  have zlt : ∀ p ∈ ZL z TO TI i1 I .none .none n 0 oI ++ news, p.1 < s₂.heap.objs.size := fun p hp => Heap.lt_size (N p hp).1
  have bz := below z (zlt _ (.head _))
  have bTO := below TO (zlt _ (.tail _ (.head _)))
  have bTI := below TI (zlt _ (.tail _ (.tail _ (.head _))))
  have bi1 := below i1 (zlt _ (.tail _ (.tail _ (.tail _ (.head _)))))
  have bI := below I (zlt _ (.tail _ (.tail _ (.tail _ (.tail _ (.head _))))))
  have aC : ∀ {a b : Value} {i : Nat} {oI : Obj}, ∀ p ∈ ZL z TO TI i1 I a b n i oI, p.1 ≠ H2.objs.size := fun {a b i oI} p hp => Ne.symm (zl_off (a := a) (b := b) (n := n) (i := i) (oI := oI) ⟨Ne.symm bz.1, Ne.symm bTO.1, Ne.symm bTI.1, Ne.symm bi1.1, Ne.symm bI.1⟩ p hp)
  have aD : ∀ {a b : Value} {i : Nat} {oI : Obj}, ∀ p ∈ ZL z TO TI i1 I a b n i oI, p.1 ≠ s₂.heap.objs.size := fun {a b i oI} p hp => Ne.symm (zl_off (a := a) (b := b) (n := n) (i := i) (oI := oI) ⟨Ne.symm bz.2, Ne.symm bTO.2, Ne.symm bTI.2, Ne.symm bi1.2, Ne.symm bI.2⟩ p hp)
  have hzL : ∀ q : Addr, q = z ∨ q = TO ∨ q = TI ∨ q = i1 ∨ q = I → q ≠ L ∧ h₀.get? q = none := by
    rintro q (rfl | rfl | rfl | rfl | rfl)
    · exact (N _ (.head _)).2
    · exact (N _ (.tail _ (.head _))).2
    · exact (N _ (.tail _ (.tail _ (.head _)))).2
    · exact (N _ (.tail _ (.tail _ (.tail _ (.head _))))).2
    · exact (N _ (.tail _ (.tail _ (.tail _ (.tail _ (.head _)))))).2
  have frz : ∀ {h h' : Heap}, Fr h₀ L h m → (∀ c o, c ≠ z → c ≠ TO → c ≠ i1 → c ≠ I → h.get? c = some o → h'.get? c = some o) → Fr h₀ L h' m := fun {h h'} F k => by
    obtain ⟨oL, a1, a2, hoL, a3⟩ := F.ns
    refine ⟨⟨oL, a1, a2, k _ _ (Ne.symm (hzL z (.inl rfl)).1) (Ne.symm (hzL TO (.inr (.inl rfl))).1) (Ne.symm (hzL i1 (.inr (.inr (.inr (.inl rfl))))).1) (Ne.symm (hzL I (.inr (.inr (.inr (.inr rfl))))).1) hoL, a3⟩, fun b o e => k b o ?_ ?_ ?_ ?_ (F.keep b o e), F.above⟩
    · rintro rfl; rw [(hzL b (.inl rfl)).2] at e; cases e
    · rintro rfl; rw [(hzL b (.inr (.inl rfl))).2] at e; cases e
    · rintro rfl; rw [(hzL b (.inr (.inr (.inr (.inl rfl))))).2] at e; cases e
    · rintro rfl; rw [(hzL b (.inr (.inr (.inr (.inr rfl))))).2] at e; cases e
  have loop : ∀ s₃ : Shared, s₃ = { s₂ with heap := h₁, toks := s₂.toks + ([] : List (Str × Value)).length } →
      codeAny (model prog w) A (.compLoop (.ListComp elt [⟨.Tuple [.Name x px, .Name x₂ px₂] tkn tp, iter, [], 0⟩] scope pos) 0 (.ref z) (.ref s₂.heap.objs.size) (compEnvC scope cl H2.objs.size env))
        (RR (.ref s₂.heap.objs.size) H2.objs.size) s₃ := by
    rintro s₃ rfl
    refine codeAny_compLoop_pair
      (fun k s' => ∃ h' tk i ys m' nw a b oI, s' = { s₂ with heap := h', toks := tk } ∧ i ≤ n ∧ k = n + 1 - i ∧ ys.length = i ∧ ZIt oI l i ∧ Fr h₀ L h' m ∧ h'.Ns H2.objs.size m' ∧ News h₀ L h' ((s₂.heap.objs.size, lst ys) :: (ZL z TO TI i1 I a b n i oI ++ nw)) ∧
        (∀ p ∈ nw, p.1 ≠ H2.objs.size ∧ p.1 ≠ s₂.heap.objs.size ∧ ZA z TO TI i1 I p.1) ∧ K i ys nw) ?_ (n + 1)
      ⟨h₁, _, 0, [], _, news, .none, .none, oI, rfl, Nat.zero_le _, rfl, rfl, hoI, F.keeps old, hns₁, fun p hp => ?_, fun p hp => ⟨(below _ (zlt p (List.mem_append_right _ hp))).1, (below _ (zlt p (List.mem_append_right _ hp))).2, off p hp⟩, h0⟩
    · rintro k s' ⟨h', tk, i, ys, m', nw, a, b, oJ, rfl, hi, rfl, hyl, hoJ, F', hn', N', off', hK⟩
      have gz := N' (z, _) (.tail _ (.head _))
      have gTO := N' (TO, _) (.tail _ (.tail _ (.head _)))
      have gTI := N' (TI, _) (.tail _ (.tail _ (.tail _ (.head _))))
      have gi1 := N' (i1, _) (.tail _ (.tail _ (.tail _ (.tail _ (.head _)))))
      have gI := N' (I, _) (.tail _ (.tail _ (.tail _ (.tail _ (.tail _ (.head _))))))
      have gD := N' (s₂.heap.objs.size, _) (.head _)
      have gnw : ∀ p ∈ nw, h'.get? p.1 = some p.2 ∧ p.1 ≠ L ∧ h₀.get? p.1 = none := fun p hp => N' p (.tail _ (List.mem_append_right _ hp))
      by_cases hlt : i < n
      · have hv : vs[i]? = some (vs[i]'(by omega)) := List.getElem?_eq_getElem (by omega)
        generalize vs[i]'(by omega) = v at hv
        have hlm := gnw _ (hl _ _ _ hK)
        refine pyNext_zipR_item (s := { s₂ with heap := h', toks := tk }) D gz.1 gTI.1 gTO.1 gi1.1 (by omega) ⟨_, gI.1, hoJ.1, hoJ.2⟩ ⟨_, hlm.1, hlc, c, hld⟩ (by rw [List.getElem?_toArray]; exact hv) fun h₂ q1 q2 q3 q4 q5 q6 q7 => ?_
        dsimp only
        refine wpAny_letOwnedTupleGo_zip q1 fun h₃ r1 r2 => ?_
        obtain ⟨oK, e4, hKc, hKd⟩ := q4
        have szz : h'.objs.size ≠ z := Nat.ne_of_gt (Heap.lt_size gz.1)
        have keep3 : ∀ c o, c ≠ z → c ≠ TO → c ≠ i1 → c ≠ I → h'.get? c = some o → h₃.get? c = some o := fun c o c1 c2 c3 c4 e => r2.extBut _ _ c1 (q7 c o c1 c2 c3 c4 e)
        have ht : IsTup h₃ h'.objs.size #[.int (i : Int) tk, v] := ⟨_, r2.extBut _ _ szz q5, rfl, _, rfl⟩
        refine assign_Tuple_tuple hh ht rfl rfl fun h₅ he => ?_
        have he' : ∀ b o, h₃.get? b = some o → h₅.get? b = some o := fun b o e => he b o (Nat.ne_of_lt (Heap.lt_size e)) e
        have keep5 : ∀ c o, c ≠ z → c ≠ TO → c ≠ i1 → c ≠ I → h'.get? c = some o → h₅.get? c = some o := fun c o c1 c2 c3 c4 e => he' _ _ (keep3 c o c1 c2 c3 c4 e)
        refine assignInOrder_cons (wpAny_assign_Name (wpAny_storeName_local (lookup_relabel_local hx) (hn'.at' fun o e => keep5 _ o (Ne.symm bz.1) (Ne.symm bTO.1) (Ne.symm bi1.1) (Ne.symm bI.1) e) (fun h₆ hn₆ hs₆ => ?_) (by simp [compEnvC, relabel, hkind])))
        refine assignInOrder_cons (wpAny_assign_Name (wpAny_storeName_local (lookup_relabel_local hx₂) hn₆ (fun h₇ hn₇ hs₇ => ?_) (by simp [compEnvC, relabel, hkind])))
        refine assignInOrder_nil ?_
        have st : ∀ b o, b ≠ H2.objs.size → h₅.get? b = some o → h₇.get? b = some o := fun b o hb e => hs₇.extBut b o hb (hs₆.extBut b o hb e)
        obtain ⟨oC, heC, hoC⟩ := ns_obj hn₇
        have F₇ : Fr h₀ L h₇ m := ((frz F' keep5).change hs₆ hCL hC₀).change hs₇ hCL hC₀
        have N₇ : News h₀ L h₇ ((H2.objs.size, oC) :: (s₂.heap.objs.size, lst ys) :: (ZL z TO TI i1 I (.int (i : Int) tk) v n (i + 1) oK ++ nw)) := fun p hp => by
          rcases List.mem_cons.mp hp with rfl | hp
          · exact ⟨heC, hCL, hC₀⟩
          · rcases List.mem_cons.mp hp with rfl | hp
            · exact ⟨st _ _ hDC (keep5 _ _ (Ne.symm bz.2) (Ne.symm bTO.2) (Ne.symm bi1.2) (Ne.symm bI.2) gD.1), gD.2⟩
            · rcases List.mem_append.mp hp with hp | hp
              · have hpC := aC p hp
                simp only [ZL, List.mem_cons, List.not_mem_nil, or_false] at hp
                rcases hp with rfl | rfl | rfl | rfl | rfl
                · exact ⟨st _ _ hpC (he' _ _ r1), gz.2⟩
                · exact ⟨st _ _ hpC (he' _ _ (r2.extBut _ _ D.TOz q2)), gTO.2⟩
                · exact ⟨st _ _ hpC (keep5 _ _ D.TIz D.TITO D.TIi1 D.TIi2 gTI.1), gTI.2⟩
                · refine ⟨st _ _ hpC (he' _ _ (r2.extBut _ _ D.i1z ?_)), gi1.2⟩
                  have e1 : ((i + 1 : Nat) : Int) = (i : Int) + 1 := by push_cast; rfl
                  have e2 : (n : Int) - ((i + 1 : Nat) : Int) = (n : Int) - (i : Int) - 1 := by push_cast; omega
                  rw [e2, e1]; exact q3
                · exact ⟨st _ _ hpC (he' _ _ (r2.extBut _ _ D.i2z e4)), gI.2⟩
              · have z1 := gnw p hp
                obtain ⟨w1, w2, w3⟩ := off' p hp
                exact ⟨st _ _ w1 (keep5 _ _ w3.1 w3.2.1 w3.2.2.2.1 w3.2.2.2.2 z1.1), z1.2⟩
        refine wpAny_mono (turn i ys nw _ _ oK hlt hK v tk H2.objs.size oC s₂.heap.objs.size _ h₇ _ _ hv hoC (by simp [hxx]) (by simp) F₇ N₇ (fun p hp => ⟨(off' p hp).1, (off' p hp).2.1⟩) (Ne.symm hDC)) (fun y s₄ h₄ => ?_) fun _ _ e => e
        obtain ⟨h₄, tk₄, tl, rfl, F₄, N₄, fr₄, K₄⟩ := h₄
        have zD := (N₄ (s₂.heap.objs.size, lst ys) (.tail _ (.head _))).1
        have zC := (N₄ (H2.objs.size, oC) (.head _)).1
        refine append_at (hsz := by show ys.toArray.size ≤ sizeLine; rw [List.size_toArray, hyl, sizeLine_eq]; omega) zD fun h₅ hs₅ hD₅ => ?_
        have hoff2 : ∀ p ∈ tl ++ nw, p.1 ≠ H2.objs.size ∧ p.1 ≠ s₂.heap.objs.size ∧ ZA z TO TI i1 I p.1 := fun p hp => by
          rcases List.mem_append.mp hp with hp | hp
          · exact ⟨Nat.ne_of_gt (fr₄ p hp _ (.head _)), Nat.ne_of_gt (fr₄ p hp _ (.tail _ (.head _))), zl_of (a := .int (i : Int) tk) (b := v) (n := n) (i := i + 1) (oI := oK) fun q hq => Nat.ne_of_gt (fr₄ p hp q (.tail _ (.tail _ (List.mem_append_left _ hq))))⟩
          · exact off' p hp
        refine ⟨n + 1 - (i + 1), by omega, h₅, tk₄, i + 1, ys ++ [y], _, tl ++ nw, .int (i : Int) tk, v, oK, rfl, hlt, rfl, by rw [List.length_append, List.length_singleton, hyl], ⟨hKc, by rw [hKd]⟩, F₄.change hs₅ hDL hD₀, (hoC.ns zC).sameBut hs₅ (Ne.symm hDC), fun p hp => ?_, hoff2, K₄⟩
        rcases List.mem_cons.mp hp with rfl | hp
        · exact ⟨hD₅.trans (congrArg some (lst_snoc ys y)), hDL, hD₀⟩
        · have z2 := N₄ p (.tail _ (.tail _ hp))
          refine ⟨hs₅.extBut _ _ ?_ z2.1, z2.2⟩
          rcases List.mem_append.mp hp with hp | hp
          · exact aD p hp
          · exact (hoff2 p hp).2.1
      · obtain rfl : i = n := Nat.le_antisymm hi (Nat.not_lt.mp hlt)
        refine pyNext_zipR_end (s := { s₂ with heap := h', toks := tk }) hh D.i1z gz.1 gTI.1 gi1.1 (by omega) fun h₂ hk₂ => ?_
        refine hRR _ _ h₂ tk _ ys nw oJ hK hoJ (frz F' fun c o c1 _ c3 _ e => hk₂ c o c1 c3 e) (fun p hp => ?_) (fun p hp => ⟨(off' p hp).2.1, (off' p hp).2.2.2.2.2.2, (off' p hp).1⟩) (Ne.symm bI.2) bI.1 (hn'.at' fun o e => hk₂ _ o (Ne.symm bz.1) (Ne.symm bi1.1) e) hC₀ hD₀ hCL hDL (Ne.symm hDC)
        rcases List.mem_cons.mp hp with rfl | hp
        · exact ⟨hk₂ _ _ (Ne.symm bz.2) (Ne.symm bi1.2) gD.1, gD.2⟩
        · rcases List.mem_cons.mp hp with rfl | hp
          · exact ⟨hk₂ _ _ D.i2z D.i12.symm gI.1, gI.2⟩
          · obtain ⟨w1, w2, w3⟩ := off' p hp
            exact ⟨hk₂ _ _ w3.1 w3.2.2.2.1 (gnw p hp).1, (gnw p hp).2⟩
    · rcases List.mem_cons.mp hp with rfl | hp
      · exact ⟨hacc, hDL, hD₀⟩
      · exact ⟨old _ _ (N p hp).1, (N p hp).2⟩
  have gz := old _ _ (N (z, _) (.head _)).1
  exact codeAny_compStart_list (loop _ rfl) (wpAny_pyIter_zip (f0 := .none) (TI := TI) (TO := TO) gz (loop _ rfl))
def SrcZ (prog : Program) (w : World) (A : Around) (h₀ : Heap) (L : Addr) (m : Str → Option Value) (env : Env) (elt : Expr) (x x₂ : Str) (scope : Scope) (cl : List (Str × Addr)) (y : Str) (Q : Flow → Shared → Prop) (xv : Value) (s₁ : Shared) : Prop :=
  ∃ (z TO TI i1 I l : Addr) (n c : Nat) (oI ol : Obj) (vs : List Value) (news : List (Addr × Obj)) (K : Nat → List Value → List (Addr × Obj) → Prop), xv = .ref z ∧ ZAp z TI TO i1 I l ∧ Fr h₀ L s₁.heap m ∧ News h₀ L s₁.heap (ZL z TO TI i1 I .none .none n 0 oI ++ news) ∧ (∀ p ∈ news, ZA z TO TI i1 I p.1) ∧
    (∀ i ys nw, K i ys nw → (l, ol) ∈ nw) ∧ ol.cls = .type "list" ∧ ol.data = .seq vs.toArray c ∧ n ≤ vs.length ∧ n ≤ 100000 ∧ ZIt oI l 0 ∧ K 0 [] news ∧
    (∀ i ys nw a b oI, i < n → K i ys nw → ∀ v t C oC D m₂ h tk (E' : Value → Shared → Prop), vs[i]? = some v → NsObj oC m₂ → m₂ x = some (.int i t) → m₂ x₂ = some v → Fr h₀ L h m → News h₀ L h ((C, oC) :: (D, lst ys) :: (ZL z TO TI i1 I a b n (i + 1) oI ++ nw)) →
      (∀ p ∈ nw, p.1 ≠ C ∧ p.1 ≠ D) → @Ne Nat C D →
      wpAny (model prog w) A (eval elt (compEnvC scope cl C env)) (ZEnd h₀ L m { s₁ with heap := h, toks := tk } C oC D (lst ys) (ZL z TO TI i1 I a b n (i + 1) oI) (fun y nw' => K (i + 1) (ys ++ [y]) nw') nw) E' { s₁ with heap := h, toks := tk }) ∧
    (∀ D ys nw oI h tk, K n ys nw → ZIt oI l n → Fr h₀ L h (fun q => if q = y then some (.ref D) else m q) → News h₀ L h ((D, lst ys) :: (I, oI) :: nw) → (∀ p ∈ nw, p.1 ≠ D ∧ p.1 ≠ I) → @Ne Nat D I → Q .next { s₁ with heap := h, toks := tk })
theorem Assign_ListComp_Z {elt iter : Expr} {x x₂ y : Str} {px px₂ tp py : Pos} {tkn} {scope : Scope} {cl : List (Str × Addr)} {pos spos : Pos} {Q : Flow → Shared → Prop} (hh : A.handled = none) (F₀ : Fr h₀ L s.heap m) (hLe : env.locals = L)
    (hsw : swapsWith (.ListComp elt [⟨.Tuple [.Name x px, .Name x₂ px₂] tkn tp, iter, [], 0⟩] scope pos) (some (.Name y py)) spos.line env = pure true)
    (hclos : closureFor scope env = pure cl) (hcell : ∀ z ∈ scope.names, z.2 ≠ .cell) (hkind : scope.kind = .function)
    (hnames : ∀ z ∈ scope.names, z.2 = .local → scope.names.lookup z.1 = some .local) (hx : scope.names.lookup x = some .local) (hx₂ : scope.names.lookup x₂ = some .local) (hxx : x ≠ x₂)
    (hy : env.kindOf y = some .local) (hp : (env.scope.kind == .class || (env.scope.kind == .module && env.locals != env.globals)) = false)
    (h : wpAny (model prog w) A (eval iter env) (SrcZ prog w A h₀ L m env elt x x₂ scope cl y Q) E s)
    (hs : ∀ x, foldedSetIterable iter env x = pure x := by intro _; rfl) :
    wpAny (model prog w) A (exec (.Assign [.Name y py] (.ListComp elt [⟨.Tuple [.Name x px, .Name x₂ px₂] tkn tp, iter, [], 0⟩] scope pos) spos) env) Q E s := by
  subst hLe
  rw [exec_Assign_Name_used _ _ _ _ hsw]
  refine wpAny_bind (wpAny_standAt (wpAny_bind ?_))
  show wpAny _ A (do let _ ← comprehension (.ListComp elt [⟨.Tuple [.Name x px, .Name x₂ px₂] tkn tp, iter, [], 0⟩] scope pos) scope env _ (newList []) false (eval iter env) (some (assign (.Name y py) env))) _ _ s
  refine wpAny_bind (wpAny_mono (wpAny_comprehension_free (use := some (assign (.Name y py) env)) (Q := fun _ s' => Q .next s') rfl hs hclos hkind hnames
    (wpAny_mono h (fun xv s₁ h₁ => ?_) fun _ _ e => e)) (fun _ s' hq => wpAny_pure (wpAny_pure hq)) fun _ _ e => e)
  obtain ⟨z, TO, TI, i1, I, l, n, c, oI, ol, vs, news, K, rfl, D, F, N, off, hl, hlc, hld, hn, hnz, hoI, h0, turn, fin⟩ := h₁
  refine wpAny_pyIter_zip (f0 := .none) (TI := TI) (TO := TO) (N (z, _) (.head _)).1 ?_
  refine zip_block K hcell hkind hx hx₂ hxx hh D F N off hl hlc hld hn hnz hoI h0 turn ?_
  intro D C h' tk m' ys nw oJ hK hoJ F' N' o1 hDI hIC hn hC₀ hD₀ hCL hDL hCD
  show wpAny _ A (assign (.Name y py) env (.ref D)) _ _ _
  refine wpAny_assign_Name (wpAny_storeName_local hy F'.ns (fun h₂ hn₂ hs₂ => ?_) hp)
  have hL₀ : h₀.get? env.locals = none := Heap.get?_none_of_le F'.above
  have F₂ : Fr h₀ env.locals h₂ (fun q => if q = y then some (.ref D) else m q) := ⟨hn₂, fun b o e => hs₂.extBut b o (fun q => by rw [q, hL₀] at e; cases e) (F'.keep b o e), F'.above⟩
  refine ⟨m', hn.sameBut hs₂ hCL, fun h'' hs'' => fin D ys nw oJ h'' _ hK hoJ (F₂.change hs'' hCL hC₀) (fun p hp => ?_) (fun p hp => ⟨(o1 p hp).1, (o1 p hp).2.1⟩) hDI⟩
  have z' : h₂.get? p.1 = some p.2 := hs₂.extBut _ _ (N' p hp).2.1 (N' p hp).1
  refine ⟨hs''.extBut _ _ ?_ z', (N' p hp).2⟩
  rcases List.mem_cons.mp hp with rfl | hp
  · exact Ne.symm hCD
  · rcases List.mem_cons.mp hp with rfl | hp
    · exact hIC
    · exact (o1 p hp).2.2
end
end Mine
end
section
open PyProof PyProof.Rows.LCg PyProof.Rows.LCp
namespace Mine
theorem walks_shift {prog : Program} {w : World} {A : Around} {I : Addr} {fp wr : List Addr} {n k : Nat} {P : Nat → Value → Prop} {St : Nat → Heap → Prop} (W : Walks prog w A I fp wr n P St) (hk : k ≤ n) :
    Walks prog w A I fp wr (n - k) (fun i v => P (i + k) v) (fun i h => St (i + k) h) where
  sub := W.sub
  frame := fun i h h' st hh => W.frame _ h h' st hh
  item := fun i s Q E hi st hQ => W.item (i + k) s Q E (by omega) st fun v h' tk hP hst hh => hQ v h' tk hP (by rw [Nat.add_right_comm]; exact hst) hh
  done := fun s Q E st hQ => W.done s Q E (by rwa [Nat.sub_add_cancel hk] at st) hQ
  self := fun i s Q E st hQ => W.self (i + k) s Q E st hQ
section
variable {prog : Program} {w : World} {A : Around} {E : Value → Shared → Prop} {s : Shared} {h₀ : Heap} {env : Env}
theorem iter_rest {l I : Addr} {o oI : Obj} {vs : List Value} {nn k : Nat} {m : Str → Option Value} {news : List (Addr × Obj)} {Q' : Value → Shared → Prop}
    (hh : A.handled = none) (hl : (l, o) ∈ news) (hc : o.cls = .type "list") (hd : o.data = .seq vs.toArray nn) (hI : ZIt oI l k) (hk : k ≤ vs.length)
    (F : Fr h₀ env.locals s.heap m) (N : News h₀ env.locals s.heap ((I, oI) :: news)) (hne : ∀ p ∈ news, p.1 ≠ I)
    (h : Src prog w A h₀ env.locals s m news I [(l, o)] (vs.length - k) (fun i v => vs[i + k]? = some v) → Q' (.ref I) s) :
    wpAny (model prog w) A (pyIter (.ref I)) Q' E s := by
  have nI := N _ (.head _)
  have Nn : News h₀ env.locals s.heap news := fun p hp => N p (.tail _ hp)
  have hls : s.heap.IsList l vs.toArray := ⟨o, (Nn _ hl).1, hc, nn, hd⟩
  have hit : s.heap.IsListIter I l k := ⟨oI, nI.1, hI.1, hI.2⟩
  refine wpAny_pyIter_listiter hit (h ?_)
  have W := Walks.list (prog := prog) (w := w) hh I l (hne _ hl) vs.toArray
  have hlen : vs.toArray.size = vs.length := by simp
  have hP : (fun (i : Nat) (v : Value) => vs.toArray[i]? = some v) = fun i v => vs[i]? = some v := by funext i v; simp
  rw [hlen, hP] at W
  have W2 := walks_shift W hk
  exact ⟨_, W2, fun _ _ st => by obtain ⟨⟨oI, h1, _⟩, _⟩ := st; exact ⟨oI, h1⟩, nI.2.2, nI.2.1, hne, ⟨by rw [Nat.zero_add]; exact hit, hls⟩, F, Nn⟩
end
end Mine
end
section
open PyProof PyProof.Rows.LCg PyProof.Rows.LCp
namespace Mine
section
variable {prog : Program} {w : World} {A : Around} {E : Value → Shared → Prop} {s : Shared} {h₀ : Heap} {L : Addr} {m : Str → Option Value} {env : Env}
theorem t3_block {elt iter : Expr} {x₁ x₂ x₃ : Str} {p₁ p₂ p₃ tp : Pos} {tkn} {scope : Scope} {cl : List (Str × Addr)} {pos : Pos} {s₂ : Shared} {l I : Addr} {c : Nat} {ol : Obj} {vs : List Value} {news : List (Addr × Obj)}
    {RR : Value → Addr → Result → Shared → Prop} (K : Nat → List Value → Prop)
    (hcell : ∀ y ∈ scope.names, y.2 ≠ .cell) (hkind : scope.kind = .function) (hx₁ : scope.names.lookup x₁ = some .local) (hx₂ : scope.names.lookup x₂ = some .local) (hx₃ : scope.names.lookup x₃ = some .local) (h12 : x₁ ≠ x₂) (h13 : x₁ ≠ x₃) (h23 : x₂ ≠ x₃) (hh : A.handled = none)
    (F : Fr h₀ L s₂.heap m) (N : News h₀ L s₂.heap news) (hI : s₂.heap.IsListIter I l 0) (hIL : I ≠ L) (hI0 : h₀.get? I = none) (off : ∀ p ∈ news, p.1 ≠ I)
    (hl : (l, ol) ∈ news) (hlc : ol.cls = .type "list") (hld : ol.data = .seq vs.toArray c) (hnz : vs.length ≤ 100000) (h0 : K 0 [])
    (hv : ∀ (i : Nat) v, vs[i]? = some v → ∃ (t : Addr) (ot : Obj) (a b d : Value) (nt : Nat), v = .ref t ∧ (t, ot) ∈ news ∧ ot.cls = .type "tuple" ∧ ot.data = .seq #[a, b, d] nt)
    (turn : ∀ (i : Nat) ys t (ot : Obj) a b d nt, K i ys → vs[i]? = some (.ref t) → (t, ot) ∈ news → ot.data = .seq #[a, b, d] nt → ∀ C oC D m₂ h tk (E' : Value → Shared → Prop), NsObj oC m₂ → m₂ x₁ = some a → m₂ x₂ = some b → m₂ x₃ = some d → Fr h₀ L h m → News h₀ L h ((C, oC) :: (D, lst ys) :: news) →
      wpAny (model prog w) A (eval elt (compEnvC scope cl C env)) (fun y s' => ∃ tk', s' = { s₂ with heap := h, toks := tk' } ∧ K (i + 1) (ys ++ [y])) E' { s₂ with heap := h, toks := tk })
    (hRR : ∀ D C h tk m' ys, K vs.length ys → Fr h₀ L h m → News h₀ L h ((D, lst ys) :: news) → (∀ p ∈ news, p.1 < D ∧ p.1 ≠ C) → h.Ns C m' → h₀.get? C = none → h₀.get? D = none → C ≠ L → D ≠ L → C ≠ D → RR (.ref D) C (.ok .next) { s₂ with heap := h, toks := tk }) :
    wpAny (model prog w) A (newList []) (fun acc s₃ => wpAny (model prog w) A (newFunctionEnv scope env.globals cl [] env.qual none .none (some env)) (fun cenv s₄ =>
      codeAny (model prog w) A (.compStart (.ListComp elt [⟨.Tuple [.Name x₁ p₁, .Name x₂ p₂, .Name x₃ p₃] tkn tp, iter, [], 0⟩] scope pos) 0 (.ref I) acc { cenv with scope := relabel scope env }) (RR acc cenv.locals) s₄) E s₃) E s₂ := by
  refine wpAny_newObj_type (wpAny_newFunctionEnv hcell (by intro y hy; simp at hy) (fun h₁ hns₁ hsb₁ => ?_) hkind)
  dsimp only at hns₁ hsb₁ ⊢
  generalize hH2 : s₂.heap.push { cls := .type "list", dict := none, data := .seq ([] : List Value).toArray } = H2 at hns₁ hsb₁ ⊢
  have hC : H2.objs.size = s₂.heap.objs.size + 1 := by rw [← hH2, Heap.size_push]
  have hDC : s₂.heap.objs.size ≠ H2.objs.size := by rw [hC]; exact Nat.ne_of_lt (Nat.lt_succ_self _)
  have below : ∀ b, b < s₂.heap.objs.size → b ≠ H2.objs.size ∧ b ≠ s₂.heap.objs.size := fun b hb => ⟨by rw [hC]; exact Nat.ne_of_lt (Nat.lt_succ_of_lt hb), Nat.ne_of_lt hb⟩
  have old : ∀ b o, s₂.heap.get? b = some o → h₁.get? b = some o := fun b o e => hsb₁.extBut b o (below b (Heap.lt_size e)).1 (Heap.get?_push_of_some _ (hH2 ▸ Heap.get?_push_of_some _ e))
  have hacc : h₁.get? s₂.heap.objs.size = some (lst []) := hsb₁.extBut _ _ hDC (Heap.get?_push_of_some _ (hH2 ▸ Heap.get?_push_size _ rfl))
  have fresh₀ : ∀ a, s₂.heap.objs.size ≤ a → h₀.get? a = none := fun a ha => by
    cases e : h₀.get? a with
    | none => rfl
    | some o' => exact absurd (Heap.lt_size (F.keep a o' e)) (Nat.not_lt.mpr ha)
  have hD₀ : h₀.get? s₂.heap.objs.size = none := fresh₀ _ (Nat.le_refl _)
  have hC₀ : h₀.get? H2.objs.size = none := fresh₀ _ (by rw [hC]; exact Nat.le_succ _)
  have hLlt : L < s₂.heap.objs.size := F.ns.lt
  have hDL : s₂.heap.objs.size ≠ L := Ne.symm (below L hLlt).2
  have hCL : H2.objs.size ≠ L := Ne.symm (below L hLlt).1
  have bI : I ≠ H2.objs.size ∧ I ≠ s₂.heap.objs.size := below I (by obtain ⟨_, e, _⟩ := hI; exact Heap.lt_size e)
  have bn : ∀ p ∈ news, p.1 ≠ H2.objs.size ∧ p.1 ≠ s₂.heap.objs.size := fun p hp => below _ (Heap.lt_size (N p hp).1)
  have hlI : l ≠ I := off _ hl
  have W := Walks.list (prog := prog) (w := w) hh I l hlI vs.toArray
  have hlen : vs.toArray.size = vs.length := by simp
  have loop : ∀ s₃ : Shared, s₃ = { s₂ with heap := h₁, toks := s₂.toks + ([] : List (Str × Value)).length } →
      codeAny (model prog w) A (.compLoop (.ListComp elt [⟨.Tuple [.Name x₁ p₁, .Name x₂ p₂, .Name x₃ p₃] tkn tp, iter, [], 0⟩] scope pos) 0 (.ref I) (.ref s₂.heap.objs.size) (compEnvC scope cl H2.objs.size env))
        (RR (.ref s₂.heap.objs.size) H2.objs.size) s₃ := by
    rintro s₃ rfl
    refine codeAny_compLoop_pair
      (fun k s' => ∃ h' tk i ys m', s' = { s₂ with heap := h', toks := tk } ∧ i ≤ vs.length ∧ k = vs.length + 1 - i ∧ ys.length = i ∧ h'.IsListIter I l i ∧ Fr h₀ L h' m ∧ h'.Ns H2.objs.size m' ∧ News h₀ L h' ((s₂.heap.objs.size, lst ys) :: news) ∧ K i ys) ?_ (vs.length + 1)
      ⟨h₁, _, 0, [], _, rfl, Nat.zero_le _, rfl, rfl, hI.at fun o e => old _ o e, F.keeps old, hns₁, fun p hp => ?_, h0⟩
    · rintro k s' ⟨h', tk, i, ys, m', rfl, hi, rfl, hyl, hit, F', hn', N', hK⟩
      have gD := N' (s₂.heap.objs.size, _) (.head _)
      have gn : ∀ p ∈ news, h'.get? p.1 = some p.2 ∧ p.1 ≠ L ∧ h₀.get? p.1 = none := fun p hp => N' p (.tail _ hp)
      have hst : h'.IsListIter I l i ∧ h'.IsList l vs.toArray := ⟨hit, _, (gn _ hl).1, hlc, c, hld⟩
      by_cases hlt : i < vs.length
      · refine W.item i { s₂ with heap := h', toks := tk } _ _ (by rw [hlen]; exact hlt) hst fun v h₂ tk₂ hPv hst₂ hk₂ => ?_
        have hvi : vs[i]? = some v := by simpa using hPv
        obtain ⟨t, ot, a, b, d, nt, rfl, hmt, hct, hdt⟩ := hv i v hvi
        have N₂ : News h₀ L h₂ ((s₂.heap.objs.size, lst ys) :: news) := news_but N' hk₂ fun p hp => by
          rcases List.mem_cons.mp hp with rfl | hp
          · exact Ne.symm bI.2
          · exact off p hp
        have ht : IsTup h₂ t #[a, b, d] := ⟨ot, (N₂ _ (.tail _ hmt)).1, hct, nt, hdt⟩
        refine wpAny_letOwnedTupleGo_listiter hst₂.1 ?_
        refine assign_Tuple_tuple hh ht rfl rfl fun h₅ he => ?_
        have he' : ∀ b o, h₂.get? b = some o → h₅.get? b = some o := fun b o e => he b o (Nat.ne_of_lt (Heap.lt_size e)) e
        refine assignInOrder_cons (wpAny_assign_Name (wpAny_storeName_local (lookup_relabel_local hx₁) ((hn'.at' fun o e => hk₂ _ o (by simpa using Ne.symm bI.1) e).at' fun o e => he' _ o e) (fun h₆ hn₆ hs₆ => ?_) (by simp [compEnvC, relabel, hkind])))
        refine assignInOrder_cons (wpAny_assign_Name (wpAny_storeName_local (lookup_relabel_local hx₂) hn₆ (fun h₇ hn₇ hs₇ => ?_) (by simp [compEnvC, relabel, hkind])))
        refine assignInOrder_cons (wpAny_assign_Name (wpAny_storeName_local (lookup_relabel_local hx₃) hn₇ (fun h₈ hn₈ hs₈ => ?_) (by simp [compEnvC, relabel, hkind])))
        refine assignInOrder_nil ?_
        have st : ∀ b o, b ≠ H2.objs.size → h₂.get? b = some o → h₈.get? b = some o := fun b o hb e => hs₈.extBut b o hb (hs₇.extBut b o hb (hs₆.extBut b o hb (he' b o e)))
        obtain ⟨oC, heC, hoC⟩ := ns_obj hn₈
        have F₈ : Fr h₀ L h₈ m := ((((fr_but F' hk₂ (Ne.symm hIL) hI0).keeps he').change hs₆ hCL hC₀).change hs₇ hCL hC₀).change hs₈ hCL hC₀
        have N₈ : News h₀ L h₈ ((H2.objs.size, oC) :: (s₂.heap.objs.size, lst ys) :: news) := fun p hp => by
          rcases List.mem_cons.mp hp with rfl | hp
          · exact ⟨heC, hCL, hC₀⟩
          · have z := N₂ p hp
            refine ⟨st _ _ ?_ z.1, z.2⟩
            rcases List.mem_cons.mp hp with rfl | hp
            · exact hDC
            · exact (bn p hp).1
        have hit₈ : h₈.IsListIter I l (i + 1) := hst₂.1.at fun o e => st _ o bI.1 e
        refine wpAny_mono (turn i ys t ot a b d nt hK hvi hmt hdt H2.objs.size oC s₂.heap.objs.size _ h₈ _ _ hoC (by simp [h12, h13]) (by simp [h23]) (by simp) F₈ N₈) (fun y s₄ h₄ => ?_) fun _ _ e => e
        obtain ⟨tk₄, rfl, K₄⟩ := h₄
        have zD := (N₈ (s₂.heap.objs.size, lst ys) (.tail _ (.head _))).1
        have zC := (N₈ (H2.objs.size, oC) (.head _)).1
        refine append_at (hsz := by show ys.toArray.size ≤ sizeLine; rw [List.size_toArray, hyl, sizeLine_eq]; omega) zD fun h₉ hs₉ hD₉ => ?_
        refine ⟨vs.length + 1 - (i + 1), by omega, h₉, tk₄, i + 1, ys ++ [y], _, rfl, hlt, rfl, by rw [List.length_append, List.length_singleton, hyl], hit₈.at fun o e => hs₉.extBut _ o bI.2 e, F₈.change hs₉ hDL hD₀, (hoC.ns zC).sameBut hs₉ (Ne.symm hDC), fun p hp => ?_, K₄⟩
        rcases List.mem_cons.mp hp with rfl | hp
        · exact ⟨hD₉.trans (congrArg some (lst_snoc ys y)), hDL, hD₀⟩
        · have z2 := N₈ p (.tail _ (.tail _ hp))
          exact ⟨hs₉.extBut _ _ (bn p hp).2 z2.1, z2.2⟩
      · obtain rfl : i = vs.length := Nat.le_antisymm hi (Nat.not_lt.mp hlt)
        refine W.done { s₂ with heap := h', toks := tk } _ _ (by rw [hlen]; exact hst) fun h₂ tk₂ hk₂ => ?_
        refine hRR _ _ h₂ tk₂ _ ys hK (fr_but F' hk₂ (Ne.symm hIL) hI0) (news_but N' hk₂ fun p hp => by
          rcases List.mem_cons.mp hp with rfl | hp
          · exact Ne.symm bI.2
          · exact off p hp) (fun p hp => ⟨Heap.lt_size (N p hp).1, (bn p hp).1⟩) (hn'.at' fun o e => hk₂ _ o (by simpa using Ne.symm bI.1) e) hC₀ hD₀ hCL hDL (Ne.symm hDC)
    · rcases List.mem_cons.mp hp with rfl | hp
      · exact ⟨hacc, hDL, hD₀⟩
      · exact ⟨old _ _ (N p hp).1, (N p hp).2⟩
  exact codeAny_compStart_list (loop _ rfl) (wpAny_pyIter_listiter (hI.at fun o e => old _ o e) (loop _ rfl))
def SrcT3 (prog : Program) (w : World) (A : Around) (h₀ : Heap) (L : Addr) (m : Str → Option Value) (env : Env) (elt : Expr) (x₁ x₂ x₃ : Str) (scope : Scope) (cl : List (Str × Addr)) (Q : Value → Shared → Prop) (xv : Value) (s₁ : Shared) : Prop :=
  ∃ (l : Addr) (c : Nat) (ol : Obj) (vs : List Value) (news : List (Addr × Obj)) (K : Nat → List Value → Prop), xv = .ref l ∧ Fr h₀ L s₁.heap m ∧ News h₀ L s₁.heap news ∧ (l, ol) ∈ news ∧ ol.cls = .type "list" ∧ ol.data = .seq vs.toArray c ∧ vs.length ≤ 100000 ∧ K 0 [] ∧
    (∀ (i : Nat) v, vs[i]? = some v → ∃ (t : Addr) (ot : Obj) (a b d : Value) (nt : Nat), v = .ref t ∧ (t, ot) ∈ news ∧ ot.cls = .type "tuple" ∧ ot.data = .seq #[a, b, d] nt) ∧
    (∀ g, ∀ (i : Nat) ys t (ot : Obj) a b d nt, K i ys → vs[i]? = some (.ref t) → (t, ot) ∈ news → ot.data = .seq #[a, b, d] nt → ∀ C oC D m₂ h tk (E' : Value → Shared → Prop), NsObj oC m₂ → m₂ x₁ = some a → m₂ x₂ = some b → m₂ x₃ = some d → Fr h₀ L h m → News h₀ L h ((C, oC) :: (D, lst ys) :: news) →
      wpAny (model prog w) A (eval elt (compEnvC scope cl C env)) (fun y s' => ∃ tk', s' = { ({ s₁ with heap := g } : Shared) with heap := h, toks := tk' } ∧ K (i + 1) (ys ++ [y])) E' { ({ s₁ with heap := g } : Shared) with heap := h, toks := tk }) ∧
    (∀ D ys h tk, K vs.length ys → Fr h₀ L h m → News h₀ L h ((D, lst ys) :: news) → (∀ p ∈ news, p.1 < D) → Q (.ref D) { s₁ with heap := h, toks := tk })
theorem ListComp_T3 {elt iter : Expr} {x₁ x₂ x₃ : Str} {p₁ p₂ p₃ tp : Pos} {tkn} {scope : Scope} {cl : List (Str × Addr)} {pos : Pos} {Q : Value → Shared → Prop} (hh : A.handled = none) (F₀ : Fr h₀ L s.heap m)
    (hclos : closureFor scope env = pure cl) (hcell : ∀ y ∈ scope.names, y.2 ≠ .cell) (hkind : scope.kind = .function)
    (hnames : ∀ y ∈ scope.names, y.2 = .local → scope.names.lookup y.1 = some .local) (hx₁ : scope.names.lookup x₁ = some .local) (hx₂ : scope.names.lookup x₂ = some .local) (hx₃ : scope.names.lookup x₃ = some .local) (h12 : x₁ ≠ x₂) (h13 : x₁ ≠ x₃) (h23 : x₂ ≠ x₃)
    (h : wpAny (model prog w) A (eval iter env) (SrcT3 prog w A h₀ L m env elt x₁ x₂ x₃ scope cl Q) E s)
    (hs : ∀ x, foldedSetIterable iter env x = pure x := by intro _; rfl) :
    wpAny (model prog w) A (eval (.ListComp elt [⟨.Tuple [.Name x₁ p₁, .Name x₂ p₂, .Name x₃ p₃] tkn tp, iter, [], 0⟩] scope pos) env) Q E s := by
  rw [eval_ListComp]
  refine wpAny_comprehension_free (use := none) rfl hs hclos hkind hnames (wpAny_mono h (fun xv s₁ h₁ => ?_) fun _ _ e => e)
  obtain ⟨l, c, ol, vs, news, K, rfl, F, N, hl, hlc, hld, hnz, h0, hv, turn, fin⟩ := h₁
  refine wpAny_pyIter_list ⟨ol, (N _ hl).1, hlc, c, hld⟩ ?_
  have up : ∀ b o, s₁.heap.get? b = some o → (s₁.heap.push { cls := .type "list_iterator", data := .fields #[.ref l, .int 0 0] }).get? b = some o := fun b o e => Heap.get?_push_of_some _ e
  refine t3_block (s₂ := { s₁ with heap := s₁.heap.push { cls := .type "list_iterator", data := .fields #[.ref l, .int 0 0] } }) K hcell hkind hx₁ hx₂ hx₃ h12 h13 h23 hh (F.keeps up) (N.grown up) ⟨_, Heap.get?_push_size _ rfl, rfl, rfl⟩ (fun e => absurd F.ns.lt (e ▸ Nat.lt_irrefl _)) (next_is_new F) (fun p hp => Nat.ne_of_lt (Heap.lt_size (N p hp).1)) hl hlc hld hnz h0 hv (turn _) ?_
  intro D C h tk m' ys hK F' N' o1 hn hC₀ hD₀ hCL hDL hCD
  refine ⟨m', hn, fun h'' hs'' => fin D ys h'' tk hK (F'.change hs'' hCL hC₀) (fun p hp => ?_) fun p hp => (o1 p hp).1⟩
  refine ⟨hs''.extBut _ _ ?_ (N' p hp).1, (N' p hp).2⟩
  rcases List.mem_cons.mp hp with rfl | hp
  · exact Ne.symm hCD
  · exact (o1 p hp).2
end
end Mine
end
namespace Mine
section
variable {tl tl' : List (Addr × Obj)}
mutual
theorem datIn_keep (hk : ∀ p ∈ tl, (∃ xs n, p.2.data = .seq xs n) → p ∈ tl') : ∀ {v : Value} {d : Dat}, DatIn tl v d → DatIn tl' v d
  | _, _, .none => .none
  | _, _, .bool b => .bool b
  | _, _, .int i t => .int i t
  | _, _, .str x t => .str x t
  | _, _, .bytes b t => .bytes b t
  | _, _, .tuple hm r => .tuple (hk _ hm ⟨_, _, rfl⟩) (datAll_keep hk r)
  | _, _, .list hm r => .list (hk _ hm ⟨_, _, rfl⟩) (datAll_keep hk r)
theorem datAll_keep (hk : ∀ p ∈ tl, (∃ xs n, p.2.data = .seq xs n) → p ∈ tl') : ∀ {vs : List Value} {ds : List Dat}, DatAll tl vs ds → DatAll tl' vs ds
  | _, _, .nil => .nil
  | _, _, .cons h r => .cons (datIn_keep hk h) (datAll_keep hk r)
end
end
theorem dat_apart {h₀ h : Heap} {L : Addr} {led bad tl : List (Addr × Obj)} (N : News h₀ L h led) (hb : ∀ b ∈ bad, b ∈ led) (ht : ∀ p ∈ tl, p ∈ led) (hbd : ∀ b ∈ bad, ∀ xs n, b.2.data ≠ .seq xs n) {vs : List Value} {ds : List Dat} (hD : DatAll tl vs ds) :
    ∃ tl', (∀ p ∈ tl', p ∈ tl) ∧ (∀ p ∈ tl', ∀ b ∈ bad, p.1 ≠ b.1) ∧ DatAll tl' vs ds := by
  classical
  refine ⟨tl.filter (fun p => decide (∀ b ∈ bad, p.1 ≠ b.1)), fun p hp => (List.mem_filter.mp hp).1, fun p hp => by simpa using (List.mem_filter.mp hp).2, datAll_keep (fun p hp hs => ?_) hD⟩
  refine List.mem_filter.mpr ⟨hp, decide_eq_true fun b hbm e => ?_⟩
  obtain ⟨xs, n, hx⟩ := hs
  have h1 := (N _ (ht _ hp)).1
  have h2 := (N _ (hb _ hbm)).1
  rw [e, h2] at h1
  have := Option.some.inj h1
  exact hbd b hbm xs n (by rw [this]; exact hx)
end Mine
namespace Mine
theorem top_off_A9 : True := by
  w_top off
  trivial
local macro_rules | `(tactic| ktr_unf) => `(tactic| repeat' (first | (k_unfold; (try dsimp only)) | (k_end; wrow_close) | ((fail_if_success (with_reducible show wpAny _ _ (exec (Stmt.While _ _ _ _) _) _ _ _)); (fail_if_success (with_reducible show wpAny _ _ (exec (Stmt.For _ _ _ _ _) _) _ _ _)); walk1) | ((fail_if_success (with_reducible show wpAny _ _ (exec (Stmt.While _ _ _ _) _) _ _ _)); (fail_if_success (with_reducible show wpAny _ _ (exec (Stmt.For _ _ _ _ _) _) _ _ _)); dsimp only; walk1) | (leave1; walk_say "STEP leave1"; try dsimp only) | fail "no step"))
local macro_rules | `(tactic| k_all) => `(tactic| first | assumption | exact allLt_ne (by assumption))
local macro_rules | `(tactic| walk_at "call builtin:list.append") => `(tactic| (k_here; (with_reducible show wpAny _ _ (call (Value.builtin _) [Value.ref _, _]) _ _ _); k_dflt (refine' hot_append ?F ?N ?U ?z ?_; (case F => k_asm); (case N => k_asm); (case U => k_upd); (case z => first | assumption | omega | (simp only [List.length_append, List.length_cons, List.length_nil]; omega)); k_whole); intro h' F' N'; (try k_sweep)))
local macro_rules | `(tactic| walk_at "truthy ref") => `(tactic| (k_here; k_dflt (refine' hot_truthy ?N ?m ?z ?_; (case N => k_asm); (case m => k_mem); (case z => first | assumption | omega); k_whole)))
local macro_rules | `(tactic| walk_at "subscriptTail Name UnaryOp ref int") => `(tactic| (k_here; (with_reducible show wpAny _ _ (subscriptTail _ _ (Value.ref _) (Value.int _ _)) _ _ _); (with_unfolding_all refine' hot_lastS ?N ?m ?S ?e ?_ ?r; (case N => k_asm); (case m => k_mem); (case S => assumption); (case e => assumption); (case r => with_unfolding_all rfl); k_whole); intro y8 t8 hy8 hz8))
local macro_rules | `(tactic| walk_at "call builtin:list.pop") => `(tactic| (k_here; (with_reducible show wpAny _ _ (call (Value.builtin _) [Value.ref _]) _ _ _); k_dflt (refine' hot_popS ?F ?N ?U ?z ?S ?e ?_; (case F => k_asm); (case N => k_asm); (case U => k_upd); (case z => first | assumption | omega); (case S => assumption); (case e => assumption); k_whole); intro h' y8 t8 F' N'; (try k_sweep)))
local macro_rules | `(tactic| walk_at "call builtin:str.join") => `(tactic| (k_here; (with_reducible show wpAny _ _ (call (Value.builtin _) [Value.str _ _, Value.ref _]) _ _ _); k_dflt (refine' hot_join ?N ?m ?c ?d ?S ?w ?o ?_; (case N => k_asm); (case m => k_mem); (case c => rfl); (case d => rfl); (case S => assumption); (case w => assumption); (case o => decide); k_whole); intro t8 k8 hj8))
local macro_rules | `(tactic| walk_at "subscriptTail Name Name ref int") => `(tactic| (k_here; (with_reducible show wpAny _ _ (subscriptTail _ _ (Value.ref _) (Value.int _ _)) _ _ _); (with_unfolding_all refine' hot_item ?N ?m ?D ?a ?b ?c ?_ ?r; (case N => k_asm); (case m => k_mem); (case D => assumption); (case a => omega); (case b => omega); (case c => omega); (case r => with_unfolding_all rfl); k_whole); intro v8 d8 hv8 hd8 hD8))
local macro_rules | `(tactic| walk_at "setItem ref int") => `(tactic| (k_here; (with_reducible show wpAny _ _ (PySem.setItem (Value.ref _) (Value.int _ _) _) _ _ _); k_dflt (refine' hot_set ?F ?N ?U ?l ?a ?b ?c ?_; (case F => k_asm); (case N => k_asm); (case U => k_upd); (case l => exact DatAll.length (by assumption)); (case a => omega); (case b => omega); (case c => omega); k_whole); intro h' F' N'; (try k_sweep)))
local macro_rules | `(tactic| walk_at "subscriptTail Name Constant ref int") => `(tactic| (k_here; (with_reducible show wpAny _ _ (subscriptTail _ _ (Value.ref _) (Value.int _ _)) _ _ _); (with_unfolding_all refine' hot_item ?N ?m ?D ?a ?b ?c ?_ ?r; (case N => k_asm); (case m => k_mem); (case D => assumption); (case a => omega); (case b => omega); (case c => omega); (case r => with_unfolding_all rfl); k_whole); intro v8 d8 hv8 hd8 hD8))
local macro_rules | `(tactic| walk_at "call builtin:list.pop") => `(tactic| (k_here; (with_reducible show wpAny _ _ (call (Value.builtin _) [Value.ref _]) _ _ _); k_dflt (refine' hot_popD ?F ?N ?U ?z ?D ?e ?_; (case F => k_asm); (case N => k_asm); (case U => k_upd); (case z => omega); (case D => assumption); (case e => omega); k_whole); intro h' v8 d8 F' N' hd8 hD8 hA8; (try k_sweep)))
local macro_rules | `(tactic| walk_at "call builtin:len") => `(tactic| (k_here; (with_reducible show wpAny _ _ (call (Value.builtin "len") [Value.ref _]) _ _ _); k_dflt (refine' hot_len ?N ?m ?c ?d ?z ?_; (case N => k_asm); (case m => k_mem); (case c => rfl); (case d => rfl); (case z => first | assumption | omega | (simp only [List.length_append, List.length_cons, List.length_nil, List.length_set]; omega)); k_whole)))
set_option maxHeartbeats 8000000 in
theorem heapify_c {w : World} {p : Program} {loose : List Str} {mean : ExcName → Option Value} {mg mb : Str → Option Value} {rest cold : List (Addr × Obj)} {D : Addr} {ws : List Value} {c : Nat} {ds : List Dat} {k : Nat}
  {dp un : Nat} {gd : Option (List Code)} {env : Env} {outer : List Env} {A₀ : Around} {base h₀ : Heap} {L : Addr} {m : Str → Option Value} {s : Shared} {Q E : Value → Shared → Prop}
  (B : Below A₀ base outer h₀) (F : Fr h₀ L s.heap m) (X : (hd.heap_39 w.params).In h₀) (N : News h₀ L s.heap ((D, W.listOf ws.toArray c) :: rest)) (hne : ∀ p ∈ rest, p.1 ≠ D) (hcold : ∀ p ∈ cold, p ∈ rest) (hD : DatAll cold ws ds) (hz : ds.length ≤ 100000) (hok : ∀ a ∈ ds, kqdOk k a = true) (hcmp : ∀ a ∈ ds, ∀ b ∈ ds, dcmp k a b = true) (hk9 : k ≤ 4) (T : Top p loose mean mg mb h₀)
  (hf : env.frame = some L) (hk : env.scope.kind = .function) (hd : dp + 3 < recursionLimit) (hu : un + 48 < cLine)
  (ret : ∀  ws1 c1 h1 tk, Fr h₀ L h1 m → News h₀ L h1 ((D, W.listOf ws1.toArray c1) :: rest) → DatAll cold ws1 (heapifyF (fun p q => dlt k q p) ds) → Q (.none) { s with heap := h1, toks := tk }) :
  wpAny (model Challenge.rw_ik0112_01.row.prog w) { handled := none, depth := dp, frames := some (env :: outer), guards := gd, units := un } (call (.ref 183) [.ref D]) Q E s := by
  revert X; k_fill; intro X
  refine wpAny_call ?_
  k_dflt (refine' code_def ?k1 ?k2 ?k3 ?k4 ?k5 ?kA ?kF ?kK ?k6 ?k7 ?k8 ?k9 ?kB ?_ ?c2 ?c3 ?c4 ?c5; (case kA => exact rfl); (case kF => exact hf); (case kK => exact hk); (case k1 => k_asm); (case k2 => k_asm); (case k3 => k_asm); (case k4 => k_asm); (case k5 => k_asm); (case k6 => k_is); (case k7 => k_is); (case k8 => exact Nat.lt_of_le_of_lt (Nat.le_add_right _ _) hd); (case k9 => exact BindsTo.of_eq rfl); (case c5 => decide); (case kB => exact locs rfl); (case c2 => exact rfl); (case c3 => exact rfl); (case c4 => exact rfl); k_whole; intro g' L' h' FG' F' N' B' X' T'; (try dsimp only); (try k_fold))
  have hlen := hD.length
  ktr_unf
  (with_reducible rename Fr _ _ _ _ => lF')
  refine For_invVF lF' rfl rfl ?_
  ktr_unf
  rename IsRange _ _ _ _ _ _ _ _ => hR
  have eN : ((ws.length : Int)).fdiv 2 = ((ds.length / 2 : Nat) : Int) := by rw [Int.fdiv_eq_ediv_of_nonneg _ (by decide)]; omega
  rw [eN] at hR
  refine rev_range_src rfl (by assumption) (by assumption) hR (by omega) (fun I h' S => iter_self S (loop_hot1 S (fun p hp => nomatch hp) hne (fun lc i m' ws tl => tl = [] ∧ m' (Str.ofString "x") = some (.ref lc) ∧ DatAll cold ws (((List.range (ds.length / 2)).reverse.take i).foldl (heapStep (fun p q => dlt k q p)) ds)) ⟨rfl, rfl, hD⟩ ?turn ?done))
  case turn =>
    rintro i v m₁ ws₁ n tl it h tk hi ⟨tv, rfl⟩ ⟨rfl, hm1, hA⟩ ho hI hoff F₁ N₁
    have F₂ := know F₁ (x := Str.ofString "x") hm1
    simp only [List.nil_append] at N₁ ho hoff
    have hat := rev_range_at hi
    have hl1 := heapSteps_len (fun p q => dlt k q p) ((List.range (ds.length / 2)).reverse.take i) ds
    have hm9 := heapSteps_mem (fun p q => dlt k q p) ((List.range (ds.length / 2)).reverse.take i) ds
    have hnext : ((List.range (ds.length / 2)).reverse.take (i + 1)).foldl (heapStep (fun p q => dlt k q p)) ds = heapStep (fun p q => dlt k q p) (((List.range (ds.length / 2)).reverse.take i).foldl (heapStep (fun p q => dlt k q p)) ds) (ds.length / 2 - 1 - i) := by
      rw [List.take_add_one, hat, List.foldl_append]; rfl
    generalize ((List.range (ds.length / 2)).reverse.take i).foldl (heapStep (fun p q => dlt k q p)) ds = ds' at hA hl1 hm9 hnext
    have hj : ds.length / 2 - 1 - i < ds'.length := by omega
    have hx : ds'[ds.length / 2 - 1 - i]? = some (ds'[ds.length / 2 - 1 - i]'hj) := List.getElem?_eq_getElem hj
    have hs : heapStep (fun p q => dlt k q p) ds' (ds.length / 2 - 1 - i) = siftupF (fun p q => dlt k q p) ds' (ds.length / 2 - 1 - i) (ds'[ds.length / 2 - 1 - i]'hj) := by unfold heapStep; rw [hx]
    rw [hs] at hnext
    ktr_unf
    have ej : (((ds.length / 2 : Nat) : Int) - 1 - (i : Int)) = ((ds.length / 2 - 1 - i : Nat) : Int) := by omega
    rw [ej]
    have N₃ := cb_drop (news := (D, W.listOf ws₁.toArray n) :: (I, it) :: rest) N₁ (fun p hp => by
      rcases List.mem_cons.mp hp with rfl | hp
      · exact List.Mem.tail _ (List.Mem.head _)
      · rcases List.mem_cons.mp hp with rfl | hp
        · exact List.Mem.head _
        · exact List.Mem.tail _ (List.Mem.tail _ hp))
    have hl2 := hA.length
    have hne3 : ∀ p ∈ (I, it) :: rest, p.1 ≠ D := fun p hp => by
      rcases List.mem_cons.mp hp with rfl | hp
      · exact fun e => hI e.symm
      · exact hne p hp
    refine siftupmax_c (a := ds.length / 2 - 1 - i) (ds := ds') (x := ds'[ds.length / 2 - 1 - i]'hj) (k := k) (by assumption) (by assumption) (by assumption) N₃ hne3 (fun p hp => .tail _ (hcold p hp)) hA (by omega) (fun a ha => hok a (hm9 a ha)) (fun a ha b hb => hcmp a (hm9 a ha) b (hm9 b hb)) hk9 (by assumption) rfl rfl (by ktr_room) (by ktr_units) hj hx ?_
    intro ws2 c2 h2 tk2 F2 N2 D2
    (try dsimp only)
    ktr_unf
    show TurnEnd _ _ _ _ _ _ _
    refine Hot1.intro (by assumption) (by assumption) ws2 c2 [] mem_swap (off_cons hI hoff) (fun p hp => hne p hp) ⟨rfl, rfl, by rw [hnext]; exact D2⟩
  case done =>
    rintro m₁ ws₁ n tl h tk ⟨rfl, hm1, hA⟩ ho F₁ N₁
    simp only [List.nil_append] at N₁ ho
    rw [List.take_of_length_le (by simp)] at hA
    have F₂ := know F₁ (x := Str.ofString "x") hm1
    clear F₁
    ktr_unf
    exact ret _ _ _ _ (by assumption) (by assumption) hA
end Mine
namespace Mine
theorem top_off_A22 : True := by
  w_top off
  trivial
local macro_rules | `(tactic| ktr_unf) => `(tactic| repeat' (first | (k_unfold; (try dsimp only)) | (k_end; wrow_close) | ((fail_if_success (with_reducible show LCg.CompEnd _ _ _ _ _ _ _ _ _ _ _ _ _ _)); (fail_if_success (with_reducible show LCt.CompSrcT _ _ _ _ _ _ _ _ _ _ _ _ _ _ _)); (fail_if_success (with_reducible show LCg.CompSrc _ _ _ _ _ _ _ _ _ _ _ _ _ _)); (fail_if_success (with_reducible show wpAny _ _ (exec (Stmt.While _ _ _ _) _) _ _ _)); (fail_if_success (with_reducible show wpAny _ _ (exec (Stmt.For _ _ _ _ _) _) _ _ _)); (fail_if_success (with_reducible show wpAny _ _ (pyIter (Value.ref _)) _ _ _)); (fail_if_success (with_reducible show wpAny _ _ (call (Value.builtin "min") _ _) _ _ _)); (fail_if_success (with_reducible show wpAny _ _ (compareOp CmpOp.Is _ (Value.ref _)) _ _ _)); walk1) | ((fail_if_success (with_reducible show LCg.CompEnd _ _ _ _ _ _ _ _ _ _ _ _ _ _)); (fail_if_success (with_reducible show LCt.CompSrcT _ _ _ _ _ _ _ _ _ _ _ _ _ _ _)); (fail_if_success (with_reducible show LCg.CompSrc _ _ _ _ _ _ _ _ _ _ _ _ _ _)); (fail_if_success (with_reducible show wpAny _ _ (exec (Stmt.While _ _ _ _) _) _ _ _)); (fail_if_success (with_reducible show wpAny _ _ (exec (Stmt.For _ _ _ _ _) _) _ _ _)); (fail_if_success (with_reducible show wpAny _ _ (pyIter (Value.ref _)) _ _ _)); (fail_if_success (with_reducible show wpAny _ _ (call (Value.builtin "min") _ _) _ _ _)); (fail_if_success (with_reducible show wpAny _ _ (compareOp CmpOp.Is _ (Value.ref _)) _ _ _)); dsimp only; walk1) | (leave1; walk_say "STEP leave1"; try dsimp only) | fail "no step"))
local macro_rules | `(tactic| k_all) => `(tactic| first | assumption | exact allLt_ne (by assumption) | exact allLt_ne (And.right (by assumption)) | exact allLt_ne (And.right (And.right (by assumption))) | exact allLt_ne (And.right (And.right (And.right (by assumption)))) | exact allLt_ne (And.right (And.right (And.right (And.right (by assumption))))) | exact allLt_ne (And.right (And.right (And.right (And.right (And.right (by assumption)))))) | exact allLt_ne (And.right (And.right (And.right (And.right (And.right (And.right (by assumption))))))) | exact allLt_ne (And.right (And.right (And.right (And.right (And.right (And.right (And.right (by assumption)))))))) | exact allLt_ne (And.right (And.right (And.right (And.right (And.right (And.right (And.right (And.right (by assumption))))))))))
local macro_rules | `(tactic| walk_at "call builtin:list.append") => `(tactic| (k_here; (with_reducible show wpAny _ _ (call (Value.builtin _) [Value.ref _, _]) _ _ _); k_dflt (refine' hot_append ?F ?N ?U ?z ?_; (case F => k_asm); (case N => k_asm); (case U => k_upd); (case z => first | assumption | omega | (simp only [List.length_append, List.length_cons, List.length_nil]; omega)); k_whole); intro h' F' N'; (try k_sweep)))
local macro_rules | `(tactic| walk_at "truthy ref") => `(tactic| (k_here; k_dflt (refine' hot_truthy ?N ?m ?z ?_; (case N => k_asm); (case m => k_mem); (case z => first | assumption | omega); k_whole)))
local macro_rules | `(tactic| walk_at "subscriptTail Name UnaryOp ref int") => `(tactic| (k_here; (with_reducible show wpAny _ _ (subscriptTail _ _ (Value.ref _) (Value.int _ _)) _ _ _); (with_unfolding_all refine' hot_lastS ?N ?m ?S ?e ?_ ?r; (case N => k_asm); (case m => k_mem); (case S => assumption); (case e => assumption); (case r => with_unfolding_all rfl); k_whole); intro y8 t8 hy8 hz8))
local macro_rules | `(tactic| walk_at "call builtin:list.pop") => `(tactic| (k_here; (with_reducible show wpAny _ _ (call (Value.builtin _) [Value.ref _]) _ _ _); k_dflt (refine' hot_popS ?F ?N ?U ?z ?S ?e ?_; (case F => k_asm); (case N => k_asm); (case U => k_upd); (case z => first | assumption | omega); (case S => assumption); (case e => assumption); k_whole); intro h' y8 t8 F' N'; (try k_sweep)))
local macro_rules | `(tactic| walk_at "call builtin:str.join") => `(tactic| (k_here; (with_reducible show wpAny _ _ (call (Value.builtin _) [Value.str _ _, Value.ref _]) _ _ _); k_dflt (refine' hot_join ?N ?m ?c ?d ?S ?w ?o ?_; (case N => k_asm); (case m => k_mem); (case c => rfl); (case d => rfl); (case S => assumption); (case w => assumption); (case o => decide); k_whole); intro t8 k8 hj8))
local macro_rules | `(tactic| walk_at "call builtin:len") => `(tactic| (k_here; (with_reducible show wpAny _ _ (call (Value.builtin "len") [Value.ref _]) _ _ _); k_dflt (refine' hot_len ?N ?m ?c ?d ?z ?_; (case N => k_asm); (case m => k_mem); (case c => rfl); (case d => rfl); (case z => first | assumption | omega | (simp only [List.length_append, List.length_cons, List.length_nil, List.length_set]; omega)); k_whole)))
local macro_rules | `(tactic| walk_at "newList") => `(tactic| (k_here; k_dflt (refine' newList_K ?k1 ?k2 ?_ ?z; (case k1 => k_asm); (case k2 => k_asm); (case z => first | exact Nat.le_trans (m := 1) (Nat.le_refl _) (size_ok (by omega)) | exact Nat.le_trans (m := 0) (Nat.le_refl _) (size_ok (by omega)) | exact Nat.le_trans (m := 2) (Nat.le_refl _) (size_ok (by omega)) | exact Nat.le_trans (m := 3) (Nat.le_refl _) (size_ok (by omega))); k_whole); intro l' h' F' N' l1; (try k_lt l1); (try k_sweep)))
local macro_rules | `(tactic| walk_at "call builtin:iter") => `(tactic| (k_here; (with_reducible show wpAny _ _ (call (Value.builtin "iter") [Value.ref _]) _ _ _); k_dflt (refine' call_iter ?F ?N ?m ?c ?d ?_; (case F => k_asm); (case N => k_asm); (case m => k_mem); (case c => exact rfl); (case d => exact rfl); k_whole); intro D' h' F' N' l1; (try k_lt l1); (try k_sweep)))
local macro_rules | `(tactic| walk_at "call type:object") => `(tactic| (k_here; k_dflt (refine' call_object ?F ?N ?_; (case F => k_asm); (case N => k_asm); k_whole); intro D' h' F' N' l1; (try k_lt l1); (try k_sweep)))
local macro_rules | `(tactic| k_mem) => `(tactic| ((repeat (first | (with_reducible exact List.mem_cons_self) | (with_reducible refine List.mem_append_right _ ?_) | (with_reducible refine List.mem_cons_of_mem _ ?_))); done))
theorem np1 {α : Type} {D I : α} {r : List α} : ∀ p ∈ I :: D :: r, p ∈ D :: I :: r := fun p hp => by
  rcases List.mem_cons.mp hp with rfl | hp
  · exact .tail _ (.head _)
  rcases List.mem_cons.mp hp with rfl | hp
  · exact .head _
  exact .tail _ (.tail _ (hp))
theorem cap2 {h₀ h : Heap} {L a b : Addr} {o1 o2 : Obj} {r : List (Addr × Obj)} (N : News h₀ L h ((a, o1) :: (b, o2) :: r)) : ∃ a' b' : Addr, a' = a ∧ b' = b := ⟨_, _, rfl, rfl⟩
theorem lt_rest2 {h₀ h : Heap} {L a : Addr} {o1 : Obj} {r : List (Addr × Obj)} (N : News h₀ L h ((a, o1) :: r)) (hl : AllLt a r) : AllLt a r := hl
theorem lt_rest {h₀ h : Heap} {L a b : Addr} {o1 o2 : Obj} {r : List (Addr × Obj)} (N : News h₀ L h ((a, o1) :: (b, o2) :: r)) (hl : AllLt b r) : AllLt b r := hl
theorem is_not {prog : Program} {w : World} {A : Around} {E : Value → Shared → Prop} {s : Shared} {h₀ : Heap} {L : Addr} {news cold : List (Addr × Obj)} {v : Value} {d : Dat} {D : Addr} {oD : Obj} {Q : Value → Shared → Prop} (N : News h₀ L s.heap news) (hs : ∀ p ∈ cold, p ∈ news) (hv : DatIn cold v d) (hD : ∀ p ∈ cold, p.1 ≠ D) (hm : (D, oD) ∈ news) (hc : oD.cls = .type "object")
    (hq : Q (.bool false) s) : wpAny (model prog w) A (compareOp .Is v (.ref D)) Q E s := by
  have e : compareOp .Is v (.ref D) = (do return .bool (← isSame v (.ref D))) := rfl
  have hnt : oD.cls ≠ .type "tuple" := by rw [hc]; decide
  rw [e]
  cases hv with
  | tuple hma _ => exact wpAny_bind (PySem.SeqAt.wpAny_isSame_ref_other' (hD _ hma) (N _ (hs _ hma)).1 (N _ hm).1 hnt (wpAny_pure hq))
  | list hma _ => exact wpAny_bind (PySem.SeqAt.wpAny_isSame_ref_other' (hD _ hma) (N _ (hs _ hma)).1 (N _ hm).1 hnt (wpAny_pure hq))
  | _ => exact wpAny_bind (wpAny_isSame_plain rfl (wpAny_pure hq))
set_option maxHeartbeats 8000000 in
theorem nsm1_c {w : World} {p : Program} {loose : List Str} {mean : ExcName → Option Value} {mg mb : Str → Option Value} {news : List (Addr × Obj)}
  {dp un : Nat} {gd : Option (List Code)} {env : Env} {outer : List Env} {A₀ : Around} {base h₀ : Heap} {L : Addr} {m : Str → Option Value} {s : Shared} {Q E : Value → Shared → Prop} {P kf : Addr} {foc : Value} {fod : Option Addr} {ffd : FuncData} {fsl : Array (Option Value)} {ws : List Value} {c : Nat} {cold : List (Addr × Obj)} {ds ks : List Dat} {n : Nat} {tn : Tok}
  (B : Below A₀ base outer h₀) (F : Fr h₀ L s.heap m) (X : (hd.heap_39 w.params).In h₀) (N : News h₀ L s.heap ((P, W.listOf ws.toArray c) :: (kf, ⟨foc, fod, .func ffd, fsl⟩) :: news)) (T : Top p loose mean mg mb h₀)
  (hf : env.frame = some L) (hk : env.scope.kind = .function) (hd : dp + 8 < recursionLimit) (hu : un + 600 < cLine) (hD : DatAll cold ws ds) (hcold : ∀ p ∈ cold, p ∈ news) (hkl : ks.length = ds.length) (hz : ds.length < 60) (hkey : ∀ {led : List (Addr × Obj)} {dp un : Nat} {gd : Option (List Code)} {env : Env} {outer : List Env} {A₀ : Around} {base h₁ : Heap} {L : Addr} {m : Str → Option Value} {s : Shared} {Q E : Value → Shared → Prop} (i : Nat) (v : Value) (d : Dat), Below A₀ base outer h₁ → Fr h₁ L s.heap m → (Mine.hd.heap_39 w.params).In h₁ → News h₁ L s.heap led → Top p loose mean mg mb h₁ → env.frame = some L → env.scope.kind = .function → dp + 6 < recursionLimit → un + 300 < cLine → (∀ p ∈ (kf, ⟨foc, fod, .func ffd, fsl⟩) :: news, p ∈ led) →
      ws[i]? = some v → ks[i]? = some d → (∀ u tl h tk, Fr h₁ L h m → News h₁ L h (tl ++ led) → (∀ p ∈ tl, ∀ q ∈ led, q.1 < p.1) → DatIn tl u d → Q u { s with heap := h, toks := tk }) →
      wpAny (model Challenge.rw_ik0112_01.row.prog w) { handled := none, depth := dp, frames := some (env :: outer), guards := gd, units := un } (call (.ref kf) [v]) Q E s) {kk : Nat} (hn : n = 1) (hz0 : 0 < ds.length) (hkk : kk ≤ 8) (hok : ∀ d ∈ ks, kqdOk kk d = true) (hcmp : ∀ a ∈ ks, ∀ c ∈ ks, dcmp kk a c = true)
  (ret : ∀ D nw h1 tk, Fr h₀ L h1 m → News h₀ L h1 (nw ++ (P, W.listOf ws.toArray c) :: (kf, ⟨foc, fod, .func ffd, fsl⟩) :: news) → DatIn (nw ++ (P, W.listOf ws.toArray c) :: (kf, ⟨foc, fod, .func ffd, fsl⟩) :: news) (.ref D) (.list [ds.getD (minF (ltIx kk ks) (ds.length - 1)) .none]) → Q (.ref D) { s with heap := h1, toks := tk }) :
  wpAny (model Challenge.rw_ik0112_01.row.prog w) { handled := none, depth := dp, frames := some (env :: outer), guards := gd, units := un } (call (.ref 217) [.int n tn, .ref P] [(Str.ofString "key", .ref kf)]) Q E s := by
  revert X; k_fill; intro X
  refine wpAny_call ?_
  k_dflt (refine' code_defC ?k1 ?k2 ?k3 ?k4 ?k5 ?kA ?kF ?kK ?k6 ?k7 ?k8 ?k9 ?kB ?kD ?_ ?c2 ?c3 ?c4; (case kA => exact rfl); (case kF => exact hf); (case kK => exact hk); (case k1 => k_asm); (case k2 => k_asm); (case k3 => k_asm); (case k4 => k_asm); (case k5 => k_asm); (case k6 => k_is); (case k7 => k_is); (case k8 => exact Nat.lt_of_le_of_lt (Nat.le_add_right _ _) hd); (case k9 => first | exact BindsTo.of_eq rfl | (refine' kp_binds ?kx ?ke; (case kx => k_in); (case ke => exact fun _ => rfl))); (case kB => exact rfl); (case kD => decide +kernel); (case c2 => exact rfl); (case c3 => exact rfl); (case c4 => exact rfl); k_whole; intro g' L' h' tk' cells' FG' F' N' Y' B' X' T' l1; (try k_lt l1); k_cells Y'; (try simp only [List.cons_append, List.nil_append] at N'); (try dsimp only); (try k_fold))
  subst hn
  have hdl := hD.length
  ktr_unf
  (with_reducible rename Fr _ _ _ _ => lF')
  (with_reducible rename News _ _ _ _ => lN')
  obtain ⟨lD, lI, eD, eI⟩ := cap2 lN'
  subst eD eI
  have hDI : @Ne Nat lD lI := by k_ne
  (with_reducible rename lI < lD ∧ _ => hl8)
  have hlD := lt_rest2 lN' hl8
  (with_reducible rename _ < lI ∧ _ => hl7)
  have hlI := lt_rest lN' hl7
  show wpAny _ _ (call (.builtin "min") [.ref lI] [(Str.ofString "default", .ref lD), (Str.ofString "key", .ref kf)]) _ _ _
  refine call_minK (I := lI) (vs := ws) (kd := ks) (k := kk) rfl (by ktr_units) lF' (cb_drop lN' np1) ?hnI (.tail _ (.tail _ (.head _))) rfl rfl (by omega) (by omega) hok hcmp (fun i v d hv hd s1 led Q1 E1 F1 hb N1 hr => hkey i v d (by assumption) F1 (by assumption) N1 (by assumption) rfl rfl (by ktr_room) (by ktr_units) (fun p hp => hb p ?sub) hv hd hr) ?_
  case hnI => exact off_cons hDI (fun p hp => Nat.ne_of_lt (allLt_lt hlI p hp))
  case sub =>
    rcases List.mem_cons.mp hp with rfl | hp
    · exact .tail _ (.tail _ (.tail _ (.head _)))
    · exact .tail _ (.tail _ (.tail _ (.tail _ hp)))
  intro v9 h9 tk9 hv9 F9 N9
  obtain ⟨d9, hd9, hin9⟩ := DatAll.at hD hv9
  dsimp only
  ktr_unf
  (with_reducible rename Fr _ _ _ _ => lF')
  (with_reducible rename News _ _ _ _ => lN')
  have hDc : ∀ p ∈ cold, p.1 ≠ lD := fun p hp => Nat.ne_of_lt (allLt_lt hlD p (.tail _ (.tail _ (.tail _ (.tail _ (hcold p hp))))))
  refine is_not lN' (fun p hp => .tail _ (.tail _ (.tail _ (.tail _ (hcold p hp))))) hin9 hDc (.head _) rfl ?_
  ktr_unf
  (with_reducible rename Fr _ _ _ _ => lF')
  (with_reducible rename News _ _ _ _ => lN')
  have e9 : ds.getD (minF (ltIx kk ks) (ds.length - 1)) .none = d9 := by rw [List.getD_eq_getElem?_getD, ← hdl, hd9]; rfl
  refine ret _ [_, _, _] _ _ lF' lN' (.list (vs := [v9]) (.head _) (DatAll.one ?_))
  rw [e9]
  exact hin9.mono (fun p hp => .tail _ (.tail _ (.tail _ (.tail _ (.tail _ (hcold p hp))))))
end Mine
namespace Mine
theorem top_off_A23 : True := by
  w_top off
  trivial
local macro_rules | `(tactic| ktr_unf) => `(tactic| repeat' (first | (k_unfold; (try dsimp only)) | (k_end; wrow_close) | ((fail_if_success (with_reducible show LCg.CompEnd _ _ _ _ _ _ _ _ _ _ _ _ _ _)); (fail_if_success (with_reducible show LCt.CompSrcT _ _ _ _ _ _ _ _ _ _ _ _ _ _ _)); (fail_if_success (with_reducible show LCg.CompSrc _ _ _ _ _ _ _ _ _ _ _ _ _ _)); (fail_if_success (with_reducible show wpAny _ _ (exec (Stmt.While _ _ _ _) _) _ _ _)); (fail_if_success (with_reducible show wpAny _ _ (exec (Stmt.For _ _ _ _ _) _) _ _ _)); (fail_if_success (with_reducible show wpAny _ _ (pyIter (Value.ref _)) _ _ _)); (fail_if_success (with_reducible show wpAny _ _ (call (Value.builtin "sorted") _ _) _ _ _)); walk1) | ((fail_if_success (with_reducible show LCg.CompEnd _ _ _ _ _ _ _ _ _ _ _ _ _ _)); (fail_if_success (with_reducible show LCt.CompSrcT _ _ _ _ _ _ _ _ _ _ _ _ _ _ _)); (fail_if_success (with_reducible show LCg.CompSrc _ _ _ _ _ _ _ _ _ _ _ _ _ _)); (fail_if_success (with_reducible show wpAny _ _ (exec (Stmt.While _ _ _ _) _) _ _ _)); (fail_if_success (with_reducible show wpAny _ _ (exec (Stmt.For _ _ _ _ _) _) _ _ _)); (fail_if_success (with_reducible show wpAny _ _ (pyIter (Value.ref _)) _ _ _)); (fail_if_success (with_reducible show wpAny _ _ (call (Value.builtin "sorted") _ _) _ _ _)); dsimp only; walk1) | (leave1; walk_say "STEP leave1"; try dsimp only) | fail "no step"))
local macro_rules | `(tactic| k_all) => `(tactic| first | assumption | exact allLt_ne (by assumption) | exact allLt_ne (And.right (by assumption)) | exact allLt_ne (And.right (And.right (by assumption))) | exact allLt_ne (And.right (And.right (And.right (by assumption)))) | exact allLt_ne (And.right (And.right (And.right (And.right (by assumption))))) | exact allLt_ne (And.right (And.right (And.right (And.right (And.right (by assumption)))))) | exact allLt_ne (And.right (And.right (And.right (And.right (And.right (And.right (by assumption))))))) | exact allLt_ne (And.right (And.right (And.right (And.right (And.right (And.right (And.right (by assumption)))))))) | exact allLt_ne (And.right (And.right (And.right (And.right (And.right (And.right (And.right (And.right (by assumption))))))))))
local macro_rules | `(tactic| walk_at "call builtin:list.append") => `(tactic| (k_here; (with_reducible show wpAny _ _ (call (Value.builtin _) [Value.ref _, _]) _ _ _); k_dflt (refine' hot_append ?F ?N ?U ?z ?_; (case F => k_asm); (case N => k_asm); (case U => k_upd); (case z => first | assumption | omega | (simp only [List.length_append, List.length_cons, List.length_nil]; omega)); k_whole); intro h' F' N'; (try k_sweep)))
local macro_rules | `(tactic| walk_at "truthy ref") => `(tactic| (k_here; k_dflt (refine' hot_truthy ?N ?m ?z ?_; (case N => k_asm); (case m => k_mem); (case z => first | assumption | omega); k_whole)))
local macro_rules | `(tactic| walk_at "subscriptTail Name UnaryOp ref int") => `(tactic| (k_here; (with_reducible show wpAny _ _ (subscriptTail _ _ (Value.ref _) (Value.int _ _)) _ _ _); (with_unfolding_all refine' hot_lastS ?N ?m ?S ?e ?_ ?r; (case N => k_asm); (case m => k_mem); (case S => assumption); (case e => assumption); (case r => with_unfolding_all rfl); k_whole); intro y8 t8 hy8 hz8))
local macro_rules | `(tactic| walk_at "call builtin:list.pop") => `(tactic| (k_here; (with_reducible show wpAny _ _ (call (Value.builtin _) [Value.ref _]) _ _ _); k_dflt (refine' hot_popS ?F ?N ?U ?z ?S ?e ?_; (case F => k_asm); (case N => k_asm); (case U => k_upd); (case z => first | assumption | omega); (case S => assumption); (case e => assumption); k_whole); intro h' y8 t8 F' N'; (try k_sweep)))
local macro_rules | `(tactic| walk_at "call builtin:str.join") => `(tactic| (k_here; (with_reducible show wpAny _ _ (call (Value.builtin _) [Value.str _ _, Value.ref _]) _ _ _); k_dflt (refine' hot_join ?N ?m ?c ?d ?S ?w ?o ?_; (case N => k_asm); (case m => k_mem); (case c => rfl); (case d => rfl); (case S => assumption); (case w => assumption); (case o => decide); k_whole); intro t8 k8 hj8))
local macro_rules | `(tactic| walk_at "call builtin:len") => `(tactic| (k_here; (with_reducible show wpAny _ _ (call (Value.builtin "len") [Value.ref _]) _ _ _); k_dflt (refine' hot_len ?N ?m ?c ?d ?z ?_; (case N => k_asm); (case m => k_mem); (case c => rfl); (case d => rfl); (case z => first | assumption | omega | (simp only [List.length_append, List.length_cons, List.length_nil, List.length_set]; omega)); k_whole)))
local macro_rules | `(tactic| walk_at "subscriptTail Name Slice ref ref") => `(tactic| (k_here; (with_reducible show wpAny _ _ (subscriptTail _ (PySem.Expr.Slice _ _ none _) (Value.ref _) (Value.ref _)) _ _ _); k_dflt (refine' hot_slice ?F ?N ?m ?c ?d ?p ?q ?_ ?s ?t ?z; (case F => k_asm); (case N => k_asm); (case m => k_mem); (case c => exact rfl); (case d => exact rfl); (case p => kmk_part); (case q => kmk_part); (case s => with_unfolding_all rfl); (case t => kmk_pure); (case z => first | omega | (refine split_room (by assumption) ?_; omega))); intro D' h' F' N' l1; (try k_lt l1); (try k_sweep)))
local macro_rules | `(tactic| walk_at "subscriptTail Name Slice ref ref") => `(tactic| (k_here; (with_reducible show wpAny _ _ (subscriptTail _ (PySem.Expr.Slice none none (some _) _) (Value.ref _) (Value.ref _)) _ _ _); k_dflt (refine' hot_rev ?F ?N ?m ?c ?d ?p ?_ ?s ?t ?z; (case F => k_asm); (case N => k_asm); (case m => k_mem); (case c => exact rfl); (case d => exact rfl); (case p => exact IsPart.int _ _); (case s => with_unfolding_all rfl); (case t => kmk_pure); (case z => first | omega | (refine split_room (by assumption) ?_; omega))); intro D' h' F' N' l1; (try k_lt l1); (try k_sweep)))
local macro_rules | `(tactic| walk_at "subscriptTail Call Slice ref ref") => `(tactic| (k_here; (with_reducible show wpAny _ _ (subscriptTail _ (PySem.Expr.Slice _ _ none _) (Value.ref _) (Value.ref _)) _ _ _); k_dflt (refine' hot_slice ?F ?N ?m ?c ?d ?p ?q ?_ ?s ?t ?z; (case F => k_asm); (case N => k_asm); (case m => k_mem); (case c => exact rfl); (case d => exact rfl); (case p => kmk_part); (case q => kmk_part); (case s => with_unfolding_all rfl); (case t => kmk_pure); (case z => first | omega | (refine split_room (by assumption) ?_; omega))); intro D' h' F' N' l1; (try k_lt l1); (try k_sweep)))
local macro_rules | `(tactic| walk_at "subscriptTail Call Slice ref ref") => `(tactic| (k_here; (with_reducible show wpAny _ _ (subscriptTail _ (PySem.Expr.Slice none none (some _) _) (Value.ref _) (Value.ref _)) _ _ _); k_dflt (refine' hot_rev ?F ?N ?m ?c ?d ?p ?_ ?s ?t ?z; (case F => k_asm); (case N => k_asm); (case m => k_mem); (case c => exact rfl); (case d => exact rfl); (case p => exact IsPart.int _ _); (case s => with_unfolding_all rfl); (case t => kmk_pure); (case z => first | omega | (refine split_room (by assumption) ?_; omega))); intro D' h' F' N' l1; (try k_lt l1); (try k_sweep)))
local macro_rules | `(tactic| walk_at "exec Try") => `(tactic| ((with_reducible show wpAny _ _ (exec (Stmt.Try _ (_ :: _) _ [] _) _) _ _ _); refine wpAny_Try_except ?_))
local macro_rules | `(tactic| walk_at "newList") => `(tactic| (k_here; k_dflt (refine' newList_K ?k1 ?k2 ?_ ?z; (case k1 => k_asm); (case k2 => k_asm); (case z => first | exact Nat.le_trans (m := 1) (Nat.le_refl _) (size_ok (by omega)) | exact Nat.le_trans (m := 0) (Nat.le_refl _) (size_ok (by omega)) | exact Nat.le_trans (m := 2) (Nat.le_refl _) (size_ok (by omega)) | exact Nat.le_trans (m := 3) (Nat.le_refl _) (size_ok (by omega))); k_whole); intro l' h' F' N' l1; (try k_lt l1); (try k_sweep)))
local macro_rules | `(tactic| k_mem) => `(tactic| ((repeat (first | (with_reducible exact List.mem_cons_self) | (with_reducible refine List.mem_append_right _ ?_) | (with_reducible refine List.mem_cons_of_mem _ ?_))); done))
theorem dat_take {news : List (Addr × Obj)} : ∀ {vs : List Value} {ds : List Dat}, DatAll news vs ds → ∀ n, DatAll news (vs.take n) (ds.take n)
  | _, _, .nil, n => by simpa using DatAll.nil
  | _, _, .cons h r, 0 => .nil
  | _, _, .cons h r, n + 1 => .cons h (dat_take r n)
set_option maxHeartbeats 8000000 in
theorem nsm2_c {w : World} {p : Program} {loose : List Str} {mean : ExcName → Option Value} {mg mb : Str → Option Value} {news : List (Addr × Obj)}
  {dp un : Nat} {gd : Option (List Code)} {env : Env} {outer : List Env} {A₀ : Around} {base h₀ : Heap} {L : Addr} {m : Str → Option Value} {s : Shared} {Q E : Value → Shared → Prop} {P kf : Addr} {foc : Value} {fod : Option Addr} {ffd : FuncData} {fsl : Array (Option Value)} {ws : List Value} {c : Nat} {cold : List (Addr × Obj)} {ds ks : List Dat} {n : Nat} {tn : Tok}
  (B : Below A₀ base outer h₀) (F : Fr h₀ L s.heap m) (X : (hd.heap_39 w.params).In h₀) (N : News h₀ L s.heap ((P, W.listOf ws.toArray c) :: (kf, ⟨foc, fod, .func ffd, fsl⟩) :: news)) (T : Top p loose mean mg mb h₀)
  (hf : env.frame = some L) (hk : env.scope.kind = .function) (hd : dp + 8 < recursionLimit) (hu : un + 600 < cLine) (hD : DatAll cold ws ds) (hcold : ∀ p ∈ cold, p ∈ news) (hkl : ks.length = ds.length) (hz : ds.length < 60) (hkey : ∀ {led : List (Addr × Obj)} {dp un : Nat} {gd : Option (List Code)} {env : Env} {outer : List Env} {A₀ : Around} {base h₁ : Heap} {L : Addr} {m : Str → Option Value} {s : Shared} {Q E : Value → Shared → Prop} (i : Nat) (v : Value) (d : Dat), Below A₀ base outer h₁ → Fr h₁ L s.heap m → (Mine.hd.heap_39 w.params).In h₁ → News h₁ L s.heap led → Top p loose mean mg mb h₁ → env.frame = some L → env.scope.kind = .function → dp + 6 < recursionLimit → un + 300 < cLine → (∀ p ∈ (kf, ⟨foc, fod, .func ffd, fsl⟩) :: news, p ∈ led) →
      ws[i]? = some v → ks[i]? = some d → (∀ u tl h tk, Fr h₁ L h m → News h₁ L h (tl ++ led) → (∀ p ∈ tl, ∀ q ∈ led, q.1 < p.1) → DatIn tl u d → Q u { s with heap := h, toks := tk }) →
      wpAny (model Challenge.rw_ik0112_01.row.prog w) { handled := none, depth := dp, frames := some (env :: outer), guards := gd, units := un } (call (.ref kf) [v]) Q E s) {kk : Nat} (hn : n ≠ 1) (hn2 : ds.length ≤ n) (hz0 : 2 ≤ ds.length) (hkk : kk ≤ 8) (hS : Sortable kk ks)
  (ret : ∀ D nw es h1 tk, Fr h₀ L h1 m → News h₀ L h1 (nw ++ (P, W.listOf ws.toArray c) :: (kf, ⟨foc, fod, .func ffd, fsl⟩) :: news) → SortedBy (kk + 1) ks ds es → DatIn (nw ++ (P, W.listOf ws.toArray c) :: (kf, ⟨foc, fod, .func ffd, fsl⟩) :: news) (.ref D) (.list (es.take n)) → Q (.ref D) { s with heap := h1, toks := tk }) :
  wpAny (model Challenge.rw_ik0112_01.row.prog w) { handled := none, depth := dp, frames := some (env :: outer), guards := gd, units := un } (call (.ref 217) [.int n tn, .ref P] [(Str.ofString "key", .ref kf)]) Q E s := by
  revert X; k_fill; intro X
  refine wpAny_call ?_
  k_dflt (refine' code_defC ?k1 ?k2 ?k3 ?k4 ?k5 ?kA ?kF ?kK ?k6 ?k7 ?k8 ?k9 ?kB ?kD ?_ ?c2 ?c3 ?c4; (case kA => exact rfl); (case kF => exact hf); (case kK => exact hk); (case k1 => k_asm); (case k2 => k_asm); (case k3 => k_asm); (case k4 => k_asm); (case k5 => k_asm); (case k6 => k_is); (case k7 => k_is); (case k8 => exact Nat.lt_of_le_of_lt (Nat.le_add_right _ _) hd); (case k9 => first | exact BindsTo.of_eq rfl | (refine' kp_binds ?kx ?ke; (case kx => k_in); (case ke => exact fun _ => rfl))); (case kB => exact rfl); (case kD => decide +kernel); (case c2 => exact rfl); (case c3 => exact rfl); (case c4 => exact rfl); k_whole; intro g' L' h' tk' cells' FG' F' N' Y' B' X' T' l1; (try k_lt l1); k_cells Y'; (try simp only [List.cons_append, List.nil_append] at N'); (try dsimp only); (try k_fold))
  have hdl := hD.length
  ktr_unf
  all_goals (try (exfalso; omega))
  (with_reducible rename Fr _ _ _ _ => lF')
  (with_reducible rename News _ _ _ _ => lN')
  show wpAny _ _ (call (.builtin "sorted") [.ref P] [(Str.ofString "key", .ref kf)]) _ _ _
  refine sortedK_dat (k := kk) (vs := ws) (ks := ks) (ds := ds) (cold := cold) lF' lN' (.tail _ (.head _)) hD (fun p hp => .tail _ (.tail _ (.tail _ (hcold p hp)))) hkl hS (by omega) (by omega) (by ktr_units) (fun i v d hv hd s1 led Q1 E1 F1 hb N1 hr => hkey i v d (by assumption) F1 (by assumption) N1 (by assumption) rfl rfl (by ktr_room) (by ktr_units) (fun p hp => hb p ?sub) hv hd hr) ?_
  case sub =>
    rcases List.mem_cons.mp hp with rfl | hp
    · exact .tail _ (.tail _ (.head _))
    · exact .tail _ (.tail _ (.tail _ hp))
  intro D9 us es c9 h9 tk9 F9 N9 hlt9 hA9 hS9
  clear lF' lN'
  have hul := hA9.length
  obtain ⟨p9, hp9, hw9, he9⟩ := id hS9
  have hel : es.length = ds.length := by rw [he9, List.length_map, hp9.length_eq, List.length_range, hkl]
  dsimp only
  ktr_unf
  (with_reducible rename Fr _ _ _ _ => lF')
  (with_reducible rename News _ _ _ _ => lN')
  rw [sp_upto] at lN'
  refine ret _ [_, _, _] es _ _ lF' lN' hS9 (.list (vs := us.take n) (.head _) ?_)
  have hA8 : DatAll cold (us.take n) (es.take n) := dat_take hA9 n
  exact hA8.mono (fun p hp => .tail _ (.tail _ (.tail _ (.tail _ (.tail _ (hcold p hp))))))
end Mine
namespace Mine
theorem top_off_A24 : True := by
  w_top off
  trivial
local macro_rules | `(tactic| ktr_unf) => `(tactic| repeat' (first | (k_unfold; (try dsimp only)) | (k_end; wrow_close) | ((fail_if_success (with_reducible show LCg.CompEnd _ _ _ _ _ _ _ _ _ _ _ _ _ _)); (fail_if_success (with_reducible show LCt.CompSrcT _ _ _ _ _ _ _ _ _ _ _ _ _ _ _)); (fail_if_success (with_reducible show LCg.CompSrc _ _ _ _ _ _ _ _ _ _ _ _ _ _)); (fail_if_success (with_reducible show wpAny _ _ (exec (Stmt.While _ _ _ _) _) _ _ _)); (fail_if_success (with_reducible show wpAny _ _ (exec (Stmt.For _ _ _ _ _) _) _ _ _)); (fail_if_success (with_reducible show wpAny _ _ (pyIter (Value.ref _)) _ _ _)); (fail_if_success (with_reducible show wpAny _ _ (call (Value.builtin "sorted") _ _) _ _ _)); (fail_if_success (with_reducible show wpAny _ _ (call (Value.builtin "list.sort") _) _ _ _)); (fail_if_success (with_reducible show wpAny _ _ (call (Value.ref _) _) _ _ _)); (fail_if_success (with_reducible show wpAny _ _ (call (Value.type "zip") _) _ _ _)); (fail_if_success (with_reducible show wpAny _ _ (compareOp CmpOp.Lt _ _) _ _ _)); walk1) | ((fail_if_success (with_reducible show LCg.CompEnd _ _ _ _ _ _ _ _ _ _ _ _ _ _)); (fail_if_success (with_reducible show LCt.CompSrcT _ _ _ _ _ _ _ _ _ _ _ _ _ _ _)); (fail_if_success (with_reducible show LCg.CompSrc _ _ _ _ _ _ _ _ _ _ _ _ _ _)); (fail_if_success (with_reducible show wpAny _ _ (exec (Stmt.While _ _ _ _) _) _ _ _)); (fail_if_success (with_reducible show wpAny _ _ (exec (Stmt.For _ _ _ _ _) _) _ _ _)); (fail_if_success (with_reducible show wpAny _ _ (pyIter (Value.ref _)) _ _ _)); (fail_if_success (with_reducible show wpAny _ _ (call (Value.builtin "sorted") _ _) _ _ _)); (fail_if_success (with_reducible show wpAny _ _ (call (Value.builtin "list.sort") _) _ _ _)); (fail_if_success (with_reducible show wpAny _ _ (call (Value.ref _) _) _ _ _)); (fail_if_success (with_reducible show wpAny _ _ (call (Value.type "zip") _) _ _ _)); (fail_if_success (with_reducible show wpAny _ _ (compareOp CmpOp.Lt _ _) _ _ _)); dsimp only; walk1) | (leave1; walk_say "STEP leave1"; try dsimp only) | fail "no step"))
local macro_rules | `(tactic| walk_at "exec Assign cons ListComp") => `(tactic| (k_here; k_dflt (refine Assign_ListComp_Z rfl (F₀ := by k_asm) (by rfl) (by with_unfolding_all rfl) (by with_unfolding_all rfl) (by decide) (by rfl) (by decide) (by rfl) (by rfl) (by decide) (by rfl) (by rfl) ?_)))
local macro_rules | `(tactic| walk_at "eval ListComp") => `(tactic| (k_here; k_dflt (refine ListComp_T3 rfl (F₀ := by k_asm) (by with_unfolding_all rfl) (by decide) (by rfl) (by decide) (by rfl) (by rfl) (by rfl) (by decide) (by decide) (by decide) ?_)))
local macro_rules | `(tactic| k_all) => `(tactic| first | assumption | exact allLt_ne (by assumption) | exact allLt_ne (And.right (by assumption)) | exact allLt_ne (And.right (And.right (by assumption))) | exact allLt_ne (And.right (And.right (And.right (by assumption)))) | exact allLt_ne (And.right (And.right (And.right (And.right (by assumption))))) | exact allLt_ne (And.right (And.right (And.right (And.right (And.right (by assumption)))))) | exact allLt_ne (And.right (And.right (And.right (And.right (And.right (And.right (by assumption))))))) | exact allLt_ne (And.right (And.right (And.right (And.right (And.right (And.right (And.right (by assumption)))))))) | exact allLt_ne (And.right (And.right (And.right (And.right (And.right (And.right (And.right (And.right (by assumption))))))))))
local macro_rules | `(tactic| walk_at "call builtin:list.append") => `(tactic| (k_here; (with_reducible show wpAny _ _ (call (Value.builtin _) [Value.ref _, _]) _ _ _); k_dflt (refine' hot_append ?F ?N ?U ?z ?_; (case F => k_asm); (case N => k_asm); (case U => k_upd); (case z => first | assumption | omega | (simp only [List.length_append, List.length_cons, List.length_nil]; omega)); k_whole); intro h' F' N'; (try k_sweep)))
local macro_rules | `(tactic| walk_at "truthy ref") => `(tactic| (k_here; k_dflt (refine' hot_truthy ?N ?m ?z ?_; (case N => k_asm); (case m => k_mem); (case z => first | assumption | omega); k_whole)))
local macro_rules | `(tactic| walk_at "subscriptTail Name UnaryOp ref int") => `(tactic| (k_here; (with_reducible show wpAny _ _ (subscriptTail _ _ (Value.ref _) (Value.int _ _)) _ _ _); (with_unfolding_all refine' hot_lastS ?N ?m ?S ?e ?_ ?r; (case N => k_asm); (case m => k_mem); (case S => assumption); (case e => assumption); (case r => with_unfolding_all rfl); k_whole); intro y8 t8 hy8 hz8))
local macro_rules | `(tactic| walk_at "call builtin:list.pop") => `(tactic| (k_here; (with_reducible show wpAny _ _ (call (Value.builtin _) [Value.ref _]) _ _ _); k_dflt (refine' hot_popS ?F ?N ?U ?z ?S ?e ?_; (case F => k_asm); (case N => k_asm); (case U => k_upd); (case z => first | assumption | omega); (case S => assumption); (case e => assumption); k_whole); intro h' y8 t8 F' N'; (try k_sweep)))
local macro_rules | `(tactic| walk_at "call builtin:str.join") => `(tactic| (k_here; (with_reducible show wpAny _ _ (call (Value.builtin _) [Value.str _ _, Value.ref _]) _ _ _); k_dflt (refine' hot_join ?N ?m ?c ?d ?S ?w ?o ?_; (case N => k_asm); (case m => k_mem); (case c => rfl); (case d => rfl); (case S => assumption); (case w => assumption); (case o => decide); k_whole); intro t8 k8 hj8))
local macro_rules | `(tactic| walk_at "call builtin:len") => `(tactic| (k_here; (with_reducible show wpAny _ _ (call (Value.builtin "len") [Value.ref _]) _ _ _); k_dflt (refine' hot_len ?N ?m ?c ?d ?z ?_; (case N => k_asm); (case m => k_mem); (case c => rfl); (case d => rfl); (case z => first | assumption | omega | (simp only [List.length_append, List.length_cons, List.length_nil, List.length_set]; omega)); k_whole)))
local macro_rules | `(tactic| walk_at "subscriptTail Name Slice ref ref") => `(tactic| (k_here; (with_reducible show wpAny _ _ (subscriptTail _ (PySem.Expr.Slice _ _ none _) (Value.ref _) (Value.ref _)) _ _ _); k_dflt (refine' hot_slice ?F ?N ?m ?c ?d ?p ?q ?_ ?s ?t ?z; (case F => k_asm); (case N => k_asm); (case m => k_mem); (case c => exact rfl); (case d => exact rfl); (case p => kmk_part); (case q => kmk_part); (case s => with_unfolding_all rfl); (case t => kmk_pure); (case z => first | omega | (refine split_room (by assumption) ?_; omega))); intro D' h' F' N' l1; (try k_lt l1); (try k_sweep)))
local macro_rules | `(tactic| walk_at "subscriptTail Name Slice ref ref") => `(tactic| (k_here; (with_reducible show wpAny _ _ (subscriptTail _ (PySem.Expr.Slice none none (some _) _) (Value.ref _) (Value.ref _)) _ _ _); k_dflt (refine' hot_rev ?F ?N ?m ?c ?d ?p ?_ ?s ?t ?z; (case F => k_asm); (case N => k_asm); (case m => k_mem); (case c => exact rfl); (case d => exact rfl); (case p => exact IsPart.int _ _); (case s => with_unfolding_all rfl); (case t => kmk_pure); (case z => first | omega | (refine split_room (by assumption) ?_; omega))); intro D' h' F' N' l1; (try k_lt l1); (try k_sweep)))
local macro_rules | `(tactic| walk_at "exec Try") => `(tactic| ((with_reducible show wpAny _ _ (exec (Stmt.Try _ (_ :: _) _ [] _) _) _ _ _); refine wpAny_Try_except ?_))
local macro_rules | `(tactic| walk_at "newList") => `(tactic| (k_here; k_dflt (refine' newList_K ?k1 ?k2 ?_ ?z; (case k1 => k_asm); (case k2 => k_asm); (case z => first | exact Nat.le_trans (m := 1) (Nat.le_refl _) (size_ok (by omega)) | exact Nat.le_trans (m := 0) (Nat.le_refl _) (size_ok (by omega)) | exact Nat.le_trans (m := 2) (Nat.le_refl _) (size_ok (by omega)) | exact Nat.le_trans (m := 3) (Nat.le_refl _) (size_ok (by omega))); k_whole); intro l' h' F' N' l1; (try k_lt l1); (try k_sweep)))
local macro_rules | `(tactic| k_mem) => `(tactic| ((repeat (first | (with_reducible exact List.mem_cons_self) | (with_reducible refine List.mem_append_right _ ?_) | (with_reducible refine List.mem_cons_of_mem _ ?_))); done))
local macro_rules | `(tactic| walk_at "call builtin:iter") => `(tactic| (k_here; (with_reducible show wpAny _ _ (call (Value.builtin "iter") [Value.ref _]) _ _ _); k_dflt (refine' call_iter ?F ?N ?m ?c ?d ?_; (case F => k_asm); (case N => k_asm); (case m => k_mem); (case c => exact rfl); (case d => exact rfl); k_whole); intro D' h' F' N' l1; (try k_lt l1); (try k_sweep)))
local macro_rules | `(tactic| walk_at "callWith ref") => `(tactic| (k_here; k_dflt (refine' callWith_F ?k1 ?_; (case k1 => exact FnAt.of (by k_asm) (by k_mem)); k_whole)))
local macro_rules | `(tactic| walk_at "subscriptTail Name Name ref int") => `(tactic| (k_here; (with_reducible show wpAny _ _ (subscriptTail _ _ (Value.ref _) (Value.int _ _)) _ _ _); (with_unfolding_all refine' hot_item ?N ?m ?D ?a ?b ?c ?_ ?r; (case N => k_asm); (case m => k_mem); (case D => assumption); (case a => omega); (case b => omega); (case c => omega); (case r => with_unfolding_all rfl); k_whole); intro v8 d8 hv8 hd8 hD8))
local macro_rules | `(tactic| walk_at "setItem ref int") => `(tactic| (k_here; (with_reducible show wpAny _ _ (PySem.setItem (Value.ref _) (Value.int _ _) _) _ _ _); k_dflt (refine' hot_set ?F ?N ?U ?l ?a ?b ?c ?_; (case F => k_asm); (case N => k_asm); (case U => k_upd); (case l => exact DatAll.length (by assumption)); (case a => omega); (case b => omega); (case c => omega); k_whole); intro h' F' N'; (try k_sweep)))
local macro_rules | `(tactic| walk_at "subscriptTail Name Constant ref int") => `(tactic| (k_here; (with_reducible show wpAny _ _ (subscriptTail _ _ (Value.ref _) (Value.int _ _)) _ _ _); (with_unfolding_all refine' hot_item ?N ?m ?D ?a ?b ?c ?_ ?r; (case N => k_asm); (case m => k_mem); (case D => assumption); (case a => omega); (case b => omega); (case c => omega); (case r => with_unfolding_all rfl); k_whole); intro v8 d8 hv8 hd8 hD8))
local macro_rules | `(tactic| walk_at "call builtin:list.pop") => `(tactic| (k_here; (with_reducible show wpAny _ _ (call (Value.builtin _) [Value.ref _]) _ _ _); k_dflt (refine' hot_popD ?F ?N ?U ?z ?D ?e ?_; (case F => k_asm); (case N => k_asm); (case U => k_upd); (case z => omega); (case D => assumption); (case e => omega); k_whole); intro h' v8 d8 F' N' hd8 hD8 hA8; (try k_sweep)))
local macro_rules | `(tactic| walk_at "call builtin:len") => `(tactic| (k_here; (with_reducible show wpAny _ _ (call (Value.builtin "len") [Value.ref _]) _ _ _); k_dflt (refine' hot_len ?N ?m ?c ?d ?z ?_; (case N => k_asm); (case m => k_mem); (case c => rfl); (case d => rfl); (case z => first | assumption | omega | (simp only [List.length_append, List.length_cons, List.length_nil, List.length_set]; omega)); k_whole)))
local macro_rules | `(tactic| walk_at "subscriptTail Name Constant ref int") => `(tactic| (k_here; (with_reducible show wpAny _ _ (subscriptTail _ _ (Value.ref _) (Value.int _ _)) _ _ _); (with_unfolding_all refine' hot_item ?N ?m ?D ?a ?b ?c ?_ ?r; (case N => k_asm); (case m => k_mem); (case D => assumption); (case a => omega); (case b => omega); (case c => omega); (case r => with_unfolding_all rfl); k_whole); intro v8 d8 hv8 hd8 hD8))
local macro_rules | `(tactic| walk_at "subscriptTail Name Constant ref int") => `(tactic| (k_here; (with_reducible show wpAny _ _ (subscriptTail _ _ (Value.ref _) (Value.int _ _)) _ _ _); k_dflt (refine' item_tupleT ?t ?a ?b ?c ?d ?_; (case t => exact News.isTup (by k_asm) (by first | with_reducible assumption | k_mem)); (case a => decide); (case b => decide); (case c => rfl); (case d => rfl); k_whole)))
local macro_rules | `(tactic| walk_at "subscriptTail Subscript Constant ref int") => `(tactic| (k_here; (with_reducible show wpAny _ _ (subscriptTail _ _ (Value.ref _) (Value.int _ _)) _ _ _); k_dflt (refine' item_tupleT ?t ?a ?b ?c ?d ?_; (case t => exact News.isTup (by k_asm) (by first | with_reducible assumption | k_mem)); (case a => decide); (case b => decide); (case c => rfl); (case d => rfl); k_whole)))
theorem nz_cap {h₀ h : Heap} {L a b : Addr} {o1 o2 : Obj} {r : List (Addr × Obj)} (N : News h₀ L h ((a, o1) :: (b, o2) :: r)) : ∃ (a' : Addr) (oc : Obj), a' = a ∧ oc = o2 ∧ News h₀ L h ((a', o1) :: (b, oc) :: r) := ⟨_, _, rfl, rfl, N⟩
def trip (ks ds : List Dat) (j : Nat) : Dat := .tuple [ks.getD j .none, .int (j : Int), ds.getD j .none]
theorem zr_obj (n : Nat) : zrI n = { cls := .type "range_iterator", dict := none, data := .fields #[rawInt ((0 : Nat) : Int), rawInt ((n : Int) - ((0 : Nat) : Int)), rawInt 1], slots := #[] } := by
  unfold zrI
  rw [rangeSize_nat, Int.sub_zero, Int.toNat_natCast]
  rw [show ((0 : Nat) : Int) = 0 from rfl, Int.sub_zero]
theorem zap_of {z TO TI i1 I l : Addr} {oI ol : Obj} {news : List (Addr × Obj)} (l1 : TO < z) (l2 : TI < TO) (l3 : i1 < TI) (l4 : ∀ p ∈ (I, oI) :: news, p.1 < i1) (hI : ∀ p ∈ news, p.1 < I) (hl : (l, ol) ∈ news) :
    ZAp z TI TO i1 I l ∧ ∀ p ∈ news, ZA z TO TI i1 I p.1 := by
  have h5 : I < i1 := l4 _ (.head _)
  have h6 : l < I := hI _ hl
  have t1 : TI < z := Nat.lt_trans l2 l1
  have t2 : i1 < TO := Nat.lt_trans l3 l2
  have t3 : i1 < z := Nat.lt_trans t2 l1
  have t4 : I < TI := Nat.lt_trans h5 l3
  have t5 : I < TO := Nat.lt_trans h5 t2
  have t6 : I < z := Nat.lt_trans h5 t3
  refine ⟨⟨Nat.ne_of_lt t1, Nat.ne_of_lt l1, Nat.ne_of_lt t3, Nat.ne_of_lt t6, Nat.ne_of_lt l2, Nat.ne_of_gt l3, Nat.ne_of_gt t4, Nat.ne_of_gt t2, Nat.ne_of_gt t5, Nat.ne_of_gt h5, Nat.ne_of_lt (Nat.lt_trans h6 t6), Nat.ne_of_lt (Nat.lt_trans h6 t5), Nat.ne_of_lt (Nat.lt_trans h6 h5), Nat.ne_of_lt h6⟩, fun p hp => ?_⟩
  have h7 : p.1 < I := hI p hp
  exact ⟨Nat.ne_of_lt (Nat.lt_trans h7 t6), Nat.ne_of_lt (Nat.lt_trans h7 t5), Nat.ne_of_lt (Nat.lt_trans h7 t4), Nat.ne_of_lt (Nat.lt_trans h7 h5), Nat.ne_of_lt h7⟩
theorem zp1 {α : Type} (c d x : α) (zl t2 r : List α) : ∀ p ∈ c :: d :: (zl ++ ((x :: t2) ++ r)), p ∈ x :: (t2 ++ c :: d :: (zl ++ r)) := by intro p hp; grind
theorem zp2 {α : Type} (x : α) (t2 tl r : List α) : ∀ p ∈ tl ++ r, p ∈ ((x :: t2) ++ tl) ++ r := by intro p hp; grind
theorem zp3 {α : Type} (x : α) (t2 tl r : List α) : ∀ p ∈ t2, p ∈ ((x :: t2) ++ tl) ++ r := by intro p hp; grind
theorem zend {h₀ h' : Heap} {L C D X : Addr} {m : Str → Option Value} {s₁ : Shared} {oC oD oX : Obj} {zl t2 old : List (Addr × Obj)} {r : Value → List (Addr × Obj) → Prop} {tk : Nat} (F : Fr h₀ L h' m) (N : News h₀ L h' ((X, oX) :: (t2 ++ (C, oC) :: (D, oD) :: (zl ++ old))))
    (hl : ∀ p ∈ t2 ++ (C, oC) :: (D, oD) :: (zl ++ old), p.1 < X) (hf : ∀ p ∈ t2, ∀ q ∈ (C, oC) :: (D, oD) :: (zl ++ old), q.1 < p.1) (hr : r (.ref X) (((X, oX) :: t2) ++ old)) :
    ZEnd h₀ L m s₁ C oC D oD zl r old (.ref X) { s₁ with heap := h', toks := tk } :=
  ⟨h', tk, (X, oX) :: t2, rfl, F, cb_drop N (zp1 _ _ _ _ _ _), fun p hp q hq => by
    rcases List.mem_cons.mp hp with rfl | hp
    · exact hl q (List.mem_append_right _ hq)
    · exact hf p hp q hq, hr⟩
def TripD (ks ds : List Dat) (d : Dat) : Prop := ∃ (j : Nat) (o : Int), j < ds.length ∧ d = .tuple [ks.getD j .none, .int o, ds.getD j .none]
theorem trip_ok {ks ds : List Dat} {k : Nat} (hl : ks.length = ds.length) (h1 : ∀ d ∈ ks, kqdOk (k + 1) d = true) (h2 : ∀ d ∈ ds, kqdOk (k + 1) d = true) {a : Dat} (ha : TripD ks ds a) : kqdOk (k + 2) a = true := by
  obtain ⟨j, o, hj, rfl⟩ := ha
  have e1 := h1 _ (getD_mem (d := Dat.none) (show j < ks.length by omega))
  have e2 := h2 _ (getD_mem (d := Dat.none) hj)
  generalize ks.getD j .none = x at *
  generalize ds.getD j .none = y at *
  simp only [kqdOk, List.all_cons, List.all_nil, Bool.and_true, Bool.and_eq_true]
  exact ⟨e1, trivial, e2⟩
theorem trip_cmp {ks ds : List Dat} {k : Nat} (hl : ks.length = ds.length) (h1 : ∀ a ∈ ks, ∀ c ∈ ks, dcmp (k + 1) a c = true) (h2 : ∀ a ∈ ds, ∀ c ∈ ds, dcmp (k + 1) a c = true) {a b : Dat} (ha : TripD ks ds a) (hb : TripD ks ds b) : dcmp (k + 2) a b = true := by
  obtain ⟨j, o, hj, rfl⟩ := ha
  obtain ⟨j', o', hj', rfl⟩ := hb
  have e1 := h1 _ (getD_mem (d := Dat.none) (show j < ks.length by omega)) _ (getD_mem (d := Dat.none) (show j' < ks.length by omega))
  have e2 := h2 _ (getD_mem (d := Dat.none) hj) _ (getD_mem (d := Dat.none) hj')
  generalize ks.getD j .none = x at *
  generalize ds.getD j .none = y at *
  generalize ks.getD j' .none = x' at *
  generalize ds.getD j' .none = y' at *
  simp only [dcmp, List.zip_cons_cons, List.zip_nil_left, List.all_cons, List.all_nil, Bool.and_true, Bool.and_eq_true]
  exact ⟨e1, trivial, e2⟩
theorem tq2 {α : Type} {a b x : α} {r : List α} (h : x ∈ r) : x ∈ a :: b :: r := .tail _ (.tail _ h)
theorem in_trip {cold : List (Addr × Obj)} {v : Value} {x y : Dat} {o : Int} (h : DatIn cold v (.tuple [x, .int o, y])) : ∃ a kv t dv k, v = .ref a ∧ (a, ({ cls := .type "tuple", data := .seq #[kv, .int o t, dv] k } : Obj)) ∈ cold ∧ DatIn cold kv x ∧ DatIn cold dv y := by
  cases h with
  | tuple hm r => cases r with
    | cons h1 r => cases r with
      | cons h2 r => cases r with
        | cons h3 r => cases r; cases h2; exact ⟨_, _, _, _, _, rfl, hm, h1, h3⟩
theorem tq3 {α : Type} {a b : α} {r : List α} : ∀ p ∈ b :: a :: r, p ∈ a :: b :: r := fun p hp => by
  rcases List.mem_cons.mp hp with rfl | hp
  · exact .tail _ (.head _)
  · rcases List.mem_cons.mp hp with rfl | hp
    · exact .head _
    · exact .tail _ (.tail _ hp)
def fstD : Dat → Dat
  | .tuple (x :: _) => x
  | _ => .none
def nsStep (k : Nat) (ks ds : List Dat) (st : List Dat × Nat) (j : Nat) : List Dat × Nat :=
  if dlt k (ks.getD j .none) (fstD (st.1.getD 0 .none)) = true then
    (siftupF (fun p q => dlt (k + 1) q p) (st.1.set 0 (.tuple [ks.getD j .none, .int (st.2 : Int), ds.getD j .none])) 0 (.tuple [ks.getD j .none, .int (st.2 : Int), ds.getD j .none]), st.2 + 1)
  else st
def nsState (k : Nat) (ks ds : List Dat) (n i : Nat) : List Dat × Nat := (List.range i).foldl (fun st j => nsStep k ks ds st (n + j)) (heapifyF (fun p q => dlt (k + 1) q p) ((List.range n).map (trip ks ds)), n)
theorem ns_inv {k n : Nat} {ks ds : List Dat} (hl : ks.length = ds.length) (hn : n < ds.length) : ∀ i, i ≤ ds.length - n → (∀ a ∈ (nsState k ks ds n i).1, TripD ks ds a) ∧ (nsState k ks ds n i).1.length = n ∧ (nsState k ks ds n i).2 ≤ n + i
  | 0, _ => by
    refine ⟨fun a ha => ?_, ?_, Nat.le_refl _⟩
    · have := heapSteps_mem _ _ _ a ha
      obtain ⟨j, hj, rfl⟩ := List.mem_map.mp this
      rw [List.mem_range] at hj
      exact ⟨j, j, by omega, rfl⟩
    · show (heapifyF _ _).length = n
      unfold heapifyF; rw [heapSteps_len]; simp
  | i + 1, hi => by
    have ih := ns_inv (k := k) hl hn i (by omega)
    have e : nsState k ks ds n (i + 1) = nsStep k ks ds (nsState k ks ds n i) (n + i) := by
      unfold nsState; rw [List.range_succ, List.foldl_append]; rfl
    rw [e]
    generalize nsState k ks ds n i = st at ih
    unfold nsStep
    split
    · refine ⟨fun a ha => ?_, ?_, by dsimp only; omega⟩
      · have hT : TripD ks ds (.tuple [ks.getD (n + i) .none, .int (st.2 : Int), ds.getD (n + i) .none]) := ⟨n + i, st.2, by omega, rfl⟩
        rcases siftupF_mem _ _ _ _ a ha with h | h
        · rcases List.mem_or_eq_of_mem_set h with h | h
          · exact ih.1 a h
          · rw [h]; exact hT
        · rw [h]; exact hT
      · dsimp only; rw [siftupF_len, List.length_set]; exact ih.2.1
    · exact ⟨ih.1, ih.2.1, by omega⟩
theorem tq4 {α : Type} (a b : α) (t r : List α) : ∀ p ∈ t ++ r, p ∈ t ++ a :: b :: r := by intro p hp; grind
theorem tq5 {α : Type} (x a b : α) (t r : List α) : ∀ p ∈ b :: x :: a :: (t ++ r), p ∈ x :: (t ++ a :: b :: r) := by intro p hp; grind
theorem tq6 {α : Type} (x a : α) (t r : List α) : ∀ p ∈ x :: (t ++ r), p ∈ x :: a :: (t ++ r) := by intro p hp; grind
theorem ns_cap {h₀ h : Heap} {L x : Addr} {u v : Value} {o : Int} {t : Tok} {r : List (Addr × Obj)} (N : News h₀ L h ((x, { cls := .type "tuple", data := .seq #[u, .int o t, v] }) :: r)) :
    ∃ (x' : Addr) (ox : Obj), x' = x ∧ (∀ cold kd dd, DatIn cold u kd → DatIn cold v dd → DatIn ((x, ox) :: cold) (.ref x) (.tuple [kd, .int o, dd])) ∧ News h₀ L h ((x, ox) :: r) :=
  ⟨_, _, rfl, fun cold kd dd h1 h2 => .tuple (vs := [u, .int o t, v]) (.head _) (.cons (h1.mono fun p hp => .tail _ hp) (.cons (.int _ _) (.cons (h2.mono fun p hp => .tail _ hp) .nil))), N⟩
theorem tq7 {α : Type} (y D X I : α) (t3 t2 r : List α) : ∀ p ∈ I :: D :: ((X :: (t3 ++ t2)) ++ r), p ∈ y :: D :: X :: I :: (t3 ++ (t2 ++ r)) := by intro p hp; grind
theorem tq8 {h₀ h : Heap} {L : Addr} {D X I x : Addr × Obj} {r : List (Addr × Obj)} (N : News h₀ L h (D :: X :: I :: r)) (hm : x ∈ X :: r) : News h₀ L h (x :: D :: X :: I :: r) := fun p hp => by
  rcases List.mem_cons.mp hp with rfl | hp
  · rcases List.mem_cons.mp hm with rfl | hm
    · exact N _ (.tail _ (.head _))
    · exact N _ (.tail _ (.tail _ (.tail _ hm)))
  · exact N _ hp
theorem tq9 {a : Addr} {X : Addr × Obj} {t3 t2 r : List (Addr × Obj)} (h1 : @Ne Nat X.1 a) (h2 : ∀ p ∈ t3, @Ne Nat p.1 a) (h3 : ∀ p ∈ t2 ++ r, p.1 ≠ a) : ∀ p ∈ (X :: (t3 ++ t2)) ++ r, p.1 ≠ a := fun p hp => by
  rcases List.mem_append.mp hp with hp | hp
  · rcases List.mem_cons.mp hp with rfl | hp
    · exact h1
    · rcases List.mem_append.mp hp with hp | hp
      · exact h2 p hp
      · exact h3 p (List.mem_append_left _ hp)
  · exact h3 p (List.mem_append_right _ hp)
theorem tq10 {α : Type} (X : α) (t3 t2 r : List α) : ∀ p ∈ X :: (t3 ++ (t2 ++ r)), p ∈ (X :: (t3 ++ t2)) ++ r := by intro p hp; grind
theorem tq11 {α : Type} (I D : α) (t3 t2 r : List α) : ∀ p ∈ I :: D :: ((t3 ++ t2) ++ r), p ∈ t3 ++ I :: D :: (t2 ++ r) := by intro p hp; grind
theorem tq12 {a : Addr} {t3 t2 r : List (Addr × Obj)} (h2 : ∀ p ∈ t3, @Ne Nat p.1 a) (h3 : ∀ p ∈ t2 ++ r, p.1 ≠ a) : ∀ p ∈ (t3 ++ t2) ++ r, p.1 ≠ a := fun p hp => by
  rcases List.mem_append.mp hp with hp | hp
  · rcases List.mem_append.mp hp with hp | hp
    · exact h2 p hp
    · exact h3 p (List.mem_append_left _ hp)
  · exact h3 p (List.mem_append_right _ hp)
theorem tq13 {α : Type} (t3 t2 r : List α) : ∀ p ∈ t2 ++ r, p ∈ (t3 ++ t2) ++ r := by intro p hp; grind
def thdD : Dat → Dat
  | .tuple [_, _, x] => x
  | _ => .none
theorem tq14 {α : Type} (x D c : α) (t2 t r : List α) : ∀ p ∈ (x :: D :: (t2 ++ t ++ [c])) ++ r, p ∈ x :: D :: (t2 ++ (t ++ c :: r)) := by intro p hp; grind
theorem tq15 {α : Type} (x D c : α) (t2 t r : List α) : ∀ p ∈ t2 ++ (t ++ c :: r), p ∈ (x :: D :: (t2 ++ t ++ [c])) ++ r := by intro p hp; grind
theorem lt_restA {h₀ h : Heap} {L a : Addr} {o1 : Obj} {r : List (Addr × Obj)} (N : News h₀ L h ((a, o1) :: r)) (hl : AllLt a r) : ∀ p ∈ r, p.1 < a := allLt_lt hl
set_option maxHeartbeats 8000000 in
theorem nsm3_c {w : World} {p : Program} {loose : List Str} {mean : ExcName → Option Value} {mg mb : Str → Option Value} {news : List (Addr × Obj)}
  {dp un : Nat} {gd : Option (List Code)} {env : Env} {outer : List Env} {A₀ : Around} {base h₀ : Heap} {L : Addr} {m : Str → Option Value} {s : Shared} {Q E : Value → Shared → Prop} {P kf : Addr} {foc : Value} {fod : Option Addr} {ffd : FuncData} {fsl : Array (Option Value)} {ws : List Value} {c : Nat} {cold : List (Addr × Obj)} {ds ks : List Dat} {n : Nat} {tn : Tok}
  (B : Below A₀ base outer h₀) (F : Fr h₀ L s.heap m) (X : (hd.heap_39 w.params).In h₀) (N : News h₀ L s.heap ((P, W.listOf ws.toArray c) :: (kf, ⟨foc, fod, .func ffd, fsl⟩) :: news)) (T : Top p loose mean mg mb h₀)
  (hf : env.frame = some L) (hk : env.scope.kind = .function) (hd : dp + 8 < recursionLimit) (hu : un + 600 < cLine) (hD : DatAll cold ws ds) (hcold : ∀ p ∈ cold, p ∈ news) (hkl : ks.length = ds.length) (hz : ds.length < 60) (hkey : ∀ {led : List (Addr × Obj)} {dp un : Nat} {gd : Option (List Code)} {env : Env} {outer : List Env} {A₀ : Around} {base h₁ : Heap} {L : Addr} {m : Str → Option Value} {s : Shared} {Q E : Value → Shared → Prop} (i : Nat) (v : Value) (d : Dat), Below A₀ base outer h₁ → Fr h₁ L s.heap m → (Mine.hd.heap_39 w.params).In h₁ → News h₁ L s.heap led → Top p loose mean mg mb h₁ → env.frame = some L → env.scope.kind = .function → dp + 6 < recursionLimit → un + 300 < cLine → (∀ p ∈ (kf, ⟨foc, fod, .func ffd, fsl⟩) :: news, p ∈ led) →
      ws[i]? = some v → ks[i]? = some d → (∀ u tl h tk, Fr h₁ L h m → News h₁ L h (tl ++ led) → (∀ p ∈ tl, ∀ q ∈ led, q.1 < p.1) → DatIn tl u d → Q u { s with heap := h, toks := tk }) →
      wpAny (model Challenge.rw_ik0112_01.row.prog w) { handled := none, depth := dp, frames := some (env :: outer), guards := gd, units := un } (call (.ref kf) [v]) Q E s) {kk : Nat} (hn : 2 ≤ n) (hn2 : n < ds.length) (hkk : kk ≤ 2) (hS : Sortable kk ks) (hokd : ∀ d ∈ ds, kqdOk (kk + 1) d = true) (hcmpd : ∀ a ∈ ds, ∀ c ∈ ds, dcmp (kk + 1) a c = true) (hS3 : Sortable (kk + 1) (nsState (kk + 1) ks ds n (ds.length - n)).1)
  (ret : ∀ D nw es h1 tk, Fr h₀ L h1 m → News h₀ L h1 (nw ++ (P, W.listOf ws.toArray c) :: (kf, ⟨foc, fod, .func ffd, fsl⟩) :: news) → SortedBy (kk + 1 + 1) (nsState (kk + 1) ks ds n (ds.length - n)).1 (nsState (kk + 1) ks ds n (ds.length - n)).1 es → DatIn (nw ++ (P, W.listOf ws.toArray c) :: (kf, ⟨foc, fod, .func ffd, fsl⟩) :: news) (.ref D) (.list (es.map thdD)) → Q (.ref D) { s with heap := h1, toks := tk }) :
  wpAny (model Challenge.rw_ik0112_01.row.prog w) { handled := none, depth := dp, frames := some (env :: outer), guards := gd, units := un } (call (.ref 217) [.int n tn, .ref P] [(Str.ofString "key", .ref kf)]) Q E s := by
  revert X; k_fill; intro X
  refine wpAny_call ?_
  k_dflt (refine' code_defC ?k1 ?k2 ?k3 ?k4 ?k5 ?kA ?kF ?kK ?k6 ?k7 ?k8 ?k9 ?kB ?kD ?_ ?c2 ?c3 ?c4; (case kA => exact rfl); (case kF => exact hf); (case kK => exact hk); (case k1 => k_asm); (case k2 => k_asm); (case k3 => k_asm); (case k4 => k_asm); (case k5 => k_asm); (case k6 => k_is); (case k7 => k_is); (case k8 => exact Nat.lt_of_le_of_lt (Nat.le_add_right _ _) hd); (case k9 => first | exact BindsTo.of_eq rfl | (refine' kp_binds ?kx ?ke; (case kx => k_in); (case ke => exact fun _ => rfl))); (case kB => exact rfl); (case kD => decide +kernel); (case c2 => exact rfl); (case c3 => exact rfl); (case c4 => exact rfl); k_whole; intro g' L' h' tk' cells' FG' F' N' Y' B' X' T' l1; (try k_lt l1); k_cells Y'; (try simp only [List.cons_append, List.nil_append] at N'); (try dsimp only); (try k_fold))
  have hdl := hD.length
  ktr_unf
  all_goals (try (exfalso; omega))
  (with_reducible rename Fr _ _ _ _ => lF')
  (with_reducible rename News _ _ _ _ => lN')
  (with_reducible rename IsRange _ _ _ _ _ _ _ _ => hR)
  obtain ⟨lI, oC', eI, e2, lN2⟩ := nz_cap lN'
  subst eI e2
  (with_reducible rename _ < lI ∧ _ => hl7)
  have hlI := lt_restA lN2 hl7
  refine call_zipR (I := lI) (l := P) (k := 0) lF' lN2 hR (small_one (by omega) (by omega) (by omega) (by omega)) ⟨_, (lN2 _ (.head _)).1, rfl, rfl⟩ ?_
  intro z TO TI i1 h9 F9 N9 l1 l2 l3 l4 l5
  clear lN'
  dsimp only
  rw [zr_obj] at N9
  obtain ⟨hza, hzo⟩ := zap_of l1 l2 l3 l4 hlI (.tail _ (.head _))
  refine ⟨z, TO, TI, i1, lI, P, n, c, _, W.listOf ws.toArray c, ws, _, fun i ys nw => ∃ tl, nw = tl ++ (L' + 1, oC') :: (P, W.listOf ws.toArray c) :: (kf, ⟨foc, fod, .func ffd, fsl⟩) :: news ∧ DatAll (tl ++ (L' + 1, oC') :: (P, W.listOf ws.toArray c) :: (kf, ⟨foc, fod, .func ffd, fsl⟩) :: news) ys ((List.range i).map (trip ks ds)), rfl, hza, F9, N9, hzo, ?hl, rfl, rfl, by omega, by omega, ⟨rfl, rfl⟩, ⟨[], rfl, .nil⟩, ?turnZ, ?finZ⟩
  case hl => rintro i ys nw ⟨tl, rfl, _⟩; exact List.mem_append_right _ (.tail _ (.head _))
  case turnZ =>
    rintro i ys nw a b oI hi ⟨tl, rfl, hA⟩ v t C oC D m₂ h tk E' hv hC hx1 hx2 F N off hCD
    clear lF' lN2 N9 F9
    have hdi : i < ds.length := by omega
    have hki : i < ks.length := by omega
    have hki2 : ks[i]? = some (ks.getD i .none) := by rw [List.getD_eq_getElem?_getD, List.getElem?_eq_getElem hki]; rfl
    obtain ⟨d, hd, hdin⟩ := DatAll.at hD hv
    ktr_unf
    refine hkey i v (ks.getD i .none) (by assumption) F (by assumption) (by assumption) (by assumption) rfl rfl (by ktr_room) (by ktr_units) ?sub hv hki2 ?_
    case sub =>
      intro p hp
      refine .tail _ (.tail _ (List.mem_append_right _ (List.mem_append_right _ (.tail _ (.tail _ hp)))))
    intro u tl2 h2 tk2 F2 N2 hfr2 hu2
    clear N F
    dsimp only
    ktr_unf
    (with_reducible rename Fr _ _ _ _ => lF')
    (with_reducible rename News _ _ _ _ => lN')
    (with_reducible rename ∀ p : Addr × Obj, p ∈ _ → p.1 < _ => hl9)
    refine zend lF' lN' hl9 hfr2 ⟨_, (List.append_assoc _ _ _).symm, ?_⟩
    rw [List.range_succ, List.map_append]
    refine DatAll.append (hA.mono (zp2 _ _ _ _)) (DatAll.one ?_)
    have hdd : ds.getD i .none = d := by rw [List.getD_eq_getElem?_getD, hd]; rfl
    unfold trip
    rw [hdd]
    refine .tuple (vs := [u, .int (i : Int) t, v]) (.head _) (.cons (hu2.mono (zp3 _ _ _ _)) (.cons (.int _ _) (.cons (hdin.mono fun p hp => ?_) .nil)))
    exact .tail _ (List.mem_append_right _ (.tail _ (.tail _ (.tail _ (hcold p hp)))))
  case finZ =>
    rintro D ys nw oJ h tk ⟨tl, rfl, hA⟩ hoJ F N off hDI
    change News _ _ _ ((D, W.listOf ys.toArray ys.length) :: (lI, oJ) :: _) at N
    have hyl : ys.length = n := by have := hA.length; simpa using this
    clear lF' lN2 N9 F9
    have off2 := fun (p : Addr × Obj) hp => off_cons (q := (lI, oJ)) (Ne.symm hDI) (fun p hp => (off p hp).1) p hp
    ktr_unf
    rotate_left
    · exfalso; omega
    (with_reducible rename Fr _ _ _ _ => lF')
    have hT0 : ∀ a ∈ (List.range n).map (trip ks ds), TripD ks ds a := fun a ha => by
      obtain ⟨j, hj, rfl⟩ := List.mem_map.mp ha
      rw [List.mem_range] at hj
      exact ⟨j, j, by omega, rfl⟩
    refine heapify_c (D := D) (ds := (List.range n).map (trip ks ds)) (k := kk + 2) (by assumption) lF' (by assumption) N off2 (fun p hp => .tail _ hp) hA (by simp; omega) (fun a ha => trip_ok hkl hS.ok hokd (hT0 a ha)) (fun a ha b hb => trip_cmp hkl hS.cmp hcmpd (hT0 a ha) (hT0 b hb)) (by omega) (by assumption) rfl rfl (by ktr_room) (by ktr_units) ?_
    intro ws1 c1 h1 tk1 F1 N1 hA1
    have hT1 : ∀ a ∈ heapifyF (fun p q => dlt (kk + 2) q p) ((List.range n).map (trip ks ds)), TripD ks ds a := fun a ha => hT0 a (heapSteps_mem _ _ _ a ha)
    have hl1 : (heapifyF (fun p q => dlt (kk + 2) q p) ((List.range n).map (trip ks ds))).length = n := by
      unfold heapifyF; rw [heapSteps_len]; simp
    generalize hH0 : heapifyF (fun p q => dlt (kk + 2) q p) ((List.range n).map (trip ks ds)) = H0 at *
    clear N F lF' hT0 hA
    dsimp only
    have hl2 := hA1.length
    ktr_unf
    (with_reducible rename DatIn _ _ _ => hD8)
    (with_reducible rename H0[_]? = some _ => hd8)
    rw [show Int.toNat 0 = 0 from rfl] at hd8
    obtain ⟨j8, o8, hj8, rfl⟩ := hT1 _ (List.mem_of_getElem? hd8)
    obtain ⟨a8, kv8, t8, dv8, n8, rfl, hm8, hk8, hdv8⟩ := in_trip hD8
    have hm9 := tq2 (a := (D, W.listOf ws1.toArray c1)) (b := (lI, oJ)) hm8
    ktr_unf
    (with_reducible rename Fr _ _ _ _ => lF')
    (with_reducible rename News _ _ _ _ => lN')
    refine For_invVF lF' rfl rfl ?_
    ktr_unf
    (with_reducible rename Fr _ _ _ _ => lF')
    have N2 := cb_drop lN' tq3
    clear lN'
    have htop0 : DatIn ([] ++ (tl ++ (L' + 1, oC') :: (P, W.listOf ws.toArray c) :: (kf, ⟨foc, fod, .func ffd, fsl⟩) :: news)) kv8 (fstD ((nsState (kk + 1) ks ds n 0).1.getD 0 .none)) := by
      have e : (nsState (kk + 1) ks ds n 0).1.getD 0 .none = .tuple [ks.getD j8 .none, .int o8, ds.getD j8 .none] := by
        unfold nsState; rw [List.range_zero, List.foldl_nil]
        show (heapifyF (fun p q => dlt (kk + 2) q p) ((List.range n).map (trip ks ds))).getD 0 .none = _
        rw [hH0, List.getD_eq_getElem?_getD, hd8]; rfl
      rw [e]; exact hk8
    have hA10 : DatAll ([] ++ (tl ++ (L' + 1, oC') :: (P, W.listOf ws.toArray c) :: (kf, ⟨foc, fod, .func ffd, fsl⟩) :: news)) ws1 (nsState (kk + 1) ks ds n 0).1 := by
      unfold nsState; rw [List.range_zero, List.foldl_nil]
      show DatAll _ ws1 (heapifyF (fun p q => dlt (kk + 2) q p) ((List.range n).map (trip ks ds)))
      rw [hH0]; exact hA1
    refine iter_rest (k := n) rfl (.tail _ (List.mem_append_right _ (.tail _ (.head _)))) rfl rfl hoJ (by omega) lF' N2 (off_cons hDI (fun p hp => (off p hp).2)) (fun S => loop_hot1 S (fun p hp => by rw [List.mem_singleton.mp hp]; exact List.mem_append_right _ (.tail _ (.head _))) (fun p hp => (off p hp).1) (fun lc i m' w tl2 => m' (Str.ofString "result") = some (.ref lc) ∧ (∃ v, m' (Str.ofString "top") = some v ∧ DatIn (tl2 ++ (tl ++ (L' + 1, oC') :: (P, W.listOf ws.toArray c) :: (kf, ⟨foc, fod, .func ffd, fsl⟩) :: news)) v (fstD ((nsState (kk + 1) ks ds n i).1.getD 0 .none))) ∧ (∃ t, m' (Str.ofString "order") = some (.int ((nsState (kk + 1) ks ds n i).2 : Nat) t)) ∧ m' (Str.ofString "_heapreplace") = some (.ref 176) ∧ DatAll (tl2 ++ (tl ++ (L' + 1, oC') :: (P, W.listOf ws.toArray c) :: (kf, ⟨foc, fod, .func ffd, fsl⟩) :: news)) w (nsState (kk + 1) ks ds n i).1) ⟨rfl, ⟨_, rfl, htop0⟩, ⟨_, rfl⟩, rfl, hA10⟩ ?turnQ ?doneQ)
    case turnQ =>
      rintro i v m₁ w n1 tl2 it h2 tk2 hi hv ⟨hm1, ⟨tv, hm2, htop⟩, ⟨t3, hm3⟩, hm4, hA2⟩ ho hI2 hoff F3 N3
      have F4 := know (know (know (know F3 (x := Str.ofString "result") hm1) (x := Str.ofString "top") hm2) (x := Str.ofString "order") hm3) (x := Str.ofString "_heapreplace") hm4
      have hinv := ns_inv (k := kk + 1) hkl hn2 i (by omega)
      have hst2 : nsState (kk + 1) ks ds n (i + 1) = nsStep (kk + 1) ks ds (nsState (kk + 1) ks ds n i) (n + i) := by
        unfold nsState; rw [List.range_succ, List.foldl_append]; rfl
      generalize nsState (kk + 1) ks ds n i = st at *
      obtain ⟨Hp, od⟩ := st
      dsimp only at hA2 htop hinv
      clear F3 lF' N2 S
      have hin : n + i < ds.length := by omega
      have hik : n + i < ks.length := by omega
      rw [Nat.add_comm i n] at hv
      have hki2 : ks[n + i]? = some (ks.getD (n + i) .none) := by rw [List.getD_eq_getElem?_getD, List.getElem?_eq_getElem hik]; rfl
      obtain ⟨d, hd, hdin⟩ := DatAll.at hD hv
      have hwl := hA2.length
      have hdd : ds.getD (n + i) .none = d := by rw [List.getD_eq_getElem?_getD, hd]; rfl
      have hkm := getD_mem (d := Dat.none) hik
      ktr_unf
      (with_reducible rename Fr _ _ _ _ => lF')
      (with_reducible rename News _ _ _ _ => lN')
      refine hkey (n + i) v (ks.getD (n + i) .none) (by assumption) lF' (by assumption) lN' (by assumption) rfl rfl (by ktr_room) (by ktr_units) ?sub hv hki2 ?_
      case sub =>
        intro p hp
        exact .tail _ (.tail _ (List.mem_append_right _ (List.mem_append_right _ (.tail _ (.tail _ hp)))))
      intro u tl3 h3 tk3 F5 N5 hfr3 hu3
      clear lN' lF'
      dsimp only
      obtain ⟨hiT, hil, hio⟩ := hinv
      obtain ⟨j0, o0, hj0, e0⟩ := hiT _ (getD_mem (d := Dat.none) (show 0 < Hp.length by omega))
      have hft : fstD (Hp.getD 0 .none) = ks.getD j0 .none := by rw [e0]; rfl
      rw [hft] at htop
      have hkm0 := getD_mem (d := Dat.none) (show j0 < ks.length by omega)
      ktr_unf
      (with_reducible rename Fr _ _ _ _ => lF')
      (with_reducible rename News _ _ _ _ => lN')
      refine hot_lt (k := kk + 1) lN' (tq4 _ _ _ _) (hu3.mono (fun p hp => List.mem_append_left _ hp)) (htop.mono (fun p hp => List.mem_append_right _ hp)) (hS.ok _ hkm) (hS.ok _ hkm0) (hS.cmp _ hkm _ hkm0) (by ktr_units) ?_
      by_cases hb : dlt (kk + 1) (ks.getD (n + i) .none) (ks.getD j0 .none) = true
      · rw [hb]
        have hstT : nsStep (kk + 1) ks ds (Hp, od) (n + i) = _ := if_pos (by rw [hft]; exact hb)
        dsimp only at hstT
        ktr_unf
        (with_reducible rename Fr _ _ _ _ => lF')
        (with_reducible rename News _ _ _ _ => lN')
        (with_reducible rename ∀ p : Addr × Obj, p ∈ _ → p.1 < _ => hl9)
        obtain ⟨lX, oX, eX, hX, N9⟩ := ns_cap lN'
        subst eX
        clear lN'
        have N10 := cb_drop N9 (tq5 _ _ _ _ _)
        have hTe : TripD ks ds (.tuple [ks.getD (n + i) .none, .int (od : Int), ds.getD (n + i) .none]) := ⟨n + i, od, hin, rfl⟩
        have hT2 : ∀ a ∈ Hp ++ [.tuple [ks.getD (n + i) .none, .int (od : Int), ds.getD (n + i) .none]], TripD ks ds a := fun a ha => by
          rcases List.mem_append.mp ha with ha | ha
          · exact hiT a ha
          · rw [List.mem_singleton.mp ha]; exact hTe
        refine heaprep_c (D := D) (ds := Hp) (d := .tuple [ks.getD (n + i) .none, .int (od : Int), ds.getD (n + i) .none]) (x := Hp.getD 0 .none) (k := kk + 2) (cold := (lX, oX) :: (tl3 ++ (tl2 ++ (tl ++ (L' + 1, oC') :: (P, W.listOf ws.toArray c) :: (kf, ⟨foc, fod, .func ffd, fsl⟩) :: news)))) (by assumption) lF' (by assumption) N10 ?hne (tq6 _ _ _ _) (hA2.mono (fun p hp => .tail _ (List.mem_append_right _ hp))) (by omega) (fun a ha => trip_ok hkl hS.ok hokd (hiT a ha)) (fun a ha b hb => trip_cmp hkl hS.cmp hcmpd (hiT a ha) (hiT b hb)) (by omega) (by assumption) rfl rfl (by ktr_room) (by ktr_units) (by rw [List.getD_eq_getElem?_getD, List.getElem?_eq_getElem (show 0 < Hp.length by omega)]; rfl)
          (hX _ _ _ (hu3.mono (fun p hp => List.mem_append_left _ hp)) (by rw [hdd]; exact hdin.mono fun p hp => List.mem_append_right _ (List.mem_append_right _ (List.mem_append_right _ (.tail _ (.tail _ (.tail _ (hcold p hp)))))))) (fun a ha => trip_ok hkl hS.ok hokd (hT2 a ha)) (fun a ha b hb => trip_cmp hkl hS.cmp hcmpd (hT2 a ha) (hT2 b hb)) ?_
        case hne =>
          intro p hp
          rcases List.mem_cons.mp hp with rfl | hp
          · exact Nat.ne_of_gt (hl9 _ (List.mem_append_right _ (.tail _ (.head _))))
          · rcases List.mem_cons.mp hp with rfl | hp
            · exact Ne.symm hI2
            · rcases List.mem_append.mp hp with hp | hp
              · exact Nat.ne_of_gt (hfr3 p hp _ (.tail _ (.head _)))
              · exact ho p hp
        intro u9 w5 n5 h5 tk5 F9 N11 hu9 hA5
        have hinv2 := ns_inv (k := kk + 1) hkl hn2 (i + 1) (by omega)
        rw [hst2, hstT] at hinv2
        dsimp only at hinv2
        generalize siftupF (fun p q => dlt (kk + 1 + 1) q p) (Hp.set 0 (.tuple [ks.getD (n + i) .none, .int (od : Int), ds.getD (n + i) .none])) 0 (.tuple [ks.getD (n + i) .none, .int (od : Int), ds.getD (n + i) .none]) = H5 at *
        obtain ⟨hiT5, hil5, hio5⟩ := hinv2
        clear lF' N10 N9
        dsimp only
        ktr_unf
        (with_reducible rename DatIn _ _ _ => hD9)
        (with_reducible rename H5[_]? = some _ => hd9)
        rw [show Int.toNat 0 = 0 from rfl] at hd9
        obtain ⟨j9, o9, hj9, e9⟩ := hiT5 _ (List.mem_of_getElem? hd9)
        rw [e9] at hD9 hd9
        obtain ⟨a9, kv9, t9, dv9, n9, rfl, hm10, hk10, hdv10⟩ := in_trip hD9
        have hft5 : fstD (H5.getD 0 .none) = ks.getD j9 .none := by rw [List.getD_eq_getElem?_getD, hd9]; rfl
        have N12 := tq8 N11 hm10
        clear N11
        ktr_unf
        (with_reducible rename Fr _ _ _ _ => lF')
        (with_reducible rename News _ _ _ _ => lN')
        show TurnEnd _ _ _ _ _ _ _
        have hsnd : (nsState (kk + 1) ks ds n (i + 1)).2 = od + 1 := by rw [hst2, hstT]
        refine Hot1.intro lF' lN' w5 n5 ((lX, oX) :: (tl3 ++ tl2)) (tq7 _ _ _ _ _ _ _) (off_cons hI2 ?o1) ?o2 ⟨rfl, ⟨_, rfl, ?dt⟩, ⟨_, by rw [hsnd]; rfl⟩, rfl, ?da⟩
        case o1 =>
          refine tq9 (Nat.ne_of_gt (hl9 _ (List.mem_append_right _ (.head _)))) (fun p hp => Nat.ne_of_gt (hfr3 p hp _ (.head _))) hoff
        case o2 =>
          refine tq9 (Nat.ne_of_gt (hl9 _ (List.mem_append_right _ (.tail _ (.head _))))) (fun p hp => Nat.ne_of_gt (hfr3 p hp _ (.tail _ (.head _)))) ho
        case dt =>
          rw [hst2, hstT]
          dsimp only
          rw [hft5]
          exact hk10.mono (tq10 _ _ _ _)
        case da =>
          rw [hst2, hstT]
          exact hA5.mono (tq10 _ _ _ _)
      · have hb' : dlt (kk + 1) (ks.getD (n + i) .none) (ks.getD j0 .none) = false := by simpa using hb
        rw [hb']
        have hstT : nsStep (kk + 1) ks ds (Hp, od) (n + i) = (Hp, od) := if_neg (by rw [hft]; exact hb)
        ktr_unf
        (with_reducible rename Fr _ _ _ _ => lF')
        (with_reducible rename News _ _ _ _ => lN')
        show TurnEnd _ _ _ _ _ _ _
        refine Hot1.intro lF' lN' w n1 (tl3 ++ tl2) (tq11 _ _ _ _ _) (off_cons hI2 ?o1) ?o2 ⟨rfl, ⟨_, rfl, ?dt⟩, ⟨_, by rw [hst2, hstT]; rfl⟩, rfl, ?da⟩
        case o1 => exact tq12 (fun p hp => Nat.ne_of_gt (hfr3 p hp _ (.head _))) hoff
        case o2 => exact tq12 (fun p hp => Nat.ne_of_gt (hfr3 p hp _ (.tail _ (.head _)))) ho
        case dt =>
          rw [hst2, hstT]
          dsimp only
          rw [hft]
          exact htop.mono (tq13 _ _ _)
        case da =>
          rw [hst2, hstT]
          exact hA2.mono (tq13 _ _ _)
    case doneQ =>
      rintro m₁ w n1 tl2 h2 tk2 ⟨hm1, ⟨tv, hm2, htop⟩, ⟨t3, hm3⟩, hm4, hA2⟩ ho F3 N3
      have F4 := know F3 (x := Str.ofString "result") hm1
      have hinv := ns_inv (k := kk + 1) hkl hn2 (ds.length - n) (by omega)
      rw [hdl] at hA2
      have hwl := hA2.length
      obtain ⟨hiT, hil, hio⟩ := hinv
      generalize (nsState (kk + 1) ks ds n (ds.length - n)).1 = HF at *
      clear F3 lF' N2
      ktr_unf
      (with_reducible rename Fr _ _ _ _ => lF')
      show wpAny _ _ (call (.builtin "list.sort") [.ref D]) _ _ _
      refine lsort_dat (k := kk + 1) lF' N3 ho hA2 (fun p hp => hp) hS3 (by omega) (by omega) (by ktr_units) ?_
      intro us es c5 h5 F5 N5 hA5 hS5
      have hul := hA5.length
      obtain ⟨pp, hpp, hpw, hpe⟩ := id hS5
      have hel : es.length = n := by rw [hpe, List.length_map, hpp.length_eq, List.length_range]; exact hil
      have hiT5 : ∀ a ∈ es, TripD ks ds a := fun a ha => by
        rw [hpe] at ha
        obtain ⟨i, hi, rfl⟩ := List.mem_map.mp ha
        have := hpp.mem_iff.mp hi
        rw [List.mem_range] at this
        exact hiT _ (getD_mem this)
      clear lF'
      dsimp only
      ktr_unf
      refine ⟨D, c5, _, us, _, fun i ys => DatAll (tl2 ++ (tl ++ (L' + 1, oC') :: (P, W.listOf ws.toArray c) :: (kf, ⟨foc, fod, .func ffd, fsl⟩) :: news)) ys ((es.take i).map thdD), rfl, F5, N5, .head _, rfl, rfl, by omega, .nil, ?hv, ?turnT, ?finT⟩
      case hv =>
        intro i v hv
        obtain ⟨d, hd, hdin⟩ := DatAll.at hA5 hv
        obtain ⟨j, o, hj, rfl⟩ := hiT5 _ (List.mem_of_getElem? hd)
        obtain ⟨a8, kv8, t8, dv8, n8, rfl, hm8, hk8, hdv8⟩ := in_trip hdin
        exact ⟨_, _, _, _, _, _, rfl, .tail _ hm8, rfl, rfl⟩
      case turnT =>
        intro g i ys t ot a b d nt hK hvs hmt hdt C oC D2 m₂ h7 tk7 E' hC hx1 hx2 hx3 F7 N7
        obtain ⟨e, he, hdin⟩ := DatAll.at hA5 hvs
        obtain ⟨j, o, hj, rfl⟩ := hiT5 _ (List.mem_of_getElem? he)
        obtain ⟨a8, kv8, t8, dv8, n8, hae, hm8, hk8, hdv8⟩ := in_trip hdin
        cases hae
        have hob := (N7 _ (.tail _ (.tail _ hmt))).1.symm.trans (N7 _ (.tail _ (.tail _ (.tail _ hm8)))).1
        cases Option.some.inj hob
        cases hdt
        ktr_unf
        try (refine ⟨_, rfl, ?_⟩)
        dsimp only
        rw [List.take_add_one, he, List.map_append]
        exact DatAll.append hK (DatAll.one hdv8)
      case finT =>
        intro D2 ys h7 tk7 hK F7 N7 hlt7
        rw [hul, List.take_length] at hK
        change News _ _ _ ((D2, W.listOf ys.toArray ys.length) :: _) at N7
        ktr_unf
        (with_reducible rename Fr _ _ _ _ => lF')
        (with_reducible rename News _ _ _ _ => lN')
        refine ret D2 (_ :: _ :: (tl2 ++ tl ++ [_])) es _ _ lF' (cb_drop lN' (tq14 _ _ _ _ _ _)) hS5 (.list (.head _) (hK.mono (tq15 _ _ _ _ _ _)))
end Mine
namespace Mine
theorem perm_unique {α : Type} {R : α → α → Prop} : ∀ {l k : List α}, l.Perm k → (∀ x ∈ l, ∀ y ∈ l, R x y → ¬ R y x) → l.Pairwise R → k.Pairwise R → l = k
  | [], k, h, _, _, _ => (List.nil_perm.mp h).symm
  | a :: l, [], h, _, _, _ => absurd h.length_eq (by simp)
  | a :: l, b :: k, h, hn, h1, h2 => by
    rw [List.pairwise_cons] at h1 h2
    have e : a = b := by
      have ha : a ∈ b :: k := h.mem_iff.mp (.head _)
      have hb : b ∈ a :: l := h.mem_iff.mpr (.head _)
      rcases List.mem_cons.mp ha with e | ha
      · exact e
      · rcases List.mem_cons.mp hb with e | hb
        · exact e.symm
        · exact absurd (h1.1 b hb) (hn b (.tail _ hb) a (.head _) (h2.1 a ha))
    subst e
    rw [perm_unique (List.perm_cons a |>.mp h) (fun x hx y hy => hn x (.tail _ hx) y (.tail _ hy)) h1.2 h2.2]
section
variable {n : Nat} {lt : Nat → Nat → Bool}
theorem SB.asym (W : SWO n lt) {a b : Nat} (ha : a < n) (hb : b < n) (h : SB lt a b) : ¬ SB lt b a := fun h' => by
  rcases h' with h' | h'
  · rw [h.not W ha hb] at h'; cases h'
  · rcases h with h | h
    · rw [h'.1] at h; cases h
    · exact Nat.lt_asymm h.2 h'.2
theorem SB.total {a b : Nat} (h : a ≠ b) : SB lt a b ∨ SB lt b a := by
  cases e : lt a b with
  | true => exact .inl (.inl e)
  | false =>
    cases e' : lt b a with
    | true => exact .inr (.inl e')
    | false =>
      rcases Nat.lt_or_gt_of_ne h with q | q
      · exact .inl (.inr ⟨e', q⟩)
      · exact .inr (.inr ⟨e, q⟩)
theorem sb_insert (W : SWO n lt) {a : Nat} (ha : a < n) : ∀ (q : List Nat), (∀ x ∈ q, x < n) → a ∉ q → q.Pairwise (SB lt) → ∃ q' : List Nat, q'.Perm (a :: q) ∧ q'.Pairwise (SB lt)
  | [], _, _, _ => ⟨[a], .refl _, by simp⟩
  | b :: q, h1, h2, h3 => by
    rw [List.pairwise_cons] at h3
    have hb := h1 b (.head _)
    rcases SB.total (lt := lt) (a := a) (b := b) (fun e => h2 (e ▸ .head _)) with h | h
    · refine ⟨a :: b :: q, .refl _, ?_⟩
      rw [List.pairwise_cons, List.pairwise_cons]
      refine ⟨fun x hx => ?_, h3⟩
      rcases List.mem_cons.mp hx with rfl | hx
      · exact h
      · exact h.trans W ha hb (h1 x (.tail _ hx)) (h3.1 x hx)
    · obtain ⟨q', hp, hq⟩ := sb_insert W ha q (fun x hx => h1 x (.tail _ hx)) (fun e => h2 (.tail _ e)) h3.2
      refine ⟨b :: q', ((hp.cons b).trans (List.Perm.swap a b q)), ?_⟩
      rw [List.pairwise_cons]
      refine ⟨fun x hx => ?_, hq⟩
      rcases List.mem_cons.mp (hp.mem_iff.mp hx) with rfl | hx
      · exact h
      · exact h3.1 x hx
theorem sb_sorted (W : SWO n lt) : ∀ (p : List Nat), (∀ x ∈ p, x < n) → p.Nodup → ∃ q : List Nat, q.Perm p ∧ q.Pairwise (SB lt)
  | [], _, _ => ⟨[], .refl _, .nil⟩
  | a :: p, h1, h2 => by
    rw [List.nodup_cons] at h2
    obtain ⟨q, hp, hq⟩ := sb_sorted W p (fun x hx => h1 x (.tail _ hx)) h2.2
    obtain ⟨q', hp', hq'⟩ := sb_insert W (h1 a (.head _)) q (fun x hx => h1 x (.tail _ (hp.mem_iff.mp hx))) (fun e => h2.1 (hp.mem_iff.mp e)) hq
    exact ⟨q', hp'.trans (hp.cons a), hq'⟩
theorem minF_SB (W : SWO n lt) : ∀ (j : Nat), j < n → ∀ i, i ≤ j → i ≠ minF lt j → SB lt (minF lt j) i
  | 0, _, i, hi, h => absurd (by rw [minF]; omega) h
  | j + 1, hj, i, hi, h => by
    have hm := minF_le lt j
    have ih := minF_SB W j (by omega)
    rw [minF] at h ⊢
    by_cases e : lt (j + 1) (minF lt j) = true
    · rw [if_pos e] at h ⊢
      have h1 : SB lt (j + 1) (minF lt j) := .inl e
      by_cases h2 : i = minF lt j
      · rw [h2]; exact h1
      · exact h1.trans W hj (by omega) (by omega) (ih i (by omega) h2)
    · rw [if_neg e] at h ⊢
      by_cases h2 : i = j + 1
      · subst h2
        cases e' : lt (minF lt j) (j + 1) with
        | true => exact .inl e'
        | false => exact .inr ⟨by simpa using e, by omega⟩
      · exact ih i (by omega) h
end
theorem sorted_idx {k : Nat} {ks : List Dat} {p p' : List Nat} (W : SWO ks.length (ltIx k ks)) (h1 : p.Perm (List.range ks.length)) (h2 : p.Pairwise (SB (ltIx k ks))) (h1' : p'.Perm (List.range ks.length)) (h2' : p'.Pairwise (SB (ltIx k ks))) : p = p' :=
  perm_unique (h1.trans h1'.symm) (fun x hx y hy => SB.asym W (List.mem_range.mp (h1.mem_iff.mp hx)) (List.mem_range.mp (h1.mem_iff.mp hy))) h2 h2'
theorem sorted_unique {k : Nat} {ks ds es es' : List Dat} (W : SWO ks.length (ltIx k ks)) (h1 : SortedBy k ks ds es) (h2 : SortedBy k ks ds es') : es = es' := by
  obtain ⟨p, a, b, rfl⟩ := h1
  obtain ⟨p', a', b', rfl⟩ := h2
  rw [sorted_idx W a b a' b']
theorem sorted_ex {k : Nat} {ks : List Dat} (ds : List Dat) (W : SWO ks.length (ltIx k ks)) : ∃ es, SortedBy k ks ds es := by
  obtain ⟨q, h1, h2⟩ := sb_sorted W (List.range ks.length) (fun x hx => List.mem_range.mp hx) List.nodup_range
  exact ⟨_, q, h1, h2, rfl⟩
theorem min_law {k : Nat} {ks ds es : List Dat} (W : SWO ks.length (ltIx k ks)) (hl : ks.length = ds.length) (h0 : 0 < ds.length) (h : SortedBy k ks ds es) : es.take 1 = [ds.getD (minF (ltIx k ks) (ds.length - 1)) .none] := by
  obtain ⟨p, h1, h2, rfl⟩ := h
  have hm := minF_le (ltIx k ks) (ds.length - 1)
  have hmp : minF (ltIx k ks) (ds.length - 1) ∈ p := h1.mem_iff.mpr (List.mem_range.mpr (by omega))
  cases p with
  | nil => exact nomatch hmp
  | cons a p =>
    rw [List.pairwise_cons] at h2
    have ha : a < ks.length := List.mem_range.mp (h1.mem_iff.mp (.head _))
    have e : a = minF (ltIx k ks) (ds.length - 1) := by
      rcases List.mem_cons.mp hmp with e | hmp
      · exact e.symm
      · by_cases q : a = minF (ltIx k ks) (ds.length - 1)
        · exact q
        · exact absurd (h2.1 _ hmp) (SB.asym W (by omega) ha (minF_SB W (ds.length - 1) (by omega) a (by omega) q))
    rw [← e]; rfl
end Mine
namespace Mine
theorem starts_cp (y : Str) : Txt.startswith y (Str.ofString "/") = decide ((cp y).head? = some 47) := by
  unfold Txt.startswith
  rw [StrLaws.subAt_eq]
  have e1 : (Str.ofString "/").length = 1 := by decide
  have e2 : (Str.ofString "/").cps.toList = [47] := by decide
  have e3 := cp_len y
  rw [e1, e2, ← e3]
  show (decide (0 + 1 ≤ (cp y).length) && (((cp y).drop 0).take 1 == [47])) = _
  cases h : cp y with
  | nil => simp
  | cons a r => by_cases ha : a = 47 <;> simp [ha]
theorem ends_cp (x : Str) : Txt.endswith x (Str.ofString "/") = decide ((cp x).getLast? = some 47) := by
  unfold Txt.endswith
  rw [StrLaws.subAt_eq]
  have e1 : (Str.ofString "/").length = 1 := by decide
  have e2 : (Str.ofString "/").cps.toList = [47] := by decide
  have e3 := cp_len x
  rw [e1, e2, ← e3]
  show (decide (0 + 1 ≤ (cp x).length) && (((cp x).drop ((cp x).length - 1)).take 1 == [47])) = _
  rcases List.eq_nil_or_concat (cp x) with h | ⟨l, a, h⟩
  · rw [h]; simp
  · rw [h, List.concat_eq_append]; by_cases ha : a = 47 <;> simp [ha]
theorem joinW_cp (x y : Str) (hy : (cp y).head? ≠ some 47) : cp (joinW x y) = if cp x = [] then cp y else if (cp x).getLast? = some 47 then cp x ++ cp y else cp x ++ 47 :: cp y := by
  unfold joinW
  rw [starts_cp, ends_cp]
  have e3 := cp_len x
  rw [if_neg (by simpa using hy)]
  by_cases h : cp x = []
  · rw [if_pos h, if_pos (by rw [← e3, h]; rfl)]
  · rw [if_neg h, if_neg (by rw [← e3]; simpa using h)]
    by_cases h2 : (cp x).getLast? = some 47
    · rw [if_pos h2, if_pos (by simpa using h2), cp_append]
    · rw [if_neg h2, if_neg (by simpa using h2), cp_append, cp_append, slash_cp]; rfl
theorem joinN_mem {s c : Nat} : ∀ {l : List (List Nat)}, c ∈ joinN s l → c = s ∨ ∃ a ∈ l, c ∈ a
  | [], h => nomatch h
  | [a], h => .inr ⟨a, .head _, h⟩
  | a :: b :: r, h => by
    simp only [joinN, List.mem_append, List.mem_cons] at h
    rcases h with h | h | h
    · exact .inr ⟨a, .head _, h⟩
    · exact .inl h
    · rcases joinN_mem h with h | ⟨x, hx, h⟩
      · exact .inl h
      · exact .inr ⟨x, .tail _ hx, h⟩
theorem mem_joinN {s c : Nat} : ∀ {l : List (List Nat)} {a : List Nat}, a ∈ l → c ∈ a → c ∈ joinN s l
  | [a], _, h, hc => by rw [List.mem_singleton] at h; subst h; exact hc
  | a :: b :: r, x, h, hc => by
    simp only [joinN, List.mem_append, List.mem_cons]
    rcases List.mem_cons.mp h with rfl | h
    · exact .inl hc
    · exact .inr (.inr (mem_joinN h hc))
theorem join_split' (x : Str) : Txt.join (Str.ofString "/") (Txt.split x (Str.ofString "/")) = x := by
  have h1 := StrLaws.join_split x (Str.ofString "/")
  have e : ∀ k, Txt.join (Str.ofString "/") k = Str.join (Str.ofString "/") k := fun k => by
    show PySem.Builtin.Str.glued _ _ = _
    rw [StrLaws.glued_eq_join]
  rw [e, h1]
theorem split_mem {x q : Str} (h : q ∈ Txt.split x (Str.ofString "/")) : ∀ c ∈ cp q, c ∈ cp x := fun c hc => by
  have h1 := congrArg cp (join_split' x)
  rw [join_cp] at h1
  rw [← h1]
  exact mem_joinN (List.mem_map.mpr ⟨q, h, rfl⟩) hc
theorem pieces_sub : ∀ (l acc : List Str), ∀ a ∈ l.foldl pieceW acc, a ∈ acc ∨ a ∈ l
  | [], acc, a, h => .inl h
  | c :: l, acc, a, h => by
    rw [List.foldl_cons] at h
    rcases pieces_sub l _ a h with h | h
    · unfold pieceW at h
      split at h
      · exact .inl h
      · split at h
        · exact .inl h
        · split at h
          · exact .inl (List.dropLast_subset _ h)
          · rcases List.mem_append.mp h with h | h
            · exact .inl h
            · rw [List.mem_singleton.mp h]; exact .inr (.head _)
    · exact .inr (.tail _ h)
theorem norm_cp (x : Str) : cp (normW x) = 47 :: joinN 47 ((piecesW (Txt.split (Txt.slice x (some 1) none) (Str.ofString "/"))).map cp) := by
  unfold normW
  rw [cp_append, slash_cp, join_cp]; rfl
theorem norm_ok {x : Str} (h1 : 1 ≤ x.length) (h : PyData.strOk x = true) : PyData.strOk (normW x) = true := by
  rw [strOk_iff] at h ⊢
  rw [norm_cp]
  intro c hc
  rcases List.mem_cons.mp hc with rfl | hc
  · decide
  · rcases joinN_mem hc with rfl | ⟨a, ha, hc⟩
    · decide
    · obtain ⟨q, hq, rfl⟩ := List.mem_map.mp ha
      rcases pieces_sub _ _ q hq with hq | hq
      · exact nomatch hq
      · have := split_mem hq c hc
        rw [show (1 : Int) = ((1 : Nat) : Int) from rfl, cp_slice_from h1] at this
        exact h c (List.mem_of_mem_drop this)
def GR (x : Str) : Prop := PyData.strOk x = true ∧ (cp x).head? ≠ some 47
theorem gr_join {x y : Str} (hx : GR x) (hy : GR y) : GR (joinW x y) := by
  unfold GR at *
  rw [strOk_iff] at *
  rw [joinW_cp x y hy.2]
  split
  · exact hy
  · rename_i hn
    have hh : ∀ r, (cp x ++ r).head? = (cp x).head? := fun r => by
      cases h : cp x with
      | nil => exact absurd h hn
      | cons a b => rfl
    split
    · exact ⟨fun c hc => (List.mem_append.mp hc).elim (hx.1 c) (hy.1 c), by rw [hh]; exact hx.2⟩
    · refine ⟨fun c hc => (List.mem_append.mp hc).elim (hx.1 c) fun h => ?_, by rw [hh]; exact hx.2⟩
      rcases List.mem_cons.mp h with rfl | h
      · decide
      · exact hy.1 c h
theorem gr_start {start t : Str} {r : List Nat} (h : cp start = 47 :: 46 :: r) (hok : PyData.strOk start = true) (ht : GR t) :
    ((joinW start t).length : Int) ≠ 0 ∧ (Txt.slice (joinW start t) none (some 1) != Str.ofString "/") = false ∧ (Txt.slice (joinW start t) (some 1) (some 2) != Str.ofString "/") = true ∧ PyData.strOk (normW (joinW start t)) = true := by
  have e : ∃ r', cp (joinW start t) = 47 :: 46 :: r' := by
    rw [joinW_cp _ _ ht.2, h]
    split
    · rename_i h; cases h
    · split
      · exact ⟨_, rfl⟩
      · exact ⟨_, rfl⟩
  have ok2 : PyData.strOk (joinW start t) = true := by
    rw [strOk_iff] at *
    rw [joinW_cp _ _ ht.2]
    have h1 := (strOk_iff t).mp ht.1
    split
    · exact h1
    · split
      · exact fun c hc => (List.mem_append.mp hc).elim (hok c) (h1 c)
      · refine fun c hc => (List.mem_append.mp hc).elim (hok c) fun h => ?_
        rcases List.mem_cons.mp h with rfl | h
        · decide
        · exact h1 c h
  obtain ⟨r', e⟩ := e
  have hr := root_facts e (by decide)
  refine ⟨hr.1, hr.2.1, hr.2.2.1, norm_ok ?_ ok2⟩
  rw [← cp_len, e]; simp
end Mine
namespace Mine
def pathW (l : List Str) : Str := Str.ofString "/" ++ Txt.join (Str.ofString "/") l
theorem path_cp (l : List Str) : cp (pathW l) = 47 :: joinN 47 (l.map cp) := by
  unfold pathW
  rw [cp_append, slash_cp, join_cp]; rfl
theorem at_slash (x : Str) (i : Nat) : StrLaws.At x (Str.ofString "/") x.length i ↔ (cp x)[i]? = some 47 := by
  unfold StrLaws.At
  rw [StrLaws.subAt_eq]
  have e1 : (Str.ofString "/").length = 1 := by decide
  have e2 : (Str.ofString "/").cps.toList = [47] := by decide
  have e3 := cp_len x
  rw [e1, e2, ← e3]
  show (i + 1 ≤ (cp x).length ∧ (((cp x).drop i).take 1 == [47]) = true) ↔ _
  rw [← List.head?_drop]
  cases h : (cp x).drop i with
  | nil => simp
  | cons a r =>
    have h2 : i < (cp x).length := by
      have := congrArg List.length h
      rw [List.length_drop, List.length_cons] at this
      omega
    constructor
    · rintro ⟨_, q⟩
      simpa using q
    · intro q
      refine ⟨h2, by simpa using q⟩
theorem rfind_at {x : Str} {u v : List Nat} (h : cp x = u ++ 47 :: v) (hv : 47 ∉ v) : Txt.rfind x (Str.ofString "/") = (u.length : Int) := by
  unfold Txt.rfind
  have h0 : (cp x)[u.length]? = some 47 := by rw [h]; simp
  rcases StrLaws.last_spec x (Str.ofString "/") with ⟨e, hn⟩ | ⟨i, e, hi, hk⟩
  · exact absurd ((at_slash x _).mpr h0) (hn _)
  · rw [e]
    show (i : Int) = _
    have h1 := (at_slash x i).mp hi
    have h2 : ¬ i < u.length := fun q => hk _ q ((at_slash x _).mpr h0)
    by_cases h3 : u.length < i
    · rw [h, List.getElem?_append_right (by omega)] at h1
      obtain ⟨j, rfl⟩ : ∃ j, i = u.length + (j + 1) := ⟨i - u.length - 1, by omega⟩
      rw [Nat.add_sub_cancel_left, List.getElem?_cons_succ] at h1
      exact absurd (List.mem_of_getElem? h1) hv
    · omega
theorem base_cp {x : Str} {u v : List Nat} (h : cp x = u ++ 47 :: v) (hv : 47 ∉ v) : cp (basenameW x) = v := by
  unfold basenameW
  rw [rfind_at h hv]
  have hl : x.length = u.length + (v.length + 1) := by rw [← cp_len, h]; simp
  rw [show ((u.length : Int) + 1) = ((u.length + 1 : Nat) : Int) by omega, cp_slice_from (by omega), h]
  simp
theorem head_cp {x : Str} {u v : List Nat} (h : cp x = u ++ 47 :: v) (hv : 47 ∉ v) : cp (headW x) = u ++ [47] := by
  unfold headW
  rw [rfind_at h hv]
  have hl : x.length = u.length + (v.length + 1) := by rw [← cp_len, h]; simp
  rw [show ((u.length : Int) + 1) = ((u.length + 1 : Nat) : Int) by omega, cp_slice_to (by omega), h, show u ++ 47 :: v = (u ++ [47]) ++ v by simp]
  exact List.take_left' (by simp)
theorem mul_slash (n : Nat) : ∀ c ∈ cp (Txt.mul (Str.ofString "/") (n : Int)), c = 47 := by
  intro c hc
  unfold Txt.mul at hc
  split at hc
  · simp [Str.empty, cp] at hc
  · split at hc
    · rw [slash_cp] at hc; simpa using hc
    · have : ∀ (l : List (Array Nat)) (a : Array Nat), (∀ y ∈ l, ∀ c ∈ y.toList, c = 47) → (∀ c ∈ a.toList, c = 47) → ∀ c ∈ (l.foldl (· ++ ·) a).toList, c = 47 := by
        intro l
        induction l with
        | nil => exact fun a _ h => h
        | cons y l ih =>
          intro a h1 h2
          rw [List.foldl_cons]
          refine ih _ (fun z hz => h1 z (.tail _ hz)) fun c hc => ?_
          rw [Array.toList_append] at hc
          exact (List.mem_append.mp hc).elim (h2 c) (h1 y (.head _) c)
      refine this _ #[] (fun y hy c hc => ?_) (fun c h => nomatch h) c hc
      rw [(List.mem_replicate.mp hy).2] at hc
      have := slash_cp
      unfold cp at this
      rw [this] at hc
      simpa using hc
theorem rstrip_slash {x : Str} {u : List Nat} (h : cp x = u ++ [47]) (hu : u.getLast? ≠ some 47) : cp (Txt.rstripChars x (Str.ofString "/")) = u := by
  unfold Txt.rstripChars
  rw [PyProof.Rows.stripBy_eq]
  show ((PySem.Builtin.Str.strSub x 0 (stripHi _ true x 0)).cps).toList = u
  rw [StrLaws.strSub_toList]
  have e2 : (Str.ofString "/").cps = #[47] := by decide
  unfold stripHi
  have e3 : x.cps.toList = u ++ [47] := h
  have hl : x.length = u.length + 1 := by rw [← cp_len, h]; simp
  rw [if_pos rfl, e2, e3, List.drop_zero, List.reverse_append, hl]
  have e4 : ([47].reverse ++ u.reverse).takeWhile ((#[47] : Array Nat).contains ·) = [47] := by
    rcases List.eq_nil_or_concat u with h | ⟨l, a, h⟩
    · rw [h]; simp
    · subst h
      rw [List.concat_eq_append] at hu ⊢
      have ha : a ≠ 47 := by simpa using hu
      simp [List.takeWhile_cons, ha]
  rw [show (fun c => (#[47] : Array Nat).contains c) = ((#[47] : Array Nat).contains ·) from rfl] at *
  rw [e4]
  simp
theorem dir_cp {x : Str} {u v : List Nat} (h : cp x = u ++ 47 :: v) (hv : 47 ∉ v) (hu : u.getLast? ≠ some 47) : cp (dirnameW x) = if u = [] then [47] else u := by
  have hh := head_cp h hv
  unfold dirnameW
  have hl : (headW x).length = u.length + 1 := by rw [← cp_len, hh]; simp
  rw [if_neg (by omega)]
  by_cases he : u = []
  · subst he
    rw [if_pos rfl]
    have e : headW x = Str.ofString "/" := str_ext (by rw [hh, slash_cp]; rfl)
    rw [e]
    have e1 : (if (Str.ofString "/" != Txt.mul (Str.ofString "/") ((Str.ofString "/").length : Int)) = true then Txt.rstripChars (Str.ofString "/") (Str.ofString "/") else Str.ofString "/") = Str.ofString "/" := by decide
    rw [e1]
    exact slash_cp
  · rw [if_neg he]
    have ne : headW x ≠ Txt.mul (Str.ofString "/") ((headW x).length : Int) := fun e => by
      have h1 := mul_slash (headW x).length
      rw [← e, hh] at h1
      rcases List.eq_nil_or_concat u with h | ⟨l, a, h⟩
      · exact he h
      · subst h
        rw [List.concat_eq_append] at *
        have ha : a ≠ 47 := by simpa using hu
        exact ha (h1 a (by simp))
    rw [if_pos (by simpa using ne)]
    exact rstrip_slash hh hu
theorem joinN_snoc {s : Nat} : ∀ {l : List (List Nat)} {a : List Nat}, l ≠ [] → joinN s (l ++ [a]) = joinN s l ++ s :: a
  | [], _, h => absurd rfl h
  | [b], a, _ => rfl
  | b :: c :: r, a, _ => by
    have := joinN_snoc (s := s) (l := c :: r) (a := a) (by simp)
    show b ++ s :: joinN s ((c :: r) ++ [a]) = (b ++ s :: joinN s (c :: r)) ++ s :: a
    rw [this]; simp
theorem path_snoc (l : List Str) (a : Str) : cp (pathW (l ++ [a])) = (if l = [] then [] else cp (pathW l)) ++ 47 :: cp a := by
  rw [path_cp, path_cp, List.map_append]
  cases l with
  | nil => rfl
  | cons b r =>
    rw [if_neg (by simp), show [a].map cp = [cp a] from rfl, joinN_snoc (by simp)]; simp
theorem base_path (l : List Str) {a : Str} (ha : SF a) : basenameW (pathW (l ++ [a])) = a := str_ext (base_cp (path_snoc l a) ha)
theorem base_root : basenameW (pathW []) = Str.ofString "" := by
  have e : pathW [] = Str.ofString "/" := by decide
  have e2 : cp (Str.ofString "") = [] := by decide
  exact str_ext (by rw [e, e2]; exact base_cp (u := []) (v := []) slash_cp (by simp))
theorem joinN_last {s : Nat} : ∀ {l : List (List Nat)}, (∀ a ∈ l, a ≠ [] ∧ s ∉ a) → (joinN s l).getLast? ≠ some s
  | [], _ => by simp [joinN]
  | [a], h => fun e => (h a (.head _)).2 (List.mem_of_getLast? e)
  | a :: b :: r, h => by
    have ih := joinN_last (l := b :: r) fun x hx => h x (.tail _ hx)
    have ne : joinN s (b :: r) ≠ [] := by
      cases r with
      | nil => exact (h b (.tail _ (.head _))).1
      | cons c r => simp [joinN]
    show (a ++ s :: joinN s (b :: r)).getLast? ≠ some s
    rw [List.getLast?_append, List.getLast?_cons]
    cases hj : (joinN s (b :: r)).getLast? with
    | none => exact absurd (List.getLast?_eq_none_iff.mp hj) ne
    | some y => rw [hj] at ih; simpa using ih
theorem path_last {l : List Str} (hne : l ≠ []) (h : ∀ a ∈ l, a ≠ Str.ofString "" ∧ SF a) : (cp (pathW l)).getLast? ≠ some 47 := by
  rw [path_cp, List.getLast?_cons]
  have h1 := joinN_last (s := 47) (l := l.map cp) fun x hx => by
    obtain ⟨a, ha, rfl⟩ := List.mem_map.mp hx
    refine ⟨fun e => (h a ha).1 (str_ext ?_), (h a ha).2⟩
    rw [e]; decide
  have ne : joinN 47 (l.map cp) ≠ [] := by
    cases l with
    | nil => exact absurd rfl hne
    | cons a r => cases r with
      | nil =>
        intro e
        refine (h a (.head _)).1 (str_ext ?_)
        rw [show cp a = [] from e]; decide
      | cons b r => simp [joinN]
  cases hj : (joinN 47 (l.map cp)).getLast? with
  | none => exact absurd (List.getLast?_eq_none_iff.mp hj) ne
  | some y => rw [hj] at h1; simpa using h1
theorem dir_path {l : List Str} {a : Str} (ha : SF a) (h : ∀ b ∈ l, b ≠ Str.ofString "" ∧ SF b) : dirnameW (pathW (l ++ [a])) = pathW l := by
  apply str_ext
  rw [dir_cp (path_snoc l a) ha]
  · by_cases hl : l = []
    · subst hl
      rw [if_pos rfl, path_cp]; rfl
    · rw [if_neg hl, if_neg]
      rw [path_cp]; simp
  · by_cases hl : l = []
    · rw [if_pos hl]; simp
    · rw [if_neg hl]; exact path_last hl h
theorem dir_root : dirnameW (pathW []) = pathW [] := by
  have e : pathW [] = Str.ofString "/" := by decide
  apply str_ext
  rw [e, dir_cp (u := []) (v := []) slash_cp (by simp) (by simp), slash_cp]; rfl
end Mine
namespace Mine
section
variable {prog : Program} {w : World} {A : Around} {E : Value → Shared → Prop} {s : Shared} {h₀ : Heap} {L : Addr} {news n₁ n₂ : List (Addr × Obj)} {v u : Value} {d e : Dat} {Q : Value → Shared → Prop}
theorem ne_datV (N : News h₀ L s.heap news) (Da : DatIn n₁ v d) (sa : ∀ p ∈ n₁, p ∈ news) (Db : DatIn n₂ u e) (sb : ∀ p ∈ n₂, p ∈ news) (ha : kqdOk 8 d = true) (hb : kqdOk 8 e = true) (hu : A.units + 64 < cLine)
    (he : d = e) (h : Q (.bool false) s) : wpAny (model prog w) A (compareOp .NotEq v u) Q E s := by
  obtain ⟨as, ra⟩ := kqd_in N 8 (Da.mono sa) ha
  obtain ⟨bs, rb⟩ := kqd_in N 8 (Db.mono sb) hb
  have la := kqd_lay 8 d ha
  have lb := kqd_lay 8 e hb
  have q : PyData.eqv (kqdP d) (kqdP e) = true := (kqd_eqv 8 d e 8 ha hb).mpr he
  refine ne_dataH ra rb ?_ ?_ hu (by rw [q]; exact h)
  · unfold SeqAt.shaped; rw [la.1, Bool.true_and]; exact decide_eq_true (Nat.le_trans la.2 (by decide))
  · unfold SeqAt.shaped; rw [lb.1, Bool.true_and]; exact decide_eq_true (Nat.le_trans lb.2 (by decide))
theorem eq_datV (N : News h₀ L s.heap news) (Da : DatIn n₁ v d) (sa : ∀ p ∈ n₁, p ∈ news) (Db : DatIn n₂ u e) (sb : ∀ p ∈ n₂, p ∈ news) (ha : kqdOk 8 d = true) (hb : kqdOk 8 e = true) (hu : A.units + 64 < cLine)
    (he : d = e) (h : Q (.bool true) s) : wpAny (model prog w) A (compareOp .Eq v u) Q E s := by
  obtain ⟨as, ra⟩ := kqd_in N 8 (Da.mono sa) ha
  obtain ⟨bs, rb⟩ := kqd_in N 8 (Db.mono sb) hb
  have la := kqd_lay 8 d ha
  have lb := kqd_lay 8 e hb
  have q : PyData.eqv (kqdP d) (kqdP e) = true := (kqd_eqv 8 d e 8 ha hb).mpr he
  refine eq_dataH ra rb ?_ ?_ hu (by rw [q]; exact h)
  · unfold SeqAt.shaped; rw [la.1, Bool.true_and]; exact decide_eq_true (Nat.le_trans la.2 (by decide))
  · unfold SeqAt.shaped; rw [lb.1, Bool.true_and]; exact decide_eq_true (Nat.le_trans lb.2 (by decide))
end
theorem path_ok {l : List Str} (h : ∀ a ∈ l, Nm a) : PyData.strOk (pathW l) = true := by
  rw [strOk_iff, path_cp]
  intro c hc
  rcases List.mem_cons.mp hc with rfl | hc
  · decide
  · rcases joinN_mem hc with rfl | ⟨a, ha, hc⟩
    · decide
    · obtain ⟨q, hq, rfl⟩ := List.mem_map.mp ha
      exact (strOk_iff q).mp (h q hq).ok c hc
theorem path_len {l : List Str} (h : ∀ a ∈ l, Nm a) (h3 : l.length ≤ 3) : (pathW l).length ≤ 13 := by
  have h1 : wt l ≤ l.length * 4 := wt_le' fun y hy => (h y hy).len
  have h2 : (Txt.join (Str.ofString "/") l).length ≤ wt l := join_le (by decide) _
  have h3 : (Str.ofString "/").length = 1 := by decide
  unfold pathW
  rw [Str.length_append]; omega
theorem nm_gr {a : Str} (h : Nm a) : GR a := by
  refine ⟨h.ok, fun e => h.sf ?_⟩
  cases hc : cp a with
  | nil => rw [hc] at e; cases e
  | cons x r => rw [hc] at e; rw [Option.some.inj e]; exact .head _
theorem gr_empty : GR (Str.ofString "") := by
  have e : cp (Str.ofString "") = [] := by decide
  refine ⟨by decide +kernel, by rw [e]; simp⟩
theorem gr_dd : GR (Str.ofString "..") := by
  have e : cp (Str.ofString "..") = [46, 46] := by decide
  refine ⟨by decide +kernel, by rw [e]; simp⟩
theorem base_gr {l : List Str} (h : ∀ a ∈ l, Nm a) : GR (basenameW (pathW l)) := by
  rcases List.eq_nil_or_concat l with h2 | ⟨r, a, h2⟩
  · rw [h2, base_root]; exact gr_empty
  · rw [List.concat_eq_append] at h2
    subst h2
    have ha := h a (by simp)
    rw [base_path r ha.sf]; exact nm_gr ha
theorem text_ok (n : Int) : PyData.strOk (textW n) = true := by
  rw [strOk_iff, text_glue, join_cp]
  intro c hc
  rcases joinN_mem hc with rfl | ⟨a, ha, hc⟩
  · decide
  · obtain ⟨q, hq, rfl⟩ := List.mem_map.mp ha
    rcases List.mem_cons.mp hq with rfl | hq
    · exact nomatch hc
    · rcases List.mem_cons.mp hq with rfl | hq
      · have e : cp (Str.ofString ".") = [46] := by decide
        rw [e] at hc
        rw [List.mem_singleton.mp hc]; decide
      · obtain ⟨p, _, rfl⟩ := List.mem_map.mp hq
        exact (strOk_iff _).mp (pool_facts (pick_mem n p)).2.1 c hc
theorem way_ok {home l : List Str} (h : ∀ a ∈ l, Nm a) : PyData.strOk (wayW home l) = true := by
  unfold wayW
  rw [strOk_iff, join_cp]
  intro c hc
  rcases joinN_mem hc with rfl | ⟨a, ha, hc⟩
  · decide
  · obtain ⟨q, hq, rfl⟩ := List.mem_map.mp ha
    rcases List.mem_append.mp hq with hq | hq
    · rw [(List.mem_replicate.mp hq).2] at hc
      exact (strOk_iff _).mp gr_dd.1 c hc
    · exact (strOk_iff q).mp (h q (List.mem_of_mem_drop hq)).ok c hc
theorem places_facts {tr : List (List Str)} (h : ∀ l ∈ tr, (∀ a ∈ l, Nm a) ∧ l.length ≤ 3) : ∀ q ∈ tr.map pathW, GR (basenameW q) ∧ q.length ≤ 100 ∧ PyData.strOk q = true := fun q hq => by
  obtain ⟨l, hl, rfl⟩ := List.mem_map.mp hq
  have h1 := h l hl
  exact ⟨base_gr h1.1, Nat.le_trans (path_len h1.1 h1.2) (by decide), path_ok h1.1⟩
theorem start_gr (n : Int) (t : Str) (ht : GR t) : ((joinW (textW n) t).length : Int) ≠ 0 ∧ (Txt.slice (joinW (textW n) t) none (some 1) != Str.ofString "/") = false ∧ (Txt.slice (joinW (textW n) t) (some 1) (some 2) != Str.ofString "/") = true ∧ PyData.strOk (normW (joinW (textW n) t)) = true := by
  obtain ⟨r, h⟩ := text_cp n
  exact gr_start h (text_ok n) ht
end Mine
namespace Mine
theorem dat_apart2 {h₀ h : Heap} {L : Addr} {led tl : List (Addr × Obj)} {t : Addr × Obj} (N : News h₀ L h led) (hb : t ∈ led) (ht : ∀ p ∈ tl, p ∈ led) (hbd : ∀ xs n, t.2.data ≠ .seq xs n) :
    ∃ tl', (∀ p ∈ tl', p ∈ tl) ∧ (∀ p ∈ tl', p.1 ≠ t.1) ∧ (∀ vs ds, DatAll tl vs ds → DatAll tl' vs ds) ∧ (∀ v d, DatIn tl v d → DatIn tl' v d) := by
  have key : ∀ p ∈ tl, (∃ xs n, p.2.data = .seq xs n) → p ∈ tl.filter (fun p => decide (p.1 ≠ t.1)) := fun p hp hs => by
    refine List.mem_filter.mpr ⟨hp, decide_eq_true fun e => ?_⟩
    obtain ⟨xs, n, hx⟩ := hs
    have h1 := (N _ (ht _ hp)).1
    have h2 := (N _ hb).1
    rw [e, h2] at h1
    have := Option.some.inj h1
    exact hbd xs n (by rw [this]; exact hx)
  exact ⟨tl.filter (fun p => decide (p.1 ≠ t.1)), fun p hp => (List.mem_filter.mp hp).1, fun p hp => by simpa using (List.mem_filter.mp hp).2, fun vs ds hD => datAll_keep key hD, fun v d hD => datIn_keep key hD⟩
theorem seq_ne {h₀ h : Heap} {L : Addr} {led : List (Addr × Obj)} {t p : Addr × Obj} (N : News h₀ L h led) (ht : t ∈ led) (hp : p ∈ led) (hbd : ∀ xs n, t.2.data ≠ .seq xs n) {xs : Array Value} {n : Nat} (hx : p.2.data = .seq xs n) : p.1 ≠ t.1 := fun e => by
  have h1 := (N _ hp).1
  have h2 := (N _ ht).1
  rw [e, h2] at h1
  have := Option.some.inj h1
  exact hbd xs n (by rw [this]; exact hx)
theorem law_norm1 {h₀ h : Heap} {L lQ lP lS lT : Addr} {vQ vP vS vT : List Value} {nQ nP nS nT : Nat} {c3 c2 c1 R X H t : Addr × Obj} {tq t3 t2 : List (Addr × Obj)} {dsQ dsS dsT : List Dat}
    (N : News h₀ L h ([] ++ (lQ, W.listOf vQ.toArray nQ) :: (tq ++ (lP, W.listOf vP.toArray nP) :: (lS, W.listOf vS.toArray nS) :: c3 :: c2 :: c1 :: R :: (lT, W.listOf vT.toArray nT) :: X :: H :: (t3 ++ (t2 ++ [t])))))
    (hbd : ∀ xs n, t.2.data ≠ .seq xs n) (n3 : t.1 ≠ c3.1) (n2 : t.1 ≠ c2.1) (n1 : t.1 ≠ c1.1) (aQ : DatAll tq vQ dsQ) (aS : DatAll t3 vS dsS) (aT : DatAll t2 vT dsT) :
    ∃ (lP' : Addr) (tl : List (Addr × Obj)), lP' = lP ∧ News h₀ L h (t :: (lQ, W.listOf vQ.toArray nQ) :: (lP', W.listOf vP.toArray nP) :: (lS, W.listOf vS.toArray nS) :: (lT, W.listOf vT.toArray nT) :: c3 :: c2 :: c1 :: tl) ∧
      (∀ p ∈ (lQ, W.listOf vQ.toArray nQ) :: (lP', W.listOf vP.toArray nP) :: (lS, W.listOf vS.toArray nS) :: (lT, W.listOf vT.toArray nT) :: c3 :: c2 :: c1 :: tl, p.1 ≠ t.1) ∧ DatAll tl vQ dsQ ∧ DatAll tl vS dsS ∧ DatAll tl vT dsT := by
  have mt : t ∈ ([] ++ (lQ, W.listOf vQ.toArray nQ) :: (tq ++ (lP, W.listOf vP.toArray nP) :: (lS, W.listOf vS.toArray nS) :: c3 :: c2 :: c1 :: R :: (lT, W.listOf vT.toArray nT) :: X :: H :: (t3 ++ (t2 ++ [t])))) := by simp
  obtain ⟨tl, h1, h2, h3, h4⟩ := dat_apart2 (tl := tq ++ (t3 ++ t2)) N mt (fun p hp => by
    simp only [List.mem_append] at hp
    rcases hp with hp | hp | hp <;> simp [hp]) hbd
  have sub : ∀ p ∈ (lQ, W.listOf vQ.toArray nQ) :: (lP, W.listOf vP.toArray nP) :: (lS, W.listOf vS.toArray nS) :: (lT, W.listOf vT.toArray nT) :: c3 :: c2 :: c1 :: tl, p ∈ ([] ++ (lQ, W.listOf vQ.toArray nQ) :: (tq ++ (lP, W.listOf vP.toArray nP) :: (lS, W.listOf vS.toArray nS) :: c3 :: c2 :: c1 :: R :: (lT, W.listOf vT.toArray nT) :: X :: H :: (t3 ++ (t2 ++ [t])))) := fun p hp => by
    simp only [List.mem_cons] at hp
    rcases hp with hp | hp | hp | hp | hp | hp | hp | hp
    · simp [hp]
    · simp [hp]
    · simp [hp]
    · simp [hp]
    · simp [hp]
    · simp [hp]
    · simp [hp]
    · have := h1 p hp
      simp only [List.mem_append] at this
      rcases this with hp | hp | hp <;> simp [hp]
  refine ⟨lP, tl, rfl, fun p hp => ?_, fun p hp => ?_, h3 _ _ (aQ.mono fun p hp => List.mem_append_left _ hp), h3 _ _ (aS.mono fun p hp => List.mem_append_right _ (List.mem_append_left _ hp)), h3 _ _ (aT.mono fun p hp => List.mem_append_right _ (List.mem_append_right _ hp))⟩
  · rcases List.mem_cons.mp hp with rfl | hp
    · exact N _ mt
    · exact N _ (sub p hp)
  · have hs := sub p hp
    simp only [List.mem_cons] at hp
    rcases hp with rfl | rfl | rfl | rfl | rfl | rfl | rfl | hp
    · exact seq_ne N mt hs hbd rfl
    · exact seq_ne N mt hs hbd rfl
    · exact seq_ne N mt hs hbd rfl
    · exact seq_ne N mt hs hbd rfl
    · exact n3.symm
    · exact n2.symm
    · exact n1.symm
    · exact h2 p hp
theorem in_listD {cold : List (Addr × Obj)} {D : Addr} {ds : List Dat} (h : DatIn cold (.ref D) (.list ds)) : ∃ vs n, (D, W.listOf vs.toArray n) ∈ cold ∧ DatAll cold vs ds := by
  cases h with
  | list hm r => exact ⟨_, _, hm, r⟩
theorem law_norm2 {h₀ h : Heap} {L lN lP lS lT : Addr} {vP vS vT : List Value} {nP nS nT : Nat} {c3 c2 c1 t : Addr × Obj} {led tl : List (Addr × Obj)} {dsN : List Dat}
    (N : News h₀ L h led) (mt : t ∈ led) (m : ∀ p ∈ (lP, W.listOf vP.toArray nP) :: (lS, W.listOf vS.toArray nS) :: (lT, W.listOf vT.toArray nT) :: c3 :: c2 :: c1 :: tl, p ∈ led)
    (hbd : ∀ xs n, t.2.data ≠ .seq xs n) (hne : ∀ p ∈ (lP, W.listOf vP.toArray nP) :: (lS, W.listOf vS.toArray nS) :: (lT, W.listOf vT.toArray nT) :: c3 :: c2 :: c1 :: tl, p.1 ≠ t.1) (aN : DatIn led (.ref lN) (.list dsN)) :
    ∃ (vN : List Value) (nN : Nat) (tn : List (Addr × Obj)), News h₀ L h (t :: (lN, W.listOf vN.toArray nN) :: (lP, W.listOf vP.toArray nP) :: (lS, W.listOf vS.toArray nS) :: (lT, W.listOf vT.toArray nT) :: c3 :: c2 :: c1 :: (tl ++ tn)) ∧
      (∀ p ∈ (lN, W.listOf vN.toArray nN) :: (lP, W.listOf vP.toArray nP) :: (lS, W.listOf vS.toArray nS) :: (lT, W.listOf vT.toArray nT) :: c3 :: c2 :: c1 :: (tl ++ tn), p.1 ≠ t.1) ∧ DatAll tn vN dsN := by
  obtain ⟨tn, h1, h2, h3, h4⟩ := dat_apart2 (tl := led) N mt (fun p hp => hp) hbd
  obtain ⟨vN, nN, hm, hA⟩ := in_listD (h4 _ _ aN)
  refine ⟨vN, nN, tn, fun p hp => N p ?_, fun p hp => ?_, hA⟩
  · rcases List.mem_cons.mp hp with rfl | hp
    · exact mt
    · rcases List.mem_cons.mp hp with rfl | hp
      · exact h1 _ hm
      · simp only [List.mem_cons, List.mem_append] at hp
        rcases hp with hp | hp | hp | hp | hp | hp | hp | hp
        · exact m p (by simp [hp])
        · exact m p (by simp [hp])
        · exact m p (by simp [hp])
        · exact m p (by simp [hp])
        · exact m p (by simp [hp])
        · exact m p (by simp [hp])
        · exact m p (by simp [hp])
        · exact h1 p hp
  · rcases List.mem_cons.mp hp with rfl | hp
    · exact h2 _ hm
    · simp only [List.mem_cons, List.mem_append] at hp
      rcases hp with hp | hp | hp | hp | hp | hp | hp | hp
      · exact hne p (by simp [hp])
      · exact hne p (by simp [hp])
      · exact hne p (by simp [hp])
      · exact hne p (by simp [hp])
      · exact hne p (by simp [hp])
      · exact hne p (by simp [hp])
      · exact hne p (by simp [hp])
      · exact h2 p hp
theorem law_norm3 {h₀ h : Heap} {L lH : Addr} {P f c t N S T c3 c2 c1 : Addr × Obj} {nw r : List (Addr × Obj)} {dsH : List Dat} (N0 : News h₀ L h (nw ++ P :: f :: c :: t :: N :: S :: T :: c3 :: c2 :: c1 :: r)) (aH : DatIn (nw ++ P :: f :: c :: t :: N :: S :: T :: c3 :: c2 :: c1 :: r) (.ref lH) (.list dsH)) :
    ∃ (vH : List Value) (nH : Nat) (ld : List (Addr × Obj)), News h₀ L h ((lH, W.listOf vH.toArray nH) :: P :: N :: S :: T :: c3 :: c2 :: c1 :: ld) ∧ DatAll ld vH dsH ∧ (∀ p ∈ r, p ∈ ld) ∧ t ∈ ld := by
  obtain ⟨vH, nH, hm, hA⟩ := in_listD aH
  refine ⟨vH, nH, nw ++ P :: f :: c :: t :: N :: S :: T :: c3 :: c2 :: c1 :: r, fun p hp => N0 p ?_, hA, fun p hp => by simp [hp], by simp⟩
  rcases List.mem_cons.mp hp with rfl | hp
  · exact hm
  · simp only [List.mem_cons] at hp
    rcases hp with hp | hp | hp | hp | hp | hp | hp | hp
    · simp [hp]
    · simp [hp]
    · simp [hp]
    · simp [hp]
    · simp [hp]
    · simp [hp]
    · simp [hp]
    · exact hp
end Mine
namespace Mine
def lawXs (script : List Int) : List Int := [17, 170] ++ script.take 4
def lawTexts (script : List Int) : List Str := (lawXs script).map textW
theorem texts_len (script : List Int) : 2 ≤ (lawTexts script).length ∧ (lawTexts script).length ≤ 6 := by
  unfold lawTexts lawXs
  simp
  omega
def startW (script : List Int) : Str := (lawTexts script).getD (script.sum.fmod ((lawTexts script).length : Int)).toNat (Str.ofString "")
def rowOf (home l : List Str) : Row := ((wayW home l).length, wayW home l, pathW l)
def rowsD (script : List Int) : List Dat := (treeW (lawTexts script)).map fun l => encR (rowOf (straightW (startW script)) l)
def pairD (home l : List Str) : Dat := .tuple [.str (wayW home l), .str (pathW l)]
def keyN (home l : List Str) : Dat := .tuple [.int ((wayW home l).length : Int), .str (wayW home l)]
def nearK (script : List Int) : List Dat := ((treeW (lawTexts script)).map (keyN (straightW (startW script)))).reverse
def rowPair : Dat → Dat
  | .tuple [_, a, b] => .tuple [a, b]
  | _ => .none
def keyH (l : List Str) : Dat := .int (l.length : Int)
def highK (script : List Int) : List Dat := (treeW (lawTexts script)).map keyH
def flatF (tr : List (List Str)) (i : Nat) : Dat := .tuple [.int ((tr.getD i []).length : Int), .int (i : Int)]
def flatD (tr : List (List Str)) : List Dat := (List.range tr.length).map (flatF tr)
def flatPick (places : List Str) : Dat → Dat
  | .tuple [_, .int i] => .str (places.getD i.toNat (Str.ofString ""))
  | _ => .none
end Mine
namespace Mine
theorem pathW_split {l : List Str} (h : ∀ a ∈ l, SF a) : Txt.split (pathW l) (Str.ofString "/") = Str.ofString "" :: (if l = [] then [Str.ofString ""] else l) := by
  have e : pathW l = Txt.join (Str.ofString "/") (Str.ofString "" :: (if l = [] then [Str.ofString ""] else l)) := by
    apply str_ext
    rw [path_cp, join_cp]
    have e1 : cp (Str.ofString "") = [] := by decide
    by_cases hl : l = []
    · subst hl; simp [joinN, e1]
    · rw [if_neg hl]
      cases l with
      | nil => exact absurd rfl hl
      | cons a r => simp [joinN, e1]
  rw [e]
  refine split_join (by simp) fun a ha => ?_
  rcases List.mem_cons.mp ha with rfl | ha
  · unfold SF; decide
  · split at ha
    · rw [List.mem_singleton.mp ha]; unfold SF; decide
    · exact h a ha
theorem straight_nms : ∀ (l acc : List Str), (∀ a ∈ l, Nm a) → l.foldl straightStep acc = acc ++ l
  | [], acc, _ => by simp
  | a :: l, acc, h => by
    have ha := h a (.head _)
    have e : straightStep acc a = acc ++ [a] := by
      unfold straightStep
      rw [if_neg ha.dd, if_neg]
      rintro (q | q)
      · exact ha.ne (str_len0 q)
      · exact ha.dot q
    rw [List.foldl_cons, e, straight_nms l _ fun b hb => h b (.tail _ hb)]
    simp
theorem straight_path {l : List Str} (h : ∀ a ∈ l, Nm a) : straightW (pathW l) = l := by
  unfold straightW
  rw [pathW_split fun a ha => (h a ha).sf, List.foldl_cons]
  have e : straightStep [] (Str.ofString "") = [] := by decide
  rw [e]
  by_cases hl : l = []
  · subst hl; rw [if_pos rfl, List.foldl_cons, e]; rfl
  · rw [if_neg hl, straight_nms l [] h]; rfl
end Mine
namespace Mine
theorem split_sf (x : Str) : ∀ p ∈ Txt.split x (Str.ofString "/"), SF p := by
  rw [slash_eq]
  exact StrLaws.split_free _ 47
theorem joinN_app {s : Nat} : ∀ {l k : List (List Nat)}, l ≠ [] → k ≠ [] → joinN s (l ++ k) = joinN s l ++ s :: joinN s k
  | [], _, h, _ => absurd rfl h
  | [a], b :: k, _, _ => rfl
  | a :: b :: l, k, _, hk => by
    have := joinN_app (s := s) (l := b :: l) (k := k) (by simp) hk
    show a ++ s :: joinN s ((b :: l) ++ k) = (a ++ s :: joinN s (b :: l)) ++ s :: joinN s k
    rw [this]; simp
theorem split_glue {x a b : Str} (h : cp x = cp a ++ 47 :: cp b) : Txt.split x (Str.ofString "/") = Txt.split a (Str.ofString "/") ++ Txt.split b (Str.ofString "/") := by
  have e : x = Txt.join (Str.ofString "/") (Txt.split a (Str.ofString "/") ++ Txt.split b (Str.ofString "/")) := by
    apply str_ext
    rw [join_cp, List.map_append, joinN_app (by simpa using split_ne a) (by simpa using split_ne b), ← join_cp, ← join_cp, join_split', join_split', h]
  have e2 : (Txt.split a (Str.ofString "/") ++ Txt.split b (Str.ofString "/")) ≠ [] := by simp [split_ne a]
  have := split_join e2 (fun p hp => (List.mem_append.mp hp).elim (split_sf a p) (split_sf b p))
  rw [← e] at this
  exact this
theorem split_empty : Txt.split (Str.ofString "") (Str.ofString "/") = [Str.ofString ""] := by decide
theorem step_empty (acc : List Str) : straightStep acc (Str.ofString "") = acc := by
  unfold straightStep
  rw [if_neg (by decide), if_pos (.inl (by decide))]
theorem straight_glue {x a b : Str} (h : cp x = cp a ++ 47 :: cp b) : straightW x = (Txt.split b (Str.ofString "/")).foldl straightStep (straightW a) := by
  unfold straightW
  rw [split_glue h, List.foldl_append]
theorem cp_mk (l : List Nat) : cp ⟨l.toArray⟩ = l := by simp [cp]
theorem straight_join {a b : Str} (ha : cp a ≠ []) (hb : (cp b).head? ≠ some 47) : straightW (joinW a b) = (Txt.split b (Str.ofString "/")).foldl straightStep (straightW a) := by
  have e := joinW_cp a b hb
  rw [if_neg ha] at e
  by_cases h : (cp a).getLast? = some 47
  · rw [if_pos h] at e
    rcases List.eq_nil_or_concat (cp a) with h2 | ⟨u, c, h2⟩
    · exact absurd h2 ha
    · rw [List.concat_eq_append] at h2
      have hc : c = 47 := by rw [h2] at h; simpa using h
      subst hc
      have e1 : cp (joinW a b) = cp (⟨u.toArray⟩ : Str) ++ 47 :: cp b := by rw [e, h2, cp_mk]; simp
      have e3 : cp (Str.ofString "") = [] := by decide
      have e2 : cp a = cp (⟨u.toArray⟩ : Str) ++ 47 :: cp (Str.ofString "") := by rw [h2, cp_mk, e3]
      rw [straight_glue e1, straight_glue e2, split_empty, List.foldl_cons, step_empty]; rfl
  · rw [if_neg h] at e
    exact straight_glue e
theorem piece_eq (acc : List Str) (c : Str) : pieceW acc c = straightStep acc c := by
  unfold pieceW straightStep
  by_cases h1 : c.length = 0
  · rw [if_pos h1]
    have : c ≠ Str.ofString ".." := fun e => by rw [e] at h1; exact absurd h1 (by decide)
    rw [if_neg this, if_pos (.inl h1)]
  · rw [if_neg h1]
    by_cases h2 : c = Str.ofString "."
    · rw [if_pos h2]
      have : c ≠ Str.ofString ".." := fun e => by rw [e] at h2; exact absurd h2 (by decide)
      rw [if_neg this, if_pos (.inr h2)]
    · rw [if_neg h2]
      by_cases h3 : c = Str.ofString ".."
      · rw [if_pos h3, if_pos h3]
      · rw [if_neg h3, if_neg h3, if_neg]
        rintro (q | q)
        · exact h1 q
        · exact h2 q
theorem norm_eq {x : Str} {r : List Nat} (h : cp x = 47 :: r) : normW x = pathW (straightW x) := by
  have hl : 1 ≤ x.length := by rw [← cp_len, h]; simp
  have h1 : cp (Txt.slice x (some 1) none) = r := by
    rw [show (1 : Int) = ((1 : Nat) : Int) from rfl, cp_slice_from hl, h]; rfl
  have e3 : cp (Str.ofString "") = [] := by decide
  have e : cp x = cp (Str.ofString "") ++ 47 :: cp (Txt.slice x (some 1) none) := by rw [h1, e3, h]; rfl
  have e4 : straightW (Str.ofString "") = [] := by unfold straightW; rw [split_empty, List.foldl_cons, step_empty]; rfl
  rw [straight_glue e, e4]
  unfold normW pathW piecesW
  have : pieceW = straightStep := by funext a c; exact piece_eq a c
  rw [this]
theorem norm_text (n : Int) : normW (textW n) = pathW (straightW (textW n)) := by
  obtain ⟨r, h⟩ := text_cp n
  exact norm_eq h
theorem norm_join (n : Int) {t : Str} (ht : GR t) : normW (joinW (textW n) t) = pathW ((Txt.split t (Str.ofString "/")).foldl straightStep (straightW (textW n))) := by
  obtain ⟨r, h⟩ := text_cp n
  have ha : cp (textW n) ≠ [] := by rw [h]; simp
  rw [← straight_join ha ht.2]
  have e : ∃ r', cp (joinW (textW n) t) = 47 :: r' := by
    rw [joinW_cp _ _ ht.2, h]
    split
    · rename_i h; cases h
    · split
      · exact ⟨_, rfl⟩
      · exact ⟨_, rfl⟩
  obtain ⟨r', e⟩ := e
  exact norm_eq e
end Mine
namespace Mine
theorem path_inj {l k : List Str} (h1 : ∀ a ∈ l, Nm a) (h2 : ∀ a ∈ k, Nm a) (e : pathW l = pathW k) : l = k := by
  rw [← straight_path h1, ← straight_path h2, e]
theorem nm_take {l : List Str} (h : ∀ a ∈ l, Nm a) (k : Nat) : ∀ a ∈ l.take k, Nm a := fun a ha => h a (List.mem_of_mem_take ha)
theorem nm_keep {a : Str} (h : Nm a) : keepW a = true := by
  have h1 : a.length ≠ 0 := fun q => h.ne (str_len0 q)
  unfold keepW
  rw [decide_eq_true h1, decide_eq_true h.dot]; rfl
theorem keep_path {l : List Str} (h : ∀ a ∈ l, Nm a) : keepL (pathW l) = l := by
  unfold keepL
  rw [pathW_split fun a ha => (h a ha).sf]
  have e : keepW (Str.ofString "") = false := by decide
  rw [List.filter_cons, if_neg (by rw [e]; decide)]
  by_cases hl : l = []
  · subst hl; rw [if_pos rfl, List.filter_cons, if_neg (by rw [e]; decide)]; rfl
  · rw [if_neg hl, List.filter_eq_self]
    exact fun a ha => nm_keep (h a ha)
theorem common_path {l k : List Str} (h1 : ∀ a ∈ l, Nm a) (h2 : ∀ a ∈ k, Nm a) : commonW (pathW l) (pathW k) = pathW (l.take (lcpN l k)) := by
  unfold commonW
  rw [keep_path h1, keep_path h2]; rfl
theorem dir_take {l : List Str} (h : ∀ a ∈ l, Nm a) {i : Nat} (hi : i < l.length) : dirnameW (pathW (l.take (i + 1))) = pathW (l.take i) ∧ basenameW (pathW (l.take (i + 1))) = l[i] := by
  have e : l.take (i + 1) = l.take i ++ [l[i]] := by rw [List.take_add_one, List.getElem?_eq_getElem hi]; rfl
  have hs : SF l[i] := (h _ (List.getElem_mem hi)).sf
  rw [e]
  exact ⟨dir_path hs fun b hb => ⟨(h b (List.mem_of_mem_take hb)).ne, (h b (List.mem_of_mem_take hb)).sf⟩, base_path _ hs⟩
theorem take_ne {l : List Str} (h : ∀ a ∈ l, Nm a) {i k : Nat} (hi : i ≤ l.length) (hk : k < i) : pathW (l.take i) ≠ pathW (l.take k) := fun e => by
  have := congrArg List.length (path_inj (nm_take h i) (nm_take h k) e)
  rw [List.length_take, List.length_take] at this
  omega
theorem up_iter {l : List Str} (h : ∀ a ∈ l, Nm a) {k : Nat} (hk : k ≤ l.length) : ∀ j, iterN (upStep (pathW (l.take k))) j (pathW l, 0) = (pathW (l.take (l.length - min j (l.length - k))), min j (l.length - k))
  | 0 => by simp [iterN]
  | j + 1 => by
    rw [iterN, up_iter h hk j]
    unfold upStep
    by_cases hj : j < l.length - k
    · have e1 : min j (l.length - k) = j := by omega
      have e2 : min (j + 1) (l.length - k) = j + 1 := by omega
      rw [e1, e2]
      dsimp only
      rw [if_neg (take_ne h (by omega) (by omega))]
      have := (dir_take h (i := l.length - (j + 1)) (by omega)).1
      rw [show l.length - (j + 1) + 1 = l.length - j by omega] at this
      rw [this]
    · have e1 : min j (l.length - k) = l.length - k := by omega
      have e2 : min (j + 1) (l.length - k) = l.length - k := by omega
      rw [e1, e2]
      dsimp only
      rw [if_pos (by rw [show l.length - (l.length - k) = k by omega])]
theorem nm_iter {l : List Str} (h : ∀ a ∈ l, Nm a) {k : Nat} (hk : k ≤ l.length) : ∀ j, iterN (nmStep (pathW (l.take k))) j (pathW l, []) = (pathW (l.take (l.length - min j (l.length - k))), (l.drop (l.length - min j (l.length - k))).reverse)
  | 0 => by simp [iterN]
  | j + 1 => by
    rw [iterN, nm_iter h hk j]
    unfold nmStep
    by_cases hj : j < l.length - k
    · have e1 : min j (l.length - k) = j := by omega
      have e2 : min (j + 1) (l.length - k) = j + 1 := by omega
      rw [e1, e2]
      dsimp only
      rw [if_neg (take_ne h (by omega) (by omega))]
      have hi : l.length - (j + 1) < l.length := by omega
      have := dir_take h hi
      rw [show l.length - (j + 1) + 1 = l.length - j by omega] at this
      rw [this.1, this.2, List.drop_eq_getElem_cons hi, List.reverse_cons, show l.length - (j + 1) + 1 = l.length - j by omega]
    · have e1 : min j (l.length - k) = l.length - k := by omega
      have e2 : min (j + 1) (l.length - k) = l.length - k := by omega
      rw [e1, e2]
      dsimp only
      rw [if_pos (by rw [show l.length - (l.length - k) = k by omega])]
def Mv (x : Str) : Prop := SF x ∧ x ≠ Str.ofString ""
theorem mv_dd : Mv (Str.ofString "..") := ⟨by unfold SF; decide, by decide⟩
theorem nm_mv {x : Str} (h : Nm x) : Mv x := ⟨h.sf, h.ne⟩
theorem mv_cp {x : Str} (h : Mv x) : cp x ≠ [] := fun e => h.2 (str_ext (by rw [e]; decide))
theorem joinN_nil {s : Nat} : ∀ {l : List (List Nat)}, l ≠ [] → (∀ a ∈ l, a ≠ []) → joinN s l ≠ []
  | [], h, _ => absurd rfl h
  | [a], _, h => h a (.head _)
  | a :: b :: r, _, _ => by simp [joinN]
theorem mv_join {l : List Str} (h : ∀ a ∈ l, Mv a) {a : Str} (ha : Mv a) : joinW (Txt.join (Str.ofString "/") l) a = Txt.join (Str.ofString "/") (l ++ [a]) := by
  apply str_ext
  have hh : (cp a).head? ≠ some 47 := fun e => ha.1 (List.mem_of_head? e)
  have hm : ∀ b ∈ l.map cp, b ≠ [] ∧ 47 ∉ b := fun b hb => by
    obtain ⟨x, hx, rfl⟩ := List.mem_map.mp hb
    exact ⟨mv_cp (h x hx), (h x hx).1⟩
  rw [joinW_cp _ _ hh, join_cp, join_cp, List.map_append]
  by_cases hl : l = []
  · subst hl; simp [joinN]
  · have h1 : joinN 47 (l.map cp) ≠ [] := joinN_nil (by simpa using hl) fun b hb => (hm b hb).1
    rw [if_neg h1, if_neg (joinN_last hm), show [a].map cp = [cp a] from rfl, joinN_snoc (by simpa using hl)]
theorem join_fold : ∀ (r l : List Str), (∀ a ∈ l, Mv a) → (∀ a ∈ r, Mv a) → r.foldl joinW (Txt.join (Str.ofString "/") l) = Txt.join (Str.ofString "/") (l ++ r)
  | [], l, _, _ => by simp
  | a :: r, l, h1, h2 => by
    rw [List.foldl_cons, mv_join h1 (h2 a (.head _)), join_fold r _ (fun b hb => ?_) fun b hb => h2 b (.tail _ hb)]
    · simp
    · rcases List.mem_append.mp hb with hb | hb
      · exact h1 b hb
      · rw [List.mem_singleton.mp hb]; exact h2 a (.head _)
theorem join_nil : Txt.join (Str.ofString "/") [] = Str.ofString "" := by decide
theorem path_split_n {l : List Str} (h : ∀ a ∈ l, Nm a) : l.length ≤ (Txt.split (pathW l) (Str.ofString "/")).length - 1 := by
  rw [pathW_split fun a ha => (h a ha).sf]
  split
  · rename_i e; subst e; simp
  · simp
theorem link_law {home l : List Str} (h1 : ∀ a ∈ home, Nm a) (h2 : ∀ a ∈ l, Nm a) : linkW (pathW home) (pathW l) = wayW home l := by
  have hk := lcp_le home l
  have e9 : l.take (lcpN home l) = home.take (lcpN home l) := by
    have : ∀ (x y : List Str), y.take (lcpN x y) = x.take (lcpN x y) := by
      intro x
      induction x with
      | nil => intro y; simp [lcpN]
      | cons a x ih =>
        intro y
        cases y with
        | nil => simp [lcpN]
        | cons b y =>
          simp only [lcpN]
          split
          · rename_i e; rw [List.take_succ_cons, List.take_succ_cons, e, ih]
          · simp
    exact this home l
  unfold linkW
  rw [common_path h1 h2]
  unfold linkUps linkNames
  have e1 := path_split_n h1
  have e2 := path_split_n h2
  rw [up_iter h1 hk.1, ← e9, nm_iter h2 hk.2]
  dsimp only
  rw [show min ((Txt.split (pathW home) (Str.ofString "/")).length - 1) (home.length - lcpN home l) = home.length - lcpN home l by omega, show min ((Txt.split (pathW l) (Str.ofString "/")).length - 1) (l.length - lcpN home l) = l.length - lcpN home l by omega, show l.length - (l.length - lcpN home l) = lcpN home l by omega, List.reverse_reverse]
  rw [← join_nil, join_fold _ [] (fun a h => nomatch h) fun a ha => ?_]
  · rfl
  · rcases List.mem_append.mp ha with ha | ha
    · rw [(List.mem_replicate.mp ha).2]; exact mv_dd
    · exact nm_mv (h2 a (List.mem_of_mem_drop ha))
end Mine
namespace Mine
theorem eqv_iff {n : Nat} {a b : Dat} (ha : kqdOk n a = true) (hb : kqdOk n b = true) : PyData.eqv (kqdP a) (kqdP b) = true ↔ a = b := kqd_eqv n a b n ha hb
theorem lex_irr {n : Nat} (ih : ∀ d, kqdOk n d = true → dlt n d d = false) : ∀ xs : List Dat, (∀ d ∈ xs, kqdOk n d = true) → lexBy (dlt n) xs xs = false
  | [], _ => rfl
  | a :: xs, h => by
    unfold lexBy
    rw [if_pos ((eqv_iff (h a (.head _)) (h a (.head _))).mpr rfl)]
    exact lex_irr ih xs fun d hd => h d (.tail _ hd)
theorem dlt_irr : ∀ (n : Nat) (d : Dat), kqdOk n d = true → dlt n d d = false
  | 0, d, h => by cases d <;> simp_all [dlt, kqdOk]
  | n + 1, d, h => by
    cases d with
    | tuple xs => exact lex_irr (dlt_irr n) xs (by simpa [kqdOk] using h)
    | _ => simp_all [dlt, kqdOk]
theorem lex_tri {n : Nat} (ih : ∀ a b, kqdOk n a = true → kqdOk n b = true → dcmp n a b = true → a ≠ b → dlt n a b = true ∨ dlt n b a = true) : ∀ xs ys : List Dat, (∀ d ∈ xs, kqdOk n d = true) → (∀ d ∈ ys, kqdOk n d = true) → ((xs.zip ys).all fun p => dcmp n p.1 p.2) = true → xs ≠ ys → lexBy (dlt n) xs ys = true ∨ lexBy (dlt n) ys xs = true
  | [], [], _, _, _, h => absurd rfl h
  | [], _ :: _, _, _, _, _ => .inl rfl
  | _ :: _, [], _, _, _, _ => .inr rfl
  | a :: xs, b :: ys, h1, h2, h3, h4 => by
    simp only [List.zip_cons_cons, List.all_cons, Bool.and_eq_true] at h3
    have e1 := eqv_iff (h1 a (.head _)) (h2 b (.head _))
    have e2 := eqv_iff (h2 b (.head _)) (h1 a (.head _))
    unfold lexBy
    by_cases hab : a = b
    · rw [if_pos (e1.mpr hab), if_pos (e2.mpr hab.symm)]
      exact lex_tri ih xs ys (fun d hd => h1 d (.tail _ hd)) (fun d hd => h2 d (.tail _ hd)) h3.2 (fun q => h4 (by rw [hab, q]))
    · rw [if_neg (fun q => hab (e1.mp q)), if_neg (fun q => hab (e2.mp q).symm)]
      exact ih a b (h1 a (.head _)) (h2 b (.head _)) h3.1 hab
theorem str_tri {x y : Str} (h : x ≠ y) : x.cps.toList < y.cps.toList ∨ y.cps.toList < x.cps.toList := by
  rcases Std.lt_trichotomy x.cps.toList y.cps.toList with q | q | q
  · exact .inl q
  · exact absurd (str_ext q) h
  · exact .inr q
theorem dlt_tri : ∀ (n : Nat) (a b : Dat), kqdOk n a = true → kqdOk n b = true → dcmp n a b = true → a ≠ b → dlt n a b = true ∨ dlt n b a = true
  | 0, a, b, h1, h2, h3, h4 => by
    cases a <;> cases b <;> first | (simp [dcmp] at h3; done) | skip
    · simp only [dlt, decide_eq_true_eq]
      have : ¬ _ = _ := fun q => h4 (congrArg Dat.int q)
      omega
    · simp only [dlt, decide_eq_true_eq]
      exact str_tri fun q => h4 (congrArg Dat.str q)
  | n + 1, a, b, h1, h2, h3, h4 => by
    cases a <;> cases b <;> first | (simp [dcmp] at h3; done) | skip
    · simp only [dlt, decide_eq_true_eq]
      have : ¬ _ = _ := fun q => h4 (congrArg Dat.int q)
      omega
    · simp only [dlt, decide_eq_true_eq]
      exact str_tri fun q => h4 (congrArg Dat.str q)
    · exact lex_tri (dlt_tri n) _ _ (by simpa [kqdOk] using h1) (by simpa [kqdOk] using h2) (by simpa [dcmp] using h3) (fun q => h4 (congrArg Dat.tuple q))
theorem lex_trans {n : Nat} (ih : ∀ a b c, kqdOk n a = true → kqdOk n b = true → kqdOk n c = true → dlt n a b = true → dlt n b c = true → dlt n a c = true) : ∀ xs ys zs : List Dat, (∀ d ∈ xs, kqdOk n d = true) → (∀ d ∈ ys, kqdOk n d = true) → (∀ d ∈ zs, kqdOk n d = true) → lexBy (dlt n) xs ys = true → lexBy (dlt n) ys zs = true → lexBy (dlt n) xs zs = true
  | [], [], _, _, _, _, h, _ => by simp [lexBy] at h
  | [], _ :: _, [], _, _, _, _, h => by simp [lexBy] at h
  | [], _ :: _, _ :: _, _, _, _, _, _ => rfl
  | _ :: _, [], _, _, _, _, h, _ => by simp [lexBy] at h
  | _ :: _, _ :: _, [], _, _, _, _, h => by simp [lexBy] at h
  | a :: xs, b :: ys, c :: zs, h1, h2, h3, h, h' => by
    have ka := h1 a (.head _)
    have kb := h2 b (.head _)
    have kc := h3 c (.head _)
    unfold lexBy at h h' ⊢
    by_cases hab : a = b
    · subst hab
      rw [if_pos ((eqv_iff ka ka).mpr rfl)] at h
      by_cases hac : a = c
      · subst hac
        rw [if_pos ((eqv_iff ka ka).mpr rfl)] at h' ⊢
        exact lex_trans ih xs ys zs (fun d hd => h1 d (.tail _ hd)) (fun d hd => h2 d (.tail _ hd)) (fun d hd => h3 d (.tail _ hd)) h h'
      · rw [if_neg (fun q => hac ((eqv_iff ka kc).mp q))] at h' ⊢
        exact h'
    · rw [if_neg (fun q => hab ((eqv_iff ka kb).mp q))] at h
      by_cases hbc : b = c
      · subst hbc
        rw [if_neg (fun q => hab ((eqv_iff ka kb).mp q))]
        exact h
      · rw [if_neg (fun q => hbc ((eqv_iff kb kc).mp q))] at h'
        have hac : a ≠ c := fun e => by
          subst e
          have := ih a b a ka kb ka h h'
          rw [dlt_irr n a ka] at this
          cases this
        rw [if_neg (fun q => hac ((eqv_iff ka kc).mp q))]
        exact ih a b c ka kb kc h h'
theorem dlt_trans : ∀ (n : Nat) (a b c : Dat), kqdOk n a = true → kqdOk n b = true → kqdOk n c = true → dlt n a b = true → dlt n b c = true → dlt n a c = true
  | 0, a, b, c, h1, h2, h3, h, h' => by
    cases a <;> cases b <;> first | (simp [dlt] at h; done) | skip
    all_goals cases c <;> first | (simp [dlt] at h'; done) | skip
    · simp only [dlt, decide_eq_true_eq] at *; omega
    · simp only [dlt, decide_eq_true_eq] at *; exact Std.lt_trans h h'
  | n + 1, a, b, c, h1, h2, h3, h, h' => by
    cases a <;> cases b <;> first | (simp [dlt] at h; done) | skip
    all_goals cases c <;> first | (simp [dlt] at h'; done) | skip
    · simp only [dlt, decide_eq_true_eq] at *; omega
    · simp only [dlt, decide_eq_true_eq] at *; exact Std.lt_trans h h'
    · exact lex_trans (dlt_trans n) _ _ _ (by simpa [kqdOk] using h1) (by simpa [kqdOk] using h2) (by simpa [kqdOk] using h3) h h'
theorem dlt_asym {n : Nat} {a b : Dat} (h1 : kqdOk n a = true) (h2 : kqdOk n b = true) (h : dlt n a b = true) : dlt n b a = false := by
  cases e : dlt n b a with
  | false => rfl
  | true =>
    have := dlt_trans n a b a h1 h2 h1 h e
    rw [dlt_irr n a h1] at this; cases this
theorem dlt_ntr {n : Nat} {a b c : Dat} (h1 : kqdOk n a = true) (h2 : kqdOk n b = true) (h3 : kqdOk n c = true) (hc : dcmp n a b = true) (h : dlt n a c = true) : dlt n a b = true ∨ dlt n b c = true := by
  by_cases e : a = b
  · subst e; exact .inr h
  · rcases dlt_tri n a b h1 h2 hc e with q | q
    · exact .inl q
    · exact .inr (dlt_trans n b a c h2 h1 h3 q h)
theorem swo_of {n : Nat} {ks : List Dat} (h1 : ∀ d ∈ ks, kqdOk n d = true) (h2 : ∀ a ∈ ks, ∀ c ∈ ks, dcmp n a c = true) : SWO ks.length (ltIx n ks) := by
  have hm : ∀ {i}, i < ks.length → ks.getD i .none ∈ ks := fun {i} hi => getD_mem hi
  refine ⟨fun a b ha hb h => dlt_asym (h1 _ (hm ha)) (h1 _ (hm hb)) h, fun a b c ha hb hc h => dlt_ntr (h1 _ (hm ha)) (h1 _ (hm hb)) (h1 _ (hm hc)) (h2 _ (hm ha) _ (hm hb)) h⟩
theorem sortable_of {k : Nat} {ks : List Dat} (h1 : ∀ d ∈ ks, kqdOk (k + 1) d = true) (h2 : ∀ a ∈ ks, ∀ c ∈ ks, dcmp (k + 1) a c = true) (h3 : (∃ b, ∀ d ∈ ks, FirstD b d) ∨ ∀ d ∈ ks, ∃ p, d = .int p) : Sortable k ks := ⟨h1, h2, swo_of h1 h2, h3⟩
end Mine
namespace Mine
structure SW {α : Type} (P : α → Prop) (lt : α → α → Bool) : Prop where
  asym : ∀ a b, P a → P b → lt a b = true → lt b a = false
  ntr : ∀ a b c, P a → P b → P c → lt a c = true → lt a b = true ∨ lt b c = true
section
variable {α : Type} {P : α → Prop} {lt : α → α → Bool}
theorem SW.le_trans (W : SW P lt) {a b c : α} (ha : P a) (hb : P b) (hc : P c) (h1 : lt b a = false) (h2 : lt c b = false) : lt c a = false := by
  cases e : lt c a with
  | false => rfl
  | true =>
    rcases W.ntr c b a hc hb ha e with h | h
    · rw [h2] at h; cases h
    · rw [h1] at h; cases h
inductive Dsc (s : Nat) : Nat → Prop
  | refl : Dsc s s
  | step {p : Nat} : 0 < p → Dsc s ((p - 1) / 2) → Dsc s p
theorem Dsc.le {s : Nat} : ∀ {p : Nat}, Dsc s p → s ≤ p
  | _, .refl => Nat.le_refl _
  | p, .step h d => by have := d.le; omega
theorem Dsc.up {s p : Nat} (d : Dsc s p) (h : s < p) : Dsc s ((p - 1) / 2) := by
  cases d with
  | refl => omega
  | step _ d => exact d
theorem Dsc.zero : ∀ (p : Nat), Dsc 0 p := fun p => by
  induction p using Nat.strongRecOn with
  | ind p ih =>
    by_cases h : p = 0
    · subst h; exact .refl
    · exact .step (by omega) (ih _ (by omega))
variable (lt)
def Edge (l : List α) (j i : Nat) : Prop := ∀ a b, l[j]? = some a → l[i]? = some b → lt b a = false
def HeapF (s : Nat) (l : List α) : Prop := ∀ i, 0 < i → s ≤ (i - 1) / 2 → Edge lt l ((i - 1) / 2) i
def HoleF (s : Nat) (l : List α) (pos : Nat) : Prop := ∀ i, 0 < i → s ≤ (i - 1) / 2 → i ≠ pos → (i - 1) / 2 ≠ pos → Edge lt l ((i - 1) / 2) i
variable {lt}
theorem get_mem {l : List α} {i : Nat} {a : α} (h : l[i]? = some a) : a ∈ l := List.mem_of_getElem? h
theorem set_mem {l : List α} {i : Nat} {x : α} (hl : ∀ a ∈ l, P a) (hx : P x) : ∀ a ∈ l.set i x, P a := fun a ha => (List.mem_or_eq_of_mem_set ha).elim (hl a) fun e => e ▸ hx
theorem siftdown_heap (W : SW P lt) (s : Nat) : ∀ (pos : Nat) (l : List α) (x : α), pos < l.length → Dsc s pos → (∀ a ∈ l, P a) → P x → HoleF lt s l pos →
    (∀ i b, 0 < i → (i - 1) / 2 = pos → l[i]? = some b → lt b x = false) → (∀ i a b, 0 < i → (i - 1) / 2 = pos → s < pos → l[(pos - 1) / 2]? = some a → l[i]? = some b → lt b a = false) → HeapF lt s (siftdownF lt s l pos x) := by
  intro pos
  induction pos using Nat.strongRecOn with
  | ind pos ih =>
    intro l x hp hd hP hx hB h1 h2
    have fin : (s < pos → ∀ a, l[(pos - 1) / 2]? = some a → lt x a = false) → HeapF lt s (l.set pos x) := by
      intro hq i hi hs a b ha hb
      rw [List.getElem?_set] at ha hb
      by_cases e1 : pos = i
      · subst e1
        rw [if_pos rfl, if_pos hp] at hb
        rw [if_neg (by omega)] at ha
        cases hb
        exact hq (by omega) a ha
      · rw [if_neg e1] at hb
        by_cases e2 : pos = (i - 1) / 2
        · rw [if_pos e2, if_pos hp] at ha
          cases ha
          exact h1 i b hi e2.symm hb
        · rw [if_neg e2] at ha
          exact hB i hi hs (fun q => e1 q.symm) (fun q => e2 q.symm) a b ha hb
    rw [siftdownF]
    split
    · rename_i hsp
      have hpp : (pos - 1) / 2 < l.length := by omega
      rw [List.getElem?_eq_getElem hpp]
      dsimp only
      have hPp : P (l[(pos - 1) / 2]) := hP _ (List.getElem_mem hpp)
      have hgp : l[(pos - 1) / 2]? = some (l[(pos - 1) / 2]) := List.getElem?_eq_getElem hpp
      generalize l[(pos - 1) / 2] = p at *
      split
      · rename_i hlt
        have hxp := W.asym _ _ hx hPp hlt
        refine ih ((pos - 1) / 2) (by omega) (l.set pos p) x (by rw [List.length_set]; exact hpp) (hd.up hsp) (set_mem hP hPp) hx ?_ ?_ ?_
        · intro i hi hs e1 e2 a b ha hb
          rw [List.getElem?_set] at ha hb
          have e3 : pos ≠ i := fun q => e2 (by rw [← q])
          rw [if_neg e3] at hb
          by_cases e4 : pos = (i - 1) / 2
          · rw [if_pos e4, if_pos hp] at ha
            cases ha
            exact h2 i _ b hi e4.symm hsp hgp hb
          · rw [if_neg e4] at ha
            exact hB i hi hs (fun q => e3 q.symm) (fun q => e4 q.symm) a b ha hb
        · intro i b hi e hb
          rw [List.getElem?_set] at hb
          by_cases e1 : pos = i
          · subst e1
            rw [if_pos rfl, if_pos hp] at hb
            cases hb
            exact hxp
          · rw [if_neg e1] at hb
            have hs' : s ≤ (i - 1) / 2 := by rw [e]; exact (hd.up hsp).le
            have q := hB i hi hs' (fun q => e1 q.symm) (by omega) p b (by rw [e]; exact hgp) hb
            exact W.le_trans hx hPp (hP _ (get_mem hb)) hxp q
        · intro i a b hi e hs' ha hb
          rw [List.getElem?_set] at ha hb
          rw [if_neg (by omega)] at ha
          have q0 : lt p a = false := hB ((pos - 1) / 2) (by omega) ((hd.up hsp).up hs').le (by omega) (by omega) a p ha hgp
          by_cases e1 : pos = i
          · subst e1
            rw [if_pos rfl, if_pos hp] at hb
            cases hb
            exact q0
          · rw [if_neg e1] at hb
            have q := hB i hi (by rw [e]; exact (hd.up hsp).le) (fun q => e1 q.symm) (by omega) p b (by rw [e]; exact hgp) hb
            exact W.le_trans (hP _ (get_mem ha)) hPp (hP _ (get_mem hb)) q0 q
      · rename_i hlt
        exact fin fun _ a ha => by
          rw [hgp] at ha; cases ha
          simpa using hlt
    · rename_i hsp
      exact fin fun h => absurd h hsp
theorem siftdown_perm (s : Nat) : ∀ (pos : Nat) (l : List α) (x : α), pos < l.length → (siftdownF lt s l pos x).Perm (l.set pos x) := by
  intro pos
  induction pos using Nat.strongRecOn with
  | ind pos ih =>
    intro l x hp
    rw [siftdownF]
    split
    · rename_i hsp
      have hpp : (pos - 1) / 2 < l.length := by omega
      rw [List.getElem?_eq_getElem hpp]
      dsimp only
      split
      · refine (ih ((pos - 1) / 2) (by omega) (l.set pos l[(pos - 1) / 2]) x (by rw [List.length_set]; exact hpp)).trans ?_
        have := List.set_set_perm (as := l.set pos x) (i := pos) (j := (pos - 1) / 2) (by rw [List.length_set]; exact hp) (by rw [List.length_set]; exact hpp)
        rw [List.getElem_set_ne (by omega), List.getElem_set_self, List.set_set] at this
        exact this
      · exact .refl _
    · exact .refl _
theorem child_spec (W : SW P lt) {l : List α} (hP : ∀ a ∈ l, P a) {pos : Nat} (h : 2 * pos + 1 < l.length) : childF lt l pos < l.length ∧ (childF lt l pos - 1) / 2 = pos ∧ ∀ i a b, 0 < i → (i - 1) / 2 = pos → l[childF lt l pos]? = some a → l[i]? = some b → lt b a = false := by
  have irr : ∀ a, P a → lt a a = false := fun a ha => by
    cases e : lt a a with
    | false => rfl
    | true => have := W.asym a a ha ha e; rw [e] at this; cases this
  have ha : l[2 * pos + 1]? = some (l[2 * pos + 1]) := List.getElem?_eq_getElem h
  have two : ∀ i, 0 < i → (i - 1) / 2 = pos → i = 2 * pos + 1 ∨ i = 2 * pos + 2 := by intro i h1 h2; omega
  unfold childF
  rw [ha]
  by_cases h2 : 2 * pos + 2 < l.length
  · have hb : l[2 * pos + 2]? = some (l[2 * pos + 2]) := List.getElem?_eq_getElem h2
    rw [hb]
    dsimp only
    have pa := hP _ (List.getElem_mem h)
    have pb := hP _ (List.getElem_mem h2)
    generalize l[2 * pos + 1] = a at *
    generalize l[2 * pos + 2] = b at *
    split
    · rename_i hlt
      refine ⟨h, by omega, fun i x y hi he hx hy => ?_⟩
      rw [ha] at hx; cases hx
      rcases two i hi he with rfl | rfl
      · rw [ha] at hy; cases hy; exact irr _ pa
      · rw [hb] at hy; cases hy; exact W.asym _ _ pa pb hlt
    · rename_i hlt
      refine ⟨h2, by omega, fun i x y hi he hx hy => ?_⟩
      rw [hb] at hx; cases hx
      rcases two i hi he with rfl | rfl
      · rw [ha] at hy; cases hy; simpa using hlt
      · rw [hb] at hy; cases hy; exact irr _ pb
  · have hb : l[2 * pos + 2]? = none := List.getElem?_eq_none (by omega)
    rw [hb]
    dsimp only
    refine ⟨h, by omega, fun i x y hi he hx hy => ?_⟩
    rw [ha] at hx; cases hx
    rcases two i hi he with rfl | rfl
    · rw [ha] at hy; cases hy; exact irr _ (hP _ (List.getElem_mem h))
    · rw [hb] at hy; cases hy
theorem sink_spec (W : SW P lt) (s : Nat) : ∀ (n : Nat) (l : List α) (pos : Nat), l.length - pos = n → pos < l.length → Dsc s pos → (∀ a ∈ l, P a) → HoleF lt s l pos →
    (∀ i a b, 0 < i → (i - 1) / 2 = pos → s < pos → l[(pos - 1) / 2]? = some a → l[i]? = some b → lt b a = false) →
    (sinkF lt l pos).2 < l.length ∧ (sinkF lt l pos).1.length = l.length ∧ Dsc s (sinkF lt l pos).2 ∧ (∀ a ∈ (sinkF lt l pos).1, P a) ∧ HoleF lt s (sinkF lt l pos).1 (sinkF lt l pos).2 ∧ l.length ≤ 2 * (sinkF lt l pos).2 + 1 ∧ ∀ x, ((sinkF lt l pos).1.set (sinkF lt l pos).2 x).Perm (l.set pos x) := by
  intro n
  induction n using Nat.strongRecOn with
  | ind n ih =>
    intro l pos hn hp hd hP hB h2
    rw [sinkF]
    split
    · rename_i h
      obtain ⟨c1, c2, c3⟩ := child_spec W hP h
      have hc0 := childF_gt lt l pos
      generalize childF lt l pos = c at *
      rw [List.getElem?_eq_getElem c1]
      dsimp only
      have hgc : l[c]? = some (l[c]) := List.getElem?_eq_getElem c1
      have hPc : P l[c] := hP _ (List.getElem_mem c1)
      have key := ih (l.length - c) (by omega) (l.set pos l[c]) c (by rw [List.length_set]) (by rw [List.length_set]; exact c1) (.step (by omega) (by rw [c2]; exact hd)) (set_mem hP hPc) (fun i hi hs e1 e2 a b ha hb => by
        rw [List.getElem?_set] at ha hb
        by_cases e3 : pos = i
        · subst e3
          rw [if_pos rfl, if_pos hp] at hb
          rw [if_neg (by omega)] at ha
          cases hb
          exact h2 c a _ (by omega) c2 (by omega) ha hgc
        · rw [if_neg e3] at hb
          by_cases e4 : pos = (i - 1) / 2
          · rw [if_pos e4, if_pos hp] at ha
            cases ha
            exact c3 i _ b hi e4.symm hgc hb
          · rw [if_neg e4] at ha
            exact hB i hi hs (fun q => e3 q.symm) (fun q => e4 q.symm) a b ha hb) (fun i a b hi he hs ha hb => by
        rw [List.getElem?_set] at ha hb
        rw [if_pos (by omega), if_pos hp] at ha
        rw [if_neg (by omega)] at hb
        cases ha
        exact hB i hi (by have := hd.le; omega) (by omega) (by omega) _ b (by rw [he]; exact hgc) hb)
      rw [List.length_set] at key
      refine ⟨key.1, key.2.1, key.2.2.1, key.2.2.2.1, key.2.2.2.2.1, key.2.2.2.2.2.1, fun x => (key.2.2.2.2.2.2 x).trans ?_⟩
      have := List.set_set_perm (as := l.set pos x) (i := pos) (j := c) (by rw [List.length_set]; exact hp) (by rw [List.length_set]; exact c1)
      rw [List.getElem_set_ne (by omega), List.getElem_set_self, List.set_set] at this
      exact this
    · rename_i h
      exact ⟨hp, rfl, hd, hP, hB, by dsimp only; omega, fun x => .refl _⟩
theorem siftup_spec (W : SW P lt) {l : List α} {s : Nat} {x : α} (hs : s < l.length) (hP : ∀ a ∈ l, P a) (hx : P x) (hB : HoleF lt s l s) : HeapF lt s (siftupF lt l s x) ∧ (siftupF lt l s x).Perm (l.set s x) := by
  obtain ⟨h1, h2, h3, h4, h5, h6, h7⟩ := sink_spec W s _ l s rfl hs .refl hP hB (fun i a b _ _ h => absurd h (Nat.lt_irrefl _))
  unfold siftupF
  dsimp only
  generalize sinkF lt l s = r at *
  have hl : (r.1.set r.2 x).length = l.length := by rw [List.length_set, h2]
  have none : ∀ i, 0 < i → (i - 1) / 2 = r.2 → (r.1.set r.2 x)[i]? = none := fun i hi he => List.getElem?_eq_none (by omega)
  constructor
  · refine siftdown_heap W s r.2 (r.1.set r.2 x) x (by omega) h3 (set_mem h4 hx) hx ?_ ?_ ?_
    · intro i hi hs' e1 e2 a b ha hb
      rw [List.getElem?_set, if_neg (fun q => e2 q.symm)] at ha
      rw [List.getElem?_set, if_neg (fun q => e1 q.symm)] at hb
      exact h5 i hi hs' e1 e2 a b ha hb
    · intro i b hi he hb
      rw [none i hi he] at hb; cases hb
    · intro i a b hi he _ _ hb
      rw [none i hi he] at hb; cases hb
  · refine (siftdown_perm s r.2 _ x (by omega)).trans ?_
    rw [List.set_set]
    exact h7 x
theorem push_spec (W : SW P lt) {l : List α} {x : α} (hP : ∀ a ∈ l, P a) (hx : P x) (hH : HeapF lt 0 l) : HeapF lt 0 (pushF lt l x) ∧ (pushF lt l x).Perm (x :: l) := by
  unfold pushF
  have hl : (l ++ [x]).length = l.length + 1 := by simp
  constructor
  · refine siftdown_heap W 0 l.length (l ++ [x]) x (by omega) (Dsc.zero _) (fun a ha => (List.mem_append.mp ha).elim (hP a) fun e => List.mem_singleton.mp e ▸ hx) hx ?_ ?_ ?_
    · intro i hi hs e1 e2 a b ha hb
      have hil : i < l.length := by
        have := (List.getElem?_eq_some_iff.mp hb).1; omega
      rw [List.getElem?_append_left (by omega)] at ha hb
      exact hH i hi hs a b ha hb
    · intro i b hi he hb
      have := (List.getElem?_eq_some_iff.mp hb).1; omega
    · intro i a b hi he _ _ hb
      have := (List.getElem?_eq_some_iff.mp hb).1; omega
  · refine (siftdown_perm 0 l.length _ x (by omega)).trans ?_
    rw [List.set_append_right _ _ (Nat.le_refl _)]
    simp only [Nat.sub_self, List.set_cons_zero]
    exact List.perm_append_singleton x l
theorem heap_min (W : SW P lt) {l : List α} (hP : ∀ a ∈ l, P a) (hH : HeapF lt 0 l) {a : α} (ha : l[0]? = some a) : ∀ (i : Nat) b, l[i]? = some b → lt b a = false := by
  intro i
  induction i using Nat.strongRecOn with
  | ind i ih =>
    intro b hb
    by_cases h : i = 0
    · subst h
      rw [ha] at hb; cases hb
      cases e : lt a a with
      | false => rfl
      | true => have := W.asym a a (hP _ (get_mem ha)) (hP _ (get_mem ha)) e; rw [e] at this; cases this
    · have hi := (List.getElem?_eq_some_iff.mp hb).1
      have hpp : (i - 1) / 2 < l.length := by omega
      have hp : l[(i - 1) / 2]? = some (l[(i - 1) / 2]) := List.getElem?_eq_getElem hpp
      exact W.le_trans (hP _ (get_mem ha)) (hP _ (get_mem hp)) (hP _ (get_mem hb)) (ih _ (by omega) _ hp) (hH i (by omega) (Nat.zero_le _) _ _ hp hb)
theorem pop_spec (W : SW P lt) {l : List α} {d : α} (hne : l ≠ []) (hP : ∀ a ∈ l, P a) (hH : HeapF lt 0 l) : HeapF lt 0 (popF lt l d).2 ∧ ((popF lt l d).1 :: (popF lt l d).2).Perm l ∧ ∀ b ∈ l, lt b (popF lt l d).1 = false := by
  obtain ⟨r, z, rfl⟩ : ∃ r a, l = r ++ [a] := by
    rcases List.eq_nil_or_concat l with h2 | ⟨r, a, h2⟩
    · exact absurd h2 hne
    · exact ⟨r, a, by simpa using h2⟩
  unfold popF
  have e : (r ++ [z]).getLastD d = z := by rw [List.getLastD_eq_getLast?, List.getLast?_concat]; rfl
  dsimp only
  rw [e, List.dropLast_concat]
  have hmin : ∀ a, (r ++ [z])[0]? = some a → ∀ b ∈ r ++ [z], lt b a = false := fun a ha b hb => by
    obtain ⟨i, hi⟩ := List.getElem?_of_mem hb
    exact heap_min W hP hH ha i b hi
  cases r with
  | nil => exact ⟨fun i _ _ a b ha _ => by simp at ha, .refl _, hmin z rfl⟩
  | cons a r =>
    dsimp only
    have hPz : P z := hP z (by simp)
    have hP2 : ∀ b ∈ z :: r, P b := fun b hb => by
      rcases List.mem_cons.mp hb with rfl | hb
      · exact hPz
      · exact hP b (by simp [hb])
    have hB : HoleF lt 0 (z :: r) 0 := fun i hi _ e1 e2 x y hx hy => by
      obtain ⟨j, hj⟩ : ∃ j, (i - 1) / 2 = j + 1 := ⟨(i - 1) / 2 - 1, by omega⟩
      obtain ⟨k, hk⟩ : ∃ k, i = k + 1 := ⟨i - 1, by omega⟩
      have hil := (List.getElem?_eq_some_iff.mp hy).1
      have hjl := (List.getElem?_eq_some_iff.mp hx).1
      refine hH i hi (Nat.zero_le _) x y ?_ ?_
      · rw [hj] at hx hjl ⊢
        rw [List.getElem?_cons_succ] at hx
        rw [List.getElem?_append_left (by simp at hjl ⊢; omega), List.getElem?_cons_succ]
        exact hx
      · subst hk
        rw [List.getElem?_cons_succ] at hy
        rw [List.getElem?_append_left (by simp at hil ⊢; omega), List.getElem?_cons_succ]
        exact hy
    have h := siftup_spec W (l := z :: r) (s := 0) (x := z) (by simp) hP2 hPz hB
    refine ⟨h.1, ?_, hmin a rfl⟩
    refine (h.2.cons a).trans ?_
    rw [List.set_cons_zero, List.cons_append]
    exact (List.perm_append_singleton z r).symm.cons a
theorem heapSteps_spec (W : SW P lt) : ∀ (k : Nat) (l : List α), k ≤ l.length / 2 → (∀ a ∈ l, P a) → HeapF lt k l → HeapF lt 0 ((List.range k).reverse.foldl (heapStep lt) l) ∧ ((List.range k).reverse.foldl (heapStep lt) l).Perm l
  | 0, l, _, _, h => ⟨h, .refl _⟩
  | k + 1, l, hk, hP, h => by
    rw [List.range_succ, List.reverse_append, List.reverse_singleton, List.singleton_append, List.foldl_cons]
    have hkl : k < l.length := by omega
    have e : heapStep lt l k = siftupF lt l k l[k] := by unfold heapStep; rw [List.getElem?_eq_getElem hkl]
    have hs := siftup_spec W (l := l) (s := k) (x := l[k]) hkl hP (hP _ (List.getElem_mem hkl)) (fun i hi hs e1 e2 => h i hi (by omega))
    rw [List.set_getElem_self] at hs
    rw [e]
    have ih := heapSteps_spec W k (siftupF lt l k l[k]) (by rw [siftupF_len]; omega) (fun a ha => hP a (hs.2.mem_iff.mp ha)) hs.1
    exact ⟨ih.1, ih.2.trans hs.2⟩
theorem heapify_spec (W : SW P lt) {l : List α} (hP : ∀ a ∈ l, P a) : HeapF lt 0 (heapifyF lt l) ∧ (heapifyF lt l).Perm l :=
  heapSteps_spec W (l.length / 2) l (Nat.le_refl _) hP fun i hi hs a b _ hb => by
    have := (List.getElem?_eq_some_iff.mp hb).1; omega
end
end Mine
namespace Mine
theorem ns_sortable {kk n : Nat} {ks ds : List Dat} (hl : ks.length = ds.length) (h2 : 2 ≤ n) (hn : n < ds.length) (hS : Sortable kk ks) (hok : ∀ d ∈ ds, kqdOk (kk + 1) d = true) (hcmp : ∀ a ∈ ds, ∀ c ∈ ds, dcmp (kk + 1) a c = true) : Sortable (kk + 1) (nsState (kk + 1) ks ds n (ds.length - n)).1 := by
  have hi := (ns_inv (k := kk + 1) hl hn (ds.length - n) (Nat.le_refl _)).1
  refine sortable_of (fun d hd => trip_ok hl hS.ok hok (hi d hd)) (fun a ha c hc => trip_cmp hl hS.cmp hcmp (hi a ha) (hi c hc)) (.inl ?_)
  rcases hS.kind with ⟨b, hb⟩ | hb
  · refine ⟨false, fun d hd => ?_⟩
    obtain ⟨j, o, hj, rfl⟩ := hi d hd
    obtain ⟨x, r, e, _⟩ := hb _ (getD_mem (d := Dat.none) (show j < ks.length by omega))
    exact ⟨_, _, rfl, _, e⟩
  · refine ⟨true, fun d hd => ?_⟩
    obtain ⟨j, o, hj, rfl⟩ := hi d hd
    obtain ⟨p, e⟩ := hb _ (getD_mem (d := Dat.none) (show j < ks.length by omega))
    exact ⟨_, _, rfl, _, e⟩
end Mine
namespace Mine
section
variable (names : List Str)
theorem ts_mem {acc : List (List Str)} {k : Nat} {a : List Str} : a ∈ treeStep names acc k ↔ a ∈ acc ∨ a = names.take k := by
  unfold treeStep
  split
  · rename_i h
    constructor
    · exact .inl
    · rintro (q | rfl)
      · exact q
      · exact h
  · rw [List.mem_append, List.mem_singleton]
theorem ts_fold : ∀ (ks : List Nat) (acc : List (List Str)) (a : List Str), a ∈ ks.foldl (treeStep names) acc ↔ a ∈ acc ∨ ∃ k ∈ ks, a = names.take k
  | [], acc, a => by simp
  | k :: ks, acc, a => by
    rw [List.foldl_cons, ts_fold ks, ts_mem]
    constructor
    · rintro ((q | q) | ⟨j, hj, q⟩)
      · exact .inl q
      · exact .inr ⟨k, .head _, q⟩
      · exact .inr ⟨j, .tail _ hj, q⟩
    · rintro (q | ⟨j, hj, q⟩)
      · exact .inl (.inl q)
      · rcases List.mem_cons.mp hj with rfl | hj
        · exact .inl (.inr q)
        · exact .inr ⟨j, hj, q⟩
theorem ts_nodup {acc : List (List Str)} {k : Nat} (h : acc.Nodup) : (treeStep names acc k).Nodup := by
  unfold treeStep
  split
  · exact h
  · rename_i hn
    rw [List.nodup_append]
    refine ⟨h, by simp, fun a ha b hb => ?_⟩
    rw [List.mem_singleton.mp hb]
    exact fun e => hn (e ▸ ha)
theorem ts_nodups : ∀ (ks : List Nat) (acc : List (List Str)), acc.Nodup → (ks.foldl (treeStep names) acc).Nodup
  | [], _, h => h
  | k :: ks, acc, h => ts_nodups ks _ (ts_nodup names h)
theorem ts_len {acc : List (List Str)} {k : Nat} : acc.length ≤ (treeStep names acc k).length ∧ (treeStep names acc k).length ≤ acc.length + 1 := by
  unfold treeStep
  split
  · omega
  · rw [List.length_append, List.length_singleton]; omega
theorem ts_lens : ∀ (ks : List Nat) (acc : List (List Str)), acc.length ≤ (ks.foldl (treeStep names) acc).length ∧ (ks.foldl (treeStep names) acc).length ≤ acc.length + ks.length
  | [], _ => by simp
  | k :: ks, acc => by
    have h1 := ts_len names (acc := acc) (k := k)
    have h2 := ts_lens ks (treeStep names acc k)
    rw [List.foldl_cons, List.length_cons]; omega
end
theorem to_mem {acc : List (List Str)} {x : Str} {a : List Str} : a ∈ treeOne acc x ↔ a ∈ acc ∨ ∃ k, k ≤ (straightW x).length ∧ a = (straightW x).take k := by
  unfold treeOne
  rw [ts_fold]
  constructor
  · rintro (q | ⟨k, hk, q⟩)
    · exact .inl q
    · exact .inr ⟨k, by have := List.mem_range.mp hk; omega, q⟩
  · rintro (q | ⟨k, hk, q⟩)
    · exact .inl q
    · exact .inr ⟨k, List.mem_range.mpr (by omega), q⟩
theorem to_fold : ∀ (ts : List Str) (acc : List (List Str)) (a : List Str), a ∈ ts.foldl treeOne acc ↔ a ∈ acc ∨ ∃ x ∈ ts, ∃ k, k ≤ (straightW x).length ∧ a = (straightW x).take k
  | [], acc, a => by simp
  | x :: ts, acc, a => by
    rw [List.foldl_cons, to_fold ts, to_mem]
    constructor
    · rintro ((q | q) | ⟨y, hy, q⟩)
      · exact .inl q
      · exact .inr ⟨x, .head _, q⟩
      · exact .inr ⟨y, .tail _ hy, q⟩
    · rintro (q | ⟨y, hy, q⟩)
      · exact .inl (.inl q)
      · rcases List.mem_cons.mp hy with rfl | hy
        · exact .inl (.inr q)
        · exact .inr ⟨y, hy, q⟩
theorem tree_mem {ts : List Str} {a : List Str} : a ∈ treeW ts ↔ ∃ x ∈ ts, ∃ k, k ≤ (straightW x).length ∧ a = (straightW x).take k := by
  unfold treeW
  rw [to_fold]; simp
theorem to_nodups : ∀ (ts : List Str) (acc : List (List Str)), acc.Nodup → (ts.foldl treeOne acc).Nodup
  | [], _, h => h
  | x :: ts, acc, h => to_nodups ts _ (ts_nodups _ _ _ h)
theorem tree_nodup (ts : List Str) : (treeW ts).Nodup := to_nodups ts [] List.nodup_nil
theorem to_len {acc : List (List Str)} {x : Str} (h : (straightW x).length ≤ 3) : acc.length ≤ (treeOne acc x).length ∧ [] ∈ treeOne acc x ∧ (treeOne acc x).length ≤ acc.length + 3 + (if [] ∈ acc then 0 else 1) := by
  refine ⟨(ts_lens _ _ _).1, to_mem.mpr (.inr ⟨0, by omega, rfl⟩), ?_⟩
  unfold treeOne
  rw [List.range_succ_eq_map, List.foldl_cons]
  have h1 := (ts_lens (straightW x) (List.map Nat.succ (List.range (straightW x).length)) (treeStep (straightW x) acc 0)).2
  rw [List.length_map, List.length_range] at h1
  have h2 : (treeStep (straightW x) acc 0).length = acc.length + (if [] ∈ acc then 0 else 1) := by
    unfold treeStep
    rw [List.take_zero]
    split
    · rfl
    · rw [List.length_append]; rfl
  omega
theorem to_lens : ∀ (ts : List Str) (acc : List (List Str)), (∀ x ∈ ts, (straightW x).length ≤ 3) → acc.length ≤ (ts.foldl treeOne acc).length ∧ (ts.foldl treeOne acc).length ≤ acc.length + 3 * ts.length + (if [] ∈ acc then 0 else 1)
  | [], acc, _ => by simp
  | x :: ts, acc, h => by
    have h1 := to_len (acc := acc) (h x (.head _))
    have h2 := to_lens ts (treeOne acc x) fun y hy => h y (.tail _ hy)
    rw [if_pos h1.2.1] at h2
    rw [List.foldl_cons, List.length_cons]
    omega
theorem tree_two : (treeW [textW 17, textW 170]).length = 4 := by decide +kernel
theorem text_nm (script : List Int) : ∀ x ∈ lawTexts script, (∀ a ∈ straightW x, Nm a) ∧ (straightW x).length ≤ 3 := fun x hx => by
  obtain ⟨n, _, rfl⟩ := List.mem_map.mp hx
  exact straight_nm n
theorem tree_facts (script : List Int) : (∀ l ∈ treeW (lawTexts script), (∀ a ∈ l, Nm a) ∧ l.length ≤ 3) ∧ ((treeW (lawTexts script)).length ≤ 19 ∧ 4 ≤ (treeW (lawTexts script)).length) := by
  refine ⟨fun l hl => ?_, ?_, ?_⟩
  · obtain ⟨x, hx, k, hk, rfl⟩ := tree_mem.mp hl
    have := text_nm script x hx
    exact ⟨fun a ha => this.1 a (List.mem_of_mem_take ha), by rw [List.length_take]; omega⟩
  · have h1 := (to_lens (lawTexts script) [] fun x hx => (text_nm script x hx).2).2
    have h2 := (texts_len script).2
    unfold treeW
    simp at h1
    omega
  · have e : lawTexts script = [textW 17, textW 170] ++ (script.take 4).map textW := rfl
    have h := tree_two
    unfold treeW at h ⊢
    rw [e, List.foldl_append]
    have h1 := (to_lens ((script.take 4).map textW) ([textW 17, textW 170].foldl treeOne []) fun x hx => (text_nm script x (by rw [e]; exact List.mem_append_right _ hx)).2).1
    omega
theorem start_mem (script : List Int) : startW script ∈ lawTexts script := by
  have h1 := texts_len script
  unfold startW
  have h2 := Int.fmod_lt_of_pos script.sum (b := ((lawTexts script).length : Int)) (by omega)
  have h3 := Int.fmod_nonneg_of_pos script.sum (b := ((lawTexts script).length : Int)) (by omega)
  exact getD_mem (by omega)
theorem tree_prefix {ts : List Str} {a : List Str} (h : a ∈ treeW ts) (k : Nat) : a.take k ∈ treeW ts := by
  obtain ⟨x, hx, j, hj, rfl⟩ := tree_mem.mp h
  exact tree_mem.mpr ⟨x, hx, min k j, by omega, by rw [List.take_take]⟩
theorem home_mem (script : List Int) : straightW (startW script) ∈ treeW (lawTexts script) := tree_mem.mpr ⟨_, start_mem script, _, Nat.le_refl _, (List.take_length).symm⟩
theorem rows_sortable (script : List Int) : Sortable 0 ((treeW (lawTexts script)).map fun l => encR (rowOf (straightW (startW script)) l)) := by
  refine sortable_of (fun d hd => ?_) (fun a ha c hc => ?_) (.inl ⟨true, fun d hd => ?_⟩)
  · obtain ⟨l, hl, rfl⟩ := List.mem_map.mp hd
    have h := ((tree_facts script).1 l hl).1
    exact okR (way_ok h) (path_ok h) 0
  · obtain ⟨l, hl, rfl⟩ := List.mem_map.mp ha
    obtain ⟨k, hk, rfl⟩ := List.mem_map.mp hc
    rfl
  · obtain ⟨l, hl, rfl⟩ := List.mem_map.mp hd
    exact ⟨_, _, rfl, _, rfl⟩
theorem near_sortable (script : List Int) : Sortable 0 (nearK script) := by
  refine sortable_of (fun d hd => ?_) (fun a ha c hc => ?_) (.inl ⟨true, fun d hd => ?_⟩)
  · obtain ⟨l, hl, rfl⟩ := List.mem_map.mp (List.mem_reverse.mp hd)
    have h := ((tree_facts script).1 l hl).1
    have := way_ok (home := straightW (startW script)) h
    simp [keyN, kqdOk, this]
  · obtain ⟨l, hl, rfl⟩ := List.mem_map.mp (List.mem_reverse.mp ha)
    obtain ⟨k, hk, rfl⟩ := List.mem_map.mp (List.mem_reverse.mp hc)
    rfl
  · obtain ⟨l, hl, rfl⟩ := List.mem_map.mp (List.mem_reverse.mp hd)
    exact ⟨_, _, rfl, _, rfl⟩
theorem high_sortable (script : List Int) : Sortable 0 (highK script) := by
  refine sortable_of (fun d hd => ?_) (fun a ha c hc => ?_) (.inr fun d hd => ?_)
  · obtain ⟨l, hl, rfl⟩ := List.mem_map.mp hd
    rfl
  · obtain ⟨l, hl, rfl⟩ := List.mem_map.mp ha
    obtain ⟨k, hk, rfl⟩ := List.mem_map.mp hc
    rfl
  · obtain ⟨l, hl, rfl⟩ := List.mem_map.mp hd
    exact ⟨_, rfl⟩
theorem flat_sortable {tr : List (List Str)} : Sortable 0 ((List.range tr.length).map (flatF tr)) := by
  refine sortable_of (fun d hd => ?_) (fun a ha c hc => ?_) (.inl ⟨true, fun d hd => ?_⟩)
  · obtain ⟨l, hl, rfl⟩ := List.mem_map.mp hd
    rfl
  · obtain ⟨l, hl, rfl⟩ := List.mem_map.mp ha
    obtain ⟨k, hk, rfl⟩ := List.mem_map.mp hc
    rfl
  · obtain ⟨l, hl, rfl⟩ := List.mem_map.mp hd
    exact ⟨_, _, rfl, _, rfl⟩
end Mine
namespace Mine
def namesW (home l : List Str) : List Str := List.replicate (home.length - lcpN home l) (Str.ofString "..") ++ l.drop (lcpN home l)
theorem lcp_of : ∀ {home : List Str} {k : Nat} {s : List Str}, k ≤ home.length → (∀ a, s.head? = some a → home[k]? ≠ some a) → lcpN home (home.take k ++ s) = k
  | home, 0, s, _, h => by
    cases home with
    | nil => simp [lcpN]
    | cons b home =>
      cases s with
      | nil => simp [lcpN]
      | cons a s =>
        have : b ≠ a := fun e => h a rfl (by rw [e]; rfl)
        simp [lcpN, this]
  | [], k + 1, s, hk, _ => by simp at hk
  | b :: home, k + 1, s, hk, h => by
    have ih := lcp_of (home := home) (k := k) (s := s) (by simpa using hk) (fun a ha => by simpa using h a ha)
    simp [lcpN, ih]
theorem lcp_form : ∀ (home l : List Str), ∃ s, l = home.take (lcpN home l) ++ s ∧ lcpN home l ≤ home.length ∧ (∀ a, s.head? = some a → home[lcpN home l]? ≠ some a)
  | [], l => ⟨l, by simp [lcpN], by simp [lcpN], by simp [lcpN]⟩
  | b :: home, [] => ⟨[], by simp [lcpN], by simp [lcpN], by simp⟩
  | b :: home, a :: l => by
    obtain ⟨s, h1, h2, h3⟩ := lcp_form home l
    by_cases e : b = a
    · subst e
      refine ⟨s, ?_, ?_, fun a ha => ?_⟩
      · simp only [lcpN, if_true]
        rw [List.take_succ_cons, List.cons_append, ← h1]
      · simp only [lcpN, if_true, List.length_cons]; omega
      · simp only [lcpN, if_true, List.getElem?_cons_succ]; exact h3 a ha
    · refine ⟨a :: l, by simp [lcpN, e], by simp [lcpN, e], fun c hc => ?_⟩
      simp only [lcpN, if_neg e, List.getElem?_cons_zero]
      simp only [List.head?_cons, Option.some.injEq] at hc ⊢
      rw [← hc]; exact fun q => e (Option.some.inj q)
theorem names_of {home : List Str} {k : Nat} {s : List Str} (hk : k ≤ home.length) (h : ∀ a, s.head? = some a → home[k]? ≠ some a) : namesW home (home.take k ++ s) = List.replicate (home.length - k) (Str.ofString "..") ++ s := by
  unfold namesW
  rw [lcp_of hk h]
  rw [List.drop_left' (by rw [List.length_take]; omega)]
theorem names_home (home : List Str) : namesW home home = [] := by
  have := names_of (home := home) (k := home.length) (s := []) (Nat.le_refl _) (by simp)
  simpa using this
theorem names_take {home : List Str} {k : Nat} (hk : k ≤ home.length) : namesW home (home.take k) = List.replicate (home.length - k) (Str.ofString "..") := by
  have := names_of (home := home) (k := k) (s := []) hk (by simp)
  simpa using this
theorem rep_snoc (n : Nat) (v : Str) : List.replicate (n + 1) v = List.replicate n v ++ [v] := by rw [List.replicate_succ']
def mvW (p : List Str) (nm : Str) : List Str := if nm = Str.ofString ".." then p.dropLast else p ++ [nm]
theorem names_pred {home q : List Str} (hq : ∀ a ∈ q, Nm a) (hne : q ≠ home) : ∃ v nm, namesW home q = namesW home v ++ [nm] ∧ ((nm = Str.ofString ".." ∧ (∃ k, k < home.length ∧ v = home.take (k + 1) ∧ q = home.take k)) ∨ q = v ++ [nm]) := by
  obtain ⟨s, h1, h2, h3⟩ := lcp_form home q
  generalize lcpN home q = k at *
  rcases List.eq_nil_or_concat s with hs | ⟨s0, a, hs⟩
  · subst hs
    rw [List.append_nil] at h1
    have hk : k < home.length := by
      rcases Nat.lt_or_ge k home.length with h | h
      · exact h
      · exact absurd (by rw [h1, List.take_of_length_le h]) hne
    refine ⟨home.take (k + 1), _, ?_, .inl ⟨rfl, k, hk, rfl, h1⟩⟩
    rw [h1, names_take h2, names_take (by omega), ← rep_snoc]
    congr 1; omega
  · rw [List.concat_eq_append] at hs
    subst hs
    refine ⟨home.take k ++ s0, a, ?_, .inr (by rw [h1, List.append_assoc])⟩
    rw [h1, names_of h2 h3, names_of h2 (fun b hb => h3 b (by cases s0 with | nil => simp at hb | cons c s0 => simpa using hb)), List.append_assoc]
theorem names_nbr {home p : List Str} (hp : ∀ a ∈ p, Nm a) {nm : Str} (hn : nm = Str.ofString ".." ∨ nm ≠ Str.ofString "..") : namesW home (mvW p nm) = namesW home p ++ [nm] ∨ mvW p nm = p ∨ ∃ c, namesW home p = namesW home (mvW p nm) ++ [c] := by
  obtain ⟨s, h1, h2, h3⟩ := lcp_form home p
  generalize lcpN home p = k at *
  unfold mvW
  rcases hn with rfl | hn
  · rw [if_pos rfl]
    rcases List.eq_nil_or_concat s with hs | ⟨s0, a, hs⟩
    · subst hs
      rw [List.append_nil] at h1
      cases k with
      | zero => exact .inr (.inl (by rw [h1]; simp))
      | succ k =>
        have e : p.dropLast = home.take k := by
          rw [h1, List.dropLast_eq_take, List.length_take, List.take_take]
          congr 1; omega
        refine .inl ?_
        rw [e, h1, names_take h2, names_take (by omega), ← rep_snoc]
        congr 1; omega
    · rw [List.concat_eq_append] at hs
      subst hs
      refine .inr (.inr ⟨a, ?_⟩)
      rw [h1, ← List.append_assoc, List.dropLast_concat, List.append_assoc, names_of h2 h3, names_of h2 (fun b hb => h3 b (by cases s0 with | nil => simp at hb | cons c s0 => simpa using hb)), List.append_assoc]
  · rw [if_neg hn]
    by_cases hc : s = [] ∧ home[k]? = some nm
    · obtain ⟨rfl, hc⟩ := hc
      rw [List.append_nil] at h1
      have hk := (List.getElem?_eq_some_iff.mp hc).1
      refine .inr (.inr ⟨Str.ofString "..", ?_⟩)
      have e : p ++ [nm] = home.take (k + 1) := by rw [h1, List.take_add_one, hc]; rfl
      rw [e, h1, names_take h2, names_take (by omega), ← rep_snoc]
      congr 1; omega
    · refine .inl ?_
      rw [h1, List.append_assoc, names_of h2 h3, names_of h2 (fun b hb => ?_), List.append_assoc]
      cases s with
      | nil =>
        simp at hb
        subst hb
        exact fun e => hc ⟨rfl, e⟩
      | cons c s => exact h3 b (by simpa using hb)
theorem names_mv {home l : List Str} (h : ∀ a ∈ l, Nm a) : ∀ a ∈ namesW home l, Mv a := fun a ha => by
  rcases List.mem_append.mp ha with ha | ha
  · rw [(List.mem_replicate.mp ha).2]; exact mv_dd
  · exact nm_mv (h a (List.mem_of_mem_drop ha))
theorem step_dd (acc : List Str) : straightStep acc (Str.ofString "..") = acc.dropLast := by
  unfold straightStep; rw [if_pos rfl]
theorem step_nm (acc : List Str) {a : Str} (h : Nm a) : straightStep acc a = acc ++ [a] := by
  unfold straightStep
  rw [if_neg h.dd, if_neg]
  rintro (q | q)
  · exact h.ne (str_len0 q)
  · exact h.dot q
theorem step_mv (p : List Str) {nm : Str} (h : nm = Str.ofString ".." ∨ Nm nm) : straightStep p nm = mvW p nm := by
  unfold mvW
  rcases h with rfl | h
  · rw [if_pos rfl, step_dd]
  · rw [if_neg h.dd, step_nm p h]
theorem fold_dd : ∀ (n : Nat) (acc : List Str), (List.replicate n (Str.ofString "..")).foldl straightStep acc = acc.take (acc.length - n)
  | 0, acc => by simp
  | n + 1, acc => by
    rw [List.replicate_succ, List.foldl_cons, step_dd, fold_dd n, List.dropLast_eq_take, List.length_take, List.take_take]
    congr 1; omega
theorem go_names {home l : List Str} (h : ∀ a ∈ l, Nm a) : (namesW home l).foldl straightStep home = l := by
  obtain ⟨s, h1, h2, h3⟩ := lcp_form home l
  have e : l.drop (lcpN home l) = s := by
    conv => lhs; rw [h1]
    rw [List.drop_left' (by rw [List.length_take, ← h1]; omega)]
  unfold namesW
  rw [List.foldl_append, fold_dd, straight_nms _ _ (fun a ha => h a (List.mem_of_mem_drop ha)), e]
  rw [show home.length - (home.length - lcpN home l) = lcpN home l by omega]
  exact h1.symm
theorem fold_join {r : List Str} (h : ∀ a ∈ r, Mv a) (acc : List Str) : (Txt.split (Txt.join (Str.ofString "/") r) (Str.ofString "/")).foldl straightStep acc = r.foldl straightStep acc := by
  by_cases hr : r = []
  · subst hr
    rw [join_nil, split_empty, List.foldl_cons, step_empty]
  · rw [split_join hr fun a ha => (h a ha).1]
end Mine
namespace Mine
def POk (e : Ent) : Prop := PyData.strOk e.2 = true
theorem encE_inj {a b : Ent} (h : encE a = encE b) : a = b := by
  obtain ⟨n, x⟩ := a
  obtain ⟨m, y⟩ := b
  unfold encE at h
  simp only [Dat.tuple.injEq, List.cons.injEq, Dat.int.injEq, Dat.str.injEq, and_true] at h
  have h1 : n = m := by omega
  rw [h1, h.2]
theorem sw_E : SW POk ltE := ⟨fun a b ha hb h => dlt_asym (okE ha 1) (okE hb 1) h, fun a b c ha hb hc h => dlt_ntr (okE ha 1) (okE hb 1) (okE hc 1) rfl h⟩
theorem tri_E {a b : Ent} (ha : POk a) (hb : POk b) (h : a ≠ b) : ltE a b = true ∨ ltE b a = true := dlt_tri 2 _ _ (okE ha 1) (okE hb 1) rfl fun e => h (encE_inj e)
theorem len_E {a b : Ent} (h : a.1 < b.1) : ltE a b = true := by
  obtain ⟨n, x⟩ := a
  obtain ⟨m, y⟩ := b
  show dlt 2 (encE (n, x)) (encE (m, y)) = true
  unfold encE
  show lexBy (dlt 1) [.int (n : Int), .str x] [.int (m : Int), .str y] = true
  unfold lexBy
  have hne : ¬ PyData.eqv (kqdP (.int (n : Int))) (kqdP (.int (m : Int))) = true := fun q => by
    have := (eqv_iff (n := 1) (a := .int (n : Int)) (b := .int (m : Int)) rfl rfl).mp q
    have h2 := Dat.int.inj this
    dsimp only at h; omega
  rw [if_neg hne]
  show decide ((n : Int) < (m : Int)) = true
  dsimp only at h
  rw [decide_eq_true_eq]; omega
def entOf (r : List Str) : Ent := ((Txt.join (Str.ofString "/") r).length, Txt.join (Str.ofString "/") r)
def keyE (home l : List Str) : Ent := entOf (namesW home l)
theorem joins_len2 {r : List Str} {c : Str} (h : Mv c) : (entOf r).1 < (entOf (r ++ [c])).1 := by
  have hc : 0 < (cp c).length := List.length_pos_iff.mpr (mv_cp h)
  unfold entOf
  dsimp only
  rw [← cp_len, ← cp_len, join_cp, join_cp, List.map_append]
  by_cases hr : r = []
  · subst hr; simpa [joinN] using hc
  · rw [show [c].map cp = [cp c] from rfl, joinN_snoc (by simpa using hr)]; simp
theorem join_ok {r : List Str} (h : ∀ a ∈ r, PyData.strOk a = true) : PyData.strOk (Txt.join (Str.ofString "/") r) = true := by
  rw [strOk_iff, join_cp]
  intro c hc
  rcases joinN_mem hc with rfl | ⟨a, ha, hc⟩
  · decide
  · obtain ⟨q, hq, rfl⟩ := List.mem_map.mp ha
    exact (strOk_iff q).mp (h q hq) c hc
theorem names_ok2 {home l : List Str} (h : ∀ a ∈ l, Nm a) : ∀ a ∈ namesW home l, PyData.strOk a = true := fun a ha => by
  rcases List.mem_append.mp ha with ha | ha
  · rw [(List.mem_replicate.mp ha).2]; exact gr_dd.1
  · exact (h a (List.mem_of_mem_drop ha)).ok
theorem join_gr {r : List Str} (h : ∀ a ∈ r, Mv a) (h2 : ∀ a ∈ r, PyData.strOk a = true) : GR (Txt.join (Str.ofString "/") r) := by
  refine ⟨join_ok h2, fun e => ?_⟩
  rw [join_cp] at e
  cases r with
  | nil => simp [joinN] at e
  | cons a r =>
    have ha := h a (.head _)
    have hne := mv_cp ha
    cases r with
    | nil => exact ha.1 (List.mem_of_head? e)
    | cons b r =>
      simp only [List.map_cons, joinN] at e
      cases hc : cp a with
      | nil => exact hne hc
      | cons x y =>
        rw [hc] at e
        simp only [List.cons_append, List.head?_cons, Option.some.injEq] at e
        exact ha.1 (by show 47 ∈ cp a; rw [hc, e]; exact .head _)
theorem place_of (n : Int) {r : List Str} (h : ∀ a ∈ r, Mv a) (h2 : ∀ a ∈ r, PyData.strOk a = true) : normW (joinW (textW n) (Txt.join (Str.ofString "/") r)) = pathW (r.foldl straightStep (straightW (textW n))) := by
  rw [norm_join n (join_gr h h2), fold_join h]
theorem key_inj {home l k : List Str} (h1 : ∀ a ∈ l, Nm a) (h2 : ∀ a ∈ k, Nm a) (h : keyE home l = keyE home k) : l = k := by
  have e : Txt.join (Str.ofString "/") (namesW home l) = Txt.join (Str.ofString "/") (namesW home k) := congrArg Prod.snd h
  rw [← go_names (home := home) h1, ← go_names (home := home) h2, ← fold_join (names_mv h1), ← fold_join (names_mv h2), e]
theorem pushAll_spec {text : Str} : ∀ (ns : List Str) (H : List Ent), (∀ e ∈ H, POk e) → (∀ nm ∈ ns, POk ((joinW text nm).length, joinW text nm)) → HeapF ltE 0 H →
    HeapF ltE 0 (pushAll text H ns) ∧ ∀ e, e ∈ pushAll text H ns ↔ e ∈ H ∨ ∃ nm ∈ ns, e = ((joinW text nm).length, joinW text nm)
  | [], H, _, _, hH => ⟨hH, fun e => by simp [pushAll]⟩
  | nm :: ns, H, h1, h2, hH => by
    have hx := h2 nm (.head _)
    have s := push_spec sw_E h1 hx hH
    have ih := pushAll_spec (text := text) ns _ (fun e he => by
      rcases List.mem_cons.mp (s.2.mem_iff.mp he) with rfl | he
      · exact hx
      · exact h1 e he) (fun m hm => h2 m (.tail _ hm)) s.1
    have e0 : pushAll text H (nm :: ns) = pushAll text (pushF ltE H ((joinW text nm).length, joinW text nm)) ns := rfl
    rw [e0]
    refine ⟨ih.1, fun e => (ih.2 e).trans ?_⟩
    rw [s.2.mem_iff, List.mem_cons]
    constructor
    · rintro ((h | h) | ⟨m, hm, h⟩)
      · exact .inr ⟨nm, .head _, h⟩
      · exact .inl h
      · exact .inr ⟨m, .tail _ hm, h⟩
    · rintro (h | ⟨m, hm, h⟩)
      · exact .inl (.inr h)
      · rcases List.mem_cons.mp hm with rfl | hm
        · exact .inl (.inl h)
        · exact .inr ⟨m, hm, h⟩
def Kid (tr : List (List Str)) (p : List Str) (nm : Str) : Prop := nm = Str.ofString ".." ∨ (Nm nm ∧ p ++ [nm] ∈ tr)
theorem kids_iff {tr : List (List Str)} (h : ∀ l ∈ tr, ∀ a ∈ l, Nm a) {p : List Str} (hp : ∀ a ∈ p, Nm a) {nm : Str} : nm ∈ kidsW (tr.map pathW) (pathW p) ↔ Kid tr p nm := by
  unfold kidsW Kid
  rw [List.mem_cons]
  refine or_congr Iff.rfl ?_
  rw [List.mem_map]
  constructor
  · rintro ⟨q, hq, rfl⟩
    rw [List.mem_filter, Bool.and_eq_true, decide_eq_true_eq, decide_eq_true_eq] at hq
    obtain ⟨hq, hd, hne⟩ := hq
    obtain ⟨l, hl, rfl⟩ := List.mem_map.mp hq
    have hln := h l hl
    rcases List.eq_nil_or_concat l with h2 | ⟨r, a, h2⟩
    · subst h2
      rw [dir_root] at hd
      exact absurd hd hne
    · rw [List.concat_eq_append] at h2
      subst h2
      have ha : Nm a := hln a (by simp)
      have hr : ∀ b ∈ r, Nm b := fun b hb => hln b (by simp [hb])
      rw [dir_path ha.sf fun b hb => ⟨(hr b hb).ne, (hr b hb).sf⟩] at hd
      have e := path_inj hr hp hd
      subst e
      rw [base_path _ ha.sf]
      exact ⟨ha, hl⟩
  · rintro ⟨ha, hl⟩
    refine ⟨pathW (p ++ [nm]), ?_, base_path _ ha.sf⟩
    rw [List.mem_filter, Bool.and_eq_true, decide_eq_true_eq, decide_eq_true_eq]
    refine ⟨List.mem_map_of_mem hl, dir_path ha.sf fun b hb => ⟨(hp b hb).ne, (hp b hb).sf⟩, fun e => ?_⟩
    have := congrArg List.length (path_inj (h _ hl) hp e)
    simp at this
end Mine
namespace Mine
structure TreeOk (home : List Str) (tr : List (List Str)) : Prop where
  nm : ∀ l ∈ tr, ∀ a ∈ l, Nm a
  pre : ∀ l ∈ tr, ∀ k, l.take k ∈ tr
  home : home ∈ tr
  nd : tr.Nodup
structure Dij (home : List Str) (tr : List (List Str)) (H : List Ent) (ls : List (List Str)) : Prop where
  nd : ls.Nodup
  sub : ∀ l ∈ ls, l ∈ tr
  srt : ls.Pairwise fun a b => ltE (keyE home a) (keyE home b) = true
  ahead : ∀ l ∈ ls, ∀ q ∈ tr, q ∉ ls → ltE (keyE home l) (keyE home q) = true
  heap : HeapF ltE 0 H
  ok : ∀ e ∈ H, POk e
  ent : ∀ e ∈ H, (ls = [] ∧ e = keyE home home) ∨ ∃ p ∈ ls, ∃ nm, Kid tr p nm ∧ e = entOf (namesW home p ++ [nm])
  one : ls = [] → H = [keyE home home]
  fwd : ∀ q ∈ tr, q ∉ ls → (q = home ∨ ∃ p ∈ ls, ∃ nm, Kid tr p nm ∧ namesW home q = namesW home p ++ [nm]) → keyE home q ∈ H
section
variable {home : List Str} {tr : List (List Str)}
theorem kid_mv {p : List Str} {nm : Str} (k : Kid tr p nm) : nm = Str.ofString ".." ∨ Nm nm := k.imp id And.left
theorem kid_mem (T : TreeOk home tr) {p : List Str} (hp : p ∈ tr) {nm : Str} (k : Kid tr p nm) : mvW p nm ∈ tr := by
  unfold mvW
  rcases k with rfl | ⟨h, h2⟩
  · rw [if_pos rfl, List.dropLast_eq_take]; exact T.pre p hp _
  · rw [if_neg h.dd]; exact h2
theorem kid_ok {p : List Str} {nm : Str} (k : Kid tr p nm) : Mv nm ∧ PyData.strOk nm = true := by
  rcases k with rfl | ⟨h, _⟩
  · exact ⟨mv_dd, gr_dd.1⟩
  · exact ⟨nm_mv h, h.ok⟩
theorem key_ok (T : TreeOk home tr) {q : List Str} (hq : q ∈ tr) : POk (keyE home q) := join_ok (names_ok2 (T.nm q hq))
theorem ent_ok (T : TreeOk home tr) {p : List Str} (hp : p ∈ tr) {nm : Str} (k : Kid tr p nm) : POk (entOf (namesW home p ++ [nm])) := join_ok fun a ha => by
  rcases List.mem_append.mp ha with ha | ha
  · exact names_ok2 (T.nm p hp) a ha
  · rw [List.mem_singleton.mp ha]; exact (kid_ok k).2
theorem pred_of (T : TreeOk home tr) {q : List Str} (hq : q ∈ tr) (hne : q ≠ home) : ∃ v ∈ tr, ∃ nm, Kid tr v nm ∧ namesW home q = namesW home v ++ [nm] := by
  obtain ⟨v, nm, h1, h2⟩ := names_pred (home := home) (T.nm q hq) hne
  rcases h2 with ⟨rfl, k, hk, hv, _⟩ | h2
  · exact ⟨v, hv ▸ T.pre home T.home _, _, .inl rfl, h1⟩
  · refine ⟨v, ?_, nm, .inr ⟨T.nm q hq nm (by rw [h2]; simp), h2 ▸ hq⟩, h1⟩
    have := T.pre q hq v.length
    rw [h2, List.take_left'  rfl] at this
    exact this
theorem key_lt {p q : List Str} {c : Str} (hc : Mv c) (h : namesW home p = namesW home q ++ [c]) : ltE (keyE home q) (keyE home p) = true := by
  refine len_E ?_
  unfold keyE
  rw [h]
  exact joins_len2 hc
theorem names_last {p : List Str} {r : List Str} {c : Str} (hp : ∀ a ∈ p, Nm a) (h : namesW home p = r ++ [c]) : Mv c := names_mv (home := home) hp c (by rw [h]; simp)
theorem least (T : TreeOk home tr) {H : List Ent} {ls : List (List Str)} (D : Dij home tr H ls) {e : Ent} (hmin : ∀ b ∈ H, ltE b e = false) (heo : POk e) : ∀ (m : Nat) (u : List Str), (namesW home u).length = m → u ∈ tr → u ∉ ls → ltE (keyE home u) e = false := by
  intro m
  induction m using Nat.strongRecOn with
  | ind m ih =>
    intro u hm hu hn
    by_cases hh : u = home
    · exact hmin _ (D.fwd u hu hn (.inl hh))
    · obtain ⟨v, hv, nm, k, hnm⟩ := pred_of T hu hh
      by_cases hvl : v ∈ ls
      · exact hmin _ (D.fwd u hu hn (.inr ⟨v, hvl, nm, k, hnm⟩))
      · have h1 := ih (namesW home v).length (by rw [← hm, hnm]; simp) v rfl hv hvl
        have h2 := key_lt (kid_ok k).1 hnm
        exact sw_E.le_trans heo (key_ok T hv) (key_ok T hu) h1 (sw_E.asym _ _ (key_ok T hv) (key_ok T hu) h2)
variable {n : Int}
theorem place_key (T : TreeOk (straightW (textW n)) tr) {u : List Str} (hu : u ∈ tr) : normW (joinW (textW n) (keyE (straightW (textW n)) u).2) = pathW u := by
  have := place_of n (names_mv (home := straightW (textW n)) (T.nm u hu)) (names_ok2 (T.nm u hu))
  rw [go_names (T.nm u hu)] at this
  exact this
theorem place_kid (T : TreeOk (straightW (textW n)) tr) {p : List Str} (hp : p ∈ tr) {nm : Str} (k : Kid tr p nm) : normW (joinW (textW n) (entOf (namesW (straightW (textW n)) p ++ [nm])).2) = pathW (mvW p nm) := by
  have := place_of n (r := namesW (straightW (textW n)) p ++ [nm]) (fun a ha => by
    rcases List.mem_append.mp ha with ha | ha
    · exact names_mv (T.nm p hp) a ha
    · rw [List.mem_singleton.mp ha]; exact (kid_ok k).1) (fun a ha => by
    rcases List.mem_append.mp ha with ha | ha
    · exact names_ok2 (T.nm p hp) a ha
    · rw [List.mem_singleton.mp ha]; exact (kid_ok k).2)
  rw [List.foldl_append, go_names (T.nm p hp), List.foldl_cons, step_mv p (kid_mv k)] at this
  exact this
end
end Mine
namespace Mine
section
variable {tr : List (List Str)} {n : Int}
theorem dij_step {home : List Str} (hh : straightW (textW n) = home) (T : TreeOk home tr) {H : List Ent} {ls : List (List Str)} (D : Dij home tr H ls) (hne : H ≠ []) :
    ∃ H' ls', toldStep (textW n) (tr.map pathW) (H, ls.map (rowOf home)) = (H', ls'.map (rowOf home)) ∧ Dij home tr H' ls' ∧ ((ls' = ls ∧ H'.length + 1 = H.length) ∨ ∃ q, ls' = ls ++ [q] ∧ H'.length + 1 = H.length + (kidsW (tr.map pathW) (pathW q)).length) := by
  have hpop := pop_spec sw_E (d := (0, Str.ofString "")) hne D.ok D.heap
  unfold toldStep
  rw [if_neg hne]
  dsimp only
  generalize popF ltE H (0, Str.ofString "") = r at *
  obtain ⟨r1, r2⟩ := r
  obtain ⟨h1, h2, h3⟩ := hpop
  dsimp only at h1 h2 h3 ⊢
  have hmem : ∀ e, e ∈ H ↔ e = r1 ∨ e ∈ r2 := fun e => by rw [← h2.mem_iff, List.mem_cons]
  have he : r1 ∈ H := (hmem r1).mpr (.inl rfl)
  have hlen : r2.length + 1 = H.length := by rw [← h2.length_eq]; rfl
  have hr1 : POk r1 := D.ok r1 he
  obtain ⟨q, hq, hpl, hkey⟩ : ∃ q ∈ tr, normW (joinW (textW n) r1.2) = pathW q ∧ (q ∉ ls → r1 = keyE home q) := by
    rcases D.ent r1 he with ⟨_, hk⟩ | ⟨p, hp, nm, k, hk⟩
    · refine ⟨home, T.home, ?_, fun _ => hk⟩
      rw [hk]; subst hh; exact place_key T T.home
    · have hpt := D.sub p hp
      refine ⟨mvW p nm, kid_mem T hpt k, ?_, fun hn => ?_⟩
      · rw [hk]; subst hh; exact place_kid T hpt k
      · have hnb := names_nbr (home := home) (T.nm p hpt) (nm := nm) ((kid_mv k).imp id Nm.dd)
        rcases hnb with h | h | ⟨c, h⟩
        · unfold keyE; rw [h]; exact hk
        · rw [h] at hn; exact absurd hp hn
        · have hb := D.ahead p hp _ (kid_mem T hpt k) hn
          have hb2 := key_lt (names_last (T.nm p hpt) h) h
          rw [sw_E.asym _ _ (key_ok T (kid_mem T hpt k)) (key_ok T hpt) hb2] at hb
          cases hb
  have hpk : ∀ u ∈ tr, keyE home u = r1 → u = q := fun u hu e => by
    have : normW (joinW (textW n) (keyE home u).2) = pathW u := by subst hh; exact place_key T hu
    rw [e, hpl] at this
    exact (path_inj (T.nm q hq) (T.nm u hu) this).symm
  rw [hpl]
  have hmap : pathW q ∈ (ls.map (rowOf home)).map (fun r => r.2.2) ↔ q ∈ ls := by
    rw [List.map_map, List.mem_map]
    constructor
    · rintro ⟨l, hl, e⟩
      have : l = q := path_inj (T.nm l (D.sub l hl)) (T.nm q hq) e
      exact this ▸ hl
    · exact fun h => ⟨q, h, rfl⟩
  by_cases hql : q ∈ ls
  · rw [if_pos (hmap.mpr hql)]
    refine ⟨r2, ls, rfl, ⟨D.nd, D.sub, D.srt, D.ahead, h1, fun e h => D.ok e ((hmem e).mpr (.inr h)), fun e h => D.ent e ((hmem e).mpr (.inr h)), fun h => ?_, fun u hu hul hp => ?_⟩, .inl ⟨rfl, hlen⟩⟩
    · rw [h] at hql; cases hql
    · rcases (hmem _).mp (D.fwd u hu hul hp) with e | h
      · exact absurd (hpk u hu e ▸ hql) hul
      · exact h
  · rw [if_neg (fun q' => hql (hmap.mp q'))]
    have hk := hkey hql
    subst hk
    have hkm : ∀ nm, nm ∈ kidsW (tr.map pathW) (pathW q) ↔ Kid tr q nm := fun nm => kids_iff T.nm (T.nm q hq)
    have hent : ∀ nm, Kid tr q nm → ((joinW (keyE home q).2 nm).length, joinW (keyE home q).2 nm) = entOf (namesW home q ++ [nm]) := fun nm k => by
      have e : joinW (keyE home q).2 nm = Txt.join (Str.ofString "/") (namesW home q ++ [nm]) := mv_join (names_mv (T.nm q hq)) (kid_ok k).1
      rw [e]; rfl
    have hpa := pushAll_spec (text := (keyE home q).2) (kidsW (tr.map pathW) (pathW q)) r2 (fun e h => D.ok e ((hmem e).mpr (.inr h))) (fun nm hn => by rw [hent nm ((hkm nm).mp hn)]; exact ent_ok T hq ((hkm nm).mp hn)) h1
    have hpl2 := (pushAll_mem (text := (keyE home q).2) (kidsW (tr.map pathW) (pathW q)) r2).2
    generalize pushAll (keyE home q).2 r2 (kidsW (tr.map pathW) (pathW q)) = H' at *
    have hmin : ∀ u ∈ tr, u ∉ ls → u ≠ q → ltE (keyE home q) (keyE home u) = true := fun u hu hul hne2 => by
      have hl := least T D h3 hr1 _ u rfl hu hul
      rcases tri_E hr1 (key_ok T hu) (fun e => hne2 (hpk u hu e.symm)) with h | h
      · exact h
      · rw [hl] at h; cases h
    have hlq : ∀ x, x ∈ ls ++ [q] ↔ x ∈ ls ∨ x = q := fun x => by rw [List.mem_append, List.mem_singleton]
    refine ⟨H', ls ++ [q], ?_, ⟨?_, ?_, ?_, ?_, hpa.1, ?_, ?_, ?_, ?_⟩, .inr ⟨q, rfl, by omega⟩⟩
    · rw [List.map_append]; rfl
    · rw [List.nodup_append]
      exact ⟨D.nd, by simp, fun a ha b hb e => hql (by rw [List.mem_singleton.mp hb] at e; exact e ▸ ha)⟩
    · intro l hl
      rcases (hlq l).mp hl with h | rfl
      · exact D.sub l h
      · exact hq
    · rw [List.pairwise_append]
      refine ⟨D.srt, by simp, fun a ha b hb => ?_⟩
      rw [List.mem_singleton.mp hb]
      exact D.ahead a ha q hq hql
    · intro l hl u hu hul
      have hu1 : u ∉ ls := fun h => hul ((hlq u).mpr (.inl h))
      have hu2 : u ≠ q := fun h => hul ((hlq u).mpr (.inr h))
      rcases (hlq l).mp hl with h | rfl
      · exact D.ahead l h u hu hu1
      · exact hmin u hu hu1 hu2
    · intro e h
      rcases (hpa.2 e).mp h with h | ⟨nm, hn, rfl⟩
      · exact D.ok e ((hmem e).mpr (.inr h))
      · rw [hent nm ((hkm nm).mp hn)]; exact ent_ok T hq ((hkm nm).mp hn)
    · intro e h
      refine .inr ?_
      rcases (hpa.2 e).mp h with h | ⟨nm, hn, rfl⟩
      · rcases D.ent e ((hmem e).mpr (.inr h)) with ⟨h0, _⟩ | ⟨p, hp, nm, k, hk⟩
        · have := D.one h0
          rw [this] at hlen
          simp at hlen
          rw [hlen] at h; cases h
        · exact ⟨p, (hlq p).mpr (.inl hp), nm, k, hk⟩
      · exact ⟨q, (hlq q).mpr (.inr rfl), nm, (hkm nm).mp hn, hent nm ((hkm nm).mp hn)⟩
    · intro h; simp at h
    · intro u hu hul hp
      have hu1 : u ∉ ls := fun h => hul ((hlq u).mpr (.inl h))
      have hu2 : u ≠ q := fun h => hul ((hlq u).mpr (.inr h))
      have keep : (u = home ∨ ∃ p ∈ ls, ∃ nm, Kid tr p nm ∧ namesW home u = namesW home p ++ [nm]) → keyE home u ∈ H' := fun hp => by
        rcases (hmem _).mp (D.fwd u hu hu1 hp) with e | h
        · exact absurd (hpk u hu e) hu2
        · exact (hpa.2 _).mpr (.inl h)
      rcases hp with hp | ⟨p, hp, nm, k, hn⟩
      · exact keep (.inl hp)
      · rcases (hlq p).mp hp with h | rfl
        · exact keep (.inr ⟨p, h, nm, k, hn⟩)
        · refine (hpa.2 _).mpr (.inr ⟨nm, (hkm nm).mpr k, ?_⟩)
          rw [hent nm k]; unfold keyE; rw [hn]
theorem dij_start {home : List Str} (T : TreeOk home tr) : Dij home tr [(0, Str.ofString "")] [] := by
  have e : keyE home home = (0, Str.ofString "") := by
    unfold keyE entOf; rw [names_home, join_nil]; rfl
  refine ⟨.nil, (fun _ h => nomatch h), .nil, (fun _ h => nomatch h), fun i hi hs a b ha hb => ?_, fun e' h => ?_, fun e' h => .inl ⟨rfl, ?_⟩, fun _ => by rw [e], fun q hq _ h => ?_⟩
  · have := (List.getElem?_eq_some_iff.mp hb).1
    simp at this; omega
  · rw [List.mem_singleton.mp h]; exact gr_empty.1
  · rw [List.mem_singleton.mp h, e]
  · rcases h with rfl | ⟨p, hp, _⟩
    · rw [e]; exact .head _
    · cases hp
end
end Mine
namespace Mine
theorem sub_len {α : Type} [DecidableEq α] : ∀ {l k : List α}, l.Nodup → (∀ a ∈ l, a ∈ k) → l.length ≤ k.length
  | [], k, _, _ => Nat.zero_le _
  | a :: l, k, h1, h2 => by
    rw [List.nodup_cons] at h1
    have ha : a ∈ k := h2 a (.head _)
    have h3 := sub_len (l := l) (k := k.erase a) h1.2 (fun b hb => (List.mem_erase_of_ne (fun (e : b = a) => h1.1 (by rw [← e]; exact hb))).mpr (h2 b (.tail _ hb)))
    rw [List.length_erase_of_mem ha] at h3
    have : 0 < k.length := List.length_pos_of_mem ha
    rw [List.length_cons]; omega
theorem sum_one {α β : Type} [DecidableEq β] (f : α → β) (c : α → Bool) (x : β) : ∀ (ls : List α), (ls.map f).Nodup → (ls.map fun l => if (decide (x = f l) && c l) = true then 1 else 0).sum ≤ 1
  | [], _ => by simp
  | a :: ls, h => by
    rw [List.map_cons, List.nodup_cons] at h
    rw [List.map_cons, List.sum_cons]
    have ih := sum_one f c x ls h.2
    by_cases e : x = f a
    · have z : (ls.map fun l => if (decide (x = f l) && c l) = true then 1 else 0).sum = 0 := by
        have : ∀ (ks : List α), (∀ b ∈ ks, x ≠ f b) → (ks.map fun l => if (decide (x = f l) && c l) = true then 1 else 0).sum = 0 := by
          intro ks
          induction ks with
          | nil => intro _; rfl
          | cons b ks ihk =>
            intro hk
            rw [List.map_cons, List.sum_cons, ihk (fun d hd => hk d (.tail _ hd)), decide_eq_false (hk b (.head _))]
            simp
        exact this ls fun b hb q => h.1 (by rw [← e, q]; exact List.mem_map_of_mem hb)
      rw [z]
      split <;> omega
    · rw [decide_eq_false e]
      simpa using ih
theorem sum_add {α : Type} (f g : α → Nat) : ∀ ls : List α, (ls.map fun l => f l + g l).sum = (ls.map f).sum + (ls.map g).sum
  | [] => rfl
  | a :: ls => by simp only [List.map_cons, List.sum_cons, sum_add f g ls]; omega
theorem sum_const {α : Type} (c : Nat) : ∀ ls : List α, (ls.map fun _ => c).sum = c * ls.length
  | [] => by simp
  | a :: ls => by simp only [List.map_cons, List.sum_cons, sum_const c ls, List.length_cons, Nat.mul_succ]; omega
theorem sum_filter {α : Type} (f : α → Str) (ls : List α) (hn : (ls.map f).Nodup) : ∀ (Q : List Str), (ls.map fun l => (Q.filter fun q => decide (dirnameW q = f l) && decide (q ≠ f l)).length).sum ≤ Q.length
  | [] => by
    simp only [List.filter_nil, List.length_nil]
    rw [sum_const]; omega
  | q :: Q => by
    have ih := sum_filter f ls hn Q
    have h1 := sum_one f (fun l => decide (q ≠ f l)) (dirnameW q) ls hn
    have e : (fun l => ((q :: Q).filter fun q => decide (dirnameW q = f l) && decide (q ≠ f l)).length) = fun l => (if (decide (dirnameW q = f l) && decide (q ≠ f l)) = true then 1 else 0) + (Q.filter fun q => decide (dirnameW q = f l) && decide (q ≠ f l)).length := by
      funext l
      rw [List.filter_cons]
      split
      · rw [List.length_cons]; omega
      · omega
    rw [e, sum_add, List.length_cons]
    omega
section
variable {tr : List (List Str)} {n : Int} {home : List Str}
def kidsN (tr : List (List Str)) (l : List Str) : Nat := (kidsW (tr.map pathW) (pathW l)).length
theorem kids_sum (T : TreeOk home tr) {ls : List (List Str)} (h1 : ls.Nodup) (h2 : ∀ l ∈ ls, l ∈ tr) : (ls.map (kidsN tr)).sum ≤ 2 * tr.length := by
  have hm : (ls.map pathW).Nodup := by
    unfold List.Nodup
    rw [List.pairwise_map]
    exact h1.imp_of_mem fun ha hb hne e => hne (path_inj (T.nm _ (h2 _ ha)) (T.nm _ (h2 _ hb)) e)
  have h3 := sum_filter pathW ls hm (tr.map pathW)
  have e : kidsN tr = fun l => 1 + ((tr.map pathW).filter fun q => decide (dirnameW q = pathW l) && decide (q ≠ pathW l)).length := by
    funext l
    unfold kidsN kidsW
    rw [List.length_cons, List.length_map]; omega
  rw [e, sum_add, sum_const]
  have h4 := sub_len h1 h2
  rw [List.length_map] at h3
  omega
theorem dij_turns (hh : straightW (textW n) = home) (T : TreeOk home tr) : ∀ i, ∃ H ls, iterN (toldStep (textW n) (tr.map pathW)) i ([(0, Str.ofString "")], []) = (H, ls.map (rowOf home)) ∧ Dij home tr H ls ∧ (H = [] ∨ i + H.length = 1 + (ls.map (kidsN tr)).sum)
  | 0 => ⟨_, [], rfl, dij_start T, .inr rfl⟩
  | i + 1 => by
    obtain ⟨H, ls, h1, h2, h3⟩ := dij_turns hh T i
    rw [iterN, h1]
    by_cases he : H = []
    · subst he
      refine ⟨[], ls, ?_, h2, .inl rfl⟩
      unfold toldStep; rw [if_pos rfl]
    · obtain ⟨H', ls', a, b, c⟩ := dij_step hh T h2 he
      refine ⟨H', ls', a, b, .inr ?_⟩
      have h4 := h3.resolve_left he
      rcases c with ⟨rfl, c⟩ | ⟨q, rfl, c⟩
      · omega
      · rw [List.map_append, List.sum_append]
        simp only [List.map_cons, List.map_nil, List.sum_cons, List.sum_nil, kidsN] at *
        omega
theorem dij_end (hh : straightW (textW n) = home) (T : TreeOk home tr) : ∃ ls : List (List Str), toldW (textW n) (tr.map pathW) = ([], ls.map (rowOf home)) ∧ ls.Perm tr ∧ ls.Pairwise fun a b => ltE (keyE home a) (keyE home b) = true := by
  obtain ⟨H, ls, h1, D, h3⟩ := dij_turns hh T (2 * (tr.map pathW).length + 1)
  have hs := kids_sum T D.nd D.sub
  have hH : H = [] := by
    rcases h3 with h | h
    · exact h
    · rw [List.length_map] at h; exact List.eq_nil_of_length_eq_zero (by omega)
  subst hH
  have all : ∀ (m : Nat) (u : List Str), (namesW home u).length = m → u ∈ tr → u ∈ ls := by
    intro m
    induction m using Nat.strongRecOn with
    | ind m ih =>
      intro u hm hu
      refine Classical.byContradiction fun hn => ?_
      by_cases hh2 : u = home
      · exact nomatch D.fwd u hu hn (.inl hh2)
      · obtain ⟨v, hv, nm, k, hnm⟩ := pred_of T hu hh2
        exact nomatch D.fwd u hu hn (.inr ⟨v, ih _ (by rw [← hm, hnm]; simp) v rfl hv, nm, k, hnm⟩)
  refine ⟨ls, h1, ?_, D.srt⟩
  rw [List.perm_ext_iff_of_nodup D.nd T.nd]
  exact fun a => ⟨D.sub a, all _ a rfl⟩
end
end Mine
namespace Mine
theorem sorted_strict {k : Nat} {ks es : List Dat} (h1 : ∀ d ∈ ks, kqdOk k d = true) (h2 : ∀ a ∈ ks, ∀ c ∈ ks, dcmp k a c = true) (hn : ks.Nodup) (h : SortedBy k ks ks es) : es.Perm ks ∧ es.Pairwise fun a b => dlt k a b = true := by
  obtain ⟨p, hp, hs, rfl⟩ := h
  have hm : ∀ {i}, i ∈ p → i < ks.length := fun {i} hi => List.mem_range.mp (hp.mem_iff.mp hi)
  constructor
  · have := hp.map fun i => ks.getD i .none
    refine this.trans (.of_eq ?_)
    refine List.ext_getElem (by simp) fun i hi _ => ?_
    simp only [List.length_map, List.length_range] at hi
    rw [List.getElem_map, List.getElem_range, List.getD_eq_getElem?_getD, List.getElem?_eq_getElem hi]; rfl
  · rw [List.pairwise_map]
    have hnd : p.Nodup := hp.nodup_iff.mpr List.nodup_range
    have both : p.Pairwise fun a b => SB (ltIx k ks) a b ∧ a ≠ b := by
      have := hs.and hnd
      exact this
    refine both.imp_of_mem fun {a b} ha hb ⟨hab, hne⟩ => ?_
    have la := hm ha
    have lb := hm hb
    rcases hab with h | ⟨h, _⟩
    · exact h
    · have ea : ks.getD a .none = ks[a] := by rw [List.getD_eq_getElem?_getD, List.getElem?_eq_getElem la]; rfl
      have eb : ks.getD b .none = ks[b] := by rw [List.getD_eq_getElem?_getD, List.getElem?_eq_getElem lb]; rfl
      have hd : ks[a] ≠ ks[b] := fun e => by
        have hg := List.pairwise_iff_getElem.mp hn
        rcases Nat.lt_or_gt_of_ne hne with q | q
        · exact hg a b la lb q e
        · exact hg b a lb la q e.symm
      have ma : ks[a] ∈ ks := List.getElem_mem la
      have mb : ks[b] ∈ ks := List.getElem_mem lb
      unfold ltIx at h
      rw [ea, eb] at h ⊢
      rcases dlt_tri k _ _ (h1 _ ma) (h1 _ mb) (h2 _ ma _ mb) hd with q | q
      · exact q
      · rw [h] at q; cases q
theorem tree_ok (script : List Int) : TreeOk (straightW (startW script)) (treeW (lawTexts script)) :=
  ⟨fun l hl => ((tree_facts script).1 l hl).1, fun l hl k => tree_prefix hl k, home_mem script, tree_nodup _⟩
theorem row_lt {home l k : List Str} (h1 : PyData.strOk (wayW home l) = true) (h2 : PyData.strOk (wayW home k) = true) (h : ltE (keyE home l) (keyE home k) = true) : dlt 1 (encR (rowOf home l)) (encR (rowOf home k)) = true := by
  have h' : dlt 2 (encE ((wayW home l).length, wayW home l)) (encE ((wayW home k).length, wayW home k)) = true := h
  unfold encE at h'
  unfold encR rowOf
  change lexBy (dlt 1) [.int ((wayW home l).length : Int), .str (wayW home l)] [.int ((wayW home k).length : Int), .str (wayW home k)] = true at h'
  show lexBy (dlt 0) [.int ((wayW home l).length : Int), .str (wayW home l), .str (pathW l)] [.int ((wayW home k).length : Int), .str (wayW home k), .str (pathW k)] = true
  generalize wayW home l = x at *
  generalize wayW home k = y at *
  unfold lexBy at h' ⊢
  split
  · rename_i e
    rw [if_pos e] at h'
    unfold lexBy at h' ⊢
    split
    · rename_i e2
      rw [if_pos e2] at h'
      simp [lexBy] at h'
    · rename_i e2
      rw [if_neg e2] at h'
      exact h'
  · rename_i e
    rw [if_neg e] at h'
    exact h'
theorem encR_inj {a b : Row} (h : encR a = encR b) : a = b := by
  obtain ⟨n, x, p⟩ := a
  obtain ⟨m, y, q⟩ := b
  unfold encR at h
  simp only [Dat.tuple.injEq, List.cons.injEq, Dat.int.injEq, Dat.str.injEq, and_true] at h
  have h1 : n = m := by omega
  rw [h1, h.2.1, h.2.2]
theorem rows_nodup (script : List Int) : (rowsD script).Nodup := by
  unfold rowsD List.Nodup
  rw [List.pairwise_map]
  have T := tree_ok script
  exact T.nd.imp_of_mem fun ha hb hne e => hne (path_inj (T.nm _ ha) (T.nm _ hb) (congrArg (fun r : Row => r.2.2) (encR_inj e)))
theorem told_rows (script : List Int) : ∃ ls : List (List Str), toldW (startW script) ((treeW (lawTexts script)).map pathW) = ([], ls.map (rowOf (straightW (startW script)))) ∧ ls.Perm (treeW (lawTexts script)) ∧ ls.Pairwise fun a b => ltE (keyE (straightW (startW script)) a) (keyE (straightW (startW script)) b) = true := by
  obtain ⟨n, _, e⟩ := List.mem_map.mp (start_mem script)
  have T := tree_ok script
  rw [← e] at T ⊢
  exact dij_end rfl T
theorem due_rows (script : List Int) {es : List Dat} (h : SortedBy 1 (rowsD script) (rowsD script) es) : ∃ ls : List (List Str), toldW (startW script) ((treeW (lawTexts script)).map pathW) = ([], ls.map (rowOf (straightW (startW script)))) ∧ ls.Perm (treeW (lawTexts script)) ∧ (ls.Pairwise fun a b => ltE (keyE (straightW (startW script)) a) (keyE (straightW (startW script)) b) = true) ∧ es = ls.map fun l => encR (rowOf (straightW (startW script)) l) := by
  obtain ⟨ls, h1, h2, h3⟩ := told_rows script
  refine ⟨ls, h1, h2, h3, ?_⟩
  have S := rows_sortable script
  have T := tree_ok script
  have hs := sorted_strict S.ok S.cmp (rows_nodup script) h
  have hp : (ls.map fun l => encR (rowOf (straightW (startW script)) l)).Perm (rowsD script) := h2.map _
  refine perm_unique (hs.1.trans hp.symm) (fun x hx y hy hxy hyx => ?_) hs.2 ?_
  · have := dlt_asym (S.ok _ (hs.1.mem_iff.mp hx)) (S.ok _ (hs.1.mem_iff.mp hy)) hxy
    rw [hyx] at this; cases this
  · rw [List.pairwise_map]
    refine h3.imp_of_mem fun ha hb hab => row_lt ?_ ?_ hab
    · exact way_ok (T.nm _ (h2.mem_iff.mp ha))
    · exact way_ok (T.nm _ (h2.mem_iff.mp hb))
theorem told_law (script : List Int) {es : List Dat} (h : SortedBy 1 (rowsD script) (rowsD script) es) : (toldW (startW script) ((treeW (lawTexts script)).map pathW)).2.map encR = es ∧ (toldW (startW script) ((treeW (lawTexts script)).map pathW)).1 = [] := by
  obtain ⟨ls, h1, _, _, h4⟩ := due_rows script h
  rw [h1, h4]
  exact ⟨by rw [List.map_map]; rfl, rfl⟩
end Mine
namespace Mine
def TP (ks ds : List Dat) (p : Nat × Nat) : Dat := .tuple [ks.getD p.1 .none, .int (p.2 : Int), ds.getD p.1 .none]
theorem perm_map_ex {α β : Type} {f : α → β} : ∀ {l : List β} {k : List α}, l.Perm (k.map f) → ∃ k' : List α, k'.Perm k ∧ l = k'.map f := by
  intro l
  induction l with
  | nil =>
    intro k h
    have : k.map f = [] := List.nil_perm.mp h
    exact ⟨[], by rw [List.map_eq_nil_iff] at this; rw [this], rfl⟩
  | cons a l ih =>
    intro k h
    have ha : a ∈ k.map f := h.mem_iff.mp (.head _)
    obtain ⟨x, hx, rfl⟩ := List.mem_map.mp ha
    obtain ⟨k1, k2, rfl⟩ := List.append_of_mem hx
    have e : (k1 ++ x :: k2).Perm (x :: (k1 ++ k2)) := List.perm_middle
    have h2 := (h.trans (e.map f))
    rw [List.map_cons, List.perm_cons] at h2
    obtain ⟨k', p, rfl⟩ := ih h2
    exact ⟨x :: k', (p.cons x).trans e.symm, rfl⟩
theorem nd_fst {α β : Type} : ∀ {js : List (α × β)}, (js.map Prod.fst).Nodup → ∀ {p q : α × β}, p ∈ js → q ∈ js → p.1 = q.1 → p = q
  | [], _, p, q, hp, _, _ => nomatch hp
  | a :: js, h, p, q, hp, hq, e => by
    rw [List.map_cons, List.nodup_cons] at h
    rcases List.mem_cons.mp hp with e1 | h1 <;> rcases List.mem_cons.mp hq with e2 | h2
    · rw [e1, e2]
    · exact absurd (List.mem_map.mpr ⟨q, h2, by rw [← e, e1]⟩) h.1
    · exact absurd (List.mem_map.mpr ⟨p, h1, by rw [e, e2]⟩) h.1
    · exact nd_fst h.2 h1 h2 e
section
variable {k : Nat} {ks ds : List Dat}
theorem tp_lt (hl : ks.length = ds.length) (hok : ∀ d ∈ ks, kqdOk (k + 1) d = true) (hcmp : ∀ a ∈ ks, ∀ c ∈ ks, dcmp (k + 1) a c = true) {p q : Nat × Nat} (hp : p.1 < ds.length) (hq : q.1 < ds.length) (hne : p.1 ≠ q.1) (h1 : p.1 < q.1 → p.2 < q.2) (h2 : q.1 < p.1 → q.2 < p.2) :
    dlt (k + 2) (TP ks ds p) (TP ks ds q) = true ↔ SB (ltIx (k + 1) ks) p.1 q.1 := by
  have m1 := getD_mem (d := Dat.none) (show p.1 < ks.length by omega)
  have m2 := getD_mem (d := Dat.none) (show q.1 < ks.length by omega)
  have o1 := hok _ m1
  have o2 := hok _ m2
  have c1 := hcmp _ m1 _ m2
  show lexBy (dlt (k + 1)) [ks.getD p.1 .none, .int (p.2 : Int), ds.getD p.1 .none] [ks.getD q.1 .none, .int (q.2 : Int), ds.getD q.1 .none] = true ↔ _
  unfold SB ltIx
  generalize ks.getD p.1 .none = x at *
  generalize ks.getD q.1 .none = y at *
  rw [lexBy]
  by_cases e : x = y
  · subst e
    rw [if_pos ((eqv_iff o1 o1).mpr rfl), dlt_irr _ _ o1, lexBy]
    have i1 : kqdOk (k + 1) (Dat.int (p.2 : Int)) = true := rfl
    have i2 : kqdOk (k + 1) (Dat.int (q.2 : Int)) = true := rfl
    rw [if_neg (fun h => by
      have := (eqv_iff i1 i2).mp h
      injection this with this
      omega)]
    show decide ((p.2 : Int) < (q.2 : Int)) = true ↔ _
    rw [decide_eq_true_eq]
    constructor
    · intro h
      exact .inr ⟨rfl, by omega⟩
    · rintro (h | h)
      · cases h
      · have := h1 h.2; omega
  · rw [if_neg (fun h => e ((eqv_iff o1 o2).mp h))]
    constructor
    · exact .inl
    · rintro (h | h)
      · exact h
      · rcases dlt_tri _ x y o1 o2 c1 e with q | q
        · exact q
        · rw [h.1] at q; cases q
structure NsI (k : Nat) (ks ds : List Dat) (n m : Nat) (st : List Dat × Nat) (js : List (Nat × Nat)) : Prop where
  perm : st.1.Perm (js.map (TP ks ds))
  nd : (js.map Prod.fst).Nodup
  len : js.length = n
  lt : ∀ p ∈ js, p.1 < m ∧ p.2 < st.2
  mono : ∀ p ∈ js, ∀ q ∈ js, p.1 < q.1 → p.2 < q.2
  heap : HeapF (fun p q => dlt (k + 2) q p) 0 st.1
  top : ∀ i, i < m → i ∉ js.map Prod.fst → ∀ p ∈ js, SB (ltIx (k + 1) ks) p.1 i
theorem trip_sw (hl : ks.length = ds.length) (h1 : ∀ d ∈ ks, kqdOk (k + 1) d = true) (h2 : ∀ a ∈ ks, ∀ c ∈ ks, dcmp (k + 1) a c = true) (h3 : ∀ d ∈ ds, kqdOk (k + 1) d = true) (h4 : ∀ a ∈ ds, ∀ c ∈ ds, dcmp (k + 1) a c = true) : SW (TripD ks ds) (fun p q => dlt (k + 2) q p) :=
  ⟨fun a b ha hb h => dlt_asym (trip_ok hl h1 h3 hb) (trip_ok hl h1 h3 ha) h, fun a b c ha hb hc h => (dlt_ntr (trip_ok hl h1 h3 hc) (trip_ok hl h1 h3 hb) (trip_ok hl h1 h3 ha) (trip_cmp hl h2 h4 hc hb) h).symm⟩
theorem tp_trip {m : Nat} {p : Nat × Nat} (h : p.1 < m) (hm : m ≤ ds.length) : TripD ks ds (TP ks ds p) := ⟨p.1, p.2, by omega, rfl⟩
theorem ns_start {n : Nat} (hl : ks.length = ds.length) (hn : n < ds.length) (h1 : ∀ d ∈ ks, kqdOk (k + 1) d = true) (h2 : ∀ a ∈ ks, ∀ c ∈ ks, dcmp (k + 1) a c = true) (h3 : ∀ d ∈ ds, kqdOk (k + 1) d = true) (h4 : ∀ a ∈ ds, ∀ c ∈ ds, dcmp (k + 1) a c = true) : NsI k ks ds n n (nsState (k + 1) ks ds n 0) ((List.range n).map fun j => (j, j)) := by
  have e : (List.range n).map (trip ks ds) = ((List.range n).map fun j => (j, j)).map (TP ks ds) := by rw [List.map_map]; rfl
  have hs := heapify_spec (trip_sw hl h1 h2 h3 h4) (l := (List.range n).map (trip ks ds)) (fun a ha => by
    obtain ⟨j, hj, rfl⟩ := List.mem_map.mp ha
    rw [List.mem_range] at hj
    exact ⟨j, j, by omega, rfl⟩)
  have ef : ((List.range n).map fun j => (j, j)).map Prod.fst = List.range n := by
    rw [List.map_map]; exact List.map_id _
  refine ⟨hs.2.trans (.of_eq e), ?_, ?_, ?_, ?_, hs.1, ?_⟩
  · rw [ef]; exact List.nodup_range
  · simp
  · intro p hp
    obtain ⟨j, hj, rfl⟩ := List.mem_map.mp hp
    rw [List.mem_range] at hj
    exact ⟨hj, hj⟩
  · intro p hp q hq h
    obtain ⟨j, hj, rfl⟩ := List.mem_map.mp hp
    obtain ⟨i, hi, rfl⟩ := List.mem_map.mp hq
    exact h
  · intro i hi h
    rw [ef] at h
    exact absurd (List.mem_range.mpr hi) h
theorem ns_step {n m : Nat} {st : List Dat × Nat} {js : List (Nat × Nat)} (hl : ks.length = ds.length) (h0 : 0 < n) (hm : m < ds.length) (h1 : ∀ d ∈ ks, kqdOk (k + 1) d = true) (h2 : ∀ a ∈ ks, ∀ c ∈ ks, dcmp (k + 1) a c = true) (h3 : ∀ d ∈ ds, kqdOk (k + 1) d = true) (h4 : ∀ a ∈ ds, ∀ c ∈ ds, dcmp (k + 1) a c = true) (I : NsI k ks ds n m st js) : ∃ js', NsI k ks ds n (m + 1) (nsStep (k + 1) ks ds st m) js' := by
  have W : SWO ks.length (ltIx (k + 1) ks) := swo_of h1 h2
  have V := trip_sw hl h1 h2 h3 h4
  obtain ⟨L, c⟩ := st
  have hP : ∀ a ∈ L, TripD ks ds a := fun a ha => by
    obtain ⟨p, hp, rfl⟩ := List.mem_map.mp (I.perm.mem_iff.mp ha)
    exact tp_trip (I.lt p hp).1 (by omega)
  have hlen : L.length = n := by have := I.perm.length_eq; rw [List.length_map, I.len] at this; exact this
  have hLp : L.Perm (js.map (TP ks ds)) := I.perm
  cases L with
  | nil => simp at hlen; omega
  | cons d0 r =>
  obtain ⟨x, hx, ex⟩ := List.mem_map.mp (hLp.mem_iff.mp (.head _))
  have hmin := heap_min V hP I.heap (a := d0) rfl
  have hxm := (I.lt x hx).1
  have htop : ∀ p ∈ js, p.1 ≠ x.1 → SB (ltIx (k + 1) ks) p.1 x.1 := fun p hp hne => by
    rcases SB.total (lt := ltIx (k + 1) ks) hne with h | h
    · exact h
    · exfalso
      have := (tp_lt hl h1 h2 (p := x) (q := p) (by omega) (by have := (I.lt p hp).1; omega) (fun e => hne e.symm) (I.mono x hx p hp) (I.mono p hp x hx)).mpr h
      obtain ⟨i, hi⟩ := List.getElem?_of_mem (hLp.mem_iff.mpr (List.mem_map.mpr ⟨p, hp, rfl⟩))
      have q := hmin i _ hi
      rw [← ex, this] at q; cases q
  unfold nsStep
  dsimp only
  have e0 : (d0 :: r).getD 0 Dat.none = d0 := rfl
  have e1 : fstD d0 = ks.getD x.1 .none := by rw [← ex]; rfl
  rw [e0, e1]
  show ∃ js', NsI k ks ds n (m + 1) (if ltIx (k + 1) ks m x.1 = true then (siftupF (fun p q => dlt (k + 2) q p) ((d0 :: r).set 0 (TP ks ds (m, c))) 0 (TP ks ds (m, c)), c + 1) else (d0 :: r, c)) js'
  by_cases hc : ltIx (k + 1) ks m x.1 = true
  · rw [if_pos hc]
    obtain ⟨j1, j2, ej⟩ := List.append_of_mem hx
    have hj : js.Perm (x :: (j1 ++ j2)) := by rw [ej]; exact List.perm_middle
    generalize j1 ++ j2 = js0 at hj
    clear ej j1 j2
    have hsub : ∀ p ∈ js0, p ∈ js := fun p hp => hj.mem_iff.mpr (.tail _ hp)
    have hnd : (x :: js0).map Prod.fst |>.Nodup := (hj.map Prod.fst).nodup_iff.mp I.nd
    rw [List.map_cons, List.nodup_cons] at hnd
    have hne : ∀ p ∈ js0, p.1 ≠ x.1 := fun p hp e => hnd.1 (List.mem_map.mpr ⟨p, hp, e⟩)
    have hr : r.Perm (js0.map (TP ks ds)) := by
      have := hLp.trans (hj.map (TP ks ds))
      rw [List.map_cons, ex, List.perm_cons] at this
      exact this
    have hnew : TripD ks ds (TP ks ds (m, c)) := ⟨m, c, hm, rfl⟩
    have hs := siftup_spec V (l := (d0 :: r).set 0 (TP ks ds (m, c))) (s := 0) (x := TP ks ds (m, c)) (by simp) (set_mem hP hnew) hnew (fun i hi hs e1 e2 a b ha hb => by
      rw [List.getElem?_set, if_neg (fun q => e2 q.symm)] at ha
      rw [List.getElem?_set, if_neg (fun q => e1 q.symm)] at hb
      exact I.heap i hi hs a b ha hb)
    refine ⟨(m, c) :: js0, ?_, ?_, ?_, ?_, ?_, hs.1, ?_⟩
    · refine hs.2.trans ?_
      rw [List.set_set, List.set_cons_zero, List.map_cons]
      exact hr.cons _
    · rw [List.map_cons, List.nodup_cons]
      refine ⟨fun h => ?_, hnd.2⟩
      obtain ⟨p, hp, e⟩ := List.mem_map.mp h
      have := (I.lt p (hsub p hp)).1
      dsimp only at e; omega
    · have := hj.length_eq
      rw [I.len] at this
      simp only [List.length_cons] at this ⊢
      exact this.symm
    · intro p hp
      rcases List.mem_cons.mp hp with rfl | hp
      · exact ⟨Nat.lt_succ_self _, Nat.lt_succ_self _⟩
      · have := I.lt p (hsub p hp)
        exact ⟨Nat.lt_succ_of_lt this.1, Nat.lt_succ_of_lt this.2⟩
    · intro p hp q hq h
      rcases List.mem_cons.mp hp with rfl | hp <;> rcases List.mem_cons.mp hq with rfl | hq
      · exact absurd h (Nat.lt_irrefl _)
      · have := (I.lt q (hsub q hq)).1
        dsimp only at h; omega
      · exact (I.lt p (hsub p hp)).2
      · exact I.mono p (hsub p hp) q (hsub q hq) h
    · intro i hi h p hp
      rw [List.map_cons, List.mem_cons, not_or] at h
      have him : i < m := by
        have := h.1; dsimp only at this; omega
      have hxi : i = x.1 ∨ SB (ltIx (k + 1) ks) x.1 i := by
        by_cases q : i = x.1
        · exact .inl q
        · refine .inr (I.top i him (fun h' => ?_) x hx)
          have := (hj.map Prod.fst).mem_iff.mp h'
          rw [List.map_cons, List.mem_cons] at this
          exact this.elim q h.2
      rcases List.mem_cons.mp hp with rfl | hp
      · have hmx : SB (ltIx (k + 1) ks) m x.1 := .inl hc
        rcases hxi with rfl | q
        · exact hmx
        · exact hmx.trans W (by omega) (by omega) (by omega) q
      · have hpl := (I.lt p (hsub p hp)).1
        have hpx := htop p (hsub p hp) (hne p hp)
        rcases hxi with rfl | q
        · exact hpx
        · exact hpx.trans W (by omega) (by omega) (by omega) q
  · rw [if_neg hc]
    refine ⟨js, I.perm, I.nd, I.len, fun p hp => ⟨Nat.lt_succ_of_lt (I.lt p hp).1, (I.lt p hp).2⟩, I.mono, I.heap, ?_⟩
    intro i hi h p hp
    by_cases q : i < m
    · exact I.top i q h p hp
    · obtain rfl : i = m := by omega
      have hxi : SB (ltIx (k + 1) ks) x.1 i := .inr ⟨by simpa using hc, hxm⟩
      have hpl := (I.lt p hp).1
      by_cases q : p.1 = x.1
      · rw [q]; exact hxi
      · exact (htop p hp q).trans W (by omega) (by omega) (by omega) hxi
theorem ns_all {n : Nat} (hl : ks.length = ds.length) (h0 : 0 < n) (hn : n < ds.length) (h1 : ∀ d ∈ ks, kqdOk (k + 1) d = true) (h2 : ∀ a ∈ ks, ∀ c ∈ ks, dcmp (k + 1) a c = true) (h3 : ∀ d ∈ ds, kqdOk (k + 1) d = true) (h4 : ∀ a ∈ ds, ∀ c ∈ ds, dcmp (k + 1) a c = true) : ∀ i, n + i ≤ ds.length → ∃ js, NsI k ks ds n (n + i) (nsState (k + 1) ks ds n i) js
  | 0, _ => ⟨_, ns_start hl hn h1 h2 h3 h4⟩
  | i + 1, hi => by
    obtain ⟨js, I⟩ := ns_all hl h0 hn h1 h2 h3 h4 i (by omega)
    have e : nsState (k + 1) ks ds n (i + 1) = nsStep (k + 1) ks ds (nsState (k + 1) ks ds n i) (n + i) := by
      unfold nsState; rw [List.range_succ, List.foldl_append]; rfl
    rw [e]
    have hm : n + i < ds.length := by omega
    exact ns_step hl h0 hm h1 h2 h3 h4 I
end
theorem ns_law {kk n : Nat} {ks ds es es' : List Dat} (hl : ks.length = ds.length) (h2 : 2 ≤ n) (hn : n < ds.length) (hS : Sortable kk ks) (hok : ∀ d ∈ ds, kqdOk (kk + 1) d = true) (hcmp : ∀ a ∈ ds, ∀ c ∈ ds, dcmp (kk + 1) a c = true) (h : SortedBy (kk + 1) ks ds es) (h' : SortedBy (kk + 2) (nsState (kk + 1) ks ds n (ds.length - n)).1 (nsState (kk + 1) ks ds n (ds.length - n)).1 es') : es'.map thdD = es.take n := by
  obtain ⟨js, I⟩ := ns_all hl (by omega) hn hS.ok hS.cmp hok hcmp (ds.length - n) (by omega)
  rw [show n + (ds.length - n) = ds.length by omega] at I
  generalize nsState (kk + 1) ks ds n (ds.length - n) = st at *
  have hP : ∀ a ∈ st.1, TripD ks ds a := fun a ha => by
    obtain ⟨p, hp, rfl⟩ := List.mem_map.mp (I.perm.mem_iff.mp ha)
    exact tp_trip (I.lt p hp).1 (Nat.le_refl _)
  have hjn : js.Nodup := List.Pairwise.of_map Prod.fst (fun a b h e => h (congrArg _ e)) I.nd
  have hinj : ∀ p ∈ js, ∀ q ∈ js, TP ks ds p = TP ks ds q → p = q := fun p hp q hq e => by
    refine nd_fst I.nd hp hq ?_
    unfold TP at e
    injection e with e
    injection e with _ e
    injection e with e _
    injection e with e
    have m1 := I.mono p hp q hq
    have m2 := I.mono q hq p hp
    omega
  have hnd : st.1.Nodup := by
    rw [I.perm.nodup_iff]
    show List.Pairwise _ _
    rw [List.pairwise_map]
    exact List.Pairwise.imp_of_mem (fun {a b} ha hb hab e => hab (hinj a ha b hb e)) hjn
  obtain ⟨s1, s2⟩ := sorted_strict (fun d hd => trip_ok hl hS.ok hok (hP d hd)) (fun a ha c hc => trip_cmp hl hS.cmp hcmp (hP a ha) (hP c hc)) hnd h'
  obtain ⟨ls, hls, rfl⟩ := perm_map_ex (s1.trans I.perm)
  have hlm : ∀ p ∈ ls, p ∈ js := fun p hp => hls.mem_iff.mp hp
  have hlnd : (ls.map Prod.fst).Nodup := (hls.map Prod.fst).nodup_iff.mpr I.nd
  have W := hS.swo
  have hlp : (ls.map Prod.fst).Pairwise (SB (ltIx (kk + 1) ks)) := by
    rw [List.pairwise_map] at s2 ⊢
    have hn' : ls.Pairwise fun a b => a.1 ≠ b.1 := by
      have : List.Pairwise _ _ := hlnd
      rw [List.pairwise_map] at this; exact this
    refine List.Pairwise.imp_of_mem (fun {a b} ha hb hab => ?_) (s2.and hn')
    exact (tp_lt hl hS.ok hS.cmp (by have := (I.lt a (hlm a ha)).1; omega) (by have := (I.lt b (hlm b hb)).1; omega) hab.2 (I.mono a (hlm a ha) b (hlm b hb)) (I.mono b (hlm b hb) a (hlm a ha))).mp hab.1
  obtain ⟨q, hq1, hq2⟩ := sb_sorted W ((List.range ks.length).filter fun i => !((ls.map Prod.fst).contains i)) (fun x hx => List.mem_range.mp (List.mem_filter.mp hx).1) (List.Pairwise.filter _ List.nodup_range)
  have hqm : ∀ i, i ∈ q ↔ i < ks.length ∧ i ∉ ls.map Prod.fst := fun i => by
    rw [hq1.mem_iff, List.mem_filter, List.mem_range]
    simp
  have hqn : q.Nodup := hq1.nodup_iff.mpr (List.Pairwise.filter _ List.nodup_range)
  obtain ⟨p, hp1, hp2, rfl⟩ := h
  have hmem : ∀ i, i ∈ ls.map Prod.fst → i ∈ js.map Prod.fst := fun i hi => (hls.map Prod.fst).mem_iff.mp hi
  have e : p = ls.map Prod.fst ++ q := by
    refine sorted_idx W hp1 hp2 ?_ ?_
    · rw [List.perm_ext_iff_of_nodup]
      · intro i
        rw [List.mem_append, hqm, List.mem_range]
        constructor
        · rintro (h | h)
          · obtain ⟨x, hx, rfl⟩ := List.mem_map.mp h
            have := (I.lt x (hlm x hx)).1; omega
          · exact h.1
        · intro h
          by_cases hh : i ∈ ls.map Prod.fst
          · exact .inl hh
          · exact .inr ⟨h, hh⟩
      · rw [List.nodup_append]
        exact ⟨hlnd, hqn, fun a ha b hb e => ((hqm b).mp hb).2 (e ▸ ha)⟩
      · exact List.nodup_range
    · rw [List.pairwise_append]
      refine ⟨hlp, hq2, fun a ha b hb => ?_⟩
      obtain ⟨x, hx, rfl⟩ := List.mem_map.mp ha
      have hb' := (hqm b).mp hb
      exact I.top b (by omega) (fun h => hb'.2 ((hls.map Prod.fst).mem_iff.mpr h)) x (hlm x hx)
  rw [e, List.map_append, List.take_append_of_le_length (by rw [List.length_map, List.length_map, hls.length_eq, I.len]; exact Nat.le_refl _), List.take_of_length_le (by rw [List.length_map, List.length_map, hls.length_eq, I.len]; exact Nat.le_refl _), List.map_map, List.map_map]
  rfl
end Mine
namespace Mine
set_option maxHeartbeats 8000000 in
theorem nsm_c {w : World} {p : Program} {loose : List Str} {mean : ExcName → Option Value} {mg mb : Str → Option Value} {news : List (Addr × Obj)}
  {dp un : Nat} {gd : Option (List Code)} {env : Env} {outer : List Env} {A₀ : Around} {base h₀ : Heap} {L : Addr} {m : Str → Option Value} {s : Shared} {Q E : Value → Shared → Prop} {P kf : Addr} {foc : Value} {fod : Option Addr} {ffd : FuncData} {fsl : Array (Option Value)} {ws : List Value} {c : Nat} {cold : List (Addr × Obj)} {ds ks : List Dat} {n : Nat} {tn : Tok}
  (B : Below A₀ base outer h₀) (F : Fr h₀ L s.heap m) (X : (hd.heap_39 w.params).In h₀) (N : News h₀ L s.heap ((P, W.listOf ws.toArray c) :: (kf, ⟨foc, fod, .func ffd, fsl⟩) :: news)) (T : Top p loose mean mg mb h₀)
  (hf : env.frame = some L) (hk : env.scope.kind = .function) (hd : dp + 8 < recursionLimit) (hu : un + 600 < cLine) (hD : DatAll cold ws ds) (hcold : ∀ p ∈ cold, p ∈ news) (hkl : ks.length = ds.length) (hz : ds.length < 60) (hkey : ∀ {led : List (Addr × Obj)} {dp un : Nat} {gd : Option (List Code)} {env : Env} {outer : List Env} {A₀ : Around} {base h₁ : Heap} {L : Addr} {m : Str → Option Value} {s : Shared} {Q E : Value → Shared → Prop} (i : Nat) (v : Value) (d : Dat), Below A₀ base outer h₁ → Fr h₁ L s.heap m → (Mine.hd.heap_39 w.params).In h₁ → News h₁ L s.heap led → Top p loose mean mg mb h₁ → env.frame = some L → env.scope.kind = .function → dp + 6 < recursionLimit → un + 300 < cLine → (∀ p ∈ (kf, ⟨foc, fod, .func ffd, fsl⟩) :: news, p ∈ led) →
      ws[i]? = some v → ks[i]? = some d → (∀ u tl h tk, Fr h₁ L h m → News h₁ L h (tl ++ led) → (∀ p ∈ tl, ∀ q ∈ led, q.1 < p.1) → DatIn tl u d → Q u { s with heap := h, toks := tk }) →
      wpAny (model Challenge.rw_ik0112_01.row.prog w) { handled := none, depth := dp, frames := some (env :: outer), guards := gd, units := un } (call (.ref kf) [v]) Q E s) {kk : Nat} {es : List Dat} (hn1 : 1 ≤ n) (hz2 : 2 ≤ ds.length) (hkk : kk ≤ 2) (hS : Sortable kk ks) (hokd : ∀ d ∈ ds, kqdOk (kk + 1) d = true) (hcmpd : ∀ a ∈ ds, ∀ c ∈ ds, dcmp (kk + 1) a c = true) (hes : SortedBy (kk + 1) ks ds es)
  (ret : ∀ D nw h1 tk, Fr h₀ L h1 m → News h₀ L h1 (nw ++ (P, W.listOf ws.toArray c) :: (kf, ⟨foc, fod, .func ffd, fsl⟩) :: news) → DatIn (nw ++ (P, W.listOf ws.toArray c) :: (kf, ⟨foc, fod, .func ffd, fsl⟩) :: news) (.ref D) (.list (es.take n)) → Q (.ref D) { s with heap := h1, toks := tk }) :
  wpAny (model Challenge.rw_ik0112_01.row.prog w) { handled := none, depth := dp, frames := some (env :: outer), guards := gd, units := un } (call (.ref 217) [.int n tn, .ref P] [(Str.ofString "key", .ref kf)]) Q E s := by
  by_cases h1 : n = 1
  · refine nsm1_c (kk := kk + 1) B F X N T hf hk (by omega) (by omega) hD hcold hkl hz hkey h1 (by omega) (by omega) hS.ok hS.cmp ?_
    intro D nw h1' tk F1 N1 hd1
    refine ret D nw h1' tk F1 N1 ?_
    rw [h1, min_law (k := kk + 1) hS.swo hkl (by omega) hes]
    exact hd1
  · by_cases h2 : ds.length ≤ n
    · refine nsm2_c (kk := kk) B F X N T hf hk (by omega) (by omega) hD hcold hkl hz hkey h1 h2 hz2 (by omega) hS ?_
      intro D nw es' h1' tk F1 N1 hs' hd1
      refine ret D nw h1' tk F1 N1 ?_
      rw [sorted_unique hS.swo hes hs']
      exact hd1
    · refine nsm3_c (kk := kk) B F X N T hf hk (by omega) (by omega) hD hcold hkl hz hkey (by omega) (by omega) (by omega) hS hokd hcmpd (ns_sortable hkl (by omega) (by omega) hS hokd hcmpd) ?_
      intro D nw es' h1' tk F1 N1 hs' hd1
      refine ret D nw h1' tk F1 N1 ?_
      rw [← ns_law hkl (by omega) (by omega) hS hokd hcmpd hes hs']
      exact hd1
end Mine
namespace Mine
theorem sorted_map {α : Type} (d0 : α) {f g : α → Dat} {l : List α} {k : Nat} {es : List Dat} (h1 : ∀ a ∈ l, kqdOk k (f a) = true) (h2 : ∀ a ∈ l, ∀ c ∈ l, dcmp k (f a) (f c) = true) (hn : (l.map f).Nodup) (h : SortedBy k (l.map f) (l.map g) es) :
    ∃ ls : List α, ls.Perm l ∧ (ls.Pairwise fun a b => dlt k (f a) (f b) = true) ∧ es = ls.map g := by
  obtain ⟨p, hp, hs, rfl⟩ := h
  rw [List.length_map] at hp
  have hm : ∀ {i}, i ∈ p → i < l.length := fun {i} hi => List.mem_range.mp (hp.mem_iff.mp hi)
  have getf : ∀ {i}, i < l.length → ∀ φ : α → Dat, (l.map φ).getD i .none = φ (l.getD i d0) := fun {i} hi φ => by
    rw [List.getD_eq_getElem?_getD, List.getD_eq_getElem?_getD, List.getElem?_map, List.getElem?_eq_getElem hi]; rfl
  have hmem : ∀ {i}, i < l.length → l.getD i d0 ∈ l := fun {i} hi => getD_mem hi
  refine ⟨p.map fun i => l.getD i d0, ?_, ?_, ?_⟩
  · refine (hp.map fun i => l.getD i d0).trans (.of_eq ?_)
    refine List.ext_getElem (by simp) fun i hi _ => ?_
    simp only [List.length_map, List.length_range] at hi
    rw [List.getElem_map, List.getElem_range, List.getD_eq_getElem?_getD, List.getElem?_eq_getElem hi]; rfl
  · rw [List.pairwise_map]
    have hnd : p.Nodup := hp.nodup_iff.mpr List.nodup_range
    refine (hs.and hnd).imp_of_mem fun {a b} ha hb ⟨hab, hne⟩ => ?_
    have la := hm ha
    have lb := hm hb
    unfold SB ltIx at hab
    rw [getf la f, getf lb f] at hab
    rcases hab with h | ⟨h, _⟩
    · exact h
    · have hd : f (l.getD a d0) ≠ f (l.getD b d0) := fun e => by
        have hg := List.pairwise_iff_getElem.mp hn
        have e' : (l.map f)[a]'(by simpa using la) = (l.map f)[b]'(by simpa using lb) := by
          rw [List.getElem_map, List.getElem_map]
          rw [List.getD_eq_getElem?_getD, List.getD_eq_getElem?_getD, List.getElem?_eq_getElem la, List.getElem?_eq_getElem lb] at e
          exact e
        rcases Nat.lt_or_gt_of_ne hne with q | q
        · exact hg a b (by simpa using la) (by simpa using lb) q e'
        · exact hg b a (by simpa using lb) (by simpa using la) q e'.symm
      rcases dlt_tri k _ _ (h1 _ (hmem la)) (h1 _ (hmem lb)) (h2 _ (hmem la) _ (hmem lb)) hd with q | q
      · exact q
      · rw [h] at q; cases q
  · rw [List.map_map]
    exact List.map_congr_left fun i hi => getf (hm hi) g
end Mine
namespace Mine
theorem keyN_enc (home l : List Str) : keyN home l = encE (keyE home l) := rfl
theorem dlt12 (a b : Ent) : dlt 1 (encE a) (encE b) = dlt 2 (encE a) (encE b) := rfl
theorem key_of_N {home a b : List Str} (q : dlt 1 (keyN home a) (keyN home b) = true) : ltE (keyE home a) (keyE home b) = true := by
  rw [keyN_enc, keyN_enc, dlt12] at q; exact q
theorem near_law (script : List Int) (n : Nat) {es es2 : List Dat} (h : SortedBy 1 (rowsD script) (rowsD script) es) (h2 : SortedBy 1 (nearK script) (((treeW (lawTexts script)).map (pairD (straightW (startW script)))).reverse) es2) : es2.take n = (es.take n).map rowPair := by
  obtain ⟨ls, _, hp, hs, rfl⟩ := due_rows script h
  have T := tree_ok script
  have S := near_sortable script
  unfold nearK at h2 S
  rw [← List.map_reverse] at h2 S
  rw [← List.map_reverse] at h2
  obtain ⟨ls2, hp2, hs2, rfl⟩ := sorted_map [] (fun a ha => S.ok _ (List.mem_map_of_mem ha)) (fun a ha c hc => S.cmp _ (List.mem_map_of_mem ha) _ (List.mem_map_of_mem hc)) (by
    unfold List.Nodup
    rw [List.pairwise_map]
    have hr : (treeW (lawTexts script)).reverse.Nodup := (List.reverse_perm _).nodup_iff.mpr T.nd
    refine hr.imp_of_mem fun ha hb hne e => hne (key_inj (T.nm _ (List.mem_reverse.mp ha)) (T.nm _ (List.mem_reverse.mp hb)) (encE_inj e))) h2
  have hpt : ls2.Perm ls := (hp2.trans (List.reverse_perm _)).trans hp.symm
  have e : ls2 = ls := perm_unique (R := fun a b => ltE (keyE (straightW (startW script)) a) (keyE (straightW (startW script)) b) = true) hpt (fun x hx y hy hxy hyx => by
    have hx' := hp.mem_iff.mp (hpt.mem_iff.mp hx)
    have hy' := hp.mem_iff.mp (hpt.mem_iff.mp hy)
    have := sw_E.asym _ _ (key_ok T hx') (key_ok T hy') hxy
    rw [hyx] at this; cases this) (hs2.imp fun {a b} q => key_of_N q) hs
  rw [e, ← List.map_take, ← List.map_take, List.map_map]
  rfl
end Mine
namespace Mine
theorem dlt_ii (n : Nat) (a b : Int) : dlt n (.int a) (.int b) = decide (a < b) := by cases n <;> rfl
theorem eqv_ii (a b : Int) : PyData.eqv (kqdP (.int a)) (kqdP (.int b)) = true ↔ a = b := by
  rw [eqv_iff (n := 1) rfl rfl]
  exact ⟨fun e => Dat.int.inj e, fun e => by rw [e]⟩
theorem dlt_flat (a b i j : Int) : dlt 1 (.tuple [.int a, .int i]) (.tuple [.int b, .int j]) = true ↔ a < b ∨ (a = b ∧ i < j) := by
  show lexBy (dlt 0) [.int a, .int i] [.int b, .int j] = true ↔ _
  unfold lexBy
  by_cases h : a = b
  · rw [if_pos ((eqv_ii a b).mpr h)]
    unfold lexBy
    by_cases h2 : i = j
    · rw [if_pos ((eqv_ii i j).mpr h2)]
      simp [lexBy]; omega
    · rw [if_neg (fun q => h2 ((eqv_ii i j).mp q)), dlt_ii, decide_eq_true_eq]; omega
  · rw [if_neg (fun q => h ((eqv_ii a b).mp q)), dlt_ii, decide_eq_true_eq]; omega
theorem sb_flat {tr : List (List Str)} {i j : Nat} (hi : i < tr.length) (hj : j < tr.length) (h : SB (ltIx 1 (flatD tr)) i j) : SB (ltIx 1 (tr.map keyH)) i j := by
  have ef : ∀ {i}, i < tr.length → (flatD tr).getD i .none = .tuple [.int ((tr.getD i []).length : Int), .int (i : Int)] := fun {i} hi => by
    unfold flatD
    rw [List.getD_eq_getElem?_getD, List.getElem?_map, List.getElem?_range hi]; rfl
  have ek : ∀ {i}, i < tr.length → (tr.map keyH).getD i .none = .int ((tr.getD i []).length : Int) := fun {i} hi => by
    rw [List.getD_eq_getElem?_getD, List.getD_eq_getElem?_getD, List.getElem?_map, List.getElem?_eq_getElem hi]; rfl
  unfold SB ltIx at h ⊢
  rw [ef hi, ef hj] at h
  rw [ek hi, ek hj, dlt_ii, dlt_ii]
  rw [← Bool.not_eq_true, dlt_flat, dlt_flat] at h
  rw [decide_eq_true_eq, decide_eq_false_iff_not]
  omega
theorem high_law (script : List Int) (n : Nat) {es es2 : List Dat} (h : SortedBy 1 (flatD (treeW (lawTexts script))) (flatD (treeW (lawTexts script))) es) (h2 : SortedBy 1 (highK script) (((treeW (lawTexts script)).map pathW).map .str) es2) : es2.take n = (es.take n).map (flatPick ((treeW (lawTexts script)).map pathW)) := by
  have S := high_sortable script
  unfold highK at h2 S
  generalize treeW (lawTexts script) = tr at *
  obtain ⟨p, hp, hs, rfl⟩ := h
  obtain ⟨p2, hp2, hs2, rfl⟩ := h2
  have hl : (flatD tr).length = tr.length := by unfold flatD; simp
  rw [hl] at hp
  have hm : ∀ {i}, i ∈ p → i < tr.length := fun {i} hi => List.mem_range.mp (hp.mem_iff.mp hi)
  have hs' : p.Pairwise (SB (ltIx 1 (tr.map keyH))) := hs.imp_of_mem fun ha hb q => sb_flat (hm ha) (hm hb) q
  have e : p2 = p := sorted_idx S.swo hp2 hs2 (by rw [List.length_map]; exact hp) hs'
  subst e
  rw [← List.map_take, ← List.map_take]
  rw [List.map_map (g := flatPick _)]
  refine List.map_congr_left fun i hi => ?_
  have hi' := hm (List.mem_of_mem_take hi)
  show ((tr.map pathW).map Dat.str).getD i .none = flatPick (tr.map pathW) ((flatD tr).getD i .none)
  unfold flatD flatPick
  rw [List.getD_eq_getElem?_getD, List.getD_eq_getElem?_getD, List.getElem?_map, List.getElem?_map, List.getElem?_map, List.getElem?_range hi', List.getElem?_eq_getElem hi']
  show Dat.str (pathW tr[i]) = Dat.str ((tr.map pathW).getD ((i : Int)).toNat _)
  rw [Int.toNat_natCast, List.getD_eq_getElem?_getD, List.getElem?_map, List.getElem?_eq_getElem hi']; rfl
end Mine
section
open LCg
namespace Mine
theorem top_off_T30 : True := by
  w_top off
  trivial
local macro_rules | `(tactic| ktr_unf) => `(tactic| repeat' (first | (k_unfold; (try dsimp only)) | (k_end; wrow_close) | ((fail_if_success (with_reducible show LCg.CompEnd _ _ _ _ _ _ _ _ _ _ _ _ _ _)); (fail_if_success (with_reducible show LCt.CompSrcT _ _ _ _ _ _ _ _ _ _ _ _ _ _ _)); (fail_if_success (with_reducible show LCg.CompSrc _ _ _ _ _ _ _ _ _ _ _ _ _ _)); (fail_if_success (with_reducible show wpAny _ _ (exec (Stmt.While _ _ _ _) _) _ _ _)); (fail_if_success (with_reducible show wpAny _ _ (exec (Stmt.For _ _ _ _ _) _) _ _ _)); (fail_if_success (with_reducible show wpAny _ _ (pyIter (Value.ref _)) _ _ _)); (fail_if_success (with_reducible show wpAny _ _ (compareOp CmpOp.NotEq (Value.ref _) (Value.ref _)) _ _ _)); (fail_if_success (with_reducible show wpAny _ _ (compareOp CmpOp.Eq (Value.ref _) (Value.ref _)) _ _ _)); (fail_if_success (with_reducible show wpAny _ _ (compareOp CmpOp.NotIn _ (Value.ref _)) _ _ _)); (fail_if_success (with_reducible show wpAny _ _ (call (Value.builtin "sorted") _ _) _ _ _)); (fail_if_success (with_reducible show wpAny _ _ (call (Value.ref 243) _) _ _ _)); (fail_if_success (with_reducible show wpAny _ _ (call (Value.ref 236) _) _ _ _)); (fail_if_success (with_reducible show wpAny _ _ (call (Value.ref 248) _) _ _ _)); (fail_if_success (with_reducible show wpAny _ _ (call (Value.ref 217) _ _) _ _ _)); (fail_if_success (with_reducible show wpAny _ _ (call (Value.ref 255) _) _ _ _)); (fail_if_success (with_reducible show wpAny _ _ (subscriptTail _ (PySem.Expr.BinOp _ _ _ _) (Value.ref _) (Value.int _ _)) _ _ _)); (fail_if_success (with_reducible show wpAny _ _ (subscriptTail _ (PySem.Expr.Name _ _) (Value.ref _) (Value.int _ _)) _ _ _)); (fail_if_success (with_reducible show wpAny _ _ (subscriptTail _ (PySem.Expr.Subscript _ _ _) (Value.ref _) (Value.int _ _)) _ _ _)); walk1) | ((fail_if_success (with_reducible show LCg.CompEnd _ _ _ _ _ _ _ _ _ _ _ _ _ _)); (fail_if_success (with_reducible show LCt.CompSrcT _ _ _ _ _ _ _ _ _ _ _ _ _ _ _)); (fail_if_success (with_reducible show LCg.CompSrc _ _ _ _ _ _ _ _ _ _ _ _ _ _)); (fail_if_success (with_reducible show wpAny _ _ (exec (Stmt.While _ _ _ _) _) _ _ _)); (fail_if_success (with_reducible show wpAny _ _ (exec (Stmt.For _ _ _ _ _) _) _ _ _)); (fail_if_success (with_reducible show wpAny _ _ (pyIter (Value.ref _)) _ _ _)); (fail_if_success (with_reducible show wpAny _ _ (compareOp CmpOp.NotEq (Value.ref _) (Value.ref _)) _ _ _)); (fail_if_success (with_reducible show wpAny _ _ (compareOp CmpOp.Eq (Value.ref _) (Value.ref _)) _ _ _)); (fail_if_success (with_reducible show wpAny _ _ (compareOp CmpOp.NotIn _ (Value.ref _)) _ _ _)); (fail_if_success (with_reducible show wpAny _ _ (call (Value.builtin "sorted") _ _) _ _ _)); (fail_if_success (with_reducible show wpAny _ _ (call (Value.ref 243) _) _ _ _)); (fail_if_success (with_reducible show wpAny _ _ (call (Value.ref 236) _) _ _ _)); (fail_if_success (with_reducible show wpAny _ _ (call (Value.ref 248) _) _ _ _)); (fail_if_success (with_reducible show wpAny _ _ (call (Value.ref 217) _ _) _ _ _)); (fail_if_success (with_reducible show wpAny _ _ (call (Value.ref 255) _) _ _ _)); (fail_if_success (with_reducible show wpAny _ _ (subscriptTail _ (PySem.Expr.BinOp _ _ _ _) (Value.ref _) (Value.int _ _)) _ _ _)); (fail_if_success (with_reducible show wpAny _ _ (subscriptTail _ (PySem.Expr.Name _ _) (Value.ref _) (Value.int _ _)) _ _ _)); (fail_if_success (with_reducible show wpAny _ _ (subscriptTail _ (PySem.Expr.Subscript _ _ _) (Value.ref _) (Value.int _ _)) _ _ _)); dsimp only; walk1) | (leave1; walk_say "STEP leave1"; try dsimp only) | fail "no step"))
local macro_rules | `(tactic| k_all) => `(tactic| first | assumption | exact allLt_ne (by assumption) | exact allLt_ne (And.right (by assumption)) | exact allLt_ne (And.right (And.right (by assumption))) | exact allLt_ne (And.right (And.right (And.right (by assumption)))) | exact allLt_ne (And.right (And.right (And.right (And.right (by assumption))))) | exact allLt_ne (And.right (And.right (And.right (And.right (And.right (by assumption)))))) | exact allLt_ne (And.right (And.right (And.right (And.right (And.right (And.right (by assumption))))))) | exact allLt_ne (And.right (And.right (And.right (And.right (And.right (And.right (And.right (by assumption)))))))) | exact allLt_ne (And.right (And.right (And.right (And.right (And.right (And.right (And.right (And.right (by assumption))))))))))
local macro_rules | `(tactic| walk_at "call builtin:list.append") => `(tactic| (k_here; (with_reducible show wpAny _ _ (call (Value.builtin _) [Value.ref _, _]) _ _ _); k_dflt (refine' hot_append ?F ?N ?U ?z ?_; (case F => k_asm); (case N => k_asm); (case U => k_upd); (case z => first | with_reducible assumption | omega | (simp only [List.length_append, List.length_cons, List.length_nil]; omega)); k_whole); intro h' F' N'; (try k_sweep)))
local macro_rules | `(tactic| walk_at "truthy ref") => `(tactic| (k_here; k_dflt (refine' hot_truthy ?N ?m ?z ?_; (case N => k_asm); (case m => k_mem); (case z => first | with_reducible assumption | omega); k_whole)))
local macro_rules | `(tactic| walk_at "subscriptTail Name UnaryOp ref int") => `(tactic| (k_here; (with_reducible show wpAny _ _ (subscriptTail _ _ (Value.ref _) (Value.int _ _)) _ _ _); (with_unfolding_all refine' hot_lastS ?N ?m ?S ?e ?_ ?r; (case N => k_asm); (case m => k_mem); (case S => assumption); (case e => assumption); (case r => with_unfolding_all rfl); k_whole); intro y8 t8 hy8 hz8))
local macro_rules | `(tactic| walk_at "call builtin:list.pop") => `(tactic| (k_here; (with_reducible show wpAny _ _ (call (Value.builtin _) [Value.ref _]) _ _ _); k_dflt (refine' hot_popS ?F ?N ?U ?z ?S ?e ?_; (case F => k_asm); (case N => k_asm); (case U => k_upd); (case z => first | with_reducible assumption | omega); (case S => assumption); (case e => assumption); k_whole); intro h' y8 t8 F' N'; (try k_sweep)))
local macro_rules | `(tactic| walk_at "call builtin:str.join") => `(tactic| (k_here; (with_reducible show wpAny _ _ (call (Value.builtin _) [Value.str _ _, Value.ref _]) _ _ _); k_dflt (refine' hot_join ?N ?m ?c ?d ?S ?w ?o ?_; (case N => k_asm); (case m => k_mem); (case c => rfl); (case d => rfl); (case S => with_reducible assumption); (case w => with_reducible assumption); (case o => decide); k_whole); intro t8 k8 hj8))
local macro_rules | `(tactic| walk_at "call builtin:len") => `(tactic| (k_here; (with_reducible show wpAny _ _ (call (Value.builtin "len") [Value.ref _]) _ _ _); k_dflt (refine' hot_len ?N ?m ?c ?d ?z ?_; (case N => k_asm); (case m => k_mem); (case c => rfl); (case d => rfl); (case z => first | with_reducible assumption | omega | (simp only [List.length_append, List.length_cons, List.length_nil, List.length_set]; omega)); k_whole)))
local macro_rules | `(tactic| walk_at "subscriptTail Name Slice ref ref") => `(tactic| (k_here; (with_reducible show wpAny _ _ (subscriptTail _ (PySem.Expr.Slice _ _ none _) (Value.ref _) (Value.ref _)) _ _ _); k_dflt (refine' hot_slice ?F ?N ?m ?c ?d ?p ?q ?_ ?s ?t ?z; (case F => k_asm); (case N => k_asm); (case m => k_mem); (case c => exact rfl); (case d => exact rfl); (case p => kmk_part); (case q => kmk_part); (case s => with_unfolding_all rfl); (case t => kmk_pure); (case z => first | omega | (refine split_room (by assumption) ?_; omega))); intro D' h' F' N' l1; (try k_lt l1); (try k_sweep)))
local macro_rules | `(tactic| walk_at "subscriptTail Name Slice ref ref") => `(tactic| (k_here; (with_reducible show wpAny _ _ (subscriptTail _ (PySem.Expr.Slice none none (some _) _) (Value.ref _) (Value.ref _)) _ _ _); k_dflt (refine' hot_rev ?F ?N ?m ?c ?d ?p ?_ ?s ?t ?z; (case F => k_asm); (case N => k_asm); (case m => k_mem); (case c => exact rfl); (case d => exact rfl); (case p => exact IsPart.int _ _); (case s => with_unfolding_all rfl); (case t => kmk_pure); (case z => first | omega | (refine split_room (by assumption) ?_; omega))); intro D' h' F' N' l1; (try k_lt l1); (try k_sweep)))
local macro_rules | `(tactic| walk_at "newList") => `(tactic| (k_here; k_dflt (refine' newList_K ?k1 ?k2 ?_ ?z; (case k1 => k_asm); (case k2 => k_asm); (case z => first | exact Nat.le_trans (m := 1) (Nat.le_refl _) (size_ok (by omega)) | exact Nat.le_trans (m := 0) (Nat.le_refl _) (size_ok (by omega)) | exact Nat.le_trans (m := 2) (Nat.le_refl _) (size_ok (by omega)) | exact Nat.le_trans (m := 3) (Nat.le_refl _) (size_ok (by omega))); k_whole); intro l' h' F' N' l1; (try k_lt l1); (try k_sweep)))
local macro_rules | `(tactic| k_mem) => `(tactic| ((repeat (first | (with_reducible exact List.mem_cons_self) | (with_reducible refine List.mem_append_right _ ?_) | (with_reducible refine List.mem_cons_of_mem _ ?_))); done))
local macro_rules | `(tactic| walk_at "exec Assign cons ListComp") => `(tactic| (k_here; k_dflt (refine LCg.Assign_ListComp_U (F₀ := by k_asm) (by rfl) (by with_unfolding_all rfl) (by with_unfolding_all rfl) (by decide) (by rfl) (by decide) (by rfl) (by rfl) (by rfl) ?_)))
local macro_rules | `(tactic| walk_at "eval ListComp") => `(tactic| (k_here; k_dflt (refine LCg.ListComp_U (F₀ := by k_asm) (by with_unfolding_all rfl) (by decide) (by rfl) (by decide) (by rfl) ?_)))
local macro_rules | `(tactic| walk_at "subscriptTail Name BinOp ref int") => `(tactic| (k_here; (with_reducible show wpAny _ _ (subscriptTail _ _ (Value.ref _) (Value.int _ _)) _ _ _); (with_unfolding_all refine' hot_itemS ?N ?m ?c ?d ?S ?a ?b ?x ?_ ?r; (case N => k_asm); (case m => k_mem); (case c => rfl); (case d => rfl); (case S => with_reducible assumption); (case a => exact fmod_nn _ (by omega)); (case b => exact fmod_lt2 _ (by omega)); (case x => exact fmod_big _ (by omega) (by omega)); (case r => with_unfolding_all rfl); k_whole); intro y8 t8 hy8 hz8))
local macro_rules | `(tactic| walk_at "subscriptTail Name Constant ref int") => `(tactic| (k_here; (with_reducible show wpAny _ _ (subscriptTail _ _ (Value.ref _) (Value.int _ _)) _ _ _); k_dflt (refine' item_tupleT ?t ?a ?b ?c ?d ?_; (case t => exact News.isTup (by k_asm) (by first | with_reducible assumption | k_mem)); (case a => decide); (case b => decide); (case c => rfl); (case d => rfl); k_whole)))
local macro_rules | `(tactic| walk_at "call ref") => `(tactic| (k_here; (with_reducible show wpAny _ _ (call (Value.ref 150) _) _ _ _); k_dflt (refine' normpath_c ?B ?F ?X ?N ?T ?hf ?hk ?hd ?hu ?h1 ?h2 ?h3 ?h4 ?h5 ?_; (case B => k_asm); (case F => k_asm); (case X => k_asm); (case N => k_asm); (case T => k_asm); (case hf => exact rfl); (case hk => exact rfl); (case hd => ktr_room); (case hu => ktr_units); (case h1 => omega); (case h2 => with_reducible assumption); (case h3 => with_reducible assumption); (case h4 => with_reducible assumption); (case h5 => with_reducible assumption); k_whole; intro t9 h9 tk9 F9 N9; (try dsimp only); (try k_fold))))
local macro_rules | `(tactic| walk_at "call ref") => `(tactic| (k_here; (with_reducible show wpAny _ _ (call (Value.ref 222) _) _ _ _); k_dflt (refine' text_c ?B ?F ?X ?N ?T ?hf ?hk ?hd ?hu  ?_; (case B => k_asm); (case F => k_asm); (case X => k_asm); (case N => k_asm); (case T => k_asm); (case hf => exact rfl); (case hk => exact rfl); (case hd => ktr_room); (case hu => ktr_units); k_whole; intro t9 h9 tk9 F9 N9; (try dsimp only); (try k_fold))))
local macro_rules | `(tactic| walk_at "call ref") => `(tactic| (k_here; (with_reducible show wpAny _ _ (call (Value.ref 229) _) _ _ _); k_dflt (refine' straight_c ?B ?F ?X ?N ?T ?hf ?hk ?hd ?hu ?h1 ?h2 ?_; (case B => k_asm); (case F => k_asm); (case X => k_asm); (case N => k_asm); (case T => k_asm); (case hf => exact rfl); (case hk => exact rfl); (case hd => ktr_room); (case hu => ktr_units); (case h1 => omega); (case h2 => omega); k_whole; intro D9 ws9 n9 h9 tk9 F9 N9 hl9 hS9; have hq9 := StrsAre.len_eq hS9; (try dsimp only); (try k_fold))))
theorem fmod_nn (a : Int) {b : Int} (h : 0 < b) : 0 ≤ a.fmod b := Int.fmod_nonneg_of_pos a h
theorem fmod_lt2 (a : Int) {b : Int} (h : 0 < b) : a.fmod b < b := Int.fmod_lt_of_pos a h
theorem fmod_big (a : Int) {b : Int} (h : 0 < b) (h2 : b ≤ 1000000) : a.fmod b < 2 ^ 63 := Int.lt_of_lt_of_le (Int.lt_of_lt_of_le (Int.fmod_lt_of_pos a h) h2) (by decide)
theorem len_ints {vs : List Value} {ns : List Int} (h : IntsAre vs ns) : vs.length = ns.length := by
  have := IntsAre.length h
  omega
theorem textW_len (x : Int) : (textW x).length ≤ 15 := by
  have h1 := text_wt x
  have h2 : (Txt.join (Str.ofString "/") ((List.range 3).map (pickW x))).length ≤ wt ((List.range 3).map (pickW x)) := join_le (by decide) _
  have h3 : (Str.ofString "/./").length = 3 := by decide
  unfold textW
  rw [Str.length_append]; omega
theorem text_facts (script : List Int) (x : Str) (h : x ∈ lawTexts script) : x.length ≤ 15 ∧ (Txt.split x (Str.ofString "/")).length ≤ 16 ∧ wt (Txt.split x (Str.ofString "/")) ≤ 16 := by
  obtain ⟨n, _, rfl⟩ := List.mem_map.mp h
  have h1 := textW_len n
  have h2 := split_weight (textW n) (Str.ofString "/") (by decide)
  unfold wt
  exact ⟨h1, by omega, by omega⟩
theorem names_ok {l : List Str} (h : ∀ a ∈ l, PyData.strOk a = true) {k : Nat} : kqdOk (k + 1) (namesD l) = true := by
  unfold namesD
  simp only [kqdOk, List.all_eq_true, List.mem_map]
  rintro d ⟨a, ha, rfl⟩
  have := h a ha
  cases k <;> simpa [kqdOk] using this
theorem text_tree (script : List Int) : ∀ x ∈ lawTexts script, x.length ≤ 100000 ∧ (Txt.split x (Str.ofString "/")).length ≤ 100000 ∧ (straightW x).length ≤ 10 ∧ kqdOk 8 (namesD (straightW x)) = true := fun x hx => by
  have h1 := text_facts script x hx
  obtain ⟨n, _, rfl⟩ := List.mem_map.mp hx
  have h2 := straight_nm n
  exact ⟨by omega, by omega, by omega, names_ok fun a ha => (h2.1 a ha).ok⟩
theorem lw1 {α : Type} {a b : α} {r : List α} : ∀ p ∈ b :: a :: r, p ∈ a :: b :: r := fun p hp => by
  rcases List.mem_cons.mp hp with rfl | hp
  · exact .tail _ (.head _)
  · rcases List.mem_cons.mp hp with rfl | hp
    · exact .head _
    · exact .tail _ (.tail _ hp)
theorem law_split {h₀ h : Heap} {L lT c1 c2 c3 : Addr} {oT o1 o2 o3 : Obj} {X H a b c : Addr × Obj} {tl r : List (Addr × Obj)} {vs : List Value} {ds : List Dat} {x1 x2 x3 : Option Value} (N : News h₀ L h ((lT, oT) :: (tl ++ X :: H :: a :: b :: c :: (c3, o3) :: (c2, o2) :: (c1, o1) :: r)))
    (hne : ∀ p ∈ tl ++ X :: H :: a :: b :: c :: (c3, o3) :: (c2, o2) :: (c1, o1) :: r, p.1 ≠ lT) (d3 : o3.data = .cell x3) (d2 : o2.data = .cell x2) (d1 : o1.data = .cell x1) (hD : DatAll tl vs ds) (dn : ∀ p ∈ (lT, oT) :: X :: H :: r, ∀ x, p.2.data ≠ .cell x) :
    ∃ tl', (∀ p ∈ tl', p.1 ≠ c1 ∧ p.1 ≠ c2 ∧ p.1 ≠ c3) ∧ (∀ p ∈ tl', p.1 ≠ lT) ∧ DatAll tl' vs ds ∧ (∀ p ∈ (lT, oT) :: X :: H :: (tl' ++ r), p.1 ≠ c1 ∧ p.1 ≠ c2 ∧ p.1 ≠ c3) ∧ News h₀ L h ((c3, o3) :: (c2, o2) :: (c1, o1) :: (lT, oT) :: X :: H :: (tl' ++ r)) := by
  obtain ⟨tl', h1, h2, h3⟩ := dat_apart (bad := [(c1, o1), (c2, o2), (c3, o3)]) (tl := tl) N (fun b hb => by
      simp only [List.mem_cons, List.not_mem_nil, or_false] at hb
      rcases hb with rfl | rfl | rfl <;> simp) (fun p hp => .tail _ (List.mem_append_left _ hp)) (fun b hb xs n => by
      simp only [List.mem_cons, List.not_mem_nil, or_false] at hb
      rcases hb with rfl | rfl | rfl
      · rw [d1]; exact fun e => nomatch e
      · rw [d2]; exact fun e => nomatch e
      · rw [d3]; exact fun e => nomatch e) hD
  refine ⟨tl', fun p hp => ⟨h2 p hp _ (.head _), h2 p hp _ (.tail _ (.head _)), h2 p hp _ (.tail _ (.tail _ (.head _)))⟩, fun p hp => hne p (List.mem_append_left _ (h1 p hp)), h3, fun p hp => ?_, fun p hp => N p ?_⟩
  · have key : ∀ q ∈ (lT, oT) :: X :: H :: r, q.1 ≠ c1 ∧ q.1 ≠ c2 ∧ q.1 ≠ c3 := fun q hq => by
      have hqN : q ∈ (lT, oT) :: (tl ++ X :: H :: a :: b :: c :: (c3, o3) :: (c2, o2) :: (c1, o1) :: r) := by
        simp only [List.mem_cons, List.mem_append] at hq ⊢
        rcases hq with h | h | h | h <;> simp [h]
      have go : ∀ (cc : Addr) (oo : Obj) (xx : Option Value), (cc, oo) ∈ (lT, oT) :: (tl ++ X :: H :: a :: b :: c :: (c3, o3) :: (c2, o2) :: (c1, o1) :: r) → oo.data = .cell xx → q.1 ≠ cc := fun cc oo xx hcc hd e => by
        have h1 := (N _ hqN).1
        have h2 := (N _ hcc).1
        rw [e, h2] at h1
        exact dn q hq xx (by rw [← Option.some.inj h1]; exact hd)
      exact ⟨go c1 o1 x1 (by simp) d1, go c2 o2 x2 (by simp) d2, go c3 o3 x3 (by simp) d3⟩
    simp only [List.mem_cons, List.mem_append] at hp
    rcases hp with h | h | h | h | h
    · exact key p (by simp [h])
    · exact key p (by simp [h])
    · exact key p (by simp [h])
    · exact ⟨h2 p h _ (.head _), h2 p h _ (.tail _ (.head _)), h2 p h _ (.tail _ (.tail _ (.head _)))⟩
    · exact key p (by simp [h])
  simp only [List.mem_cons, List.mem_append] at hp ⊢
  rcases hp with h | h | h | h | h | h | h | h
  · simp [h]
  · simp [h]
  · simp [h]
  · simp [h]
  · simp [h]
  · simp [h]
  · exact .inr (.inl (h1 p h))
  · simp [h]
theorem law_split2 {h₀ h : Heap} {L lR c1 c2 c3 : Addr} {oR o1 o2 o3 : Obj} {T X H : Addr × Obj} {tl r : List (Addr × Obj)} {vs : List Value} {ds : List Dat} {x1 x2 x3 : Option Value} (N : News h₀ L h ((lR, oR) :: (tl ++ (c3, o3) :: (c2, o2) :: (c1, o1) :: T :: X :: H :: r)))
    (hcc : ∀ p ∈ T :: X :: H :: r, p.1 ≠ c1 ∧ p.1 ≠ c2 ∧ p.1 ≠ c3) (d3 : o3.data = .cell x3) (d2 : o2.data = .cell x2) (d1 : o1.data = .cell x1) (hD : DatAll tl vs ds) (dR : ∀ x, oR.data ≠ .cell x) :
    ∃ tl', DatAll tl' vs ds ∧ (∀ p ∈ (lR, oR) :: T :: X :: H :: (tl' ++ r), p.1 ≠ c1 ∧ p.1 ≠ c2 ∧ p.1 ≠ c3) ∧ News h₀ L h ((c3, o3) :: (c2, o2) :: (c1, o1) :: (lR, oR) :: T :: X :: H :: (tl' ++ r)) := by
  obtain ⟨tl', h1, h2, h3⟩ := dat_apart (bad := [(c1, o1), (c2, o2), (c3, o3)]) (tl := tl) N (fun b hb => by
      simp only [List.mem_cons, List.not_mem_nil, or_false] at hb
      rcases hb with rfl | rfl | rfl <;> simp) (fun p hp => .tail _ (List.mem_append_left _ hp)) (fun b hb xs n => by
      simp only [List.mem_cons, List.not_mem_nil, or_false] at hb
      rcases hb with rfl | rfl | rfl
      · rw [d1]; exact fun e => nomatch e
      · rw [d2]; exact fun e => nomatch e
      · rw [d3]; exact fun e => nomatch e) hD
  refine ⟨tl', h3, fun p hp => ?_, fun p hp => N p ?_⟩
  · simp only [List.mem_cons, List.mem_append] at hp
    rcases hp with rfl | h | h | h | h | h
    · have go : ∀ (cc : Addr) (oo : Obj) (xx : Option Value), (cc, oo) ∈ (lR, oR) :: (tl ++ (c3, o3) :: (c2, o2) :: (c1, o1) :: T :: X :: H :: r) → oo.data = .cell xx → lR ≠ cc := fun cc oo xx hcc hd e => by
        have h1 := (N _ (.head _)).1
        have h2 := (N _ hcc).1
        simp only at h1 h2
        rw [e, h2] at h1
        exact dR xx (by rw [← Option.some.inj h1]; exact hd)
      exact ⟨go c1 o1 x1 (by simp) d1, go c2 o2 x2 (by simp) d2, go c3 o3 x3 (by simp) d3⟩
    · exact hcc p (by simp [h])
    · exact hcc p (by simp [h])
    · exact hcc p (by simp [h])
    · exact ⟨h2 p h _ (.head _), h2 p h _ (.tail _ (.head _)), h2 p h _ (.tail _ (.tail _ (.head _)))⟩
    · exact hcc p (by simp [h])
  simp only [List.mem_cons, List.mem_append] at hp ⊢
  rcases hp with h | h | h | h | h | h | h | h | h
  · simp [h]
  · simp [h]
  · simp [h]
  · simp [h]
  · simp [h]
  · simp [h]
  · simp [h]
  · exact .inr (.inl (h1 p h))
  · simp [h]
theorem law_dn {lT X H : Addr} {a b c : List Value} {i j k : Nat} {t : Addr} : ∀ p ∈ (lT, W.listOf a.toArray i) :: (X, W.listOf b.toArray j) :: (H, W.listOf c.toArray k) :: [(t, tabObj #[])], ∀ x, p.2.data ≠ .cell x := fun p hp x => by
  simp only [List.mem_cons, List.not_mem_nil, or_false] at hp
  rcases hp with rfl | rfl | rfl | rfl <;> exact fun e => nomatch e
theorem law_cap2 {h₀ h : Heap} {L R X H : Addr} {t c3 c2 c1 T : Addr × Obj} {oR oX oH : Obj} {r : List (Addr × Obj)} (N : News h₀ L h (t :: (R, oR) :: c3 :: c2 :: c1 :: T :: (X, oX) :: (H, oH) :: r)) :
    ∃ R' X' H' : Addr, R' = R ∧ X' = X ∧ H' = H ∧ News h₀ L h ((R', oR) :: c3 :: c2 :: c1 :: T :: (X', oX) :: (H', oH) :: r) := ⟨_, _, _, rfl, rfl, rfl, cb_drop N fun p hp => .tail _ hp⟩
theorem dat_strs {news : List (Addr × Obj)} : ∀ {vs : List Value} {l : List Str}, DatAll news vs (l.map .str) → StrsAre vs l
  | [], [], _ => .nil
  | _ :: _, [], h => nomatch h
  | [], _ :: _, h => nomatch h
  | v :: vs, a :: l, .cons h r => by
    cases h
    exact .cons _ _ (dat_strs r)
theorem in_names {cold : List (Addr × Obj)} {v : Value} {l : List Str} (h : DatIn cold v (namesD l)) : ∃ a vs n, v = .ref a ∧ (a, W.listOf (List.toArray vs) n) ∈ cold ∧ StrsAre vs l := by
  unfold namesD at h
  cases h with
  | list hm r => exact ⟨_, _, _, rfl, hm, dat_strs r⟩
theorem start_facts (script : List Int) : (∀ a ∈ straightW (startW script), Nm a) ∧ (straightW (startW script)).length ≤ 3 ∧ (startW script).length ≤ 15 := by
  have h1 := texts_len script
  have hm : startW script ∈ lawTexts script := by
    unfold startW
    have h2 := Int.fmod_lt_of_pos script.sum (b := ((lawTexts script).length : Int)) (by omega)
    have h3 := Int.fmod_nonneg_of_pos script.sum (b := ((lawTexts script).length : Int)) (by omega)
    exact getD_mem (by omega)
  have h2 := (text_facts script _ hm).1
  obtain ⟨n, _, e⟩ := List.mem_map.mp hm
  rw [← e] at h2 ⊢
  exact ⟨(straight_nm n).1, (straight_nm n).2, h2⟩
theorem law_n7 {h₀ h : Heap} {L la : Addr} {oa : Obj} {i R c3 c2 c1 T X H : Addr × Obj} {t3 t2 r : List (Addr × Obj)} (N : News h₀ L h (i :: R :: (t3 ++ c3 :: c2 :: c1 :: T :: X :: H :: (t2 ++ r)))) (hm : (la, oa) ∈ t2) :
    News h₀ L h (H :: (la, oa) :: i :: R :: (t3 ++ c3 :: c2 :: c1 :: T :: X :: H :: (t2 ++ r))) := fun p hp => by
  rcases List.mem_cons.mp hp with rfl | hp
  · exact N _ (.tail _ (.tail _ (List.mem_append_right _ (.tail _ (.tail _ (.tail _ (.tail _ (.tail _ (.head _)))))))))
  · rcases List.mem_cons.mp hp with rfl | hp
    · exact N _ (.tail _ (.tail _ (List.mem_append_right _ (.tail _ (.tail _ (.tail _ (.tail _ (.tail _ (.tail _ (List.mem_append_left _ hm))))))))))
    · exact N _ hp
theorem row_cap {h₀ h : Heap} {L x : Addr} {n : Nat} {y q : Str} {t1 t2 t3 : Tok} {r : List (Addr × Obj)} (N : News h₀ L h ((x, { cls := .type "tuple", data := .seq #[.int (n : Int) t1, .str y t2, .str q t3] }) :: r)) :
    ∃ (x' : Addr) (ox : Obj), x' = x ∧ DatIn [(x, ox)] (.ref x) (encR (n, y, q)) ∧ News h₀ L h ((x, ox) :: r) :=
  ⟨_, _, rfl, .tuple (vs := [.int (n : Int) t1, .str y t2, .str q t3]) (.head _) (.cons (.int _ _) (.cons (.str _ _) (.cons (.str _ _) .nil))), N⟩
theorem lw3 {α : Type} (x y i R : α) (t r : List α) : ∀ p ∈ i :: R :: ((x :: t) ++ r), p ∈ x :: y :: i :: R :: (t ++ r) := by intro p hp; grind
theorem lw6 {h₀ h : Heap} {L : Addr} {a b c d e f g i j k x : Addr × Obj} {t r : List (Addr × Obj)} (N : News h₀ L h (a :: b :: c :: d :: e :: f :: g :: i :: j :: k :: (t ++ r))) (hx : x ∈ t) : x ∈ a :: b :: c :: d :: e :: f :: g :: i :: j :: k :: (t ++ r) := by simp [hx]
theorem lw7 {α : Type} {t S P : α} {r : List α} : ∀ p ∈ P :: S :: r, p ∈ t :: S :: P :: r := fun p hp => by
  rcases List.mem_cons.mp hp with rfl | hp
  · exact .tail _ (.tail _ (.head _))
  rcases List.mem_cons.mp hp with rfl | hp
  · exact .tail _ (.head _)
  exact .tail _ (.tail _ (.tail _ (hp)))
theorem lw8 {α : Type} {a b : α} {l r : List α} : ∀ p ∈ r, p ∈ a :: b :: (l ++ r) := fun p hp => .tail _ (.tail _ (List.mem_append_right _ hp))
theorem SortedBy.length {k : Nat} {ks ds es : List Dat} (h : SortedBy k ks ds es) : es.length = ks.length := by
  obtain ⟨p, h1, _, rfl⟩ := h
  rw [List.length_map, h1.length_eq, List.length_range]
theorem SortedBy.mem {k : Nat} {ks es : List Dat} (h : SortedBy k ks ks es) : ∀ d ∈ es, d ∈ ks := by
  obtain ⟨p, h1, _, rfl⟩ := h
  intro d hd
  obtain ⟨i, hi, rfl⟩ := List.mem_map.mp hd
  have := List.mem_range.mp (h1.mem_iff.mp hi)
  rw [List.getD_eq_getElem?_getD, List.getElem?_eq_getElem this]
  exact List.getElem_mem _
theorem es_ok {k : Nat} {ks es : List Dat} (h : SortedBy k ks ks es) (hok : ∀ d ∈ ks, kqdOk 6 d = true) : kqdOk 8 (.tuple [.list es, .list []]) = true := by
  have : ∀ d ∈ es, kqdOk 6 d = true := fun d hd => hok d (h.mem d hd)
  simpa [kqdOk] using this
theorem rows_ok {home : List Str} {tr : List (List Str)} (h : ∀ l ∈ tr, (∀ a ∈ l, Nm a) ∧ l.length ≤ 3) : ∀ d ∈ tr.map (fun l => encR (rowOf home l)), kqdOk 6 d = true := fun d hd => by
  obtain ⟨l, hl, rfl⟩ := List.mem_map.mp hd
  exact okR (way_ok (h l hl).1) (path_ok (h l hl).1) 5
theorem path_sw {l : List Str} : Txt.startswith (pathW l) (Str.ofString "/") = true := by
  rw [starts_cp, path_cp]; rfl
theorem norm_link {x : Str} {home : List Str} (hx : normW x = pathW home) (h : ∀ a ∈ home, Nm a) (h3 : home.length ≤ 3) : (normW x).length ≤ 100 ∧ Txt.startswith (normW x) (Str.ofString "/") = true ∧ ∀ l, (∀ a ∈ l, Nm a) → linkW (normW x) (pathW l) = wayW home l :=
  ⟨by rw [hx]; exact Nat.le_trans (path_len h h3) (by decide), by rw [hx]; exact path_sw, fun l hl => by rw [hx]; exact link_law h hl⟩
theorem pair_cap {h₀ h : Heap} {L x : Addr} {y q : Str} {t2 t3 : Tok} {r : List (Addr × Obj)} (N : News h₀ L h ((x, { cls := .type "tuple", data := .seq #[.str y t2, .str q t3] }) :: r)) :
    ∃ (x' : Addr) (ox : Obj), x' = x ∧ DatIn [(x, ox)] (.ref x) (.tuple [.str y, .str q]) ∧ News h₀ L h ((x, ox) :: r) :=
  ⟨_, _, rfl, .tuple (vs := [.str y t2, .str q t3]) (.head _) (.cons (.str _ _) (.cons (.str _ _) .nil)), N⟩
theorem lq1 {α : Type} (a b c d e f R : α) (t r : List α) : R ∈ a :: (t ++ b :: c :: d :: e :: f :: R :: r) := by simp
theorem lq2 {h₀ h9 : Heap} {L : Addr} {a b c p q z d e f R T X H x : Addr × Obj} {t t2 t3 r : List (Addr × Obj)} (N : News h₀ L h9 (a :: b :: c :: (t ++ p :: (t2 ++ q :: z :: d :: e :: f :: R :: T :: X :: H :: (t3 ++ r))))) (hx : x ∈ t3) : x ∈ a :: b :: c :: (t ++ p :: (t2 ++ q :: z :: d :: e :: f :: R :: T :: X :: H :: (t3 ++ r))) := by simp [hx]
theorem lq3 {α : Type} {a : α} {l r : List α} : ∀ p ∈ r, p ∈ a :: (l ++ r) := fun p hp => .tail _ (List.mem_append_right _ hp)
theorem lq4 {α : Type} (a b c d e f R T X : α) (t r : List α) : X ∈ a :: (t ++ b :: c :: d :: e :: f :: R :: T :: X :: r) := by simp
theorem pairs_ok {home : List Str} {tr : List (List Str)} (h : ∀ l ∈ tr, (∀ a ∈ l, Nm a) ∧ l.length ≤ 3) : kqdOk 8 (.list (tr.map (pairD home))) = true := by
  have : ∀ l ∈ tr, kqdOk 7 (pairD home l) = true := fun l hl => by
    have h1 := way_ok (home := home) (h l hl).1
    have h2 := path_ok (h l hl).1
    simp [pairD, kqdOk, h1, h2]
  simpa [kqdOk] using this
theorem isl_cap {h : Heap} {a : Addr} {vs : Array Value} (H : h.IsList a vs) : ∃ a' : Addr, a' = a ∧ h.IsList a' vs := ⟨_, rfl, H⟩
theorem led_cap {h₀ h : Heap} {L a : Addr} {o : Obj} {r : List (Addr × Obj)} (N : News h₀ L h ((a, o) :: r)) : ∃ a' : Addr, a' = a ∧ News h₀ L h ((a', o) :: r) := ⟨_, rfl, N⟩
theorem way_len (home l : List Str) : (wayW home l).length ≤ 3 * home.length + wt l := by
  have h1 : (wayW home l).length ≤ wt (List.replicate (home.length - lcpN home l) (Str.ofString "..") ++ l.drop (lcpN home l)) := join_le (by decide) _
  rw [wt_append, wt_rep] at h1
  have h2 := wt_append (l.take (lcpN home l)) (l.drop (lcpN home l))
  rw [List.take_append_drop] at h2
  have h3 : (Str.ofString "..").length = 2 := by decide
  rw [h3] at h1
  have h4 : (home.length - lcpN home l) * (2 + 1) ≤ home.length * 3 := Nat.mul_le_mul_right 3 (Nat.sub_le _ _)
  omega
theorem names_wt {l : List Str} (h : ∀ a ∈ l, Nm a) (h3 : l.length ≤ 3) : wt l ≤ 12 := by
  have h1 : wt l ≤ l.length * 4 := wt_le' fun y hy => (h y hy).len
  omega
theorem led_up {h₀ h : Heap} {L : Addr} {x : Addr × Obj} {l : List (Addr × Obj)} (N : News h₀ L h l) (hm : x ∈ l) : News h₀ L h (x :: l) := fun p hp => by
  rcases List.mem_cons.mp hp with rfl | hp
  · exact N _ hm
  · exact N _ hp
theorem lq5 {α : Type} (a i q b c d e f R T X H : α) {t : List α} (r : List α) : H ∈ a :: i :: ([] ++ q :: (t ++ b :: c :: d :: e :: f :: R :: T :: X :: H :: r)) := by simp
theorem ne_self {a : Str} (h : (a != a) = true) : False := by simp at h
theorem lq7 {α : Type} (a b c t : α) (l : List α) : t ∈ a :: b :: c :: (l ++ [t]) := by simp
theorem lw9 {α : Type} {f c D : α} {r : List α} : ∀ p ∈ D :: f :: c :: r, p ∈ f :: c :: D :: r := fun p hp => by
  rcases List.mem_cons.mp hp with rfl | hp
  · exact .tail _ (.tail _ (.head _))
  rcases List.mem_cons.mp hp with rfl | hp
  · exact .head _
  rcases List.mem_cons.mp hp with rfl | hp
  · exact .tail _ (.head _)
  exact .tail _ (.tail _ (.tail _ (hp)))
theorem led_cap3 {h₀ h : Heap} {L a b c : Addr} {o1 o2 o3 : Obj} {r : List (Addr × Obj)} (N : News h₀ L h ((a, o1) :: (b, o2) :: (c, o3) :: r)) : ∃ a' b' c' : Addr, a' = a ∧ b' = b ∧ c' = c ∧ News h₀ L h ((a', o1) :: (b', o2) :: (c', o3) :: r) := ⟨_, _, _, rfl, rfl, rfl, N⟩
def wishN (script : List Int) : Nat := (1 + (script.sum + 1).fmod 4).toNat
theorem wish_eq (script : List Int) : 1 + (script.sum + 1).fmod 4 = (wishN script : Int) := by
  have h1 := Int.fmod_nonneg_of_pos (script.sum + 1) (b := 4) (by decide)
  unfold wishN; omega
theorem wish_rng (script : List Int) : 1 ≤ wishN script ∧ wishN script ≤ 4 := by
  have h1 := Int.fmod_nonneg_of_pos (script.sum + 1) (b := 4) (by decide)
  have h2 := Int.fmod_lt_of_pos (script.sum + 1) (b := 4) (by decide)
  unfold wishN; omega
theorem dat_rev {news : List (Addr × Obj)} : ∀ {vs : List Value} {ds : List Dat}, DatAll news vs ds → DatAll news vs.reverse ds.reverse
  | _, _, .nil => .nil
  | _, _, .cons h r => by
    rw [List.reverse_cons, List.reverse_cons]
    exact DatAll.append (dat_rev r) (DatAll.one h)
theorem pair_ok1 {home : List Str} {tr : List (List Str)} (h : ∀ l ∈ tr, (∀ a ∈ l, Nm a) ∧ l.length ≤ 3) : ∀ d ∈ tr.map (pairD home), kqdOk 1 d = true := fun d hd => by
  obtain ⟨l, hl, rfl⟩ := List.mem_map.mp hd
  have h1 := way_ok (home := home) (h l hl).1
  have h2 := path_ok (h l hl).1
  simp [pairD, kqdOk, h1, h2]
theorem pair_cmp1 {home : List Str} {tr : List (List Str)} : ∀ a ∈ tr.map (pairD home), ∀ b ∈ tr.map (pairD home), dcmp 1 a b = true := fun a ha b hb => by
  obtain ⟨l, _, rfl⟩ := List.mem_map.mp ha
  obtain ⟨k, _, rfl⟩ := List.mem_map.mp hb
  rfl
theorem in_pair {cold : List (Addr × Obj)} {v : Value} {home l : List Str} (h : DatIn cold v (pairD home l)) : ∃ a t1 t2 k, v = .ref a ∧ (a, ({ cls := .type "tuple", data := .seq #[.str (wayW home l) t1, .str (pathW l) t2] k } : Obj)) ∈ cold := by
  unfold pairD at h
  cases h with
  | tuple hm r => cases r with
    | cons h1 r => cases r with
      | cons h2 r => cases r; cases h1; cases h2; exact ⟨_, _, _, _, rfl, hm⟩
theorem lq8 {α : Type} {x : α} {r : List α} (f c t Q P S T c3 c2 c1 : α) (h : x ∈ r) : x ∈ f :: c :: t :: Q :: P :: S :: T :: c3 :: c2 :: c1 :: r := by simp [h]
theorem way_len2 {home l : List Str} (h : home.length ≤ 3) (h1 : ∀ a ∈ l, Nm a) (h2 : l.length ≤ 3) : (wayW home l).length ≤ 30 := by
  have h3 := way_len home l
  have h4 := names_wt h1 h2
  omega
theorem lw10 {α : Type} {x a b c : α} {l : List α} : ∀ p ∈ [x] ++ l, p ∈ x :: a :: b :: c :: l := by intro p hp; grind
theorem lq9 {α : Type} (n : List α) (d f c t : α) (r : List α) : t ∈ n ++ d :: f :: c :: t :: r := by simp
theorem fr_int {h₀ h : Heap} {L : Addr} {k : Str} {i : Int} {t : Tok} {m : Str → Option Value} (F : Fr h₀ L h (fun y => if y = k then some (.int i t) else m y)) : ∃ t', Fr h₀ L h (fun y => if y = k then some (.int i t') else m y) := ⟨_, F⟩
theorem lw11 {α : Type} {f c t N P : α} {r : List α} : ∀ p ∈ P :: f :: c :: t :: N :: r, p ∈ f :: c :: t :: N :: P :: r := fun p hp => by
  rcases List.mem_cons.mp hp with rfl | hp
  · exact .tail _ (.tail _ (.tail _ (.tail _ (.head _))))
  rcases List.mem_cons.mp hp with rfl | hp
  · exact .head _
  rcases List.mem_cons.mp hp with rfl | hp
  · exact .tail _ (.head _)
  rcases List.mem_cons.mp hp with rfl | hp
  · exact .tail _ (.tail _ (.head _))
  rcases List.mem_cons.mp hp with rfl | hp
  · exact .tail _ (.tail _ (.tail _ (.head _)))
  exact .tail _ (.tail _ (.tail _ (.tail _ (.tail _ (hp)))))
theorem led_cap2 {h₀ h : Heap} {L a b : Addr} {o1 o2 : Obj} {r : List (Addr × Obj)} (N : News h₀ L h ((a, o1) :: (b, o2) :: r)) : ∃ a' b' : Addr, a' = a ∧ b' = b ∧ News h₀ L h ((a', o1) :: (b', o2) :: r) := ⟨_, _, rfl, rfl, N⟩
theorem path_ok1 {tr : List (List Str)} (h : ∀ l ∈ tr, (∀ a ∈ l, Nm a) ∧ l.length ≤ 3) : ∀ d ∈ (tr.map pathW).map Dat.str, kqdOk 1 d = true := fun d hd => by
  obtain ⟨q, hq, rfl⟩ := List.mem_map.mp hd
  obtain ⟨l, hl, rfl⟩ := List.mem_map.mp hq
  have h2 := path_ok (h l hl).1
  simp [kqdOk, h2]
theorem path_cmp1 {l : List Str} : ∀ a ∈ l.map Dat.str, ∀ b ∈ l.map Dat.str, dcmp 1 a b = true := fun a ha b hb => by
  obtain ⟨l, _, rfl⟩ := List.mem_map.mp ha
  obtain ⟨k, _, rfl⟩ := List.mem_map.mp hb
  rfl
theorem path_split_len {l : List Str} : (Txt.split (pathW l) (Str.ofString "/")).length ≤ (pathW l).length + 1 := by
  have h2 := split_weight (pathW l) (Str.ofString "/") (by decide)
  omega
theorem lw12 {α : Type} {a b c : α} {l : List α} : ∀ p ∈ [] ++ l, p ∈ a :: b :: c :: l := by intro p hp; grind
section
variable {prog : Program} {w : World} {A : Around} {h₀ : Heap} {L : Addr} {m : Str → Option Value} {env : Env}
theorem comp_range0 {elt : Expr} {x : Str} {scope : Scope} {cl : List (Str × Addr)} {Fin : Shared → List Value → List (Addr × Obj) → Prop} {rr : Addr} {n9 : Nat} {tt9 uu9 vv9 : Tok} {news : List (Addr × Obj)} {s₁ : Shared}
    (hh : A.handled = none) (F : Fr h₀ L s₁.heap m) (N : News h₀ L s₁.heap news) (hr : IsRange s₁.heap rr 0 (n9 : Int) 1 tt9 uu9 vv9) (hn : n9 ≤ 1000000)
    (h : ∀ g, CompRest prog w A h₀ L m env elt x scope cl { s₁ with heap := g } (fun _ => True) (fun i v => ∃ t, v = .int (i : Int) t) (Fin { s₁ with heap := g }) n9 0 [] news) :
    CompSrc prog w A h₀ L m env elt x scope cl Fin (.ref rr) s₁ := by
  have hP : (fun (i : Nat) (v : Value) => ∃ t, v = .int (0 + (i : Int)) t) = fun i v => ∃ t, v = .int (i : Int) t := by
    funext i v; rw [Int.zero_add]
  exact CompSrc.range hh F N hr (small_one (by omega) (by omega) (by omega) (by omega)) (by rw [rangeSize_nat, Int.sub_zero, Int.toNat_natCast]) (by rw [sizeLine_eq]; omega) (fun g => by rw [hP]; exact h g)
end
theorem lm3 {α : Type} {Y a I C D : α} {r : List α} : ∀ p ∈ Y :: I :: C :: D :: r, p ∈ Y :: a :: I :: C :: D :: r := fun p hp => by
  rcases List.mem_cons.mp hp with rfl | hp
  · exact .head _
  rcases List.mem_cons.mp hp with rfl | hp
  · exact .tail _ (.tail _ (.head _))
  rcases List.mem_cons.mp hp with rfl | hp
  · exact .tail _ (.tail _ (.tail _ (.head _)))
  rcases List.mem_cons.mp hp with rfl | hp
  · exact .tail _ (.tail _ (.tail _ (.tail _ (.head _))))
  exact .tail _ (.tail _ (.tail _ (.tail _ (.tail _ (hp)))))
theorem lm2 {α : Type} {x : α} {r : List α} (I C D P N S T c3 c2 c1 H : α) {q : List α} (h : x ∈ r) : x ∈ I :: C :: D :: (q ++ H :: P :: N :: S :: T :: c3 :: c2 :: c1 :: r) := by simp [h]
theorem flat_cap {h₀ h : Heap} {L x : Addr} {i j : Int} {t2 t3 : Tok} {r : List (Addr × Obj)} (N : News h₀ L h ((x, { cls := .type "tuple", data := .seq #[.int i t2, .int j t3] }) :: r)) :
    ∃ (x' : Addr) (ox : Obj), x' = x ∧ DatIn [(x, ox)] (.ref x) (.tuple [.int i, .int j]) ∧ News h₀ L h ((x, ox) :: r) :=
  ⟨_, _, rfl, .tuple (vs := [.int i t2, .int j t3]) (.head _) (.cons (.int _ _) (.cons (.int _ _) .nil)), N⟩
theorem es_shape {home : List Str} {tr : List (List Str)} {es : List Dat} {k : Nat} (h : SortedBy k (tr.map fun l => encR (rowOf home l)) (tr.map fun l => encR (rowOf home l)) es) {d : Dat} (hd : d ∈ es) : ∃ l ∈ tr, d = encR (rowOf home l) := by
  obtain ⟨l, hl, e⟩ := List.mem_map.mp (h.mem d hd)
  exact ⟨l, hl, e.symm⟩
theorem near_ok {home : List Str} {tr : List (List Str)} {es : List Dat} {k : Nat} (wi : Nat) (h : SortedBy k (tr.map fun l => encR (rowOf home l)) (tr.map fun l => encR (rowOf home l)) es) (hn : ∀ l ∈ tr, (∀ a ∈ l, Nm a) ∧ l.length ≤ 3) : kqdOk 8 (.list ((es.take wi).map rowPair)) = true := by
  have : ∀ d ∈ (es.take wi).map rowPair, kqdOk 7 d = true := fun d hd => by
    obtain ⟨e, he, rfl⟩ := List.mem_map.mp hd
    obtain ⟨l, hl, rfl⟩ := es_shape h (List.mem_of_mem_take he)
    have h1 := way_ok (home := home) (hn l hl).1
    have h2 := path_ok (hn l hl).1
    simp [rowPair, encR, rowOf, kqdOk, h1, h2]
  simpa [kqdOk] using this
theorem lm4 {h₀ h9 : Heap} {L : Addr} {I C D X G F H P N S T c3 c2 c1 x : Addr × Obj} {q q2 r : List (Addr × Obj)} (N0 : News h₀ L h9 (I :: C :: D :: (q ++ X :: G :: F :: (q2 ++ H :: P :: N :: S :: T :: c3 :: c2 :: c1 :: r)))) (hx : x ∈ r) : x ∈ I :: C :: D :: (q ++ X :: G :: F :: (q2 ++ H :: P :: N :: S :: T :: c3 :: c2 :: c1 :: r)) := by simp [hx]
theorem lm5 {α : Type} (E X G F H P N S T c3 c2 c1 : α) {q q2 r : List α} : N ∈ E :: (q ++ X :: G :: F :: (q2 ++ H :: P :: N :: S :: T :: c3 :: c2 :: c1 :: r)) := by simp
theorem lm6 {α : Type} {x : α} {r : List α} (E X G F H P N S T c : α) {c2 c1 : α} {q q2 : List α} (h : x ∈ r) : x ∈ E :: (q ++ X :: G :: F :: (q2 ++ H :: P :: N :: S :: T :: c :: c2 :: c1 :: r)) := by simp [h]
theorem ef_shape {tr : List (List Str)} {es : List Dat} {k : Nat} (h : SortedBy k ((List.range tr.length).map (flatF tr)) ((List.range tr.length).map (flatF tr)) es) {d : Dat} (hd : d ∈ es) : ∃ i, i < tr.length ∧ d = flatF tr i := by
  obtain ⟨i, hi, e⟩ := List.mem_map.mp (h.mem d hd)
  exact ⟨i, List.mem_range.mp hi, e.symm⟩
theorem in_flat {cold : List (Addr × Obj)} {v : Value} {tr : List (List Str)} {i : Nat} (h : DatIn cold v (flatF tr i)) : ∃ a t1 t2 k, v = .ref a ∧ (a, ({ cls := .type "tuple", data := .seq #[.int ((tr.getD i []).length : Int) t1, .int (i : Int) t2] k } : Obj)) ∈ cold := by
  unfold flatF at h
  cases h with
  | tuple hm r => cases r with
    | cons h1 r => cases r with
      | cons h2 r => cases r; cases h1; cases h2; exact ⟨_, _, _, _, rfl, hm⟩
theorem high_ok {tr : List (List Str)} {es : List Dat} {k wi : Nat} (h : SortedBy k ((List.range tr.length).map (flatF tr)) ((List.range tr.length).map (flatF tr)) es) (hn : ∀ l ∈ tr, (∀ a ∈ l, Nm a) ∧ l.length ≤ 3) : kqdOk 8 (.list ((es.take wi).map (flatPick (tr.map pathW)))) = true := by
  have : ∀ d ∈ (es.take wi).map (flatPick (tr.map pathW)), kqdOk 7 d = true := fun d hd => by
    obtain ⟨e, he, rfl⟩ := List.mem_map.mp hd
    obtain ⟨i, hi, rfl⟩ := ef_shape h (List.mem_of_mem_take he)
    unfold flatF flatPick
    simp only [Int.toNat_natCast]
    rw [List.getD_eq_getElem?_getD, List.getElem?_map, List.getElem?_eq_getElem hi]
    have h2 := path_ok (hn _ (List.getElem_mem hi)).1
    simpa [kqdOk] using h2
  simpa [kqdOk] using this
theorem lm7 {h₀ h9 : Heap} {L : Addr} {I C D Z X G F x : Addr × Obj} {q2 r : List (Addr × Obj)} (N0 : News h₀ L h9 (I :: C :: D :: Z :: X :: G :: F :: (q2 ++ r))) (hx : x ∈ q2) : x ∈ I :: C :: D :: Z :: X :: G :: F :: (q2 ++ r) := by simp [hx]
theorem lm8 {α : Type} (K Z X G F H P N S T c3 c2 : α) {q2 r : List α} : H ∈ K :: Z :: X :: G :: F :: (q2 ++ H :: P :: N :: S :: T :: c3 :: c2 :: r) := by simp
theorem lm9 {α : Type} {x : α} {r : List α} (K Z X G F H P N S T : α) {c3 c2 c1 : α} {q2 : List α} (h : x ∈ r) : x ∈ K :: Z :: X :: G :: F :: (q2 ++ H :: P :: N :: S :: T :: c3 :: c2 :: c1 :: r) := by simp [h]
theorem lm10 {α : Type} (I C D Z X G F H P : α) {q2 r : List α} : P ∈ I :: C :: D :: Z :: X :: G :: F :: (q2 ++ H :: P :: r) := by simp
theorem post_true (script : List Int) : Challenge.rw_ik0112_01.row.claim.post [ofPy (PyData.list (List.map PyData.int script))] (.bool true) [ofPy (PyData.list (List.map PyData.int script))] = true := by
  wrow_post
theorem no_mem {α : Type} {l : List α} : ∀ p ∈ ([] : List α), p ∈ l := fun p hp => nomatch hp
theorem text_norm (script : List Int) (x : Str) (hx : x ∈ lawTexts script) : x.length ≤ 15 ∧ (x.length : Int) ≠ 0 ∧ (Txt.slice x none (some 1) != Str.ofString "/") = false ∧ (Txt.slice x (some 1) (some 2) != Str.ofString "/") = true ∧ wt (Txt.split (Txt.slice x (some 1) none) (Str.ofString "/")) ≤ 100000 := by
  have h := (text_facts script x hx).1
  obtain ⟨n, _, rfl⟩ := List.mem_map.mp hx
  have h2 := text_root n
  refine ⟨h, h2.1, h2.2.1, h2.2.2, ?_⟩
  have h3 := split_weight (Txt.slice (textW n) (some 1) none) (Str.ofString "/") (by decide)
  have h4 := Txt.slice_le (textW n) (some 1) none
  unfold wt; omega
theorem start_norm (script : List Int) : (startW script).length ≤ 15 ∧ ((startW script).length : Int) ≠ 0 ∧ (Txt.slice (startW script) none (some 1) != Str.ofString "/") = false ∧ (Txt.slice (startW script) (some 1) (some 2) != Str.ofString "/") = true ∧ wt (Txt.split (Txt.slice (startW script) (some 1) none) (Str.ofString "/")) ≤ 100000 := text_norm script (startW script) (start_mem script)
set_option maxHeartbeats 8000000 in
theorem lawtry : PySem.Challenge.rw_ik0112_01.Holds := by
  refine hd ?_
  w_strict (
    k_go0
    (all_goals try k_fold)
    ktr_unf
    (with_reducible rename Fr _ _ _ _ => lF')
    (with_reducible rename News _ _ _ _ => lN')
    (with_reducible rename IntsAre _ ([17, 170] ++ List.take 4 _) => hXs)
    (with_reducible rename List Int => script)
    (with_reducible rename Heap.IsList (ghostOf _ _) _ _ => hLs)
    obtain ⟨lSc, eSc, hLs2⟩ := isl_cap hLs
    subst eSc
    clear hLs2
    have hXl := len_ints hXs
    refine LCg.CompSrc.ledger rfl lF' lN' (List.Mem.head _) (by rw [List.size_toArray, sizeLine_eq]; simp at hXl; omega) ?_
    intro g5
    refine comp_all (fun i ys nw => nw = _ ∧ StrsAre ys (((lawXs script).take i).map textW)) ⟨rfl, .nil⟩ ?turnA ?finA
    case turnA =>
      rintro i ys nw hi ⟨rfl, hY⟩ v I5 oI5 C5 oC5 D5 m5 h5 tk5 E5 hv5 hC5 hx5 F5 N5 off5 ne5
      rw [List.getElem?_toArray] at hv5
      rw [List.size_toArray] at hi
      obtain ⟨q, hq⟩ : ∃ q, (lawXs script)[i]? = some q := ⟨_, List.getElem?_eq_getElem (by unfold lawXs; omega)⟩
      obtain ⟨tq, htq⟩ := hXs.get i q hq
      rw [htq] at hv5
      cases hv5
      ktr_unf
      refine' end_same (by assumption) (by assumption) off5 ?S5 ?_
      case S5 => exact Or.inr ⟨_, .head _, rfl, _, rfl⟩
      refine ⟨rfl, ?_⟩
      rw [List.take_add_one, hq, List.map_append]
      exact StrsAre.snoc hY _ _
    case finA =>
      rintro ya nw ⟨rfl, hYA⟩
      have e9 : _ = (lawXs script).length := hXl
      rw [List.size_toArray, e9, List.take_length] at hYA
      change StrsAre ya (lawTexts script) at hYA
      have hyl := hYA.len_eq
      have hyl2 := texts_len script
      ktr_unf
      (with_reducible rename Fr _ _ _ _ => lF')
      (with_reducible rename News _ _ _ _ => lN')
      (with_unfolding_all refine' hot_itemS lN' (.head _) rfl rfl hYA ?qa ?qb ?qx ?_ ?qr)
      case qa => exact fmod_nn _ (by omega)
      case qb => exact fmod_lt2 _ (by omega)
      case qx => exact fmod_big _ (by omega) (by omega)
      case qr => with_unfolding_all rfl
      intro y8 t8 hy8 hz8
      have hst : startW script = y8 := by unfold startW; rw [hyl] at hz8; rw [List.getD_eq_getElem?_getD, hz8]; rfl
      have hsl := (text_facts script y8 (List.mem_of_getElem? hz8)).1
      have hss := (text_facts script y8 (List.mem_of_getElem? hz8)).2.1
      rw [← hst] at hsl hss hy8
      clear hz8
      subst hst
      ktr_unf
      (with_reducible rename Fr _ _ _ _ => lF')
      (with_reducible rename News _ _ _ _ => lN')
      have N2 := cb_drop lN' lw1
      refine tree_c (ts := lawTexts script) (by assumption) lF' (by assumption) N2 (by assumption) rfl rfl (by ktr_room) (by ktr_units) hYA (by omega) (text_tree script) ?_
      intro lT wtT nT tlT h2 tk2 F2 N3 hneT hAT
      obtain ⟨tl2, hc2, hl2, hA2, hcc, N4⟩ := law_split N3 hneT (by with_reducible assumption) (by with_reducible assumption) (by with_reducible assumption) hAT law_dn
      have hcc1 := fun (p : Addr × Obj) hp => (hcc p hp).1
      have hcc2 := fun (p : Addr × Obj) hp => (hcc p hp).2.1
      have hcc3 := fun (p : Addr × Obj) hp => (hcc p hp).2.2
      clear N3 hneT N2 lN' lF'
      dsimp only
      ktr_unf
      (with_reducible rename Fr _ _ _ _ => lF')
      (with_reducible rename News _ _ _ _ => lN')
      obtain ⟨lR, lX, lH, eR, eX, eH, N5⟩ := law_cap2 lN'
      subst eR eX eH
      (with_reducible rename _ < lR ∧ _ => hltR)
      have hltR2 := lt_restA N5 hltR
      clear lN'
      refine For_invVF lF' rfl rfl ?_
      ktr_unf
      (with_reducible rename Fr _ _ _ _ => lF')
      have htl := hA2.length
      rw [List.length_map] at htl
      have htr := tree_facts script
      generalize htrW : treeW (lawTexts script) = tr at *
      refine iter_list rfl (.tail _ (.tail _ (.tail _ (.tail _ (.head _))))) rfl rfl lF' N5 (fun I h' S => loop_hot1 S (fun p hp => by rw [List.mem_singleton.mp hp]; exact .tail _ (.tail _ (.tail _ (.head _)))) ?hneR (fun lc i m' w tl3 => m' (Str.ofString "rows") = some (.ref lc) ∧ m' (Str.ofString "texts") = some (.ref lX) ∧ m' (Str.ofString "home") = some (.ref lH) ∧ (∃ t, m' (Str.ofString "start") = some (.str (startW script) t)) ∧ m' (Str.ofString "script") = some (.ref lSc) ∧ DatAll tl3 w ((tr.take i).map (fun l => encR (rowOf (straightW (startW script)) l)))) ⟨rfl, rfl, rfl, ⟨_, rfl⟩, rfl, .nil⟩ ?turnR ?doneR)
      case hneR => exact fun p hp => Nat.ne_of_lt (hltR2 p hp)
      case turnR =>
        rintro i v m₁ w n1 tl3 it h4 tk4 hi hv ⟨hm1, hm2, hm3, ⟨t4, hm4⟩, hmS, hA3⟩ ho hI hoff F5 N6
        have F6 := know (know (know (know (know F5 (x := Str.ofString "rows") hm1) (x := Str.ofString "texts") hm2) (x := Str.ofString "home") hm3) (x := Str.ofString "start") hm4) (x := Str.ofString "script") hmS
        obtain ⟨d, hd, hdin⟩ := DatAll.at hA2 hv
        rw [List.getElem?_map] at hd
        obtain ⟨l, hl, rfl⟩ := Option.map_eq_some_iff.mp hd
        obtain ⟨la, lv, ln, rfl, hlm, hlS⟩ := in_names hdin
        clear F5
        have hlf := htr.1 l (List.mem_of_getElem? hl)
        have hsf := start_facts script
        have hwl : wt l ≤ 12 := by
          have := wt_le' (l := l) (b := 3) fun y hy => (hlf.1 y hy).len
          have h3 := hlf.2
          have : l.length * 4 ≤ 3 * 4 := Nat.mul_le_mul_right 4 h3
          omega
        have hwl2 : wt l ≤ 1000000 := by omega
        have hll := hlf.2
        have hlaR : @Ne Nat la lR := ho (la, _) (List.mem_append_right _ (.tail _ (.tail _ (.tail _ (.tail _ (.tail _ (.tail _ (List.mem_append_left _ hlm))))))))
        have N7 := law_n7 N6 hlm
        clear N6
        ktr_unf
        (with_reducible rename Fr _ _ _ _ => lF')
        refine way_c (home := straightW (startW script)) (goal := l) (by assumption) lF' (by assumption) N7 (by assumption) rfl rfl (by ktr_room) (by ktr_units) (by with_reducible assumption) hlS (by omega) (by omega) (by omega) ?_
        intro tw h5 tk5 F7 N8
        have N9 := cb_drop N8 (fun p hp => .tail _ hp)
        clear N8 N7 lF'
        have hw3 : w.length ≤ 19 := by
          have h1 := hA3.length
          rw [List.length_map, List.length_take] at h1
          have := htr.2.1
          omega
        have hs1 : (Str.ofString "/").length = 1 := by decide
        have hwy := way_len (straightW (startW script)) l
        dsimp only
        ktr_unf
        (with_reducible rename Fr _ _ _ _ => lF')
        (with_reducible rename News _ _ _ _ => lN')
        obtain ⟨lY, oY, e9, hYd, N10⟩ := row_cap lN'
        subst e9
        have hYI : @Ne Nat lY I := by k_ne
        have hYR : @Ne Nat lY lR := by k_ne
        show TurnEnd _ _ _ _ _ _ _
        refine Hot1.intro lF' N10 (w ++ [.ref lY]) (n1 + 1) ((lY, oY) :: tl3) (lw3 _ _ _ _ _ _) (off_cons hI (off_cons hYI hoff)) (off_cons hYR ho) ⟨rfl, rfl, rfl, ⟨_, rfl⟩, rfl, ?_⟩
        rw [List.take_add_one, hl, List.map_append]
        exact DatAll.append (hA3.mono fun p hp => .tail _ hp) (DatAll.one (hYd.mono fun p hp => by rw [List.mem_singleton.mp hp]; exact .head _))
      case doneR =>
        rintro m₁ w n1 tl3 h4 tk4 ⟨hm1, hm2, hm3, ⟨t4, hm4⟩, hmS, hA3⟩ ho F5 N6
        have F6 := know (know (know (know (know F5 (x := Str.ofString "rows") hm1) (x := Str.ofString "texts") hm2) (x := Str.ofString "home") hm3) (x := Str.ofString "start") hm4) (x := Str.ofString "script") hmS
        rw [htl, List.take_length] at hA3
        clear F5
        obtain ⟨tl3b, hA3, hdd, N6⟩ := law_split2 N6 hcc (by with_reducible assumption) (by with_reducible assumption) (by with_reducible assumption) hA3 (fun _ e => nomatch e)
        have hdd1 := fun (p : Addr × Obj) hp => (hdd p hp).1
        have hdd2 := fun (p : Addr × Obj) hp => (hdd p hp).2.1
        have hdd3 := fun (p : Addr × Obj) hp => (hdd p hp).2.2
        have hwl := hA3.length
        rw [List.length_map] at hwl
        have htr2 := htr.2.1
        ktr_unf
        (with_reducible rename Fr _ _ _ _ => lF')
        refine LCg.CompSrc.ledger rfl lF' N6 (.tail _ (.tail _ (.tail _ (.head _)))) (by rw [List.size_toArray, sizeLine_eq]; omega) ?_
        intro g6
        refine comp_all (fun i ys nw => nw = _ ∧ StrsAre ys ((tr.take i).map pathW)) ⟨rfl, .nil⟩ ?turnP ?finP
        case turnP =>
          rintro k ys nw hk ⟨rfl, hY⟩ v I5 oI5 C5 oC5 D5 m5 h5 tk5 E5 hv5 hC5 hx5 F5 N7 off5 ne5
          rw [List.getElem?_toArray] at hv5
          obtain ⟨d, hd, hdin⟩ := DatAll.at hA3 hv5
          rw [List.getElem?_map] at hd
          obtain ⟨l, hl, rfl⟩ := Option.map_eq_some_iff.mp hd
          obtain ⟨a8, s1, s2, s3, k8, rfl, hm8⟩ := in_row hdin
          have hm7 := lw6 N7 hm8
          ktr_unf
          refine' end_same (by assumption) (by assumption) off5 ?S5 ?_
          case S5 => exact Or.inr ⟨_, .tail _ (.tail _ (.tail _ (.head _))), rfl, _, rfl⟩
          refine ⟨rfl, ?_⟩
          rw [List.take_add_one, hl, List.map_append]
          exact StrsAre.snoc hY _ _
        case finP =>
          rintro yp nw ⟨rfl, hYP⟩
          rw [List.size_toArray, hwl, List.take_length] at hYP
          ktr_unf
          (with_reducible rename Fr _ _ _ _ => lF')
          (with_reducible rename News _ _ _ _ => lN')
          have htr3 := htr.2.2
          refine sorted_dat (k := 0) (vs := w) (cold := tl3b) lF' lN' (by k_mem) hA3 (fun p hp => by simp [hp]) (by rw [← htrW]; exact rows_sortable script) (by rw [List.length_map]; omega) (by rw [List.length_map]; omega) (by ktr_units) ?_
          intro lS us es cS hS9 FS NS hltS hAS hSB
          (try k_lt hltS)
          obtain ⟨hr1, hr2, hr3, hr4, hr5⟩ := start_norm script
          dsimp only
          ktr_unf
          (with_reducible rename Fr _ _ _ _ => lF')
          (with_reducible rename News _ _ _ _ => lN')
          have hTL := told_law script (es := es) (by unfold rowsD; rw [htrW]; exact hSB)
          rw [htrW] at hTL
          have hpf := places_facts htr.1
          have hsl3 := (start_facts script).2.2
          obtain ⟨nst, _, hst9⟩ := List.mem_map.mp (start_mem script)
          refine told_c (G := GR) (by assumption) lF' (by assumption) (cb_drop lN' lw7) (by assumption) rfl rfl (by ktr_room) (by ktr_units) hYP (by rw [List.length_map]; omega) (by omega) gr_empty (fun x y h1 h2 => gr_join h1 h2) gr_dd (fun q hq => (hpf q hq).1) (fun x h => h.1) (fun q hq => (hpf q hq).2) (fun t ht _ => by rw [← hst9]; exact start_gr nst t ht) ?_
          intro lDT nwT h7 tk7 F7 N7 hDT
          rw [hTL.1, hTL.2] at hDT
          clear lF' lN'
          dsimp only
          ktr_unf
          (with_reducible rename Fr _ _ _ _ => lF')
          (with_reducible rename News _ _ _ _ => lN')
          have hesl := hSB.length
          have hok := rows_ok (home := straightW (startW script)) htr.1
          have heso : kqdOk 8 (.tuple [.list es, .list []]) = true := es_ok hSB hok
          refine ne_datV lN' (hDT.mono (fun p hp => .tail _ (.tail _ hp))) (fun p hp => hp) (.tuple (vs := [.ref lS, .ref _]) (.head _) (.cons (.list (.tail _ (.tail _ (List.mem_append_right _ (.tail _ (.head _))))) (hAS.mono ?s9)) (.cons (.list (vs := []) (.tail _ (.head _)) .nil) .nil))) (fun p hp => hp) heso heso (by ktr_units) rfl ?_
          case s9 => exact fun p hp => by simp [hp]
          have N8 := cb_drop lN' lw8
          clear lN' hDT
          have hno : normW (startW script) = pathW (straightW (startW script)) := by rw [← hst9]; exact norm_text nst
          have hsf := start_facts script
          have hlk := norm_link hno hsf.1 hsf.2.1
          have hyl9 := hYP.len_eq
          rw [List.length_map] at hyl9
          ktr_unf
          (with_reducible rename Fr _ _ _ _ => lF')
          refine LCg.CompSrc.ledger rfl lF' N8 (.head _) (by rw [List.size_toArray, sizeLine_eq]; omega) ?_
          intro g7
          refine comp_all (fun i ys nw => ∃ tq, nw = tq ++ _ ∧ DatAll tq ys ((tr.take i).map (pairD (straightW (startW script))))) ⟨[], rfl, .nil⟩ ?turnQ ?finQ
          case turnQ =>
            rintro k ys nw hk ⟨tq, rfl, hA⟩ v I5 oI5 C5 oC5 D5 m5 h5 tk5 E5 hv5 hC5 hx5 F5 N9 off5 ne5
            rw [List.getElem?_toArray] at hv5
            obtain ⟨x, tx, rfl, hx⟩ := hYP.item k v hv5
            rw [List.getElem?_map] at hx
            obtain ⟨l, hl, rfl⟩ := Option.map_eq_some_iff.mp hx
            have hlf := htr.1 l (List.mem_of_getElem? hl)
            clear lF' N8
            ktr_unf
            (with_reducible rename Fr _ _ _ _ => lF')
            (with_reducible rename News _ _ _ _ => lN')
            refine link_c (by assumption) lF' (by assumption) lN' (by assumption) rfl rfl (by ktr_room) (by ktr_units) hlk.1 (Nat.le_trans (path_len hlf.1 hlf.2) (by decide)) hlk.2.1 path_sw ?_
            intro t9 h9 tk9 F9 N10
            rw [hlk.2.2 l hlf.1]
            clear lF' lN'
            dsimp only
            ktr_unf
            (with_reducible rename Fr _ _ _ _ => lF')
            (with_reducible rename News _ _ _ _ => lN')
            obtain ⟨lY, oY, e9, hYd, N11⟩ := pair_cap lN'
            subst e9
            have hYI : @Ne Nat lY I5 := by k_ne
            have hYC : @Ne Nat lY C5 := by k_ne
            have hYD5 : @Ne Nat lY D5 := by k_ne
            refine end_new lF' N11 hYI hYC hYD5 off5 ?S5 ?_
            case S5 => exact Or.inr ⟨_, .tail _ (List.mem_append_right _ (.head _)), rfl, _, rfl⟩
            refine ⟨_ :: tq, rfl, ?_⟩
            rw [List.take_add_one, hl, List.map_append]
            exact DatAll.append (hA.mono fun p hp => .tail _ hp) (DatAll.one (hYd.mono fun p hp => by rw [List.mem_singleton.mp hp]; exact .head _))
          case finQ =>
            rintro yq nw ⟨tq, rfl, hAQ⟩
            rw [List.size_toArray, hyl9, List.take_length] at hAQ
            clear lF' N8
            ktr_unf
            (with_reducible rename Fr _ _ _ _ => lF')
            (with_reducible rename News _ _ _ _ => lN')
            refine LCg.CompSrc.ledger rfl lF' lN' (lq1 _ _ _ _ _ _ _ _ _) (by rw [List.size_toArray, sizeLine_eq]; omega) ?_
            intro g8
            refine comp_all (fun i ys nw => ∃ tr2, nw = tr2 ++ _ ∧ DatAll tr2 ys ((tr.take i).map (pairD (straightW (startW script))))) ⟨[], rfl, .nil⟩ ?turnS ?finS
            case turnS =>
              rintro k ys nw hk ⟨ts, rfl, hA⟩ v I5 oI5 C5 oC5 D5 m5 h5 tk5 E5 hv5 hC5 hx5 F5 N9 off5 ne5
              rw [List.getElem?_toArray] at hv5
              obtain ⟨d, hd, hdin⟩ := DatAll.at hA3 hv5
              rw [List.getElem?_map] at hd
              obtain ⟨l, hl, rfl⟩ := Option.map_eq_some_iff.mp hd
              obtain ⟨a8, s1, s2, s3, k8, rfl, hm8⟩ := in_row hdin
              have hm7 := lq2 N9 hm8
              clear lF' lN'
              ktr_unf
              (with_reducible rename Fr _ _ _ _ => lF')
              (with_reducible rename News _ _ _ _ => lN')
              obtain ⟨lY, oY, e9, hYd, N11⟩ := pair_cap lN'
              subst e9
              have hYI : @Ne Nat lY I5 := by k_ne
              have hYC : @Ne Nat lY C5 := by k_ne
              have hYD5 : @Ne Nat lY D5 := by k_ne
              refine end_new lF' N11 hYI hYC hYD5 off5 ?S5 ?_
              case S5 => exact Or.inr ⟨_, .tail _ (List.mem_append_right _ (lq1 _ _ _ _ _ _ _ _ _)), rfl, _, rfl⟩
              refine ⟨_ :: ts, rfl, ?_⟩
              rw [List.take_add_one, hl, List.map_append]
              exact DatAll.append (hA.mono fun p hp => .tail _ hp) (DatAll.one (hYd.mono fun p hp => by rw [List.mem_singleton.mp hp]; exact .head _))
            case finS =>
              rintro ys nw ⟨ts, rfl, hAS2⟩
              rw [List.size_toArray, hwl, List.take_length] at hAS2
              clear lF' lN'
              ktr_unf
              (with_reducible rename Fr _ _ _ _ => lF')
              (with_reducible rename News _ _ _ _ => lN')
              have hpo := pairs_ok (home := straightW (startW script)) htr.1
              refine ne_datV lN' (.list (.tail _ (List.mem_append_right _ (.head _))) (hAQ.mono ?s8)) (fun p hp => hp) (.list (.head _) (hAS2.mono ?s9)) (fun p hp => hp) hpo hpo (by ktr_units) rfl ?_
              case s8 => exact fun p hp => .tail _ (List.mem_append_right _ (.tail _ (List.mem_append_left _ hp)))
              case s9 => exact fun p hp => .tail _ (List.mem_append_left _ hp)
              obtain ⟨lQ, eQ, N8⟩ := led_cap (cb_drop lN' lq3)
              subst eQ
              clear lN'
              have hyl8 := hYA.len_eq
              ktr_unf
              (with_reducible rename Fr _ _ _ _ => lF')
              refine For_invVF lF' rfl rfl ?_
              ktr_unf
              (with_reducible rename Fr _ _ _ _ => lF')
              refine iter_list rfl (lq4 _ _ _ _ _ _ _ _ _ _ _) rfl rfl lF' N8 (fun I h' S => loop_hot0 S (fun p hp => by rw [List.mem_singleton.mp hp]; exact lq4 _ _ _ _ _ _ _ _ _ _ _) (fun i m' tl => tl = [] ∧ m' (Str.ofString "home") = some (.ref lH) ∧ m' (Str.ofString "due") = some (.ref lS) ∧ m' (Str.ofString "pairs") = some (.ref lQ) ∧ m' (Str.ofString "script") = some (.ref lSc)) ⟨rfl, rfl, rfl, rfl, rfl⟩ ?turnX ?doneX)
              case turnX =>
                rintro i v m₂ tl it h8 tk8 hi hv ⟨rfl, hm1, hm2, hm3, hm4⟩ hI F8 N9
                have F9 := know (know (know (know F8 (x := Str.ofString "home") hm1) (x := Str.ofString "due") hm2) (x := Str.ofString "pairs") hm3) (x := Str.ofString "script") hm4
                clear F8 lF' N8
                obtain ⟨x, tx, rfl, hx⟩ := hYA.item i v hv
                have hxm := List.mem_of_getElem? hx
                obtain ⟨hr6, hr7, hr8, hr9, hr10⟩ := text_norm script x hxm
                obtain ⟨nx, _, hnx⟩ := List.mem_map.mp hxm
                have hxn : normW x = pathW (straightW x) := by rw [← hnx]; exact norm_text nx
                have hxl := text_facts script x hxm
                have hxs : (∀ a ∈ straightW x, Nm a) ∧ (straightW x).length ≤ 3 := by rw [← hnx]; exact straight_nm nx
                have hxk := norm_link hxn hxs.1 hxs.2
                have hxw := names_wt hxs.1 hxs.2
                ktr_unf
                (with_reducible rename Fr _ _ _ _ => lF')
                (with_reducible rename News _ _ _ _ => lN')
                refine link_c (by assumption) lF' (by assumption) lN' (by assumption) rfl rfl (by ktr_room) (by ktr_units) hlk.1 hxk.1 hlk.2.1 hxk.2.1 ?_
                intro t9 h9 tk9 F9 N10
                rw [hxn, hlk.2.2 _ hxs.1]
                clear lF' lN'
                dsimp only
                ktr_unf
                (with_reducible rename Fr _ _ _ _ => lF')
                (with_reducible rename News _ _ _ _ => lN')
                (with_reducible rename StrsAre _ (straightW x) => hSx)
                refine way_c (home := straightW (startW script)) (goal := straightW x) (by assumption) lF' (by assumption) (led_up lN' (lq5 _ _ _ _ _ _ _ _ _ _ _ _ _)) (by assumption) rfl rfl (by ktr_room) (by ktr_units) (by with_reducible assumption) hSx (by omega) (by omega) (by omega) ?_
                intro tw h11 tk11 F11 N11
                have N12 := cb_drop N11 (fun p hp => .tail _ (.tail _ hp))
                clear N11 lN' lF'
                dsimp only
                ktr_unf
                · exact (ne_self (by with_reducible assumption)).elim
                (with_reducible rename Fr _ _ _ _ => lF')
                (with_reducible rename News _ _ _ _ => lN')
                show TurnEnd _ _ _ _ _ _ _
                exact Hot0.intro lF' lN' [] (fun p hp => hp) hI ⟨rfl, rfl, rfl, rfl, rfl⟩
              case doneX =>
                rintro m₂ tl h8 tk8 ⟨rfl, hm1, hm2, hm3, hm4⟩ F8 N9
                have F9 := know (know (know (know F8 (x := Str.ofString "home") hm1) (x := Str.ofString "due") hm2) (x := Str.ofString "pairs") hm3) (x := Str.ofString "script") hm4
                obtain ⟨lP, tl9, eP, N10, h257, aQ, aS, aT⟩ := law_norm1 N9 (fun xs n e => nomatch e) (hcc (257, tabObj #[]) (lq7 _ _ _ _ _)).2.2 (hcc (257, tabObj #[]) (lq7 _ _ _ _ _)).2.1 (hcc (257, tabObj #[]) (lq7 _ _ _ _ _)).1 hAQ hAS hA2
                subst eP
                clear F8 lF' N8 N9
                have hql := hAQ.length
                rw [List.length_map] at hql
                have hql2 : yq.length ≤ 19 := by omega
                dsimp only
                ktr_unf
                (with_reducible rename Fr _ _ _ _ => lF')
                (with_reducible rename News _ _ _ _ => lN')
                obtain ⟨lF, lC, lD, eF, eC, eD, N11⟩ := led_cap3 lN'
                subst eF eC eD
                have hwi := wish_eq script
                have hwr := wish_rng script
                rw [hwi] at lF' ⊢
                obtain ⟨tw9, lF'⟩ := fr_int lF'
                generalize wishN script = wi at *
                show wpAny _ _ (call (.ref 217) [.int (wi : Int) _, .ref lD] [(Str.ofString "key", .ref lF)]) _ _ _
                have hSN := near_sortable script
                obtain ⟨esN, hesN⟩ := sorted_ex (ds := (tr.map (pairD (straightW (startW script)))).reverse) hSN.swo
                have hNL := near_law script wi (es := es) (es2 := esN) (by unfold rowsD; rw [htrW]; exact hSB) (by rw [htrW]; exact hesN)
                unfold nearK at hSN hesN
                rw [htrW] at hSN hesN
                have aQr := dat_rev aQ
                clear lN' N10
                refine nsm_c (kk := 0) (by assumption) lF' (by assumption) (cb_drop N11 lw9) (by assumption) rfl rfl (by ktr_room) (by ktr_units) aQr ?hcold ?hkl ?hz ?hkey ?hn1 ?hz2 (by omega) hSN ?hokd ?hcmpd hesN ?_
                case hcold => exact fun p hp => by simp [hp]
                case hkl => simp
                case hz => simp; omega
                case hn1 => exact hwr.1
                case hz2 => simp; omega
                case hokd => exact fun d hd => pair_ok1 htr.1 d (List.mem_reverse.mp hd)
                case hcmpd => exact fun a ha c hc => pair_cmp1 a (List.mem_reverse.mp ha) c (List.mem_reverse.mp hc)
                case hkey =>
                  intro led dp un gd env outer A₀ base h₁ L9 m9 s9 Q9 E9 i v d B1 F1 X1 N1 T1 hf1 hk1 hd1 hu1 hsub hv hd hret
                  have N2 := led_up (led_up N1 (hsub _ (.tail _ (.head _)))) (.tail _ (hsub _ (.head _)))
                  obtain ⟨d0, hd0, hin0⟩ := DatAll.at aQr hv
                  rw [← List.map_reverse, List.getElem?_map] at hd0 hd
                  obtain ⟨l, hl, rfl⟩ := Option.map_eq_some_iff.mp hd
                  rw [hl] at hd0
                  cases hd0
                  obtain ⟨a8, s1, s2, k8, rfl, hm8⟩ := in_pair hin0
                  have N3 := led_up N2 (.tail _ (.tail _ (hsub _ (lq8 _ _ _ _ _ _ _ _ _ _ hm8))))
                  clear F9 lF' N11 aQ aQr hNL hesN N2 hin0 hd hv
                  refine wpAny_call ?_
                  refine' kla_code B1 F1 X1 N3 T1 ?kA hf1 hk1 ?k6 ?k7 ?k8 ?k9 ?kB ?_ ?c2 ?c3 ?c4 ?c5
                  case kA => exact rfl
                  case k6 => exact .tail _ (.head _)
                  case k7 => exact codeRec_news N3 (.tail _ (.tail _ (.head _))) (by with_reducible assumption) (by with_reducible assumption)
                  case k8 => exact Nat.lt_of_le_of_lt (Nat.le_add_right _ _) hd1
                  case k9 => exact rfl
                  case c5 => decide
                  case kB => exact locs rfl
                  case c2 => exact rfl
                  case c3 => exact rfl
                  case c4 => exact rfl
                  clear F1 N3 N1
                  have hlf := htr.1 l (List.mem_reverse.mp (List.mem_of_getElem? hl))
                  have hwy := way_len2 (home := straightW (startW script)) hsf.2.1 hlf.1 hlf.2
                  intro g' L' h' FG' F' N' B' X' T'
                  dsimp only
                  (try k_fold)
                  ktr_unf
                  (with_reducible rename Fr _ L9 _ _ => lF')
                  (with_reducible rename News _ L9 _ _ => lN')
                  (with_reducible rename a8 < _ ∧ _ => hl9)
                  refine hret _ [_] _ _ lF' (cb_drop lN' lw10) ?lt ?dat
                  case lt => exact fun p hp q hq => by rw [List.mem_singleton.mp hp]; exact allLt_lt hl9.2.2.2 q hq
                  case dat => exact .tuple (vs := [.int _ _, .str _ _]) (.head _) (.cons (.int _ _) (.cons (.str _ _) .nil))
                intro lNr nwN h14 tk14 F14 N14 hDN
                obtain ⟨vN, nN, tn, N15, h257b, aN⟩ := law_norm2 N14 (lq9 _ _ _ _ _ _) (fun p hp => List.mem_append_right _ (.tail _ (.tail _ (.tail _ (.tail _ (.tail _ hp)))))) (fun xs n e => nomatch e) (fun p hp => h257 p (.tail _ hp)) hDN
                clear N14 N11 lF' hDN
                ktr_unf
                (with_reducible rename Fr _ _ _ _ => lF')
                (with_reducible rename News _ _ _ _ => lN')
                obtain ⟨lF2, lC2, eF, eC, N16⟩ := led_cap2 lN'
                subst eF eC
                show wpAny _ _ (call (.ref 217) [.int (wi : Int) _, .ref lP] [(Str.ofString "key", .ref lF2)]) _ _ _
                have hSH := high_sortable script
                obtain ⟨esH, hesH⟩ := sorted_ex (ds := (tr.map pathW).map .str) hSH.swo
                have hHL := fun es2 h => high_law script wi (es := es2) (es2 := esH) h (by rw [htrW]; exact hesH)
                unfold highK at hSH hesH
                rw [htrW] at hSH hesH
                have aP : DatAll [] yp ((tr.map pathW).map .str) := strs_dat hYP
                clear lN'
                refine nsm_c (kk := 0) (by assumption) lF' (by assumption) (cb_drop N16 lw11) (by assumption) rfl rfl (by ktr_room) (by ktr_units) aP (fun p hp => nomatch hp) ?hkl ?hz ?hkey ?hn1 ?hz2 (by omega) hSH ?hokd ?hcmpd hesH ?_
                case hkl => simp
                case hz => simp; omega
                case hn1 => exact hwr.1
                case hz2 => simp; omega
                case hokd => exact path_ok1 htr.1
                case hcmpd => exact path_cmp1
                case hkey =>
                  intro led dp un gd env outer A₀ base h₁ L9 m9 s9 Q9 E9 i v d B1 F1 X1 N1 T1 hf1 hk1 hd1 hu1 hsub hv hd hret
                  have N2 := led_up (led_up N1 (hsub _ (.tail _ (.head _)))) (.tail _ (hsub _ (.head _)))
                  obtain ⟨x, tx, rfl, hx⟩ := hYP.item i v hv
                  rw [List.getElem?_map] at hx hd
                  obtain ⟨l, hl, rfl⟩ := Option.map_eq_some_iff.mp hd
                  rw [hl] at hx
                  cases hx
                  have hlf := htr.1 l (List.mem_of_getElem? hl)
                  clear F9 lF' N16 hHL hesH hd hv
                  refine wpAny_call ?_
                  refine' kla_code B1 F1 X1 N2 T1 ?kA hf1 hk1 ?k6 ?k7 ?k8 ?k9 ?kB ?_ ?c2 ?c3 ?c4 ?c5
                  case kA => exact rfl
                  case k6 => exact .head _
                  case k7 => exact codeRec_news N2 (.tail _ (.head _)) (by with_reducible assumption) (by with_reducible assumption)
                  case k8 => exact Nat.lt_of_le_of_lt (Nat.le_add_right _ _) hd1
                  case k9 => exact rfl
                  case c5 => decide
                  case kB => exact locs rfl
                  case c2 => exact rfl
                  case c3 => exact rfl
                  case c4 => exact rfl
                  clear F1 N2 N1
                  have hpl := path_len hlf.1 hlf.2
                  have hps := path_split_len (l := l)
                  have hsl9 : (straightW (pathW l)).length = l.length := congrArg List.length (straight_path hlf.1)
                  intro g' L' h' FG' F' N' B' X' T'
                  dsimp only
                  (try k_fold)
                  ktr_unf
                  (with_reducible rename Fr _ L9 _ _ => lF')
                  (with_reducible rename News _ L9 _ _ => lN')
                  (with_reducible rename List.length _ = List.length (straightW _) => hq9)
                  rw [hq9, hsl9]
                  exact hret _ [] _ _ lF' (cb_drop lN' lw12) (fun p hp => nomatch hp) (.int _ _)
                intro lHr nwH h15 tk15 F15 N17 hDH
                obtain ⟨vH, nH, ld, N18, aH, hld, hlt9⟩ := law_norm3 N17 hDH
                have aT2 := aT.mono (fun p hp => hld p (List.mem_append_left _ hp))
                have aS2 := aS.mono (fun p hp => hld p (List.mem_append_left _ hp))
                have aN2 := aN.mono (fun p hp => hld p (List.mem_append_right _ hp))
                clear N16 lF' N17 hDH
                ktr_unf
                (with_reducible rename Fr _ _ _ _ => lF')
                (with_reducible rename News _ _ _ _ => lN')
                (with_reducible rename IsRange _ _ _ _ _ _ _ _ => hR)
                refine comp_range0 rfl lF' lN' hR (by omega) ?_
                intro g9
                refine comp_all (fun i ys nw => ∃ tq, nw = tq ++ _ ∧ DatAll tq ys ((List.range i).map (flatF tr))) ⟨[], rfl, .nil⟩ ?turnF ?finF
                case turnF =>
                  rintro k ys nw hk ⟨tq, rfl, hA⟩ v I5 oI5 C5 oC5 D5 m5 h5 tk5 E5 ⟨t5, rfl⟩ hC5 hx5 F5 N9 off5 ne5
                  clear lF' lN'
                  ktr_unf
                  (with_reducible rename Fr _ _ _ _ => lF')
                  (with_reducible rename News _ _ _ _ => lN')
                  (with_unfolding_all refine' hot_item lN' ?mm aT2 ?aa ?bb ?cc ?_ ?rr)
                  case mm => k_mem
                  case aa => omega
                  case bb => rw [List.length_map]; omega
                  case cc => omega
                  case rr => with_unfolding_all rfl
                  intro v8 d8 hv8 hd8 hD8
                  rw [List.getElem?_map, Int.toNat_natCast] at hd8
                  obtain ⟨l, hl, rfl⟩ := Option.map_eq_some_iff.mp hd8
                  obtain ⟨la, lv, ln, rfl, hlm, hlS⟩ := in_names hD8
                  have N12 := led_up lN' (lm2 _ _ _ _ _ _ _ _ _ _ _ hlm)
                  have hlz := hlS.len_eq
                  have hlf := (htr.1 l (List.mem_of_getElem? hl)).2
                  clear lN'
                  ktr_unf
                  (with_reducible rename Fr _ _ _ _ => lF')
                  (with_reducible rename News _ _ _ _ => lN')
                  obtain ⟨lY, oY, e9, hYd, N11⟩ := flat_cap lN'
                  subst e9
                  have hYI : @Ne Nat lY I5 := by k_ne
                  have hYC : @Ne Nat lY C5 := by k_ne
                  have hYD5 : @Ne Nat lY D5 := by k_ne
                  refine end_new lF' (cb_drop N11 lm3) hYI hYC hYD5 off5 trivial ?_
                  refine ⟨_ :: tq, rfl, ?_⟩
                  rw [List.range_succ, List.map_append]
                  refine DatAll.append (hA.mono fun p hp => .tail _ hp) (DatAll.one ?_)
                  have e7 : flatF tr k = .tuple [.int (lv.length : Int), .int (k : Int)] := by
                    unfold flatF; rw [List.getD_eq_getElem?_getD, hl, hlz]; rfl
                  rw [e7]
                  exact hYd.mono fun p hp => by rw [List.mem_singleton.mp hp]; exact .head _
                case finF =>
                  rintro yf nw ⟨tq, rfl, hAF⟩
                  rw [htl] at hAF
                  clear lF' lN'
                  ktr_unf
                  (with_reducible rename Fr _ _ _ _ => lF')
                  (with_reducible rename News _ _ _ _ => lN')
                  have hSF := flat_sortable (tr := tr)
                  refine sorted_dat (k := 0) (vs := yf) (cold := tq) lF' lN' (.head _) hAF (fun p hp => .tail _ (List.mem_append_left _ hp)) hSF (by rw [List.length_map, List.length_range]; omega) (by rw [List.length_map, List.length_range]; omega) (by ktr_units) ?_
                  intro lG ug ef cG hG9 FG NG hltG hAG hSG
                  (try k_lt hltG)
                  have hus : us.length ≤ 19 := by rw [aS2.length, hesl, List.length_map]; omega
                  have hug := hAG.length
                  rw [hSG.length, List.length_map, List.length_range] at hug
                  clear lF' lN'
                  ktr_unf
                  (with_reducible rename Fr _ _ _ _ => lF')
                  (with_reducible rename News _ _ _ _ => lN')
                  rw [sp_upto] at lN'
                  have hul : (us.take wi).length = (es.take wi).length := by rw [List.length_take, List.length_take, aS2.length]
                  refine LCg.CompSrc.ledger rfl lF' lN' (.head _) (by rw [List.size_toArray, sizeLine_eq, List.length_take]; omega) ?_
                  intro g10
                  refine comp_all (fun i ys nw => ∃ tq2, nw = tq2 ++ _ ∧ DatAll tq2 ys (((es.take wi).take i).map rowPair)) ⟨[], rfl, by rw [List.take_zero]; exact .nil⟩ ?turnG ?finG
                  case turnG =>
                    rintro k ys nw hk ⟨tq2, rfl, hA⟩ v I5 oI5 C5 oC5 D5 m5 h5 tk5 E5 hv5 hC5 hx5 F5 N9 off5 ne5
                    rw [List.getElem?_toArray] at hv5
                    obtain ⟨d, hd, hdin⟩ := DatAll.at (dat_take aS2 wi) hv5
                    obtain ⟨l, hl, rfl⟩ : ∃ l ∈ tr, d = encR (rowOf (straightW (startW script)) l) := es_shape hSB (List.mem_of_mem_take (List.mem_of_getElem? hd))
                    obtain ⟨a8, s1, s2, s3, k8, rfl, hm8⟩ := in_row hdin
                    have hm7 := lm4 N9 hm8
                    clear lF' lN'
                    ktr_unf
                    (with_reducible rename Fr _ _ _ _ => lF')
                    (with_reducible rename News _ _ _ _ => lN')
                    obtain ⟨lY, oY, e9, hYd, N11⟩ := pair_cap lN'
                    subst e9
                    have hYI : @Ne Nat lY I5 := by k_ne
                    have hYC : @Ne Nat lY C5 := by k_ne
                    have hYD5 : @Ne Nat lY D5 := by k_ne
                    refine end_new lF' N11 hYI hYC hYD5 off5 ?S5 ?_
                    case S5 => exact Or.inr ⟨_, .tail _ (List.mem_append_right _ (.head _)), rfl, _, rfl⟩
                    refine ⟨_ :: tq2, rfl, ?_⟩
                    rw [List.take_add_one, hd, List.map_append]
                    exact DatAll.append (hA.mono fun p hp => .tail _ hp) (DatAll.one (hYd.mono fun p hp => by rw [List.mem_singleton.mp hp]; exact .head _))
                  case finG =>
                    rintro yg nw ⟨tq2, rfl, hAG2⟩
                    rw [List.size_toArray, hul, List.take_length] at hAG2
                    clear lF' lN'
                    ktr_unf
                    (with_reducible rename Fr _ _ _ _ => lF')
                    (with_reducible rename News _ _ _ _ => lN')
                    have hgo := near_ok wi hSB htr.1
                    rw [hNL] at aN2
                    refine eq_datV lN' (.list (lm5 _ _ _ _ _ _ _ _ _ _ _ _) (aN2.mono ?s8)) (fun p hp => hp) (.list (.head _) (hAG2.mono ?s9)) (fun p hp => hp) hgo hgo (by ktr_units) rfl ?_
                    case s8 => exact fun p hp => lm6 _ _ _ _ _ _ _ _ _ _ hp
                    case s9 => exact fun p hp => .tail _ (List.mem_append_left _ hp)
                    have N8 := cb_drop lN' lq3
                    clear lN' hAG2
                    have hug2 : ug.length ≤ 19 := by omega
                    ktr_unf
                    (with_reducible rename Fr _ _ _ _ => lF')
                    (with_reducible rename News _ _ _ _ => lN')
                    rw [sp_upto] at lN'
                    have hef := hSG.length
                    rw [List.length_map, List.length_range] at hef
                    have hgl : (ug.take wi).length = (ef.take wi).length := by rw [List.length_take, List.length_take, hAG.length]
                    refine LCg.CompSrc.ledger rfl lF' lN' (.head _) (by rw [List.size_toArray, sizeLine_eq, List.length_take]; omega) ?_
                    intro g11
                    refine comp_all (fun i ys nw => nw = _ ∧ DatAll [] ys (((ef.take wi).take i).map (flatPick (tr.map pathW)))) ⟨rfl, by rw [List.take_zero]; exact .nil⟩ ?turnK ?finK
                    case turnK =>
                      rintro k ys nw hk ⟨rfl, hA⟩ v I5 oI5 C5 oC5 D5 m5 h5 tk5 E5 hv5 hC5 hx5 F5 N9 off5 ne5
                      rw [List.getElem?_toArray] at hv5
                      obtain ⟨d, hd, hdin⟩ := DatAll.at (dat_take hAG wi) hv5
                      obtain ⟨i, hi, rfl⟩ : ∃ i, i < tr.length ∧ d = flatF tr i := ef_shape hSG (List.mem_of_mem_take (List.mem_of_getElem? hd))
                      obtain ⟨a8, s1, s2, k8, rfl, hm8⟩ := in_flat hdin
                      have hm7 := lm7 N9 hm8
                      clear lF' lN'
                      ktr_unf
                      (with_reducible rename Fr _ _ _ _ => lF')
                      (with_reducible rename News _ _ _ _ => lN')
                      (with_unfolding_all refine' hot_itemS lN' (lm10 _ _ _ _ _ _ _ _ _) rfl rfl hYP ?aa ?bb ?cc ?_ ?rr)
                      case aa => omega
                      case bb => omega
                      case cc => omega
                      case rr => with_unfolding_all rfl
                      intro y8 t8 hy8 hz8
                      rw [Int.toNat_natCast] at hz8
                      ktr_unf
                      refine' end_same (by assumption) (by assumption) off5 ?S5 ?_
                      case S5 => exact Or.inr ⟨_, .head _, rfl, _, rfl⟩
                      refine ⟨rfl, ?_⟩
                      rw [List.take_add_one, hd, List.map_append]
                      refine DatAll.append hA (DatAll.one ?_)
                      have e7 : flatPick (tr.map pathW) (flatF tr i) = .str y8 := by
                        unfold flatF flatPick; simp only [Int.toNat_natCast]; rw [List.getD_eq_getElem?_getD, hz8]; rfl
                      rw [e7]
                      exact .str _ _
                    case finK =>
                      rintro yk nw ⟨rfl, hAK⟩
                      rw [List.size_toArray, hgl, List.take_length] at hAK
                      clear lF' lN'
                      ktr_unf
                      (with_reducible rename Fr _ _ _ _ => lF')
                      (with_reducible rename News _ _ _ _ => lN')
                      have hH := hHL ef (by unfold flatD; rw [htrW]; exact hSG)
                      rw [htrW] at hH
                      have hgo2 := high_ok (wi := wi) hSG htr.1
                      rw [hH] at aH
                      refine eq_datV lN' (.list (lm8 _ _ _ _ _ _ _ _ _ _ _ _) (aH.mono ?s6)) (fun p hp => hp) (.list (.head _) (hAK.mono no_mem)) (fun p hp => hp) hgo2 hgo2 (by ktr_units) rfl ?_
                      case s6 => exact fun p hp => lm9 _ _ _ _ _ _ _ _ _ _ hp
                      iterate 6 (first | (k_unfold; (try dsimp only)) | skip)
                      refine ⟨goodW_bool lF' (by with_reducible assumption) (raisesW_false ?hn9) ?hp9, GrownAt.of lN' (lm9 _ _ _ _ _ _ _ _ _ _ hlt9), trivial⟩
                      case hn9 => wrow_none_raised
                      case hp9 => exact post_true script
    )
end Mine
end

theorem PySem.Challenge.cw_ik0112_01_holds : PySem.Challenge.rw_ik0112_01.Holds :=
  Mine.lawtry
