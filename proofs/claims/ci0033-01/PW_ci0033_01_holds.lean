import PyProof.Rows.All
import Wide.All
import OpenK.AllK
import Wide.FinOn
import Lean
import PySem.Challenge.RW_ci0033_01
open PySem PySem.W PyProof.Rows PySem.Calls
set_option Elab.async false
set_option maxRecDepth 100000
set_option maxHeartbeats 8000000
set_option rowWalk.seconds 0
set_option linter.unusedVariables false
namespace Mine
open_top hd for PySem.Challenge.rw_ci0033_01
example : PySem.Challenge.rw_ci0033_01.Holds → hd.heap_39 = hd.heap_39 := by
  k_fill
  w_top off
  intro _; rfl
abbrev Led := List (Addr × Obj)

/-- a frame's map: the names ps as said, all but the names st as they stood -/
def Has (st : List Str) (keep : Str → Option Value) (ps : List (Str × Value)) (m : Str → Option Value) : Prop :=
  (∀ p ∈ ps, m p.1 = some p.2) ∧ ∀ z, st.contains z = false → m z = keep z
theorem Has.out {st : List Str} {keep m : Str → Option Value} {ps : List (Str × Value)} (h : Has st keep ps m) : ∃ u : Str → Option Value, m = kstB (fun z => if st.contains z then u z else keep z) ps := by
  obtain ⟨h1, h2⟩ := h
  refine ⟨m, funext fun z => (kstB_eq h1 fun _ => ?_).symm⟩
  show (if st.contains z = true then m z else keep z) = m z
  cases h3 : st.contains z with
  | true => simp
  | false => simp only [Bool.false_eq_true, if_false]; exact (h2 z h3).symm
theorem Has.refl {st : List Str} {m : Str → Option Value} {ps : List (Str × Value)} (h : ∀ p ∈ ps, m p.1 = some p.2) : Has st m ps m := ⟨h, fun _ _ => rfl⟩
theorem sub_led {h₀ h : Heap} {L : Addr} {l l' : Led} (N : News h₀ L h l) (hs : ∀ p ∈ l', p ∈ l) : News h₀ L h l' := fun p hp => N p (hs p hp)
/-- what a turn's end owes -/
def TurnEnd (h₀ : Heap) (L : Addr) (wr : List Addr) (own : Led) (J : (Str → Option Value) → Led → Prop) (s : Shared) (Q : Flow → Shared → Prop) (f : Flow) (s₂ : Shared) : Prop :=
  match f with
  | .ret v => Q (.ret v) s₂
  | .brk => Q .next s₂
  | _ => ∃ h' tk' m' nx', s₂ = { s with heap := h', toks := tk' } ∧ Fr h₀ L h' m' ∧ News h₀ L h' (nx' ++ own) ∧ (∀ p ∈ nx', p.1 ∉ wr) ∧ J m' nx'

def WEnd (h₀ : Heap) (L : Addr) (s : Shared) (J : Nat → (Str → Option Value) → Led → Prop) (Q : Flow → Shared → Prop) (n : Nat) (f : Flow) (s₃ : Shared) : Prop := WhileStep2 h₀ L s J Q n f s₃
theorem WEnd.next {h₀ : Heap} {L : Addr} {s : Shared} {J : Nat → (Str → Option Value) → Led → Prop} {Q : Flow → Shared → Prop} {n : Nat} {h' : Heap} {tk' : Nat} {m' : Str → Option Value} {news' : Led} (n' : Nat)
    (F : Fr h₀ L h' m') (N : News h₀ L h' news') (hn : n' < n) (hJ : J n' m' news') : WEnd h₀ L s J Q n .next { s with heap := h', toks := tk' } := ⟨h', tk', m', news', n', rfl, F, N, hn, hJ⟩
theorem WEnd.brk {h₀ : Heap} {L : Addr} {s s₂ : Shared} {J : Nat → (Str → Option Value) → Led → Prop} {Q : Flow → Shared → Prop} {n : Nat} (h : Q .next s₂) : WEnd h₀ L s J Q n .brk s₂ := h
theorem whileJ {prog : Program} {w : World} {A : Around} {E : Value → Shared → Prop} {Q : Flow → Shared → Prop} {s : Shared} {env : Env} {h₀ : Heap} {L : Addr} {test : Expr} {body : List Stmt} {pos : Pos} {m : Str → Option Value} {news : Led}
    (J : Nat → (Str → Option Value) → Led → Prop) (n₀ : Nat) (F : Fr h₀ L s.heap m) (N : News h₀ L s.heap news) (hJ : J n₀ m news)
    (turn : ∀ n m₁ news₁ h₁ tk₁, s.toks ≤ tk₁ → J n m₁ news₁ → Fr h₀ L h₁ m₁ → News h₀ L h₁ news₁ →
      wpAny (model prog w) A (isTrue test env (eval test env)) (fun b s₂ =>
        if b = true then wpAny (model prog w) A (execs body env) (WEnd h₀ L s J Q n) E s₂ else Q .next s₂) E { s with heap := h₁, toks := tk₁ })
    (hE : PassesOwn (model prog w) A env E := by passes_own) :
    wpAny (model prog w) A (exec (.While test body [] pos) env) Q E s := by
  refine wpAny_While (codeAny_whileLoop (fun n s' => ∃ h₁ tk₁ m₁ news₁, s' = { s with heap := h₁, toks := tk₁ } ∧ s.toks ≤ tk₁ ∧ Fr h₀ L h₁ m₁ ∧ News h₀ L h₁ news₁ ∧ J n m₁ news₁) ?_ n₀ ⟨s.heap, s.toks, m, news, rfl, Nat.le_refl _, F, N, hJ⟩)
  rintro n s' ⟨h₁, tk₁, m₁, news₁, rfl, ht, F₁, N₁, J₁⟩
  refine wpAny_mono (wpAny_toks_of (n := s.toks) ht (turn n m₁ news₁ h₁ tk₁ ht J₁ F₁ N₁)) (fun b s₂ h₂ => ?_) fun e s' x => hE e s' x.2
  obtain ⟨ht₂, h₂⟩ := h₂
  cases b with
  | false => exact wpAny_execs_nil h₂
  | true =>
    rw [if_pos rfl] at h₂ ⊢
    refine wpAny_mono (wpAny_toks_of ht₂ h₂) (fun f s₃ h₃ => ?_) fun e s' x => hE e s' x.2
    obtain ⟨ht₃, h₃⟩ := h₃
    cases f with
    | next => obtain ⟨h', tk, m₂, news₂, n', rfl, F₂, N₂, hn, J₂⟩ := h₃; exact ⟨n', hn, h', tk, m₂, news₂, rfl, ht₃, F₂, N₂, J₂⟩
    | cont => obtain ⟨h', tk, m₂, news₂, n', rfl, F₂, N₂, hn, J₂⟩ := h₃; exact ⟨n', hn, h', tk, m₂, news₂, rfl, ht₃, F₂, N₂, J₂⟩
    | brk => exact h₃
    | ret v => exact h₃
theorem TurnEnd.next {h₀ : Heap} {L : Addr} {wr : List Addr} {own : Led} {J : (Str → Option Value) → Led → Prop} {s : Shared} {Q : Flow → Shared → Prop} {h' : Heap} {tk' : Nat} {m' : Str → Option Value} (nx' : Led)
    (F : Fr h₀ L h' m') (N : News h₀ L h' (nx' ++ own)) (hw : ∀ p ∈ nx', p.1 ∉ wr) (hJ : J m' nx') : TurnEnd h₀ L wr own J s Q .next { s with heap := h', toks := tk' } := ⟨h', tk', m', nx', rfl, F, N, hw, hJ⟩
theorem TurnEnd.cont {h₀ : Heap} {L : Addr} {wr : List Addr} {own : Led} {J : (Str → Option Value) → Led → Prop} {s : Shared} {Q : Flow → Shared → Prop} {h' : Heap} {tk' : Nat} {m' : Str → Option Value} (nx' : Led)
    (F : Fr h₀ L h' m') (N : News h₀ L h' (nx' ++ own)) (hw : ∀ p ∈ nx', p.1 ∉ wr) (hJ : J m' nx') : TurnEnd h₀ L wr own J s Q .cont { s with heap := h', toks := tk' } := ⟨h', tk', m', nx', rfl, F, N, hw, hJ⟩
theorem TurnEnd.brk {h₀ : Heap} {L : Addr} {wr : List Addr} {own : Led} {J : (Str → Option Value) → Led → Prop} {s s₂ : Shared} {Q : Flow → Shared → Prop} (h : Q .next s₂) : TurnEnd h₀ L wr own J s Q .brk s₂ := h
theorem TurnEnd.ret {h₀ : Heap} {L : Addr} {wr : List Addr} {own : Led} {J : (Str → Option Value) → Led → Prop} {s s₂ : Shared} {Q : Flow → Shared → Prop} {v : Value} (h : Q (.ret v) s₂) : TurnEnd h₀ L wr own J s Q (.ret v) s₂ := h
section
variable {prog : Program} {w : World} {A : Around} {E : Value → Shared → Prop} {s : Shared} {env : Env} {h₀ : Heap} {x : Str} {body : List Stmt} {Q : Flow → Shared → Prop}
/-- what a loop over an iterator owes -/
def LoopT (prog : Program) (w : World) (A : Around) (env : Env) (x : Str) (px : Pos) (body : List Stmt) (Q : Flow → Shared → Prop) (E : Value → Shared → Prop) (it : Value) (s : Shared) : Prop :=
  env.kindOf x = some .local → (env.scope.kind == .class || (env.scope.kind == .module && env.locals != env.globals)) = false → PassesOwn (model prog w) A env E →
    codeAny (model prog w) A (.forLoop (.Name x px) it body [] env) (fun r s' => match r with | .ok f => Q f s' | .error e => cameBackBy (model prog w) A env E e s') s
theorem For_T {px pos : Pos} {iter : Expr} (hx : env.kindOf x = some .local) (hp : (env.scope.kind == .class || (env.scope.kind == .module && env.locals != env.globals)) = false)
    (h : wpAny (model prog w) A (eval iter env) (fun xv s₁ => wpAny (model prog w) A (pyIter xv) (fun it s₂ => LoopT prog w A env x px body Q E it s₂) E s₁) E s)
    (hs : ∀ x, foldedSetIterable iter env x = pure x := by intro _; rfl) (hE : PassesOwn (model prog w) A env E := by passes_own) :
    wpAny (model prog w) A (exec (.For (.Name x px) iter body [] pos) env) Q E s :=
  wpAny_For (wpAny_mono h (fun _ _ h₁ => wpAny_mono h₁ (fun _ _ h₂ => h₂ hx hp hE) fun _ _ e => e) fun _ _ e => e) hs
theorem loopJ {I : Addr} {px : Pos} {fp wr : List Addr} {n : Nat} {P : Nat → Value → Prop} {St : Nat → Heap → Prop} {m₀ : Str → Option Value} {news : Led} (J : Nat → (Str → Option Value) → Led → Prop)
    (W : Walks prog w A I fp wr n P St) (hLf : env.locals ∉ fp) (hwr : ∀ b ∈ wr, h₀.get? b = none) (hnw : ∀ p ∈ news, p.1 ∉ wr) (hst : St 0 s.heap)
    (F : Fr h₀ env.locals s.heap m₀) (N : News h₀ env.locals s.heap news) (hlive : ∀ i h, St i h → ∀ b ∈ wr, ∃ o, h.get? b = some o) (hj : J 0 m₀ [])
    (turn : ∀ i v m₁ nx own h tk, s.toks ≤ tk → i < n → P i v → J i m₁ nx → (∀ b ∈ wr, ∃ o, (b, o) ∈ own) → (∀ p ∈ nx, p.1 ∉ wr) → (∀ p ∈ news, p ∈ own) → Fr h₀ env.locals h (fun y => if y = x then some v else m₁ y) → News h₀ env.locals h (nx ++ own) →
      wpAny (model prog w) A (execs body env) (TurnEnd h₀ env.locals wr own (J (i + 1)) s Q) E { s with heap := h, toks := tk })
    (done : ∀ m₁ nx h tk, s.toks ≤ tk → J n m₁ nx → Fr h₀ env.locals h m₁ → News h₀ env.locals h (nx ++ news) → Q .next { s with heap := h, toks := tk }) :
    LoopT prog w A env x px body Q E (.ref I) s := by
  intro hx hp hE
  have hLw : env.locals ∉ wr := fun h => hLf (W.sub _ h)
  have old : ∀ b o, h₀.get? b = some o → b ∉ wr := fun b o e hb => by rw [hwr b hb] at e; cases e
  refine codeAny_forLoop
    (fun k s' => ∃ h' tk m' nx i, s' = { s with heap := h', toks := tk } ∧ s.toks ≤ tk ∧ St i h' ∧ Fr h₀ env.locals h' m' ∧ News h₀ env.locals h' (nx ++ news) ∧ (∀ p ∈ nx, p.1 ∉ wr) ∧ J i m' nx ∧ i ≤ n ∧ k = n + 1 - i) ?_ (n + 1)
    ⟨s.heap, s.toks, m₀, [], 0, rfl, Nat.le_refl _, hst, F, N, (fun _ h => nomatch h), hj, Nat.zero_le _, rfl⟩
  rintro k s' ⟨h', tk, m', nx, i, rfl, ht, hst', F', N', hnx, hJ, hi, rfl⟩
  have hnw' : ∀ p ∈ nx ++ news, p.1 ∉ wr := fun p hp => (List.mem_append.mp hp).elim (hnx p) (hnw p)
  have next : ∀ h₁ : Heap, (∀ b o, b ∉ wr → h'.get? b = some o → h₁.get? b = some o) → Fr h₀ env.locals h₁ m' ∧ News h₀ env.locals h₁ (nx ++ news) := fun h₁ hk₁ =>
    ⟨⟨F'.ns.at' fun o e => hk₁ _ o hLw e, fun b o e => hk₁ b o (old b o e) (F'.keep b o e), F'.above⟩, fun p hp => ⟨hk₁ _ _ (hnw' p hp) (N' p hp).1, (N' p hp).2⟩⟩
  by_cases hlt : i < n
  · refine wpAny_with_toks (n := s.toks) ht ?_
    refine W.item i _ _ _ hlt hst' fun v h₁ tk₁ hP hst₁ hk₁ ht₁ => ?_
    obtain ⟨F₁, N₁⟩ := next h₁ hk₁
    refine wpAny_assign_Name (wpAny_storeName_local hx F₁.ns (fun h₂ hn₂ hs₂ => ?_) hp)
    have F₂ := F₁.set hn₂ hs₂
    have Nown : News h₀ env.locals h₂ (ownOf h₀ fp h₂) := news_ownOf hLf
    have hst₂ : St (i + 1) h₂ := W.frame _ _ _ hst₁ fun b hb o e => (hs₂.2 b fun q => hLf (q ▸ hb)).trans e
    have N₂ : News h₀ env.locals h₂ (nx ++ (ownOf h₀ fp h₂ ++ news)) := fun p hp => by
      rcases List.mem_append.mp hp with h | h
      · exact (N₁.set hs₂) p (List.mem_append_left _ h)
      · rcases List.mem_append.mp h with h | h
        · exact Nown p h
        · exact (N₁.set hs₂) p (List.mem_append_right _ h)
    have hown : ∀ b ∈ wr, ∃ o, (b, o) ∈ ownOf h₀ fp h₂ ++ news := fun b hb => by
      obtain ⟨o, ho⟩ := hlive _ _ hst₂ b hb
      exact ⟨o, List.mem_append_left _ (mem_ownOf (W.sub b hb) (hwr b hb) ho)⟩
    refine wpAny_mono (wpAny_toks_of (n := s.toks) (Nat.le_succ_of_le ht₁) (wpAny_passesOwn hE (turn i v m' nx (ownOf h₀ fp h₂ ++ news) h₂ (tk₁ + 1) (Nat.le_succ_of_le ht₁) hlt hP hJ hown hnx (fun p hp => List.mem_append_right _ hp) F₂ N₂))) (fun f s₃ h₃ => ?_) fun _ _ e => e.2
    obtain ⟨ht₃, h₃⟩ := h₃
    have fin : (∃ h' tk' m' nx', s₃ = { s with heap := h', toks := tk' } ∧ Fr h₀ env.locals h' m' ∧ News h₀ env.locals h' (nx' ++ (ownOf h₀ fp h₂ ++ news)) ∧ (∀ p ∈ nx', p.1 ∉ wr) ∧ J (i + 1) m' nx') →
        ∃ k, k < n + 1 - i ∧ ∃ h' tk m' nx i, s₃ = { s with heap := h', toks := tk } ∧ s.toks ≤ tk ∧ St i h' ∧ Fr h₀ env.locals h' m' ∧ News h₀ env.locals h' (nx ++ news) ∧ (∀ p ∈ nx, p.1 ∉ wr) ∧ J i m' nx ∧ i ≤ n ∧ k = n + 1 - i := by
      rintro ⟨h₃', tk₃, m₃, nx₃, rfl, F₃, N₃, ha₃, hJ₃⟩
      refine ⟨n + 1 - (i + 1), by omega, h₃', tk₃, m₃, nx₃, i + 1, rfl, ht₃, ?_, F₃, fun p hp => N₃ p ?_, ha₃, hJ₃, hlt, rfl⟩
      · refine W.frame _ _ _ hst₁ fun b hb o e => ?_
        have e₂ : h₂.get? b = some o := (hs₂.2 b fun q => hLf (q ▸ hb)).trans e
        cases hn : h₀.get? b with
        | some o₀ =>
          have : o₀ = o := by have := F₂.keep b o₀ hn; rw [e₂] at this; exact (Option.some.inj this).symm
          exact this ▸ F₃.keep b o₀ hn
        | none => exact (N₃ _ (List.mem_append_right _ (List.mem_append_left _ (mem_ownOf hb hn e₂)))).1
      · rcases List.mem_append.mp hp with h | h
        · exact List.mem_append_left _ h
        · exact List.mem_append_right _ (List.mem_append_right _ h)
    cases f with
    | ret v => exact h₃
    | brk => exact h₃
    | cont => exact fin h₃
    | next => exact fin h₃
  · have hin : i = n := by omega
    subst hin
    refine wpAny_with_toks (n := s.toks) ht ?_
    refine W.done _ _ _ hst' fun h₁ tk₁ hk₁ ht₁ => wpAny_execs_nil ?_
    obtain ⟨F₁, N₁⟩ := next h₁ hk₁
    exact done m' nx h₁ tk₁ ht₁ hJ F₁ N₁

/-- a loop over what a pyIter gives, the iterator the newest object -/
theorem iterJ {px : Pos} {o : Obj} {fp : List Addr} {n : Nat} {P : Nat → Value → Prop} {St : Nat → Heap → Prop} {m₀ : Str → Option Value} {news : Led} (J : Nat → (Str → Option Value) → Led → Prop)
    (W : Walks prog w A s.heap.objs.size (s.heap.objs.size :: fp) [s.heap.objs.size] n P St) (hfp : ∀ b ∈ fp, b < s.heap.objs.size ∧ b ≠ env.locals) (hst : St 0 (s.heap.push o))
    (F : Fr h₀ env.locals s.heap m₀) (N : News h₀ env.locals s.heap news) (hlive : ∀ i h, St i h → ∃ o, h.get? s.heap.objs.size = some o) (hj : J 0 m₀ [])
    (turn : ∀ i v m₁ nx own h tk, s.toks ≤ tk → i < n → P i v → J i m₁ nx → (∀ b ∈ [s.heap.objs.size], ∃ o, (b, o) ∈ own) → (∀ p ∈ nx, p.1 ∉ [s.heap.objs.size]) → (∀ p ∈ news, p ∈ own) → Fr h₀ env.locals h (fun y => if y = x then some v else m₁ y) → News h₀ env.locals h (nx ++ own) →
      wpAny (model prog w) A (execs body env) (TurnEnd h₀ env.locals [s.heap.objs.size] own (J (i + 1)) s Q) E { s with heap := h, toks := tk })
    (done : ∀ m₁ nx h tk, s.toks ≤ tk → J n m₁ nx → Fr h₀ env.locals h m₁ → News h₀ env.locals h (nx ++ news) → Q .next { s with heap := h, toks := tk }) :
    LoopT prog w A env x px body Q E (.ref s.heap.objs.size) { s with heap := s.heap.push o } := by
  refine loopJ (s := { s with heap := s.heap.push o }) J W (fun h => ?_) (fun b hb => ?_) (fun p hp hI => ?_) hst (F.push o) (fun p hp => ⟨Heap.get?_push_of_some _ (N p hp).1, (N p hp).2⟩) (fun i h st b hb => ?_) hj turn done
  · rcases List.mem_cons.mp h with e | h
    · exact absurd F.ns.lt (e ▸ Nat.lt_irrefl _)
    · exact (hfp _ h).2 rfl
  · rw [List.mem_singleton.mp hb]; exact next_is_new F
  · exact absurd (Heap.lt_size (N p hp).1) ((List.mem_singleton.mp hI) ▸ Nat.lt_irrefl _)
  · rw [List.mem_singleton.mp hb]; exact hlive i h st

/-- over a list of the ledger -/
theorem for_list {px : Pos} {l : Addr} {vs : List Value} {nn : Nat} {m₀ : Str → Option Value} {news : Led} (J : Nat → (Str → Option Value) → Led → Prop)
    (hh : A.handled = none) (hl : (l, listOf vs.toArray nn) ∈ news) (F : Fr h₀ env.locals s.heap m₀) (N : News h₀ env.locals s.heap news) (hj : J 0 m₀ [])
    (turn : ∀ i v m₁ nx own h tk, s.toks ≤ tk → vs[i]? = some v → J i m₁ nx → (∀ b ∈ [s.heap.objs.size], ∃ o, (b, o) ∈ own) → (∀ p ∈ nx, p.1 ∉ [s.heap.objs.size]) → (∀ p ∈ news, p ∈ own) → Fr h₀ env.locals h (fun y => if y = x then some v else m₁ y) → News h₀ env.locals h (nx ++ own) →
      wpAny (model prog w) A (execs body env) (TurnEnd h₀ env.locals [s.heap.objs.size] own (J (i + 1)) s Q) E { s with heap := h, toks := tk })
    (done : ∀ m₁ nx h tk, s.toks ≤ tk → J vs.length m₁ nx → Fr h₀ env.locals h m₁ → News h₀ env.locals h (nx ++ news) → Q .next { s with heap := h, toks := tk }) :
    wpAny (model prog w) A (pyIter (.ref l)) (fun it s₂ => LoopT prog w A env x px body Q E it s₂) E s := by
  have hls : s.heap.IsList l vs.toArray := News.isList N hl
  have hlt : l < s.heap.objs.size := Heap.lt_size (N _ hl).1
  refine wpAny_pyIter_list hls ?_
  have W := Walks.list (prog := prog) (w := w) hh s.heap.objs.size l (Nat.ne_of_lt hlt) vs.toArray
  refine iterJ (fp := [l]) (St := fun i h => h.IsListIter s.heap.objs.size l i ∧ h.IsList l vs.toArray) J W (fun b hb => ?_) ⟨⟨_, Heap.get?_push_size _ rfl, rfl, rfl⟩, hls.push _⟩ F N (fun i h st => ?_) hj (fun i v m₁ nx own h tk ht hi hp => turn i v m₁ nx own h tk ht (by simpa using hp)) (fun m₁ nx h tk ht hJ => done m₁ nx h tk ht (by simpa using hJ))
  · rw [List.mem_singleton.mp hb]; exact ⟨hlt, (N _ hl).2.1⟩
  · obtain ⟨o, ho, _⟩ := st.1; exact ⟨o, ho⟩

/-- over a bytes' ints -/
theorem for_bytes {px : Pos} {b : Array UInt8} {tb : Tok} {ks : List Int} {m₀ : Str → Option Value} {news : Led} (J : Nat → (Str → Option Value) → Led → Prop) (hb : KBw.bInts b = ks)
    (hh : A.handled = none) (F : Fr h₀ env.locals s.heap m₀) (N : News h₀ env.locals s.heap news) (hj : J 0 m₀ [])
    (turn : ∀ i k t m₁ nx own h tk, s.toks ≤ tk → ks[i]? = some k → 0 ≤ k → k < 256 → J i m₁ nx → (∀ b ∈ [s.heap.objs.size], ∃ o, (b, o) ∈ own) → (∀ p ∈ nx, p.1 ∉ [s.heap.objs.size]) → (∀ p ∈ news, p ∈ own) → Fr h₀ env.locals h (fun y => if y = x then some (.int k t) else m₁ y) → News h₀ env.locals h (nx ++ own) →
      wpAny (model prog w) A (execs body env) (TurnEnd h₀ env.locals [s.heap.objs.size] own (J (i + 1)) s Q) E { s with heap := h, toks := tk })
    (done : ∀ m₁ nx h tk, s.toks ≤ tk → J ks.length m₁ nx → Fr h₀ env.locals h m₁ → News h₀ env.locals h (nx ++ news) → Q .next { s with heap := h, toks := tk }) :
    wpAny (model prog w) A (pyIter (.bytes b tb)) (fun it s₂ => LoopT prog w A env x px body Q E it s₂) E s := by
  subst hb
  refine KBw.pyIter_bytes ?_
  have W := KBw.walks (prog := prog) (w := w) hh s.heap.objs.size b tb
  refine iterJ (fp := []) (St := fun i h => KBw.IsBytesIter h s.heap.objs.size b tb i) J W (fun b hb => by cases hb) ⟨_, Heap.get?_push_size _ rfl, rfl, rfl⟩ F N (fun i h st => ?_) hj (fun i v m₁ nx own h tk ht hi hp hJ => ?_) (fun m₁ nx h tk ht hJ => done m₁ nx h tk ht (by rw [KBw.ints_length]; exact hJ))
  · obtain ⟨o, ho, _⟩ := st; exact ⟨o, ho⟩
  · obtain ⟨c, u, hc, rfl⟩ := hp
    have hc' := KBw.ints_get hc
    have hr := KBw.ints_in (List.mem_of_getElem? hc')
    exact turn i _ u m₁ nx own h tk ht hc' hr.1 hr.2 hJ

/-- over a text's signs -/
theorem for_str {px : Pos} {t : Str} {tb : Tok} {m₀ : Str → Option Value} {news : Led} (J : Nat → (Str → Option Value) → Led → Prop)
    (hh : A.handled = none) (F : Fr h₀ env.locals s.heap m₀) (N : News h₀ env.locals s.heap news) (hj : J 0 m₀ [])
    (turn : ∀ i c u m₁ nx own h tk, s.toks ≤ tk → t.cps[i]? = some c → J i m₁ nx → (∀ b ∈ [s.heap.objs.size], ∃ o, (b, o) ∈ own) → (∀ p ∈ nx, p.1 ∉ [s.heap.objs.size]) → (∀ p ∈ news, p ∈ own) → Fr h₀ env.locals h (fun y => if y = x then some (.str ⟨#[c]⟩ u) else m₁ y) → News h₀ env.locals h (nx ++ own) →
      wpAny (model prog w) A (execs body env) (TurnEnd h₀ env.locals [s.heap.objs.size] own (J (i + 1)) s Q) E { s with heap := h, toks := tk })
    (done : ∀ m₁ nx h tk, s.toks ≤ tk → J t.cps.size m₁ nx → Fr h₀ env.locals h m₁ → News h₀ env.locals h (nx ++ news) → Q .next { s with heap := h, toks := tk }) :
    wpAny (model prog w) A (pyIter (.str t tb)) (fun it s₂ => LoopT prog w A env x px body Q E it s₂) E s := by
  cases ha : t.cps.all (· < 128)
  · refine wpAny_pyIter_wide ha ?_
    have W := Walks.strWide (prog := prog) (w := w) hh s.heap.objs.size t tb
    refine iterJ (fp := []) (St := fun i h => h.IsStrIter s.heap.objs.size "str_iterator" t tb i) J W (fun b hb => by cases hb) ⟨_, Heap.get?_push_size _ rfl, rfl, rfl⟩ F N (fun i h st => ?_) hj (fun i v m₁ nx own h tk ht hi hp hJ => ?_) (fun m₁ nx h tk ht hJ => done m₁ nx h tk ht hJ)
    · obtain ⟨o, ho, _⟩ := st; exact ⟨o, ho⟩
    · obtain ⟨c, u, hc, rfl⟩ := hp
      exact turn i c u m₁ nx own h tk ht hc hJ
  · refine wpAny_pyIter_ascii ha ?_
    have W := Walks.strAscii (prog := prog) (w := w) hh s.heap.objs.size t tb
    refine iterJ (fp := []) (St := fun i h => h.IsStrIter s.heap.objs.size "str_ascii_iterator" t tb i) J W (fun b hb => by cases hb) ⟨_, Heap.get?_push_size _ rfl, rfl, rfl⟩ F N (fun i h st => ?_) hj (fun i v m₁ nx own h tk ht hi hp hJ => ?_) (fun m₁ nx h tk ht hJ => done m₁ nx h tk ht hJ)
    · obtain ⟨o, ho, _⟩ := st; exact ⟨o, ho⟩
    · obtain ⟨c, u, hc, rfl⟩ := hp
      exact turn i c u m₁ nx own h tk ht hc hJ

/-- over a dict that stands under the frame -/
theorem for_dict {px : Pos} {d : Addr} {kvs : List (Str × Value)} {ep : Nat} {m₀ : Str → Option Value} {news : Led} (J : Nat → (Str → Option Value) → Led → Prop)
    (hh : A.handled = none) (hd : h₀.DictAt (strKind prog w) d kvs ep) (lo : (d == sysModules) = false) (F : Fr h₀ env.locals s.heap m₀) (N : News h₀ env.locals s.heap news) (hj : J 0 m₀ [])
    (turn : ∀ i k v t m₁ nx own h tk, s.toks ≤ tk → kvs[i]? = some (k, v) → J i m₁ nx → (∀ b ∈ [s.heap.objs.size], ∃ o, (b, o) ∈ own) → (∀ p ∈ nx, p.1 ∉ [s.heap.objs.size]) → (∀ p ∈ news, p ∈ own) → Fr h₀ env.locals h (fun y => if y = x then some (.str k t) else m₁ y) → News h₀ env.locals h (nx ++ own) →
      wpAny (model prog w) A (execs body env) (TurnEnd h₀ env.locals [s.heap.objs.size] own (J (i + 1)) s Q) E { s with heap := h, toks := tk })
    (done : ∀ m₁ nx h tk, s.toks ≤ tk → J kvs.length m₁ nx → Fr h₀ env.locals h m₁ → News h₀ env.locals h (nx ++ news) → Q .next { s with heap := h, toks := tk }) :
    wpAny (model prog w) A (pyIter (.ref d)) (fun it s₂ => LoopT prog w A env x px body Q E it s₂) E s := by
  have hs := hd.keep F.keep
  have hlt : d < h₀.objs.size := hd.lt_size
  refine wpAny_pyIter_dict lo hs ?_
  have W := Walks.dictKeys (knd := strKind prog w) (A := A) hh s.heap.objs.size d (Nat.ne_of_lt hs.lt_size) kvs ep
  refine iterJ (fp := [d]) (St := fun i h => h.IsKeyIter s.heap.objs.size d i kvs.length ep ∧ h.DictAt (strKind prog w) d kvs ep) J W (fun b hb => ?_) ⟨⟨_, Heap.get?_push_size _ rfl, rfl, rfl⟩, hs.push _⟩ F N (fun i h st => ?_) hj (fun i v m₁ nx own h tk ht hi hp hJ => ?_) (fun m₁ nx h tk ht hJ => done m₁ nx h tk ht hJ)
  · rw [List.mem_singleton.mp hb]; exact ⟨hs.lt_size, Nat.ne_of_lt (Nat.lt_of_lt_of_le hlt F.above)⟩
  · obtain ⟨o, ho, _⟩ := st.1; exact ⟨o, ho⟩
  · obtain ⟨k, v', hk, hv⟩ := hp
    obtain ⟨t, rfl⟩ := Value.isStrOf_shape hv
    exact turn i k v' t m₁ nx own h tk ht hk hJ
/-- over a range -/
theorem for_range {px : Pos} {q : Addr} {nn : Nat} {t u v : Tok} {m₀ : Str → Option Value} {news : Led} (J : Nat → (Str → Option Value) → Led → Prop)
    (hh : A.handled = none) (hr : IsRange s.heap q 0 nn 1 t u v) (hs : Builtin.Range.small 0 nn 1 = true) (F : Fr h₀ env.locals s.heap m₀) (N : News h₀ env.locals s.heap news) (hj : J 0 m₀ [])
    (turn : ∀ i t m₁ nx own h tk, s.toks ≤ tk → i < nn → J i m₁ nx → (∀ b ∈ [s.heap.objs.size], ∃ o, (b, o) ∈ own) → (∀ p ∈ nx, p.1 ∉ [s.heap.objs.size]) → (∀ p ∈ news, p ∈ own) → Fr h₀ env.locals h (fun y => if y = x then some (.int (i : Nat) t) else m₁ y) → News h₀ env.locals h (nx ++ own) →
      wpAny (model prog w) A (execs body env) (TurnEnd h₀ env.locals [s.heap.objs.size] own (J (i + 1)) s Q) E { s with heap := h, toks := tk })
    (done : ∀ m₁ nx h tk, s.toks ≤ tk → J nn m₁ nx → Fr h₀ env.locals h m₁ → News h₀ env.locals h (nx ++ news) → Q .next { s with heap := h, toks := tk }) :
    wpAny (model prog w) A (pyIter (.ref q)) (fun it s₂ => LoopT prog w A env x px body Q E it s₂) E s := by
  have hn : Builtin.Range.rangeSize 0 nn 1 = (nn : Int) := by unfold Builtin.Range.rangeSize; simp <;> omega
  refine wpAny_pyIter_range hr hs ?_
  have W := Walks.range (prog := prog) (w := w) hh s.heap.objs.size 0 1 nn
  refine iterJ (fp := []) (St := fun i h => IsRangeIter h s.heap.objs.size (0 + (i : Nat) * 1) ((nn : Int) - (i : Nat)) 1) J W (fun b hb => by cases hb) (by show IsRangeIter _ _ _ _ _; rw [hn]; simpa using Heap.get?_push_size _ rfl) F N (fun i h st => ⟨_, st⟩) hj (fun i v m₁ nx own h tk ht hi hp hJ => ?_) (fun m₁ nx h tk ht hJ => done m₁ nx h tk ht hJ)
  obtain ⟨t, rfl⟩ := hp
  have e : (0 : Int) + (i : Nat) * 1 = (i : Nat) := by omega
  rw [e]
  exact turn i t m₁ nx own h tk ht hi hJ
end
abbrev tupO (vs : List Value) : Obj := { cls := .type "tuple", data := .seq vs.toArray }
/-- the five texts that a block may bear, and their octets -/
def txS : Nat → Str
  | 0 => Str.ofString ""
  | 1 => Str.ofString "a"
  | 2 => Str.ofString "bc"
  | 3 => Str.ofString "é"
  | _ => Str.ofString "d€"
def txB : Nat → List Int
  | 0 => []
  | 1 => [97]
  | 2 => [98, 99]
  | 3 => [195, 169]
  | _ => [100, 226, 130, 172]
def txA : Nat → Array UInt8
  | 0 => #[]
  | 1 => #[97]
  | 2 => #[98, 99]
  | 3 => #[195, 169]
  | _ => #[100, 226, 130, 172]
theorem bInts_nil : KBw.bInts ([] : List UInt8).toArray = [] := rfl
theorem txB_txA : ∀ k : Nat, KBw.bInts (txA k) = txB k
  | 0 => by decide
  | 1 => by decide
  | 2 => by decide
  | 3 => by decide
  | _ + 4 => (by decide : KBw.bInts #[100, 226, 130, 172] = [100, 226, 130, 172])
theorem txB_len (k : Nat) : (txB k).length ≤ 4 := by
  unfold txB; split <;> decide
theorem txA_of {b : Array UInt8} {k : Nat} (h : KBw.bInts b = txB k) : b = txA k := by
  have inj : ∀ l l' : List UInt8, (l.map fun c => (c.toNat : Int)) = (l'.map fun c => (c.toNat : Int)) → l = l' := by
    intro l
    induction l with
    | nil => intro l' h; cases l' with
      | nil => rfl
      | cons _ _ => cases h
    | cons c r ih => intro l' h; cases l' with
      | nil => cases h
      | cons d r' =>
        simp only [List.map_cons, List.cons.injEq] at h
        have e : c = d := UInt8.toNat_inj.mp (Int.ofNat.inj h.1)
        rw [ih r' h.2, e]
  rw [← txB_txA k] at h
  exact Array.ext' (inj _ _ h)
theorem txS_sign {k i c : Nat} (h : (txS k).cps[i]? = some c) : 0 < c ∧ c < 55296 := by
  have all : ∀ k : Nat, ∀ c ∈ (txS k).cps.toList, 0 < c ∧ c < 55296 := by
    intro k
    unfold txS; split <;> decide +kernel
  exact all k c (List.mem_of_getElem? (by rw [← Array.getElem?_toList] at h; exact h))
theorem clip2 (n : Nat) : clipAt (n + 1 + 1) 2 = 2 := by
  have h : clipAt (n + 1 + 1) 2 = min 2 (n + 1 + 1) := clipAt_nat (n + 1 + 1) 2
  omega
theorem cut_from {k : Int} {pre l : List Int} (h : k = pre.length) :
    List.take ((pre ++ l).length - clipAt (pre ++ l).length k) (List.drop (clipAt (pre ++ l).length k) (pre ++ l)) = l := by
  have q := clipAt_nat (pre ++ l).length pre.length
  rw [h, q, Nat.min_eq_left (by rw [List.length_append]; omega), List.drop_left]
  exact List.take_of_length_le (by rw [List.length_append]; omega)
theorem cut_tail {d : Int} {l : List Int} :
    List.take ((d :: l).length - clipAt (d :: l).length 1) (List.drop (clipAt (d :: l).length 1) (d :: l)) = l := cut_from (k := 1) (pre := [d]) rfl
theorem cut_mid {x y hi : Int} {ks r : List Int} (h : hi = 2 + ks.length) :
    List.take (clipAt (x :: y :: (ks ++ r)).length hi - clipAt (x :: y :: (ks ++ r)).length 2) (List.drop (clipAt (x :: y :: (ks ++ r)).length 2) (x :: y :: (ks ++ r))) = ks := by
  have e1 : clipAt (x :: y :: (ks ++ r)).length 2 = 2 := by
    have q : clipAt (x :: y :: (ks ++ r)).length 2 = min 2 (x :: y :: (ks ++ r)).length := clipAt_nat (x :: y :: (ks ++ r)).length 2
    simp only [List.length_cons] at q ⊢
    omega
  have e2 : clipAt (x :: y :: (ks ++ r)).length hi = 2 + ks.length := by
    have q := clipAt_nat (x :: y :: (ks ++ r)).length (2 + ks.length)
    rw [h, show ((2 : Int) + (ks.length : Int)) = ((2 + ks.length : Nat) : Int) by omega, q]
    simp only [List.length_cons, List.length_append]
    omega
  rw [e1, e2]
  simp
/-- a number in sevens of bits, the lowest first -/
def vbN : Nat → Int → List Int
  | 0, _ => []
  | n + 1, x => if x / 128 > 0 then (x % 128 + 128) :: vbN n (x / 128) else [x % 128]
abbrev vb (x : Int) : List Int := vbN 4 x
theorem bitOr_128 {r : Int} (h0 : 0 ≤ r) (h1 : r < 128) : PySem.Builtin.bitOr r 128 = r + 128 := by
  have all : ∀ k : Fin 128, PySem.Builtin.bitOr ((k.val : Nat) : Int) 128 = ((k.val : Nat) : Int) + 128 := by decide +kernel
  obtain ⟨k, rfl⟩ := Int.eq_ofNat_of_zero_le h0
  exact all ⟨k, by omega⟩
theorem and_127 {r : Int} (h0 : 0 ≤ r) (h1 : r < 256) : PySem.Builtin.bitAnd r 127 = r % 128 := by
  have all : ∀ k : Fin 256, PySem.Builtin.bitAnd ((k.val : Nat) : Int) 127 = ((k.val : Nat) : Int) % 128 := by decide +kernel
  obtain ⟨k, rfl⟩ := Int.eq_ofNat_of_zero_le h0
  exact all ⟨k, by omega⟩
theorem and_128 {r : Int} (h0 : 0 ≤ r) (h1 : r < 256) : PySem.Builtin.bitAnd r 128 = r / 128 * 128 := by
  have all : ∀ k : Fin 256, PySem.Builtin.bitAnd ((k.val : Nat) : Int) 128 = ((k.val : Nat) : Int) / 128 * 128 := by decide +kernel
  obtain ⟨k, rfl⟩ := Int.eq_ofNat_of_zero_le h0
  exact all ⟨k, by omega⟩
theorem fdiv_128 (y : Int) : y.fdiv 128 = y / 128 := Int.fdiv_eq_ediv_of_nonneg y (by decide)
theorem fmod_128 (y : Int) : y.fmod 128 = y % 128 := Int.fmod_eq_emod_of_nonneg y (by decide)
def pw : Nat → Int
  | 0 => 1
  | n + 1 => 128 * pw n
theorem pw_bound : ∀ {k : Nat}, k ≤ 4 → 1 ≤ pw k ∧ pw k ≤ 268435456
  | 0, _ => by decide
  | 1, _ => by decide
  | 2, _ => by decide
  | 3, _ => by decide
  | 4, _ => by decide
  | k + 5, h => by omega
theorem pw_next {n : Nat} (h : n + 1 ≤ 4) : pw (4 - (n + 1)) * 128 = pw (4 - n) := by
  rw [show 4 - n = (4 - (n + 1)) + 1 by omega]
  simp only [pw]
  omega
theorem vb_step (y v mu : Int) : v + (y % 128) * mu + (y / 128) * (mu * 128) = v + y * mu := by
  have h : y = y % 128 + 128 * (y / 128) := by omega
  generalize y % 128 = a at *
  generalize y / 128 = b at *
  subst h
  rw [Int.add_mul, Int.mul_comm mu 128, ← Int.mul_assoc b 128 mu, Int.mul_comm b 128]
  omega
theorem vbN_len : ∀ (n : Nat) (x : Int), (vbN n x).length ≤ n
  | 0, _ => Nat.le_refl _
  | n + 1, x => by
    unfold vbN
    split
    · have := vbN_len n (x / 128); simp only [List.length_cons]; omega
    · simp
section
open PySem.Builtin
theorem encode_eq : ∀ (k : Nat) (t u : Tok), «str.encode» ⟨[.str (txS k) t, .str (Str.ofString "utf-8") u], []⟩ = Sem.fresh fun tk => Sem.pure (.done (.ret (.bytes (txA k) tk)))
  | 0, t, u => by kernel_rfl
  | 1, t, u => by kernel_rfl
  | 2, t, u => by kernel_rfl
  | 3, t, u => by kernel_rfl
  | _ + 4, t, u => by kernel_rfl
theorem decode_nil (t u : Tok) : «bytes.decode» ⟨[.bytes #[] t, .str (Str.ofString "utf-8") u], []⟩ = Sem.rule "bytes.decode.empty" fun _ => Sem.fresh fun tk => Sem.pure (.done (.ret (.str (txS 0) tk))) := by kernel_rfl
theorem decode_cons (c : UInt8) (cs : List UInt8) (t u : Tok) : «bytes.decode» ⟨[.bytes (c :: cs).toArray t, .str (Str.ofString "utf-8") u], []⟩ = Sem.fresh fun x => Sem.fresh fun e => Sem.fresh fun d =>
    (call (.builtin "_codecs.decode.text") [.bytes (c :: cs).toArray t, .str (Str.ofString "utf-8") e, .none, .str (Str.ofString "bytes.decode") d] >>= fun v => ret v) := by kernel_rfl
section
variable {prog : Program} {w : World} {A : Around} {E : Value → Shared → Prop} {s : Shared} {k : Nat} {t u : Tok} {b : Array UInt8}
theorem fresh_any {α : Type} {M : Model} {A : Around} {E : Value → Shared → Prop} {s : Shared} {Q : α → Shared → Prop} {f : Tok → Sem α} (h : wpAny M A (f s.toks) Q E { s with toks := s.toks + 1 }) : wpAny M A (Sem.fresh f) Q E s := fun Γ p hΓ => h Γ p hΓ
theorem encode_meets : Meets («str.encode» ⟨[.str (txS k) t, .str (Str.ofString "utf-8") u], []⟩) (fun _ R s => ∀ t' k', R (.ok (.ret (.bytes (txA k) t'))) { s with toks := k' }) := by
  refine .of_wp fun prog w A R s h => ?_
  rw [encode_eq]
  exact fresh_any (wpAny_pure ⟨_, rfl, h _ _⟩)
theorem call_encode {Q : Value → Shared → Prop} (h : ∀ t' k', KBw.bInts (txA k) = txB k → Q (.bytes (txA k) t') { s with toks := k' }) : wpAny (model prog w) A (call (.builtin "str.encode") [.str (txS k) t, .str (Str.ofString "utf-8") u]) Q E s :=
  call_meets F.slot_str_encode (typeIs_str _ _ _) F.entry_str_encode (F.args_str_encode_2 _ _) encode_meets fun t' k' => h t' k' (txB_txA k)
theorem method_encode {pl : Sem Bool} {x : Str} {Q : Value × List Value → Shared → Prop} {M : Model} (h : Q (.builtin "str.encode", [.str x t]) s) : wpAny M A (getMethod (.str x t) (Str.ofString "encode") pl) Q E s := by
  with_reducible exact GM.of (.str x t) (typeIs_str _ _ _) F.slot_str_encode F.type_str_encode GM.noRef h
theorem args_decode2 (a b : Value) : argsOk "bytes.decode" ⟨[a, b], []⟩ := by
  unfold argsOk; rw [signature?_of (id := "bytes.decode") (n := ['e', 'd', 'o', 'c', 'e', 'd']) (o := ['s', 'e', 't', 'y', 'b']) (by kernel_rfl) FB.owner_bytes]; kernel_rfl
theorem run_decoder : ∀ (k : Nat) (id : String), _codecs.runDecoder id _codecs.utf8Decoder none true (txA k) 0 [] = pure ((txS k).cps, (txA k).size)
  | 0, _ => by kernel_rfl
  | 1, _ => by kernel_rfl
  | 2, _ => by kernel_rfl
  | 3, _ => by kernel_rfl
  | _ + 4, _ => by kernel_rfl
theorem txS_len (k : Nat) : (txS k).length ≤ 16777216 := by
  unfold txS; split <;> exact Nat.le_of_ble_eq_true rfl
theorem decode_meets : Meets («bytes.decode» ⟨[.bytes (txA k) t, .str (Str.ofString "utf-8") u], []⟩) (fun _ R s => ∀ t' k', R (.ok (.ret (.str (txS k) t'))) { s with toks := k' }) := by
  refine .of_wp fun prog w A R s h => ?_
  cases k with
  | zero =>
    show wpAny _ _ («bytes.decode» ⟨[.bytes #[] t, .str (Str.ofString "utf-8") u], []⟩) _ _ _
    rw [decode_nil]
    exact X.x_rule (fresh_any (wpAny_pure ⟨_, rfl, h _ _⟩))
  | succ k =>
    obtain ⟨c, cs, e⟩ : ∃ c cs, txA (k + 1) = (c :: cs).toArray := by
      unfold txA; split <;> first | exact ⟨_, _, rfl⟩ | omega
    have hr := run_decoder (k + 1)
    rw [e] at hr ⊢
    rw [decode_cons]
    refine fresh_any (fresh_any (fresh_any ?_))
    exact wpAny_bind (call_function_meets KBd.kind_text KBd.plain_text KBd.entry_text (KBd.args_text _ _ _ _) (KBd.meets_text hr) ⟨by rw [sizeLine_eq]; exact txS_len _, wpAny_pure ⟨_, rfl, h _ _⟩⟩)
theorem call_decode {Q : Value → Shared → Prop} (hb : KBw.bInts b = txB k) (h : ∀ t' k', Q (.str (txS k) t') { s with toks := k' }) : wpAny (model prog w) A (call (.builtin "bytes.decode") [.bytes b t, .str (Str.ofString "utf-8") u]) Q E s := by
  rw [txA_of hb]
  exact call_meets FB.slot_bytes_decode (typeIs_bytes _ _ _) FB.entry_bytes_decode (args_decode2 _ _) decode_meets h
end
theorem noI_bytes_add : typeLookup (.type "bytes") (dunderI "add") = pure none := by rw [typeLookup_type, builtinLookup_eq_fast]; kernel_rfl
section
variable {prog : Program} {w : World} {A : Around} {E : Value → Shared → Prop} {s : Shared} {b c : Array UInt8} {t u : Tok} {ks ls : List Int}
theorem iadd_bytes {Q : Value → Shared → Prop} (hb : KBw.bInts b = ks) (hc : KBw.bInts c = ls) (hsz : ks.length + ls.length ≤ 16777216) (h : ∀ t' k, KBw.bInts (b ++ c) = ks ++ ls → Q (.bytes (b ++ c) t') { s with toks := k }) :
    wpAny (model prog w) A (inplaceOp .Add (.bytes b t) (.bytes c u)) Q E s := by
  have hsz' : b.size + c.size ≤ 16777216 := by rw [← KBw.ints_length b, ← KBw.ints_length c, hb, hc]; exact hsz
  replace h := fun t' k => h t' k (KBw.ints_app hb hc)
  refine iconcat_gives (typeIs_bytes s b t) (typeIs_bytes s c u) noI_bytes_add KBy.noFill_bytes_add KBy.seq_bytes_add FB.slot_bytes_add FB.entry_bytes_add (FB.args_bytes_add_2 _ _) (KBy.gives_bytes_add (KBy.tooLong_not hsz')) ?_
  by_cases hb : b.isEmpty = true
  · rw [if_pos hb]
    have e : b = #[] := Array.isEmpty_iff.1 hb
    have h' := h u s.toks
    rw [e, Array.empty_append] at h'
    exact h'
  · rw [if_neg hb]
    by_cases hc : c.isEmpty = true
    · rw [if_pos hc]
      have e : c = #[] := Array.isEmpty_iff.1 hc
      have h' := h t s.toks
      rw [e, Array.append_empty] at h'
      exact h'
    · rw [if_neg hc]
      exact ⟨by rw [Array.size_append, sizeLine_eq]; exact hsz', h s.toks (s.toks + 1)⟩
end
local macro_rules | `(tactic| walk_at "inplaceOp Add bytes bytes") => `(tactic| ((with_reducible show wpAny _ _ (inplaceOp Operator.Add (Value.bytes _ _) (Value.bytes _ _)) _ _ _); (refine iadd_bytes (by first | kba_ints | exact bInts_nil) (by first | kba_ints | assumption) (by first | kba_size | (simp only [List.length_append, List.length_cons, List.length_nil]; omega)) ?_); intro _ _ kbaApp))
local macro_rules | `(tactic| walk_at "getMethod str") => `(tactic| ((with_reducible show wpAny _ _ (getMethod (Value.str _ _) (Str.ofString "encode") _) _ _ _); k_dflt (refine method_encode ?_)))
local macro_rules | `(tactic| walk_at "tok_pos") => `(tactic| first | omega | assumption | (dsimp only; omega) | (dsimp only at *; omega))
local macro_rules | `(tactic| walk_at "call builtin:str.encode") => `(tactic| (k_dflt (refine call_encode ?_); intro _ _ hbE))
local macro_rules | `(tactic| walk_at "call builtin:bytes.decode") => `(tactic| (k_dflt (refine call_decode (by assumption) ?_); intro _ _))
end
local macro_rules | `(tactic| walk_at "inplaceOp Add bytes bytes") => `(tactic| ((with_reducible show wpAny _ _ (inplaceOp Operator.Add (Value.bytes _ _) (Value.bytes _ _)) _ _ _); (refine iadd_bytes (by first | kba_ints | exact bInts_nil) (by first | kba_ints | assumption) (by first | kba_size | (simp only [List.length_append, List.length_cons, List.length_nil]; omega)) ?_); intro _ _ kbaApp))
local macro_rules | `(tactic| walk_at "getMethod str") => `(tactic| ((with_reducible show wpAny _ _ (getMethod (Value.str _ _) (Str.ofString "encode") _) _ _ _); k_dflt (refine method_encode ?_)))
local macro_rules | `(tactic| walk_at "tok_pos") => `(tactic| first | omega | assumption | (dsimp only; omega) | (dsimp only at *; omega))
local macro_rules | `(tactic| walk_at "call builtin:str.encode") => `(tactic| (k_dflt (refine call_encode ?_); intro _ _ hbE))
local macro_rules | `(tactic| walk_at "call builtin:bytes.decode") => `(tactic| (k_dflt (refine call_decode (by assumption) ?_); intro _ _))
/-- a call of a def of the top, in any frame -/
abbrev Cl (w : World) (dp un : Nat) (gd : Option (List Code)) (cn : Str) (cs : Scope) (L a : Addr) (ccd : Value) (cl : List (Str × Addr)) (outer : List Env) (f : Addr) (args : List Value) (Q E : Value → Shared → Prop) (s : Shared) : Prop :=
  wpAny (model PySem.Challenge.pw_ci0033_01 w) (ktrTop dp un gd cn cs L a ccd cl outer) (call (.ref f) args) Q E s
/-- the walk halts here -/
def Hold (P : Prop) : Prop := P
theorem Hold.mk {P : Prop} (h : Hold P) : P := h
/-- a number in two octets, in four -/
abbrev be2 (n : Int) : List Int := [n / 256 % 256, n % 256]
abbrev be4 (n : Int) : List Int := [n / 256 / 256 / 256 % 256, n / 256 / 256 % 256, n / 256 % 256, n % 256]
local macro_rules | `(tactic| walk_at "exec While") => `(tactic| ((with_reducible show wpAny _ _ (exec (Stmt.While _ _ _ _) _) _ _ _); refine Hold.mk ?_))
local macro_rules | `(tactic| walk_at "exec While Constant cons nil") => `(tactic| ((with_reducible show wpAny _ _ (exec (Stmt.While _ _ _ _) _) _ _ _); refine Hold.mk ?_))
local macro_rules | `(tactic| walk_at "exec While Compare cons nil") => `(tactic| ((with_reducible show wpAny _ _ (exec (Stmt.While _ _ _ _) _) _ _ _); refine Hold.mk ?_))
local macro_rules | `(tactic| walk_at "has") => `(tactic| (refine ⟨by kst_all1, ?_⟩; (intro z h3; (simp only [List.contains_cons, List.contains_nil, Bool.or_false, Bool.or_eq_false_iff, beq_eq_false_iff_ne, ne_eq] at h3); first | rfl | (simp [kstB, h3]; done))))
local macro_rules | `(tactic| walk_at "for") => `(tactic| (unfold Hold; (with_unfolding_all refine' For_T ?k1 ?k2 ?_; (case k1 => exact rfl); (case k2 => exact rfl))))
local macro_rules | `(tactic| walk_at "pyIter ref") => `(tactic| ((with_reducible show wpAny _ _ (pyIter _) _ _ _); refine Hold.mk ?_))
local macro_rules | `(tactic| walk_at "pyIter bytes") => `(tactic| ((with_reducible show wpAny _ _ (pyIter _) _ _ _); refine Hold.mk ?_))
local macro_rules | `(tactic| walk_at "pyIter str") => `(tactic| ((with_reducible show wpAny _ _ (pyIter _) _ _ _); refine Hold.mk ?_))

local macro_rules | `(tactic| walk_at "exec For Name Subscript cons nil") => `(tactic| ((with_reducible show wpAny _ _ (exec (Stmt.For _ _ _ _ _) _) _ _ _); refine Hold.mk ?_))
local macro_rules | `(tactic| walk_at "exec For Name Name cons nil") => `(tactic| ((with_reducible show wpAny _ _ (exec (Stmt.For _ _ _ _ _) _) _ _ _); refine Hold.mk ?_))
local macro_rules | `(tactic| walk_at "exec For Name Attribute cons nil") => `(tactic| ((with_reducible show wpAny _ _ (exec (Stmt.For _ _ _ _ _) _) _ _ _); refine Hold.mk ?_))
local macro_rules | `(tactic| walk_at "exec For Name Call cons nil") => `(tactic| ((with_reducible show wpAny _ _ (exec (Stmt.For _ _ _ _ _) _) _ _ _); refine Hold.mk ?_))
local macro_rules | `(tactic| walk_at "exec For Name Tuple cons nil") => `(tactic| ((with_reducible show wpAny _ _ (exec (Stmt.For _ _ _ _ _) _) _ _ _); refine Hold.mk ?_))
section
variable {p : Program} {loose : List Str} {w : World} {mean : ExcName → Option Value} {mg mb : Str → Option Value} {dp un : Nat} {gd : Option (List Code)} {cn : Str} {cs : Scope} {a : Addr} {ccd : Value} {cl : List (Str × Addr)} {outer : List Env} {A₀ : Around} {base h₀ : Heap} {L : Addr} {m : Str → Option Value} {s : Shared} {Q E : Value → Shared → Prop} {news : Led}
variable (B : Below A₀ base outer h₀) (F : Fr h₀ L s.heap m) (X : (hd.heap_39 w.params).In h₀) (N : News h₀ L s.heap news) (T : Top p loose mean mg mb h₀) (hk : cs.kind = .function)
include B F X N T hk

theorem c_write_int2 {n : Int} {t u : Tok} (hd : dp + 1 < recursionLimit) (hu : un + 20 < cLine) (n0 : 0 ≤ n) (n1 : n < 65536)
    (hret : ∀ (b : Array UInt8) (t : Tok) (h' : Heap) (tk' : Nat), KBw.bInts b = be2 n → Fr h₀ L h' m → News h₀ L h' news → Q (.bytes b t) { s with heap := h', toks := tk' }) :
    Cl w dp un gd cn cs L a ccd cl outer 48 [.int n t, .int 2 u] Q E s := by
  refine wpAny_call ?_
  k_dflt cell_enter
  k_steps
  · exfalso
    rename _ ≤ n => h9
    exact absurd (show (65536 : Int) ≤ n from h9) (by omega)
  · exact hret _ _ _ _ ktbIn (by k_asm) (by k_asm)

theorem c_write_int4 {n : Int} {t u : Tok} (hd : dp + 1 < recursionLimit) (hu : un + 20 < cLine) (n0 : 0 ≤ n) (n1 : n < 4294967296)
    (hret : ∀ (b : Array UInt8) (t : Tok) (h' : Heap) (tk' : Nat), KBw.bInts b = be4 n → Fr h₀ L h' m → News h₀ L h' news → Q (.bytes b t) { s with heap := h', toks := tk' }) :
    Cl w dp un gd cn cs L a ccd cl outer 48 [.int n t, .int 4 u] Q E s := by
  refine wpAny_call ?_
  k_dflt cell_enter
  k_steps
  · exfalso
    rename _ ≤ n => h9
    exact absurd (show (4294967296 : Int) ≤ n from h9) (by omega)
  · exact hret _ _ _ _ ktbIn (by k_asm) (by k_asm)

theorem c_read_int {k : Nat} {ks : List Int} {b : Array UInt8} {t u : Tok} (hd : dp + 1 < recursionLimit) (hu : un + 20 < cLine) (hb : KBw.bInts b = ks) (hz : ks.length ≤ 1000) (hk2 : k ≤ ks.length)
    (hret : ∀ (t : Tok) (h' : Heap) (tk' : Nat), Fr h₀ L h' m → News h₀ L h' news → Q (.int ((ks.take k).foldl (fun a c => a * 256 + c) 0) t) { s with heap := h', toks := tk' }) :
    Cl w dp un gd cn cs L a ccd cl outer 55 [.bytes b t, .int (k : Int) u] Q E s := by
  refine wpAny_call ?_
  k_dflt cell_enter
  k_steps
  · walk_at "for"
    k_steps
    unfold Hold
    rename KBw.bInts (KBy.picked _ _ _) = _ => hp
    rename Fr _ _ _ _ => lF
    rename News _ _ _ _ => lN
    refine for_bytes (fun i m₁ nx => nx = [] ∧ ∃ t, Has ["octet", "value"] _ [("value", .int (((ks.take k).take i).foldl (fun a c => a * 256 + c) 0) t)] m₁) (ks := ks.take k) (by rw [hp, Nat.min_eq_left hk2]) rfl lF lN ⟨rfl, _, Has.refl (by kst_all1)⟩ ?_ ?_
    · rintro i c t' m₁ nx own h tk htk hc h0 h1 ⟨rfl, t2, hm⟩ - - hsub F1 N1
      have e : ((ks.take k).take (i + 1)).foldl (fun a c => a * 256 + c) 0 = ((ks.take k).take i).foldl (fun a c => a * 256 + c) 0 * 256 + c := by
        rw [List.take_add_one, hc]; simp
      obtain ⟨u, rfl⟩ := hm.out
      k_steps
      exact TurnEnd.next [] (by k_asm) (by k_asm) (fun _ h => nomatch h) ⟨rfl, _, by rw [e]; walk_at "has"⟩
    · rintro m₁ nx h tk htk ⟨rfl, t2, hm⟩ F1 N1
      rw [List.take_length] at hm
      obtain ⟨u, rfl⟩ := hm.out
      k_steps
      exact hret _ _ _ (by k_asm) (by k_asm)
end
local macro_rules | `(tactic| walk_at "call ref") => `(tactic| (k_dflt (refine' c_write_int2 (B := ?B) (F := ?F) (X := ?X) (N := ?N) (T := ?T) (hk := ?hk) (hd := ?hd) (hu := ?hu) (n0 := ?n0) (n1 := ?n1) (hret := ?_); (case B => k_asm); (case F => k_asm); (case X => k_asm); (case N => k_asm); (case T => k_asm); (case hk => first | exact rfl | assumption); (case hd => ktr_room); (case hu => ktr_units); (case n0 => l_fact); (case n1 => l_fact); k_whole; intro b' t' h' tk' hb' F' N'; (try dsimp only); (try k_sweep))))
local macro_rules | `(tactic| walk_at "call ref") => `(tactic| (k_dflt (refine' c_write_int4 (B := ?B) (F := ?F) (X := ?X) (N := ?N) (T := ?T) (hk := ?hk) (hd := ?hd) (hu := ?hu) (n0 := ?n0) (n1 := ?n1) (hret := ?_); (case B => k_asm); (case F => k_asm); (case X => k_asm); (case N => k_asm); (case T => k_asm); (case hk => first | exact rfl | assumption); (case hd => ktr_room); (case hu => ktr_units); (case n0 => l_fact); (case n1 => l_fact); k_whole; intro b' t' h' tk' hb' F' N'; (try dsimp only); (try k_sweep))))

section
variable {p : Program} {loose : List Str} {w : World} {mean : ExcName → Option Value} {mg mb : Str → Option Value} {dp un : Nat} {gd : Option (List Code)} {cn : Str} {cs : Scope} {a : Addr} {ccd : Value} {cl : List (Str × Addr)} {outer : List Env} {A₀ : Around} {base h₀ : Heap} {L : Addr} {m : Str → Option Value} {s : Shared} {Q E : Value → Shared → Prop} {news : Led}
variable (B : Below A₀ base outer h₀) (F : Fr h₀ L s.heap m) (X : (hd.heap_39 w.params).In h₀) (N : News h₀ L s.heap news) (T : Top p loose mean mg mb h₀) (hk : cs.kind = .function)
include B F X N T hk

theorem c_read_int2 {x y : Int} {ks : List Int} {b : Array UInt8} {t u : Tok} (hd : dp + 1 < recursionLimit) (hu : un + 20 < cLine) (hb : KBw.bInts b = x :: y :: ks) (hz : ks.length ≤ 900)
    (hret : ∀ (t : Tok) (h' : Heap) (tk' : Nat), Fr h₀ L h' m → News h₀ L h' news → Q (.int (x * 256 + y) t) { s with heap := h', toks := tk' }) :
    Cl w dp un gd cn cs L a ccd cl outer 55 [.bytes b t, .int 2 u] Q E s := by
  refine c_read_int B F X N T hk (k := 2) hd hu hb (by simp only [List.length_cons]; omega) (by simp only [List.length_cons]; omega) fun t h' tk' F' N' => ?_
  have h := hret t h' tk' F' N'
  rw [show x * 256 + y = (0 * 256 + x) * 256 + y by omega] at h
  exact h
theorem c_read_int4 {x y z v : Int} {ks : List Int} {b : Array UInt8} {t u : Tok} (hd : dp + 1 < recursionLimit) (hu : un + 20 < cLine) (hb : KBw.bInts b = x :: y :: z :: v :: ks) (hz : ks.length ≤ 900)
    (hret : ∀ (t : Tok) (h' : Heap) (tk' : Nat), Fr h₀ L h' m → News h₀ L h' news → Q (.int (((x * 256 + y) * 256 + z) * 256 + v) t) { s with heap := h', toks := tk' }) :
    Cl w dp un gd cn cs L a ccd cl outer 55 [.bytes b t, .int 4 u] Q E s := by
  refine c_read_int B F X N T hk (k := 4) hd hu hb (by simp only [List.length_cons]; omega) (by simp only [List.length_cons]; omega) fun t h' tk' F' N' => ?_
  have h := hret t h' tk' F' N'
  rw [show ((x * 256 + y) * 256 + z) * 256 + v = (((0 * 256 + x) * 256 + y) * 256 + z) * 256 + v by omega] at h
  exact h
local macro_rules | `(tactic| walk_at "call ref") => `(tactic| (k_dflt (refine' c_read_int2 (B := ?B) (F := ?F) (X := ?X) (N := ?N) (T := ?T) (hk := ?hk) (hd := ?hd) (hu := ?hu) (hb := ?hb) (hz := ?hz) (hret := ?_); (case B => k_asm); (case F => k_asm); (case X => k_asm); (case N => k_asm); (case T => k_asm); (case hk => first | exact rfl | assumption); (case hd => ktr_room); (case hu => ktr_units); (case hb => assumption); (case hz => first | omega | (simp only [List.length_append, List.length_cons, List.length_nil]; omega)); k_whole; intro t' h' tk' F' N'; (try dsimp only); (try k_sweep))))
local macro_rules | `(tactic| walk_at "call ref") => `(tactic| (k_dflt (refine' c_read_int4 (B := ?B) (F := ?F) (X := ?X) (N := ?N) (T := ?T) (hk := ?hk) (hd := ?hd) (hu := ?hu) (hb := ?hb) (hz := ?hz) (hret := ?_); (case B => k_asm); (case F => k_asm); (case X => k_asm); (case N => k_asm); (case T => k_asm); (case hk => first | exact rfl | assumption); (case hd => ktr_room); (case hu => ktr_units); (case hb => assumption); (case hz => first | omega | (simp only [List.length_append, List.length_cons, List.length_nil]; omega)); k_whole; intro t' h' tk' F' N'; (try dsimp only); (try k_sweep))))
theorem c_writeInt16 {n : Int} {t : Tok} (hd : dp + 2 < recursionLimit) (hu : un + 40 < cLine) (n0 : 0 ≤ n) (n1 : n < 65536)
    (hret : ∀ (b : Array UInt8) (t : Tok) (h' : Heap) (tk' : Nat), KBw.bInts b = be2 n → Fr h₀ L h' m → News h₀ L h' news → Q (.bytes b t) { s with heap := h', toks := tk' }) :
    Cl w dp un gd cn cs L a ccd cl outer 87 [.int n t] Q E s := by
  refine wpAny_call ?_
  k_dflt cell_enter
  k_steps
  exact hret _ _ _ _ (by assumption) (by k_asm) (by k_asm)
theorem c_writeInt32 {n : Int} {t : Tok} (hd : dp + 2 < recursionLimit) (hu : un + 40 < cLine) (n0 : 0 ≤ n) (n1 : n < 4294967296)
    (hret : ∀ (b : Array UInt8) (t : Tok) (h' : Heap) (tk' : Nat), KBw.bInts b = be4 n → Fr h₀ L h' m → News h₀ L h' news → Q (.bytes b t) { s with heap := h', toks := tk' }) :
    Cl w dp un gd cn cs L a ccd cl outer 101 [.int n t] Q E s := by
  refine wpAny_call ?_
  k_dflt cell_enter
  k_steps
  exact hret _ _ _ _ (by assumption) (by k_asm) (by k_asm)
theorem c_readInt16 {x y : Int} {ks : List Int} {b : Array UInt8} {t : Tok} (hd : dp + 2 < recursionLimit) (hu : un + 40 < cLine) (hb : KBw.bInts b = x :: y :: ks) (hz : ks.length ≤ 900)
    (hret : ∀ (t : Tok) (h' : Heap) (tk' : Nat), Fr h₀ L h' m → News h₀ L h' news → Q (.int (x * 256 + y) t) { s with heap := h', toks := tk' }) :
    Cl w dp un gd cn cs L a ccd cl outer 94 [.bytes b t] Q E s := by
  refine wpAny_call ?_
  k_dflt cell_enter
  k_steps
  exact hret _ _ _ (by k_asm) (by k_asm)
theorem c_readInt32 {x y z v : Int} {ks : List Int} {b : Array UInt8} {t : Tok} (hd : dp + 2 < recursionLimit) (hu : un + 40 < cLine) (hb : KBw.bInts b = x :: y :: z :: v :: ks) (hz : ks.length ≤ 900)
    (hret : ∀ (t : Tok) (h' : Heap) (tk' : Nat), Fr h₀ L h' m → News h₀ L h' news → Q (.int (((x * 256 + y) * 256 + z) * 256 + v) t) { s with heap := h', toks := tk' }) :
    Cl w dp un gd cn cs L a ccd cl outer 108 [.bytes b t] Q E s := by
  refine wpAny_call ?_
  k_dflt cell_enter
  k_steps
  exact hret _ _ _ (by k_asm) (by k_asm)
local macro_rules | `(tactic| walk_at "call ref") => `(tactic| (k_dflt (refine' c_writeInt16 (B := ?B) (F := ?F) (X := ?X) (N := ?N) (T := ?T) (hk := ?hk) (hd := ?hd) (hu := ?hu) (n0 := ?n0) (n1 := ?n1) (hret := ?_); (case B => k_asm); (case F => k_asm); (case X => k_asm); (case N => k_asm); (case T => k_asm); (case hk => first | exact rfl | assumption); (case hd => ktr_room); (case hu => ktr_units); (case n0 => l_fact); (case n1 => l_fact); k_whole; intro b' t' h' tk' hb' F' N'; (try dsimp only); (try k_sweep))))
local macro_rules | `(tactic| walk_at "call ref") => `(tactic| (k_dflt (refine' c_writeInt32 (B := ?B) (F := ?F) (X := ?X) (N := ?N) (T := ?T) (hk := ?hk) (hd := ?hd) (hu := ?hu) (n0 := ?n0) (n1 := ?n1) (hret := ?_); (case B => k_asm); (case F => k_asm); (case X => k_asm); (case N => k_asm); (case T => k_asm); (case hk => first | exact rfl | assumption); (case hd => ktr_room); (case hu => ktr_units); (case n0 => l_fact); (case n1 => l_fact); k_whole; intro b' t' h' tk' hb' F' N'; (try dsimp only); (try k_sweep))))
local macro_rules | `(tactic| walk_at "call ref") => `(tactic| (k_dflt (refine' c_readInt16 (B := ?B) (F := ?F) (X := ?X) (N := ?N) (T := ?T) (hk := ?hk) (hd := ?hd) (hu := ?hu) (hb := ?hb) (hz := ?hz) (hret := ?_); (case B => k_asm); (case F => k_asm); (case X => k_asm); (case N => k_asm); (case T => k_asm); (case hk => first | exact rfl | assumption); (case hd => ktr_room); (case hu => ktr_units); (case hb => assumption); (case hz => first | omega | (simp only [List.length_append, List.length_cons, List.length_nil]; omega)); k_whole; intro t' h' tk' F' N'; (try dsimp only); (try k_sweep))))
local macro_rules | `(tactic| walk_at "call ref") => `(tactic| (k_dflt (refine' c_readInt32 (B := ?B) (F := ?F) (X := ?X) (N := ?N) (T := ?T) (hk := ?hk) (hd := ?hd) (hu := ?hu) (hb := ?hb) (hz := ?hz) (hret := ?_); (case B => k_asm); (case F => k_asm); (case X => k_asm); (case N => k_asm); (case T => k_asm); (case hk => first | exact rfl | assumption); (case hd => ktr_room); (case hu => ktr_units); (case hb => assumption); (case hz => first | omega | (simp only [List.length_append, List.length_cons, List.length_nil]; omega)); k_whole; intro t' h' tk' F' N'; (try dsimp only); (try k_sweep))))
theorem c_writeUTF {k : Nat} {t : Tok} (hd : dp + 3 < recursionLimit) (hu : un + 60 < cLine) 
    (hret : ∀ (b : Array UInt8) (t : Tok) (h' : Heap) (tk' : Nat), KBw.bInts b = 0 :: ((txB k).length : Int) :: txB k → Fr h₀ L h' m → News h₀ L h' news → Q (.bytes b t) { s with heap := h', toks := tk' }) :
    Cl w dp un gd cn cs L a ccd cl outer 115 [.str (txS k) t] Q E s := by
  refine wpAny_call ?_
  k_dflt cell_enter
  have hl := txB_len k
  k_steps
  rename KBw.bInts (_ ++ _) = _ => h9
  refine hret _ _ _ _ (h9.trans ?_) (by k_asm) (by k_asm)
  rw [show be2 ((txB k).length : Int) = [0, ((txB k).length : Int)] by simp only [be2]; rw [show ((txB k).length : Int) / 256 % 256 = 0 by omega, show ((txB k).length : Int) % 256 = (txB k).length by omega]]
  rfl
theorem c_writeBytes {b : Array UInt8} {ks : List Int} {t : Tok} (hd : dp + 3 < recursionLimit) (hu : un + 60 < cLine) (hb : KBw.bInts b = ks) (hz : ks.length ≤ 200)
    (hret : ∀ (b : Array UInt8) (t : Tok) (h' : Heap) (tk' : Nat), KBw.bInts b = 0 :: (ks.length : Int) :: ks → Fr h₀ L h' m → News h₀ L h' news → Q (.bytes b t) { s with heap := h', toks := tk' }) :
    Cl w dp un gd cn cs L a ccd cl outer 129 [.bytes b t] Q E s := by
  refine wpAny_call ?_
  k_dflt cell_enter
  k_steps
  rename KBw.bInts (_ ++ _) = _ => h9
  refine hret _ _ _ _ (h9.trans ?_) (by k_asm) (by k_asm)
  rw [show be2 (ks.length : Int) = [0, (ks.length : Int)] by simp only [be2]; rw [show (ks.length : Int) / 256 % 256 = 0 by omega, show (ks.length : Int) % 256 = ks.length by omega]]
  rfl
end
local macro_rules | `(tactic| walk_at "call ref") => `(tactic| (k_dflt (refine' c_read_int2 (B := ?B) (F := ?F) (X := ?X) (N := ?N) (T := ?T) (hk := ?hk) (hd := ?hd) (hu := ?hu) (hb := ?hb) (hz := ?hz) (hret := ?_); (case B => k_asm); (case F => k_asm); (case X => k_asm); (case N => k_asm); (case T => k_asm); (case hk => first | exact rfl | assumption); (case hd => ktr_room); (case hu => ktr_units); (case hb => assumption); (case hz => first | omega | (simp only [List.length_append, List.length_cons, List.length_nil]; omega)); k_whole; intro t' h' tk' F' N'; (try dsimp only); (try k_sweep))))
local macro_rules | `(tactic| walk_at "call ref") => `(tactic| (k_dflt (refine' c_read_int4 (B := ?B) (F := ?F) (X := ?X) (N := ?N) (T := ?T) (hk := ?hk) (hd := ?hd) (hu := ?hu) (hb := ?hb) (hz := ?hz) (hret := ?_); (case B => k_asm); (case F => k_asm); (case X => k_asm); (case N => k_asm); (case T => k_asm); (case hk => first | exact rfl | assumption); (case hd => ktr_room); (case hu => ktr_units); (case hb => assumption); (case hz => first | omega | (simp only [List.length_append, List.length_cons, List.length_nil]; omega)); k_whole; intro t' h' tk' F' N'; (try dsimp only); (try k_sweep))))
local macro_rules | `(tactic| walk_at "call ref") => `(tactic| (k_dflt (refine' c_writeInt16 (B := ?B) (F := ?F) (X := ?X) (N := ?N) (T := ?T) (hk := ?hk) (hd := ?hd) (hu := ?hu) (n0 := ?n0) (n1 := ?n1) (hret := ?_); (case B => k_asm); (case F => k_asm); (case X => k_asm); (case N => k_asm); (case T => k_asm); (case hk => first | exact rfl | assumption); (case hd => ktr_room); (case hu => ktr_units); (case n0 => l_fact); (case n1 => l_fact); k_whole; intro b' t' h' tk' hb' F' N'; (try dsimp only); (try k_sweep))))
local macro_rules | `(tactic| walk_at "call ref") => `(tactic| (k_dflt (refine' c_writeInt32 (B := ?B) (F := ?F) (X := ?X) (N := ?N) (T := ?T) (hk := ?hk) (hd := ?hd) (hu := ?hu) (n0 := ?n0) (n1 := ?n1) (hret := ?_); (case B => k_asm); (case F => k_asm); (case X => k_asm); (case N => k_asm); (case T => k_asm); (case hk => first | exact rfl | assumption); (case hd => ktr_room); (case hu => ktr_units); (case n0 => l_fact); (case n1 => l_fact); k_whole; intro b' t' h' tk' hb' F' N'; (try dsimp only); (try k_sweep))))
local macro_rules | `(tactic| walk_at "call ref") => `(tactic| (k_dflt (refine' c_readInt16 (B := ?B) (F := ?F) (X := ?X) (N := ?N) (T := ?T) (hk := ?hk) (hd := ?hd) (hu := ?hu) (hb := ?hb) (hz := ?hz) (hret := ?_); (case B => k_asm); (case F => k_asm); (case X => k_asm); (case N => k_asm); (case T => k_asm); (case hk => first | exact rfl | assumption); (case hd => ktr_room); (case hu => ktr_units); (case hb => assumption); (case hz => first | omega | (simp only [List.length_append, List.length_cons, List.length_nil]; omega)); k_whole; intro t' h' tk' F' N'; (try dsimp only); (try k_sweep))))
local macro_rules | `(tactic| walk_at "call ref") => `(tactic| (k_dflt (refine' c_readInt32 (B := ?B) (F := ?F) (X := ?X) (N := ?N) (T := ?T) (hk := ?hk) (hd := ?hd) (hu := ?hu) (hb := ?hb) (hz := ?hz) (hret := ?_); (case B => k_asm); (case F => k_asm); (case X => k_asm); (case N => k_asm); (case T => k_asm); (case hk => first | exact rfl | assumption); (case hd => ktr_room); (case hu => ktr_units); (case hb => assumption); (case hz => first | omega | (simp only [List.length_append, List.length_cons, List.length_nil]; omega)); k_whole; intro t' h' tk' F' N'; (try dsimp only); (try k_sweep))))
section
variable {p : Program} {loose : List Str} {w : World} {mean : ExcName → Option Value} {mg mb : Str → Option Value} {dp un : Nat} {gd : Option (List Code)} {cn : Str} {cs : Scope} {a : Addr} {ccd : Value} {cl : List (Str × Addr)} {outer : List Env} {A₀ : Around} {base h₀ : Heap} {L : Addr} {m : Str → Option Value} {s : Shared} {Q E : Value → Shared → Prop} {news : Led}
variable (B : Below A₀ base outer h₀) (F : Fr h₀ L s.heap m) (X : (hd.heap_39 w.params).In h₀) (N : News h₀ L s.heap news) (T : Top p loose mean mg mb h₀) (hk : cs.kind = .function)
include B F X N T hk
theorem c_readInt16z {y : Int} {ks : List Int} {b : Array UInt8} {t : Tok} (hd : dp + 2 < recursionLimit) (hu : un + 40 < cLine) (hb : KBw.bInts b = 0 :: y :: ks) (hz : ks.length ≤ 900)
    (hret : ∀ (t : Tok) (h' : Heap) (tk' : Nat), Fr h₀ L h' m → News h₀ L h' news → Q (.int y t) { s with heap := h', toks := tk' }) :
    Cl w dp un gd cn cs L a ccd cl outer 94 [.bytes b t] Q E s := by
  refine c_readInt16 B F X N T hk hd hu hb hz fun t h' tk' F' N' => ?_
  have h := hret t h' tk' F' N'
  rw [show y = 0 * 256 + y by omega] at h
  exact h
local macro_rules | `(tactic| walk_at "call ref") => `(tactic| (k_dflt (refine' c_readInt16z (B := ?B) (F := ?F) (X := ?X) (N := ?N) (T := ?T) (hk := ?hk) (hd := ?hd) (hu := ?hu) (hb := ?hb) (hz := ?hz) (hret := ?_); (case B => k_asm); (case F => k_asm); (case X => k_asm); (case N => k_asm); (case T => k_asm); (case hk => first | exact rfl | assumption); (case hd => ktr_room); (case hu => ktr_units); (case hb => assumption); (case hz => first | omega | (simp only [List.length_append, List.length_cons, List.length_nil]; omega)); k_whole; intro t' h' tk' F' N'; (try dsimp only); (try k_sweep))))
theorem c_readBytes {b : Array UInt8} {n ml : Int} {ks r : List Int} {t u : Tok} (hd : dp + 3 < recursionLimit) (hu : un + 60 < cLine) (hb : KBw.bInts b = 0 :: n :: (ks ++ r)) (hn : n = ks.length) (hm : n + 2 ≤ ml) (hz : ks.length + r.length ≤ 800)
    (hret : ∀ (q : Addr) (b : Array UInt8) (t1 t2 : Tok) (h' : Heap) (tk' : Nat), KBw.bInts b = ks → Fr h₀ L h' m → News h₀ L h' ((q, tupO [.bytes b t1, .int (n + 2) t2]) :: news) → (∀ p ∈ news, p.1 < q) → Q (.ref q) { s with heap := h', toks := tk' }) :
    Cl w dp un gd cn cs L a ccd cl outer 136 [.bytes b t, .int ml u] Q E s := by
  refine wpAny_call ?_
  k_dflt cell_enter
  k_steps
  rename KBw.bInts (KBy.picked _ _ _) = _ => h9
  exact hret _ _ _ _ _ _ (h9.trans (cut_mid (by omega))) (by k_asm) (by k_asm) (by assumption)
theorem c_readUTF {b : Array UInt8} {k : Nat} {ml : Int} {r : List Int} {t u : Tok} (hd : dp + 3 < recursionLimit) (hu : un + 60 < cLine) (hb : KBw.bInts b = 0 :: ((txB k).length : Int) :: (txB k ++ r)) (hm : ((txB k).length : Int) + 2 ≤ ml) (hz : r.length ≤ 800)
    (hret : ∀ (q : Addr) (t1 t2 : Tok) (h' : Heap) (tk' : Nat), Fr h₀ L h' m → News h₀ L h' ((q, tupO [.str (txS k) t1, .int ((txB k).length + 2) t2]) :: news) → (∀ p ∈ news, p.1 < q) → Q (.ref q) { s with heap := h', toks := tk' }) :
    Cl w dp un gd cn cs L a ccd cl outer 122 [.bytes b t, .int ml u] Q E s := by
  refine wpAny_call ?_
  k_dflt cell_enter
  have hl := txB_len k
  k_steps
  rename KBw.bInts (KBy.picked _ _ _) = _ => h9
  replace h9 := h9.trans (cut_mid (by omega))
  k_steps
  walk_at "for"
  k_steps
  unfold Hold
  rename Fr _ _ _ _ => lF
  rename News _ _ _ _ => lN
  refine for_str (fun i m₁ nx => nx = [] ∧ Has ["c", "ord_c"] _ [] m₁) rfl lF lN ⟨rfl, Has.refl (by kst_all1)⟩ ?_ ?_
  · rintro i c t' m₁ nx own h tk htk hc ⟨rfl, hm⟩ - - hsub F1 N1
    have hc9 := txS_sign hc
    obtain ⟨u, rfl⟩ := hm.out
    k_steps
    · exfalso; omega
    · exfalso; omega
    · exact TurnEnd.next [] (by k_asm) (by k_asm) (fun _ h => nomatch h) ⟨rfl, by walk_at "has"⟩
  · rintro m₁ nx h tk htk ⟨rfl, hm⟩ F1 N1
    obtain ⟨u, rfl⟩ := hm.out
    k_steps
    exact hret _ _ _ _ _ (by k_asm) (by k_asm) (by assumption)
end
local macro_rules | `(tactic| walk_at "call ref") => `(tactic| (k_dflt (refine' c_readInt16z (B := ?B) (F := ?F) (X := ?X) (N := ?N) (T := ?T) (hk := ?hk) (hd := ?hd) (hu := ?hu) (hb := ?hb) (hz := ?hz) (hret := ?_); (case B => k_asm); (case F => k_asm); (case X => k_asm); (case N => k_asm); (case T => k_asm); (case hk => first | exact rfl | assumption); (case hd => ktr_room); (case hu => ktr_units); (case hb => assumption); (case hz => first | omega | (simp only [List.length_append, List.length_cons, List.length_nil]; omega)); k_whole; intro t' h' tk' F' N'; (try dsimp only); (try k_sweep))))
section
variable {p : Program} {loose : List Str} {w : World} {mean : ExcName → Option Value} {mg mb : Str → Option Value} {dp un : Nat} {gd : Option (List Code)} {cn : Str} {cs : Scope} {a : Addr} {ccd : Value} {cl : List (Str × Addr)} {outer : List Env} {A₀ : Around} {base h₀ : Heap} {L : Addr} {m : Str → Option Value} {s : Shared} {Q E : Value → Shared → Prop} {news : Led}
variable (B : Below A₀ base outer h₀) (F : Fr h₀ L s.heap m) (X : (hd.heap_39 w.params).In h₀) (N : News h₀ L s.heap news) (T : Top p loose mean mg mb h₀) (hk : cs.kind = .function)
include B F X N T hk
theorem c_encode {x : Int} {t : Tok} (hd : dp + 1 < recursionLimit) (hu : un + 20 < cLine) (h0 : 0 ≤ x) (h1 : x < 268435456)
    (hret : ∀ (b : Array UInt8) (t : Tok) (h' : Heap) (tk' : Nat), KBw.bInts b = vb x → Fr h₀ L h' m → News h₀ L h' news → Q (.bytes b t) { s with heap := h', toks := tk' }) :
    Cl w dp un gd cn cs L a ccd cl outer 150 [.int x t] Q E s := by
  refine wpAny_call ?_
  k_dflt cell_enter
  k_steps
  unfold Hold
  rename Fr _ _ _ _ => lF
  rename News _ _ _ _ => lN
  refine whileJ (fun n m₁ nx => nx = news ∧ ∃ y pre b t1 t2, 0 ≤ y ∧ y < pw n ∧ pre.length + n = 4 ∧ (n = 4 ∨ 0 < y) ∧ KBw.bInts b = pre ∧ pre ++ vbN n y = vb x ∧ Has ["x", "digit", "buffer"] _ [("x", .int y t1), ("buffer", .bytes b t2)] m₁) 4 lF lN ⟨rfl, x, [], #[], _, _, h0, h1, rfl, .inl rfl, rfl, rfl, Has.refl (by kst_all1)⟩ ?_
  rintro n m₁ nx h tk htk ⟨rfl, y, pre, b, t1, t2, y0, y1, hl, hy, hb, he, hm⟩ F1 N1
  cases n with
  | zero => exfalso; simp only [pw] at y1; omega
  | succ n =>
    simp only [pw] at y1
    obtain ⟨u, rfl⟩ := hm.out
    have d0 := fdiv_128 y
    have d1 := fmod_128 y
    have o1 : PySem.Builtin.bitOr (y.fmod 128) 128 = y % 128 + 128 := by rw [d1]; exact bitOr_128 (by omega) (by omega)
    have i1 : KBa.In [PySem.Builtin.bitOr (y.fmod 128) 128] := by intro n hn; rw [List.mem_singleton.mp hn, o1]; omega
    have i2 : KBa.In [y.fmod 128] := by intro n hn; rw [List.mem_singleton.mp hn, d1]; omega
    k_steps
    · exfalso; omega
    · refine WEnd.next n (by k_asm) (sub_led (by assumption) fun _ h => .tail _ h) (Nat.lt_succ_self n) ⟨rfl, y.fdiv 128, pre ++ [PySem.Builtin.bitOr (y.fmod 128) 128], _, _, _, by omega, by omega, by rw [List.length_append, List.length_singleton]; omega, .inr (by omega), by assumption, ?_, by walk_at "has"⟩
      rw [← he, o1, d0, List.append_assoc]
      congr 1
      simp only [vbN]
      rw [if_pos (by omega)]
      rfl
    · refine WEnd.brk ?_
      k_steps
      rename KBw.bInts (_ ++ _) = _ => h9
      refine hret _ _ _ _ (h9.trans ?_) (by k_asm) (sub_led (by assumption) fun _ h => .tail _ h)
      rw [← he, d1]
      simp only [vbN]
      rw [if_neg (by omega)]
    · exfalso; omega
theorem c_decode {b : Array UInt8} {x : Int} {r : List Int} {t : Tok} (hd : dp + 1 < recursionLimit) (hu : un + 20 < cLine) (h0 : 0 ≤ x) (h1 : x < 268435456) (hb : KBw.bInts b = vb x ++ r) (hz : r.length ≤ 900)
    (hret : ∀ (q : Addr) (t1 t2 : Tok) (h' : Heap) (tk' : Nat), Fr h₀ L h' m → News h₀ L h' ((q, tupO [.int x t1, .int (vb x).length t2]) :: news) → (∀ p ∈ news, p.1 < q) → Q (.ref q) { s with heap := h', toks := tk' }) :
    Cl w dp un gd cn cs L a ccd cl outer 160 [.bytes b t] Q E s := by
  refine wpAny_call ?_
  k_dflt cell_enter
  have hlx := vbN_len 4 x
  k_steps
  unfold Hold
  rename Fr _ _ _ _ => lF
  rename News _ _ _ _ => lN
  refine whileJ (fun n m₁ nx => nx = news ∧ ∃ y v c b t1 t2 t3 t4, n ≤ 4 ∧ 0 ≤ y ∧ y < pw n ∧ v + y * pw (4 - n) = x ∧ 0 ≤ v ∧ (n = 4 ∨ 0 < y) ∧ c + (n : Int) = 4 ∧ c + ((vbN n y).length : Int) = ((vbN 4 x).length : Int) ∧ KBw.bInts b = vbN n y ++ r ∧ Has ["buffer", "multiplier", "value", "count", "digit"] _ [("buffer", .bytes b t1), ("multiplier", .int (pw (4 - n)) t2), ("value", .int v t3), ("count", .int c t4)] m₁) 4 lF lN ⟨rfl, x, 0, 0, b, _, _, _, _, by omega, h0, h1, by show 0 + x * 1 = x; omega, by omega, .inl rfl, by omega, by omega, hb, Has.refl (by kst_all1)⟩ ?_
  rintro n m₁ nx h tk htk ⟨rfl, y, v, c, b, t1, t2, t3, t4, hn4, y0, y1, hv, v0, hyy, hc, hl, hb, hm⟩ F1 N1
  have hln := vbN_len n y
  cases n with
  | zero => exfalso; simp only [pw] at y1; omega
  | succ n =>
    simp only [pw] at y1
    obtain ⟨u, rfl⟩ := hm.out
    have hmb := pw_bound (k := 4 - (n + 1)) (by omega)
    have hmn := pw_next hn4
    clear hm
    generalize pw (4 - (n + 1)) = mu at hv hmb hmn F1
    by_cases hy : y / 128 > 0
    · have e9 : vbN (n + 1) y = (y % 128 + 128) :: vbN n (y / 128) := by simp only [vbN]; rw [if_pos hy]
      rw [e9] at hl hln
      rw [e9, List.cons_append] at hb
      have a7 := and_127 (r := y % 128 + 128) (by omega) (by omega)
      have a8 := and_128 (r := y % 128 + 128) (by omega) (by omega)
      have hln := vbN_len n (y / 128)
      k_steps
      · exfalso
        rename ((List.length _ : Nat) : Int) = 0 => h9
        simp only [List.length_cons] at h9
        omega
      · exfalso
        rename PySem.Builtin.bitAnd _ 128 = 0 => h9
        have h10 : PySem.Builtin.bitAnd (y % 128 + 128) 128 = 0 := h9
        omega
      · rename KBw.bInts (KBy.picked _ _ _) = _ => h9
        refine WEnd.next n (by k_asm) (by k_asm) (Nat.lt_succ_self n) ⟨rfl, y / 128, v + PySem.Builtin.bitAnd (y % 128 + 128) 127 * mu, c + 1, _, _, _, _, _, by omega, by omega, by omega, ?_, ?_, .inr hy, by omega, ?_, h9.trans ?_, by rw [← hmn]; walk_at "has"⟩
        · rw [a7, show (y % 128 + 128) % 128 = y % 128 by omega, ← hmn, vb_step, hv]
        · have := Int.mul_nonneg (show 0 ≤ PySem.Builtin.bitAnd (y % 128 + 128) 127 by omega) (show 0 ≤ mu by omega)
          omega
        · rw [List.length_cons] at hl; omega
        · exact cut_tail
    · have e9 : vbN (n + 1) y = [y % 128] := by simp only [vbN]; rw [if_neg hy]
      rw [e9] at hl hln
      rw [e9, List.cons_append, List.nil_append] at hb
      have a7 := and_127 (r := y % 128) (by omega) (by omega)
      have a8 := and_128 (r := y % 128) (by omega) (by omega)
      k_steps
      · exfalso
        rename ((List.length _ : Nat) : Int) = 0 => h9
        simp only [List.length_cons] at h9
        omega
      · refine WEnd.brk ?_
        k_steps
        rename News _ _ _ _ => nE
        have e1 : v + PySem.Builtin.bitAnd (y % 128) 127 * mu = x := by rw [a7, ← hv]; congr 2; omega
        have e2 : c + 1 = ((vbN 4 x).length : Int) := by rw [List.length_singleton] at hl; omega
        change News _ _ _ ((_, tupO [.int (v + PySem.Builtin.bitAnd (y % 128) 127 * mu) _, .int (c + 1) _]) :: _) at nE
        rw [e1, e2] at nE
        exact hret _ _ _ _ _ (by k_asm) nE (by assumption)
      · exfalso
        rename PySem.Builtin.bitAnd _ 128 ≠ 0 => h9
        have h10 : PySem.Builtin.bitAnd (y % 128) 128 ≠ 0 := h9
        omega
end
/-- a row of the two tables: name, name without blanks, number, the type's number, the packets -/
structure Rw where
  nm : Str
  cm : Str
  id : Int
  tk : Tok
  ty : Int
  tyt : Tok
  tup : Addr
  lst : Addr
  pk : List (Int × Tok)
deriving DecidableEq
def rows : List Rw := [
  ⟨Str.ofString "Payload Format Indicator", Str.ofString "PayloadFormatIndicator", 1, 429, 0, 511, 183, 182, [(3, 512), (99, 513)]⟩,
  ⟨Str.ofString "Message Expiry Interval", Str.ofString "MessageExpiryInterval", 2, 432, 2, 516, 185, 184, [(3, 517), (99, 518)]⟩,
  ⟨Str.ofString "Content Type", Str.ofString "ContentType", 3, 435, 5, 521, 187, 186, [(3, 522), (99, 523)]⟩,
  ⟨Str.ofString "Response Topic", Str.ofString "ResponseTopic", 8, 438, 5, 526, 189, 188, [(3, 527), (99, 528)]⟩,
  ⟨Str.ofString "Correlation Data", Str.ofString "CorrelationData", 9, 441, 4, 531, 191, 190, [(3, 532), (99, 533)]⟩,
  ⟨Str.ofString "Subscription Identifier", Str.ofString "SubscriptionIdentifier", 11, 444, 3, 536, 193, 192, [(3, 537), (8, 538)]⟩,
  ⟨Str.ofString "Session Expiry Interval", Str.ofString "SessionExpiryInterval", 17, 447, 2, 541, 195, 194, [(1, 542), (2, 543), (14, 544)]⟩,
  ⟨Str.ofString "Assigned Client Identifier", Str.ofString "AssignedClientIdentifier", 18, 450, 5, 547, 197, 196, [(2, 548)]⟩,
  ⟨Str.ofString "Server Keep Alive", Str.ofString "ServerKeepAlive", 19, 453, 1, 551, 199, 198, [(2, 552)]⟩,
  ⟨Str.ofString "Authentication Method", Str.ofString "AuthenticationMethod", 21, 456, 5, 555, 201, 200, [(1, 556), (2, 557), (15, 558)]⟩,
  ⟨Str.ofString "Authentication Data", Str.ofString "AuthenticationData", 22, 459, 4, 561, 203, 202, [(1, 562), (2, 563), (15, 564)]⟩,
  ⟨Str.ofString "Request Problem Information", Str.ofString "RequestProblemInformation", 23, 462, 0, 567, 205, 204, [(1, 568)]⟩,
  ⟨Str.ofString "Will Delay Interval", Str.ofString "WillDelayInterval", 24, 465, 2, 571, 207, 206, [(99, 572)]⟩,
  ⟨Str.ofString "Request Response Information", Str.ofString "RequestResponseInformation", 25, 468, 0, 575, 209, 208, [(1, 576)]⟩,
  ⟨Str.ofString "Response Information", Str.ofString "ResponseInformation", 26, 471, 5, 579, 211, 210, [(2, 580)]⟩,
  ⟨Str.ofString "Server Reference", Str.ofString "ServerReference", 28, 474, 5, 583, 213, 212, [(2, 584), (14, 585)]⟩,
  ⟨Str.ofString "Reason String", Str.ofString "ReasonString", 31, 477, 5, 588, 215, 214, [(2, 589), (4, 590), (5, 591), (6, 592), (7, 593), (9, 594), (11, 595), (14, 596), (15, 597)]⟩,
  ⟨Str.ofString "Receive Maximum", Str.ofString "ReceiveMaximum", 33, 480, 1, 600, 218, 217, [(1, 601), (2, 602)]⟩,
  ⟨Str.ofString "Topic Alias Maximum", Str.ofString "TopicAliasMaximum", 34, 482, 1, 604, 220, 219, [(1, 605), (2, 606)]⟩,
  ⟨Str.ofString "Topic Alias", Str.ofString "TopicAlias", 35, 484, 1, 608, 222, 221, [(3, 609)]⟩,
  ⟨Str.ofString "Maximum QoS", Str.ofString "MaximumQoS", 36, 486, 0, 611, 224, 223, [(2, 612)]⟩,
  ⟨Str.ofString "Retain Available", Str.ofString "RetainAvailable", 37, 488, 0, 614, 226, 225, [(2, 615)]⟩,
  ⟨Str.ofString "User Property", Str.ofString "UserProperty", 38, 490, 6, 617, 228, 227, [(1, 618), (2, 619), (3, 620), (4, 621), (5, 622), (6, 623), (7, 624), (8, 625), (9, 626), (10, 627), (11, 628), (14, 629), (15, 630), (99, 631)]⟩,
  ⟨Str.ofString "Maximum Packet Size", Str.ofString "MaximumPacketSize", 39, 492, 2, 633, 230, 229, [(1, 634), (2, 635)]⟩,
  ⟨Str.ofString "Wildcard Subscription Available", Str.ofString "WildcardSubscriptionAvailable", 40, 494, 0, 637, 232, 231, [(2, 638)]⟩,
  ⟨Str.ofString "Subscription Identifier Available", Str.ofString "SubscriptionIdentifierAvailable", 41, 496, 0, 640, 234, 233, [(2, 641)]⟩,
  ⟨Str.ofString "Shared Subscription Available", Str.ofString "SharedSubscriptionAvailable", 42, 498, 0, 643, 236, 235, [(2, 644)]⟩]
def Rw.multi (r : Rw) : Bool := r.id == 11 || r.id == 38
def kvN : List (Str × Value) := rows.map fun r => (r.nm, .int r.id r.tk)
def kvP : List (Int × Value) := rows.map fun r => (r.id, .ref r.tup)
theorem rows_comp : ∀ r ∈ rows, Txt.replace r.nm (Str.ofString " ") (Str.ofString "") = r.cm := by decide +kernel
theorem rows_id : ∀ r ∈ rows, ∀ r' ∈ rows, r.id = r'.id → r = r' := by decide +kernel
theorem rows_cm : ∀ r ∈ rows, ∀ r' ∈ rows, r.cm = r'.cm → r = r' := by decide +kernel
theorem rows_nm : ∀ r ∈ rows, ∀ r' ∈ rows, r.nm = r'.nm → r = r' := by decide +kernel
theorem rows_in : ∀ r ∈ rows, 1 ≤ r.id ∧ r.id ≤ 42 ∧ 0 ≤ r.ty ∧ r.ty ≤ 6 := by decide +kernel
theorem rows_len : ∀ r ∈ rows, r.nm.cps.size ≤ 40 ∧ r.cm.cps.size ≤ 40 := by decide +kernel
theorem rows_sorted : (rows.map (·.id)).Pairwise (· < ·) := by decide +kernel
theorem kvN_at {i : Nat} {k : Str} {v : Value} (h : kvN[i]? = some (k, v)) : ∃ r, rows[i]? = some r ∧ r ∈ rows ∧ k = r.nm ∧ v = .int r.id r.tk := by
  unfold kvN at h
  rw [List.getElem?_map] at h
  cases hr : rows[i]? with
  | none => rw [hr] at h; cases h
  | some r => rw [hr] at h; cases h; exact ⟨r, rfl, List.mem_of_getElem? hr, rfl, rfl⟩
theorem take_next {α : Type} {l : List α} {i : Nat} {a : α} {P : α → Prop} (h : l[i]? = some a) (hp : ∀ b ∈ l.take i, P b) (ha : P a) : ∀ b ∈ l.take (i + 1), P b := by
  rw [List.take_add_one, h]
  intro b hb
  rcases List.mem_append.mp hb with hb | hb
  · exact hp b hb
  · rw [List.mem_singleton.mp hb]; exact ha
/-- the names that stand in the class or are the packet's -/
def clsName (x : Str) : Bool := x != Str.ofString "packetType" && rows.all fun r => r.cm != x
def KeysLitI : List DictEntry → Prop
  | [] => True
  | e :: r => (∃ k t, e.key = .int k t ∧ e.hash = hashInt k) ∧ KeysLitI r
theorem KeysLitI.all : ∀ {l : List DictEntry}, KeysLitI l → ∀ e ∈ l, ∃ k t, e.key = .int k t ∧ e.hash = hashInt k
  | _ :: _, ⟨h, _⟩, _, .head _ => h
  | _ :: _, ⟨_, r⟩, _, .tail _ m => r.all _ m
section
variable {prog : Program} {w : World} {h : Heap}
theorem names_at (X : (hd.heap_39 w.params).In h) : h.DictAt (strKind prog w) 179 kvN 27 := by
  refine ⟨_, _, X _ _ (by k_is), ⟨rfl, rfl, rfl⟩, rfl, ?_, ?_, by decide +kernel⟩
  · refine fun e he => ?_
    have hk := KeysLit.all (P := w.params) (l := Array.toList _) (by k_keys) e (Array.mem_toList_iff.mpr he)
    obtain ⟨x, t, e1, e2⟩ := hk
    exact ⟨x, by rw [e1]; exact strKind_is prog w x t, e2⟩
  · repeat (first | exact Pairs.nil | refine Pairs.cons (by exact strKind_is prog w _ _) rfl ?_)
theorem props_at (X : (hd.heap_39 w.params).In h) : h.DictAt (intKind prog w) 181 kvP 27 := by
  refine ⟨_, _, X _ _ (by k_is), ⟨rfl, rfl, rfl⟩, rfl, ?_, ?_, by decide +kernel⟩
  · refine fun e he => ?_
    have hk := KeysLitI.all (l := Array.toList _) (by k_keys) e (Array.mem_toList_iff.mpr he)
    obtain ⟨x, t, e1, e2⟩ := hk
    exact ⟨x, by rw [e1]; exact intKind_is prog w x t, e2⟩
  · repeat (first | exact Pairs.nil | refine Pairs.cons (by exact intKind_is prog w _ _) rfl ?_)
def tupR (r : Rw) : List Value := [.int r.ty r.tyt, .ref r.lst]
def pkR (r : Rw) : List Value := r.pk.map fun p => .int p.1 p.2
theorem tup_at (X : (hd.heap_39 w.params).In h) : ∀ r ∈ rows, IsTup h r.tup (tupR r).toArray := by
  repeat (first | exact List.forall_mem_nil _ | refine List.forall_mem_cons.mpr ⟨⟨_, X _ _ (by k_is), rfl, _, rfl⟩, ?_⟩)
theorem lst_at (X : (hd.heap_39 w.params).In h) : ∀ r ∈ rows, h.IsList r.lst (pkR r).toArray := by
  repeat (first | exact List.forall_mem_nil _ | refine List.forall_mem_cons.mpr ⟨⟨_, X _ _ (by k_is), rfl, _, rfl⟩, ?_⟩)
theorem find_cm : ∀ r ∈ rows, findIn (hd.heap_39 w.params) (.ref 307) r.cm = some none := by
  repeat (first | exact List.forall_mem_nil _ | refine List.forall_mem_cons.mpr ⟨by k_is, ?_⟩)
theorem plain_cm : ∀ r ∈ rows, plainGet (hd.heap_39 w.params) 307 r.cm = true := by
  repeat (first | exact List.forall_mem_nil _ | refine List.forall_mem_cons.mpr ⟨by k_is, ?_⟩)
theorem taker_cm : ∀ r ∈ rows, takerIn (hd.heap_39 w.params) 307 r.cm = some none := by
  repeat (first | exact List.forall_mem_nil _ | refine List.forall_mem_cons.mpr ⟨by k_is, ?_⟩)
end
abbrev instO (dx : Addr) : Obj := ⟨.ref 307, some dx, .plain, #[]⟩
/-- what a made object bears: the packet's kind, and the properties so far -/
structure Told (es : List DictEntry) (pk : Value) (av : Str → Option Value) : Prop where
  noref : es.any (·.refKey) = false
  find : ∀ nm, (es.find? (·.key.isStr nm)).map (·.val) = if nm = Str.ofString "packetType" then some pk else av nm
  out : ∀ nm, (rows.all fun r => r.cm != nm) = true → av nm = none
  hand : ∀ nm a, av nm = some a → handedIn a = true
theorem Told.get {es : List DictEntry} {pk : Value} {av : Str → Option Value} (T : Told es pk av) (nm : Str) : getL nm es = some (if nm = Str.ofString "packetType" then some pk else av nm) := by
  rw [← T.find nm]
  unfold getL
  cases h : es.find? (·.key.isStr nm) with
  | some e => rfl
  | none => dsimp only; rw [if_neg (by rw [T.noref]; decide)]; rfl
theorem Told.cls {es : List DictEntry} {pk : Value} {av : Str → Option Value} {nm : Str} (T : Told es pk av) (h : clsName nm = true) : getL nm es = some none := by
  obtain ⟨h1, h2⟩ := Bool.and_eq_true_iff.mp h
  rw [T.get, if_neg (by simpa using h1), T.out nm h2]
theorem Told.pack {es : List DictEntry} {pk : Value} {av : Str → Option Value} (T : Told es pk av) : getL (Str.ofString "packetType") es = some (some pk) := by rw [T.get, if_pos rfl]
theorem Told.attr {es : List DictEntry} {pk : Value} {av : Str → Option Value} (T : Told es pk av) : ∀ r ∈ rows, getL r.cm es = some (av r.cm) := by
  intro r hr
  rw [T.get, if_neg]
  exact (by decide +kernel : ∀ r ∈ rows, r.cm ≠ Str.ofString "packetType") r hr
theorem bool_to {Q : Value → Shared → Prop} {b c : Bool} {s : Shared} (h : Q (.bool c) s) (e : b = c) : Q (.bool b) s := e ▸ h
theorem two {h₀ h : Heap} {L : Addr} {l : Led} {p q : Addr × Obj} (N : News h₀ L h l) (h1 : p ∈ l) (h2 : q ∈ l) : News h₀ L h (p :: q :: l) := fun z hz => by
  rcases List.mem_cons.mp hz with rfl | hz
  · exact N _ h1
  · rcases List.mem_cons.mp hz with rfl | hz
    · exact N _ h2
    · exact N _ hz
section
variable {prog : Program} {w : World} {A : Around} {E : Value → Shared → Prop} {s : Shared} {h₀ : Heap} {L : Addr} {m : Str → Option Value} {t : Tok}
theorem sub_names {value slice : Expr} {r : Rw} {Q : Value → Shared → Prop} (F : Fr h₀ L s.heap m) (X : (hd.heap_39 w.params).In h₀) (hr : r ∈ rows) (h : Q (.int r.id r.tk) { s with toks := s.toks + 1 })
    (hs : subscripted slice false (.ref 179) (.str r.nm t) = operate [.ref 179, .str r.nm t] (getItem (.ref 179) (.str r.nm t)) := by with_unfolding_all rfl) :
    wpAny (model prog w) A (subscriptTail value slice (.ref 179) (.str r.nm t)) Q E s := by
  have hd := ((names_at (prog := prog) X).keep F.keep).dictOf
  refine tail_any hd.typeIs slot_dict_getitem.lookup (wpAny_getItem_of (strKind_is prog w r.nm t) hd.mapOf ?_ h) hs
  exact (by decide +kernel : ∀ r ∈ rows, valueAt kvN r.nm = some (.int r.id r.tk)) r hr
theorem sub_props {value slice : Expr} {r : Rw} {Q : Value → Shared → Prop} (F : Fr h₀ L s.heap m) (X : (hd.heap_39 w.params).In h₀) (hr : r ∈ rows) (h : Q (.ref r.tup) { s with toks := s.toks + 1 })
    (hs : subscripted slice false (.ref 181) (.int r.id t) = operate [.ref 181, .int r.id t] (getItem (.ref 181) (.int r.id t)) := by with_unfolding_all rfl) :
    wpAny (model prog w) A (subscriptTail value slice (.ref 181) (.int r.id t)) Q E s := by
  have hd := ((props_at (prog := prog) X).keep F.keep).dictOf
  refine tail_any hd.typeIs slot_dict_getitem.lookup (wpAny_getItem_of (intKind_is prog w r.id t) hd.mapOf ?_ h) hs
  exact (by decide +kernel : ∀ r ∈ rows, valueAt kvP r.id = some (.ref r.tup)) r hr
end
theorem gen_toks {α : Type} {M : Model} {A : Around} {t : Sem α} {Q : α → Shared → Prop} {E : Value → Shared → Prop} {h : Heap} {g d o} {a b : Nat} (hp : 1 ≤ a + b) (k : ∀ tk, 1 ≤ tk → wpAny M A t Q E ⟨h, g, d, tk, o⟩) : wpAny M A t Q E ⟨h, g, d, a + b, o⟩ := k _ hp
local macro_rules | `(tactic| walk_at "execs cons") => `(tactic| ((with_reducible refine' gen_toks ?hp ?_); (case hp => first | omega | exact Nat.le_trans (Nat.le_of_ble_eq_true (by with_unfolding_all rfl)) (Nat.le_add_left _ _) | (dsimp only at *; omega)); intro tk htkP))
local macro_rules | `(tactic| walk_at "execs nil") => `(tactic| ((with_reducible refine' gen_toks ?hp ?_); (case hp => first | omega | exact Nat.le_trans (Nat.le_of_ble_eq_true (by with_unfolding_all rfl)) (Nat.le_add_left _ _) | (dsimp only at *; omega)); intro tk htkP))
section
variable {prog : Program} {w : World} {A : Around} {E : Value → Shared → Prop} {s : Shared} {t u v : Tok} {r : Rw} {Q : Value → Shared → Prop}
theorem rep_name (hr : r ∈ rows) (hu : @LT.lt Nat _ 0 u) (hv : @LT.lt Nat _ 0 v) (huv : @LT.lt Nat _ u v) (h : ∀ t' k, Q (.str r.cm t') { s with toks := k }) :
    wpAny (model prog w) A (call (.builtin "str.replace") [.str r.nm t, .str (Str.ofString " ") u, .str (Str.ofString "") v]) Q E s := by
  refine SC.replace (Nat.ne_of_gt hu) (Nat.ne_of_gt hv) (Nat.ne_of_lt huv) (by decide +kernel) ?_ ?_
  · have h1 := (rows_len r hr).1
    have h2 : r.nm.length = r.nm.cps.size := rfl
    have h3 : (Str.ofString "").length = 0 := by decide +kernel
    rw [h2, h3]; omega
  · rw [rows_comp r hr]; exact h
end
local macro_rules | `(tactic| walk_at "call builtin:str.replace") => `(tactic| ((with_reducible show wpAny _ _ (call _ _) _ _ _); refine Hold.mk ?_))
local macro_rules | `(tactic| walk_at "call builtin:str.replace") => `(tactic| ((with_reducible show wpAny _ _ (call _ [Value.str (Rw.nm _) _, _, _]) _ _ _); k_dflt ((refine wpAny_with_toks (n := 1) (by walk_at "tok_pos") ?_); refine rep_name (by assumption) (by first | omega | (dsimp only at *; omega)) (by first | omega | (dsimp only at *; omega)) (by first | omega | (dsimp only at *; omega)) ?_); intro _ _ htk'; (try dsimp only at htk')))
local macro_rules | `(tactic| walk_at "getAttr ref") => `(tactic| (k_dflt (refine' get_cls ?k1 ?k2 ?k3 ?k4 ?k5 ?k6 ?k7 ?k8 ?k9 ?k10 ?_; (case k1 => k_asm); (case k2 => k_asm); (case k3 => exact InstAt.of_news (by k_asm) (by k_mem) (by k_mem)); (case k4 => k_is); (case k5 => k_is); (case k6 => k_is); (case k7 => k_is); (case k8 => k_handed); (case k9 => decide +kernel); (case k10 => exact Told.cls (by assumption) (by decide +kernel)); k_whole)))
local macro_rules | `(tactic| walk_at "getMethod ref") => `(tactic| (k_dflt (refine' method_inst ?k1 ?k2 ?k3 ?k4 ?k5 ?k6 ?k7 ?_; (case k1 => k_asm); (case k2 => k_asm); (case k3 => exact InstAt.of_news (by k_asm) (by k_mem) (by k_mem)); (case k4 => k_is); (case k5 => k_is); (case k6 => k_is); (case k7 => exact Told.cls (by assumption) (by decide +kernel)); k_whole)))
local macro_rules | `(tactic| walk_at "subscriptTail") => `(tactic| ((with_reducible show wpAny _ _ (subscriptTail _ _ (Value.ref 179) _) _ _ _); k_dflt (refine sub_names (by k_asm) (by k_asm) (by assumption) ?_)))
local macro_rules | `(tactic| walk_at "subscriptTail") => `(tactic| ((with_reducible show wpAny _ _ (subscriptTail _ _ (Value.ref 181) _) _ _ _); k_dflt (refine sub_props (by k_asm) (by k_asm) (by assumption) ?_)))

section
variable {p : Program} {loose : List Str} {w : World} {mean : ExcName → Option Value} {mg mb : Str → Option Value} {dp un : Nat} {gd : Option (List Code)} {cn : Str} {cs : Scope} {a : Addr} {ccd : Value} {cl : List (Str × Addr)} {outer : List Env} {A₀ : Around} {base h₀ : Heap} {L : Addr} {m : Str → Option Value} {s : Shared} {Q E : Value → Shared → Prop} {news : Led}
  {x dx : Addr} {es : List DictEntry} {n : Nat} {pk : Value} {av : Str → Option Value}
variable (B : Below A₀ base outer h₀) (F : Fr h₀ L s.heap m) (X : (hd.heap_39 w.params).In h₀) (N : News h₀ L s.heap news) (T : Top p loose mean mg mb h₀) (hk : cs.kind = .function) (hx : (x, instO dx) ∈ news) (hdx : (dx, dictOf es n) ∈ news) (hT : Told es pk av)
include B F X N T hk hx hdx hT
theorem c_nameOf {r : Rw} {t : Tok} (hr : r ∈ rows) (hd : dp + 1 < recursionLimit) (hu : un + 20 < cLine)
    (hret : ∀ (t : Tok) (h' : Heap) (tk' : Nat), Fr h₀ L h' m → News h₀ L h' news → Q (.str r.nm t) { s with heap := h', toks := tk' }) :
    Cl w dp un gd cn cs L a ccd cl outer 297 [.ref x, .int r.id t] Q E s := by
  replace N := two N hx hdx
  clear hx hdx
  refine wpAny_call ?_
  k_dflt cell_enter
  k_steps
  walk_at "for"
  k_steps
  unfold Hold
  rename Fr _ _ _ _ => lF
  rename News _ _ _ _ => lN
  rename Frag.In _ _ => lX
  refine for_dict (fun i m₁ nx => nx = [] ∧ ∃ v, ((∀ b ∈ rows.take i, b.id ≠ r.id) ∧ v = .none ∨ ∃ t, v = .str r.nm t) ∧ Has ["name", "rc"] _ [("rc", v)] m₁) rfl (names_at lX) (by decide) lF lN ⟨rfl, _, .inl ⟨fun _ h => (nomatch h), rfl⟩, Has.refl (by kst_all1)⟩ ?_ ?_
  · rintro i k v t m₁ nx own h tk htk hkv ⟨rfl, v', hv, hm⟩ - - hsub F1 N1
    obtain ⟨r', hr', hm', rfl, rfl⟩ := kvN_at hkv
    obtain ⟨u, rfl⟩ := hm.out
    have hx := hsub _ (.head _)
    have hdx := hsub _ (.tail _ (.head _))
    k_steps
    · rename _ = r.id => e9
      have e := rows_id r' hm' r hr e9
      subst e
      exact TurnEnd.next [] (by k_asm) (by k_asm) (fun _ h => nomatch h) ⟨rfl, _, .inr ⟨_, rfl⟩, by walk_at "has"⟩
    · rename _ ≠ r.id => e9
      refine TurnEnd.next [] (by k_asm) (by k_asm) (fun _ h => nomatch h) ⟨rfl, v', ?_, by walk_at "has"⟩
      exact hv.imp (fun h => ⟨take_next hr' h.1 e9, h.2⟩) id
  · rintro m₁ nx h tk htk ⟨rfl, v, hv, hm⟩ F1 N1
    obtain ⟨u, rfl⟩ := hm.out
    have hv' : ∃ t, v = .str r.nm t := by
      rcases hv with ⟨h, -⟩ | h
      · exact absurd rfl (h r (by rw [show kvN.length = rows.length from rfl, List.take_length]; exact hr))
      · exact h
    obtain ⟨t', rfl⟩ := hv'
    k_steps
    exact hret _ _ _ (by k_asm) (sub_led (by assumption) fun _ h => .tail _ (.tail _ h))
theorem c_idOf {r : Rw} {t : Tok} (hr : r ∈ rows) (hd : dp + 1 < recursionLimit) (hu : un + 20 < cLine)
    (hret : ∀ (t : Tok) (h' : Heap) (tk' : Nat), Fr h₀ L h' m → News h₀ L h' news → Q (.int r.id t) { s with heap := h', toks := tk' }) :
    Cl w dp un gd cn cs L a ccd cl outer 257 [.ref x, .str r.cm t] Q E s := by
  replace N := two N hx hdx
  clear hx hdx
  refine wpAny_call ?_
  k_dflt cell_enter
  k_steps
  walk_at "for"
  k_steps
  unfold Hold
  rename Fr _ _ _ _ => lF
  rename News _ _ _ _ => lN
  rename Frag.In _ _ => lX
  refine for_dict (fun i m₁ nx => nx = [] ∧ (∀ b ∈ rows.take i, b.cm ≠ r.cm) ∧ Has ["name"] _ [] m₁) rfl (names_at lX) (by decide) lF lN ⟨rfl, fun _ h => (nomatch h), Has.refl (by kst_all1)⟩ ?_ ?_
  · rintro i k v t m₁ nx own h tk htk hkv ⟨rfl, hv, hm⟩ - - hsub F1 N1
    obtain ⟨r', hr', hm', rfl, rfl⟩ := kvN_at hkv
    obtain ⟨u, rfl⟩ := hm.out
    have hx := hsub _ (.head _)
    have hdx := hsub _ (.tail _ (.head _))
    k_steps
    · rename (r.cm == r'.cm) = true => e9
      have e := rows_cm r' hm' r hr (eq_of_beq e9).symm
      subst e
      dsimp only
      refine TurnEnd.brk ?_
      k_steps
      exact hret _ _ _ (by k_asm) (sub_led (by assumption) fun p h => hsub p (.tail _ (.tail _ h)))
    · rename (r.cm == r'.cm) = false => e9
      exact TurnEnd.next [] (by k_asm) (by k_asm) (fun _ h => nomatch h) ⟨rfl, take_next hr' hv fun h => (by simp [h] at e9), by walk_at "has"⟩
  · rintro m₁ nx h tk htk ⟨rfl, hv, hm⟩ F1 N1
    exact absurd rfl (hv r (by rw [show kvN.length = rows.length from rfl, List.take_length]; exact hr))
local macro_rules | `(tactic| walk_at "call ref") => `(tactic| (k_dflt ((refine wpAny_with_toks (n := 1) (by walk_at "tok_pos") ?_); refine' c_idOf (B := ?B) (F := ?F) (X := ?X) (N := ?N) (T := ?T) (hk := ?hk) (hd := ?hd) (hu := ?hu) (hx := ?hx) (hdx := ?hdx) (hT := ?hT) (hr := ?hr) (hret := ?_); (case B => k_asm); (case F => k_asm); (case X => k_asm); (case N => k_asm); (case T => k_asm); (case hk => first | exact rfl | assumption); (case hd => ktr_room); (case hu => ktr_units); (case hx => k_mem); (case hdx => k_mem); (case hT => assumption); (case hr => assumption); k_whole; intro t' h' tk' F' N'; intro htk'; (try dsimp only at htk'); (try dsimp only); (try k_sweep))))
local macro_rules | `(tactic| walk_at "call ref") => `(tactic| (k_dflt ((refine wpAny_with_toks (n := 1) (by walk_at "tok_pos") ?_); refine' c_nameOf (B := ?B) (F := ?F) (X := ?X) (N := ?N) (T := ?T) (hk := ?hk) (hd := ?hd) (hu := ?hu) (hx := ?hx) (hdx := ?hdx) (hT := ?hT) (hr := ?hr) (hret := ?_); (case B => k_asm); (case F => k_asm); (case X => k_asm); (case N => k_asm); (case T => k_asm); (case hk => first | exact rfl | assumption); (case hd => ktr_room); (case hu => ktr_units); (case hx => k_mem); (case hdx => k_mem); (case hT => assumption); (case hr => assumption); k_whole; intro t' h' tk' F' N'; intro htk'; (try dsimp only at htk'); (try dsimp only); (try k_sweep))))
theorem c_multi {r : Rw} {t : Tok} (hr : r ∈ rows) (hd : dp + 2 < recursionLimit) (hu : un + 40 < cLine)
    (hret : ∀ (h' : Heap) (tk' : Nat), Fr h₀ L h' m → News h₀ L h' news → Q (.bool r.multi) { s with heap := h', toks := tk' }) :
    Cl w dp un gd cn cs L a ccd cl outer 250 [.ref x, .str r.cm t] Q E s := by
  replace N := two N hx hdx
  clear hx hdx
  refine wpAny_call ?_
  k_dflt cell_enter
  k_steps
  exact bool_to (hret _ _ (by k_asm) (sub_led (by assumption) fun _ h => .tail _ (.tail _ (.tail _ h)))) (by simp [Rw.multi, Bool.beq_comm])
end
local macro_rules | `(tactic| walk_at "call ref") => `(tactic| (k_dflt ((refine wpAny_with_toks (n := 1) (by walk_at "tok_pos") ?_); refine' c_multi (B := ?B) (F := ?F) (X := ?X) (N := ?N) (T := ?T) (hk := ?hk) (hd := ?hd) (hu := ?hu) (hx := ?hx) (hdx := ?hdx) (hT := ?hT) (hr := ?hr) (hret := ?_); (case B => k_asm); (case F => k_asm); (case X => k_asm); (case N => k_asm); (case T => k_asm); (case hk => first | exact rfl | assumption); (case hd => ktr_room); (case hu => ktr_units); (case hx => k_mem); (case hdx => k_mem); (case hT => assumption); (case hr => assumption); k_whole; intro h' tk' F' N'; intro htk'; (try dsimp only at htk'); (try dsimp only); (try k_sweep))))
local macro_rules | `(tactic| walk_at "call ref") => `(tactic| (k_dflt ((refine wpAny_with_toks (n := 1) (by walk_at "tok_pos") ?_); refine' c_idOf (B := ?B) (F := ?F) (X := ?X) (N := ?N) (T := ?T) (hk := ?hk) (hd := ?hd) (hu := ?hu) (hx := ?hx) (hdx := ?hdx) (hT := ?hT) (hr := ?hr) (hret := ?_); (case B => k_asm); (case F => k_asm); (case X => k_asm); (case N => k_asm); (case T => k_asm); (case hk => first | exact rfl | assumption); (case hd => ktr_room); (case hu => ktr_units); (case hx => k_mem); (case hdx => k_mem); (case hT => assumption); (case hr => assumption); k_whole; intro t' h' tk' F' N'; intro htk'; (try dsimp only at htk'); (try dsimp only); (try k_sweep))))
local macro_rules | `(tactic| walk_at "call ref") => `(tactic| (k_dflt ((refine wpAny_with_toks (n := 1) (by walk_at "tok_pos") ?_); refine' c_nameOf (B := ?B) (F := ?F) (X := ?X) (N := ?N) (T := ?T) (hk := ?hk) (hd := ?hd) (hu := ?hu) (hx := ?hx) (hdx := ?hdx) (hT := ?hT) (hr := ?hr) (hret := ?_); (case B => k_asm); (case F => k_asm); (case X => k_asm); (case N => k_asm); (case T => k_asm); (case hk => first | exact rfl | assumption); (case hd => ktr_room); (case hu => ktr_units); (case hx => k_mem); (case hdx => k_mem); (case hT => assumption); (case hr => assumption); k_whole; intro t' h' tk' F' N'; intro htk'; (try dsimp only at htk'); (try dsimp only); (try k_sweep))))
section
open PySem.Builtin PySem.Builtin.ObjectAttr
theorem kind_hasattr : builtinKind "hasattr" = none := by decide +kernel
theorem plain_hasattr : plainId "hasattr" = true := by decide +kernel
theorem entry_hasattr : entryFor table "hasattr" = some Builtin.«hasattr» := entryFor_of_tree (by kernel_rfl)
theorem args_hasattr (a b : Value) : argsOk "hasattr" ⟨[a, b], []⟩ := by unfold argsOk; kernel_rfl
theorem cls_name {w : World} : ∃ cd, clsIn (hd.heap_39 w.params) 307 = some cd ∧ cd.name = Str.ofString "Properties" := ⟨_, by k_is, rfl⟩
theorem findObj_none {K : Frag} {C : Addr} {od : Obj} {name : Str} (hh : hasDictIn K C = true) (ha : findIn K (.ref C) name = some none) (hl : lookIn name od = some none) (hc : copiedNames.contains name = false) :
    findObj K C (some od) name = some .missing := by
  obtain ⟨cd, hcd, hd⟩ := any_some hh
  unfold findObj
  have ho : W.ownOf cd (some od) name = some none := by unfold W.ownOf; rw [if_pos hd]; exact hl
  rw [hcd, Option.bind_some, ha, Option.bind_some]
  have hc' : ¬ name ∈ copiedNames := by simpa using hc
  simp [ho, hc']
theorem wpAny_of_eq_tree {α : Type} {M : Model} {A : Around} {E : Value → Shared → Prop} {s : Shared} {t u : Sem α} {Q : α → Shared → Prop} (e : t = u) (h : wpAny M A u Q E s) : wpAny M A t Q E s := e ▸ h
theorem mro_module {w : World} : mroIn (hd.heap_39 w.params) 307 (.type "module") = some false := by k_is
section
variable {prog : Program} {w : World} {A : Around} {E : Value → Shared → Prop} {s : Shared} {h₀ : Heap} {L x dx : Addr} {m : Str → Option Value} {t : Tok} {c : Str} {es : List DictEntry} {n : Nat}
theorem hasattr_open {Q : Value → Shared → Prop} (X : (hd.heap_39 w.params).In s.heap) (I : InstAt s.heap x (instO dx) 307 (some (dictOf es n)))
    (h : wpAny (model prog w) A.in1 (getAttrBy (.ref x) (.str c t) false) (fun _ s' => Q (.bool true) s') (fun e s' => wpAny (model prog w) A.in1 (isInstance e (.type "AttributeError")) (fun b s'' => b = true ∧ Q (.bool false) s'') E s') s) :
    wpAny (model prog w) A (call (.builtin "hasattr") [.ref x, .str c t]) Q E s := by
  refine Calls.call_function_entry kind_hasattr plain_hasattr entry_hasattr (args_hasattr _ _) ?_
  unfold Builtin.«hasattr»
  refine wpAny_bind (wpAny_of_eq (a := [.ref x, .str c t]) (by first | rfl | kernel_rfl) ?_)
  dsimp only
  refine wpAny_bind (wpAny_of_eq (a := ()) (by first | rfl | kernel_rfl) ?_)
  have L0 := I.type (M := model prog w)
  have LM := looks_mroIn (M := model prog w) X mro_module
  refine wpAny_of_eq_tree (if_neg (by intro h; cases h)) ?_
  refine wpAny_bind (L0.here ?_)
  dsimp only
  refine wpAny_bind ?_
  obtain ⟨hh, g, d, tk, os⟩ := s
  intro Γ p hΓ
  refine Exists.intro _ (And.intro I.1 ?_)
  change Sem.wp _ _ (Sem.bind _ _) _ _ _ _
  rw [Sem.wp_bind]
  refine (show Sem.wp _ _ (isSubtype (.ref 307) (.type "module")) _ _ _ _ from ?_)
  refine Sem.wp_mono _ _ _ ?_ ?_ _ _ (LM _ (fun b s' => b = false ∧ s' = _) (fun _ _ => False) _ (fun _ _ e => e) ⟨rfl, rfl⟩ Γ p hΓ)
  · rintro b p' s' ⟨rfl, rfl⟩
    change wpAny (model prog w) A.in1 (getAttrBy? (.ref x) (.str c t) >>= _) _ _ _
    refine wpAny_bind ?_
    unfold getAttrBy?
    refine wpAny_bind (wpAny_attempt ?_)
    refine wpAny_mono h (fun v s' q => ?_) (fun e s' q => ?_)
    · exact wpAny_pure (wpAny_pure ⟨_, rfl, q⟩)
    · refine wpAny_bind (wpAny_mono q (fun b s'' r => ?_) fun _ _ z => z)
      obtain ⟨rfl, r⟩ := r
      exact wpAny_pure (wpAny_pure ⟨_, rfl, r⟩)
  · intro _ _ _ h; exact h.elim
theorem gab_open {Q : Value → Shared → Prop} (X : (hd.heap_39 w.params).In s.heap) (I : InstAt s.heap x (instO dx) 307 (some (dictOf es n)))
    (hga : findIn (hd.heap_39 w.params) (.ref 307) "__getattribute__" = some (some (.builtin "object.__getattribute__")))
    (h : wpAny (model prog w) A.in1 (Builtin.«proto.getattr_hooked» ⟨[.ref x, .str c t], []⟩)
      (fun fin s' => match fin with | .done (.ret v) => wpAny (model prog w) A (handedOut v) Q E s' | _ => False) (fun e s' => E e s') s) :
    wpAny (model prog w) A (getAttrBy (.ref x) (.str c t) false) Q E s := by
  obtain ⟨hh, g, d, tk, os⟩ := s
  have L0 := I.type (M := model prog w)
  have L1 := looks_findIn (M := model prog w) X hga
  unfold getAttrBy
  refine wpAny_holding (wpAny_bind (L0.at (wpAny_bind (L1.at ?_))))
  show wpAny _ _ (getAttrEveryday _ _ _) _ _ _
  refine wpAny_bind (wpAny_onRaise (wpAny_runValue (codeAny_builtin F.plainObj_entry_getattr_hooked (wpAny_mono h (fun fin s' z => ?_) fun _ _ z => wpAny_pure z))))
  rcases fin with (_ | _ | _ | _) | _ <;> first | exact z | exact z.elim
theorem gab_value {v : Value} {Q : Value → Shared → Prop} (X : (hd.heap_39 w.params).In s.heap) (I : InstAt s.heap x (instO dx) 307 (some (dictOf es n)))
    (hga : findIn (hd.heap_39 w.params) (.ref 307) "__getattribute__" = some (some (.builtin "object.__getattribute__")))
    (hf : findObj (hd.heap_39 w.params) 307 (some (dictOf es n)) c = some (.value v)) (hh : handedIn v = true) (h : Q v s) : wpAny (model prog w) A (getAttrBy (.ref x) (.str c t) false) Q E s := by
  refine gab_open X I hga ?_
  obtain ⟨hh', g, d, tk, os⟩ := s
  have L0 := I.type (M := model prog w)
  have L1 := looks_find (M := model prog w) X I hf
  refine wpAny_bind (wpAny_pure (wpAny_bind (L0.at (wpAny_bind (L1.at ?_)))))
  refine wpAny_pure ?_
  show wpAny _ _ (handedOut v) _ _ _
  rw [handedOut_of hh]; exact wpAny_pure h
theorem gab_miss {Q : Value → Shared → Prop} (hA : A.handled = none) (X : (hd.heap_39 w.params).In s.heap) (I : InstAt s.heap x (instO dx) 307 (some (dictOf es n)))
    (hga : findIn (hd.heap_39 w.params) (.ref 307) "__getattribute__" = some (some (.builtin "object.__getattribute__"))) (hk : findIn (hd.heap_39 w.params) (.ref 307) "__getattr__" = some none)
    (hf : findObj (hd.heap_39 w.params) 307 (some (dictOf es n)) c = some .missing) (hc : c.length ≤ 100) (h : ∀ h' tk e, Heap.NewAttrErr s.heap h' e (.ref x) c → E (.ref e) { s with heap := h', toks := tk }) : wpAny (model prog w) A (getAttrBy (.ref x) (.str c t) false) Q E s := by
  refine gab_open X I hga ?_
  obtain ⟨hh', g, d, tk, os⟩ := s
  have L0 := I.type (M := model prog w)
  have L1 := looks_find (M := model prog w) X I hf
  have L2 := looks_findIn (M := model prog w) X hk
  refine wpAny_bind (wpAny_pure (wpAny_bind (L0.at (wpAny_bind (L1.at (wpAny_bind (L2.at ?_)))))))
  show wpAny _ _ (noSuchAttribute (.ref x) c) _ _ _
  unfold noSuchAttribute typeNameOfCut shownTypeOf
  refine wpAny_bind (wpAny_bind (wpAny_bind (L0.at ?_)))
  refine wpAny_pure ?_
  obtain ⟨cd, hcd, hnm⟩ := cls_name (w := w)
  have L3 := looks_clsIn (M := model prog w) X hcd
  unfold typeNameCut
  refine wpAny_bind (L3.at ?_)
  dsimp only
  rw [hnm]
  refine wpAny_of_eq_tree (if_pos (by decide +kernel)) ?_
  refine wpAny_pure ?_
  refine wpAny_raiseAttrError hA (fun h' tk e H => h h' tk e H) (attrMsg_fits (by decide +kernel) ?_)
  rw [sizeLine_eq]; omega
theorem isI_attr {Q : Bool → Shared → Prop} {h h' : Heap} {e : Addr} {g d tk os} (H : Heap.NewAttrErr h h' e (.ref x) c) (q : Q true ⟨h', g, d, tk, os⟩) : wpAny (model prog w) A (isInstance (.ref e) (.type "AttributeError")) Q E ⟨h', g, d, tk, os⟩ := by
  obtain ⟨t, u, he⟩ := H.there
  exact wpAny_isInstance (T := "AttributeError") (b := true) ⟨_, he, rfl⟩ sub_AttributeError q
theorem Fr.keeps {h₀ h h' : Heap} {L : Addr} {m : Str → Option Value} (F : Fr h₀ L h m) (k : ∀ b o, h.get? b = some o → h'.get? b = some o) : Fr h₀ L h' m :=
  ⟨F.ns.at' fun o e => k _ o e, fun b o e => k b o (F.keep b o e), F.above⟩
theorem News.keeps {h₀ h h' : Heap} {L : Addr} {l : Led} (N : News h₀ L h l) (k : ∀ b o, h.get? b = some o → h'.get? b = some o) : News h₀ L h' l := fun p hp => ⟨k _ _ (N p hp).1, (N p hp).2⟩
theorem hasattr_K {Q : Value → Shared → Prop} {r : Rw} {v : Option Value} {news : Led} {es : List DictEntry} (hA : A.handled = none) (F : Fr h₀ L s.heap m) (X₀ : (hd.heap_39 w.params).In h₀) (N : News h₀ L s.heap news)
    (I : InstAt s.heap x (instO dx) 307 (some (dictOf es n))) (hr : r ∈ rows) (hl : getL r.cm es = some v) (hv : ∀ a, v = some a → handedIn a = true)
    (h : ∀ h' tk, Fr h₀ L h' m → News h₀ L h' news → Q (.bool v.isSome) { s with heap := h', toks := tk }) : wpAny (model prog w) A (call (.builtin "hasattr") [.ref x, .str r.cm t]) Q E s := by
  have X := X₀.keeps F.keep
  have pg := plainGet_of (plain_cm (w := w) r hr)
  have hdi : hasDictIn (hd.heap_39 w.params) 307 = true := by k_is
  have hf := find_cm (w := w) r hr
  refine hasattr_open X I ?_
  cases v with
  | some a =>
    refine gab_value X I pg.1 (findObj_own hdi hf rfl (by show lookIn r.cm (dictOf es n) = _; rw [lookIn_dict, hl])) (hv a rfl) (h _ _ F N)
  | none =>
    have hlen : r.cm.length ≤ 100 := Nat.le_trans (rows_len r hr).2 (by decide)
    refine gab_miss hA X I pg.1 pg.2 (findObj_none hdi hf (by show lookIn r.cm (dictOf es n) = _; rw [lookIn_dict, hl]) ?_) hlen ?_
    · exact (by decide +kernel : ∀ r ∈ rows, copiedNames.contains r.cm = false) r hr
    · intro h' tk e H
      exact isI_attr H ⟨rfl, h h' tk (Fr.keeps F H.keeps) (News.keeps N H.keeps)⟩
theorem getattr_K {Q : Value → Shared → Prop} {r : Rw} {a : Value} (F : Fr h₀ L s.heap m) (X₀ : (hd.heap_39 w.params).In h₀)
    (I : InstAt s.heap x (instO dx) 307 (some (dictOf es n))) (hr : r ∈ rows) (hl : getL r.cm es = some (some a)) (hv : handedIn a = true) (h : Q a s) : wpAny (model prog w) A (call (.builtin "getattr") [.ref x, .str r.cm t]) Q E s :=
  kbm_getattr2 (kbm_ownBy F X₀ I (plain_cm r hr) (by k_is) (find_cm r hr) rfl hl hv h)
end
end
/-- a dict's entries when a name is set -/
theorem find_putL {name nm : Str} {hsh : Int} {t : Tok} {v : Value} : ∀ es : List DictEntry,
    ((putL name hsh (.str name t) v es).find? (·.key.isStr nm)).map (·.val) = if nm = name then some v else (es.find? (·.key.isStr nm)).map (·.val)
  | [] => by
    unfold putL
    by_cases h : nm = name
    · subst h; simp [Value.isStr]
    · have h' : (name == nm) = false := by simpa using fun e => h e.symm
      simp [Value.isStr, h, h']
  | e :: r => by
    have ih := find_putL (name := name) (nm := nm) (hsh := hsh) (t := t) (v := v) r
    unfold putL
    cases h1 : e.key.isStr name with
    | true =>
      rw [if_pos rfl]
      by_cases h : nm = name
      · subst h; simp [h1]
      · have h2 : e.key.isStr nm = false := by
          rw [isStr_of] at h1 ⊢
          obtain ⟨u, hk⟩ := Value.isStrOf_shape h1
          rw [hk]
          simpa [Value.isStrOf] using fun e => h e.symm
        simp [h2, h]
    | false =>
      rw [if_neg (by decide)]
      cases h2 : e.key.isStr nm with
      | true =>
        have h : nm ≠ name := fun q => by rw [q, h1] at h2; cases h2
        simp [h2, h]
      | false =>
        rw [List.find?_cons_of_neg (by simp [h2]), List.find?_cons_of_neg (by simp [h2])]
        exact ih
theorem noref_putL {name : Str} {hsh : Int} {t : Tok} {v : Value} : ∀ es : List DictEntry, es.any (·.refKey) = false → (putL name hsh (.str name t) v es).any (·.refKey) = false
  | [], _ => rfl
  | e :: r, h => by
    rw [List.any_cons, Bool.or_eq_false_iff] at h
    unfold putL
    split
    · rw [List.any_cons, Bool.or_eq_false_iff]; exact ⟨h.1, h.2⟩
    · rw [List.any_cons, Bool.or_eq_false_iff]; exact ⟨h.1, noref_putL r h.2⟩
theorem len_putL {name : Str} {hsh : Int} {k v : Value} : ∀ es : List DictEntry, (putL name hsh k v es).length ≤ es.length + 1
  | [] => Nat.le_refl _
  | e :: r => by
    unfold putL
    split
    · simp
    · have := len_putL (name := name) (hsh := hsh) (k := k) (v := v) r
      simp only [List.length_cons]; omega
def updA (av : Str → Option Value) (c : Str) (v : Value) : Str → Option Value := fun z => if z = c then some v else av z
theorem Told.put {es : List DictEntry} {pk v : Value} {av : Str → Option Value} {r : Rw} {hsh : Int} {t : Tok} (T : Told es pk av) (hr : r ∈ rows) (hv : handedIn v = true) : Told (putL r.cm hsh (.str r.cm t) v es) pk (updA av r.cm v) where
  noref := noref_putL es T.noref
  find nm := by
    rw [find_putL, T.find]
    unfold updA
    by_cases h : nm = r.cm
    · rw [if_pos h, if_pos h, if_neg]
      rw [h]
      exact (by decide +kernel : ∀ r ∈ rows, r.cm ≠ Str.ofString "packetType") r hr
    · rw [if_neg h, if_neg h]
  out nm h := by
    have h' : nm ≠ r.cm := fun e => by
      have := List.all_eq_true.mp h r hr
      rw [e] at this
      simp at this
    unfold updA
    rw [if_neg h', T.out nm h]
  hand nm a h := by
    unfold updA at h
    split at h
    · cases h; exact hv
    · exact T.hand nm a h
theorem x_ne_dx {h₀ h : Heap} {L x dx : Addr} {news : Led} {es : List DictEntry} {n : Nat} (N : News h₀ L h news) (hx : (x, instO dx) ∈ news) (hdx : (dx, dictOf es n) ∈ news) : x ≠ dx := by
  intro e
  have h1 := (N _ hx).1
  have h2 := (N _ hdx).1
  dsimp only at h1 h2
  rw [e, h2] at h1
  cases h1
section
variable {prog : Program} {w : World} {A : Around} {E : Value → Shared → Prop} {s : Shared} {h₀ : Heap} {L x dx : Addr} {m : Str → Option Value} {es : List DictEntry} {n : Nat}
theorem set_R {Q : Unit → Shared → Prop} {r : Rw} {v pk : Value} {av : Str → Option Value} {news : Led} (F : Fr h₀ L s.heap m) (X₀ : (hd.heap_39 w.params).In h₀) (N : News h₀ L s.heap news)
    (hx : (x, instO dx) ∈ news) (hdx : (dx, dictOf es n) ∈ news) (T : Told es pk av) (hr : r ∈ rows) (hv : handedIn v = true) (hz : es.length ≤ 900)
    (h : ∀ h' es' n', Told es' pk (updA av r.cm v) → es'.length ≤ es.length + 1 → Fr h₀ L h' m → News h₀ L h' ((x, instO dx) :: (dx, dictOf es' n') :: news.filter (·.1 != dx)) → Q () { s with heap := h', toks := s.toks + 2 }) :
    wpAny (model prog w) A (setAttr (.ref x) r.cm v) Q E s := by
  have hne := x_ne_dx N hx hdx
  have N' : News h₀ L s.heap ((dx, dictOf es n) :: news.filter (·.1 != dx)) := fun p hp => by
    rcases List.mem_cons.mp hp with rfl | hp
    · exact N _ hdx
    · exact N _ (List.mem_filter.mp hp).1
  refine set_dict (es' := putL r.cm (PyData.keyHash w.params r.cm) (.str r.cm (s.toks + 1)) v es) (n' := putN r.cm es n) F X₀ N' (InstAt.of_news N hx hdx) rfl (by k_is) (by k_is) (taker_cm r hr) (by k_is) (by rw [T.attr r hr]; rfl) rfl (Upd.head fun p hp => ?_) (Nat.le_trans (len_putL es) (by omega)) fun h' F' N'' => h h' (putL r.cm (PyData.keyHash w.params r.cm) (.str r.cm (s.toks + 1)) v es) (putN r.cm es n) (T.put hr hv) (len_putL es) F' fun p hp => ?_
  · have := (List.mem_filter.mp hp).2
    simpa using this
  · rcases List.mem_cons.mp hp with rfl | hp
    · exact N'' _ (.tail _ (List.mem_filter.mpr ⟨hx, by simpa using hne⟩))
    · exact N'' _ hp
end
local macro_rules | `(tactic| walk_at "call builtin:hasattr") => `(tactic| (k_dflt ((refine wpAny_with_toks (n := 1) (by walk_at "tok_pos") ?_); refine' hasattr_K ?hA ?k1 ?k2 ?N ?k3 ?hr ?hl ?hv ?_; (case hA => rfl); (case k1 => k_asm); (case k2 => k_asm); (case N => k_asm); (case k3 => exact InstAt.of_news (by k_asm) (by k_mem) (by k_mem)); (case hr => assumption); (case hl => exact Told.attr (by assumption) _ (by assumption)); (case hv => exact Told.hand (by assumption) _); k_whole; intro h' tk' F' N' htk'; (try dsimp only at htk'); (try dsimp only); (try k_sweep))))
theorem cut_two : ∀ r ∈ rows, Txt.slice r.cm none (some 2) ≠ Str.ofString "__" := by decide +kernel
section
variable {p : Program} {loose : List Str} {w : World} {mean : ExcName → Option Value} {mg mb : Str → Option Value} {dp un : Nat} {gd : Option (List Code)} {cn : Str} {cs : Scope} {a : Addr} {ccd : Value} {cl : List (Str × Addr)} {outer : List Env} {A₀ : Around} {base h₀ : Heap} {L : Addr} {m : Str → Option Value} {s : Shared} {Q E : Value → Shared → Prop} {news : Led}
variable (B : Below A₀ base outer h₀) (F : Fr h₀ L s.heap m) (X : (hd.heap_39 w.params).In h₀) (N : News h₀ L s.heap news) (T : Top p loose mean mg mb h₀) (hk : cs.kind = .function)
include B F X N T hk
theorem c_pe {r : Rw} {t : Tok} (hr : r ∈ rows) (hd : dp + 1 < recursionLimit) (hu : un + 20 < cLine)
    (hret : ∀ (t : Tok) (h' : Heap) (tk' : Nat), Fr h₀ L h' m → News h₀ L h' news → Q (.str r.cm t) { s with heap := h', toks := tk' }) :
    Cl w dp un gd cn cs L a ccd cl outer 28 [.str r.cm t] Q E s := by
  have hl9 : r.cm.length ≤ 40 := (rows_len r hr).2
  refine wpAny_call ?_
  k_dflt cell_enter
  k_steps
  · exfalso
    rename (_ == _) = true => h9
    exact cut_two r hr (eq_of_beq h9)
  · exact hret _ _ _ (by k_asm) (by k_asm)
end
local macro_rules | `(tactic| walk_at "call ref") => `(tactic| (k_dflt ((refine wpAny_with_toks (n := 1) (by walk_at "tok_pos") ?_); refine' c_pe (B := ?B) (F := ?F) (X := ?X) (N := ?N) (T := ?T) (hk := ?hk) (hd := ?hd) (hu := ?hu) (hr := ?hr) (hret := ?_); (case B => k_asm); (case F => k_asm); (case X => k_asm); (case N => k_asm); (case T => k_asm); (case hk => first | exact rfl | assumption); (case hd => ktr_room); (case hu => ktr_units); (case hr => assumption); k_whole; intro t' h' tk' F' N'; intro htk'; (try dsimp only at htk'); (try dsimp only); (try k_sweep))))
section
variable {p : Program} {loose : List Str} {w : World} {mean : ExcName → Option Value} {mg mb : Str → Option Value} {dp un : Nat} {gd : Option (List Code)} {cn : Str} {cs : Scope} {a : Addr} {ccd : Value} {cl : List (Str × Addr)} {outer : List Env} {A₀ : Around} {base h₀ : Heap} {L : Addr} {m : Str → Option Value} {s : Shared} {Q E : Value → Shared → Prop} {news : Led}
  {x dx : Addr} {es : List DictEntry} {n : Nat} {pk : Value} {av : Str → Option Value}
variable (B : Below A₀ base outer h₀) (F : Fr h₀ L s.heap m) (X : (hd.heap_39 w.params).In h₀) (N : News h₀ L s.heap news) (T : Top p loose mean mg mb h₀) (hk : cs.kind = .function) (hx : (x, instO dx) ∈ news) (hdx : (dx, dictOf es n) ∈ news) (hT : Told es pk av)
include B F X N T hk hx hdx hT
theorem c_isEmpty (hd : dp + 2 < recursionLimit) (hu : un + 40 < cLine)
    (hret : ∀ (h' : Heap) (tk' : Nat), Fr h₀ L h' m → News h₀ L h' news → Q (.bool (rows.all fun r => (av r.cm).isNone)) { s with heap := h', toks := tk' }) :
    Cl w dp un gd cn cs L a ccd cl outer 269 [.ref x] Q E s := by
  replace N := two N hx hdx
  clear hx hdx
  refine wpAny_call ?_
  k_dflt cell_enter
  k_steps
  walk_at "for"
  k_steps
  unfold Hold
  rename Fr _ _ _ _ => lF
  rename News _ _ _ _ => lN
  rename Frag.In _ _ => lX
  refine for_dict (fun i m₁ nx => nx = [] ∧ (∀ b ∈ rows.take i, av b.cm = none) ∧ Has ["name", "compressedName", "rc"] _ [("rc", .bool true)] m₁) rfl (names_at lX) (by decide) lF lN ⟨rfl, fun _ h => (nomatch h), Has.refl (by kst_all1)⟩ ?_ ?_
  · rintro i k v t m₁ nx own h tk htk hkv ⟨rfl, hv, hm⟩ - - hsub F1 N1
    obtain ⟨r', hr', hm', rfl, rfl⟩ := kvN_at hkv
    obtain ⟨u, rfl⟩ := hm.out
    have hx := hsub _ (.head _)
    have hdx := hsub _ (.tail _ (.head _))
    k_steps
    · rename (av r'.cm).isSome = true => e9
      dsimp only
      refine TurnEnd.brk ?_
      k_steps
      refine bool_to (hret _ _ (by k_asm) (sub_led (by assumption) fun p h => hsub p (.tail _ (.tail _ h)))) ?_
      refine (Bool.eq_false_iff.mpr fun q => ?_).symm
      have h9 := List.all_eq_true.mp q r' hm'
      cases h8 : av r'.cm with
      | none => rw [h8] at e9; cases e9
      | some _ => rw [h8] at h9; cases h9
    · rename (av r'.cm).isSome = false => e9
      exact TurnEnd.next [] (by k_asm) (by k_asm) (fun _ h => nomatch h) ⟨rfl, take_next hr' hv (by simpa using e9), by walk_at "has"⟩
  · rintro m₁ nx h tk htk ⟨rfl, hv, hm⟩ F1 N1
    obtain ⟨u, rfl⟩ := hm.out
    k_steps
    refine bool_to (hret _ _ (by k_asm) (sub_led (by assumption) fun _ h => .tail _ (.tail _ h))) ?_
    refine (List.all_eq_true.mpr fun r hr => ?_).symm
    rw [show kvN.length = rows.length from rfl, List.take_length] at hv
    rw [hv r hr]; rfl
end
local macro_rules | `(tactic| walk_at "call ref") => `(tactic| (k_dflt (refine' c_isEmpty (B := ?B) (F := ?F) (X := ?X) (N := ?N) (T := ?T) (hk := ?hk) (hd := ?hd) (hu := ?hu) (hx := ?hx) (hdx := ?hdx) (hT := ?hT) (hret := ?_); (case B => k_asm); (case F => k_asm); (case X => k_asm); (case N => k_asm); (case T => k_asm); (case hk => first | exact rfl | assumption); (case hd => ktr_room); (case hu => ktr_units); (case hx => k_mem); (case hdx => k_mem); (case hT => assumption); k_whole; intro h' tk' F' N'; (try dsimp only); (try k_sweep))))
section
variable {prog : Program} {w : World} {A : Around} {E : Value → Shared → Prop} {s : Shared} {env : Env} {h₀ : Heap} {elt iter : Expr} {x : Str} {px : Pos} {ifs : List Expr} {scope : Scope} {cl : List (Str × Addr)} {pos : Pos} {Q : Value → Shared → Prop}
/-- what a list comprehension over an iterator owes -/
def CompT (prog : Program) (w : World) (A : Around) (env : Env) (elt : Expr) (x : Str) (ifs : List Expr) (scope : Scope) (cl : List (Str × Addr)) (p : Value → Bool) (G : Value → Value → Prop) (Q : Value → Shared → Prop) (it : Value) (s₂ : Shared) : Prop :=
  ∃ I fp wr n P St, it = .ref I ∧ Walks prog w A I fp wr n P St ∧ n ≤ sizeLine ∧ St 0 s₂.heap ∧ (∀ b ∈ fp, b < s₂.heap.objs.size) ∧ QuietOnC prog w A env scope cl x ifs elt wr P p G s₂ ∧
    (∀ D h' tk ys (vs : List Value), s₂.heap.get? D = none → h'.IsList D ys → h'.PlainList D ys → vs.length = n → (∀ j v, vs[j]? = some v → P j v) → Paired G (vs.filter p) ys.toList →
        (∀ b o, b ∉ wr → s₂.heap.get? b = some o → h'.get? b = some o) → Q (.ref D) { s₂ with heap := h', toks := tk })
theorem comp_T (p : Value → Bool) (G : Value → Value → Prop) (hclos : closureFor scope env = pure cl) (hcell : ∀ y ∈ scope.names, y.2 ≠ .cell) (hkind : scope.kind = .function)
    (hnames : ∀ y ∈ scope.names, y.2 = .local → scope.names.lookup y.1 = some .local) (hx : scope.names.lookup x = some .local)
    (h : wpAny (model prog w) A (eval iter env) (fun xv s₁ => wpAny (model prog w) A (pyIter xv) (fun it s₂ => CompT prog w A env elt x ifs scope cl p G Q it s₂) E s₁) E s)
    (hs : ∀ x, foldedSetIterable iter env x = pure x := by intro _; rfl) :
    wpAny (model prog w) A (eval (.ListComp elt [⟨.Name x px, iter, ifs, 0⟩] scope pos) env) Q E s := wpAny_ListComp_free p G hclos hcell hkind hnames hx h hs
theorem compJ {o : Obj} {fp : List Addr} {n : Nat} {P : Nat → Value → Prop} {St : Nat → Heap → Prop} {m : Str → Option Value} {L : Addr} {news : Led} {p : Value → Bool} {G : Value → Value → Prop}
    (W : Walks prog w A s.heap.objs.size (s.heap.objs.size :: fp) [s.heap.objs.size] n P St) (hfp : ∀ b ∈ fp, b < s.heap.objs.size) (hst : St 0 (s.heap.push o)) (hn : n ≤ sizeLine)
    (F : Fr h₀ L s.heap m) (N : News h₀ L s.heap news)
    (tests : ∀ C i v s₃ (m₃ : Str → Option Value) E', s.toks ≤ s₃.toks → P i v → Fr h₀ C s₃.heap (fun y => if y = x then some v else m₃ y) → News h₀ C s₃.heap news →
      wpAny (model prog w) A (forIn ifs true fun c r => if r = true then do let ok ← isTrue c (compEnvC scope cl C env) (eval c (compEnvC scope cl C env)); pure (ForInStep.yield ok) else pure (ForInStep.yield r))
        (fun ok s₄ => Hold (ok = p v ∧ Keeps s₃ s₄)) E' s₃)
    (elts : ∀ C i v s₃ (m₃ : Str → Option Value) E', s.toks ≤ s₃.toks → P i v → p v = true → Fr h₀ C s₃.heap (fun y => if y = x then some v else m₃ y) → News h₀ C s₃.heap news →
      wpAny (model prog w) A (eval elt (compEnvC scope cl C env)) (fun y s₄ => Hold (G v y ∧ Keeps s₃ s₄)) E' s₃)
    (done : ∀ D h' tk ys n' (vs : List Value), vs.length = n → (∀ (j : Nat) (v : Value), vs[j]? = some v → P j v) → Paired G (vs.filter p) ys → Fr h₀ L h' m → News h₀ L h' ((D, listOf ys.toArray n') :: news) → (∀ p ∈ news, p.1 ≠ D) → Q (.ref D) { s with heap := h', toks := tk }) :
    CompT prog w A env elt x ifs scope cl p G Q (.ref s.heap.objs.size) { s with heap := s.heap.push o } := by
  have hmap : ∀ (m₃ : Str → Option Value) v, m₃ x = some v → m₃ = fun y => if y = x then some v else m₃ y := fun m₃ v h => funext fun y => by
    by_cases hy : y = x
    · rw [if_pos hy, hy, h]
    · rw [if_neg hy]
  have hfr : ∀ C (s₃ : Shared) m₃, (s.heap.push o).objs.size ≤ C → s₃.heap.Ns C m₃ → (∀ b o', b ∉ [s.heap.objs.size] → (s.heap.push o).get? b = some o' → s₃.heap.get? b = some o') → Fr h₀ C s₃.heap m₃ ∧ News h₀ C s₃.heap news := by
    intro C s₃ m₃ hC hns hk
    rw [Heap.size_push] at hC
    have hk' : ∀ b o', s.heap.get? b = some o' → s₃.heap.get? b = some o' := fun b o' e =>
      hk b o' (fun hb => absurd (Heap.lt_size e) ((List.mem_singleton.mp hb) ▸ Nat.lt_irrefl _)) (Heap.get?_push_of_some _ e)
    refine ⟨⟨hns, fun b o' e => hk' b o' (F.keep b o' e), ?_⟩, fun q hq => ⟨hk' _ _ (N q hq).1, ?_, (N q hq).2.2⟩⟩
    · exact Nat.le_trans F.above (Nat.le_of_lt (Nat.lt_of_lt_of_le F.ns.lt (Nat.le_of_succ_le hC)))
    · have h1 := Heap.lt_size (N q hq).1
      exact Nat.ne_of_lt (Nat.lt_of_lt_of_le h1 (Nat.le_of_succ_le hC))
  refine ⟨_, _, _, n, P, St, rfl, W, hn, hst, fun b hb => ?_, ⟨fun C i v s₃ m₃ E' hC hP hns hm hk ht => ?_, fun C i v s₃ m₃ E' hC hP hp hns hm hk ht => ?_⟩, fun D h' tk ys vs hD _ hpl hlen hP hF hk => ?_⟩
  · rw [Heap.size_push]
    rcases List.mem_cons.mp hb with rfl | hb
    · exact Nat.lt_succ_self _
    · exact Nat.lt_succ_of_lt (hfp b hb)
  · obtain ⟨F', N'⟩ := hfr C s₃ m₃ hC hns hk
    exact tests C i v s₃ m₃ E' ht hP (hmap m₃ v hm ▸ F') N'
  · obtain ⟨F', N'⟩ := hfr C s₃ m₃ hC hns hk
    exact elts C i v s₃ m₃ E' ht hP hp (hmap m₃ v hm ▸ F') N'
  · have hk' : ∀ b o', s.heap.get? b = some o' → h'.get? b = some o' := fun b o' e =>
      hk b o' (fun hb => absurd (Heap.lt_size e) ((List.mem_singleton.mp hb) ▸ Nat.lt_irrefl _)) (Heap.get?_push_of_some _ e)
    have hnone : s.heap.get? D = none := by
      cases e : s.heap.get? D with
      | none => rfl
      | some o' => rw [Heap.get?_push_of_some _ e] at hD; cases hD
    obtain ⟨n', hpl⟩ := hpl
    have e : listOf ys.toList.toArray n' = listOf ys n' := by simp
    refine done D h' tk ys.toList n' vs hlen hP hF ⟨F.ns.at' fun o e => hk' _ o e, fun b o e => hk' b o (F.keep b o e), F.above⟩ (fun q hq => ?_) fun q hq e => by rw [← e, (N q hq).1] at hnone; cases hnone
    rcases List.mem_cons.mp hq with rfl | hq
    · refine ⟨by rw [e]; exact hpl, ?_, ?_⟩
      · intro q
        obtain ⟨o, _, _, ho, _⟩ := F.ns
        rw [← show D = L from q, hnone] at ho
        cases ho
      · cases e : h₀.get? D with
        | none => rfl
        | some o' => rw [F.keep _ _ e] at hnone; cases hnone
    · exact ⟨hk' _ _ (N q hq).1, (N q hq).2⟩
/-- over a list of the ledger -/
theorem comp_list {l : Addr} {vs : List Value} {nn : Nat} {m : Str → Option Value} {L : Addr} {news : Led} {p : Value → Bool} {G : Value → Value → Prop} (hh : A.handled = none) (hl : (l, listOf vs.toArray nn) ∈ news) (hn : vs.length ≤ sizeLine)
    (F : Fr h₀ L s.heap m) (N : News h₀ L s.heap news)
    (tests : ∀ C v s₃ (m₃ : Str → Option Value) E', s.toks ≤ s₃.toks → v ∈ vs → Fr h₀ C s₃.heap (fun y => if y = x then some v else m₃ y) → News h₀ C s₃.heap news →
      wpAny (model prog w) A (forIn ifs true fun c r => if r = true then do let ok ← isTrue c (compEnvC scope cl C env) (eval c (compEnvC scope cl C env)); pure (ForInStep.yield ok) else pure (ForInStep.yield r))
        (fun ok s₄ => Hold (ok = p v ∧ Keeps s₃ s₄)) E' s₃)
    (elts : ∀ C v s₃ (m₃ : Str → Option Value) E', s.toks ≤ s₃.toks → v ∈ vs → p v = true → Fr h₀ C s₃.heap (fun y => if y = x then some v else m₃ y) → News h₀ C s₃.heap news →
      wpAny (model prog w) A (eval elt (compEnvC scope cl C env)) (fun y s₄ => Hold (G v y ∧ Keeps s₃ s₄)) E' s₃)
    (done : ∀ D h' tk ys n', Paired G (vs.filter p) ys → Fr h₀ L h' m → News h₀ L h' ((D, listOf ys.toArray n') :: news) → (∀ p ∈ news, p.1 ≠ D) → Q (.ref D) { s with heap := h', toks := tk }) :
    wpAny (model prog w) A (pyIter (.ref l)) (fun it s₂ => CompT prog w A env elt x ifs scope cl p G Q it s₂) E s := by
  have hls : s.heap.IsList l vs.toArray := News.isList N hl
  have hlt : l < s.heap.objs.size := Heap.lt_size (N _ hl).1
  refine wpAny_pyIter_list hls ?_
  have W := Walks.list (prog := prog) (w := w) hh s.heap.objs.size l (Nat.ne_of_lt hlt) vs.toArray
  refine compJ (fp := [l]) (St := fun i h => h.IsListIter s.heap.objs.size l i ∧ h.IsList l vs.toArray) W (fun b hb => by rw [List.mem_singleton.mp hb]; exact hlt) ⟨⟨_, Heap.get?_push_size _ rfl, rfl, rfl⟩, hls.push _⟩ (by simpa using hn) F N
    (fun C i v s₃ m₃ E' ht hP => tests C v s₃ m₃ E' ht (List.mem_of_getElem? (by simpa using hP))) (fun C i v s₃ m₃ E' ht hP => elts C v s₃ m₃ E' ht (List.mem_of_getElem? (by simpa using hP))) fun D h' tk ys n' vs' hlen hP hF => ?_
  have e : vs' = vs := by
    refine List.ext_getElem? fun j => ?_
    by_cases hj : j < vs'.length
    · have h1 := hP j vs'[j] (List.getElem?_eq_getElem hj)
      rw [List.getElem?_eq_getElem hj]
      simpa using h1.symm
    · have h2 : vs.toArray.size = vs.length := by simp
      rw [List.getElem?_eq_none (by omega), List.getElem?_eq_none (by omega)]
  rw [e] at hF
  exact done D h' tk ys n' hF
/-- over a dict that stands under the frame -/
theorem comp_dict {d : Addr} {kvs : List (Str × Value)} {ep : Nat} {m : Str → Option Value} {L : Addr} {news : Led} {p : Value → Bool} {G : Value → Value → Prop} (hh : A.handled = none) (hd : h₀.DictAt (strKind prog w) d kvs ep) (lo : (d == sysModules) = false) (hn : kvs.length ≤ sizeLine)
    (F : Fr h₀ L s.heap m) (N : News h₀ L s.heap news)
    (tests : ∀ C (i : Nat) (k : Str) (v : Value) t s₃ (m₃ : Str → Option Value) E', s.toks ≤ s₃.toks → kvs[i]? = some (k, v) → Fr h₀ C s₃.heap (fun y => if y = x then some (.str k t) else m₃ y) → News h₀ C s₃.heap news →
      wpAny (model prog w) A (forIn ifs true fun c r => if r = true then do let ok ← isTrue c (compEnvC scope cl C env) (eval c (compEnvC scope cl C env)); pure (ForInStep.yield ok) else pure (ForInStep.yield r))
        (fun ok s₄ => Hold (ok = p (.str k t) ∧ Keeps s₃ s₄)) E' s₃)
    (elts : ∀ C (i : Nat) (k : Str) (v : Value) t s₃ (m₃ : Str → Option Value) E', s.toks ≤ s₃.toks → kvs[i]? = some (k, v) → p (.str k t) = true → Fr h₀ C s₃.heap (fun y => if y = x then some (.str k t) else m₃ y) → News h₀ C s₃.heap news →
      wpAny (model prog w) A (eval elt (compEnvC scope cl C env)) (fun y s₄ => Hold (G (.str k t) y ∧ Keeps s₃ s₄)) E' s₃)
    (done : ∀ D h' tk ys n' (vs : List Value), vs.length = kvs.length → (∀ (j : Nat) (v : Value), vs[j]? = some v → ∃ k v' t, kvs[j]? = some (k, v') ∧ v = Value.str k t) → Paired G (vs.filter p) ys → Fr h₀ L h' m → News h₀ L h' ((D, listOf ys.toArray n') :: news) → (∀ p ∈ news, p.1 ≠ D) → Q (.ref D) { s with heap := h', toks := tk }) :
    wpAny (model prog w) A (pyIter (.ref d)) (fun it s₂ => CompT prog w A env elt x ifs scope cl p G Q it s₂) E s := by
  have hs := hd.keep F.keep
  refine wpAny_pyIter_dict lo hs ?_
  have W := Walks.dictKeys (knd := strKind prog w) (A := A) hh s.heap.objs.size d (Nat.ne_of_lt hs.lt_size) kvs ep
  have key : ∀ (i : Nat) (v : Value), (∃ k v', kvs[i]? = some (k, v') ∧ (strKind prog w).is k v = true) → ∃ k v' t, kvs[i]? = some (k, v') ∧ v = Value.str k t := fun i v hp => by
    obtain ⟨k, v', hk, hv⟩ := hp
    obtain ⟨t, rfl⟩ := Value.isStrOf_shape hv
    exact ⟨k, v', t, hk, rfl⟩
  refine compJ (fp := [d]) (St := fun i h => h.IsKeyIter s.heap.objs.size d i kvs.length ep ∧ h.DictAt (strKind prog w) d kvs ep) W (fun b hb => by rw [List.mem_singleton.mp hb]; exact hs.lt_size) ⟨⟨_, Heap.get?_push_size _ rfl, rfl, rfl⟩, hs.push _⟩ hn F N
    (fun C i v s₃ m₃ E' ht hP => ?_) (fun C i v s₃ m₃ E' ht hP => ?_) fun D h' tk ys n' vs' hlen hP hF => done D h' tk ys n' vs' hlen (fun (j : Nat) (v : Value) hj => key j v (hP j v hj)) hF
  · obtain ⟨k, v', t, hk, rfl⟩ := key i v hP
    exact tests C i k v' t s₃ m₃ E' ht hk
  · obtain ⟨k, v', t, hk, rfl⟩ := key i v hP
    exact elts C i k v' t s₃ m₃ E' ht hk
end
section
variable {prog : Program} {w : World} {A : Around} {E : Value → Shared → Prop} {s : Shared} {h₀ : Heap} {L : Addr} {m : Str → Option Value} {t : Tok} {r : Rw} {Q : Value → Shared → Prop}
theorem sub_tup1 {value slice : Expr} (F : Fr h₀ L s.heap m) (X : (hd.heap_39 w.params).In h₀) (hr : r ∈ rows) (h : Q (.ref r.lst) s)
    (hs : subscripted slice false (.ref r.tup) (.int 1 t) = operate [.ref r.tup, .int 1 t] (getItem (.ref r.tup) (.int 1 t)) := by with_unfolding_all rfl) :
    wpAny (model prog w) A (subscriptTail value slice (.ref r.tup) (.int 1 t)) Q E s := item_tupleT (tup_at (X.keeps F.keep) r hr) (by decide) (by decide) rfl rfl h hs
theorem sub_tup0 {value slice : Expr} (F : Fr h₀ L s.heap m) (X : (hd.heap_39 w.params).In h₀) (hr : r ∈ rows) (h : Q (.int r.ty r.tyt) s)
    (hs : subscripted slice false (.ref r.tup) (.int 0 t) = operate [.ref r.tup, .int 0 t] (getItem (.ref r.tup) (.int 0 t)) := by with_unfolding_all rfl) :
    wpAny (model prog w) A (subscriptTail value slice (.ref r.tup) (.int 0 t)) Q E s := item_tupleT (tup_at (X.keeps F.keep) r hr) (by decide) (by decide) rfl rfl h hs
theorem ints_pk : ∀ l : List (Int × Tok), IntsAre (l.map fun p => Value.int p.1 p.2) (l.map (·.1))
  | [] => .nil
  | p :: l => .cons p.1 p.2 (ints_pk l)
theorem notin_pk {k : Int} (F : Fr h₀ L s.heap m) (X : (hd.heap_39 w.params).In h₀) (hr : r ∈ rows) (h : Q (.bool (!((r.pk.map (·.1)).any (· == k)))) s) :
    wpAny (model prog w) A (compareOp .NotIn (.int k t) (.ref r.lst)) Q E s := notin_list_ints (lst_at (X.keeps F.keep) r hr) (ints_pk r.pk) h
end
local macro_rules | `(tactic| walk_at "getAttr ref") => `(tactic| ((with_reducible show wpAny _ _ (getAttr (Value.ref _) (Str.ofString "packetType") _) _ _ _); k_dflt (refine' get_own ?k1 ?k2 ?k3 ?k4 ?k5 ?k6 ?k7 ?k8 ?k9 ?_; (case k1 => k_asm); (case k2 => k_asm); (case k3 => exact InstAt.of_news (by k_asm) (by k_mem) (by k_mem)); (case k4 => k_is); (case k5 => k_is); (case k6 => k_is); (case k7 => k_is); (case k8 => exact Told.pack (by assumption)); (case k9 => k_handed); k_whole)))
local macro_rules | `(tactic| walk_at "subscriptTail") => `(tactic| ((with_reducible show wpAny _ _ (subscriptTail _ _ (Value.ref (Rw.tup _)) (Value.int 1 _)) _ _ _); k_dflt (refine sub_tup1 (by k_asm) (by k_asm) (by assumption) ?_)))
local macro_rules | `(tactic| walk_at "subscriptTail") => `(tactic| ((with_reducible show wpAny _ _ (subscriptTail _ _ (Value.ref (Rw.tup _)) (Value.int 0 _)) _ _ _); k_dflt (refine sub_tup0 (by k_asm) (by k_asm) (by assumption) ?_)))
local macro_rules | `(tactic| walk_at "compareOp NotIn int ref") => `(tactic| ((with_reducible show wpAny _ _ (compareOp _ _ (Value.ref (Rw.lst _))) _ _ _); k_dflt (refine notin_pk (by k_asm) (by k_asm) (by assumption) ?_)))
theorem Keeps.toks {h : Heap} {g d o} {tk tk' : Nat} : Keeps ⟨h, g, d, tk, o⟩ ⟨h, g, d, tk', o⟩ := ⟨h, tk', rfl, fun _ _ e => e⟩
local macro_rules | `(tactic| walk_at "eval ListComp") => `(tactic| ((with_reducible show wpAny _ _ (eval (Expr.ListComp _ _ _ _) _) _ _ _); refine Hold.mk ?_))
/-- a value that is no list -/
def VT (led : Led) (v : Value) : Prop := (∃ n t, v = .int n t) ∨ (∃ x t, v = .str x t) ∨ (∃ b t, v = .bytes b t) ∨ ∃ q vs, v = .ref q ∧ (q, tupO vs) ∈ led
theorem VT.handed {led : Led} {v : Value} (h : VT led v) : handedIn v = true := by
  rcases h with ⟨_, _, rfl⟩ | ⟨_, _, rfl⟩ | ⟨_, _, rfl⟩ | ⟨_, _, rfl, _⟩ <;> rfl
theorem VT.sub {led led' : Led} {v : Value} (h : VT led v) (hs : ∀ p ∈ led, p ∈ led') : VT led' v := by
  rcases h with h | h | h | ⟨q, vs, e, hq⟩
  · exact .inl h
  · exact .inr (.inl h)
  · exact .inr (.inr (.inl h))
  · exact .inr (.inr (.inr ⟨q, vs, e, hs _ hq⟩))
section
variable {w : World} {A : Around} {h₀ : Heap} {L : Addr} {m : Str → Option Value} {s : Shared} {Q E : Value → Shared → Prop} {news : Led}
theorem isl {v : Value} (F : Fr h₀ L s.heap m) (X : (hd.heap_39 w.params).In h₀) (N : News h₀ L s.heap news) (hv : VT news v) (h : ∀ tk', Hold (Q (.bool false) { s with toks := tk' })) :
    wpAny (model PySem.Challenge.pw_ci0033_01 w) A (call (.builtin "isinstance") [v, .type "list"]) Q E s := by
  rcases hv with ⟨_, _, rfl⟩ | ⟨_, _, rfl⟩ | ⟨_, _, rfl⟩ | ⟨_, _, rfl, hq⟩
  · k_steps
    exact h _
  · k_steps
    exact h _
  · k_steps
    exact h _
  · k_steps
    exact h _
theorem field_name {r : Rw} {t : Tok} (hr : r ∈ rows) (h : ∀ t' k, Q (.str r.cm t') { s with toks := k }) : wpAny (model PySem.Challenge.pw_ci0033_01 w) A (formatField (.str r.cm t) Str.empty) Q E s := by
  refine wpAny_formatField_str (h _ _) (h _ _) ?_
  have h1 : r.cm.length ≤ 40 := (rows_len r hr).2
  rw [sizeLine_eq]; omega
end
/-- a value that the checks of set_property let pass -/
def okV (r : Rw) (v : Value) : Prop := ∀ z t, v = .int z t → ((r.id = 33 ∨ r.id = 35) → 1 ≤ z ∧ z ≤ 65535) ∧ (r.id = 34 → 0 ≤ z ∧ z ≤ 65535) ∧ ((r.id = 39 ∨ r.id = 11) → 1 ≤ z ∧ z ≤ 268435455) ∧ ((r.id = 25 ∨ r.id = 23 ∨ r.id = 1) → z = 0 ∨ z = 1)
def numR (r : Rw) : Bool := r.id == 33 || r.id == 35 || r.id == 34 || r.id == 39 || r.id == 11 || r.id == 25 || r.id == 23 || r.id == 1
theorem in_r1 : ∀ r ∈ rows, ([Str.ofString "ReceiveMaximum", Str.ofString "TopicAlias"].any (· == r.cm)) = (r.id == 33 || r.id == 35) := by decide +kernel
theorem in_r2 : ∀ r ∈ rows, ([Str.ofString "TopicAliasMaximum"].any (· == r.cm)) = (r.id == 34) := by decide +kernel
theorem in_r3 : ∀ r ∈ rows, ([Str.ofString "MaximumPacketSize", Str.ofString "SubscriptionIdentifier"].any (· == r.cm)) = (r.id == 39 || r.id == 11) := by decide +kernel
theorem in_r4 : ∀ r ∈ rows, ([Str.ofString "RequestResponseInformation", Str.ofString "RequestProblemInformation", Str.ofString "PayloadFormatIndicator"].any (· == r.cm)) = (r.id == 25 || r.id == 23 || r.id == 1) := by decide +kernel
theorem cls5 : ∀ r ∈ rows, ((r.id == 33 || r.id == 35) = true ∧ (r.id == 34) = false ∧ (r.id == 39 || r.id == 11) = false ∧ (r.id == 25 || r.id == 23 || r.id == 1) = false ∧ numR r = true) ∨
    ((r.id == 33 || r.id == 35) = false ∧ (r.id == 34) = true ∧ (r.id == 39 || r.id == 11) = false ∧ (r.id == 25 || r.id == 23 || r.id == 1) = false ∧ numR r = true) ∨
    ((r.id == 33 || r.id == 35) = false ∧ (r.id == 34) = false ∧ (r.id == 39 || r.id == 11) = true ∧ (r.id == 25 || r.id == 23 || r.id == 1) = false ∧ numR r = true) ∨
    ((r.id == 33 || r.id == 35) = false ∧ (r.id == 34) = false ∧ (r.id == 39 || r.id == 11) = false ∧ (r.id == 25 || r.id == 23 || r.id == 1) = true ∧ numR r = true) ∨
    ((r.id == 33 || r.id == 35) = false ∧ (r.id == 34) = false ∧ (r.id == 39 || r.id == 11) = false ∧ (r.id == 25 || r.id == 23 || r.id == 1) = false ∧ numR r = false) := by decide +kernel
theorem in_known {w : World} {A : Around} {s : Shared} {Q E : Value → Shared → Prop} {l : Addr} {vs : List Value} {ys : List Str} {k : Str} {t : Tok} {b : Bool} (hl : s.heap.IsList l vs.toArray) (hi : StrsAre vs ys) (hb : (ys.any (· == k)) = b)
    (h : Q (.bool b) s) : wpAny (model PySem.Challenge.pw_ci0033_01 w) A (compareOp .In (.str k t) (.ref l)) Q E s := in_list_strs hl hi (by rw [hb]; exact h)
local macro_rules | `(tactic| walk_at "compareOp In str ref") => `(tactic| ((with_reducible show wpAny _ _ (compareOp _ (Value.str (Rw.cm _) _) (Value.ref _)) _ _ _); k_dflt (refine' in_known ?k1 ?k2 ?k3 ?_; (case k1 => exact News.isList (by k_asm) (by k_mem)); (case k2 => repeat (first | exact StrsAre.nil | apply StrsAre.cons)); (case k3 => first | exact (in_r1 _ (by assumption)).trans (by assumption) | exact (in_r2 _ (by assumption)).trans (by assumption) | exact (in_r3 _ (by assumption)).trans (by assumption) | exact (in_r4 _ (by assumption)).trans (by assumption)); k_whole)))
def StopIf : Prop := True
theorem wpAny_cut {M : Model} {A : Around} {t : Sem Flow} {Q : Flow → Shared → Prop} {E : Value → Shared → Prop} {g h : Heap} {L : Addr} {m : Str → Option Value} {news : Led} {ge d o} {tk : Nat} (_F : Fr g L h m) (_N : News g L h news) (ht : 1 ≤ tk)
    (hc : wpAny M A t (fun f s' => Hold (f = .next ∧ ∃ h' tk', s' = ⟨h', ge, d, tk', o⟩ ∧ Fr g L h' m ∧ News g L h' news)) E ⟨h, ge, d, tk, o⟩)
    (k : ∀ h' tk', 1 ≤ tk' → Fr g L h' m → News g L h' news → Q .next ⟨h', ge, d, tk', o⟩) : wpAny M A t Q E ⟨h, ge, d, tk, o⟩ :=
  wpAny_mono (wpAny_toks_of (n := 1) ht hc) (fun f s' x => by obtain ⟨h1, rfl, h', tk', rfl, h2, h3⟩ := x; exact k h' tk' h1 h2 h3) fun _ _ x => x.2
local macro_rules | `(tactic| walk_at "cutend") => `(tactic| first | (unfold Hold; exact ⟨rfl, _, _, rfl, by k_asm, sub_led (by assumption) (by walk_at "sub")⟩) | k_asm | exact sub_led (by assumption) (by walk_at "sub"))
theorem notin_pk_ok {w : World} {A : Around} {h₀ : Heap} {L : Addr} {m : Str → Option Value} {s : Shared} {Q E : Value → Shared → Prop} {r : Rw} {k : Int} {t : Tok} (F : Fr h₀ L s.heap m) (X : (hd.heap_39 w.params).In h₀) (hr : r ∈ rows) (hp : ((r.pk.map (·.1)).any (· == k)) = true) (h : Q (.bool false) s) :
    wpAny (model PySem.Challenge.pw_ci0033_01 w) A (compareOp .NotIn (.int k t) (.ref r.lst)) Q E s := notin_pk F X hr (by rw [hp]; exact h)
local macro_rules | `(tactic| walk_at "compareOp NotIn int ref") => `(tactic| ((with_reducible show wpAny _ _ (compareOp _ _ (Value.ref (Rw.lst _))) _ _ _); k_dflt (refine notin_pk_ok (by k_asm) (by k_asm) (by assumption) (by assumption) ?_)))
local macro_rules | `(tactic| walk_at "exec If") => `(tactic| ((with_reducible show wpAny _ _ (exec (Stmt.If (Expr.UnaryOp _ _ _) [Stmt.If _ _ _ _] _ _) _) _ _ _); (with_reducible rename StopIf => hs9); refine Hold.mk ?_))
local macro_rules | `(tactic| walk_at "formatField str") => `(tactic| ((with_reducible show wpAny _ _ (formatField (Value.str (Rw.cm _) _) _) _ _ _); k_dflt (refine field_name (by assumption) ?_); intro _ _))
local macro_rules | `(tactic| walk_at "formatField") => `(tactic| ((with_reducible show wpAny _ _ (formatField (Value.str (Rw.cm _) _) _) _ _ _); k_dflt (refine field_name (by assumption) ?_); intro _ _))
local macro_rules | `(tactic| walk_at "call builtin:isinstance") => `(tactic| ((with_reducible show wpAny _ _ (call _ [_, Value.type "list"]) _ _ _); k_dflt ((refine wpAny_with_toks (n := 1) (by walk_at "tok_pos") ?_); refine' isl ?k1 ?k2 ?k3 ?k4 ?_; (case k1 => k_asm); (case k2 => k_asm); (case k3 => k_asm); (case k4 => exact VT.sub (by assumption) (by walk_at "sub")); k_whole); intro k' htk'; (try dsimp only at htk'); (try unfold Hold); (try dsimp only)))
local macro_rules | `(tactic| walk_at "sub") => `(tactic| (intro p9 hp9; first | exact hp9 | exact .tail _ hp9 | exact .tail _ (.tail _ hp9) | exact .tail _ (.tail _ (.tail _ hp9)) | exact .tail _ (.tail _ (.tail _ (.tail _ hp9))) | exact .tail _ (.tail _ (.tail _ (.tail _ (.tail _ hp9)))) | exact List.mem_append_right _ hp9))
/-- one of the 27 tests at set_property's end -/
abbrev ifS (r : Rw) (k : Nat) (p1 p2 p3 p4 p5 p6 p7 p8 : Pos) : Stmt :=
  .If (.Compare (.Name (Str.ofString "name") p1) [.Eq] [.Constant (.str r.cm) k p2] p3) [.Assign [.Attribute (.Name (Str.ofString "self") p4) r.cm p5] (.Name (Str.ofString "value") p6) p7] [] p8
inductive TailIs : List Rw → List Stmt → Prop
  | nil : TailIs [] []
  | cons {r : Rw} {k p1 p2 p3 p4 p5 p6 p7 p8 rs ss} : TailIs rs ss → TailIs (r :: rs) (ifS r k p1 p2 p3 p4 p5 p6 p7 p8 :: ss)
theorem tail_skip {M : Model} {A : Around} {E : Value → Shared → Prop} {h : Heap} {env : Env} {ge d o} {r : Rw} {Q : Flow → Shared → Prop}
    (skip : ∀ r0 ∈ rows, r0 ≠ r → ∀ k p1 p2 p3 p4 p5 p6 p7 p8 tk, wpAny M A (exec (ifS r0 k p1 p2 p3 p4 p5 p6 p7 p8) env) (fun f s' => Hold (f = .next ∧ ∃ tk', s' = ⟨h, ge, d, tk', o⟩)) E ⟨h, ge, d, tk, o⟩)
    (done : ∀ tk', Q .next ⟨h, ge, d, tk', o⟩) : ∀ {ss rs}, TailIs rs ss → (∀ r0 ∈ rs, r0 ∈ rows ∧ r0 ≠ r) → ∀ tk, wpAny M A (execs ss env) Q E ⟨h, ge, d, tk, o⟩ := by
  intro ss rs ht
  induction ht with
  | nil => exact fun _ tk => wpAny_execs_nil (done tk)
  | cons ht ih =>
    intro hin tk
    refine wpAny_execs_cons (wpAny_mono (skip _ (hin _ (.head _)).1 (hin _ (.head _)).2 _ _ _ _ _ _ _ _ _ tk) (fun f s' hq => ?_) fun _ _ e => e)
    obtain ⟨rfl, tk', rfl⟩ := hq
    exact ih (fun r0 h0 => hin r0 (.tail _ h0)) tk'
theorem tail_all {M : Model} {A : Around} {E : Value → Shared → Prop} {g h : Heap} {L : Addr} {m : Str → Option Value} {env : Env} {ge d o} {r : Rw} {Q : Flow → Shared → Prop} {Post : Heap → Prop}
    (F : Fr g L h m) (hP : ∀ h', Post h' → Fr g L h' m)
    (skip : ∀ r0 ∈ rows, r0 ≠ r → ∀ h, Fr g L h m → ∀ k p1 p2 p3 p4 p5 p6 p7 p8 tk, wpAny M A (exec (ifS r0 k p1 p2 p3 p4 p5 p6 p7 p8) env) (fun f s' => Hold (f = .next ∧ ∃ tk', s' = ⟨h, ge, d, tk', o⟩)) E ⟨h, ge, d, tk, o⟩)
    (hit : ∀ k p1 p2 p3 p4 p5 p6 p7 p8 tk, wpAny M A (exec (ifS r k p1 p2 p3 p4 p5 p6 p7 p8) env) (fun f s' => Hold (f = .next ∧ ∃ h' tk', s' = ⟨h', ge, d, tk', o⟩ ∧ Post h')) E ⟨h, ge, d, tk, o⟩)
    (done : ∀ h' tk', Post h' → Q .next ⟨h', ge, d, tk', o⟩) : ∀ {ss rs}, TailIs rs ss → rs.Nodup → (∀ r0 ∈ rs, r0 ∈ rows) → r ∈ rs → ∀ tk, wpAny M A (execs ss env) Q E ⟨h, ge, d, tk, o⟩ := by
  intro ss rs ht
  induction ht with
  | nil => exact fun _ _ hr => nomatch hr
  | @cons r1 k p1 p2 p3 p4 p5 p6 p7 p8 rs ss ht ih =>
    intro hnd hin hr tk
    obtain ⟨hn1, hn2⟩ := List.nodup_cons.mp hnd
    by_cases he : r1 = r
    · subst he
      refine wpAny_execs_cons (wpAny_mono (hit _ _ _ _ _ _ _ _ _ tk) (fun f s' hq => ?_) fun _ _ e => e)
      obtain ⟨rfl, h', tk', rfl, hp⟩ := hq
      exact tail_skip (fun r0 h0 hne => skip r0 h0 hne h' (hP h' hp)) (fun tk'' => done h' tk'' hp) ht (fun r0 h0 => ⟨hin r0 (.tail _ h0), fun e => hn1 (e ▸ h0)⟩) tk'
    · refine wpAny_execs_cons (wpAny_mono (skip r1 (hin _ (.head _)) he h F _ _ _ _ _ _ _ _ _ tk) (fun f s' hq => ?_) fun _ _ e => e)
      obtain ⟨rfl, tk', rfl⟩ := hq
      refine ih hn2 (fun r0 h0 => hin r0 (.tail _ h0)) ?_ tk'
      rcases List.mem_cons.mp hr with e | h
      · exact absurd e.symm he
      · exact h
theorem tail_rows {ss : List Stmt} (h : TailIs rows ss) : TailIs rows ss := h
/-- what the tail leaves -/
def TailPost (g : Heap) (L : Addr) (m : Str → Option Value) (x dx : Addr) (es : List DictEntry) (pk : Value) (av : Str → Option Value) (r : Rw) (v : Value) (led : Led) (h' : Heap) : Prop :=
  Fr g L h' m ∧ ∃ es' n', Told es' pk (updA av r.cm v) ∧ es'.length ≤ es.length + 1 ∧ News g L h' ((x, instO dx) :: (dx, dictOf es' n') :: led.filter (·.1 != dx))
local macro_rules | `(tactic| walk_at "setAttr ref") => `(tactic| ((with_reducible show wpAny _ _ (setAttr (Value.ref _) (Rw.cm _) _) _ _ _); k_dflt (refine' set_R ?F ?X ?N ?hx ?hdx ?T ?hr ?hv ?hz ?_; (case F => k_asm); (case X => k_asm); (case N => k_asm); (case hx => k_mem); (case hdx => k_mem); (case T => assumption); (case hr => assumption); (case hv => first | rfl | exact VT.handed (by assumption) | assumption); (case hz => assumption); k_whole); intro h' es' n' T' z' F' N'; (try dsimp only)))
local macro_rules | `(tactic| walk_at "execs cons") => `(tactic| ((with_reducible show wpAny _ _ (execs (Stmt.If (Expr.Compare _ _ _ _) [Stmt.Assign [Expr.Attribute _ _ _] _ _] _ _ :: _) _) _ _ _); refine Hold.mk ?_))
theorem rows_nodup : rows.Nodup := by decide +kernel
theorem tail_T {M : Model} {A : Around} {E : Value → Shared → Prop} {g h : Heap} {L : Addr} {m : Str → Option Value} {env : Env} {ge d o} {r : Rw} {Q : Flow → Shared → Prop} {led : Led} {es : List DictEntry} {pk : Value} {av : Str → Option Value} (x dx : Addr) (v : Value)
    (F : Fr g L h m) (_N : News g L h led) (_T : Told es pk av) (hr : r ∈ rows)
    (skip : ∀ r0 ∈ rows, r0 ≠ r → ∀ h, Fr g L h m → News g L h [] → ∀ k p1 p2 p3 p4 p5 p6 p7 p8 tk, wpAny M A (exec (ifS r0 k p1 p2 p3 p4 p5 p6 p7 p8) env) (fun f s' => Hold (f = .next ∧ ∃ tk', s' = ⟨h, ge, d, tk', o⟩)) E ⟨h, ge, d, tk, o⟩)
    (hit : ∀ k p1 p2 p3 p4 p5 p6 p7 p8 tk, wpAny M A (exec (ifS r k p1 p2 p3 p4 p5 p6 p7 p8) env) (fun f s' => Hold (f = .next ∧ ∃ h' tk', s' = ⟨h', ge, d, tk', o⟩ ∧ TailPost g L m x dx es pk av r v led h')) E ⟨h, ge, d, tk, o⟩)
    (done : ∀ h' tk', TailPost g L m x dx es pk av r v led h' → Q .next ⟨h', ge, d, tk', o⟩) {ss : List Stmt} (hs : TailIs rows ss) (tk : Nat) : wpAny M A (execs ss env) Q E ⟨h, ge, d, tk, o⟩ :=
  tail_all F (fun _ h => h.1) (fun r0 h0 hne h hF => skip r0 h0 hne h hF News.nil) hit done hs rows_nodup (fun _ h => h) hr tk
theorem tail_T2 {M : Model} {A : Around} {E : Value → Shared → Prop} {g h : Heap} {L : Addr} {m : Str → Option Value} {env : Env} {ge d o} {r : Rw} {Q : Flow → Shared → Prop} {led : Led} {es : List DictEntry} {pk : Value} {av : Str → Option Value} {l : Addr} {ob : Obj} (x dx : Addr)
    (F : Fr g L h m) (N : News g L h ((l, ob) :: led)) (T : Told es pk av) (hr : r ∈ rows)
    (skip : ∀ r0 ∈ rows, r0 ≠ r → ∀ h, Fr g L h m → News g L h [] → ∀ k p1 p2 p3 p4 p5 p6 p7 p8 tk, wpAny M A (exec (ifS r0 k p1 p2 p3 p4 p5 p6 p7 p8) env) (fun f s' => Hold (f = .next ∧ ∃ tk', s' = ⟨h, ge, d, tk', o⟩)) E ⟨h, ge, d, tk, o⟩)
    (hit : ∀ k p1 p2 p3 p4 p5 p6 p7 p8 tk, wpAny M A (exec (ifS r k p1 p2 p3 p4 p5 p6 p7 p8) env) (fun f s' => Hold (f = .next ∧ ∃ h' tk', s' = ⟨h', ge, d, tk', o⟩ ∧ TailPost g L m x dx es pk av r (.ref l) ((l, ob) :: led) h')) E ⟨h, ge, d, tk, o⟩)
    (done : ∀ h' tk', TailPost g L m x dx es pk av r (.ref l) ((l, ob) :: led) h' → Q .next ⟨h', ge, d, tk', o⟩) {ss : List Stmt} (hs : TailIs rows ss) (tk : Nat) : wpAny M A (execs ss env) Q E ⟨h, ge, d, tk, o⟩ := tail_T x dx (.ref l) F N T hr skip hit done hs tk
theorem filt_sub {l l' : Led} {f : Addr × Obj → Bool} {a b : Addr × Obj} (h : ∀ p ∈ l, p ∈ l') : ∀ p ∈ a :: b :: l.filter f, p ∈ a :: b :: l'.filter f := fun p hp => by
  rcases List.mem_cons.mp hp with rfl | hp
  · exact .head _
  · rcases List.mem_cons.mp hp with rfl | hp
    · exact .tail _ (.head _)
    · obtain ⟨h1, h2⟩ := List.mem_filter.mp hp
      exact .tail _ (.tail _ (List.mem_filter.mpr ⟨h p h1, h2⟩))
theorem one_sub {l l' : Led} {a : Addr × Obj} (h : ∀ p ∈ l, p ∈ l') : ∀ p ∈ [a] ++ l, p ∈ a :: l' := fun p hp => by
  rcases List.mem_cons.mp hp with rfl | hp
  · exact .head _
  · exact .tail _ (h p hp)
/-- the value that is stored -/
def NewV (r : Rw) (av : Str → Option Value) (v : Value) (led new : Led) (v' : Value) : Prop :=
  (r.multi = false ∧ v' = v ∧ new = []) ∨
  (r.multi = true ∧ ∃ (l : Addr) (vs : List Value) (k : Nat), v' = .ref l ∧ new = [(l, listOf (vs ++ [v]).toArray k)] ∧ ((av r.cm = none ∧ vs = []) ∨ ∃ (l0 : Addr) (n0 : Nat), av r.cm = some (.ref l0) ∧ (l0, listOf vs.toArray n0) ∈ led))
theorem led_one {g h : Heap} {L a : Addr} {o o' : Obj} {l : Led} (N : News g L h l) (h1 : (a, o) ∈ l) (h2 : (a, o') ∈ l) : o = o' := by
  have e1 := (N _ h1).1
  have e2 := (N _ h2).1
  exact Option.some.inj (e1.symm.trans e2)
theorem ne_dict {g h : Heap} {L l dx : Addr} {led : Led} {es : List DictEntry} {n k : Nat} {vs : Array Value} (N : News g L h led) (hdx : (dx, dictOf es n) ∈ led) (hl : (l, listOf vs k) ∈ led) : ∀ p ∈ [((l, listOf vs k) : Addr × Obj)], p.1 ≠ dx := by
  intro p hp e
  rw [List.mem_singleton.mp hp] at e
  have e' : l = dx := e
  rw [e'] at hl
  have h9 := congrArg Obj.cls (led_one N hl hdx)
  dsimp only at h9
  exact absurd h9 (by decide)
theorem names_comp {vs ys : List Value} (hlen : vs.length = kvN.length) (hP : ∀ (j : Nat) (v : Value), vs[j]? = some v → ∃ k v' t, kvN[j]? = some (k, v') ∧ v = Value.str k t)
    (hG : Paired (fun v y => ∃ k t t', v = .str k t ∧ y = .str (Txt.replace k (Str.ofString " ") (Str.ofString "")) t') (vs.filter fun _ => true) ys) : StrsAre ys (rows.map (·.cm)) := by
  rw [List.filter_eq_self.mpr (fun _ _ => rfl)] at hG
  have key : ∀ (rs : List Rw) (vs ys : List Value), (∀ r ∈ rs, r ∈ rows) → vs.length = rs.length → (∀ (j : Nat) (v : Value), vs[j]? = some v → ∃ r t, rs[j]? = some r ∧ v = Value.str r.nm t) →
      Paired (fun v y => ∃ k t t', v = Value.str k t ∧ y = Value.str (Txt.replace k (Str.ofString " ") (Str.ofString "")) t') vs ys → StrsAre ys (rs.map (·.cm)) := by
    intro rs
    induction rs with
    | nil =>
      intro vs ys _ hl _ hG
      cases hG with
      | nil => exact .nil
      | cons _ _ => cases hl
    | cons r rs ih =>
      intro vs ys hin hl hP hG
      cases hG with
      | nil => cases hl
      | cons h1 h2 =>
        obtain ⟨k, t, t', rfl, rfl⟩ := h1
        obtain ⟨r', u, hr', e⟩ := hP 0 _ rfl
        cases hr'
        cases e
        rw [rows_comp r (hin r (.head _))]
        exact .cons _ _ (ih _ _ (fun z hz => hin z (.tail _ hz)) (by simpa using hl) (fun j v hj => hP (j + 1) v hj) h2)
  refine key rows vs ys (fun _ h => h) (by rw [hlen]; rfl) (fun j v hj => ?_) hG
  obtain ⟨k, v', t, hk, rfl⟩ := hP j v hj
  obtain ⟨r, hr, _, rfl, _⟩ := kvN_at hk
  exact ⟨r, t, hr, rfl⟩
theorem names_any : ∀ r ∈ rows, ((rows.map (·.cm)).any (· == r.cm)) = true := by decide +kernel
section
variable {p : Program} {loose : List Str} {w : World} {mean : ExcName → Option Value} {mg mb : Str → Option Value} {dp un : Nat} {gd : Option (List Code)} {cn : Str} {cs : Scope} {a : Addr} {ccd : Value} {cl : List (Str × Addr)} {outer : List Env} {A₀ : Around} {base h₀ : Heap} {L : Addr} {m : Str → Option Value} {s : Shared} {Q E : Value → Shared → Prop} {news : Led}
variable {x dx : Addr} {es : List DictEntry} {n : Nat} {pkn : Int} {pkt : Tok} {av : Str → Option Value}
variable (B : Below A₀ base outer h₀) (F : Fr h₀ L s.heap m) (X : (hd.heap_39 w.params).In h₀) (N : News h₀ L s.heap news) (T : Top p loose mean mg mb h₀) (hk : cs.kind = .function) (hx : (x, instO dx) ∈ news) (hdx : (dx, dictOf es n) ∈ news) (hT : Told es (.int pkn pkt) av)
include B F X N T hk hx hdx hT
theorem c_set {r : Rw} {t : Tok} {v : Value} (hv : VT news v) (hz : es.length ≤ 900) (hok : okV r v) (hnum : numR r = true → ∃ z t, v = .int z t) (hr : r ∈ rows) (hpk : ((r.pk.map (·.1)).any (· == pkn)) = true) (hd : dp + 3 < recursionLimit) (hu : un + 60 < cLine)
    (hmul : r.multi = true → ∀ a, av r.cm = some a → ∃ (l0 : Addr) (vs : List Value) (n0 : Nat), a = .ref l0 ∧ (l0, listOf vs.toArray n0) ∈ news ∧ vs.length ≤ 900)
    (hret : ∀ (h' : Heap) (tk' : Nat) (es' : List DictEntry) (n' : Nat) (v' : Value) (new : Led), NewV r av v news new v' → (∀ p ∈ new, p.1 ≠ dx) → Told es' (.int pkn pkt) (updA av r.cm v') → es'.length ≤ es.length + 1 → Fr h₀ L h' m → News h₀ L h' ((x, instO dx) :: (dx, dictOf es' n') :: (new ++ news).filter (·.1 != dx)) → Q .none { s with heap := h', toks := tk' }) :
    Cl w dp un gd cn cs L a ccd cl outer 262 [.ref x, .str r.nm t, v] Q E s := by
  replace N := two N hx hdx
  clear hx hdx
  have hstop : StopIf := trivial
  have hl9 : r.cm.length ≤ 40 := (rows_len r hr).2
  refine wpAny_call ?_
  k_dflt cell_enter
  k_steps
  unfold Hold
  refine comp_T (fun _ => true) (fun v y => ∃ k t t', v = .str k t ∧ y = .str (Txt.replace k (Str.ofString " ") (Str.ofString "")) t') (by with_unfolding_all rfl) (by with_unfolding_all decide) rfl (by with_unfolding_all decide) rfl ?_
  k_steps
  unfold Hold
  rename Fr _ _ _ _ => lF
  rename News _ _ _ _ => lN
  rename Frag.In _ _ => lX
  refine comp_dict rfl (names_at lX) (by decide) (by decide) lF lN ?_ ?_ ?_
  · intro C i k v t s₃ m₃ E' ht hkv F1 N1
    obtain ⟨hp, g, d, tk, os⟩ := s₃
    exact wpAny_pure ⟨rfl, Keeps.toks⟩
  · intro C i k v t s₃ m₃ E' ht hkv _ F1 N1
    obtain ⟨r', hr', hm', rfl, rfl⟩ := kvN_at hkv
    obtain ⟨hp, g, d, tk, os⟩ := s₃
    have htk : 1 ≤ tk := Nat.le_trans (by dsimp only at *; omega) ht
    k_steps
    all_goals first | exact Str.ofString "" | exact Value.none | exact ([] : List (Str × Addr)) | exact (0 : Nat) | exact ⟨⟨_, _, _, rfl, by rw [rows_comp r' hm']⟩, Keeps.toks⟩
  · intro D h' tk ys n' vs hlen hP hG F1 N1 hD
    have hS : StrsAre ys (rows.map (·.cm)) := names_comp hlen hP hG
    refine notin_list_strs (News.isList N1 (.head _)) hS ?_
    rw [names_any r hr]
    k_steps
    unfold Hold
    rename Fr _ _ _ _ => lF
    rename News _ _ _ _ => lN
    refine wpAny_cut lF lN (by walk_at "tok_pos") ?_ ?_
    · (rename StopIf => hstop); clear hstop
      rcases cls5 r hr with ⟨e1, e2, e3, e4, e5⟩ | ⟨e1, e2, e3, e4, e5⟩ | ⟨e1, e2, e3, e4, e5⟩ | ⟨e1, e2, e3, e4, e5⟩ | ⟨e1, e2, e3, e4, e5⟩
      · obtain ⟨z, u, rfl⟩ := hnum e5
        have hz := (hok z u rfl).1 (by simpa using e1)
        k_steps
        all_goals walk_at "cutend"
      · obtain ⟨z, u, rfl⟩ := hnum e5
        have hz := (hok z u rfl).2.1 (by simpa using e2)
        k_steps
        all_goals walk_at "cutend"
      · obtain ⟨z, u, rfl⟩ := hnum e5
        have hz := (hok z u rfl).2.2.1 (by simpa using e3)
        k_steps
        all_goals walk_at "cutend"
      · obtain ⟨z, u, rfl⟩ := hnum e5
        have hz := (hok z u rfl).2.2.2 (by simpa [or_assoc] using e4)
        rcases hz with rfl | rfl
        all_goals k_steps
        all_goals walk_at "cutend"
      · k_steps
        all_goals walk_at "cutend"
    · intro h' tk' htk' F1 N1
      k_steps
      · rename r.multi = true => hmu
        rename (av r.cm).isSome = true => e9
        obtain ⟨a9, hav⟩ := Option.isSome_iff_exists.mp e9
        obtain ⟨l0, vs0, n0, rfl, hl0, hz0⟩ := hmul hmu _ hav
        rename Fr _ _ _ _ => lF
        rename News _ _ _ _ => lN
        rename Frag.In _ _ => lX
        refine kbm_ownBy lF lX (InstAt.of_news lN (by k_mem) (by k_mem)) (plain_cm r hr) (by k_is) (find_cm r hr) rfl ((Told.attr hT r hr).trans (by rw [hav])) rfl ?_
        k_steps
        rename Fr _ _ _ _ => lF
        rename News _ _ _ _ => lN
        refine add_lists (vs := vs0) (ws := [v]) lF lN (News.isList lN (.tail _ (.tail _ (.tail _ (.tail _ hl0))))) (News.isList lN (.head _)) ?_ (by rw [sizeLine_eq]; simp only [List.length_cons, List.length_nil]; omega)
        intro h5 F5 N5
        k_steps
        unfold Hold
        rename Fr _ _ _ _ => lF
        rename News _ _ _ _ => lN
        refine tail_T2 x dx lF lN hT hr ?_ ?_ ?_ (by unfold rows; repeat (first | exact TailIs.nil | apply TailIs.cons)) _
        · intro r0 h0 hne h F1 N1 k p1 p2 p3 p4 p5 p6 p7 p8 tk
          k_steps
          · exfalso
            rename (_ == r0.cm) = true => h9
            exact hne (rows_cm r0 h0 r hr (eq_of_beq h9).symm)
          · exact ⟨rfl, _, rfl⟩
        · intro k p1 p2 p3 p4 p5 p6 p7 p8 tk
          k_steps
          · exact ⟨rfl, _, _, rfl, by k_asm, _, _, by assumption, by assumption, by assumption⟩
          · exfalso
            rename (_ == r.cm) = false => h9
            simp at h9
        · intro h' tk' hp
          obtain ⟨F2, es', n', T2, z2, N2⟩ := hp
          k_steps
          exact hret _ _ es' n' _ [_] (.inr ⟨hmu, _, vs0, _, rfl, rfl, .inr ⟨l0, n0, hav, hl0⟩⟩) (ne_dict lN (by k_mem) (.head _)) T2 z2 (by k_asm) (sub_led (by assumption) (filt_sub (one_sub (by walk_at "sub"))))
      · rename r.multi = true => hmu
        rename (av r.cm).isSome = false => e9
        have hav : av r.cm = none := by simpa using e9
        unfold Hold
        rename Fr _ _ _ _ => lF
        rename News _ _ _ _ => lN
        rename Frag.In _ _ => lX
        refine tail_T2 x dx lF lN hT hr ?_ ?_ ?_ (by unfold rows; repeat (first | exact TailIs.nil | apply TailIs.cons)) _
        · intro r0 h0 hne h F1 N1 k p1 p2 p3 p4 p5 p6 p7 p8 tk
          k_steps
          · exfalso
            rename (_ == r0.cm) = true => h9
            exact hne (rows_cm r0 h0 r hr (eq_of_beq h9).symm)
          · exact ⟨rfl, _, rfl⟩
        · intro k p1 p2 p3 p4 p5 p6 p7 p8 tk
          k_steps
          · exact ⟨rfl, _, _, rfl, by k_asm, _, _, by assumption, by assumption, by assumption⟩
          · exfalso
            rename (_ == r.cm) = false => h9
            simp at h9
        · intro h' tk' hp
          obtain ⟨F2, es', n', T2, z2, N2⟩ := hp
          k_steps
          exact hret _ _ es' n' _ [_] (.inr ⟨hmu, _, [], _, rfl, rfl, .inl ⟨hav, rfl⟩⟩) (ne_dict lN (by k_mem) (.head _)) T2 z2 (by k_asm) (sub_led (by assumption) (filt_sub (one_sub (by walk_at "sub"))))
      · rename r.multi = false => hmu
        unfold Hold
        rename Fr _ _ _ _ => lF
        rename News _ _ _ _ => lN
        rename Frag.In _ _ => lX
        refine tail_T x dx v lF lN hT hr ?_ ?_ ?_ (by unfold rows; repeat (first | exact TailIs.nil | apply TailIs.cons)) _
        · intro r0 h0 hne h F1 N1 k p1 p2 p3 p4 p5 p6 p7 p8 tk
          k_steps
          · exfalso
            rename (_ == r0.cm) = true => h9
            exact hne (rows_cm r0 h0 r hr (eq_of_beq h9).symm)
          · exact ⟨rfl, _, rfl⟩
        · intro k p1 p2 p3 p4 p5 p6 p7 p8 tk
          k_steps
          · exact ⟨rfl, _, _, rfl, by k_asm, _, _, by assumption, by assumption, by assumption⟩
          · exfalso
            rename (_ == r.cm) = false => h9
            simp at h9
        · intro h' tk' hp
          obtain ⟨F2, es', n', T2, z2, N2⟩ := hp
          k_steps
          exact hret _ _ es' n' v [] (.inl ⟨hmu, rfl, rfl⟩) (fun _ h => nomatch h) T2 z2 (by k_asm) (sub_led (by assumption) (filt_sub (by walk_at "sub")))
end
local macro_rules | `(tactic| walk_at "call ref") => `(tactic| (k_dflt (refine' c_writeUTF (B := ?B) (F := ?F) (X := ?X) (N := ?N) (T := ?T) (hk := ?hk) (hd := ?hd) (hu := ?hu)  (hret := ?_); (case B => k_asm); (case F => k_asm); (case X => k_asm); (case N => k_asm); (case T => k_asm); (case hk => first | exact rfl | assumption); (case hd => ktr_room); (case hu => ktr_units); k_whole; intro b' t' h' tk' hb' F' N'; (try dsimp only); (try k_sweep))))
local macro_rules | `(tactic| walk_at "call ref") => `(tactic| (k_dflt (refine' c_writeBytes (B := ?B) (F := ?F) (X := ?X) (N := ?N) (T := ?T) (hk := ?hk) (hd := ?hd) (hu := ?hu) (hb := ?hb) (hz := ?hz) (hret := ?_); (case B => k_asm); (case F => k_asm); (case X => k_asm); (case N => k_asm); (case T => k_asm); (case hk => first | exact rfl | assumption); (case hd => ktr_room); (case hu => ktr_units); (case hb => assumption); (case hz => first | omega | (simp only [List.length_append, List.length_cons, List.length_nil]; omega)); k_whole; intro b' t' h' tk' hb' F' N'; (try dsimp only); (try k_sweep))))
local macro_rules | `(tactic| walk_at "call ref") => `(tactic| (k_dflt (refine' c_encode (B := ?B) (F := ?F) (X := ?X) (N := ?N) (T := ?T) (hk := ?hk) (hd := ?hd) (hu := ?hu) (h0 := ?h0) (h1 := ?h1) (hret := ?_); (case B => k_asm); (case F => k_asm); (case X => k_asm); (case N => k_asm); (case T => k_asm); (case hk => first | exact rfl | assumption); (case hd => ktr_room); (case hu => ktr_units); (case h0 => l_fact); (case h1 => l_fact); k_whole; intro b' t' h' tk' hb' F' N'; (try dsimp only); (try k_sweep))))
def tyV : List Value := [.str (Str.ofString "Byte") 420, .str (Str.ofString "Two Byte Integer") 421, .str (Str.ofString "Four Byte Integer") 422, .str (Str.ofString "Variable Byte Integer") 423, .str (Str.ofString "Binary Data") 424, .str (Str.ofString "UTF-8 Encoded String") 425, .str (Str.ofString "UTF-8 String Pair") 426]
def tyS : List Str := [Str.ofString "Byte", Str.ofString "Two Byte Integer", Str.ofString "Four Byte Integer", Str.ofString "Variable Byte Integer", Str.ofString "Binary Data", Str.ofString "UTF-8 Encoded String", Str.ofString "UTF-8 String Pair"]
theorem tyA : StrsAre tyV tyS := by unfold tyV tyS; repeat (first | exact StrsAre.nil | apply StrsAre.cons)
section
variable {prog : Program} {w : World} {A : Around} {E : Value → Shared → Prop} {s : Shared} {h₀ : Heap} {L : Addr} {m : Str → Option Value} {t : Tok}
theorem ty_at {h : Heap} (X : (hd.heap_39 w.params).In h) : ∃ n, h.get? 178 = some { cls := .type "list", dict := none, data := .seq tyV.toArray n, slots := #[] } := ⟨_, X _ _ (by k_is)⟩
theorem method_index {pl : Sem Bool} {Q : Value × List Value → Shared → Prop} (F : Fr h₀ L s.heap m) (X : (hd.heap_39 w.params).In h₀) (h : Q (.builtin "list.index", [.ref 178]) s) : wpAny (model prog w) A (getMethod (.ref 178) (Str.ofString "index") pl) Q E s := by
  obtain ⟨n, ho⟩ := ty_at (X.keeps F.keep)
  exact getMethod_builtin ⟨_, ho, rfl⟩ PySem.F.plainAttrs_list PySem.F.slot_list_index PySem.F.type_list_index (fun b e => by cases e; exact ⟨_, ho, rfl⟩) h
theorem index_ty (j : Fin 7) {Q : Value → Shared → Prop} (F : Fr h₀ L s.heap m) (X : (hd.heap_39 w.params).In h₀) (h : ∀ u k, Q (.int (j.val : Nat) u) { s with toks := k }) :
    wpAny (model prog w) A (call (.builtin "list.index") [.ref 178, .str (tyS.getD j.val Str.empty) t]) Q E s := by
  obtain ⟨n, ho⟩ := ty_at (X.keeps F.keep)
  refine call_meets PySem.F.slot_list_index ⟨_, ho, rfl⟩ PySem.F.entry_list_index (PySem.F.args_list_index_2 _ _)
    (MeetsSeq.list_index 178 tyV.toArray n (.str (tyS.getD j.val Str.empty) t) (isStrOf (tyS.getD j.val Str.empty)) (fun y hy => eq_isStrOf _ t tyA y (by simpa using hy)) j.val j.isLt (by omega) ?_ ?_) ⟨ho, h _ _⟩
  · exact (by decide +kernel : ∀ j : Fin 7, isStrOf (tyS.getD j.val Str.empty) (tyV.toArray[j.val]'(j.isLt)) = true) j
  · intro m hm hlt
    exact (by decide +kernel : ∀ j : Fin 7, ∀ m : Fin 7, m.val < j.val → isStrOf (tyS.getD j.val Str.empty) (tyV.toArray[m.val]'(m.isLt)) = false) j ⟨m, hm⟩ hlt
theorem index_0 {Q : Value → Shared → Prop} (F : Fr h₀ L s.heap m) (X : (hd.heap_39 w.params).In h₀) (h : ∀ u k, Q (.int 0 u) { s with toks := k }) : wpAny (model prog w) A (call (.builtin "list.index") [.ref 178, .str (Str.ofString "Byte") t]) Q E s := index_ty 0 F X h
theorem index_1 {Q : Value → Shared → Prop} (F : Fr h₀ L s.heap m) (X : (hd.heap_39 w.params).In h₀) (h : ∀ u k, Q (.int 1 u) { s with toks := k }) : wpAny (model prog w) A (call (.builtin "list.index") [.ref 178, .str (Str.ofString "Two Byte Integer") t]) Q E s := index_ty 1 F X h
theorem index_2 {Q : Value → Shared → Prop} (F : Fr h₀ L s.heap m) (X : (hd.heap_39 w.params).In h₀) (h : ∀ u k, Q (.int 2 u) { s with toks := k }) : wpAny (model prog w) A (call (.builtin "list.index") [.ref 178, .str (Str.ofString "Four Byte Integer") t]) Q E s := index_ty 2 F X h
theorem index_3 {Q : Value → Shared → Prop} (F : Fr h₀ L s.heap m) (X : (hd.heap_39 w.params).In h₀) (h : ∀ u k, Q (.int 3 u) { s with toks := k }) : wpAny (model prog w) A (call (.builtin "list.index") [.ref 178, .str (Str.ofString "Variable Byte Integer") t]) Q E s := index_ty 3 F X h
theorem index_4 {Q : Value → Shared → Prop} (F : Fr h₀ L s.heap m) (X : (hd.heap_39 w.params).In h₀) (h : ∀ u k, Q (.int 4 u) { s with toks := k }) : wpAny (model prog w) A (call (.builtin "list.index") [.ref 178, .str (Str.ofString "Binary Data") t]) Q E s := index_ty 4 F X h
theorem index_5 {Q : Value → Shared → Prop} (F : Fr h₀ L s.heap m) (X : (hd.heap_39 w.params).In h₀) (h : ∀ u k, Q (.int 5 u) { s with toks := k }) : wpAny (model prog w) A (call (.builtin "list.index") [.ref 178, .str (Str.ofString "UTF-8 Encoded String") t]) Q E s := index_ty 5 F X h
theorem index_6 {Q : Value → Shared → Prop} (F : Fr h₀ L s.heap m) (X : (hd.heap_39 w.params).In h₀) (h : ∀ u k, Q (.int 6 u) { s with toks := k }) : wpAny (model prog w) A (call (.builtin "list.index") [.ref 178, .str (Str.ofString "UTF-8 String Pair") t]) Q E s := index_ty 6 F X h
end
local macro_rules | `(tactic| walk_at "call builtin:list.index") => `(tactic| ((with_reducible show wpAny _ _ (call _ [Value.ref 178, Value.str (Str.ofString "Byte") _]) _ _ _); k_dflt (refine index_0 (by k_asm) (by k_asm) ?_); intro _ _))
local macro_rules | `(tactic| walk_at "call builtin:list.index") => `(tactic| ((with_reducible show wpAny _ _ (call _ [Value.ref 178, Value.str (Str.ofString "Two Byte Integer") _]) _ _ _); k_dflt (refine index_1 (by k_asm) (by k_asm) ?_); intro _ _))
local macro_rules | `(tactic| walk_at "call builtin:list.index") => `(tactic| ((with_reducible show wpAny _ _ (call _ [Value.ref 178, Value.str (Str.ofString "Four Byte Integer") _]) _ _ _); k_dflt (refine index_2 (by k_asm) (by k_asm) ?_); intro _ _))
local macro_rules | `(tactic| walk_at "call builtin:list.index") => `(tactic| ((with_reducible show wpAny _ _ (call _ [Value.ref 178, Value.str (Str.ofString "Variable Byte Integer") _]) _ _ _); k_dflt (refine index_3 (by k_asm) (by k_asm) ?_); intro _ _))
local macro_rules | `(tactic| walk_at "call builtin:list.index") => `(tactic| ((with_reducible show wpAny _ _ (call _ [Value.ref 178, Value.str (Str.ofString "Binary Data") _]) _ _ _); k_dflt (refine index_4 (by k_asm) (by k_asm) ?_); intro _ _))
local macro_rules | `(tactic| walk_at "call builtin:list.index") => `(tactic| ((with_reducible show wpAny _ _ (call _ [Value.ref 178, Value.str (Str.ofString "UTF-8 Encoded String") _]) _ _ _); k_dflt (refine index_5 (by k_asm) (by k_asm) ?_); intro _ _))
local macro_rules | `(tactic| walk_at "call builtin:list.index") => `(tactic| ((with_reducible show wpAny _ _ (call _ [Value.ref 178, Value.str (Str.ofString "UTF-8 String Pair") _]) _ _ _); k_dflt (refine index_6 (by k_asm) (by k_asm) ?_); intro _ _))
local macro_rules | `(tactic| walk_at "getMethod ref") => `(tactic| ((with_reducible show wpAny _ _ (getMethod (Value.ref 178) (Str.ofString "index") _) _ _ _); k_dflt (refine method_index (by k_asm) (by k_asm) ?_)))
local macro_rules | `(tactic| walk_at "unsub") => `(tactic| (intro p9 hp9; first | exact hp9 | exact .tail _ hp9 | exact .tail _ (.tail _ hp9) | exact .tail _ (.tail _ (.tail _ hp9)) | exact .tail _ (.tail _ (.tail _ (.tail _ hp9))) | exact .tail _ (.tail _ (.tail _ (.tail _ (.tail _ hp9)))) | exact List.mem_append_right _ hp9))
inductive PV where
  | int (n : Int)
  | oct (ks : List Int)
  | txt (k : Nat)
  | pair (a b : Nat)
/-- a value as it lies -/
def Val (led : Led) : PV → Value → Prop
  | .int n, v => ∃ t, v = .int n t
  | .oct ks, v => ∃ b t, v = .bytes b t ∧ KBw.bInts b = ks
  | .txt k, v => ∃ t, v = .str (txS k) t
  | .pair a b, v => ∃ q t1 t2, v = .ref q ∧ (q, tupO [.str (txS a) t1, .str (txS b) t2]) ∈ led
inductive Fit : Int → PV → Prop
  | b {n} : 0 ≤ n → n < 256 → Fit 0 (.int n)
  | w {n} : 0 ≤ n → n < 65536 → Fit 1 (.int n)
  | d {n} : 0 ≤ n → n < 4294967296 → Fit 2 (.int n)
  | v {n} : 0 ≤ n → n < 268435456 → Fit 3 (.int n)
  | o {ks} : ks.length ≤ 200 → (∀ k ∈ ks, 0 ≤ k ∧ k < 256) → Fit 4 (.oct ks)
  | t {k} : Fit 5 (.txt k)
  | p {a b} : Fit 6 (.pair a b)
abbrev tx (k : Nat) : List Int := 0 :: ((txB k).length : Int) :: txB k
def enc : Int → PV → List Int
  | 0, .int n => [n]
  | 1, .int n => be2 n
  | 2, .int n => be4 n
  | 3, .int n => vb n
  | 4, .oct ks => 0 :: (ks.length : Int) :: ks
  | 5, .txt k => tx k
  | 6, .pair a b => tx a ++ tx b
  | _, _ => []
theorem vb_small {n : Int} (h0 : 0 ≤ n) (h1 : n < 128) : vb n = [n] := by
  unfold vb vbN
  rw [if_neg (by omega), show n % 128 = n by omega]
section
variable {p : Program} {loose : List Str} {w : World} {mean : ExcName → Option Value} {mg mb : Str → Option Value} {dp un : Nat} {gd : Option (List Code)} {cn : Str} {cs : Scope} {a : Addr} {ccd : Value} {cl : List (Str × Addr)} {outer : List Env} {A₀ : Around} {base h₀ : Heap} {L : Addr} {m : Str → Option Value} {s : Shared} {Q E : Value → Shared → Prop} {news : Led}
variable (B : Below A₀ base outer h₀) (F : Fr h₀ L s.heap m) (X : (hd.heap_39 w.params).In h₀) (N : News h₀ L s.heap news) (T : Top p loose mean mg mb h₀) (hk : cs.kind = .function)
include B F X N T hk
theorem c_encode1 {x : Int} {t : Tok} (hd : dp + 1 < recursionLimit) (hu : un + 20 < cLine) (h0 : 0 ≤ x) (h1 : x < 128)
    (hret : ∀ (b : Array UInt8) (t : Tok) (h' : Heap) (tk' : Nat), KBw.bInts b = [x] → Fr h₀ L h' m → News h₀ L h' news → Q (.bytes b t) { s with heap := h', toks := tk' }) :
    Cl w dp un gd cn cs L a ccd cl outer 150 [.int x t] Q E s := by
  refine c_encode B F X N T hk hd hu h0 (by omega) fun b t h' tk' hb F' N' => hret b t h' tk' (by rw [hb, vb_small h0 h1]) F' N'
end
local macro_rules | `(tactic| walk_at "call ref") => `(tactic| (k_dflt (refine' c_encode1 (B := ?B) (F := ?F) (X := ?X) (N := ?N) (T := ?T) (hk := ?hk) (hd := ?hd) (hu := ?hu) (h0 := ?h0) (h1 := ?h1) (hret := ?_); (case B => k_asm); (case F => k_asm); (case X => k_asm); (case N => k_asm); (case T => k_asm); (case hk => first | exact rfl | assumption); (case hd => ktr_room); (case hu => ktr_units); (case h0 => assumption); (case h1 => assumption); k_whole; intro b' t' h' tk' hb' F' N'; (try dsimp only); (try k_sweep))))
section
variable {p : Program} {loose : List Str} {w : World} {mean : ExcName → Option Value} {mg mb : Str → Option Value} {dp un : Nat} {gd : Option (List Code)} {cn : Str} {cs : Scope} {a : Addr} {ccd : Value} {cl : List (Str × Addr)} {outer : List Env} {A₀ : Around} {base h₀ : Heap} {L : Addr} {m : Str → Option Value} {s : Shared} {Q E : Value → Shared → Prop} {news : Led}
  {x dx : Addr} {es : List DictEntry} {n : Nat} {pk : Value} {av : Str → Option Value}
variable (B : Below A₀ base outer h₀) (F : Fr h₀ L s.heap m) (X : (hd.heap_39 w.params).In h₀) (N : News h₀ L s.heap news) (T : Top p loose mean mg mb h₀) (hk : cs.kind = .function) (hx : (x, instO dx) ∈ news) (hdx : (dx, dictOf es n) ∈ news) (hT : Told es pk av)
include B F X N T hk hx hdx hT
theorem c_write {id ty : Int} {pv : PV} {v : Value} {t u : Tok} (hv : Val news pv v) (hf : Fit ty pv) (hi : 0 ≤ id ∧ id < 128) (hd : dp + 4 < recursionLimit) (hu : un + 80 < cLine)
    (hret : ∀ (b : Array UInt8) (t : Tok) (h' : Heap) (tk' : Nat), KBw.bInts b = id :: enc ty pv → Fr h₀ L h' m → News h₀ L h' news → Q (.bytes b t) { s with heap := h', toks := tk' }) :
    Cl w dp un gd cn cs L a ccd cl outer 276 [.ref x, .int id t, .int ty u, v] Q E s := by
  replace N := two N hx hdx
  clear hx hdx
  obtain ⟨hi0, hi1⟩ := hi
  refine wpAny_call ?_
  cases hf with
  | @b z h0 h1 =>
    obtain ⟨tv, rfl⟩ := hv
    have i1 : KBa.In [z] := by intro n hn; rw [List.mem_singleton.mp hn]; omega
    k_dflt cell_enter
    k_steps
    rename KBw.bInts (_ ++ _) = _ => h9
    exact hret _ _ _ _ (by rw [h9]; rfl) (by k_asm) (sub_led (by assumption) (by walk_at "unsub"))
  | w h0 h1 =>
    obtain ⟨tv, rfl⟩ := hv
    k_dflt cell_enter
    k_steps
    rename KBw.bInts (_ ++ _) = _ => h9
    exact hret _ _ _ _ (by rw [h9]; rfl) (by k_asm) (sub_led (by assumption) (by walk_at "unsub"))
  | d h0 h1 =>
    obtain ⟨tv, rfl⟩ := hv
    k_dflt cell_enter
    k_steps
    rename KBw.bInts (_ ++ _) = _ => h9
    exact hret _ _ _ _ (by rw [h9]; rfl) (by k_asm) (sub_led (by assumption) (by walk_at "unsub"))
  | @v z h0 h1 =>
    obtain ⟨tv, rfl⟩ := hv
    have hl9 : (vb z).length ≤ 4 := vbN_len 4 z
    k_dflt cell_enter
    k_steps
    rename KBw.bInts (_ ++ _) = _ => h9
    exact hret _ _ _ _ (by rw [h9]; rfl) (by k_asm) (sub_led (by assumption) (by walk_at "unsub"))
  | o h0 h1 =>
    obtain ⟨bb, tv, rfl, hb9⟩ := hv
    k_dflt cell_enter
    k_steps
    rename KBw.bInts (_ ++ _) = _ => h9
    exact hret _ _ _ _ (by rw [h9]; rfl) (by k_asm) (sub_led (by assumption) (by walk_at "unsub"))
  | @t k =>
    obtain ⟨tv, rfl⟩ := hv
    have hl9 := txB_len k
    k_dflt cell_enter
    k_steps
    rename KBw.bInts (_ ++ _) = _ => h9
    exact hret _ _ _ _ (by rw [h9]; rfl) (by k_asm) (sub_led (by assumption) (by walk_at "unsub"))
  | @p ka kb =>
    obtain ⟨q, t1, t2, rfl, hq⟩ := hv
    have hl8 := txB_len ka
    have hl9 := txB_len kb
    replace N : News h₀ L s.heap ((q, tupO [.str (txS ka) t1, .str (txS kb) t2]) :: (x, instO dx) :: (dx, dictOf es n) :: news) := fun p hp => (List.mem_cons.mp hp).elim (fun e => e ▸ N _ (.tail _ (.tail _ hq))) (N p)
    k_dflt cell_enter
    k_steps
    rename KBw.bInts (_ ++ _) = _ => h9
    exact hret _ _ _ _ (by rw [h9]; rfl) (by k_asm) (sub_led (by assumption) (by walk_at "unsub"))
end
theorem led_eq {g h : Heap} {L q : Addr} {v v' : Value} {z z' : Int} {t : Tok} {l : Led} (N : News g L h ((q, tupO [v, .int z t]) :: l)) (e : v = v') (e2 : z = z') : News g L h ((q, tupO [v', .int z' t]) :: l) := by subst e; subst e2; exact N
theorem end_one {l l' : Led} {a : Addr × Obj} (h : ∀ p ∈ l, p ∈ l') : ∀ p ∈ a :: l, p ∈ a :: l' := one_sub h
local macro_rules | `(tactic| walk_at "call ref") => `(tactic| (k_dflt (refine' c_write (B := ?B) (F := ?F) (X := ?X) (N := ?N) (T := ?T) (hk := ?hk) (hd := ?hd) (hu := ?hu) (hx := ?hx) (hdx := ?hdx) (hT := ?hT) (hv := ?hv) (hf := ?hf) (hi := ?hi) (hret := ?_); (case B => k_asm); (case F => k_asm); (case X => k_asm); (case N => k_asm); (case T => k_asm); (case hk => first | exact rfl | assumption); (case hd => ktr_room); (case hu => ktr_units); (case hx => k_mem); (case hdx => k_mem); (case hT => assumption); (case hv => assumption); (case hf => assumption); (case hi => assumption); k_whole; intro b' t' h' tk' hb' F' N'; (try dsimp only); (try k_sweep))))
local macro_rules | `(tactic| walk_at "call ref") => `(tactic| (k_dflt (refine' c_readBytes (B := ?B) (F := ?F) (X := ?X) (N := ?N) (T := ?T) (hk := ?hk) (hd := ?hd) (hu := ?hu) (hb := ?hb) (hn := ?hn) (hm := ?hm) (hz := ?hz) (hret := ?_); (case B => k_asm); (case F => k_asm); (case X => k_asm); (case N => k_asm); (case T => k_asm); (case hk => first | exact rfl | assumption); (case hd => ktr_room); (case hu => ktr_units); (case hb => assumption); (case hn => first | rfl | assumption); (case hm => omega); (case hz => omega); k_whole; intro q' b' t1' t2' h' tk' hb' F' N' l1'; (try dsimp only); (try k_sweep))))
local macro_rules | `(tactic| walk_at "call ref") => `(tactic| (k_dflt (refine' c_readUTF (B := ?B) (F := ?F) (X := ?X) (N := ?N) (T := ?T) (hk := ?hk) (hd := ?hd) (hu := ?hu) (hb := ?hb) (hm := ?hm) (hz := ?hz) (hret := ?_); (case B => k_asm); (case F => k_asm); (case X => k_asm); (case N => k_asm); (case T => k_asm); (case hk => first | exact rfl | assumption); (case hd => ktr_room); (case hu => ktr_units); (case hb => assumption); (case hm => omega); (case hz => first | omega | (simp only [tx, List.length_append, List.length_cons, List.length_nil]; omega)); k_whole; intro q' t1' t2' h' tk' F' N' l1'; (try dsimp only); (try k_sweep))))
local macro_rules | `(tactic| walk_at "call ref") => `(tactic| (k_dflt (refine' c_decode (B := ?B) (F := ?F) (X := ?X) (N := ?N) (T := ?T) (hk := ?hk) (hd := ?hd) (hu := ?hu) (hb := ?hb) (h0 := ?h0) (h1 := ?h1) (hz := ?hz) (hret := ?_); (case B => k_asm); (case F => k_asm); (case X => k_asm); (case N => k_asm); (case T => k_asm); (case hk => first | exact rfl | assumption); (case hd => ktr_room); (case hu => ktr_units); (case hb => assumption); (case h0 => with_reducible assumption); (case h1 => with_reducible assumption); (case hz => first | omega | (simp only [List.length_append, List.length_cons, List.length_nil]; omega)); k_whole; intro q' t1' t2' h' tk' F' N' l1'; (try dsimp only); (try k_sweep))))
section
variable {p : Program} {loose : List Str} {w : World} {mean : ExcName → Option Value} {mg mb : Str → Option Value} {dp un : Nat} {gd : Option (List Code)} {cn : Str} {cs : Scope} {a : Addr} {ccd : Value} {cl : List (Str × Addr)} {outer : List Env} {A₀ : Around} {base h₀ : Heap} {L : Addr} {m : Str → Option Value} {s : Shared} {Q E : Value → Shared → Prop} {news : Led}
  {x dx : Addr} {es : List DictEntry} {n : Nat} {pk : Value} {av : Str → Option Value}
variable (B : Below A₀ base outer h₀) (F : Fr h₀ L s.heap m) (X : (hd.heap_39 w.params).In h₀) (N : News h₀ L s.heap news) (T : Top p loose mean mg mb h₀) (hk : cs.kind = .function) (hx : (x, instO dx) ∈ news) (hdx : (dx, dictOf es n) ∈ news) (hT : Told es pk av)
include B F X N T hk hx hdx hT
theorem c_read {ty pl : Int} {pv : PV} {b : Array UInt8} {r : List Int} {t u u' : Tok} (hf : Fit ty pv) (hb : KBw.bInts b = enc ty pv ++ r) (hl : ((enc ty pv).length : Int) ≤ pl) (hz : r.length ≤ 500) (hd : dp + 4 < recursionLimit) (hu : un + 80 < cLine)
    (hret : ∀ (q : Addr) (v : Value) (t : Tok) (h' : Heap) (tk' : Nat) (new : Led), Val (new ++ news) pv v → VT (new ++ news) v → Fr h₀ L h' m → News h₀ L h' ((q, tupO [v, .int ((enc ty pv).length : Int) t]) :: (new ++ news)) → Q (.ref q) { s with heap := h', toks := tk' }) :
    Cl w dp un gd cn cs L a ccd cl outer 290 [.ref x, .bytes b t, .int ty u, .int pl u'] Q E s := by
  replace N := two N hx hdx
  clear hx hdx
  refine wpAny_call ?_
  cases hf with
  | @b z h0 h1 =>
    replace hb : KBw.bInts b = z :: r := hb
    k_dflt cell_enter
    k_steps
    refine KBw.item_K hb (by simp only [List.length_cons]; omega) (by omega) (by simp only [List.length_cons]; omega) ?_
    intro _ _ kbaLo kbaHi
    k_steps
    rename News _ _ _ _ => nE
    exact hret _ (.int z _) _ _ _ [] ⟨_, rfl⟩ (.inl ⟨_, _, rfl⟩) (by k_asm) (sub_led (led_eq nE rfl rfl) (end_one (by walk_at "unsub")))
  | @w z h0 h1 =>
    replace hb : KBw.bInts b = (z / 256 % 256) :: (z % 256) :: r := hb
    k_dflt cell_enter
    k_steps
    rename News _ _ _ _ => nE
    exact hret _ (.int z _) _ _ _ [] ⟨_, rfl⟩ (.inl ⟨_, _, rfl⟩) (by k_asm) (sub_led (led_eq nE (by rw [show z / 256 % 256 * 256 + z % 256 = z by omega]) rfl) (end_one (by walk_at "unsub")))
  | @d z h0 h1 =>
    replace hb : KBw.bInts b = (z / 256 / 256 / 256 % 256) :: (z / 256 / 256 % 256) :: (z / 256 % 256) :: (z % 256) :: r := hb
    k_dflt cell_enter
    k_steps
    rename News _ _ _ _ => nE
    exact hret _ (.int z _) _ _ _ [] ⟨_, rfl⟩ (.inl ⟨_, _, rfl⟩) (by k_asm) (sub_led (led_eq nE (by rw [show ((z / 256 / 256 / 256 % 256 * 256 + z / 256 / 256 % 256) * 256 + z / 256 % 256) * 256 + z % 256 = z by omega]) rfl) (end_one (by walk_at "unsub")))
  | @v z h0 h1 =>
    replace hb : KBw.bInts b = vb z ++ r := hb
    have hl9 : (vb z).length ≤ 4 := vbN_len 4 z
    k_dflt cell_enter
    k_steps
    rename News _ _ _ _ => nE
    exact hret _ (.int z _) _ _ _ [] ⟨_, rfl⟩ (.inl ⟨_, _, rfl⟩) (by k_asm) (sub_led (led_eq nE rfl rfl) (end_one (by walk_at "unsub")))
  | @o ks hk2 hk3 =>
    replace hb : KBw.bInts b = 0 :: (ks.length : Int) :: (ks ++ r) := hb
    replace hl : ((0 :: (ks.length : Int) :: ks).length : Int) ≤ pl := hl
    simp only [List.length_cons] at hl
    k_dflt cell_enter
    k_steps
    rename News _ _ _ _ => nE
    exact hret _ (.bytes _ _) _ _ _ [] ⟨_, _, rfl, by assumption⟩ (.inr (.inr (.inl ⟨_, _, rfl⟩))) (by k_asm) (sub_led (led_eq nE rfl (by simp only [enc, List.length_cons]; omega)) (end_one (by walk_at "unsub")))
  | @t k =>
    replace hb : KBw.bInts b = 0 :: ((txB k).length : Int) :: (txB k ++ r) := hb
    have hl9 := txB_len k
    replace hl : ((0 :: ((txB k).length : Int) :: txB k).length : Int) ≤ pl := hl
    simp only [List.length_cons] at hl
    k_dflt cell_enter
    k_steps
    rename News _ _ _ _ => nE
    exact hret _ (.str (txS k) _) _ _ _ [] ⟨_, rfl⟩ (.inr (.inl ⟨_, _, rfl⟩)) (by k_asm) (sub_led (led_eq nE rfl (by simp only [enc, tx, List.length_cons]; omega)) (end_one (by walk_at "unsub")))
  | @p ka kb =>
    have hl8 := txB_len ka
    have hl9 := txB_len kb
    replace hb : KBw.bInts b = 0 :: ((txB ka).length : Int) :: (txB ka ++ (tx kb ++ r)) := by rw [hb]; simp [enc, tx]
    replace hl : ((tx ka ++ tx kb).length : Int) ≤ pl := hl
    simp only [tx, List.length_cons, List.length_append] at hl
    k_dflt cell_enter
    k_steps
    rename KBw.bInts (KBy.picked _ _ _) = _ => h9
    replace h9 := h9.trans (cut_from (pre := tx ka) (l := tx kb ++ r) (by simp only [tx, List.length_cons]; omega))
    k_steps
    rename News _ _ _ _ => nE
    exact hret _ (.ref _) _ _ _ [_] ⟨_, _, _, rfl, .head _⟩ (.inr (.inr (.inr ⟨_, _, rfl, .head _⟩))) (by k_asm) (sub_led (led_eq nE rfl (by simp only [enc, tx, List.length_cons, List.length_append]; omega)) (end_one (end_one (by walk_at "unsub"))))
end
/-- values side by side -/
inductive Vals (led : Led) : List PV → List Value → Prop
  | nil : Vals led [] []
  | cons {p v ps vs} : Val led p v → Vals led ps vs → Vals led (p :: ps) (v :: vs)
theorem Val.sub {led led' : Led} {p : PV} {v : Value} (h : Val led p v) (hs : ∀ q ∈ led, q ∈ led') : Val led' p v := by
  cases p with
  | pair a b => obtain ⟨q, t1, t2, e, hq⟩ := h; exact ⟨q, t1, t2, e, hs _ hq⟩
  | _ => exact h
theorem Vals.sub {led led' : Led} {ps : List PV} {vs : List Value} (h : Vals led ps vs) (hs : ∀ q ∈ led, q ∈ led') : Vals led' ps vs := by
  induction h with
  | nil => exact .nil
  | cons h _ ih => exact .cons (h.sub hs) ih
theorem Vals.at {led : Led} {ps : List PV} {vs : List Value} (h : Vals led ps vs) : ∀ {i : Nat} {v : Value}, vs[i]? = some v → ∃ p, ps[i]? = some p ∧ Val led p v := by
  induction h with
  | nil => intro i v h; cases h
  | cons h _ ih =>
    intro i v hi
    cases i with
    | zero => cases hi; exact ⟨_, rfl, h⟩
    | succ i => exact ih hi
theorem Vals.length {led : Led} {ps : List PV} {vs : List Value} (h : Vals led ps vs) : vs.length = ps.length := by
  induction h with
  | nil => rfl
  | cons _ _ ih => simp [ih]
/-- what a made object bears of a row -/
def Desc (led : Led) (av : Str → Option Value) (r : Rw) (ps : List PV) : Prop :=
  (ps = [] ∧ av r.cm = none) ∨ ((∀ p ∈ ps, Fit r.ty p) ∧
    ((r.multi = false ∧ ∃ v p, ps = [p] ∧ av r.cm = some v ∧ Val led p v) ∨
     (r.multi = true ∧ ∃ (l : Addr) (vs : List Value) (k : Nat), av r.cm = some (.ref l) ∧ (l, listOf vs.toArray k) ∈ led ∧ vs.length ≤ 900 ∧ ps ≠ [] ∧ Vals led ps vs)))
def outR (ps : Rw → List PV) (r : Rw) : List Int := (ps r).flatMap fun p => r.id :: enc r.ty p
section
variable {p : Program} {loose : List Str} {w : World} {mean : ExcName → Option Value} {mg mb : Str → Option Value} {dp un : Nat} {gd : Option (List Code)} {cn : Str} {cs : Scope} {a : Addr} {ccd : Value} {cl : List (Str × Addr)} {outer : List Env} {A₀ : Around} {base h₀ : Heap} {L : Addr} {m : Str → Option Value} {s : Shared} {Q E : Value → Shared → Prop} {news : Led}
  {x dx : Addr} {es : List DictEntry} {n : Nat} {pk : Value} {av : Str → Option Value}
variable (B : Below A₀ base outer h₀) (F : Fr h₀ L s.heap m) (X : (hd.heap_39 w.params).In h₀) (N : News h₀ L s.heap news) (T : Top p loose mean mg mb h₀) (hk : cs.kind = .function) (hx : (x, instO dx) ∈ news) (hdx : (dx, dictOf es n) ∈ news) (hT : Told es pk av)
include B F X N T hk hx hdx hT
/-- what pack writes of the attributes -/
theorem c_pack {ps : Rw → List PV} (hD : ∀ r ∈ rows, Desc news av r (ps r)) (hz : (rows.flatMap (outR ps)).length ≤ 600) (hd : dp + 5 < recursionLimit) (hu : un + 100 < cLine)
    (hret : ∀ (b : Array UInt8) (t : Tok) (h' : Heap) (tk' : Nat), KBw.bInts b = vb (rows.flatMap (outR ps)).length ++ rows.flatMap (outR ps) → Fr h₀ L h' m → News h₀ L h' news → Q (.bytes b t) { s with heap := h', toks := tk' }) :
    Cl w dp un gd cn cs L a ccd cl outer 283 [.ref x] Q E s := by
  replace N := two N hx hdx
  clear hx hdx
  refine wpAny_call ?_
  k_dflt cell_enter
  k_steps
  walk_at "for"
  k_steps
  unfold Hold
  rename Fr _ _ _ _ => lF
  rename News _ _ _ _ => lN
  rename Frag.In _ _ => lX
  refine for_dict (fun i m₁ nx => nx = [] ∧ ∃ b t, KBw.bInts b = (rows.take i).flatMap (outR ps) ∧ Has ["name", "compressedName", "identifier", "attr_type", "prop", "buffer"] _ [("buffer", .bytes b t)] m₁) rfl (names_at lX) (by decide) lF lN ⟨rfl, _, _, bInts_nil, Has.refl (by kst_all1)⟩ ?_ ?_
  · rintro i k v t m₁ nx own h tk htk hkv ⟨rfl, bb, tb, hbb, hm⟩ - - hsub F1 N1
    obtain ⟨r', hr', hm', rfl, rfl⟩ := kvN_at hkv
    obtain ⟨u, rfl⟩ := hm.out
    have hx := hsub _ (.head _)
    have hdx := hsub _ (.tail _ (.head _))
    have hnext : (rows.take (i + 1)).flatMap (outR ps) = (rows.take i).flatMap (outR ps) ++ outR ps r' := by rw [List.take_add_one, hr']; simp
    have hlen : ((rows.take i).flatMap (outR ps)).length + (outR ps r').length ≤ 600 := by
      have e : rows.flatMap (outR ps) = (rows.take i).flatMap (outR ps) ++ (rows.drop i).flatMap (outR ps) := by rw [← List.flatMap_append, List.take_append_drop]
      have e2 : rows.drop i = r' :: rows.drop (i + 1) := by
        obtain ⟨hi, e3⟩ := List.getElem?_eq_some_iff.mp hr'
        rw [← e3]; exact List.drop_eq_getElem_cons hi
      rw [e, e2] at hz
      simp only [List.flatMap_cons, List.length_append] at hz
      omega
    have hri := rows_in r' hm'
    have hid : 0 ≤ r'.id ∧ r'.id < 128 := ⟨by omega, by omega⟩
    generalize hpre : (rows.take i).flatMap (outR ps) = pre at hbb hnext hlen
    rcases hD r' hm' with ⟨hp, hav⟩ | ⟨hfit, ⟨hmu, v9, p9, hp, hav, hval⟩ | ⟨hmu, l9, vs9, k9, hav, hl9, hv9, hne, hvals⟩⟩
    · k_steps
      · exfalso; rename (av r'.cm).isSome = true => e9; rw [hav] at e9; cases e9
      · exfalso; rename (av r'.cm).isSome = true => e9; rw [hav] at e9; cases e9
      · exact TurnEnd.next [] (by k_asm) (by k_asm) (fun _ h => nomatch h) ⟨rfl, bb, tb, by rw [hnext, hbb, outR, hp]; simp, by walk_at "has"⟩
    · k_steps
      · rename Fr _ _ _ _ => lF
        rename News _ _ _ _ => lN
        refine kbm_ownBy lF lX (InstAt.of_news lN (by k_mem) (by k_mem)) (plain_cm r' hm') (by k_is) (find_cm r' hm') rfl ((Told.attr hT r' hm').trans (by rw [hav])) (hT.hand _ _ hav) ?_
        have hfit9 := hfit p9 (by rw [hp]; exact .head _)
        have hval9 := hval.sub (fun q hq => hsub _ (.tail _ (.tail _ hq)))
        have houtl : outR ps r' = r'.id :: enc r'.ty p9 := by rw [outR, hp]; simp
        rw [houtl] at hlen hnext
        simp only [List.length_cons] at hlen
        k_steps
        exact TurnEnd.next [] (by k_asm) (by k_asm) (fun _ h => nomatch h) ⟨rfl, _, _, by rw [hnext]; assumption, by walk_at "has"⟩
      · exfalso; rename (av r'.cm).isSome = false => e9; rw [hav] at e9; cases e9
    · k_steps
      · walk_at "for"
        k_steps
        rename Fr _ _ _ _ => lF
        rename News _ _ _ _ => lN
        refine kbm_ownBy lF lX (InstAt.of_news lN (by k_mem) (by k_mem)) (plain_cm r' hm') (by k_is) (find_cm r' hm') rfl ((Told.attr hT r' hm').trans (by rw [hav])) rfl ?_
        k_steps
        unfold Hold
        rename Fr _ _ _ _ => lF
        rename News _ _ _ _ => lN
        refine for_list (vs := vs9) (fun j m₂ nx => nx = [] ∧ ∃ b t, KBw.bInts b = pre ++ ((ps r').take j).flatMap (fun p => r'.id :: enc r'.ty p) ∧ Has ["prop", "buffer"] _ [("buffer", .bytes b t)] m₂) rfl (hsub _ (.tail _ (.tail _ hl9))) lF lN ⟨rfl, bb, tb, by rw [hbb]; simp, Has.refl (by kst_all1)⟩ ?_ ?_
        · rintro j v m₂ nx own2 h tk htk hvj ⟨rfl, b2, t2, hb2, hm2⟩ - - hsub2 F1 N1
          obtain ⟨u2, rfl⟩ := hm2.out
          obtain ⟨p9, hp9, hval⟩ := hvals.at hvj
          have hfit9 := hfit p9 (List.mem_of_getElem? hp9)
          have hx := hsub2 _ hx
          have hdx := hsub2 _ hdx
          have hval9 := hval.sub (fun q hq => hsub2 _ (hsub _ (.tail _ (.tail _ hq))))
          have hn2 : ((ps r').take (j + 1)).flatMap (fun p => r'.id :: enc r'.ty p) = ((ps r').take j).flatMap (fun p => r'.id :: enc r'.ty p) ++ (r'.id :: enc r'.ty p9) := by rw [List.take_add_one, hp9]; simp
          have hs9 : (((ps r').take j).flatMap (fun p => r'.id :: enc r'.ty p)).length + ((enc r'.ty p9).length + 1) ≤ (outR ps r').length := by
            have e : outR ps r' = ((ps r').take (j + 1)).flatMap (fun p => r'.id :: enc r'.ty p) ++ ((ps r').drop (j + 1)).flatMap (fun p => r'.id :: enc r'.ty p) := by rw [← List.flatMap_append, List.take_append_drop]; rfl
            rw [e, hn2]
            simp only [List.length_append, List.length_cons]
            omega
          generalize ((ps r').take j).flatMap (fun p => r'.id :: enc r'.ty p) = mid at hb2 hn2 hs9
          k_steps
          exact TurnEnd.next [] (by k_asm) (by k_asm) (fun _ h => nomatch h) ⟨rfl, _, _, by rw [hn2, ← List.append_assoc]; assumption, by walk_at "has"⟩
        · rintro m₂ nx h tk htk ⟨rfl, b2, t2, hb2, hm2⟩ F1 N1
          obtain ⟨u2, rfl⟩ := hm2.out
          rw [hvals.length, List.take_length] at hb2
          k_steps
          exact TurnEnd.next [] (by k_asm) (by k_asm) (fun _ h => nomatch h) ⟨rfl, b2, t2, by rw [hnext, hb2]; rfl, by walk_at "has"⟩
      · exfalso; rename (av r'.cm).isSome = false => e9; rw [hav] at e9; cases e9
  · rintro m₁ nx h tk htk ⟨rfl, bb, tb, hbb, hm⟩ F1 N1
    rw [show kvN.length = rows.length from rfl, List.take_length] at hbb
    obtain ⟨u, rfl⟩ := hm.out
    generalize rows.flatMap (outR ps) = ls at hbb hz hret
    have hl9 : (vb (ls.length : Int)).length ≤ 4 := vbN_len 4 _
    k_steps
    exact hret _ _ _ _ (by assumption) (by k_asm) (sub_led (by assumption) (by walk_at "unsub"))
end
theorem notin_pk_no {w : World} {A : Around} {h₀ : Heap} {L : Addr} {m : Str → Option Value} {s : Shared} {Q E : Value → Shared → Prop} {r : Rw} {k : Int} {t : Tok} (F : Fr h₀ L s.heap m) (X : (hd.heap_39 w.params).In h₀) (hr : r ∈ rows) (hp : ((r.pk.map (·.1)).any (· == k)) = false) (h : Q (.bool true) s) :
    wpAny (model PySem.Challenge.pw_ci0033_01 w) A (compareOp .NotIn (.int k t) (.ref r.lst)) Q E s := notin_pk F X hr (by rw [hp]; exact h)
local macro_rules | `(tactic| walk_at "compareOp NotIn int ref") => `(tactic| ((with_reducible show wpAny _ _ (compareOp _ _ (Value.ref (Rw.lst _))) _ _ _); k_dflt (refine notin_pk_no (by k_asm) (by k_asm) (by assumption) (by assumption) ?_)))
local macro_rules | `(tactic| walk_at "formatField str") => `(tactic| ((with_reducible show wpAny _ _ (formatField _ _) _ _ _); refine Hold.mk ?_))
section
variable {p : Program} {loose : List Str} {w : World} {mean : ExcName → Option Value} {mg mb : Str → Option Value} {dp un : Nat} {gd : Option (List Code)} {cn : Str} {cs : Scope} {a : Addr} {ccd : Value} {cl : List (Str × Addr)} {outer : List Env} {A₀ : Around} {base h₀ : Heap} {L : Addr} {m : Str → Option Value} {s : Shared} {Q E : Value → Shared → Prop} {news : Led}
  {x dx : Addr} {es : List DictEntry} {n : Nat} {pkn : Int} {pkt : Tok} {av : Str → Option Value}
variable (B : Below A₀ base outer h₀) (F : Fr h₀ L s.heap m) (X : (hd.heap_39 w.params).In h₀) (N : News h₀ L s.heap news) (T : Top p loose mean mg mb h₀) (hk : cs.kind = .function) (hx : (x, instO dx) ∈ news) (hdx : (dx, dictOf es n) ∈ news) (hT : Told es (.int pkn pkt) av)
include B F X N T hk hx hdx hT
theorem c_set_no {r : Rw} {t : Tok} {v : Value} (hr : r ∈ rows) (hpk : ((r.pk.map (·.1)).any (· == pkn)) = false) (hd : dp + 3 < recursionLimit) (hu : un + 60 < cLine)
    (hE : ∀ (g : Heap) (e t : Addr) (vs : List Value) (new : Led) (h' : Heap) (tk' : Nat), Fr h₀ L g m → RaisedS base g (envX cn cs L a ccd cl :: outer) e (.ref 65) t vs new h' → (∀ q ∈ news, q ∈ new) → g.UpToSlots h' → E (.ref e) { s with heap := h', toks := tk' }) :
    Cl w dp un gd cn cs L a ccd cl outer 262 [.ref x, .str r.nm t, v] Q E s := by
  replace N := two N hx hdx
  clear hx hdx
  have hstop : StopIf := trivial
  have hkd : KtsDicts ([] : List Addr) h₀ := ktsDicts_nil
  have hl9 : r.cm.length ≤ 40 := (rows_len r hr).2
  refine wpAny_call ?_
  k_dflt cell_enter
  k_steps
  unfold Hold
  refine comp_T (fun _ => true) (fun v y => ∃ k t t', v = .str k t ∧ y = .str (Txt.replace k (Str.ofString " ") (Str.ofString "")) t') (by with_unfolding_all rfl) (by with_unfolding_all decide) rfl (by with_unfolding_all decide) rfl ?_
  k_steps
  unfold Hold
  rename Fr _ _ _ _ => lF
  rename News _ _ _ _ => lN
  rename Frag.In _ _ => lX
  refine comp_dict rfl (names_at lX) (by decide) (by decide) lF lN ?_ ?_ ?_
  · intro C i k v t s₃ m₃ E' ht hkv F1 N1
    obtain ⟨hp, g, d, tk, os⟩ := s₃
    exact wpAny_pure ⟨rfl, Keeps.toks⟩
  · intro C i k v t s₃ m₃ E' ht hkv _ F1 N1
    obtain ⟨r', hr', hm', rfl, rfl⟩ := kvN_at hkv
    obtain ⟨hp, g, d, tk, os⟩ := s₃
    have htk : 1 ≤ tk := Nat.le_trans (by dsimp only at *; omega) ht
    k_steps
    all_goals first | exact Str.ofString "" | exact Value.none | exact ([] : List (Str × Addr)) | exact (0 : Nat) | exact ⟨⟨_, _, _, rfl, by rw [rows_comp r' hm']⟩, Keeps.toks⟩
  · intro D h' tk ys n' vs hlen hP hG F1 N1 hD
    have hS : StrsAre ys (rows.map (·.cm)) := names_comp hlen hP hG
    refine notin_list_strs (News.isList N1 (.head _)) hS ?_
    rw [names_any r hr]
    k_steps
    unfold Hold
    refine field_name hr ?_
    intro t9 k9
    dsimp only
    refine ⟨?_, ?_⟩
    · rw [strLen_append, strLen_append, sizeLine_eq]
      have e1 : (Str.ofString "Property ").length = 9 := by decide +kernel
      have e2 : Str.empty.length = 0 := rfl
      omega
    · have hq9 : (Str.empty ++ Str.ofString "Property " ++ r.cm).length ≤ 60 := by
        rw [strLen_append, strLen_append]
        have e1 : (Str.ofString "Property ").length = 9 := by decide +kernel
        have e2 : Str.empty.length = 0 := rfl
        omega
      generalize Str.empty ++ Str.ofString "Property " ++ r.cm = msg at hq9
      walk1
      walk1
      dsimp only
      refine ⟨?_, ?_⟩
      · rw [strLen_append, sizeLine_eq]
        have e3 : (Str.ofString " does not apply to this packet type").length ≤ 60 := by decide +kernel
        omega
      · have hq8 : (msg ++ Str.ofString " does not apply to this packet type").length ≤ 200 := by
          rw [strLen_append]
          have e3 : (Str.ofString " does not apply to this packet type").length ≤ 60 := by decide +kernel
          omega
        generalize msg ++ Str.ofString " does not apply to this packet type" = msg2 at hq8
        refine joinParts_nilE (joinParts_nil ?_ (by rw [sizeLine_eq]; omega))
        k_steps
        exact hE _ _ _ _ _ _ _ (by assumption) (by assumption) (by walk_at "unsub") (by assumption)
end
abbrev Blk := Rw × PV
def octs (bl : List Blk) : List Int := bl.flatMap fun q => q.1.id :: enc q.1.ty q.2
def psOf (done : List Blk) (r : Rw) : List PV := (done.filter fun q => q.1.id == r.id).map (·.2)
/-- whether a packet of the kind pkn takes the blocks, one after another -/
def okF (pkn : Int) : List Blk → List Blk → Bool
  | _, [] => true
  | done, q :: rest => (q.1.multi || !(done.any fun z => z.1.id == q.1.id)) && (q.1.pk.map (·.1)).any (· == pkn) && okF pkn (done ++ [q]) rest
section
variable {g h : Heap} {L dx : Addr} {led led' : Led} {es : List DictEntry} {n : Nat}
/-- what is no dict outlives a store into told's dict -/
theorem keeps_list (N : News g L h led) (hdx : (dx, dictOf es n) ∈ led) (hs : ∀ p ∈ led, p.1 ≠ dx → p ∈ led') {l : Addr} {vs : Array Value} {k : Nat} (hl : (l, listOf vs k) ∈ led) : (l, listOf vs k) ∈ led' := by
  refine hs _ hl fun e => ?_
  have e' : l = dx := e
  rw [e'] at hl
  have h9 := congrArg Obj.cls (led_one N hl hdx)
  dsimp only at h9
  exact absurd h9 (by decide)
theorem keeps_tup (N : News g L h led) (hdx : (dx, dictOf es n) ∈ led) (hs : ∀ p ∈ led, p.1 ≠ dx → p ∈ led') {l : Addr} {vs : List Value} (hl : (l, tupO vs) ∈ led) : (l, tupO vs) ∈ led' := by
  refine hs _ hl fun e => ?_
  have e' : l = dx := e
  rw [e'] at hl
  have h9 := congrArg Obj.cls (led_one N hl hdx)
  dsimp only at h9
  exact absurd h9 (by decide)
theorem Val.keeps (N : News g L h led) (hdx : (dx, dictOf es n) ∈ led) (hs : ∀ p ∈ led, p.1 ≠ dx → p ∈ led') {p : PV} {v : Value} (hv : Val led p v) : Val led' p v := by
  cases p with
  | pair a b => obtain ⟨q, t1, t2, e, hq⟩ := hv; exact ⟨q, t1, t2, e, keeps_tup N hdx hs hq⟩
  | _ => exact hv
theorem Vals.keeps (N : News g L h led) (hdx : (dx, dictOf es n) ∈ led) (hs : ∀ p ∈ led, p.1 ≠ dx → p ∈ led') {ps : List PV} {vs : List Value} (hv : Vals led ps vs) : Vals led' ps vs := by
  induction hv with
  | nil => exact .nil
  | cons h _ ih => exact .cons (h.keeps N hdx hs) ih
theorem Desc.keeps (N : News g L h led) (hdx : (dx, dictOf es n) ∈ led) (hs : ∀ p ∈ led, p.1 ≠ dx → p ∈ led') {av : Str → Option Value} {r : Rw} {ps : List PV} (hd : Desc led av r ps) : Desc led' av r ps := by
  rcases hd with h | ⟨hf, ⟨hm, v, p, e, ha, hv⟩ | ⟨hm, l, vs, k, ha, hl, hz, hne, hv⟩⟩
  · exact .inl h
  · exact .inr ⟨hf, .inl ⟨hm, v, p, e, ha, hv.keeps N hdx hs⟩⟩
  · exact .inr ⟨hf, .inr ⟨hm, l, vs, k, ha, keeps_list N hdx hs hl, hz, hne, hv.keeps N hdx hs⟩⟩
theorem Vals.snoc {ps : List PV} {vs : List Value} {p : PV} {v : Value} (h : Vals led ps vs) (hv : Val led p v) : Vals led (ps ++ [p]) (vs ++ [v]) := by
  induction h with
  | nil => exact .cons hv .nil
  | cons h _ ih => exact .cons h ih
end
theorem psOf_other {done : List Blk} {r0 r : Rw} {p0 : PV} (h : r0.id ≠ r.id) : psOf (done ++ [(r0, p0)]) r = psOf done r := by
  unfold psOf
  rw [List.filter_append]
  simp [h]
theorem psOf_same {done : List Blk} {r : Rw} {p0 : PV} : psOf (done ++ [(r, p0)]) r = psOf done r ++ [p0] := by
  unfold psOf
  rw [List.filter_append]
  simp
theorem listOf_inj {a b : List Value} {j k : Nat} (h : listOf a.toArray j = listOf b.toArray k) : a = b := by
  have h9 := congrArg Obj.data h
  dsimp only at h9
  injection h9 with h1 h2
  exact List.toArray_inj h1
theorem desc_step {g h : Heap} {L dx : Addr} {led led' new : Led} {es : List DictEntry} {n : Nat} {av : Str → Option Value} {done : List Blk} {r0 : Rw} {p0 : PV} {v v' : Value} (N : News g L h led) (hdx : (dx, dictOf es n) ∈ led) (hs : ∀ p ∈ led, p.1 ≠ dx → p ∈ led') (hnew : ∀ p ∈ new, p ∈ led')
    (hNV : NewV r0 av v led new v') (hv : Val led p0 v) (hf : Fit r0.ty p0) (hr0 : r0 ∈ rows) (hD : ∀ r ∈ rows, Desc led av r (psOf done r)) (hone : r0.multi = false → psOf done r0 = []) (hlen : done.length ≤ 800) :
    ∀ r ∈ rows, Desc led' (updA av r0.cm v') r (psOf (done ++ [(r0, p0)]) r) := by
  intro r hr
  by_cases e : r0 = r
  · subst e
    rw [psOf_same]
    have hpl : (psOf done r0).length ≤ 800 := by
      unfold psOf
      rw [List.length_map]
      exact Nat.le_trans (List.length_filter_le _ _) hlen
    have hup : updA av r0.cm v' r0.cm = some v' := by unfold updA; rw [if_pos rfl]
    have hfit : ∀ p ∈ psOf done r0 ++ [p0], Fit r0.ty p := by
      intro p hp
      rcases List.mem_append.mp hp with hp | hp
      · rcases hD r0 hr with ⟨e, _⟩ | ⟨hf', _⟩
        · rw [e] at hp; cases hp
        · exact hf' p hp
      · rw [List.mem_singleton.mp hp]; exact hf
    rcases hNV with ⟨hm, rfl, rfl⟩ | ⟨hm, l, vs, k, rfl, rfl, hc⟩
    · refine .inr ⟨hfit, .inl ⟨hm, v', p0, by rw [hone hm]; rfl, hup, hv.keeps N hdx hs⟩⟩
    · have hvals : Vals led (psOf done r0) vs := by
        rcases hc with ⟨hav, rfl⟩ | ⟨l0, n0, hav, hl0⟩
        · rcases hD r0 hr with ⟨e, _⟩ | ⟨_, ⟨_, v2, p, _, ha, _⟩ | ⟨_, l2, vs2, k2, ha, _⟩⟩
          · rw [e]; exact .nil
          · rw [hav] at ha; cases ha
          · rw [hav] at ha; cases ha
        · rcases hD r0 hr with ⟨_, ha⟩ | ⟨_, ⟨hm2, _⟩ | ⟨_, l2, vs2, k2, ha, hl2, _, _, hv2⟩⟩
          · rw [hav] at ha; cases ha
          · rw [hm] at hm2; cases hm2
          · rw [hav] at ha
            cases ha
            rw [listOf_inj (led_one N hl0 hl2)]
            exact hv2
      refine .inr ⟨hfit, .inr ⟨hm, l, vs ++ [v], k, hup, hnew _ (.head _), ?_, by simp, (hvals.snoc hv).keeps N hdx hs⟩⟩
      rw [List.length_append, hvals.length]
      simp only [List.length_singleton]
      omega
  · have hid : r0.id ≠ r.id := fun q => e (rows_id r0 hr0 r hr q)
    have hcm : r.cm ≠ r0.cm := fun q => e (rows_cm r0 hr0 r hr q.symm)
    rw [psOf_other hid]
    have hu : updA av r0.cm v' r.cm = av r.cm := by unfold updA; rw [if_neg hcm]
    rcases (hD r hr).keeps N hdx hs with ⟨a, b⟩ | ⟨hf', ⟨hm, v2, p, a, b, c⟩ | ⟨hm, l2, vs2, k2, a, b⟩⟩
    · exact .inl ⟨a, by rw [hu]; exact b⟩
    · exact .inr ⟨hf', .inl ⟨hm, v2, p, a, by rw [hu]; exact b, c⟩⟩
    · exact .inr ⟨hf', .inr ⟨hm, l2, vs2, k2, by rw [hu]; exact a, b⟩⟩
local macro_rules | `(tactic| k_mem) => `(tactic| first | exact List.Mem.head _ | (refine List.mem_cons_of_mem _ ?_; k_mem))
local macro_rules | `(tactic| walk_at "call ref") => `(tactic| (k_dflt ((refine wpAny_with_toks (n := 1) (by walk_at "tok_pos") ?_); refine' c_read (B := ?B) (F := ?F) (X := ?X) (N := ?N) (T := ?T) (hk := ?hk) (hd := ?hd) (hu := ?hu) (hx := ?hx) (hdx := ?hdx) (hT := ?hT) (hf := ?hf) (hb := ?hb) (hl := ?hl) (hz := ?hz) (hret := ?_); (case B => k_asm); (case F => k_asm); (case X => k_asm); (case N => k_asm); (case T => k_asm); (case hk => first | exact rfl | assumption); (case hd => ktr_room); (case hu => ktr_units); (case hx => k_mem); (case hdx => k_mem); (case hT => assumption); (case hf => assumption); (case hb => assumption); (case hl => omega); (case hz => first | omega | (simp only [List.length_append]; omega)); k_whole; intro q' v' t1' h' tk' new' hval' hvt' F' N'; intro htk'; (try dsimp only at htk'); (try dsimp only); (try k_sweep))))
/-- a block whose value the checks let pass -/
def okP (q : Blk) : Prop := q.1 ∈ rows ∧ Fit q.1.ty q.2 ∧ ∀ z, q.2 = .int z → ((q.1.id = 33 ∨ q.1.id = 35) → 1 ≤ z ∧ z ≤ 65535) ∧ (q.1.id = 34 → 0 ≤ z ∧ z ≤ 65535) ∧ ((q.1.id = 39 ∨ q.1.id = 11) → 1 ≤ z ∧ z ≤ 268435455) ∧ ((q.1.id = 25 ∨ q.1.id = 23 ∨ q.1.id = 1) → z = 0 ∨ z = 1)
theorem okP.okV {led : Led} {r : Rw} {p : PV} {v : Value} (h : okP (r, p)) (hv : Val led p v) : okV r v := by
  intro z t e
  cases p with
  | int n => obtain ⟨t', rfl⟩ := hv; cases e; exact h.2.2 _ rfl
  | oct ks => obtain ⟨b, t', rfl, _⟩ := hv; cases e
  | txt k => obtain ⟨t', rfl⟩ := hv; cases e
  | pair a b => obtain ⟨q, t1, t2, rfl, _⟩ := hv; cases e
theorem num_ty : ∀ r ∈ rows, numR r = true → r.ty = 0 ∨ r.ty = 1 ∨ r.ty = 2 ∨ r.ty = 3 := by decide +kernel
theorem okP.num {led : Led} {r : Rw} {p : PV} {v : Value} (h : okP (r, p)) (hv : Val led p v) (hn : numR r = true) : ∃ z t, v = .int z t := by
  have ht := num_ty r h.1 hn
  have hf : Fit r.ty p := h.2.1
  generalize r.ty = ty at hf ht
  cases hf with
  | b _ _ => obtain ⟨t', rfl⟩ := hv; exact ⟨_, _, rfl⟩
  | w _ _ => obtain ⟨t', rfl⟩ := hv; exact ⟨_, _, rfl⟩
  | d _ _ => obtain ⟨t', rfl⟩ := hv; exact ⟨_, _, rfl⟩
  | v _ _ => obtain ⟨t', rfl⟩ := hv; exact ⟨_, _, rfl⟩
  | o _ _ => exfalso; omega
  | t => exfalso; omega
  | p => exfalso; omega
theorem cut_min {pre l : List Int} : List.take ((pre ++ l).length - min pre.length (pre ++ l).length) (List.drop (min pre.length (pre ++ l).length) (pre ++ l)) = l := by
  rw [Nat.min_eq_left (by rw [List.length_append]; omega), List.drop_left]
  exact List.take_of_length_le (by rw [List.length_append]; omega)
theorem hs_of {led new : Led} {x dx : Addr} {es : List DictEntry} {n : Nat} : ∀ p ∈ led, p.1 ≠ dx → p ∈ (x, instO dx) :: (dx, dictOf es n) :: (new ++ led).filter (·.1 != dx) := fun p hp hne => .tail _ (.tail _ (List.mem_filter.mpr ⟨List.mem_append_right _ hp, by simpa using hne⟩))
theorem hnew_of {led new : Led} {x dx : Addr} {es : List DictEntry} {n : Nat} (nd : ∀ p ∈ new, p.1 ≠ dx) : ∀ p ∈ new, p ∈ (x, instO dx) :: (dx, dictOf es n) :: (new ++ led).filter (·.1 != dx) := fun p hp => .tail _ (.tail _ (List.mem_filter.mpr ⟨List.mem_append_left _ hp, by simpa using nd p hp⟩))
theorem octs_cons (r : Rw) (p : PV) (rest : List Blk) : octs ((r, p) :: rest) = r.id :: (enc r.ty p ++ octs rest) := rfl
theorem Desc.mul {led : Led} {av : Str → Option Value} {r : Rw} {ps : List PV} (h : Desc led av r ps) (hm : r.multi = true) : ∀ a, av r.cm = some a → ∃ (l0 : Addr) (vs : List Value) (n0 : Nat), a = .ref l0 ∧ (l0, listOf vs.toArray n0) ∈ led ∧ vs.length ≤ 900 := by
  intro a ha
  rcases h with ⟨_, h⟩ | ⟨_, ⟨hm', _⟩ | ⟨_, l, vs, k, h1, h2, h3, _⟩⟩
  · rw [ha] at h; cases h
  · rw [hm] at hm'; cases hm'
  · rw [ha] at h1; cases h1; exact ⟨l, vs, k, rfl, h2, h3⟩
theorem psOf_nil {done : List Blk} {r : Rw} (h : (done.any fun z => z.1.id == r.id) = false) : psOf done r = [] := by
  unfold psOf
  rw [List.filter_eq_nil_iff.mpr fun z hz => ?_]
  · rfl
  · have := List.any_eq_false.mp h z hz
    simpa using this
theorem psOf_some {done : List Blk} {r : Rw} (h : (done.any fun z => z.1.id == r.id) = true) : psOf done r ≠ [] := by
  obtain ⟨z, hz, e⟩ := List.any_eq_true.mp h
  intro q
  have : z.2 ∈ psOf done r := List.mem_map.mpr ⟨z, List.mem_filter.mpr ⟨hz, e⟩, rfl⟩
  rw [q] at this; cases this
section
variable {p : Program} {loose : List Str} {w : World} {mean : ExcName → Option Value} {mg mb : Str → Option Value} {dp un : Nat} {gd : Option (List Code)} {cn : Str} {cs : Scope} {a : Addr} {ccd : Value} {cl : List (Str × Addr)} {outer : List Env} {A₀ : Around} {base h₀ : Heap} {L : Addr} {m : Str → Option Value} {s : Shared} {Q E : Value → Shared → Prop} {news : Led}
variable (B : Below A₀ base outer h₀) (F : Fr h₀ L s.heap m) (X : (hd.heap_39 w.params).In h₀) (N : News h₀ L s.heap news) (T : Top p loose mean mg mb h₀) (hk : cs.kind = .function)
include B F X N T hk
theorem c_decode1 {b : Array UInt8} {x : Int} {r : List Int} {t : Tok} (hd : dp + 1 < recursionLimit) (hu : un + 20 < cLine) (h0 : 0 ≤ x) (h1 : x < 128) (hb : KBw.bInts b = x :: r) (hz : r.length ≤ 900)
    (hret : ∀ (q : Addr) (t1 t2 : Tok) (h' : Heap) (tk' : Nat), Fr h₀ L h' m → News h₀ L h' ((q, tupO [.int x t1, .int 1 t2]) :: news) → (∀ p ∈ news, p.1 < q) → Q (.ref q) { s with heap := h', toks := tk' }) :
    Cl w dp un gd cn cs L a ccd cl outer 160 [.bytes b t] Q E s := by
  have e : vb x = [x] := vb_small h0 h1
  refine c_decode B F X N T hk hd hu h0 (by omega) (by rw [e]; exact hb) hz fun q t1 t2 h' tk' F' N' l' => ?_
  rw [e] at N'
  exact hret q t1 t2 h' tk' F' N' l'
end
local macro_rules | `(tactic| walk_at "call ref") => `(tactic| (k_dflt (refine' c_decode1 (B := ?B) (F := ?F) (X := ?X) (N := ?N) (T := ?T) (hk := ?hk) (hd := ?hd) (hu := ?hu) (hb := ?hb) (h0 := ?h0) (h1 := ?h1) (hz := ?hz) (hret := ?_); (case B => k_asm); (case F => k_asm); (case X => k_asm); (case N => k_asm); (case T => k_asm); (case hk => first | exact rfl | assumption); (case hd => ktr_room); (case hu => ktr_units); (case hb => assumption); (case h0 => with_reducible assumption); (case h1 => with_reducible assumption); (case hz => first | omega | (simp only [List.length_append, List.length_cons, List.length_nil]; omega)); k_whole; intro q' t1' t2' h' tk' F' N' l1'; (try dsimp only); (try k_sweep))))
local macro_rules | `(tactic| walk_at "call ref") => `(tactic| ((with_reducible show wpAny _ _ (call (Value.ref 262) _) _ _ _); refine Hold.mk ?_))
section
variable {p : Program} {loose : List Str} {w : World} {mean : ExcName → Option Value} {mg mb : Str → Option Value} {dp un : Nat} {gd : Option (List Code)} {cn : Str} {cs : Scope} {a : Addr} {ccd : Value} {cl : List (Str × Addr)} {outer : List Env} {A₀ : Around} {base h₀ : Heap} {L : Addr} {m : Str → Option Value} {s : Shared} {Q E : Value → Shared → Prop} {news : Led}
  {x dx : Addr} {es : List DictEntry} {n : Nat} {pkn : Int} {pkt : Tok} {av : Str → Option Value}
variable (B : Below A₀ base outer h₀) (F : Fr h₀ L s.heap m) (X : (hd.heap_39 w.params).In h₀) (N : News h₀ L s.heap news) (T : Top p loose mean mg mb h₀) (hk : cs.kind = .function) (hx : (x, instO dx) ∈ news) (hdx : (dx, dictOf es n) ∈ news) (hT : Told es (.int pkn pkt) av)
include B F X N T hk hx hdx hT
theorem c_unpack {bl : List Blk} {b : Array UInt8} {r : List Int} {t : Tok} (hb : KBw.bInts b = vb (octs bl).length ++ (octs bl ++ r)) (hz : (octs bl).length ≤ 200) (hzr : r.length ≤ 10) (hz2 : bl.length ≤ 200) (hzs : es.length ≤ 100) (hokP : ∀ q ∈ bl, okP q) (hav : ∀ r ∈ rows, av r.cm = none) (hd : dp + 6 < recursionLimit) (hu : un + 120 < cLine)
    (hret : ∀ (q : Addr) (t1 : Tok) (h' : Heap) (tk' : Nat) (es' : List DictEntry) (n' : Nat) (av' : Str → Option Value) (led' : Led), okF pkn [] bl = true → Told es' (.int pkn pkt) av' → (x, instO dx) ∈ led' → (dx, dictOf es' n') ∈ led' → (∀ r ∈ rows, Desc led' av' r (psOf bl r)) → (∀ p ∈ news, p.1 ≠ dx → p ∈ led') →
      Fr h₀ L h' m → News h₀ L h' ((q, tupO [.ref x, .int (((octs bl).length : Int) + ((vb (octs bl).length).length : Int)) t1]) :: led') → Q (.ref q) { s with heap := h', toks := tk' })
    (hE : okF pkn [] bl = false → ∀ (g : Heap) (e t : Addr) (vs : List Value) (new : Led) (h' : Heap) (tk' : Nat), Fr h₀ L g m → RaisedS base g (envX cn cs L a ccd cl :: outer) e (.ref 65) t vs new h' → (∀ q ∈ news, q.1 ≠ dx → q ∈ new) → g.UpToSlots h' → E (.ref e) { s with heap := h', toks := tk' }) :
    Cl w dp un gd cn cs L a ccd cl outer 304 [.ref x, .bytes b t] Q E s := by
  replace N := two N hx hdx
  clear hx hdx
  have h1 : (0 : Int) ≤ ((octs bl).length : Int) := by omega
  have h2 : ((octs bl).length : Int) < 268435456 := by omega
  have h3 : (vb ((octs bl).length : Int)).length ≤ 4 := vbN_len 4 _
  refine wpAny_call ?_
  k_dflt cell_enter
  k_steps
  rename KBw.bInts (KBy.picked _ _ _) = _ => h9
  replace h9 := h9.trans cut_min
  unfold Hold
  rename Fr _ _ _ _ => lF
  rename News _ _ _ _ => lN
  rename Frag.In _ _ => lX
  refine whileJ (fun n m₁ nx => ∃ done rest b pl t1 t2 es' n' av', bl = done ++ rest ∧ n = rest.length ∧ KBw.bInts b = octs rest ++ r ∧ pl = ((octs rest).length : Int) ∧ (x, instO dx) ∈ nx ∧ (dx, dictOf es' n') ∈ nx ∧ Told es' (.int pkn pkt) av' ∧ es'.length ≤ es.length + done.length ∧ (∀ r ∈ rows, Desc nx av' r (psOf done r)) ∧ okF pkn [] bl = okF pkn done rest ∧ (∀ p ∈ news, p.1 ≠ dx → p ∈ nx) ∧
    Has ["identifier", "VBIlen2", "buffer", "propslenleft", "attr_type", "value", "valuelen", "propname", "compressedName"] _ [("buffer", .bytes b t1), ("propslenleft", .int pl t2)] m₁) bl.length lF lN
    ⟨[], bl, _, _, _, _, es, n, av, rfl, rfl, h9, rfl, by k_mem, by k_mem, hT, Nat.le_refl _, fun r hr => .inl ⟨rfl, hav r hr⟩, rfl, fun p hp _ => (by walk_at "unsub" : ∀ q ∈ news, q ∈ _) p hp, Has.refl (by kst_all1)⟩ ?_
  rintro n m₁ nx h tk htk ⟨done, rest, b, pl, t1, t2, es1, n1, av1, hbl, hn, hb, hpl, hx, hdx, hT, hes, hD, hok, hsub, hm⟩ F1 N1
  obtain ⟨u, rfl⟩ := hm.out
  have hDk : ∀ led', (∀ p ∈ nx, p.1 ≠ dx → p ∈ led') → ∀ r ∈ rows, Desc led' av1 r (psOf done r) := fun led' h r hr => (hD r hr).keeps N1 hdx h
  cases rest with
  | nil =>
    have hpl0 : pl = 0 := hpl
    subst hpl0
    k_steps
    rw [List.append_nil] at hbl
    subst hbl
    exact hret _ _ _ _ es1 n1 av1 nx (by rw [hok]; rfl) hT hx hdx hD hsub (by k_asm) (by assumption)
  | cons q rest =>
    obtain ⟨r0, p0⟩ := q
    have hokp : okP (r0, p0) := hokP _ (by rw [hbl]; exact List.mem_append_right _ (.head _))
    have hr0 : r0 ∈ rows := hokp.1
    have hf0 : Fit r0.ty p0 := hokp.2.1
    have hri := rows_in r0 hr0
    have i0 : 0 ≤ r0.id := by omega
    have i1 : r0.id < 128 := by omega
    have hlen : (octs rest).length + (enc r0.ty p0).length + 1 ≤ 200 := by
      rw [hbl] at hz
      simp only [octs, List.flatMap_append, List.flatMap_cons, List.length_append, List.length_cons] at hz ⊢
      omega
    rw [octs_cons, List.length_cons, List.length_append] at hpl
    rw [octs_cons, List.cons_append, List.append_assoc] at hb
    k_steps
    rename KBw.bInts (KBy.picked _ _ _) = _ => h9
    replace h9 := h9.trans cut_tail
    have hkd : KtsDicts ([] : List Addr) h₀ := ktsDicts_nil
    have hdl : done.length + (rest.length + 1) = bl.length := by rw [hbl]; simp
    k_steps
    · rename r0.multi = true => hmu
      unfold Hold
      have hone : r0.multi = false → psOf done r0 = [] := fun e => by rw [hmu] at e; cases e
      have hok1 : okF pkn [] bl = ((r0.pk.map (·.1)).any (· == pkn) && okF pkn (done ++ [(r0, p0)]) rest) := by rw [hok]; simp only [okF]; rw [hmu]; simp
      cases hpk : (r0.pk.map (·.1)).any (· == pkn) with
      | false =>
        k_dflt (refine' c_set_no (B := ?B) (F := ?F) (X := ?X) (N := ?N) (T := ?T) (hk := ?hk) (hx := ?hx) (hdx := ?hdx) (hT := ?hT) (hr := hr0) (hpk := hpk) (hd := ?hd) (hu := ?hu) (hE := ?_))
        case B => k_asm
        case F => k_asm
        case X => k_asm
        case N => k_asm
        case T => k_asm
        case hk => first | exact rfl | assumption
        case hd => ktr_room
        case hu => ktr_units
        case hx => k_mem
        case hdx => k_mem
        case hT => exact hT
        intro g9 e9 t9 vs9 new9 h9' tk9 FG9 R9 sub9 U9
        k_steps
        exact hE (by rw [hok1, hpk]; rfl) _ _ _ _ _ _ _ (by assumption) (by assumption) (fun q hq hne => sub9 _ (.tail _ (List.mem_append_right _ (.tail _ (hsub q hq hne))))) (by assumption)
      | true =>
        rw [hpk, Bool.true_and] at hok1
        rename News _ _ _ _ => lN
        k_dflt (refine' c_set (B := ?B) (F := ?F) (X := ?X) (N := lN) (T := ?T) (hk := ?hk) (hx := ?hx) (hdx := ?hdx) (hT := hT) (hv := ?hv) (hz := ?hz) (hok := ?hok) (hnum := ?hnum) (hr := hr0) (hpk := hpk) (hd := ?hd) (hu := ?hu) (hmul := ?hmul) (hret := ?_))
        case B => k_asm
        case F => k_asm
        case X => k_asm
        case T => k_asm
        case hk => first | exact rfl | assumption
        case hd => ktr_room
        case hu => ktr_units
        case hx => k_mem
        case hdx => k_mem
        case hz => omega
        case hv => exact VT.sub (by assumption) fun _ h => .tail _ h
        case hok => exact hokp.okV (by assumption)
        case hnum => exact hokp.num (by assumption)
        case hmul =>
          intro hm a ha
          obtain ⟨l0, vs, n0, e, h, z⟩ := (hD r0 hr0).mul hm a ha
          exact ⟨l0, vs, n0, e, by k_mem, z⟩
        intro h5 tk5 es5 n5 v5 new5 NV5 nd5 T5 z5 F5 N5
        k_steps
        rename KBw.bInts (KBy.picked _ _ _) = _ => h9
        refine WEnd.next rest.length F5 N5 (by rw [hn]; exact Nat.lt_succ_self _) ⟨done ++ [(r0, p0)], rest, _, pl - 1 - ((enc r0.ty p0).length : Int), _, _, es5, n5, _, by rw [hbl]; simp, rfl, by first | exact h9.trans (cut_from rfl) | exact h9.trans cut_min, by omega, .head _, .tail _ (.head _), T5, by rw [List.length_append, List.length_singleton]; omega, ?_, hok1, ?_, by walk_at "has"⟩
        · exact desc_step lN (by k_mem) hs_of (hnew_of nd5) NV5 (Val.sub (by assumption) fun _ h => .tail _ h) hf0 hr0 (hDk _ fun p hp _ => .tail _ (List.mem_append_right _ (.tail _ hp))) hone (by omega)
        · exact fun p hp hne => hs_of _ (.tail _ (List.mem_append_right _ (.tail _ (hsub p hp hne)))) hne
    · rename r0.multi = false => hmu
      rename (av1 r0.cm).isSome = true => hsome
      have hany : (done.any fun z => z.1.id == r0.id) = true := by
        cases e : done.any fun z => z.1.id == r0.id with
        | true => rfl
        | false =>
          rcases hD r0 hr0 with ⟨_, h⟩ | ⟨_, ⟨_, v, p, h, _⟩ | ⟨_, l, vs, k, _, _, _, h, _⟩⟩
          · rw [h] at hsome; cases hsome
          · rw [psOf_nil e] at h; cases h
          · exact absurd (psOf_nil e) h
      have hok1 : okF pkn [] bl = false := by rw [hok]; simp only [okF]; rw [hmu, hany]; simp
      unfold Hold
      refine field_name hr0 ?_
      intro t9 k9
      dsimp only
      have hl9 : r0.cm.length ≤ 40 := (rows_len r0 hr0).2
      have e1 : (Str.ofString "Property '").length = 10 := by decide +kernel
      have e2 : Str.empty.length = 0 := rfl
      have e3 : (Str.ofString "' must not exist more than once").length ≤ 60 := by decide +kernel
      have hq9 : (Str.empty ++ Str.ofString "Property '" ++ r0.cm).length ≤ 60 := by
        rw [strLen_append, strLen_append]
        omega
      refine ⟨by rw [sizeLine_eq]; omega, ?_⟩
      generalize Str.empty ++ Str.ofString "Property '" ++ r0.cm = msg at hq9
      walk1
      walk1
      dsimp only
      have hq8 : (msg ++ Str.ofString "' must not exist more than once").length ≤ 200 := by
        rw [strLen_append]
        omega
      refine ⟨by rw [sizeLine_eq]; omega, ?_⟩
      generalize msg ++ Str.ofString "' must not exist more than once" = msg2 at hq8
      refine joinParts_nilE (joinParts_nil ?_ (by rw [sizeLine_eq]; omega))
      k_steps
      exact hE hok1 _ _ _ _ _ _ _ (by assumption) (by assumption) (fun q hq hne => .tail _ (List.mem_append_right _ (.tail _ (hsub q hq hne)))) (by assumption)
    · rename r0.multi = false => hmu
      rename (av1 r0.cm).isSome = false => hnone
      unfold Hold
      have hany : (done.any fun z => z.1.id == r0.id) = false := by
        cases e : done.any fun z => z.1.id == r0.id with
        | false => rfl
        | true =>
          exfalso
          rcases hD r0 hr0 with ⟨h, _⟩ | ⟨_, ⟨_, v, p, _, h, _⟩ | ⟨h, _⟩⟩
          · exact psOf_some e h
          · rw [h] at hnone; cases hnone
          · rw [hmu] at h; cases h
      have hone : r0.multi = false → psOf done r0 = [] := fun _ => psOf_nil hany
      have hok1 : okF pkn [] bl = ((r0.pk.map (·.1)).any (· == pkn) && okF pkn (done ++ [(r0, p0)]) rest) := by rw [hok]; simp only [okF]; rw [hmu, hany]; simp
      cases hpk : (r0.pk.map (·.1)).any (· == pkn) with
      | false =>
        k_dflt (refine' c_set_no (B := ?B) (F := ?F) (X := ?X) (N := ?N) (T := ?T) (hk := ?hk) (hx := ?hx) (hdx := ?hdx) (hT := ?hT) (hr := hr0) (hpk := hpk) (hd := ?hd) (hu := ?hu) (hE := ?_))
        case B => k_asm
        case F => k_asm
        case X => k_asm
        case N => k_asm
        case T => k_asm
        case hk => first | exact rfl | assumption
        case hd => ktr_room
        case hu => ktr_units
        case hx => k_mem
        case hdx => k_mem
        case hT => exact hT
        intro g9 e9 t9 vs9 new9 h9' tk9 FG9 R9 sub9 U9
        k_steps
        exact hE (by rw [hok1, hpk]; rfl) _ _ _ _ _ _ _ (by assumption) (by assumption) (fun q hq hne => sub9 _ (.tail _ (List.mem_append_right _ (.tail _ (hsub q hq hne))))) (by assumption)
      | true =>
        rw [hpk, Bool.true_and] at hok1
        rename News _ _ _ _ => lN
        k_dflt (refine' c_set (B := ?B) (F := ?F) (X := ?X) (N := lN) (T := ?T) (hk := ?hk) (hx := ?hx) (hdx := ?hdx) (hT := hT) (hv := ?hv) (hz := ?hz) (hok := ?hok) (hnum := ?hnum) (hr := hr0) (hpk := hpk) (hd := ?hd) (hu := ?hu) (hmul := ?hmul) (hret := ?_))
        case B => k_asm
        case F => k_asm
        case X => k_asm
        case T => k_asm
        case hk => first | exact rfl | assumption
        case hd => ktr_room
        case hu => ktr_units
        case hx => k_mem
        case hdx => k_mem
        case hz => omega
        case hv => exact VT.sub (by assumption) fun _ h => .tail _ h
        case hok => exact hokp.okV (by assumption)
        case hnum => exact hokp.num (by assumption)
        case hmul =>
          intro hm a ha
          obtain ⟨l0, vs, n0, e, h, z⟩ := (hD r0 hr0).mul hm a ha
          exact ⟨l0, vs, n0, e, by k_mem, z⟩
        intro h5 tk5 es5 n5 v5 new5 NV5 nd5 T5 z5 F5 N5
        k_steps
        rename KBw.bInts (KBy.picked _ _ _) = _ => h9
        refine WEnd.next rest.length F5 N5 (by rw [hn]; exact Nat.lt_succ_self _) ⟨done ++ [(r0, p0)], rest, _, pl - 1 - ((enc r0.ty p0).length : Int), _, _, es5, n5, _, by rw [hbl]; simp, rfl, by first | exact h9.trans (cut_from rfl) | exact h9.trans cut_min, by omega, .head _, .tail _ (.head _), T5, by rw [List.length_append, List.length_singleton]; omega, ?_, hok1, ?_, by walk_at "has"⟩
        · exact desc_step lN (by k_mem) hs_of (hnew_of nd5) NV5 (Val.sub (by assumption) fun _ h => .tail _ h) hf0 hr0 (hDk _ fun p hp _ => .tail _ (List.mem_append_right _ (.tail _ hp))) hone (by omega)
        · exact fun p hp hne => hs_of _ (.tail _ (List.mem_append_right _ (.tail _ (hsub p hp hne)))) hne
end
section
variable {prog : Program} {w : World} {A : Around} {E : Value → Shared → Prop} {s : Shared}
theorem bytes_len : typeLookup (.type "bytes") "__len__" = pure (some (.builtin "bytes.__len__")) := by rw [typeLookup_type, builtinLookup_eq_fast]; kernel_rfl
abbrev OctAt (b : Array UInt8) : Nat → Value → Prop := fun i v => ∃ c u, b[i]? = some c ∧ v = .int (c.toNat : Int) u
theorem extend_bytes {R : Result → Shared → Prop} (hh : A.handled = none) (b : Array UInt8) (t : Tok) (S : Addr) (res : Value) (c₀ : Nat) (hS : s.heap.get? S = some { cls := .type "list", data := .seq #[] c₀ })
    (hR : ∀ h' tk acc' c', (∀ b o, b ≠ S → s.heap.get? b = some o → h'.get? b = some o) → h'.get? S = some { cls := .type "list", dict := none, data := .seq acc' c', slots := #[] } →
      ItemsOf (OctAt b) acc' b.size → R (.ok (.ret res)) { s with heap := h', toks := tk }) (hn : b.size ≤ sizeLine) :
    wpAny (model prog w) A.in1 (Builtin.List.listExtendWith (.ref S) (.bytes b t) res)
      (fun fin s' => match fin with | .done f => R (.ok f) s' | .again c' => c'.quiet = true ∧ codeAny (model prog w) A c' R s') (fun e s' => R (.error e) s') s := by
  have hSI : S ≠ s.heap.objs.size := Nat.ne_of_lt (Heap.lt_size hS)
  have hSf : S ∉ [s.heap.objs.size] := fun hm => hSI (List.mem_singleton.mp hm)
  unfold Builtin.List.listExtendWith
  refine wpAny_bind (wpAny_typeOf (T := "bytes") (v := .bytes b t) rfl ?_)
  have h1 : Builtin.List.listSameRef (.ref S) (.bytes b t) = false := rfl
  have h2 : (Value.type "bytes" == Value.type "list") = false := by decide
  have h3 : (Value.type "bytes" == Value.type "tuple") = false := by decide
  simp only [h1, h2, h3, Bool.or_false, Bool.false_eq_true, if_false]
  refine wpAny_bind (KBw.pyIter_bytes ?_)
  have W := KBw.walks (prog := prog) (w := w) (A := A.in1) hh s.heap.objs.size b t
  refine wpAny_bind (wpAny_holding ?_)
  unfold Builtin.List.listLengthHint
  refine wpAny_bind (wpAny_specialOf (T := "bytes") (v := .bytes b t) rfl bytes_len ?_)
  wp_delta
  refine wpAny_bind (wpAny_isInstance (T := "bytes") (v := .bytes b t) (b := true) rfl (by rw [isSubtype_type]; kernel_rfl) ?_)
  show wpAny _ _ (typeOf (Value.bytes b t) >>= _) _ _ _
  refine wpAny_bind (wpAny_typeOf (T := "bytes") (v := .bytes b t) rfl ?_)
  refine wpAny_pure ?_
  rw [if_neg (by decide)]
  refine wpAny_pure ⟨plainId_quiet PySem.F.plain_extend_loop _, codeAny_extend_loopS W.toS hn _ hSf _ b.size 0 _ _ _ rfl (Nat.zero_le _) ⟨_, Heap.get?_push_size _ rfl, rfl, rfl⟩ (Heap.get?_push_of_some _ hS) (ItemsOf.nil _) fun s' acc' c' hm hS' hacc => ?_⟩
  rw [Moved.eq_with hm]
  refine hR s'.heap s'.toks acc' c' (fun b ob hb e => hm.heap b ob (fun hmem => ?_) (Heap.get?_push_of_some _ e)) hS' hacc
  rcases List.mem_cons.mp hmem with e' | hmem
  · exact hb e'
  · exact absurd (Heap.lt_size e) (by rw [List.mem_singleton.mp hmem]; exact Nat.lt_irrefl _)
theorem list_init_bytes {R : Result → Shared → Prop} (hh : A.handled = none) (b : Array UInt8) (t : Tok) (S : Addr) (hS : s.heap.get? S = some { cls := .type "list", data := .seq #[] })
    (hR : ∀ h' tk acc' c', (∀ b o, b ≠ S → s.heap.get? b = some o → h'.get? b = some o) → h'.get? S = some { cls := .type "list", dict := none, data := .seq acc' c', slots := #[] } →
      ItemsOf (OctAt b) acc' b.size → R (.ok (.ret .none)) { s with heap := h', toks := tk }) (hn : b.size ≤ sizeLine) :
    wpAny (model prog w) A.in1 (Builtin.«list.__init__» ⟨[.ref S, .bytes b t], []⟩)
      (fun fin s' => match fin with | .done f => R (.ok f) s' | .again c' => c'.quiet = true ∧ codeAny (model prog w) A c' R s') (fun e s' => R (.error e) s') s := by
  show wpAny _ _ (do let old ← Builtin.List.listItems (.ref S); Builtin.List.listUpdate (.ref S) (fun _ => #[]); letGo old.toList.reverse; Builtin.List.listExtendWith (.ref S) (.bytes b t) .none) _ _ s
  refine wpAny_bind ?_
  unfold Builtin.List.listItems
  refine wpAny_bind (wpAny_seqItems hS rfl (wpAny_pure ?_))
  show wpAny _ _ (updateSeq S (fun _ => #[]) >>= fun _ => letGo (#[] : Array Value).toList.reverse >>= fun _ => Builtin.List.listExtendWith (.ref S) (.bytes b t) .none) _ _ s
  refine wpAny_bind (wpAny_updateSeq hS rfl ?_)
  have hS₂ := Heap.get?_update_self (Obj.mapSeq (fun _ => (#[] : Array Value))) hS rfl
  have oth : ∀ b o, b ≠ S → s.heap.get? b = some o → (s.heap.update S (Obj.mapSeq (fun _ => (#[] : Array Value)))).get? b = some o :=
    fun b o hb e => (Heap.get?_update_other _ _ (Ne.symm hb)).trans e
  refine wpAny_bind (wpAny_letGo ?_)
  refine extend_bytes (hn := hn) hh b t S .none _ hS₂ fun h' tk acc' c' hk hS' hacc => ?_
  exact hR h' tk acc' c' (fun b o hb e => hk b o hb (oth b o hb e)) hS' hacc
theorem call_list_bytes {Q : Value → Shared → Prop} (hh : A.handled = none) (b : Array UInt8) (t : Tok)
    (hQ : ∀ h' tk acc' c', (∀ b o, s.heap.get? b = some o → h'.get? b = some o) →
      h'.get? s.heap.objs.size = some { cls := .type "list", dict := none, data := .seq acc' c', slots := #[] } → ItemsOf (OctAt b) acc' b.size → Q (.ref s.heap.objs.size) { s with heap := h', toks := tk }) (hn : b.size ≤ sizeLine) :
    wpAny (model prog w) A (call (.type "list") [.bytes b t]) Q E s := by
  refine callType_codes (Q₁ := fun obj s₁ => obj = .ref s.heap.objs.size ∧ s₁ = { s with heap := s.heap.push { cls := .type "list", data := .seq #[] } }) PySem.F.called_list (PySem.F.typeCall_list_1 _) PySem.F.entry_list_init
    (code_list_new _ ⟨rfl, rfl⟩) fun obj s₁ h₁ => ?_
  obtain ⟨rfl, rfl⟩ := h₁
  have hS : (s.heap.push { cls := .type "list", data := .seq #[] }).get? s.heap.objs.size = some { cls := .type "list", data := .seq #[] } := Heap.get?_push_size _ rfl
  refine ⟨⟨_, hS, rfl⟩, PySem.F.args_list_init_2 _ _, list_init_bytes (A := A.in1) (hn := hn) hh b t _ hS fun h' tk acc' c' hk hS' hacc => ?_⟩
  exact ⟨rfl, hQ h' tk acc' c' (fun b o e => hk b o (Nat.ne_of_lt (Heap.lt_size e)) (Heap.get?_push_of_some _ e)) hS' hacc⟩
theorem ints_items {vs : List Value} {ns : List Int} (h : vs.length = ns.length) (hv : ∀ (j : Nat) v, vs[j]? = some v → ∃ n t, ns[j]? = some n ∧ v = Value.int n t) : IntsAre vs ns := by
  induction vs generalizing ns with
  | nil => cases ns with
    | nil => exact .nil
    | cons _ _ => cases h
  | cons v vs ih => cases ns with
    | nil => cases h
    | cons n ns =>
      obtain ⟨n', t, h1, rfl⟩ := hv 0 v rfl
      cases h1
      exact .cons _ _ (ih (by simpa using h) fun j v hj => hv (j + 1) v hj)
/-- list(octets) -/
theorem list_octets {Q : Value → Shared → Prop} {h₀ : Heap} {L : Addr} {m : Str → Option Value} {news : Led} {b : Array UInt8} {t : Tok} {ks : List Int} (hh : A.handled = none) (F : Fr h₀ L s.heap m) (N : News h₀ L s.heap news) (hb : KBw.bInts b = ks) (hz : ks.length ≤ 1000)
    (h : ∀ h' tk q k vs, IntsAre vs ks → Fr h₀ L h' m → News h₀ L h' ((q, listOf vs.toArray k) :: news) → (∀ p ∈ news, p.1 < q) → Q (.ref q) { s with heap := h', toks := tk }) :
    wpAny (model prog w) A (call (.type "list") [.bytes b t]) Q E s := by
  have hsz : b.size = ks.length := by rw [← hb, KBw.ints_length]
  refine call_list_bytes hh b t (fun h' tk acc' c' hk hS' hacc => ?_) (by rw [hsz, sizeLine_eq]; omega)
  have e : acc' = acc'.toList.toArray := by simp
  refine h h' tk s.heap.objs.size c' acc'.toList ?_ (Fr.keeps F hk) (fun p hp => ?_) fun p hp => Heap.lt_size (N p hp).1
  · refine ints_items (by have := hacc.1; simp; omega) fun j v hj => ?_
    obtain ⟨c, u, hc, rfl⟩ := hacc.2 j v (by simpa using hj)
    exact ⟨_, u, hb ▸ KBw.ints_get hc, rfl⟩
  · rcases List.mem_cons.mp hp with rfl | hp
    · refine ⟨by rw [← e]; exact hS', Nat.ne_of_gt F.ns.lt, ?_⟩
      cases e : h₀.get? s.heap.objs.size with
      | none => rfl
      | some o => exact absurd (Heap.lt_size (F.keep _ _ e)) (Nat.lt_irrefl _)
    · exact News.keeps N hk p hp
end
local macro_rules | `(tactic| walk_at "call type:list") => `(tactic| ((with_reducible show wpAny _ _ (call (Value.type "list") [Value.bytes _ _]) _ _ _); k_dflt (refine' list_octets ?hh ?F ?N ?hb ?hz ?_; (case hh => rfl); (case F => k_asm); (case N => k_asm); (case hb => first | assumption | exact txB_txA _); (case hz => first | omega | (simp only [List.length_append, List.length_cons, List.length_nil]; omega)); k_whole); intro h' tk' q' k' vs' hi' F' N' l1'; (try dsimp only)))
local macro_rules | `(tactic| walk_at "eval Dict") => `(tactic| (k_dflt (refine' kdn_int ?q ?F ?N ?b ?a ?l ?e ?n ?_; (case q => rfl); (case F => k_asm); (case N => first | k_asm | exact News.nil); (case b => exact Top.nolimit (by k_asm)); (case a => rfl); (case l => rfl); (case e => exact List.cons_ne_nil _ _); (case n => exact Nat.le_of_ble_eq_true rfl)); intro d' h' o' F' N' l1 lo' hd'; (try k_lt l1)))
/-- the pairs of _law_kinds as they lie -/
inductive KVs (led : Led) : List (Int × Str) → List Value → Prop
  | nil : KVs led [] []
  | cons {i : Int} {x : Str} {t : Addr} {u1 u2 : Tok} {ks vs} : (t, tupO [.int i u1, .str x u2]) ∈ led → KVs led ks vs → KVs led ((i, x) :: ks) (.ref t :: vs)
def kinds3 : List (Int × Str) := [(1, Str.ofString "one"), (2, Str.ofString "four"), (3, Str.ofString "text"), (9, Str.ofString "octets"), (11, Str.ofString "seven"), (35, Str.ofString "two"), (38, Str.ofString "pair")]
def kinds2 : List (Int × Str) := [(17, Str.ofString "four"), (18, Str.ofString "text"), (19, Str.ofString "two"), (22, Str.ofString "octets"), (33, Str.ofString "two"), (36, Str.ofString "one"), (38, Str.ofString "pair")]
def kindsOf (pk : Int) : List (Int × Str) := if pk = 3 then kinds3 else kinds2
def KindsAt (w : World) (led : Led) (q : Addr) : Prop :=
  ∃ (o : Obj) (a3 a2 : Addr) (vs3 vs2 : List Value), (q, o) ∈ led ∧ Obj.IsDictOf (intKind PySem.Challenge.pw_ci0033_01 w) o [(3, .ref a3), (2, .ref a2)] ∧ (a3, tupO vs3) ∈ led ∧ (a2, tupO vs2) ∈ led ∧ KVs led kinds3 vs3 ∧ KVs led kinds2 vs2
section
variable {p : Program} {loose : List Str} {w : World} {mean : ExcName → Option Value} {mg mb : Str → Option Value} {dp un : Nat} {gd : Option (List Code)} {cn : Str} {cs : Scope} {a : Addr} {ccd : Value} {cl : List (Str × Addr)} {outer : List Env} {A₀ : Around} {base h₀ : Heap} {L : Addr} {m : Str → Option Value} {s : Shared} {Q E : Value → Shared → Prop} {news : Led}
variable (B : Below A₀ base outer h₀) (F : Fr h₀ L s.heap m) (X : (hd.heap_39 w.params).In h₀) (N : News h₀ L s.heap news) (T : Top p loose mean mg mb h₀) (hk : cs.kind = .function)
include B F X N T hk
theorem c_lkinds (hd : dp + 1 < recursionLimit) (hu : un + 20 < cLine)
    (hret : ∀ (q : Addr) (led' : Led) (h' : Heap) (tk' : Nat), KindsAt w led' q → (∀ p ∈ news, p ∈ led') → Fr h₀ L h' m → News h₀ L h' led' → Q (.ref q) { s with heap := h', toks := tk' }) :
    Cl w dp un gd cn cs L a ccd cl outer 318 [] Q E s := by
  refine wpAny_call ?_
  k_dflt cell_enter
  k_steps
  rename News _ _ _ _ => nE
  rename Obj.IsDictOf _ _ _ => dE
  refine hret _ _ _ _ ⟨_, _, _, _, _, by k_mem, dE, by k_mem, by k_mem, ?_, ?_⟩ ?_ (by k_asm) nE
  · unfold kinds3
    repeat (first | exact KVs.nil | refine KVs.cons (by k_mem) ?_)
  · unfold kinds2
    repeat (first | exact KVs.nil | refine KVs.cons (by k_mem) ?_)
  · intro p hp
    repeat (first | exact hp | refine List.mem_cons_of_mem _ ?_)
end
section
variable {prog : Program} {w : World} {A : Around} {E : Value → Shared → Prop} {s : Shared} {env : Env} {h₀ : Heap} {x : Str} {body : List Stmt} {Q : Flow → Shared → Prop}
/-- over a tuple of the ledger -/
theorem for_tuple {px : Pos} {l : Addr} {vs : List Value} {m₀ : Str → Option Value} {news : Led} (J : Nat → (Str → Option Value) → Led → Prop)
    (hh : A.handled = none) (hl : (l, tupO vs) ∈ news) (F : Fr h₀ env.locals s.heap m₀) (N : News h₀ env.locals s.heap news) (hj : J 0 m₀ [])
    (turn : ∀ i v m₁ nx own h tk, s.toks ≤ tk → vs[i]? = some v → J i m₁ nx → (∀ b ∈ [s.heap.objs.size], ∃ o, (b, o) ∈ own) → (∀ p ∈ nx, p.1 ∉ [s.heap.objs.size]) → (∀ p ∈ news, p ∈ own) → Fr h₀ env.locals h (fun y => if y = x then some v else m₁ y) → News h₀ env.locals h (nx ++ own) →
      wpAny (model prog w) A (execs body env) (TurnEnd h₀ env.locals [s.heap.objs.size] own (J (i + 1)) s Q) E { s with heap := h, toks := tk })
    (done : ∀ m₁ nx h tk, s.toks ≤ tk → J vs.length m₁ nx → Fr h₀ env.locals h m₁ → News h₀ env.locals h (nx ++ news) → Q .next { s with heap := h, toks := tk }) :
    wpAny (model prog w) A (pyIter (.ref l)) (fun it s₂ => LoopT prog w A env x px body Q E it s₂) E s := by
  have hls : s.heap.IsTuple l vs.toArray := ⟨_, (N _ hl).1, rfl, _, rfl⟩
  have hlt : l < s.heap.objs.size := Heap.lt_size (N _ hl).1
  refine wpAny_pyIter_tuple hls ?_
  have W := Walks.tuple (prog := prog) (w := w) hh s.heap.objs.size l (Nat.ne_of_lt hlt) vs.toArray
  refine iterJ (fp := [l]) (St := fun i h => h.IsTupleIter s.heap.objs.size l i ∧ h.IsTuple l vs.toArray) J W (fun b hb => ?_) ⟨⟨_, Heap.get?_push_size _ rfl, rfl, rfl⟩, hls.push _⟩ F N (fun i h st => ?_) hj (fun i v m₁ nx own h tk ht hi hp => turn i v m₁ nx own h tk ht (by simpa using hp)) (fun m₁ nx h tk ht hJ => done m₁ nx h tk ht (by simpa using hJ))
  · rw [List.mem_singleton.mp hb]; exact ⟨hlt, (N _ hl).2.1⟩
  · obtain ⟨o, ho, _⟩ := st.1; exact ⟨o, ho⟩

end
section
variable {prog : Program} {w : World} {A : Around} {E : Value → Shared → Prop} {s : Shared} {env : Env} {h₀ : Heap} {elt iter : Expr} {x : Str} {px : Pos} {ifs : List Expr} {scope : Scope} {cl : List (Str × Addr)} {pos : Pos} {Q : Value → Shared → Prop}
/-- over a tuple of the ledger -/
theorem comp_tuple {l : Addr} {vs : List Value} {m : Str → Option Value} {L : Addr} {news : Led} {p : Value → Bool} {G : Value → Value → Prop} (hh : A.handled = none) (hl : (l, tupO vs) ∈ news) (hn : vs.length ≤ sizeLine)
    (F : Fr h₀ L s.heap m) (N : News h₀ L s.heap news)
    (tests : ∀ C v s₃ (m₃ : Str → Option Value) E', s.toks ≤ s₃.toks → v ∈ vs → Fr h₀ C s₃.heap (fun y => if y = x then some v else m₃ y) → News h₀ C s₃.heap news →
      wpAny (model prog w) A (forIn ifs true fun c r => if r = true then do let ok ← isTrue c (compEnvC scope cl C env) (eval c (compEnvC scope cl C env)); pure (ForInStep.yield ok) else pure (ForInStep.yield r))
        (fun ok s₄ => Hold (ok = p v ∧ Keeps s₃ s₄)) E' s₃)
    (elts : ∀ C v s₃ (m₃ : Str → Option Value) E', s.toks ≤ s₃.toks → v ∈ vs → p v = true → Fr h₀ C s₃.heap (fun y => if y = x then some v else m₃ y) → News h₀ C s₃.heap news →
      wpAny (model prog w) A (eval elt (compEnvC scope cl C env)) (fun y s₄ => Hold (G v y ∧ Keeps s₃ s₄)) E' s₃)
    (done : ∀ D h' tk ys n', Paired G (vs.filter p) ys → Fr h₀ L h' m → News h₀ L h' ((D, listOf ys.toArray n') :: news) → (∀ p ∈ news, p.1 ≠ D) → Q (.ref D) { s with heap := h', toks := tk }) :
    wpAny (model prog w) A (pyIter (.ref l)) (fun it s₂ => CompT prog w A env elt x ifs scope cl p G Q it s₂) E s := by
  have hls : s.heap.IsTuple l vs.toArray := ⟨_, (N _ hl).1, rfl, _, rfl⟩
  have hlt : l < s.heap.objs.size := Heap.lt_size (N _ hl).1
  refine wpAny_pyIter_tuple hls ?_
  have W := Walks.tuple (prog := prog) (w := w) hh s.heap.objs.size l (Nat.ne_of_lt hlt) vs.toArray
  refine compJ (fp := [l]) (St := fun i h => h.IsTupleIter s.heap.objs.size l i ∧ h.IsTuple l vs.toArray) W (fun b hb => by rw [List.mem_singleton.mp hb]; exact hlt) ⟨⟨_, Heap.get?_push_size _ rfl, rfl, rfl⟩, hls.push _⟩ (by simpa using hn) F N
    (fun C i v s₃ m₃ E' ht hP => tests C v s₃ m₃ E' ht (List.mem_of_getElem? (by simpa using hP))) (fun C i v s₃ m₃ E' ht hP => elts C v s₃ m₃ E' ht (List.mem_of_getElem? (by simpa using hP))) fun D h' tk ys n' vs' hlen hP hF => ?_
  have e : vs' = vs := by
    refine List.ext_getElem? fun j => ?_
    by_cases hj : j < vs'.length
    · have h1 := hP j vs'[j] (List.getElem?_eq_getElem hj)
      rw [List.getElem?_eq_getElem hj]
      simpa using h1.symm
    · have h2 : vs.toArray.size = vs.length := by simp
      rw [List.getElem?_eq_none (by omega), List.getElem?_eq_none (by omega)]
  rw [e] at hF
  exact done D h' tk ys n' hF
end
local macro_rules | `(tactic| walk_at "subscriptTail") => `(tactic| ((with_reducible show wpAny _ _ (subscriptTail _ _ (Value.ref _) (Value.int (Int.fmod _ 5) _)) _ _ _); refine Hold.mk ?_))
theorem allLt_to {d : Addr} {l : Led} (h : AllLt d l) : ∀ p ∈ l, p.1 < d := by
  induction l with
  | nil => intro p hp; cases hp
  | cons a l ih =>
    intro p hp
    rcases List.mem_cons.mp hp with e | hp
    · rw [e]; exact h.1
    · exact ih h.2 p hp
theorem fmod_2 (y : Int) : y.fmod 2 = y % 2 := Int.fmod_eq_emod_of_nonneg y (by decide)
theorem fdiv_5 (y : Int) : y.fdiv 5 = y / 5 := Int.fdiv_eq_ediv_of_nonneg y (by decide)
theorem fmod_65535 (y : Int) : y.fmod 65535 = y % 65535 := Int.fmod_eq_emod_of_nonneg y (by decide)
theorem fmod_256 (y : Int) : y.fmod 256 = y % 256 := Int.fmod_eq_emod_of_nonneg y (by decide)
theorem fdiv_256 (y : Int) : y.fdiv 256 = y / 256 := Int.fdiv_eq_ediv_of_nonneg y (by decide)
theorem fmod_4 (y : Int) : y.fmod 4 = y % 4 := Int.fmod_eq_emod_of_nonneg y (by decide)
theorem fdiv_4 (y : Int) : y.fdiv 4 = y / 4 := Int.fdiv_eq_ediv_of_nonneg y (by decide)
theorem fmod_32 (y : Int) : y.fmod 4294967296 = y % 4294967296 := Int.fmod_eq_emod_of_nonneg y (by decide)
theorem fmod_7 (y : Int) : y.fmod 268435455 = y % 268435455 := Int.fmod_eq_emod_of_nonneg y (by decide)
theorem and_255 (x : Int) : PySem.Builtin.bitAnd x 255 = x % 256 := bitAnd_m8 x
theorem flat_rep (k : Nat) (x : Int) : (List.replicate k [x]).flatten = List.replicate k x := by
  induction k with
  | zero => rfl
  | succ k ih => rw [List.replicate_succ, List.replicate_succ, List.flatten_cons, ih]; rfl
theorem fmod_5 (y : Int) : y.fmod 5 = y % 5 := Int.fmod_eq_emod_of_nonneg y (by decide)
theorem sub_txt {prog : Program} {w : World} {A : Around} {E : Value → Shared → Prop} {s : Shared} {h₀ : Heap} {L : Addr} {led : Led} {value slice : Expr} {q : Addr} {n : Int} {u a0 a1 a2 a3 a4 : Tok} {Q : Value → Shared → Prop} (N : News h₀ L s.heap led)
    (hq : (q, tupO [.str (txS 0) a0, .str (txS 1) a1, .str (txS 2) a2, .str (txS 3) a3, .str (txS 4) a4]) ∈ led) (h : ∀ t, Q (.str (txS (n % 5).toNat) t) s)
    (hs : ∀ k : Int, subscripted slice false (.ref q) (.int k u) = operate [.ref q, .int k u] (getItem (.ref q) (.int k u)) := by intro _; with_unfolding_all rfl) :
    wpAny (model prog w) A (subscriptTail value slice (.ref q) (.int (n.fmod 5) u)) Q E s := by
  have ht : IsTup s.heap q #[.str (txS 0) a0, .str (txS 1) a1, .str (txS 2) a2, .str (txS 3) a3, .str (txS 4) a4] := ⟨_, (N _ hq).1, rfl, _, rfl⟩
  have h5 : n % 5 = 0 ∨ n % 5 = 1 ∨ n % 5 = 2 ∨ n % 5 = 3 ∨ n % 5 = 4 := by omega
  rw [fmod_5]
  rcases h5 with e | e | e | e | e <;> rw [e] at h ⊢
  · exact item_tupleT ht (by decide) (by decide) rfl rfl (h _) (hs _)
  · exact item_tupleT ht (by decide) (by decide) rfl rfl (h _) (hs _)
  · exact item_tupleT ht (by decide) (by decide) rfl rfl (h _) (hs _)
  · exact item_tupleT ht (by decide) (by decide) rfl rfl (h _) (hs _)
  · exact item_tupleT ht (by decide) (by decide) rfl rfl (h _) (hs _)
section
variable {p : Program} {loose : List Str} {w : World} {mean : ExcName → Option Value} {mg mb : Str → Option Value} {dp un : Nat} {gd : Option (List Code)} {cn : Str} {cs : Scope} {a : Addr} {ccd : Value} {cl : List (Str × Addr)} {outer : List Env} {A₀ : Around} {base h₀ : Heap} {L : Addr} {m : Str → Option Value} {s : Shared} {Q E : Value → Shared → Prop} {news : Led}
variable (B : Below A₀ base outer h₀) (F : Fr h₀ L s.heap m) (X : (hd.heap_39 w.params).In h₀) (N : News h₀ L s.heap news) (T : Top p loose mean mg mb h₀) (hk : cs.kind = .function)
include B F X N T hk
theorem c_ltext {n : Int} {t : Tok} (hd : dp + 1 < recursionLimit) (hu : un + 20 < cLine)
    (hret : ∀ (q : Addr) (k : Nat) (vs : List Value) (h' : Heap) (tk' : Nat), IntsAre vs (tx (n % 5).toNat) → Fr h₀ L h' m → News h₀ L h' ((q, listOf vs.toArray k) :: news) → (∀ p ∈ news, p.1 < q) → Q (.ref q) { s with heap := h', toks := tk' }) :
    Cl w dp un gd cn cs L a ccd cl outer 332 [.int n t] Q E s := by
  refine wpAny_call ?_
  k_dflt cell_enter
  k_steps
  unfold Hold
  rename News _ _ _ _ => lN
  refine sub_txt lN (.head _) ?_
  intro t9
  have hl9 := txB_len (n % 5).toNat
  k_steps
  rename News _ _ _ _ => nE
  with_reducible rename IntsAre _ _ => iE
  with_reducible rename _ ∧ _ ∧ _ ∧ AllLt _ _ => lE
  exact hret _ _ _ _ _ iE (by k_asm) (sub_led nE (end_one (by walk_at "unsub"))) (allLt_to lE.2.2.2)
end
theorem ne1_of {d : Addr} {l : Led} (h : ∀ p ∈ l, p.1 < d) : ∀ p ∈ l, p.1 ≠ d + 1 := fun p hp => Nat.ne_of_lt (Nat.lt_succ_of_lt (h p hp))
theorem ne_of {d : Addr} {l : Led} (h : ∀ p ∈ l, p.1 < d) : ∀ p ∈ l, p.1 ≠ d := fun p hp => Nat.ne_of_lt (h p hp)
local macro_rules | `(tactic| k_all) => `(tactic| first | exact ne1_of (by assumption) | exact ne_of (by assumption) | exact ne_of (allLt_to (by assumption)) | exact ne_of (allLt_to (And.right (by assumption))))
local macro_rules | `(tactic| walk_at "enterC") => `(tactic| k_dflt (refine' code_defC ?k1 ?k2 ?k3 ?k4 ?k5 ?kA ?kF ?kK ?k6 ?k7 ?k8 ?k9 ?kB ?kD ?_ ?c2 ?c3 ?c4; (case kA => exact rfl); (case kF => exact rfl); (case kK => first | assumption | exact rfl); (case k1 => k_asm); (case k2 => k_asm); (case k3 => k_asm); (case k4 => k_asm); (case k5 => k_asm); (case k6 => k_is); (case k7 => k_is); (case k8 => ktr_room); (case k9 => exact BindsTo.of_eq rfl); (case kB => exact rfl); (case kD => decide +kernel); (case c2 => exact rfl); (case c3 => exact rfl); (case c4 => exact rfl); k_whole; intro g' L' h' tk' cells' FG' F' N' Y' B' X' T' l1; (try k_lt l1); k_cells Y'; (try simp only [List.cons_append, List.nil_append] at N'); (try dsimp only); (try k_lift B'); (try k_fold)))
theorem tx_len (k : Nat) : (tx k).length ≤ 6 := by
  have := txB_len k
  simp only [tx, List.length_cons]; omega
theorem ints_cast {vs : List Value} {ns ms : List Int} (h : IntsAre vs ns) (e : ns = ms) : IntsAre vs ms := e ▸ h
local macro_rules | `(tactic| walk_at "lt9") => `(tactic| first | (with_reducible rename _ ∧ AllLt _ _ => l9; exact allLt_to (And.right l9)) | (with_reducible rename _ ∧ _ ∧ AllLt _ _ => l9; exact allLt_to (And.right (And.right l9))) | (with_reducible rename _ ∧ _ ∧ _ ∧ AllLt _ _ => l9; exact allLt_to (And.right (And.right (And.right l9)))) | (with_reducible rename _ ∧ _ ∧ _ ∧ _ ∧ AllLt _ _ => l9; exact allLt_to (And.right (And.right (And.right (And.right l9))))) | (with_reducible rename _ ∧ _ ∧ _ ∧ _ ∧ _ ∧ AllLt _ _ => l9; exact allLt_to (And.right (And.right (And.right (And.right (And.right l9)))))) | (with_reducible rename _ ∧ _ ∧ _ ∧ _ ∧ _ ∧ _ ∧ AllLt _ _ => l9; exact allLt_to (And.right (And.right (And.right (And.right (And.right (And.right l9))))))))
def oct4 (n k : Int) : Int := if k = 24 then n % 4294967296 / 256 / 256 / 256 % 256 else if k = 16 then n % 4294967296 / 256 / 256 % 256 else if k = 8 then n % 4294967296 / 256 % 256 else n % 4294967296 % 256
theorem paired_ints {g : Int → Int} {vs ys : List Value} {ks : List Int} (h : Paired (fun v y => ∃ k u t', v = .int k u ∧ y = .int (g k) t') vs ys) (hi : IntsAre vs ks) : IntsAre ys (ks.map g) := by
  induction h generalizing ks with
  | nil => cases hi; exact .nil
  | cons hg _ ih =>
    obtain ⟨k, u, t', rfl, rfl⟩ := hg
    cases hi with
    | cons _ _ hi => exact .cons _ _ (ih hi)
def J7 (lq cq : Addr) (news : Led) (id x : Int) (m : Str → Option Value) (n : Nat) (m₁ : Str → Option Value) (nx : Led) : Prop :=
  ∃ (y : Int) (vs : List Value) (k : Nat) (o : Obj) (t : Tok) (pre : List Int), nx = (lq, listOf vs.toArray k) :: (cq, o) :: news ∧ o.data = .cell (some (.int y t)) ∧ IntsAre vs (id :: pre) ∧ 0 < y ∧ y < pw n ∧ pre ++ vbN n y = vb x ∧ pre.length + n = 4 ∧ m₁ = m
theorem led_push {g h : Heap} {L l : Addr} {led : Led} {vs : List Value} {v : Value} {k : Nat} (N : News g L h ((l, listOf (vs.toArray.push v) k) :: led)) : News g L h ((l, listOf (vs ++ [v]).toArray k) :: led) := by
  have e : (vs ++ [v]).toArray = vs.toArray.push v := by simp
  rw [e]; exact N
def kName : Int → Str
  | 0 => Str.ofString "one"
  | 1 => Str.ofString "two"
  | 2 => Str.ofString "four"
  | 3 => Str.ofString "seven"
  | 4 => Str.ofString "octets"
  | 5 => Str.ofString "text"
  | _ => Str.ofString "pair"
def mkPV : Int → Int → PV
  | 0, n => .int (n % 2)
  | 1, n => .int (1 + n % 65535)
  | 2, n => .int (n % 4294967296)
  | 3, n => .int (1 + n % 268435455)
  | 4, n => .oct (List.replicate (n % 4).toNat (n / 4 % 256))
  | 5, n => .txt (n % 5).toNat
  | _, n => .pair (n % 5).toNat (n / 5 % 5).toNat
local macro_rules | `(tactic| walk_at "call ref") => `(tactic| (k_dflt (refine' c_ltext (B := ?B) (F := ?F) (X := ?X) (N := ?N) (T := ?T) (hk := ?hk) (hd := ?hd) (hu := ?hu)  (hret := ?_); (case B => k_asm); (case F => k_asm); (case X => k_asm); (case N => k_asm); (case T => k_asm); (case hk => first | exact rfl | assumption); (case hd => ktr_room); (case hu => ktr_units); k_whole; intro q' k' vs' h' tk' hi' F' N' l1'; (try dsimp only); (try k_sweep))))
section
variable {p : Program} {loose : List Str} {w : World} {mean : ExcName → Option Value} {mg mb : Str → Option Value} {dp un : Nat} {gd : Option (List Code)} {cn : Str} {cs : Scope} {a : Addr} {ccd : Value} {cl : List (Str × Addr)} {outer : List Env} {A₀ : Around} {base h₀ : Heap} {L : Addr} {m : Str → Option Value} {s : Shared} {Q E : Value → Shared → Prop} {news : Led}
variable (B : Below A₀ base outer h₀) (F : Fr h₀ L s.heap m) (X : (hd.heap_39 w.params).In h₀) (N : News h₀ L s.heap news) (T : Top p loose mean mg mb h₀) (hk : cs.kind = .function)
include B F X N T hk
theorem c_lblock {id ty n : Int} {t u v : Tok} (hty : 0 ≤ ty ∧ ty ≤ 6) (hid : 0 ≤ id ∧ id < 128) (hd : dp + 2 < recursionLimit) (hu : un + 40 < cLine)
    (hret : ∀ (q : Addr) (k : Nat) (vs : List Value) (h' : Heap) (tk' : Nat), IntsAre vs (id :: enc ty (mkPV ty n)) → Fr h₀ L h' m → News h₀ L h' ((q, listOf vs.toArray k) :: news) → (∀ p ∈ news, p.1 < q) → Q (.ref q) { s with heap := h', toks := tk' }) :
    Cl w dp un gd cn cs L a ccd cl outer 337 [.int id t, .str (kName ty) u, .int n v] Q E s := by
  have hc : ty = 0 ∨ ty = 1 ∨ ty = 2 ∨ ty = 3 ∨ ty = 4 ∨ ty = 5 ∨ ty = 6 := by omega
  have hl6 := tx_len (n % 5).toNat
  have hl7 := tx_len (n.fdiv 5 % 5).toNat
  refine wpAny_call ?_
  rcases hc with rfl | rfl | rfl | rfl | rfl | rfl | rfl
  · rw [show kName 0 = Str.ofString "one" from rfl]
    walk_at "enterC"
    k_steps
    rename News _ _ _ _ => nE
    refine hret _ _ _ _ _ ?_ (by k_asm) (sub_led nE (end_one (by walk_at "unsub"))) (by walk_at "lt9")
    exact ints_cast (.cons _ _ (.cons _ _ .nil)) (by rw [fmod_2]; rfl)
  · rw [show kName 1 = Str.ofString "two" from rfl]
    walk_at "enterC"
    k_steps
    rename News _ _ _ _ => nE
    refine hret _ _ _ _ _ ?_ (by k_asm) (sub_led nE (end_one (by walk_at "unsub"))) (by walk_at "lt9")
    exact ints_cast (.cons _ _ (.cons _ _ (.cons _ _ .nil))) (by rw [fmod_65535, fmod_256, fdiv_256]; simp only [enc, mkPV, be2]; rw [show (1 + n % 65535) / 256 % 256 = (1 + n % 65535) / 256 by omega])
  · rw [show kName 2 = Str.ofString "four" from rfl]
    walk_at "enterC"
    k_steps
    unfold Hold
    refine comp_T (fun _ => true) (fun v y => ∃ k u t', v = .int k u ∧ y = .int (oct4 n k) t') (by with_unfolding_all rfl) (by with_unfolding_all decide) rfl (by with_unfolding_all decide) rfl ?_
    k_steps
    unfold Hold
    rename Fr _ _ _ _ => lF
    rename News _ _ _ _ => lN
    refine comp_tuple rfl (.head _) (by rw [sizeLine_eq]; simp only [List.length_cons, List.length_nil]; omega) lF lN ?_ ?_ ?_
    · intro C v s₃ m₃ E' ht hv F1 N1
      obtain ⟨hp, g, d, tk, os⟩ := s₃
      exact wpAny_pure ⟨rfl, Keeps.toks⟩
    · intro C v s₃ m₃ E' ht hv _ F1 N1
      obtain ⟨hp, g, d, tk, os⟩ := s₃
      have hv' : v ∈ [_, _, _, _] := hv
      simp only [List.mem_cons, List.not_mem_nil, or_false] at hv'
      rcases hv' with rfl | rfl | rfl | rfl
      · k_steps
        all_goals first | exact Str.ofString "" | exact Value.none | exact ([] : List (Str × Addr)) | exact (0 : Nat) | skip
        refine ⟨⟨_, _, _, rfl, congrArg (Value.int · _) (?_ : _ = oct4 n 24)⟩, Keeps.toks⟩
        refine (and_255 _).trans ?_
        change (Int.fdiv (n.fmod 4294967296) 16777216) % 256 = _; rw [Int.fdiv_eq_ediv_of_nonneg _ (by decide), fmod_32]; unfold oct4; rw [if_pos rfl]; omega
      · k_steps
        all_goals first | exact Str.ofString "" | exact Value.none | exact ([] : List (Str × Addr)) | exact (0 : Nat) | skip
        refine ⟨⟨_, _, _, rfl, congrArg (Value.int · _) (?_ : _ = oct4 n 16)⟩, Keeps.toks⟩
        refine (and_255 _).trans ?_
        change (Int.fdiv (n.fmod 4294967296) 65536) % 256 = _; rw [Int.fdiv_eq_ediv_of_nonneg _ (by decide), fmod_32]; unfold oct4; rw [if_neg (by decide), if_pos rfl]; omega
      · k_steps
        all_goals first | exact Str.ofString "" | exact Value.none | exact ([] : List (Str × Addr)) | exact (0 : Nat) | skip
        refine ⟨⟨_, _, _, rfl, congrArg (Value.int · _) (?_ : _ = oct4 n 8)⟩, Keeps.toks⟩
        refine (and_255 _).trans ?_
        change (Int.fdiv (n.fmod 4294967296) 256) % 256 = _; rw [Int.fdiv_eq_ediv_of_nonneg _ (by decide), fmod_32]; unfold oct4; rw [if_neg (by decide), if_neg (by decide), if_pos rfl]
      · k_steps
        all_goals first | exact Str.ofString "" | exact Value.none | exact ([] : List (Str × Addr)) | exact (0 : Nat) | skip
        refine ⟨⟨_, _, _, rfl, congrArg (Value.int · _) (?_ : _ = oct4 n 0)⟩, Keeps.toks⟩
        refine (and_255 _).trans ?_
        change (Int.fdiv (n.fmod 4294967296) 1) % 256 = _; rw [Int.fdiv_eq_ediv_of_nonneg _ (by decide), fmod_32]; unfold oct4; rw [if_neg (by decide), if_neg (by decide), if_neg (by decide)]; omega
    · intro D h' tk ys n' hG F1 N1 hD
      rw [List.filter_eq_self.mpr (fun _ _ => rfl)] at hG
      have iD := paired_ints hG (.cons _ _ (.cons _ _ (.cons _ _ (.cons _ _ .nil))))
      k_steps
      rename News _ _ _ _ => nE
      refine hret _ _ _ _ _ ?_ (by k_asm) (sub_led nE (end_one (by walk_at "unsub"))) (by walk_at "lt9")
      exact ints_cast (by assumption) rfl
  · rw [show kName 3 = Str.ofString "seven" from rfl]
    walk_at "enterC"
    k_steps
    unfold Hold
    rename Fr _ _ _ _ => lF
    rename News _ _ _ _ => lN
    rename _ = Data.cell _ => dC
    have hy0 : 0 < 1 + n.fmod 268435455 := by rw [fmod_7]; omega
    have hy1 : 1 + n.fmod 268435455 < pw 4 := by rw [fmod_7, show pw 4 = 268435456 by decide]; omega
    refine whileJ (J7 _ _ news id (1 + n.fmod 268435455) _) 4 lF lN ⟨_, _, _, _, _, [], rfl, dC, .cons _ _ .nil, hy0, hy1, rfl, by decide, rfl⟩ ?_
    rintro n₁ m₁ nx h tk htk ⟨y, vs, k, o, t, pre, rfl, dC, hi, y0, y1, he, hl, rfl⟩ F1 N1
    cases n₁ with
    | zero => exfalso; simp only [pw] at y1; omega
    | succ n₁ =>
      k_steps
      · rename 127 < y => hy
        have d0 := fdiv_128 y
        have d1 := fmod_128 y
        simp only [pw] at y1
        refine WEnd.next n₁ (by k_asm) (led_push (by assumption)) (Nat.lt_succ_self _) ⟨y.fdiv 128, _, _, _, _, pre ++ [128 + y.fmod 128], rfl, by assumption, IntsAre.append hi (.cons _ _ .nil), by omega, by omega, ?_, by rw [List.length_append, List.length_singleton]; omega, rfl⟩
        rw [← he, d0, d1, List.append_assoc]
        congr 1
        simp only [vbN]
        rw [if_pos (by omega), Int.add_comm]
        rfl
      · rename ¬127 < y => hy
        rename News _ _ _ _ => nE
        refine hret _ _ _ _ _ ?_ (by k_asm) (sub_led nE (end_one (by walk_at "unsub"))) (by walk_at "lt9")
        refine ints_cast (by assumption) ?_
        show id :: (pre ++ [y]) = id :: vb (1 + n % 268435455)
        rw [← fmod_7, ← he]
        simp only [vbN]
        rw [if_neg (by omega), show y % 128 = y by omega]
  · rw [show kName 4 = Str.ofString "octets" from rfl]
    walk_at "enterC"
    k_steps
    rename News _ _ _ _ => nE
    refine hret _ _ _ _ _ ?_ (by k_asm) (sub_led nE (end_one (by walk_at "unsub"))) (by walk_at "lt9")
    refine ints_cast (by assumption) ?_
    rw [fmod_4, fmod_256, fdiv_4, flat_rep]
    show id :: 0 :: (n % 4) :: List.replicate (n % 4).toNat (n / 4 % 256) = id :: 0 :: ((List.replicate (n % 4).toNat (n / 4 % 256)).length : Int) :: List.replicate (n % 4).toNat (n / 4 % 256)
    rw [List.length_replicate, show (((n % 4).toNat : Nat) : Int) = n % 4 by omega]
  · rw [show kName 5 = Str.ofString "text" from rfl]
    walk_at "enterC"
    k_steps
    rename News _ _ _ _ => nE
    refine hret _ _ _ _ _ ?_ (by k_asm) (sub_led nE (end_one (by walk_at "unsub"))) (by walk_at "lt9")
    exact ints_cast (by assumption) rfl
  · rw [show kName 6 = Str.ofString "pair" from rfl]
    walk_at "enterC"
    k_steps
    rename News _ _ _ _ => nE
    refine hret _ _ _ _ _ ?_ (by k_asm) (sub_led nE (end_one (by walk_at "unsub"))) (by walk_at "lt9")
    exact ints_cast (by assumption) (by rw [fdiv_5]; simp [enc, mkPV])
end
def TurnEndC (h₀ : Heap) (L : Addr) (wr : List Addr) (c : Addr) (own : Led) (J : (Str → Option Value) → Led → Prop) (s : Shared) (Q : Flow → Shared → Prop) (f : Flow) (s₂ : Shared) : Prop :=
  match f with
  | .ret v => Q (.ret v) s₂
  | .brk => Q .next s₂
  | _ => ∃ h' tk' m' nx' oc' v', s₂ = { s with heap := h', toks := tk' } ∧ Fr h₀ L h' m' ∧ News h₀ L h' ((c, oc') :: (nx' ++ own)) ∧ oc'.data = .cell v' ∧ (∀ p ∈ nx', p.1 ∉ wr ∧ p.1 ≠ c) ∧ J m' nx'
theorem TurnEndC.next {h₀ : Heap} {L : Addr} {wr : List Addr} {c : Addr} {own : Led} {J : (Str → Option Value) → Led → Prop} {s : Shared} {Q : Flow → Shared → Prop} {h' : Heap} {tk' : Nat} {m' : Str → Option Value} {oc' : Obj} {v' : Option Value} (nx' : Led)
    (F : Fr h₀ L h' m') (N : News h₀ L h' ((c, oc') :: (nx' ++ own))) (hc : oc'.data = .cell v') (hw : ∀ p ∈ nx', p.1 ∉ wr ∧ p.1 ≠ c) (hJ : J m' nx') : TurnEndC h₀ L wr c own J s Q .next { s with heap := h', toks := tk' } := ⟨h', tk', m', nx', oc', v', rfl, F, N, hc, hw, hJ⟩
theorem ownOf_ne {h₀ h : Heap} {fp : List Addr} {c : Addr} (hc : c ∉ fp) : ∀ p ∈ PyProof.Rows.ownOf h₀ fp h, p.1 ≠ c := by
  intro p hp
  obtain ⟨b, hb, e⟩ := List.mem_filterMap.mp hp
  cases hn : h₀.get? b with
  | some x => simp [hn] at e
  | none =>
    cases ho : h.get? b with
    | none => simp [hn, ho] at e
    | some o =>
      simp [hn, ho] at e
      rw [← e]
      exact fun q => hc (q ▸ hb)
section
variable {prog : Program} {w : World} {A : Around} {E : Value → Shared → Prop} {s : Shared} {env : Env} {h₀ : Heap} {x : Str} {body : List Stmt} {Q : Flow → Shared → Prop}
def LoopC (prog : Program) (w : World) (A : Around) (env : Env) (x : Str) (px : Pos) (body : List Stmt) (Q : Flow → Shared → Prop) (E : Value → Shared → Prop) (it : Value) (s : Shared) : Prop :=
  env.scope.kind = .function → env.kindOf x = some .cell → PassesOwn (model prog w) A env E →
    codeAny (model prog w) A (.forLoop (.Name x px) it body [] env) (fun r s' => match r with | .ok f => Q f s' | .error e => cameBackBy (model prog w) A env E e s') s
theorem For_C {px pos : Pos} {iter : Expr} (hk : env.scope.kind = .function) (hx : env.kindOf x = some .cell)
    (h : wpAny (model prog w) A (eval iter env) (fun xv s₁ => wpAny (model prog w) A (pyIter xv) (fun it s₂ => LoopC prog w A env x px body Q E it s₂) E s₁) E s)
    (hs : ∀ x, foldedSetIterable iter env x = pure x := by intro _; rfl) (hE : PassesOwn (model prog w) A env E := by passes_own) :
    wpAny (model prog w) A (exec (.For (.Name x px) iter body [] pos) env) Q E s :=
  wpAny_For (wpAny_mono h (fun _ _ h₁ => wpAny_mono h₁ (fun _ _ h₂ => h₂ hk hx hE) fun _ _ e => e) fun _ _ e => e) hs
theorem loopC {I c : Addr} {px : Pos} {fp wr : List Addr} {n : Nat} {P : Nat → Value → Prop} {St : Nat → Heap → Prop} {m₀ : Str → Option Value} {news : Led} {oc₀ : Obj} {v₀ : Option Value} (J : Nat → (Str → Option Value) → Led → Prop)
    (W : Walks prog w A I fp wr n P St) (hLf : env.locals ∉ fp) (hcf : c ∉ fp) (hwr : ∀ b ∈ wr, h₀.get? b = none) (hnw : ∀ p ∈ news, p.1 ∉ wr) (hst : St 0 s.heap)
    (F : Fr h₀ env.locals s.heap m₀) (N : News h₀ env.locals s.heap ((c, oc₀) :: news)) (hoc : oc₀.data = .cell v₀) (hcn : ∀ p ∈ news, p.1 ≠ c) (hcl : env.cells.lookup x = some c)
    (hlive : ∀ i h, St i h → ∀ b ∈ wr, ∃ o, h.get? b = some o) (hj : J 0 m₀ [])
    (turn : ∀ i v oc m₁ nx own h tk, s.toks ≤ tk → i < n → P i v → oc.data = .cell (some v) → J i m₁ nx → (∀ b ∈ wr, ∃ o, (b, o) ∈ own) → (∀ p ∈ nx, p.1 ∉ wr ∧ p.1 ≠ c) → (∀ p ∈ own, p.1 ≠ c) → (∀ p ∈ news, p ∈ own) → Fr h₀ env.locals h m₁ → News h₀ env.locals h ((c, oc) :: (nx ++ own)) →
      wpAny (model prog w) A (execs body env) (TurnEndC h₀ env.locals wr c own (J (i + 1)) s Q) E { s with heap := h, toks := tk })
    (done : ∀ oc v m₁ nx h tk, s.toks ≤ tk → oc.data = .cell v → J n m₁ nx → Fr h₀ env.locals h m₁ → News h₀ env.locals h ((c, oc) :: (nx ++ news)) → Q .next { s with heap := h, toks := tk }) :
    LoopC prog w A env x px body Q E (.ref I) s := by
  intro hk hx hE
  have hcw : c ∉ wr := fun h => hcf (W.sub _ h)
  have hLw : env.locals ∉ wr := fun h => hLf (W.sub _ h)
  have hcL : c ≠ env.locals := (N _ (.head _)).2.1
  have hc0 : h₀.get? c = none := (N _ (.head _)).2.2
  have old : ∀ b o, h₀.get? b = some o → b ∉ wr := fun b o e hb => by rw [hwr b hb] at e; cases e
  refine codeAny_forLoop
    (fun k s' => ∃ h' tk m' nx i oc v, s' = { s with heap := h', toks := tk } ∧ s.toks ≤ tk ∧ St i h' ∧ Fr h₀ env.locals h' m' ∧ News h₀ env.locals h' ((c, oc) :: (nx ++ news)) ∧ oc.data = .cell v ∧ (∀ p ∈ nx, p.1 ∉ wr ∧ p.1 ≠ c) ∧ J i m' nx ∧ i ≤ n ∧ k = n + 1 - i) ?_ (n + 1)
    ⟨s.heap, s.toks, m₀, [], 0, oc₀, v₀, rfl, Nat.le_refl _, hst, F, N, hoc, (fun _ h => nomatch h), hj, Nat.zero_le _, rfl⟩
  rintro k s' ⟨h', tk, m', nx, i, oc, v9, rfl, ht, hst', F', N', hoc', hnx, hJ, hi, rfl⟩
  have hnw' : ∀ p ∈ (c, oc) :: (nx ++ news), p.1 ∉ wr := fun p hp => (List.mem_cons.mp hp).elim (fun e => e ▸ hcw) fun hp => (List.mem_append.mp hp).elim (fun h => (hnx p h).1) (hnw p)
  have next : ∀ h₁ : Heap, (∀ b o, b ∉ wr → h'.get? b = some o → h₁.get? b = some o) → Fr h₀ env.locals h₁ m' ∧ News h₀ env.locals h₁ ((c, oc) :: (nx ++ news)) := fun h₁ hk₁ =>
    ⟨⟨F'.ns.at' fun o e => hk₁ _ o hLw e, fun b o e => hk₁ b o (old b o e) (F'.keep b o e), F'.above⟩, fun p hp => ⟨hk₁ _ _ (hnw' p hp) (N' p hp).1, (N' p hp).2⟩⟩
  by_cases hlt : i < n
  · refine wpAny_with_toks (n := s.toks) ht ?_
    refine W.item i _ _ _ hlt hst' fun v h₁ tk₁ hP hst₁ hk₁ ht₁ => ?_
    obtain ⟨F₁, N₁⟩ := next h₁ hk₁
    refine wpAny_assign_Name (wpAny_storeName_cell hk hx hcl ⟨oc, (N₁ _ (.head _)).1, hoc'⟩ fun h₂ hc₂ hs₂ => ?_)
    obtain ⟨oc₂, ho₂, hd₂⟩ := hc₂
    have F₂ : Fr h₀ env.locals h₂ m' := ⟨F₁.ns.sameBut hs₂ (Ne.symm hcL), fun b o e => (hs₂.2 b fun q => by rw [q, hc0] at e; cases e).trans (F₁.keep b o e), F₁.above⟩
    have keep₂ : ∀ p ∈ nx ++ news, News h₀ env.locals h₂ [p] := fun p hp q hq => by
      rw [List.mem_singleton.mp hq]
      have hne : p.1 ≠ c := (List.mem_append.mp hp).elim (fun h => (hnx p h).2) (hcn p)
      have h9 := N₁ p (.tail _ hp)
      exact ⟨(hs₂.2 _ hne).trans h9.1, h9.2⟩
    have Nown : News h₀ env.locals h₂ (PyProof.Rows.ownOf h₀ fp h₂) := news_ownOf hLf
    have hst₂ : St (i + 1) h₂ := W.frame _ _ _ hst₁ fun b hb o e => (hs₂.2 b fun q => hcf (q ▸ hb)).trans e
    have N₂ : News h₀ env.locals h₂ ((c, oc₂) :: (nx ++ (PyProof.Rows.ownOf h₀ fp h₂ ++ news))) := fun p hp => by
      rcases List.mem_cons.mp hp with rfl | hp
      · exact ⟨ho₂, hcL, hc0⟩
      · rcases List.mem_append.mp hp with h | h
        · exact keep₂ p (List.mem_append_left _ h) p (.head _)
        · rcases List.mem_append.mp h with h | h
          · exact Nown p h
          · exact keep₂ p (List.mem_append_right _ h) p (.head _)
    have hown : ∀ b ∈ wr, ∃ o, (b, o) ∈ PyProof.Rows.ownOf h₀ fp h₂ ++ news := fun b hb => by
      obtain ⟨o, ho⟩ := hlive _ _ hst₂ b hb
      exact ⟨o, List.mem_append_left _ (mem_ownOf (W.sub b hb) (hwr b hb) ho)⟩
    have hownc : ∀ p ∈ PyProof.Rows.ownOf h₀ fp h₂ ++ news, p.1 ≠ c := fun p hp => (List.mem_append.mp hp).elim (ownOf_ne hcf p) (hcn p)
    refine wpAny_mono (wpAny_toks_of (n := s.toks) ht₁ (wpAny_passesOwn hE (turn i v oc₂ m' nx (PyProof.Rows.ownOf h₀ fp h₂ ++ news) h₂ tk₁ ht₁ hlt hP hd₂ hJ hown hnx hownc (fun p hp => List.mem_append_right _ hp) F₂ N₂))) (fun f s₃ h₃ => ?_) fun _ _ e => e.2
    obtain ⟨ht₃, h₃⟩ := h₃
    have fin : (∃ h' tk' m' nx' oc' v', s₃ = { s with heap := h', toks := tk' } ∧ Fr h₀ env.locals h' m' ∧ News h₀ env.locals h' ((c, oc') :: (nx' ++ (PyProof.Rows.ownOf h₀ fp h₂ ++ news))) ∧ oc'.data = .cell v' ∧ (∀ p ∈ nx', p.1 ∉ wr ∧ p.1 ≠ c) ∧ J (i + 1) m' nx') →
        ∃ k, k < n + 1 - i ∧ ∃ h' tk m' nx i oc v, s₃ = { s with heap := h', toks := tk } ∧ s.toks ≤ tk ∧ St i h' ∧ Fr h₀ env.locals h' m' ∧ News h₀ env.locals h' ((c, oc) :: (nx ++ news)) ∧ oc.data = .cell v ∧ (∀ p ∈ nx, p.1 ∉ wr ∧ p.1 ≠ c) ∧ J i m' nx ∧ i ≤ n ∧ k = n + 1 - i := by
      rintro ⟨h₃', tk₃, m₃, nx₃, oc₃, v₃, rfl, F₃, N₃, hd₃, ha₃, hJ₃⟩
      refine ⟨n + 1 - (i + 1), by omega, h₃', tk₃, m₃, nx₃, i + 1, oc₃, v₃, rfl, ht₃, ?_, F₃, fun p hp => N₃ p ?_, hd₃, ha₃, hJ₃, hlt, rfl⟩
      · refine W.frame _ _ _ hst₁ fun b hb o e => ?_
        have e₂ : h₂.get? b = some o := (hs₂.2 b fun q => hcf (q ▸ hb)).trans e
        cases hn : h₀.get? b with
        | some o₀ =>
          have : o₀ = o := by have := F₂.keep b o₀ hn; rw [e₂] at this; exact (Option.some.inj this).symm
          exact this ▸ F₃.keep b o₀ hn
        | none => exact (N₃ _ (.tail _ (List.mem_append_right _ (List.mem_append_left _ (mem_ownOf hb hn e₂))))).1
      · rcases List.mem_cons.mp hp with rfl | hp
        · exact .head _
        · rcases List.mem_append.mp hp with h | h
          · exact .tail _ (List.mem_append_left _ h)
          · exact .tail _ (List.mem_append_right _ (List.mem_append_right _ h))
    cases f with
    | ret v => exact h₃
    | brk => exact h₃
    | cont => exact fin h₃
    | next => exact fin h₃
  · have hin : i = n := by omega
    subst hin
    refine wpAny_with_toks (n := s.toks) ht ?_
    refine W.done _ _ _ hst' fun h₁ tk₁ hk₁ ht₁ => wpAny_execs_nil ?_
    obtain ⟨F₁, N₁⟩ := next h₁ hk₁
    exact done oc v9 m' nx h₁ tk₁ ht₁ hoc' hJ F₁ N₁
/-- over a range, the name a cell -/
theorem for_rangeC {px : Pos} {q c : Addr} {nn : Nat} {t u v : Tok} {m₀ : Str → Option Value} {news : Led} {oc₀ : Obj} {v₀ : Option Value} (J : Nat → (Str → Option Value) → Led → Prop)
    (hh : A.handled = none) (hr : IsRange s.heap q 0 nn 1 t u v) (hs : Builtin.Range.small 0 nn 1 = true) (F : Fr h₀ env.locals s.heap m₀) (N : News h₀ env.locals s.heap ((c, oc₀) :: news)) (hoc : oc₀.data = .cell v₀) (hcn : ∀ p ∈ news, p.1 ≠ c) (hcl : env.cells.lookup x = some c) (hj : J 0 m₀ [])
    (turn : ∀ i t oc m₁ nx own h tk, s.toks ≤ tk → i < nn → oc.data = .cell (some (.int (i : Nat) t)) → J i m₁ nx → (∀ b ∈ [s.heap.objs.size], ∃ o, (b, o) ∈ own) → (∀ p ∈ nx, p.1 ∉ [s.heap.objs.size] ∧ p.1 ≠ c) → (∀ p ∈ own, p.1 ≠ c) → (∀ p ∈ news, p ∈ own) → Fr h₀ env.locals h m₁ → News h₀ env.locals h ((c, oc) :: (nx ++ own)) →
      wpAny (model prog w) A (execs body env) (TurnEndC h₀ env.locals [s.heap.objs.size] c own (J (i + 1)) s Q) E { s with heap := h, toks := tk })
    (done : ∀ oc v m₁ nx h tk, s.toks ≤ tk → oc.data = .cell v → J nn m₁ nx → Fr h₀ env.locals h m₁ → News h₀ env.locals h ((c, oc) :: (nx ++ news)) → Q .next { s with heap := h, toks := tk }) :
    wpAny (model prog w) A (pyIter (.ref q)) (fun it s₂ => LoopC prog w A env x px body Q E it s₂) E s := by
  have hn : Builtin.Range.rangeSize 0 nn 1 = (nn : Int) := by unfold Builtin.Range.rangeSize; simp <;> omega
  refine wpAny_pyIter_range hr hs ?_
  have W := Walks.range (prog := prog) (w := w) hh s.heap.objs.size 0 1 nn
  have hclt : c < s.heap.objs.size := Heap.lt_size (N _ (.head _)).1
  refine loopC (c := c) (s := { s with heap := s.heap.push _ }) (St := fun i h => IsRangeIter h s.heap.objs.size (0 + (i : Nat) * 1) ((nn : Int) - (i : Nat)) 1) J W (fun h => ?_) (fun h => ?_) (fun b hb => ?_) (fun p hp hI => ?_) (by show IsRangeIter _ _ _ _ _; rw [hn]; simpa using Heap.get?_push_size _ rfl) (F.push _) (fun p hp => ⟨Heap.get?_push_of_some _ (N p hp).1, (N p hp).2⟩) hoc hcn hcl (fun i h st b hb => ?_) hj (fun i v oc m₁ nx own h tk ht hi hp hd hJ => ?_) done
  · exact absurd F.ns.lt (List.mem_singleton.mp h ▸ Nat.lt_irrefl _)
  · exact absurd hclt (List.mem_singleton.mp h ▸ Nat.lt_irrefl _)
  · rw [List.mem_singleton.mp hb]; exact next_is_new F
  · exact absurd (Heap.lt_size (N p (.tail _ hp)).1) ((List.mem_singleton.mp hI) ▸ Nat.lt_irrefl _)
  · rw [List.mem_singleton.mp hb]; exact ⟨_, st⟩
  · obtain ⟨t, rfl⟩ := hp
    have e : (0 : Int) + (i : Nat) * 1 = (i : Nat) := by omega
    rw [e] at hd
    exact turn i t oc m₁ nx own h tk ht hi hd hJ
end
local macro_rules | `(tactic| walk_at "call ref") => `(tactic| (k_dflt (refine' c_lkinds (B := ?B) (F := ?F) (X := ?X) (N := ?N) (T := ?T) (hk := ?hk) (hd := ?hd) (hu := ?hu)  (hret := ?_); (case B => k_asm); (case F => k_asm); (case X => k_asm); (case N => k_asm); (case T => k_asm); (case hk => first | exact rfl | assumption); (case hd => ktr_room); (case hu => ktr_units); k_whole; intro q' led' h' tk' hKd' hsub' F' N'; (try dsimp only); (try k_sweep))))
local macro_rules | `(tactic| walk_at "call ref") => `(tactic| (k_dflt (refine' c_lblock (B := ?B) (F := ?F) (X := ?X) (N := ?N) (T := ?T) (hk := ?hk) (hd := ?hd) (hu := ?hu) (hty := ?hty) (hid := ?hid) (hret := ?_); (case B => k_asm); (case F => k_asm); (case X => k_asm); (case N => k_asm); (case T => k_asm); (case hk => first | exact rfl | assumption); (case hd => ktr_room); (case hu => ktr_units); (case hty => assumption); (case hid => assumption); k_whole; intro q' k' vs' h' tk' hi' F' N' l1'; (try dsimp only); (try k_sweep))))
/-- a list of ints as it lies -/
def LsAt (led : Led) (v : Value) (ns : List Int) : Prop := ∃ (l : Addr) (k : Nat) (ws : List Value), v = .ref l ∧ (l, listOf ws.toArray k) ∈ led ∧ IntsAre ws ns
inductive LsAre (led : Led) : List Value → List (List Int) → Prop
  | nil : LsAre led [] []
  | cons {v ns vs lss} : LsAt led v ns → LsAre led vs lss → LsAre led (v :: vs) (ns :: lss)
theorem LsAt.sub {led led' : Led} {v : Value} {ns : List Int} (h : LsAt led v ns) (hs : ∀ p ∈ led, p ∈ led') : LsAt led' v ns := by
  obtain ⟨l, k, ws, e, hl, hi⟩ := h
  exact ⟨l, k, ws, e, hs _ hl, hi⟩
theorem LsAre.sub {led led' : Led} {vs : List Value} {lss : List (List Int)} (h : LsAre led vs lss) (hs : ∀ p ∈ led, p ∈ led') : LsAre led' vs lss := by
  induction h with
  | nil => exact .nil
  | cons h _ ih => exact .cons (h.sub hs) ih
theorem LsAre.length {led : Led} {vs : List Value} {lss : List (List Int)} (h : LsAre led vs lss) : vs.length = lss.length := by
  induction h with
  | nil => rfl
  | cons _ _ ih => simp [ih]
theorem LsAre.at {led : Led} {vs : List Value} {lss : List (List Int)} (h : LsAre led vs lss) : ∀ {i : Nat} {v : Value}, vs[i]? = some v → ∃ ns, lss[i]? = some ns ∧ LsAt led v ns := by
  induction h with
  | nil => intro i v h; cases h
  | cons h _ ih =>
    intro i v hi
    cases i with
    | zero => cases hi; exact ⟨_, rfl, h⟩
    | succ i => exact ih hi
theorem LsAre.append {led : Led} {vs vs' : List Value} {lss lss' : List (List Int)} (h : LsAre led vs lss) (h' : LsAre led vs' lss') : LsAre led (vs ++ vs') (lss ++ lss') := by
  induction h with
  | nil => exact h'
  | cons h _ ih => exact .cons h ih
theorem LsAre.take {led : Led} {vs : List Value} {lss : List (List Int)} (h : LsAre led vs lss) : ∀ k, LsAre led (vs.take k) (lss.take k) := by
  induction h with
  | nil => intro k; simp; exact .nil
  | cons h _ ih =>
    intro k
    cases k with
    | zero => exact .nil
    | succ k => exact .cons h (ih k)
theorem LsAre.drop {led : Led} {vs : List Value} {lss : List (List Int)} (h : LsAre led vs lss) : ∀ k, LsAre led (vs.drop k) (lss.drop k) := by
  induction h with
  | nil => intro k; simp; exact .nil
  | cons h hr ih =>
    intro k
    cases k with
    | zero => exact .cons h hr
    | succ k => exact ih k
theorem flat_next {lss : List (List Int)} {i : Nat} {ns : List Int} (h : lss[i]? = some ns) : (lss.take (i + 1)).flatten = (lss.take i).flatten ++ ns := by
  rw [List.take_add_one, h]; simp
theorem flat_le {lss : List (List Int)} {i : Nat} {ns : List Int} (h : lss[i]? = some ns) : (lss.take i).flatten.length + ns.length ≤ lss.flatten.length := by
  have e : lss.flatten = (lss.take (i + 1)).flatten ++ (lss.drop (i + 1)).flatten := by rw [← List.flatten_append, List.take_append_drop]
  rw [e, flat_next h]
  simp only [List.length_append]; omega
theorem last_ne {d it : Addr} {o : Obj} {nx own : Led} (l1 : ∀ p ∈ nx ++ own, p.1 < d) (hit : ∀ b ∈ [it], ∃ o, (b, o) ∈ own) : ∀ p ∈ [((d, o) : Addr × Obj)], p.1 ∉ [it] := fun p hp hm => by
  rw [List.mem_singleton.mp hp] at hm
  have e : d = it := List.mem_singleton.mp hm
  obtain ⟨o', ho⟩ := hit it (.head _)
  have h := l1 _ (List.mem_append_right _ ho)
  dsimp only at h
  rw [e] at h
  exact Nat.lt_irrefl _ h
local macro_rules | `(tactic| walk_at "call builtin:len") => `(tactic| ((with_reducible show wpAny _ _ (call (Value.builtin "len") [Value.ref _]) _ _ _); k_dflt (refine' kst_len ?k1 ?k2 ?k3 ?k4 ?_; (case k1 => k_asm); (case k2 => k_mem); (case k3 => first | exact IntsAre.length (by assumption) | exact LsAre.length (by assumption)); (case k4 => omega); k_whole)))
def JW (led : Led) (lss : List (List Int)) (m : Str → Option Value) (i : Nat) (m₁ : Str → Option Value) (nx : Led) : Prop :=
  ∃ (l : Addr) (k : Nat) (ws : List Value), ((l, listOf ws.toArray k) ∈ nx ∨ (l, listOf ws.toArray k) ∈ led) ∧ IntsAre ws (lss.take i).flatten ∧ Has ["octets", "block"] m [("octets", .ref l)] m₁
theorem JW.start {g h : Heap} {L l : Addr} {led : Led} {k : Nat} {lss : List (List Int)} {m : Str → Option Value} (N : News g L h ((l, listOf #[] k) :: led)) (hm : ∀ p ∈ [((Str.ofString "octets"), Value.ref l)], m p.1 = some p.2) : JW ((l, listOf #[] k) :: led) lss m 0 m [] :=
  ⟨l, k, [], .inr (.head _), .nil, Has.refl hm⟩
section
variable {p : Program} {loose : List Str} {w : World} {mean : ExcName → Option Value} {mg mb : Str → Option Value} {dp un : Nat} {gd : Option (List Code)} {cn : Str} {cs : Scope} {a : Addr} {ccd : Value} {cl : List (Str × Addr)} {outer : List Env} {A₀ : Around} {base h₀ : Heap} {L : Addr} {m : Str → Option Value} {s : Shared} {Q E : Value → Shared → Prop} {news : Led}
variable (B : Below A₀ base outer h₀) (F : Fr h₀ L s.heap m) (X : (hd.heap_39 w.params).In h₀) (N : News h₀ L s.heap news) (T : Top p loose mean mg mb h₀) (hk : cs.kind = .function)
include B F X N T hk
theorem c_lwhole {lb : Addr} {k : Nat} {vs : List Value} {lss : List (List Int)} (hl : (lb, listOf vs.toArray k) ∈ news) (hv : LsAre news vs lss) (hz : lss.flatten.length ≤ 1000) (hd : dp + 1 < recursionLimit) (hu : un + 20 < cLine)
    (hret : ∀ (q : Addr) (k : Nat) (ws : List Value) (h' : Heap) (tk' : Nat), IntsAre ws ((lss.flatten.length : Int) :: lss.flatten) → Fr h₀ L h' m → News h₀ L h' ((q, listOf ws.toArray k) :: news) → (∀ p ∈ news, p.1 < q) → Q (.ref q) { s with heap := h', toks := tk' }) :
    Cl w dp un gd cn cs L a ccd cl outer 344 [.ref lb] Q E s := by
  refine wpAny_call ?_
  k_dflt cell_enter
  k_steps
  walk_at "for"
  k_steps
  unfold Hold
  rename Fr _ _ _ _ => lF
  rename News _ _ _ _ => lN
  refine for_list (JW _ lss _) rfl (.tail _ hl) lF lN (JW.start lN (by kst_all1)) ?_ ?_
  · rintro i v m₁ nx own h tk htk hvi ⟨l, k, ws, hlm, hi, hm⟩ hit hnx hsub F1 N1
    obtain ⟨ns, hns, lv, kv, wv, rfl, hlv, hiv⟩ := hv.at hvi
    obtain ⟨u, rfl⟩ := hm.out
    have hfl := flat_le hns
    have hlm' : (l, listOf ws.toArray k) ∈ nx ++ own := hlm.elim (fun h => List.mem_append_left _ h) fun h => List.mem_append_right _ (hsub _ h)
    have hlv' : (lv, listOf wv.toArray kv) ∈ nx ++ own := List.mem_append_right _ (hsub _ (.tail _ hlv))
    k_steps
    rename News _ _ _ _ => nE
    refine TurnEnd.next [_] (by k_asm) (sub_led nE (one_sub fun p hp => List.mem_append_right _ hp)) (last_ne (by assumption) hit) ⟨_, _, _, .inl (.head _), ints_cast (by assumption) (flat_next hns).symm, by walk_at "has"⟩
  · rintro m₁ nx h tk htk ⟨l, k, ws, hlm, hi, hm⟩ F1 N1
    obtain ⟨u, rfl⟩ := hm.out
    have hlm' := List.mem_append.mpr hlm
    rw [hv.length, List.take_length] at hi
    k_steps
    rename News _ _ _ _ => nE
    with_reducible rename _ ∧ AllLt _ _ => l9
    exact hret _ _ _ _ _ (ints_cast (by assumption) rfl) (by k_asm) (sub_led nE (end_one fun p hp => .tail _ (List.mem_append_right _ (.tail _ hp)))) fun p hp => allLt_to l9.2 p (List.mem_append_right _ (.tail _ hp))
end
local macro_rules | `(tactic| walk_at "call ref") => `(tactic| (k_dflt (refine' c_lwhole (B := ?B) (F := ?F) (X := ?X) (N := ?N) (T := ?T) (hk := ?hk) (hd := ?hd) (hu := ?hu) (hl := ?hl) (hv := ?hv) (hz := ?hz) (hret := ?_); (case B => k_asm); (case F => k_asm); (case X => k_asm); (case N => k_asm); (case T => k_asm); (case hk => first | exact rfl | assumption); (case hd => ktr_room); (case hu => ktr_units); (case hl => k_mem); (case hv => assumption); (case hz => omega); k_whole; intro q' k' ws' h' tk' hi' F' N' l1'; (try dsimp only); (try k_sweep))))
local macro_rules | `(tactic| walk_at "forC") => `(tactic| (unfold Hold; (with_unfolding_all refine' For_C ?k1 ?k2 ?_; (case k1 => exact rfl); (case k2 => exact rfl))))
/-- the blocks by their numbers, below i -/
def sortI (lss : List (List Int)) (i : Nat) : List (List Int) := (List.range i).flatMap fun (j : Nat) => lss.filter fun ns => ns.head? == some (j : Int)
def JS (led news : Led) (lss : List (List Int)) (m : Str → Option Value) (i : Nat) (m₁ : Str → Option Value) (nx : Led) : Prop :=
  ∃ (l : Addr) (k : Nat) (ws : List Value), ((l, listOf ws.toArray k) ∈ nx ∨ (l, listOf ws.toArray k) ∈ led) ∧ LsAre news ws (sortI lss i) ∧ (∀ p ∈ news, p.1 < l) ∧ Has ["due"] m [("due", .ref l)] m₁
theorem JS.start {g h : Heap} {L l : Addr} {led : Led} {ce : Addr × Obj} {k : Nat} {lss : List (List Int)} {m : Str → Option Value} (N : News g L h ((l, listOf #[] k) :: ce :: led)) (hm : ∀ p ∈ [((Str.ofString "due"), Value.ref l)], m p.1 = some p.2) (hlt : ∀ p ∈ led, p.1 < l) : JS ((l, listOf #[] k) :: led) led lss m 0 m [] :=
  ⟨l, k, [], .inr (.head _), .nil, hlt, Has.refl hm⟩
theorem ints_uniq {vs : List Value} {ns ms : List Int} (h : IntsAre vs ns) (h' : IntsAre vs ms) : ns = ms := by
  induction h generalizing ms with
  | nil => cases h'; rfl
  | cons n t _ ih => cases h' with
    | cons _ _ h' => rw [ih h']
theorem LsAt.uniq {g h : Heap} {L : Addr} {led : Led} {v : Value} {ns ms : List Int} (N : News g L h led) (h1 : LsAt led v ns) (h2 : LsAt led v ms) : ns = ms := by
  obtain ⟨l, k, ws, rfl, hl, hi⟩ := h1
  obtain ⟨l', k', ws', e, hl', hi'⟩ := h2
  cases e
  have e := listOf_inj (led_one N hl hl')
  subst e
  exact ints_uniq hi hi'
theorem sortI_next (lss : List (List Int)) (i : Nat) : sortI lss (i + 1) = sortI lss i ++ lss.filter fun ns => ns.head? == some (i : Int) := by
  unfold sortI
  rw [List.range_succ, List.flatMap_append]
  simp
theorem sortI_len (lss : List (List Int)) : ∀ i, (sortI lss i).length ≤ i * lss.length
  | 0 => by simp [sortI]
  | i + 1 => by
    rw [sortI_next, List.length_append, Nat.succ_mul]
    have h1 := sortI_len lss i
    have h2 := List.length_filter_le (fun ns : List Int => ns.head? == some (i : Int)) lss
    omega
theorem paired_eq {vs ys : List Value} (h : Paired (fun v y => v = y) vs ys) : vs = ys := by
  induction h with
  | nil => rfl
  | cons e _ ih => rw [e, ih]
theorem swap2 {g h : Heap} {L : Addr} {a b : Addr × Obj} {led : Led} (N : News g L h (a :: b :: led)) : News g L h (b :: a :: led) := sub_led N fun p hp => by
  rcases List.mem_cons.mp hp with rfl | hp
  · exact .tail _ (.head _)
  · rcases List.mem_cons.mp hp with rfl | hp
    · exact .head _
    · exact .tail _ (.tail _ hp)
theorem two_ne {l c : Addr} {o : Obj} {led : Led} {d : Addr} (h1 : c < l) (h2 : ∀ p ∈ led, p.1 < d) (h3 : c = d + 1) : ∀ p ∈ ((l, o) : Addr × Obj) :: led, p.1 ≠ c := fun p hp => by
  rcases List.mem_cons.mp hp with rfl | hp
  · exact Nat.ne_of_gt h1
  · exact Nat.ne_of_lt (Nat.lt_of_lt_of_le (h2 p hp) (h3 ▸ Nat.le_succ d))
open Classical in
noncomputable def pickB (news : Led) (i : Int) (v : Value) : Bool := decide (∃ ns, LsAt news v ns ∧ ns.head? = some i)
open Classical in
theorem pick_eq {g h : Heap} {L : Addr} {led : Led} {v : Value} {ns : List Int} {i : Int} (N : News g L h led) (hv : LsAt led v ns) : pickB led i v = (ns.head? == some i) := by
  unfold pickB
  cases e : ns.head? == some i with
  | true => exact decide_eq_true ⟨ns, hv, eq_of_beq e⟩
  | false =>
    refine decide_eq_false ?_
    rintro ⟨ms, hm, q⟩
    rw [hv.uniq N hm, q] at e
    simp at e
theorem LsAre.pick {g h : Heap} {L : Addr} {led : Led} {vs : List Value} {lss : List (List Int)} {i : Int} (N : News g L h led) (hv : LsAre led vs lss) : LsAre led (vs.filter (pickB led i)) (lss.filter fun ns => ns.head? == some i) := by
  induction hv with
  | nil => exact .nil
  | @cons v ns vs lss h1 _ ih =>
    have e := pick_eq (i := i) N h1
    cases q : ns.head? == some i with
    | true => rw [q] at e; rw [List.filter_cons, List.filter_cons, if_pos e, if_pos q]; exact .cons h1 ih
    | false => rw [q] at e; rw [List.filter_cons, List.filter_cons, if_neg (by simp [e]), if_neg (by simp [q])]; exact ih
theorem sub_head {prog : Program} {w : World} {A : Around} {E : Value → Shared → Prop} {s : Shared} {h₀ : Heap} {L : Addr} {led : Led} {value slice : Expr} {l : Addr} {k : Nat} {u : Tok} {v : Value} {ws : List Value} {Q : Value → Shared → Prop} (N : News h₀ L s.heap led)
    (hl : (l, listOf (v :: ws).toArray k) ∈ led) (h : Q v s) (hs : subscripted slice false (.ref l) (.int 0 u) = operate [.ref l, .int 0 u] (getItem (.ref l) (.int 0 u)) := by with_unfolding_all rfl) :
    wpAny (model prog w) A (subscriptTail value slice (.ref l) (.int 0 u)) Q E s :=
  tail_any (News.isList N hl).typeIs slot_list_getitem.lookup (wpAny_getItem_list (News.isList N hl) (by decide) (by decide) rfl h) hs
local macro_rules | `(tactic| walk_at "subscriptTail") => `(tactic| ((with_reducible show wpAny _ _ (subscriptTail _ _ (Value.ref _) (Value.int 0 _)) _ _ _); k_dflt (refine' sub_head ?k1 ?k2 ?_; (case k1 => k_asm); (case k2 => k_mem); k_whole)))
section
variable {p : Program} {loose : List Str} {w : World} {mean : ExcName → Option Value} {mg mb : Str → Option Value} {dp un : Nat} {gd : Option (List Code)} {cn : Str} {cs : Scope} {a : Addr} {ccd : Value} {cl : List (Str × Addr)} {outer : List Env} {A₀ : Around} {base h₀ : Heap} {L : Addr} {m : Str → Option Value} {s : Shared} {Q E : Value → Shared → Prop} {news : Led}
variable (B : Below A₀ base outer h₀) (F : Fr h₀ L s.heap m) (X : (hd.heap_39 w.params).In h₀) (N : News h₀ L s.heap news) (T : Top p loose mean mg mb h₀) (hk : cs.kind = .function)
include B F X N T hk
theorem c_lsorted {lb : Addr} {k : Nat} {t : Tok} {vs : List Value} {lss : List (List Int)} (hl : (lb, listOf vs.toArray k) ∈ news) (hv : LsAre news vs lss) (hne : ∀ ns ∈ lss, ns ≠ []) (hz : lss.length ≤ 1000) (hd : dp + 1 < recursionLimit) (hu : un + 20 < cLine)
    (hret : ∀ (q : Addr) (k : Nat) (ws : List Value) (h' : Heap) (tk' : Nat), LsAre news ws (sortI lss 256) → Fr h₀ L h' m → News h₀ L h' ((q, listOf ws.toArray k) :: news) → (∀ p ∈ news, p.1 < q) → Q (.ref q) { s with heap := h', toks := tk' }) :
    Cl w dp un gd cn cs L a ccd cl outer 349 [.ref lb] Q E s := by
  refine wpAny_call ?_
  walk_at "enterC"
  k_steps
  walk_at "forC"
  k_steps
  unfold Hold
  rename Fr _ _ _ _ => lF
  rename News _ _ _ _ => lN
  rename IsRange _ _ _ _ _ _ _ _ => rG
  rename _ ∧ AllLt _ _ => l9
  rename _ = Data.cell _ => dC
  rename ∀ p ∈ news, p.1 < _ => l8
  refine for_rangeC (nn := 256) (JS _ news lss _) rfl rG (by decide) lF (swap2 lN) dC (two_ne l9.1 l8 rfl) rfl (JS.start lN (by kst_all1) (allLt_to l9.2)) ?_ ?_
  · rintro i t oc m₁ nx own h tk htk hi256 hoc ⟨l, k, ws, hlm, hws, hlt, hm⟩ hit hnx hown hsub F1 N1
    obtain ⟨u, rfl⟩ := hm.out
    have hlm' : (l, listOf ws.toArray k) ∈ nx ++ own := hlm.elim (fun h => List.mem_append_left _ h) fun h => List.mem_append_right _ (hsub _ h)
    have hl' : (lb, listOf vs.toArray _) ∈ nx ++ own := List.mem_append_right _ (hsub _ (.tail _ hl))
    k_steps
    unfold Hold
    refine comp_T (pickB news i) (fun v y => v = y) (by with_unfolding_all rfl) (by with_unfolding_all decide) rfl (by with_unfolding_all decide) rfl ?_
    k_steps
    unfold Hold
    rename Fr _ _ _ _ => lF
    rename News _ _ _ _ => lN
    refine comp_list rfl (.tail _ hl') (by rw [hv.length, sizeLine_eq]; omega) lF lN ?_ ?_ ?_
    · intro C v s₃ m₃ E' ht hvm F1 N1
      obtain ⟨hp, g, d, tk, os⟩ := s₃
      obtain ⟨j, hj⟩ := List.getElem?_of_mem hvm
      obtain ⟨ns, hns, hat⟩ := hv.at hj
      have hpk := pick_eq (i := (i : Int)) N hat
      obtain ⟨lv, kv, wv, rfl, hlv, hiv⟩ := hat
      have hne' := hne ns (List.mem_of_getElem? hns)
      cases hiv with
      | nil => exact absurd rfl hne'
      | @cons c0 tc wv' ns' hiv' =>
        have hlv' : (lv, listOf (Value.int c0 tc :: wv').toArray kv) ∈ nx ++ own := List.mem_append_right _ (hsub _ (.tail _ hlv))
        k_steps
        all_goals first | exact Str.ofString "" | exact Value.none | exact ([] : List (Str × Addr)) | exact (0 : Nat) | exact ⟨by rw [hpk]; first | rfl | simp, Keeps.toks⟩
    · intro C v s₃ m₃ E' ht hvm _ F1 N1
      obtain ⟨hp, g, d, tk, os⟩ := s₃
      k_steps
      all_goals first | exact Str.ofString "" | exact Value.none | exact ([] : List (Str × Addr)) | exact (0 : Nat) | exact ⟨rfl, Keeps.toks⟩
    · intro D h' tk ys n' hG F1 N1 hD
      have hys := paired_eq hG
      subst hys
      have hpick := hv.pick (i := (i : Int)) N
      have hl1 := sortI_len lss i
      have hl2 : i * lss.length ≤ 256 * lss.length := Nat.mul_le_mul_right _ (Nat.le_of_lt hi256)
      have hl3 := List.length_filter_le (pickB news (i : Int)) vs
      have hl4 := hv.length
      have hl5 := hws.length
      have hfr : ∀ p ∈ nx ++ own, p.1 < h'.objs.size := fun p hp => Heap.lt_size (N1 p (.tail _ (.tail _ hp))).1
      have hcs := Heap.lt_size (N1 _ (.tail _ (.head _))).1
      dsimp only
      refine add_lists (vs := ws) (ws := vs.filter (pickB news (i : Int))) F1 N1 (News.isList N1 (.tail _ (.tail _ hlm'))) (News.isList N1 (.head _)) ?_ (by rw [sizeLine_eq]; omega)
      intro h5 F5 N5
      k_steps
      rename News _ _ _ _ => nE
      refine TurnEndC.next [(h'.objs.size, listOf (ws ++ vs.filter (pickB news (i : Int))).toArray 0)] (by k_asm) (sub_led nE ?_) hoc (fun p hp => ?_) ⟨_, _, _, .inl (.head _), ?_, ?_, by walk_at "has"⟩
      · intro p hp
        rcases List.mem_cons.mp hp with rfl | hp
        · exact .tail _ (.tail _ (.head _))
        · rcases List.mem_cons.mp hp with rfl | hp
          · exact .head _
          · exact .tail _ (.tail _ (.tail _ (List.mem_append_right _ hp)))
      · rw [List.mem_singleton.mp hp]
        refine ⟨fun q => ?_, fun q => ?_⟩
        · obtain ⟨o', ho'⟩ := hit _ (.head _)
          have h9 := hfr _ (List.mem_append_right _ ho')
          exact absurd (List.mem_singleton.mp q) (Nat.ne_of_gt h9)
        · exact absurd q (Nat.ne_of_gt hcs)
      · rw [sortI_next]; exact hws.append hpick
      · exact fun p hp => hfr p (List.mem_append_right _ (hsub _ (.tail _ hp)))
  · rintro oc v m₁ nx h tk htk hoc ⟨l, k, ws, hlm, hws, hlt, hm⟩ F1 N1
    obtain ⟨u, rfl⟩ := hm.out
    have hlm' := List.mem_append.mpr hlm
    k_steps
    rename News _ _ _ _ => nE
    refine hret l k ws _ _ hws (by k_asm) (sub_led nE fun p hp => ?_) hlt
    rcases List.mem_cons.mp hp with rfl | hp
    · exact .tail _ hlm'
    · exact .tail _ (List.mem_append_right _ (.tail _ hp))
end
local macro_rules | `(tactic| walk_at "call ref") => `(tactic| (k_dflt (refine' c_lsorted (B := ?B) (F := ?F) (X := ?X) (N := ?N) (T := ?T) (hk := ?hk) (hd := ?hd) (hu := ?hu) (hl := ?hl) (hv := ?hv) (hne := ?hne) (hz := ?hz) (hret := ?_); (case B => k_asm); (case F => k_asm); (case X => k_asm); (case N => k_asm); (case T => k_asm); (case hk => first | exact rfl | assumption); (case hd => ktr_room); (case hu => ktr_units); (case hl => k_mem); (case hv => assumption); (case hne => assumption); (case hz => omega); k_whole; intro q' k' ws' h' tk' hs' F' N' l1'; (try dsimp only); (try k_sweep))))
local macro_rules | `(tactic| walk_at "enterR") => `(tactic| k_dflt (refine' code_def ?k1 ?k2 ?k3 ?k4 ?k5 ?kA ?kF ?kK ?k6 ?k7 ?k8 ?k9 ?kB ?_ ?c2 ?c3 ?c4 ?c5; (case kA => exact rfl); (case kF => exact rfl); (case kK => exact rfl); (case k1 => k_asm); (case k2 => k_asm); (case k3 => k_asm); (case k4 => k_asm); (case k5 => k_asm); (case k6 => k_is); (case k7 => k_is); (case k8 => ktr_room); (case k9 => exact BindsTo.of_eq rfl); (case c5 => decide); (case kB => exact locs rfl); (case c2 => exact rfl); (case c3 => exact rfl); (case c4 => exact rfl); k_whole; intro g' L' h' FG' F' N' B' X' T'; (try dsimp only); (try k_lift B'); (try k_fold)))
local macro_rules | `(tactic| walk_at "enterS") => `(tactic| k_dflt (refine' code_defS0 ?k1 ?k2 ?k3 ?k4 ?k5 ?kA ?k6 ?k7 ?k8 ?k9 ?kB ?_ ?cK ?c2 ?c3 ?c4 ?c5; (case kA => exact rfl); (case k2 => k_asm); (case k1 => k_asm); (case k3 => k_asm); (case k4 => k_asm); (case k5 => k_asm); (case k6 => k_is); (case k7 => k_is); (case k8 => ktr_room); (case k9 => exact BindsTo.of_eq rfl); (case kB => exact locs rfl); (case cK => first | assumption | exact rfl); (case c2 => exact rfl); (case c3 => exact rfl); (case c4 => exact rfl); (case c5 => decide); k_whole; intro g' L' h' FG' F' N' B' X' T' D'; (try dsimp only); (try k_lift B'); (try k_fold)))
local macro_rules | `(tactic| walk_at "call ref") => `(tactic| ((with_reducible show wpAny _ _ (call (Value.ref 304) _) _ _ _); refine Hold.mk ?_))
local macro_rules | `(tactic| walk_at "call type:bytes") => `(tactic| ((with_reducible show wpAny _ _ (call (Value.type "bytes") [Value.ref _]) _ _ _); k_dflt (refine' KBa.make_K ?kbaF ?kbaN ?kbah ?kbal ?kbai ?kbar ?kban ?_; (case kbaF => k_asm); (case kbaN => k_asm); (case kbah => rfl); (case kbal => exact News.isList (by k_asm) (by k_mem)); (case kbai => assumption); (case kbar => assumption); (case kban => simp only [List.length_append, List.length_cons]; omega)); intro _ _ _ F' N' kbaIn; (have kbaB := KBa.ints_make kbaIn)))
theorem vbN_in : ∀ (n : Nat) (x : Int), 0 ≤ x → ∀ z ∈ vbN n x, 0 ≤ z ∧ z < 256
  | 0, _, _, _, h => nomatch h
  | n + 1, x, h0, z, h => by
    unfold vbN at h
    split at h
    · rcases List.mem_cons.mp h with rfl | h
      · omega
      · exact vbN_in n (x / 128) (by omega) z h
    · rw [List.mem_singleton.mp h]; omega
theorem txB_in : ∀ (k : Nat), ∀ z ∈ txB k, 0 ≤ z ∧ z < 256 := by
  intro k z h
  unfold txB at h
  split at h <;> revert z <;> decide
theorem tx_in (k : Nat) : ∀ z ∈ tx k, 0 ≤ z ∧ z < 256 := by
  intro z h
  have hl := txB_len k
  rcases List.mem_cons.mp h with rfl | h
  · omega
  · rcases List.mem_cons.mp h with rfl | h
    · omega
    · exact txB_in k z h
theorem enc_in {ty : Int} {p : PV} (h : Fit ty p) : ∀ z ∈ enc ty p, 0 ≤ z ∧ z < 256 := by
  intro z hz
  cases h with
  | b h0 h1 => rw [List.mem_singleton.mp hz]; omega
  | w h0 h1 =>
    have hz' : z ∈ be2 _ := hz
    simp only [be2, List.mem_cons, List.not_mem_nil, or_false] at hz'
    omega
  | d h0 h1 =>
    have hz' : z ∈ be4 _ := hz
    simp only [be4, List.mem_cons, List.not_mem_nil, or_false] at hz'
    omega
  | v h0 h1 => exact vbN_in 4 _ h0 z hz
  | o h0 h1 =>
    rcases List.mem_cons.mp hz with rfl | hz
    · omega
    · rcases List.mem_cons.mp hz with rfl | hz
      · omega
      · exact h1 z hz
  | t => exact tx_in _ z hz
  | p => exact (List.mem_append.mp hz).elim (tx_in _ z) (tx_in _ z)
theorem octs_in {bl : List Blk} (h : ∀ q ∈ bl, okP q) : ∀ z ∈ octs bl, 0 ≤ z ∧ z < 256 := by
  intro z hz
  obtain ⟨q, hq, hz⟩ := List.mem_flatMap.mp hz
  have hq' := h q hq
  rcases List.mem_cons.mp hz with rfl | hz
  · have := rows_in _ hq'.1; omega
  · exact enc_in hq'.2.1 z hz
theorem whole_in {bl : List Blk} {rb : List Int} (h : ∀ q ∈ bl, okP q) (hrb : ∀ z ∈ rb, 0 ≤ z ∧ z < 256) (hz : (octs bl).length ≤ 120) : KBa.In ((((octs bl).length : Int) :: octs bl) ++ rb) := by
  intro z hz'
  rcases List.mem_append.mp hz' with h1 | h1
  · rcases List.mem_cons.mp h1 with rfl | h1
    · omega
    · exact octs_in h z h1
  · exact hrb z h1
theorem Told.init {hsh : Int} {t : Tok} {pk : Value} : Told (putL (Str.ofString "packetType") hsh (.str (Str.ofString "packetType") t) pk []) pk (fun _ => none) where
  noref := noref_putL [] rfl
  find nm := by rw [find_putL]; rfl
  out _ _ := rfl
  hand _ _ h := nomatch h
theorem Desc.sub {led led' : Led} {av : Str → Option Value} {r : Rw} {ps : List PV} (h : Desc led av r ps) (hs : ∀ p ∈ led, p ∈ led') : Desc led' av r ps := by
  rcases h with h | ⟨hf, ⟨hm, v, p, e, ha, hv⟩ | ⟨hm, l, vs, k, ha, hl, hz, hne, hv⟩⟩
  · exact .inl h
  · exact .inr ⟨hf, .inl ⟨hm, v, p, e, ha, hv.sub hs⟩⟩
  · exact .inr ⟨hf, .inr ⟨hm, l, vs, k, ha, hs _ hl, hz, hne, hv.sub hs⟩⟩
theorem empty_eq {led : Led} {av : Str → Option Value} {bl : List Blk} (hD : ∀ r ∈ rows, Desc led av r (psOf bl r)) (hr : ∀ q ∈ bl, q.1 ∈ rows) : (rows.all fun r => (av r.cm).isNone) = bl.isEmpty := by
  cases bl with
  | nil =>
    refine List.all_eq_true.mpr fun r hr => ?_
    rcases hD r hr with ⟨_, h⟩ | ⟨_, ⟨_, v, p, e, _⟩ | ⟨_, l, vs, k, _, _, _, hne, _⟩⟩
    · rw [h]; rfl
    · cases e
    · exact absurd rfl hne
  | cons q bl =>
    refine Bool.eq_false_iff.mpr fun h => ?_
    have hq := hr q (.head _)
    have h1 := List.all_eq_true.mp h q.1 hq
    have hne : psOf (q :: bl) q.1 ≠ [] := psOf_some (by simp)
    rcases hD q.1 hq with ⟨e, _⟩ | ⟨_, ⟨_, v, p, _, e, _⟩ | ⟨_, l, vs, k, e, _⟩⟩
    · exact hne e
    · rw [e] at h1; cases h1
    · rw [e] at h1; cases h1
theorem LsAre.keepsOf {g h : Heap} {L : Addr} {led led' : Led} {vs : List Value} {lss : List (List Int)} (hv : LsAre led vs lss) (_N : News g L h led') (hs : ∀ p ∈ led, p ∈ led') : LsAre led' vs lss := hv.sub hs
def blkO (q : Blk) : List Int := q.1.id :: enc q.1.ty q.2
section
variable {p : Program} {loose : List Str} {w : World} {mean : ExcName → Option Value} {mg mb : Str → Option Value} {dp un : Nat} {gd : Option (List Code)} {cn : Str} {cs : Scope} {a : Addr} {ccd : Value} {A₀ : Around} {base h₀ : Heap} {L : Addr} {m : Str → Option Value} {s : Shared} {Q E : Value → Shared → Prop} {news : Led}
variable (B : Below A₀ base [] h₀) (F : Fr h₀ L s.heap m) (X : (hd.heap_39 w.params).In h₀) (N : News h₀ L s.heap news) (T : Top p loose mean mg mb h₀) (hk : cs.kind = .function) (XB : (hd.heap_39 w.params).In base) (TB : Top p loose mean mg mb base)
include B F X N T hk XB TB
theorem c_lread {lb lbh : Addr} {k k2 : Nat} {t : Tok} {pkn : Int} {vs wb : List Value} {bl : List Blk} {rb : List Int} (hl : (lb, listOf vs.toArray k) ∈ news) (hlh : (lbh, listOf wb.toArray k2) ∈ news) (hv : LsAre news vs (bl.map blkO)) (hb : IntsAre wb rb) (hrb : ∀ z ∈ rb, 0 ≤ z ∧ z < 256) (hzr : rb.length ≤ 10) (hz : (octs bl).length ≤ 120) (hz2 : bl.length ≤ 100) (hokP : ∀ q ∈ bl, okP q) (hz3 : (rows.flatMap (outR (psOf bl))).length ≤ 120) (hd : dp + 8 < recursionLimit) (hu : un + 160 < cLine)
    (hret : okF pkn [] bl = true → ∀ (q : Addr) (l : Addr) (k : Nat) (ws : List Value) (tb : Tok) (h' : Heap) (tk' : Nat) (led' : Led), (q, tupO [.ref l, .int (((octs bl).length : Int) + 1) tb, .bool (bl.isEmpty)]) ∈ led' → (l, listOf ws.toArray k) ∈ led' → IntsAre ws (((rows.flatMap (outR (psOf bl))).length : Int) :: rows.flatMap (outR (psOf bl))) → (∀ p ∈ news, p ∈ led') → Fr h₀ L h' m → News h₀ L h' led' → Q (.ref q) { s with heap := h', toks := tk' })
    (hnone : okF pkn [] bl = false → ∀ (h' : Heap) (tk' : Nat), Fr h₀ L h' m → News h₀ L h' news → Q .none { s with heap := h', toks := tk' }) :
    wpAny (model PySem.Challenge.pw_ci0033_01 w) (ktrTop dp un gd cn cs L a ccd [] []) (call (.ref 356) [.int pkn t, .ref lb, .ref lbh]) Q E s := by
  refine wpAny_call ?_
  walk_at "enterS"
  k_steps
  k_dflt (refine' call_cls ?k1 ?k2 ?k3 ?k4 ?k5 ?k6 ?_)
  case k1 => k_asm
  case k2 => k_asm
  case k3 => k_asm
  case k4 => k_is
  case k5 => k_is
  case k6 => k_is
  intro x dx h9 F9 N9 l1 l2
  (try k_lt2 l2)
  walk_at "enterR"
  k_steps
  have ef : (bl.map blkO).flatten = octs bl := by unfold octs; rw [List.flatMap_def]; rfl
  have hz' : ((bl.map blkO).flatten).length ≤ 1000 := by rw [ef]; omega
  rename News _ _ _ _ => lN
  have hv' := (hv.keepsOf lN fun p hp => .tail _ (.tail _ hp))
  have hin := whole_in hokP hrb hz
  rw [← ef] at hin
  k_steps
  unfold Hold
  rename KBw.bInts (byteArr _) = _ => bB
  have bB' := bB.trans (show _ = vb ((octs bl).length : Int) ++ (octs bl ++ rb) by rw [ef, vb_small (by omega) (by omega)]; rfl)
  k_dflt (refine' c_unpack (av := fun _ => none) (B := ?B) (F := ?F) (X := ?X) (N := ?N) (T := ?T) (hk := ?hk) (hx := ?hx) (hdx := ?hdx) (hT := ?hT) (hb := bB') (hz := by omega) (hzr := hzr) (hz2 := by omega) (hzs := ?hzs) (hokP := hokP) (hav := fun _ _ => rfl) (hd := ?hd) (hu := ?hu) (hret := ?_) (hE := ?_))
  case B => k_asm
  case F => k_asm
  case X => k_asm
  case N => k_asm
  case T => k_asm
  case hk => first | exact rfl | assumption
  case hd => ktr_room
  case hu => ktr_units
  case hx => k_mem
  case hdx => k_mem
  case hT => exact Told.init
  case hzs => exact Nat.le_of_ble_eq_true rfl
  · intro q1 t1 h7 tk7 es7 n7 av7 led7 hok7 hT7 hx7 hdx7 hD7 hsub7 F7 N7
    have hlen9 : (vb ((rows.flatMap (outR (psOf bl))).length : Int)) = [((rows.flatMap (outR (psOf bl))).length : Int)] := vb_small (by omega) (by omega)
    k_steps
    dsimp only
    k_dflt (refine' c_pack (ps := psOf bl) (B := ?B) (F := ?F) (X := ?X) (N := ?N) (T := ?T) (hk := ?hk) (hx := ?hx) (hdx := ?hdx) (hT := hT7) (hD := ?hD) (hz := by omega) (hd := ?hd) (hu := ?hu) (hret := ?_))
    case B => k_asm
    case F => k_asm
    case X => k_asm
    case N => k_asm
    case T => k_asm
    case hk => first | exact rfl | assumption
    case hd => ktr_room
    case hu => ktr_units
    case hx => k_mem
    case hdx => k_mem
    case hD => exact fun r hr => (hD7 r hr).sub fun p hp => .tail _ hp
    intro b8 t8 h8 tk8 hb8 F8 N8
    rw [hlen9] at hb8
    k_steps
    rename News h₀ _ _ _ => nE
    have e1 : ((octs bl).length : Int) + ((vb ((octs bl).length : Int)).length : Int) = ((octs bl).length : Int) + 1 := by rw [vb_small (by omega) (by omega)]; rfl
    have e2 := empty_eq hD7 fun q hq => (hokP q hq).1
    rw [e1, e2] at nE
    refine hret hok7 _ _ _ _ _ _ _ _ (.head _) (.tail _ (.head _)) (ints_cast (by assumption) rfl) (fun p hp => .tail _ (.tail _ (.tail _ (hsub7 p ?_ (Nat.ne_of_lt (l1 p hp)))))) (by k_asm) nE
    repeat (first | exact hp | refine List.mem_cons_of_mem _ ?_)
  · intro hok7 g7 e7 t7 vs7 new7 h7 tk7 FG7 R7 sub7 U7
    k_steps
    rename News h₀ _ _ _ => nE
    refine hnone hok7 _ _ (by k_asm) (sub_led nE fun q hq => sub7 q ?_ (Nat.ne_of_lt (l1 q hq)))
    repeat (first | exact hq | refine List.mem_cons_of_mem _ ?_)
end
theorem ownOf_in {h₀ h : Heap} {fp : List Addr} : ∀ p ∈ PyProof.Rows.ownOf h₀ fp h, p.1 ∈ fp := by
  intro p hp
  obtain ⟨b, hb, e⟩ := List.mem_filterMap.mp hp
  cases hn : h₀.get? b with
  | some x => simp [hn] at e
  | none =>
    cases ho : h.get? b with
    | none => simp [hn, ho] at e
    | some o =>
      simp [hn, ho] at e
      rw [← e]
      exact hb
section
variable {prog : Program} {w : World} {A : Around} {E : Value → Shared → Prop} {s : Shared} {env : Env} {h₀ : Heap} {x : Str} {body : List Stmt} {Q : Flow → Shared → Prop}
theorem loopN {I : Addr} {px : Pos} {fp wr : List Addr} {n : Nat} {P : Nat → Value → Prop} {St : Nat → Heap → Prop} {m₀ : Str → Option Value} {news nx₀ : Led} (J : Nat → (Str → Option Value) → Led → Prop)
    (W : Walks prog w A I fp wr n P St) (hLf : env.locals ∉ fp) (hwr : ∀ b ∈ wr, h₀.get? b = none) (hnw : ∀ p ∈ news, p.1 ∉ wr) (hst : St 0 s.heap)
    (F : Fr h₀ env.locals s.heap m₀) (N : News h₀ env.locals s.heap (nx₀ ++ news)) (hnx0 : ∀ p ∈ nx₀, p.1 ∉ wr) (hlive : ∀ i h, St i h → ∀ b ∈ wr, ∃ o, h.get? b = some o) (hj : J 0 m₀ nx₀)
    (turn : ∀ i v m₁ nx own h tk, s.toks ≤ tk → i < n → P i v → J i m₁ nx → (∀ b ∈ wr, ∃ o, (b, o) ∈ own) → (∀ p ∈ nx, p.1 ∉ wr) → (∀ p ∈ own, p.1 ∈ fp ∨ p ∈ news) → (∀ p ∈ news, p ∈ own) → Fr h₀ env.locals h (fun y => if y = x then some v else m₁ y) → News h₀ env.locals h (nx ++ own) →
      wpAny (model prog w) A (execs body env) (TurnEnd h₀ env.locals wr own (J (i + 1)) s Q) E { s with heap := h, toks := tk })
    (done : ∀ m₁ nx h tk, s.toks ≤ tk → J n m₁ nx → Fr h₀ env.locals h m₁ → News h₀ env.locals h (nx ++ news) → Q .next { s with heap := h, toks := tk }) :
    LoopT prog w A env x px body Q E (.ref I) s := by
  intro hx hp hE
  have hLw : env.locals ∉ wr := fun h => hLf (W.sub _ h)
  have old : ∀ b o, h₀.get? b = some o → b ∉ wr := fun b o e hb => by rw [hwr b hb] at e; cases e
  refine codeAny_forLoop
    (fun k s' => ∃ h' tk m' nx i, s' = { s with heap := h', toks := tk } ∧ s.toks ≤ tk ∧ St i h' ∧ Fr h₀ env.locals h' m' ∧ News h₀ env.locals h' (nx ++ news) ∧ (∀ p ∈ nx, p.1 ∉ wr) ∧ J i m' nx ∧ i ≤ n ∧ k = n + 1 - i) ?_ (n + 1)
    ⟨s.heap, s.toks, m₀, nx₀, 0, rfl, Nat.le_refl _, hst, F, N, hnx0, hj, Nat.zero_le _, rfl⟩
  rintro k s' ⟨h', tk, m', nx, i, rfl, ht, hst', F', N', hnx, hJ, hi, rfl⟩
  have hnw' : ∀ p ∈ nx ++ news, p.1 ∉ wr := fun p hp => (List.mem_append.mp hp).elim (hnx p) (hnw p)
  have next : ∀ h₁ : Heap, (∀ b o, b ∉ wr → h'.get? b = some o → h₁.get? b = some o) → Fr h₀ env.locals h₁ m' ∧ News h₀ env.locals h₁ (nx ++ news) := fun h₁ hk₁ =>
    ⟨⟨F'.ns.at' fun o e => hk₁ _ o hLw e, fun b o e => hk₁ b o (old b o e) (F'.keep b o e), F'.above⟩, fun p hp => ⟨hk₁ _ _ (hnw' p hp) (N' p hp).1, (N' p hp).2⟩⟩
  by_cases hlt : i < n
  · refine wpAny_with_toks (n := s.toks) ht ?_
    refine W.item i _ _ _ hlt hst' fun v h₁ tk₁ hP hst₁ hk₁ ht₁ => ?_
    obtain ⟨F₁, N₁⟩ := next h₁ hk₁
    refine wpAny_assign_Name (wpAny_storeName_local hx F₁.ns (fun h₂ hn₂ hs₂ => ?_) hp)
    have F₂ := F₁.set hn₂ hs₂
    have Nown : News h₀ env.locals h₂ (PyProof.Rows.ownOf h₀ fp h₂) := news_ownOf hLf
    have hst₂ : St (i + 1) h₂ := W.frame _ _ _ hst₁ fun b hb o e => (hs₂.2 b fun q => hLf (q ▸ hb)).trans e
    have N₂ : News h₀ env.locals h₂ (nx ++ (PyProof.Rows.ownOf h₀ fp h₂ ++ news)) := fun p hp => by
      rcases List.mem_append.mp hp with h | h
      · exact (N₁.set hs₂) p (List.mem_append_left _ h)
      · rcases List.mem_append.mp h with h | h
        · exact Nown p h
        · exact (N₁.set hs₂) p (List.mem_append_right _ h)
    have hown : ∀ b ∈ wr, ∃ o, (b, o) ∈ PyProof.Rows.ownOf h₀ fp h₂ ++ news := fun b hb => by
      obtain ⟨o, ho⟩ := hlive _ _ hst₂ b hb
      exact ⟨o, List.mem_append_left _ (mem_ownOf (W.sub b hb) (hwr b hb) ho)⟩
    refine wpAny_mono (wpAny_toks_of (n := s.toks) (Nat.le_succ_of_le ht₁) (wpAny_passesOwn hE (turn i v m' nx (PyProof.Rows.ownOf h₀ fp h₂ ++ news) h₂ (tk₁ + 1) (Nat.le_succ_of_le ht₁) hlt hP hJ hown hnx (fun p hp => (List.mem_append.mp hp).imp (ownOf_in p) id) (fun p hp => List.mem_append_right _ hp) F₂ N₂))) (fun f s₃ h₃ => ?_) fun _ _ e => e.2
    obtain ⟨ht₃, h₃⟩ := h₃
    have fin : (∃ h' tk' m' nx', s₃ = { s with heap := h', toks := tk' } ∧ Fr h₀ env.locals h' m' ∧ News h₀ env.locals h' (nx' ++ (PyProof.Rows.ownOf h₀ fp h₂ ++ news)) ∧ (∀ p ∈ nx', p.1 ∉ wr) ∧ J (i + 1) m' nx') →
        ∃ k, k < n + 1 - i ∧ ∃ h' tk m' nx i, s₃ = { s with heap := h', toks := tk } ∧ s.toks ≤ tk ∧ St i h' ∧ Fr h₀ env.locals h' m' ∧ News h₀ env.locals h' (nx ++ news) ∧ (∀ p ∈ nx, p.1 ∉ wr) ∧ J i m' nx ∧ i ≤ n ∧ k = n + 1 - i := by
      rintro ⟨h₃', tk₃, m₃, nx₃, rfl, F₃, N₃, ha₃, hJ₃⟩
      refine ⟨n + 1 - (i + 1), by omega, h₃', tk₃, m₃, nx₃, i + 1, rfl, ht₃, ?_, F₃, fun p hp => N₃ p ?_, ha₃, hJ₃, hlt, rfl⟩
      · refine W.frame _ _ _ hst₁ fun b hb o e => ?_
        have e₂ : h₂.get? b = some o := (hs₂.2 b fun q => hLf (q ▸ hb)).trans e
        cases hn : h₀.get? b with
        | some o₀ =>
          have : o₀ = o := by have := F₂.keep b o₀ hn; rw [e₂] at this; exact (Option.some.inj this).symm
          exact this ▸ F₃.keep b o₀ hn
        | none => exact (N₃ _ (List.mem_append_right _ (List.mem_append_left _ (mem_ownOf hb hn e₂)))).1
      · rcases List.mem_append.mp hp with h | h
        · exact List.mem_append_left _ h
        · exact List.mem_append_right _ (List.mem_append_right _ h)
    cases f with
    | ret v => exact h₃
    | brk => exact h₃
    | cont => exact fin h₃
    | next => exact fin h₃
  · have hin : i = n := by omega
    subst hin
    refine wpAny_with_toks (n := s.toks) ht ?_
    refine W.done _ _ _ hst' fun h₁ tk₁ hk₁ ht₁ => wpAny_execs_nil ?_
    obtain ⟨F₁, N₁⟩ := next h₁ hk₁
    exact done m' nx h₁ tk₁ ht₁ hJ F₁ N₁

/-- over a range -/
theorem for_rangeN {px : Pos} {q : Addr} {nn : Nat} {t u v : Tok} {m₀ : Str → Option Value} {news nx₀ : Led} (J : Nat → (Str → Option Value) → Led → Prop)
    (hh : A.handled = none) (hr : IsRange s.heap q 0 nn 1 t u v) (hs : Builtin.Range.small 0 nn 1 = true) (F : Fr h₀ env.locals s.heap m₀) (N : News h₀ env.locals s.heap (nx₀ ++ news)) (hj : J 0 m₀ nx₀)
    (turn : ∀ i t m₁ nx own h tk, s.toks ≤ tk → i < nn → J i m₁ nx → (∀ b ∈ [s.heap.objs.size], ∃ o, (b, o) ∈ own) → (∀ p ∈ nx, p.1 ∉ [s.heap.objs.size]) → (∀ p ∈ own, p.1 = s.heap.objs.size ∨ p ∈ news) → (∀ p ∈ news, p ∈ own) → Fr h₀ env.locals h (fun y => if y = x then some (.int (i : Nat) t) else m₁ y) → News h₀ env.locals h (nx ++ own) →
      wpAny (model prog w) A (execs body env) (TurnEnd h₀ env.locals [s.heap.objs.size] own (J (i + 1)) s Q) E { s with heap := h, toks := tk })
    (done : ∀ m₁ nx h tk, s.toks ≤ tk → J nn m₁ nx → Fr h₀ env.locals h m₁ → News h₀ env.locals h (nx ++ news) → Q .next { s with heap := h, toks := tk }) :
    wpAny (model prog w) A (pyIter (.ref q)) (fun it s₂ => LoopT prog w A env x px body Q E it s₂) E s := by
  have hn : Builtin.Range.rangeSize 0 nn 1 = (nn : Int) := by unfold Builtin.Range.rangeSize; simp <;> omega
  refine wpAny_pyIter_range hr hs ?_
  have W := Walks.range (prog := prog) (w := w) hh s.heap.objs.size 0 1 nn
  refine loopN (s := { s with heap := s.heap.push _ }) (fp := [s.heap.objs.size]) (wr := [s.heap.objs.size]) (St := fun i h => IsRangeIter h s.heap.objs.size (0 + (i : Nat) * 1) ((nn : Int) - (i : Nat)) 1) J W (fun h => ?_) (fun b hb => ?_) (fun p hp hI => ?_) (by show IsRangeIter _ _ _ _ _; rw [hn]; simpa using Heap.get?_push_size _ rfl) (F.push _) (fun p hp => ⟨Heap.get?_push_of_some _ (N p hp).1, (N p hp).2⟩) (fun p hp hI => ?_) (fun i h st b hb => ?_) hj (fun i v m₁ nx own h tk ht hi hp hJ h1 h2 h3 => ?_) done
  · exact absurd F.ns.lt (List.mem_singleton.mp h ▸ Nat.lt_irrefl _)
  · rw [List.mem_singleton.mp hb]; exact next_is_new F
  · exact absurd (Heap.lt_size (N p (List.mem_append_right _ hp)).1) ((List.mem_singleton.mp hI) ▸ Nat.lt_irrefl _)
  · exact absurd (Heap.lt_size (N p (List.mem_append_left _ hp)).1) ((List.mem_singleton.mp hI) ▸ Nat.lt_irrefl _)
  · rw [List.mem_singleton.mp hb]; exact ⟨_, st⟩
  · obtain ⟨t, rfl⟩ := hp
    have e : (0 : Int) + (i : Nat) * 1 = (i : Nat) := by omega
    rw [e]
    exact turn i t m₁ nx own h tk ht hi hJ h1 h2 fun p hp => (h3 p hp).imp (fun h => List.mem_singleton.mp h) id
end
theorem append_R {prog : Program} {w : World} {A : Around} {E : Value → Shared → Prop} {s : Shared} {h₀ : Heap} {L : Addr} {m : Str → Option Value} {led : Led} {l : Addr} {vs : List Value} {k : Nat} {v : Value} {Q : Value → Shared → Prop} (F : Fr h₀ L s.heap m) (N : News h₀ L s.heap led)
    (hl : (l, listOf vs.toArray k) ∈ led) (hz : vs.length ≤ 1000) (h : ∀ h' k', Fr h₀ L h' m → News h₀ L h' ((l, listOf (vs ++ [v]).toArray k') :: led.filter (·.1 != l)) → Q .none { s with heap := h' }) :
    wpAny (model prog w) A (call (.builtin "list.append") [.ref l, v]) Q E s := by
  have N' : News h₀ L s.heap ((l, listOf vs.toArray k) :: led.filter (·.1 != l)) := fun p hp => by
    rcases List.mem_cons.mp hp with rfl | hp
    · exact N _ hl
    · exact N _ (List.mem_filter.mp hp).1
  refine append_K F N' (Upd.head fun p hp => by simpa using (List.mem_filter.mp hp).2) ?_ (by rw [sizeLine_eq]; simp; omega)
  intro h' F' N''
  exact h h' (k + 1) F' (led_push N'')
theorem kinds_rows : ∀ pk ∈ [(2 : Int), 3], ∀ e ∈ kindsOf pk, ∃ r ∈ rows, r.id = e.1 ∧ kName r.ty = e.2 ∧ (r.pk.map (·.1)).any (· == pk) = true ∧ r.id ≠ 39 := by decide +kernel
theorem kinds_len : ∀ pk ∈ [(2 : Int), 3], (kindsOf pk).length = 7 := by decide +kernel
theorem fit_mk {ty n : Int} (h : 0 ≤ ty ∧ ty ≤ 6) : Fit ty (mkPV ty n) := by
  have hc : ty = 0 ∨ ty = 1 ∨ ty = 2 ∨ ty = 3 ∨ ty = 4 ∨ ty = 5 ∨ ty = 6 := by omega
  rcases hc with rfl | rfl | rfl | rfl | rfl | rfl | rfl
  · exact .b (by omega) (by omega)
  · exact .w (by omega) (by omega)
  · exact .d (by omega) (by omega)
  · exact .v (by omega) (by omega)
  · refine .o ?_ ?_
    · rw [List.length_replicate]; omega
    · intro z hz
      rw [(List.mem_replicate.mp hz).2]; omega
  · exact .t
  · exact .p
theorem rows_chk : ∀ r ∈ rows, r.id ≠ 39 → ((r.id = 33 ∨ r.id = 35 ∨ r.id = 34) → r.ty = 1) ∧ (r.id = 11 → r.ty = 3) ∧ ((r.id = 25 ∨ r.id = 23 ∨ r.id = 1) → r.ty = 0) := by decide +kernel
theorem okP_mk {r : Rw} {n : Int} (hr : r ∈ rows) (h : r.id ≠ 39) : okP (r, mkPV r.ty n) := by
  have hi := rows_in r hr
  refine ⟨hr, fit_mk ⟨hi.2.2.1, hi.2.2.2⟩, ?_⟩
  intro z hz
  obtain ⟨h1, h2, h3⟩ := rows_chk r hr h
  refine ⟨fun q => ?_, fun q => ?_, fun q => ?_, fun q => ?_⟩
  · have e := h1 (by dsimp only at q; omega)
    have hz' : mkPV r.ty n = PV.int z := hz
    rw [e] at hz'
    injection hz' with hz'
    omega
  · have e := h1 (by dsimp only at q; omega)
    have hz' : mkPV r.ty n = PV.int z := hz
    rw [e] at hz'
    injection hz' with hz'
    omega
  · have e := h2 (by dsimp only at q; omega)
    have hz' : mkPV r.ty n = PV.int z := hz
    rw [e] at hz'
    injection hz' with hz'
    omega
  · have e := h3 (by dsimp only at q; omega)
    have hz' : mkPV r.ty n = PV.int z := hz
    rw [e] at hz'
    injection hz' with hz'
    omega
theorem fmod_7' (y : Int) : y.fmod 7 = y % 7 := Int.fmod_eq_emod_of_nonneg y (by decide)
theorem KVs.at {led : Led} {ks : List (Int × Str)} {vs : List Value} (h : KVs led ks vs) : ∀ {j : Nat}, j < ks.length → ∃ e t u1 u2, ks[j]? = some e ∧ vs[j]? = some (.ref t) ∧ (t, tupO [.int e.1 u1, .str e.2 u2]) ∈ led := by
  induction h with
  | nil => intro j h; exact absurd h (Nat.not_lt_zero _)
  | cons h _ ih =>
    intro j hj
    cases j with
    | zero => exact ⟨_, _, _, _, rfl, rfl, h⟩
    | succ j => exact ih (Nat.lt_of_succ_lt_succ hj)
theorem KVs.length {led : Led} {ks : List (Int × Str)} {vs : List Value} (h : KVs led ks vs) : vs.length = ks.length := by
  induction h with
  | nil => rfl
  | cons _ _ ih => simp [ih]
section
variable {w : World} {A : Around} {E : Value → Shared → Prop} {s : Shared} {h₀ : Heap} {L : Addr} {led : Led} {value slice : Expr} {q : Addr} {pk n : Int} {u : Tok} {Q : Value → Shared → Prop}
theorem sub_kindsD (N : News h₀ L s.heap led) (hK : KindsAt w led q) (hpk : pk = 2 ∨ pk = 3) (h : ∀ a vs, (a, tupO vs) ∈ led → KVs led (kindsOf pk) vs → Q (.ref a) { s with toks := s.toks + 1 })
    (hs : subscripted slice false (.ref q) (.int pk u) = operate [.ref q, .int pk u] (getItem (.ref q) (.int pk u)) := by with_unfolding_all rfl) :
    wpAny (model PySem.Challenge.pw_ci0033_01 w) A (subscriptTail value slice (.ref q) (.int pk u)) Q E s := by
  obtain ⟨o, a3, a2, vs3, vs2, ho, hd, h3, h2, k3, k2⟩ := hK
  have hd' : s.heap.DictOf (intKind PySem.Challenge.pw_ci0033_01 w) q _ := Heap.dictOf_iff.mpr ⟨o, (N _ ho).1, hd⟩
  rcases hpk with rfl | rfl
  · exact tail_any hd'.typeIs slot_dict_getitem.lookup (wpAny_getItem_of (intKind_is _ w 2 u) hd'.mapOf rfl (h a2 vs2 h2 k2)) hs
  · exact tail_any hd'.typeIs slot_dict_getitem.lookup (wpAny_getItem_of (intKind_is _ w 3 u) hd'.mapOf rfl (h a3 vs3 h3 k3)) hs
theorem sub_kind {ks : List (Int × Str)} {vs : List Value} (N : News h₀ L s.heap led) (hq : (q, tupO vs) ∈ led) (hK : KVs led ks vs) (hlen : ks.length = 7) (h : ∀ (e : Int × Str) t u1 u2, e ∈ ks → (t, tupO [.int e.1 u1, .str e.2 u2]) ∈ led → Q (.ref t) s)
    (hs : ∀ k : Int, subscripted slice false (.ref q) (.int k u) = operate [.ref q, .int k u] (getItem (.ref q) (.int k u)) := by intro _; with_unfolding_all rfl) :
    wpAny (model PySem.Challenge.pw_ci0033_01 w) A (subscriptTail value slice (.ref q) (.int (n.fmod 7) u)) Q E s := by
  have ht : IsTup s.heap q vs.toArray := ⟨_, (N _ hq).1, rfl, _, rfl⟩
  rw [fmod_7']
  have hj : (n % 7).toNat < ks.length := by omega
  obtain ⟨e, t, u1, u2, he, hv, hm⟩ := hK.at hj
  have hl9 : vs.length = ks.length := hK.length
  exact item_tupleT ht (by omega) (by omega) (seqIndex_of (by omega) (by omega)) (by simpa using hv) (h e t u1 u2 (List.mem_of_getElem? he) hm) (hs _)
end
theorem okF_append (pk : Int) : ∀ (a b done : List Blk), okF pk done (a ++ b) = (okF pk done a && okF pk (done ++ a) b)
  | [], b, done => by simp [okF]
  | q :: a, b, done => by
    simp only [List.cons_append, okF]
    rw [okF_append pk a b (done ++ [q])]
    simp only [List.append_assoc, List.cons_append, List.nil_append, Bool.and_assoc]
def goodB (pk : Int) (bl : List Blk) : Prop := (∀ q ∈ bl, okP q ∧ (q.1.pk.map (·.1)).any (· == pk) = true ∧ (blkO q).length ≤ 13) ∧ okF pk [] bl = true
theorem blk_len {r : Rw} {n : Int} (hr : r ∈ rows) : (blkO (r, mkPV r.ty n)).length ≤ 13 := by
  have hi := rows_in r hr
  have hc : r.ty = 0 ∨ r.ty = 1 ∨ r.ty = 2 ∨ r.ty = 3 ∨ r.ty = 4 ∨ r.ty = 5 ∨ r.ty = 6 := by omega
  unfold blkO
  dsimp only
  rw [List.length_cons]
  generalize r.ty = ty at hc
  rcases hc with rfl | rfl | rfl | rfl | rfl | rfl | rfl
  · simp [enc, mkPV]
  · simp [enc, mkPV]
  · simp [enc, mkPV]
  · have : (vb (1 + n % 268435455)).length ≤ 4 := vbN_len 4 (1 + n % 268435455)
    show (vb (1 + n % 268435455)).length + 1 ≤ 13
    omega
  · simp only [enc, mkPV, List.length_cons, List.length_replicate]; omega
  · have := tx_len (n % 5).toNat
    show (tx (n % 5).toNat).length + 1 ≤ 13
    omega
  · have h1 := tx_len (n % 5).toNat
    have h2 := tx_len (n / 5 % 5).toNat
    show (tx (n % 5).toNat ++ tx (n / 5 % 5).toNat).length + 1 ≤ 13
    rw [List.length_append]; omega
theorem goodB.snoc {pk : Int} {bl : List Blk} {r : Rw} {n : Int} (h : goodB pk bl) (hr : r ∈ rows) (h39 : r.id ≠ 39) (hpk : (r.pk.map (·.1)).any (· == pk) = true) (hone : r.multi = true ∨ (bl.any fun z => z.1.id == r.id) = false) : goodB pk (bl ++ [(r, mkPV r.ty n)]) := by
  refine ⟨fun q hq => ?_, ?_⟩
  · rcases List.mem_append.mp hq with hq | hq
    · exact h.1 q hq
    · rw [List.mem_singleton.mp hq]; exact ⟨okP_mk hr h39, hpk, blk_len hr⟩
  · rw [okF_append, h.2]
    simp only [okF, List.nil_append, Bool.true_and, Bool.and_true]
    rw [hpk, Bool.and_true]
    rcases hone with h | h
    · rw [h]; rfl
    · rw [h]; simp
/-- blocks outlive a store into another list -/
theorem LsAre.other {g h : Heap} {L lb : Addr} {led led' : Led} {vs ws : List Value} {k : Nat} {lss : List (List Int)} (N : News g L h led) (hl : (lb, listOf ws.toArray k) ∈ led) (hw : ∀ v ∈ ws, ∃ a, v = .ref a) (hv : LsAre led vs lss) (hne : ∀ ns ∈ lss, ns ≠ []) (hs : ∀ p ∈ led, p.1 ≠ lb → p ∈ led') : LsAre led' vs lss := by
  induction hv with
  | nil => exact .nil
  | @cons v ns vs lss h1 _ ih =>
    refine .cons ?_ (ih fun ns h => hne ns (.tail _ h))
    obtain ⟨l, kl, wl, rfl, hm, hi⟩ := h1
    refine ⟨l, kl, wl, rfl, hs _ hm fun e => ?_, hi⟩
    have e' : l = lb := e
    subst e'
    have e9 := listOf_inj (led_one N hm hl)
    subst e9
    cases hi with
    | nil => exact hne _ (.head _) rfl
    | cons n t _ =>
      obtain ⟨a, ha⟩ := hw _ (.head _)
      cases ha
theorem LsAre.refs {led : Led} {vs : List Value} {lss : List (List Int)} (hv : LsAre led vs lss) : ∀ v ∈ vs, ∃ a, v = .ref a := by
  induction hv with
  | nil => intro v h; cases h
  | cons h1 _ ih =>
    intro v hv
    rcases List.mem_cons.mp hv with rfl | hv
    · obtain ⟨l, _, _, rfl, _⟩ := h1; exact ⟨l, rfl⟩
    · exact ih v hv
theorem blkO_ne (bl : List Blk) : ∀ ns ∈ bl.map blkO, ns ≠ [] := by
  intro ns h
  obtain ⟨q, _, rfl⟩ := List.mem_map.mp h
  exact List.cons_ne_nil _ _
/-- the heads of the blocks -/
theorem heads_ints {led : Led} {vs ys : List Value} (huq : ∀ v ns ms, LsAt led v ns → LsAt led v ms → ns = ms) : ∀ {bl : List Blk}, LsAre led vs (bl.map blkO) → Paired (fun v y => ∃ ns c t, LsAt led v ns ∧ ns.head? = some c ∧ y = Value.int c t) vs ys → IntsAre ys (bl.map fun q => q.1.id) := by
  intro bl hv hp
  induction hp generalizing bl with
  | nil => cases bl with
    | nil => exact .nil
    | cons _ _ => cases hv
  | cons hg _ ih => cases bl with
    | nil => cases hv
    | cons q bl =>
      obtain ⟨ns, c, t, h1, h2, rfl⟩ := hg
      cases hv with
      | cons h3 hv =>
        rw [huq _ _ _ h1 h3] at h2
        injection h2 with h2
        rw [← h2]
        exact .cons _ _ (ih hv)
theorem in_1138 {prog : Program} {w : World} {A : Around} {E : Value → Shared → Prop} {s : Shared} {h₀ : Heap} {L q : Addr} {led : Led} {x : Int} {t t1 t2 : Tok} {Q : Value → Shared → Prop} (N : News h₀ L s.heap led) (hq : (q, tupO [.int 11 t1, .int 38 t2]) ∈ led) (h : Q (.bool (x == 11 || x == 38)) s) :
    wpAny (model prog w) A (compareOp .In (.int x t) (.ref q)) Q E s := by
  refine in_tuple_ints (News.isTup N hq) (.cons _ _ (.cons _ _ .nil)) ?_
  have e : ([11, 38] : List Int).any (· == x) = (x == 11 || x == 38) := by simp [Bool.beq_comm, eq_comm]
  rw [e]; exact h
theorem notin_1138 {prog : Program} {w : World} {A : Around} {E : Value → Shared → Prop} {s : Shared} {h₀ : Heap} {L q : Addr} {led : Led} {x : Int} {t t1 t2 : Tok} {Q : Value → Shared → Prop} (N : News h₀ L s.heap led) (hq : (q, tupO [.int 11 t1, .int 38 t2]) ∈ led) (h : Q (.bool (!(x == 11 || x == 38))) s) :
    wpAny (model prog w) A (compareOp .NotIn (.int x t) (.ref q)) Q E s := by
  refine notin_tuple_ints (News.isTup N hq) (.cons _ _ (.cons _ _ .nil)) ?_
  have e : ([11, 38] : List Int).any (· == x) = (x == 11 || x == 38) := by simp [Bool.beq_comm, eq_comm]
  rw [e]; exact h
section
variable {prog : Program} {w : World} {A : Around} {E : Value → Shared → Prop} {s : Shared} {h₀ : Heap} {L l : Addr} {m : Str → Option Value} {led : Led} {vs : List Value} {k : Nat} {x : Int} {t : Tok} {value slice : Expr} {Q : Value → Shared → Prop}
theorem slice_listT {items : Array Value} {vl vu : Value} {lo hi : Option Int}
    (F : Fr h₀ L s.heap m) (N : News h₀ L s.heap led) (hl : s.heap.IsList l items) (pl : IsPart vl lo) (pu : IsPart vu hi)
    (h : ∀ h', Fr h₀ L h' m → News h₀ L h' ((s.heap.objs.size + 1, listOf (slicePick items lo hi none) 0) :: led) → Q (.ref (s.heap.objs.size + 1)) { s with heap := h' })
    (hs : subscripted slice false (.ref l) (.ref s.heap.objs.size) = operate [.ref s.heap.objs.size, .ref l] (getItem (.ref l) (.ref s.heap.objs.size)))
    (hsz : items.size ≤ sizeLine) :
    wpAny (model prog w) A (subscriptTail value slice (.ref l) (.ref s.heap.objs.size)) Q E { s with heap := s.heap.push { cls := .type "slice", data := .fields #[vl, vu, .none] } } := by
  refine tail_any (Heap.IsList.typeIs (s := { s with heap := s.heap.push { cls := .type "slice", data := .fields #[vl, vu, .none] } }) (hl.push _)) list_getitem_lookup
    (wpAny_getItem_list_slice (hl.push _) (Heap.IsSliceOf.new ..) pl pu .none (by simp) ?_ hsz) hs
  have N1 := News.push (F.push { cls := .type "slice", data := .fields #[vl, vu, .none] }) (N.grown fun _ _ e => Heap.get?_push_of_some _ e) { cls := .type "list", data := .seq (slicePick items lo hi none) }
  rw [Heap.size_push] at N1
  show Q (.ref (s.heap.push _).objs.size) _
  rw [Heap.size_push]
  exact h _ ((F.push _).push _) N1
theorem slice_from (F : Fr h₀ L s.heap m) (N : News h₀ L s.heap led) (hl : (l, listOf vs.toArray k) ∈ led) (hz : vs.length ≤ 1000) (h0 : 0 ≤ x) (h1 : x ≤ vs.length)
    (h : ∀ h' q, Fr h₀ L h' m → News h₀ L h' ((q, listOf (vs.drop x.toNat).toArray 0) :: led) → (∀ p ∈ led, p.1 < q) → Q (.ref q) { s with heap := h' })
    (hs : subscripted slice false (.ref l) (.ref s.heap.objs.size) = operate [.ref s.heap.objs.size, .ref l] (getItem (.ref l) (.ref s.heap.objs.size)) := by with_unfolding_all rfl) :
    wpAny (model prog w) A (subscriptTail value slice (.ref l) (.ref s.heap.objs.size)) Q E { s with heap := s.heap.push { cls := .type "slice", data := .fields #[.int x t, .none, .none] } } := by
  refine slice_listT F N (News.isList N hl) (.int x t) .none (fun h' F' N' => ?_) hs (by rw [sizeLine_eq, List.size_toArray]; omega)
  have e : slicePick vs.toArray (some x) none none = (vs.drop x.toNat).toArray := by
    obtain ⟨j, rfl⟩ : ∃ j : Nat, x = j := ⟨x.toNat, by omega⟩
    rw [slicePick_from vs.toArray j (by simp; omega)]
    rfl
  rw [e] at N'
  exact h h' _ F' N' fun p hp => Nat.lt_succ_of_lt (Heap.lt_size (N p hp).1)
theorem slice_upto (F : Fr h₀ L s.heap m) (N : News h₀ L s.heap led) (hl : (l, listOf vs.toArray k) ∈ led) (hz : vs.length ≤ 1000) (h0 : 0 ≤ x) (h1 : x ≤ vs.length)
    (h : ∀ h' q, Fr h₀ L h' m → News h₀ L h' ((q, listOf (vs.take x.toNat).toArray 0) :: led) → (∀ p ∈ led, p.1 < q) → Q (.ref q) { s with heap := h' })
    (hs : subscripted slice false (.ref l) (.ref s.heap.objs.size) = operate [.ref s.heap.objs.size, .ref l] (getItem (.ref l) (.ref s.heap.objs.size)) := by with_unfolding_all rfl) :
    wpAny (model prog w) A (subscriptTail value slice (.ref l) (.ref s.heap.objs.size)) Q E { s with heap := s.heap.push { cls := .type "slice", data := .fields #[.none, .int x t, .none] } } := by
  refine slice_listT F N (News.isList N hl) .none (.int x t) (fun h' F' N' => ?_) hs (by rw [sizeLine_eq, List.size_toArray]; omega)
  have e : slicePick vs.toArray none (some x) none = (vs.take x.toNat).toArray := by
    obtain ⟨j, rfl⟩ : ∃ j : Nat, x = j := ⟨x.toNat, by omega⟩
    rw [slicePick_upto vs.toArray j (by simp; omega)]
    rfl
  rw [e] at N'
  exact h h' _ F' N' fun p hp => Nat.lt_succ_of_lt (Heap.lt_size (N p hp).1)
end
theorem place_lo (x : Int) (n : Nat) : 0 ≤ x.fmod ((n : Int) + 1) := by rw [Int.fmod_eq_emod_of_nonneg x (by omega)]; exact Int.emod_nonneg x (by omega)
theorem place_hi (x : Int) (n : Nat) : x.fmod ((n : Int) + 1) ≤ n := by
  rw [Int.fmod_eq_emod_of_nonneg x (by omega)]
  have := Int.emod_lt_of_pos x (show (0 : Int) < (n : Int) + 1 by omega)
  omega
/-- the blocks by their numbers -/
def sortB (bl : List Blk) : List Blk := (List.range 256).flatMap fun (j : Nat) => bl.filter fun q => q.1.id == (j : Int)
theorem flatMap_filter {α β : Type} {f : α → List β} {p : α → Bool} : ∀ {l : List α}, (∀ a ∈ l, p a = false → f a = []) → l.flatMap f = (l.filter p).flatMap f
  | [], _ => rfl
  | a :: l, h => by
    have ih := flatMap_filter (f := f) (p := p) (l := l) fun b hb => h b (.tail _ hb)
    rw [List.flatMap_cons, List.filter_cons]
    cases e : p a with
    | true => rw [if_pos rfl, List.flatMap_cons, ih]
    | false => rw [if_neg (by decide), h a (.head _) e, ih]; rfl
theorem sortB_map (bl : List Blk) : (sortB bl).map blkO = sortI (bl.map blkO) 256 := by
  unfold sortB sortI
  rw [List.map_flatMap]
  congr 1
  funext j
  rw [List.filter_map]
  rfl
def idsN : List Nat := rows.map fun r => r.id.toNat
theorem ids_range : (List.range 256).filter (fun j => idsN.contains j) = idsN := by decide +kernel
theorem rows_idN : ∀ r ∈ rows, ((r.id.toNat : Nat) : Int) = r.id := by decide +kernel
theorem ids_has : ∀ r ∈ rows, idsN.contains r.id.toNat = true := by decide +kernel
theorem packed_eq {bl : List Blk} (hr : ∀ q ∈ bl, q.1 ∈ rows) : rows.flatMap (outR (psOf bl)) = octs (sortB bl) := by
  have e1 : octs (sortB bl) = (List.range 256).flatMap fun (j : Nat) => (bl.filter fun q => q.1.id == (j : Int)).flatMap blkO := by
    unfold octs sortB
    rw [List.flatMap_assoc]
    rfl
  rw [e1, flatMap_filter (p := fun j => idsN.contains j), ids_range]
  · unfold idsN
    rw [List.flatMap_map]
    have key : ∀ rs : List Rw, (∀ r ∈ rs, r ∈ rows) → rs.flatMap (outR (psOf bl)) = rs.flatMap fun r => (bl.filter fun q => q.1.id == ((r.id.toNat : Nat) : Int)).flatMap blkO := by
      intro rs
      induction rs with
      | nil => intro _; rfl
      | cons r rs ih =>
        intro hin
        rw [List.flatMap_cons, List.flatMap_cons, ih fun r h => hin r (.tail _ h)]
        congr 1
        rw [rows_idN r (hin r (.head _))]
        unfold outR psOf
        rw [List.flatMap_map]
        have k2 : ∀ l : List Blk, (∀ q ∈ l, q.1 ∈ rows ∧ q.1.id = r.id) → l.flatMap (fun q => r.id :: enc r.ty q.2) = l.flatMap blkO := by
          intro l
          induction l with
          | nil => intro _; rfl
          | cons q l ih2 =>
            intro h
            rw [List.flatMap_cons, List.flatMap_cons, ih2 fun q hq => h q (.tail _ hq)]
            congr 1
            obtain ⟨h1, h2⟩ := h q (.head _)
            have e := rows_id q.1 h1 r (hin r (.head _)) h2
            unfold blkO
            rw [e]
        exact k2 _ fun q hq => by
          obtain ⟨h1, h2⟩ := List.mem_filter.mp hq
          exact ⟨hr q h1, by simpa using h2⟩
    exact key rows fun _ h => h
  · intro j _ hj
    rw [List.filter_eq_nil_iff.mpr]
    · rfl
    · intro q hq h
      have e : q.1.id = (j : Int) := by simpa using h
      have := ids_has q.1 (hr q hq)
      rw [e, Int.toNat_natCast] at this
      rw [this] at hj
      cases hj
theorem filter_or {α : Type} {p q : α → Bool} : ∀ l : List α, (∀ a ∈ l, p a = true → q a = false) → (l.filter p ++ l.filter q).Perm (l.filter fun a => p a || q a)
  | [], _ => .nil
  | a :: l, h => by
    have ih := filter_or l fun b hb => h b (.tail _ hb)
    rw [List.filter_cons, List.filter_cons, List.filter_cons]
    cases e : p a with
    | true =>
      rw [h a (.head _) e]
      simpa using ih
    | false =>
      cases e2 : q a with
      | true => simpa using (List.perm_middle).trans (ih.cons a)
      | false => simpa using ih
theorem sortB_perm {bl : List Blk} (hr : ∀ q ∈ bl, q.1 ∈ rows) : (sortB bl).Perm bl := by
  have key : ∀ n : Nat, ((List.range n).flatMap fun (j : Nat) => bl.filter fun q => q.1.id == (j : Int)).Perm (bl.filter fun q => decide (0 ≤ q.1.id ∧ q.1.id < (n : Int))) := by
    intro n
    induction n with
    | zero =>
      rw [List.filter_eq_nil_iff.mpr]
      · exact .nil
      · intro q _ h
        simp at h
        omega
    | succ n ih =>
      rw [List.range_succ, List.flatMap_append]
      have e : bl.filter (fun q => decide (0 ≤ q.1.id ∧ q.1.id < ((n + 1 : Nat) : Int))) = bl.filter fun q => decide (0 ≤ q.1.id ∧ q.1.id < (n : Int)) || q.1.id == (n : Int) := by
        congr 1
        funext q
        rw [Bool.eq_iff_iff]
        simp
        omega
      rw [e]
      refine (List.Perm.append ih (by simp)).trans (filter_or bl fun q _ h => ?_)
      simp at h ⊢
      omega
  refine (key 256).trans ?_
  rw [List.filter_eq_self.mpr]
  intro q hq
  have := rows_in q.1 (hr q hq)
  simp
  omega
/-- no two blocks of one single row -/
def Ap (a b : Blk) : Prop := a.1.id = b.1.id → a.1.multi = true ∨ b.1.multi = true
theorem okF_iff (pk : Int) : ∀ (bl done : List Blk), (∀ q ∈ bl, q.1 ∈ rows) → (∀ q ∈ done, q.1 ∈ rows) →
    (okF pk done bl = true ↔ (∀ q ∈ bl, (q.1.pk.map (·.1)).any (· == pk) = true) ∧ (∀ d ∈ done, ∀ q ∈ bl, Ap d q) ∧ bl.Pairwise Ap)
  | [], done, _, _ => by simp [okF]
  | q :: bl, done, hb, hd => by
    have hq := hb q (.head _)
    have ih := okF_iff pk bl (done ++ [q]) (fun z h => hb z (.tail _ h)) fun z h => (List.mem_append.mp h).elim (hd z) fun h => List.mem_singleton.mp h ▸ hq
    have h1 : (q.1.multi || !(done.any fun z => z.1.id == q.1.id)) = true ↔ ∀ d ∈ done, Ap d q := by
      constructor
      · intro h d hdm e
        rcases Bool.or_eq_true_iff.mp h with h | h
        · exact .inr h
        · exfalso
          have : (done.any fun z => z.1.id == q.1.id) = true := List.any_eq_true.mpr ⟨d, hdm, by simpa using e⟩
          rw [this] at h; cases h
      · intro h
        cases e : done.any fun z => z.1.id == q.1.id with
        | false => simp
        | true =>
          obtain ⟨d, hdm, hde⟩ := List.any_eq_true.mp e
          have e3 : d.1.id = q.1.id := by simpa using hde
          have e4 := rows_id d.1 (hd d hdm) q.1 hq e3
          rcases h d hdm e3 with h | h
          · rw [← e4, h]; rfl
          · rw [h]; rfl
    show ((q.1.multi || !(done.any fun z => z.1.id == q.1.id)) && (q.1.pk.map (·.1)).any (· == pk) && okF pk (done ++ [q]) bl) = true ↔ _
    rw [Bool.and_eq_true_iff, Bool.and_eq_true_iff, h1, ih, List.pairwise_cons]
    constructor
    · rintro ⟨⟨a, b⟩, c, d, e⟩
      refine ⟨fun z hz => (List.mem_cons.mp hz).elim (fun q => q ▸ b) (c z), fun z hz y hy => ?_, fun y hy => d q (List.mem_append_right _ (.head _)) y hy, e⟩
      rcases List.mem_cons.mp hy with rfl | hy
      · exact a z hz
      · exact d z (List.mem_append_left _ hz) y hy
    · rintro ⟨a, b, c, d⟩
      refine ⟨⟨fun z hz => b z hz q (.head _), a q (.head _)⟩, fun z hz => a z (.tail _ hz), fun z hz y hy => ?_, d⟩
      rcases List.mem_append.mp hz with hz | hz
      · exact b z hz y (.tail _ hy)
      · rw [List.mem_singleton.mp hz]; exact c y hy
theorem Ap.symm {a b : Blk} (h : Ap a b) : Ap b a := fun e => (h e.symm).symm
theorem goodB.perm {pk : Int} {a b : List Blk} (h : goodB pk a) (hp : a.Perm b) : goodB pk b := by
  have ha : ∀ q ∈ a, q.1 ∈ rows := fun q hq => (h.1 q hq).1.1
  have hb : ∀ q ∈ b, q.1 ∈ rows := fun q hq => ha q (hp.mem_iff.mpr hq)
  refine ⟨fun q hq => h.1 q (hp.mem_iff.mpr hq), ?_⟩
  obtain ⟨h1, h2, h3⟩ := (okF_iff pk a [] ha fun _ h => nomatch h).mp h.2
  exact (okF_iff pk b [] hb fun _ h => nomatch h).mpr ⟨fun q hq => h1 q (hp.mem_iff.mpr hq), (fun _ h => nomatch h), (hp.pairwise_iff fun h => h.symm).mp h3⟩
theorem goodB.rot {pk : Int} {bl : List Blk} (h : goodB pk bl) (j : Nat) : goodB pk (bl.drop j ++ bl.take j) := by
  refine h.perm ?_
  have e : (bl.take j ++ bl.drop j).Perm (bl.drop j ++ bl.take j) := List.perm_append_comm
  rwa [List.take_append_drop] at e
theorem goodB.sort {pk : Int} {bl : List Blk} (h : goodB pk bl) : goodB pk (sortB bl) := h.perm (sortB_perm fun q hq => (h.1 q hq).1.1).symm
theorem octs_perm {a b : List Blk} (h : a.Perm b) : (octs a).length = (octs b).length := (h.flatMap_right _).length_eq
theorem rep_no {pk : Int} {a b : List Blk} {q : Blk} (hr : ∀ z ∈ a ++ b, z.1 ∈ rows) (hq : q ∈ a ++ b) (hm : q.1.multi = false) : okF pk [] (a ++ [q] ++ b) = false := by
  cases e : okF pk [] (a ++ [q] ++ b) with
  | false => rfl
  | true =>
    exfalso
    have hr' : ∀ z ∈ a ++ [q] ++ b, z.1 ∈ rows := by
      intro z hz
      rcases List.mem_append.mp hz with hz | hz
      · rcases List.mem_append.mp hz with hz | hz
        · exact hr z (List.mem_append_left _ hz)
        · rw [List.mem_singleton.mp hz]; exact hr q hq
      · exact hr z (List.mem_append_right _ hz)
    obtain ⟨_, _, h3⟩ := (okF_iff pk _ [] hr' fun _ h => nomatch h).mp e
    have hqq : Ap q q := by
      rw [List.pairwise_append, List.pairwise_append] at h3
      obtain ⟨⟨_, _, h4⟩, _, h5⟩ := h3
      rcases List.mem_append.mp hq with h | h
      · exact h4 q h q (.head _)
      · exact h5 q (List.mem_append_right _ (.head _)) q h
    rcases hqq rfl with h | h <;> rw [hm] at h <;> cases h
theorem range_one (n : Nat) : ∀ m : Nat, (List.range m).filter (fun j => j == n) = if n < m then [n] else []
  | 0 => rfl
  | m + 1 => by
    rw [List.range_succ, List.filter_append, range_one n m]
    by_cases h : m = n
    · subst h; simp
    · by_cases h2 : n < m
      · rw [if_pos h2, if_pos (by omega)]; simp [h]
      · rw [if_neg h2, if_neg (by omega)]; simp [h]
theorem sortB_filter {bl : List Blk} {r : Rw} (hr : r ∈ rows) : ((sortB bl).filter fun q => q.1.id == r.id) = bl.filter fun q => q.1.id == r.id := by
  have hi := rows_in r hr
  have hn := rows_idN r hr
  unfold sortB
  rw [List.filter_flatMap, flatMap_filter (p := fun j => j == r.id.toNat), range_one, if_pos (by omega)]
  · rw [List.flatMap_cons, List.flatMap_nil, List.append_nil, hn, List.filter_filter]
    simp
  · intro j _ hj
    rw [List.filter_eq_nil_iff]
    intro q hq h
    have h1 : q.1.id = (j : Int) := by simpa using (List.mem_filter.mp hq).2
    have h2 : q.1.id = r.id := by simpa using h
    have h3 : j ≠ r.id.toNat := by simpa using hj
    omega
theorem packed_sort {bl : List Blk} : rows.flatMap (outR (psOf (sortB bl))) = rows.flatMap (outR (psOf bl)) := by
  have key : ∀ rs : List Rw, (∀ r ∈ rs, r ∈ rows) → rs.flatMap (outR (psOf (sortB bl))) = rs.flatMap (outR (psOf bl)) := by
    intro rs
    induction rs with
    | nil => intro _; rfl
    | cons r rs ih =>
      intro h
      rw [List.flatMap_cons, List.flatMap_cons, ih fun z hz => h z (.tail _ hz)]
      congr 1
      unfold outR psOf
      rw [sortB_filter (h r (.head _))]
  exact key rows fun _ h => h
theorem strange_no {pk : Int} {a b : List Blk} {q : Blk} (h : (q.1.pk.map (·.1)).any (· == pk) = false) : okF pk [] (a ++ [q] ++ b) = false := by
  rw [okF_append, okF_append]
  simp only [okF]
  rw [h]
  simp
def r24 : Rw := ⟨Str.ofString "Will Delay Interval", Str.ofString "WillDelayInterval", 24, 465, 2, 571, 207, 206, [(99, 572)]⟩
theorem r24_in : r24 ∈ rows := by decide +kernel
theorem r24_pk : ∀ pk ∈ [(2 : Int), 3], (r24.pk.map (·.1)).any (· == pk) = false := by decide +kernel
def dInts (ns : List Int) : PyData := .list (ns.map PyData.int)
theorem reads_Ls {g h : Heap} {L : Addr} {led : Led} {vs : List Value} {lss : List (List Int)} (N : News g L h led) (hv : LsAre led vs lss) : ∃ as, ReadsAll h vs (lss.map dInts) as := by
  induction hv with
  | nil => exact ⟨_, .nil⟩
  | cons h1 _ ih =>
    obtain ⟨as, ih⟩ := ih
    obtain ⟨l, k, ws, rfl, hl, hi⟩ := h1
    exact ⟨_, .cons (reads_newData (News.isList N hl) (ke_carried hi)) ih⟩
theorem can_ints (ns : List Int) : (dInts ns).canLay0 = true := by
  show PyData.canLayAll0 _ = true
  exact ke_canLayAll0 ns
theorem dep_ints (ns : List Int) : (dInts ns).depth ≤ 1 := by
  simp [dInts, PyData.depth, ke_depthAll]
theorem can_lss : ∀ lss : List (List Int), PyData.canLayAll0 (lss.map dInts) = true
  | [] => rfl
  | ns :: lss => by
    show (PyData.canLay0 (dInts ns) && PyData.canLayAll0 (lss.map dInts)) = true
    rw [can_ints, can_lss lss]; rfl
theorem dep_lss : ∀ lss : List (List Int), PyData.depthAll (lss.map dInts) ≤ 1
  | [] => by simp [PyData.depthAll]
  | ns :: lss => by
    have h1 := dep_ints ns
    have h2 := dep_lss lss
    simp only [List.map_cons, PyData.depthAll]
    omega
theorem shaped_lss (lss : List (List Int)) : SeqAt.shaped (.list (lss.map dInts)) = true := by
  unfold SeqAt.shaped
  have h1 : (PyData.list (lss.map dInts)).canLay0 = true := can_lss lss
  have h2 := dep_lss lss
  rw [h1, Bool.true_and]
  refine decide_eq_true ?_
  simp only [PyData.depth]
  omega
section
variable {prog : Program} {w : World} {A : Around} {E : Value → Shared → Prop} {s : Shared} {h₀ : Heap} {L : Addr} {led : Led} {Q : Value → Shared → Prop}
theorem eq_nil {l e : Addr} {k ke : Nat} {vs : List Value} {lss : List (List Int)} (N : News h₀ L s.heap led) (hl : (l, listOf vs.toArray k) ∈ led) (hv : LsAre led vs lss) (he : (e, listOf #[] ke) ∈ led) (hu : A.units + 64 < cLine) (h : Q (.bool lss.isEmpty) s) :
    wpAny (model prog w) A (compareOp .Eq (.ref l) (.ref e)) Q E s := by
  obtain ⟨as, hr⟩ := reads_Ls N hv
  have r1 : Reads s.heap (.ref l) (.list (lss.map dInts)) (l :: as) := reads_list_at (N _ hl).1 rfl rfl (by simpa using hr)
  have r2 : Reads s.heap (.ref e) (.list []) [e] := reads_list_at (N _ he).1 rfl rfl .nil
  refine eq_dataH r1 r2 (shaped_lss lss) rfl hu ?_
  cases lss with
  | nil => exact h
  | cons _ _ => exact h
theorem ne_same {q1 q2 l1 l2 : Addr} {k1 k2 : Nat} {vs1 vs2 : List Value} {ns : List Int} {a : Int} {c : Bool} {t1 t2 : Tok} (N : News h₀ L s.heap led) (hq1 : (q1, tupO [.ref l1, .int a t1, .bool c]) ∈ led) (hl1 : (l1, listOf vs1.toArray k1) ∈ led) (i1 : IntsAre vs1 ns)
    (hq2 : (q2, tupO [.ref l2, .int a t2, .bool c]) ∈ led) (hl2 : (l2, listOf vs2.toArray k2) ∈ led) (i2 : IntsAre vs2 ns) (hu : A.units + 64 < cLine) (h : Q (.bool false) s) :
    wpAny (model prog w) A (compareOp .NotEq (.ref q1) (.ref q2)) Q E s := by
  have r1 : Reads s.heap (.ref q1) (.tuple [dInts ns, .int a, .bool c]) _ := reads_tuple_at (N _ hq1).1 rfl rfl (.cons (reads_newData (News.isList N hl1) (ke_carried i1)) (.cons (.int _ _) (.cons (.bool _) .nil)))
  have r2 : Reads s.heap (.ref q2) (.tuple [dInts ns, .int a, .bool c]) _ := reads_tuple_at (N _ hq2).1 rfl rfl (.cons (reads_newData (News.isList N hl2) (ke_carried i2)) (.cons (.int _ _) (.cons (.bool _) .nil)))
  have hc : (PyData.tuple [dInts ns, .int a, .bool c]).canLay0 = true := by
    show (PyData.canLay0 (dInts ns) && _) = true
    rw [can_ints]; rfl
  have hs : SeqAt.shaped (.tuple [dInts ns, .int a, .bool c]) = true := by
    unfold SeqAt.shaped
    rw [hc, Bool.true_and]
    have h1 := dep_ints ns
    refine decide_eq_true ?_
    simp only [PyData.depth, PyData.depthAll]
    omega
  refine ne_dataH r1 r2 hs hs hu ?_
  rw [show PyData.eqv _ _ = true from by first | exact SeqAt.eqv_refl _ hc | exact PyProof.eqv_refl _ hc | exact PySem.eqv_refl _ hc | exact P3.eqv_refl _ hc]
  exact h
end
theorem laid_of {pk : Int} {own : Led} {l q8 : Addr} {vs : List Value} {k k8 j i : Nat} {bl : List Blk} {v : Value} (hg : goodB pk bl) (hz : bl.length ≤ 5) (hls : LsAre own vs (bl.map blkO)) (hl : (l, listOf vs.toArray k) ∈ own) (hq : (q8, listOf (vs.drop j ++ vs.take j).toArray k8) ∈ own) (hvi : [Value.ref l, Value.ref q8][i]? = some v) :
    ∃ (lt : Addr) (kt : Nat) (vt : List Value) (blt : List Blk), v = .ref lt ∧ (lt, listOf vt.toArray kt) ∈ own ∧ LsAre own vt (blt.map blkO) ∧ goodB pk blt ∧ blt.length ≤ 5 := by
  match i, hvi with
  | 0, hvi => cases hvi; exact ⟨l, k, vs, bl, rfl, hl, hls, hg, hz⟩
  | 1, hvi =>
    cases hvi
    refine ⟨q8, k8, _, bl.drop j ++ bl.take j, rfl, hq, ?_, hg.rot j, ?_⟩
    · rw [List.map_append, List.map_drop, List.map_take]
      exact (hls.drop j).append (hls.take j)
    · rw [List.length_append, List.length_drop, List.length_take]; omega
theorem octs_len {pk : Int} : ∀ {bl : List Blk}, goodB pk bl → (octs bl).length ≤ 13 * bl.length := by
  intro bl h
  have key : ∀ l : List Blk, (∀ q ∈ l, (blkO q).length ≤ 13) → (octs l).length ≤ 13 * l.length := by
    intro l
    induction l with
    | nil => intro _; exact Nat.le_refl _
    | cons q l ih =>
      intro hl
      have h1 := ih fun q hq => hl q (.tail _ hq)
      have h2 := hl q (.head _)
      have e : octs (q :: l) = blkO q ++ octs l := rfl
      rw [e, List.length_append, List.length_cons]
      omega
  exact key bl fun q hq => (h.1 q hq).2.2
theorem octs_le : ∀ l : List Blk, (∀ q ∈ l, (blkO q).length ≤ 13) → (octs l).length ≤ 13 * l.length
  | [], _ => Nat.le_refl _
  | q :: l, hl => by
    have h1 := octs_le l fun q hq => hl q (.tail _ hq)
    have h2 := hl q (.head _)
    have e : octs (q :: l) = blkO q ++ octs l := rfl
    rw [e, List.length_append, List.length_cons]
    omega
/-- a block put in -/
def insB (bl : List Blk) (j : Nat) (q : Blk) : List Blk := bl.take j ++ [q] ++ bl.drop j
theorem insB_mem {bl : List Blk} {j : Nat} {q z : Blk} (h : z ∈ insB bl j q) : z = q ∨ z ∈ bl := by
  rcases List.mem_append.mp h with h | h
  · rcases List.mem_append.mp h with h | h
    · exact .inr (List.mem_of_mem_take h)
    · exact .inl (List.mem_singleton.mp h)
  · exact .inr (List.mem_of_mem_drop h)
theorem insB_len (bl : List Blk) (j : Nat) (q : Blk) : (insB bl j q).length = bl.length + 1 := by
  unfold insB
  simp only [List.length_append, List.length_take, List.length_drop, List.length_cons, List.length_nil]
  omega
theorem insB_okP {pk : Int} {bl : List Blk} {j : Nat} {q : Blk} (hg : goodB pk bl) (hq : okP q) : ∀ z ∈ insB bl j q, okP z := fun z hz => by
  rcases insB_mem hz with rfl | hz
  · exact hq
  · exact (hg.1 z hz).1
theorem insB_octs {pk : Int} {bl : List Blk} {j : Nat} {q : Blk} (hg : goodB pk bl) (hz : bl.length ≤ 5) (hq : (blkO q).length ≤ 13) : (octs (insB bl j q)).length ≤ 78 := by
  have h := octs_le (insB bl j q) fun z hz => by
    rcases insB_mem hz with rfl | hz
    · exact hq
    · exact (hg.1 z hz).2.2
  rw [insB_len] at h
  omega
theorem insB_pack {pk : Int} {bl : List Blk} {j : Nat} {q : Blk} (hg : goodB pk bl) (hz : bl.length ≤ 5) (hp : okP q) (hq : (blkO q).length ≤ 13) : (rows.flatMap (outR (psOf (insB bl j q)))).length ≤ 120 := by
  have hr : ∀ z ∈ insB bl j q, z.1 ∈ rows := fun z hz => (insB_okP hg hp z hz).1
  rw [packed_eq hr, octs_perm (sortB_perm hr)]
  have := insB_octs (j := j) hg hz hq
  omega
theorem insB_ls {led : Led} {vs : List Value} {bl : List Blk} {q : Blk} {v : Value} (h : LsAre led vs (bl.map blkO)) (hv : LsAt led v (blkO q)) (j : Nat) : LsAre led (vs.take j ++ [v] ++ vs.drop j) ((insB bl j q).map blkO) := by
  unfold insB
  rw [List.map_append, List.map_append, List.map_take, List.map_drop]
  exact ((h.take j).append (.cons hv .nil)).append (h.drop j)
/-- what may stand once is refused when it comes again -/
theorem insB_rep {pk : Int} {bl : List Blk} {j : Nat} {q : Blk} (hg : goodB pk bl) (hq : q ∈ bl) (hm : q.1.multi = false) : okF pk [] (insB bl j q) = false := by
  refine rep_no (fun z hz => ?_) ?_ hm
  · rw [List.take_append_drop] at hz
    exact (hg.1 z hz).1.1
  · rw [List.take_append_drop]; exact hq
theorem insB_strange {pk n : Int} {bl : List Blk} {j : Nat} (hpk : pk = 2 ∨ pk = 3) : okF pk [] (insB bl j (r24, mkPV 2 n)) = false :=
  strange_no (r24_pk pk (by rcases hpk with rfl | rfl <;> simp))
/-- a turn's block -/
theorem blk_at {led : Led} {vs : List Value} {bl : List Blk} {i : Nat} {v : Value} (h : LsAre led vs (bl.map blkO)) (hv : vs[i]? = some v) : ∃ q ∈ bl, ∃ (l : Addr) (k : Nat) (w : Value) (ws : List Value) (t : Tok), v = .ref l ∧ (l, listOf (w :: ws).toArray k) ∈ led ∧ w = .int q.1.id t ∧ IntsAre (w :: ws) (blkO q) := by
  obtain ⟨ns, hns, l, k, ws, rfl, hl, hi⟩ := h.at hv
  rw [List.getElem?_map] at hns
  cases hq : bl[i]? with
  | none => rw [hq] at hns; cases hns
  | some q =>
    rw [hq] at hns
    cases hns
    refine ⟨q, List.mem_of_getElem? hq, l, k, ?_⟩
    unfold blkO at hi
    cases hi with
    | cons _ t hi' => exact ⟨_, _, t, rfl, hl, rfl, .cons _ _ hi'⟩
theorem mem_of {g h : Heap} {L : Addr} {led : Led} {p : Addr × Obj} (_N : News g L h led) (h : p ∈ led) : p ∈ led := h
theorem r24_ok {n : Int} : okP (r24, mkPV 2 n) := okP_mk (r := r24) r24_in (by decide)
theorem r24_len {n : Int} : (blkO (r24, mkPV 2 n)).length ≤ 13 := blk_len (r := r24) r24_in
section
variable {p : Program} {loose : List Str} {w : World} {mean : ExcName → Option Value} {mg mb : Str → Option Value} {dp un : Nat} {gd : Option (List Code)} {cn : Str} {cs : Scope} {a : Addr} {ccd : Value} {cl : List (Str × Addr)} {outer : List Env} {A₀ : Around} {base h₀ : Heap} {L : Addr} {m : Str → Option Value} {s : Shared} {Q E : Value → Shared → Prop} {news : Led}
variable (B : Below A₀ base outer h₀) (F : Fr h₀ L s.heap m) (X : (hd.heap_39 w.params).In h₀) (N : News h₀ L s.heap news) (T : Top p loose mean mg mb h₀) (hk : cs.kind = .function)
include B F X N T hk
/-- the strange block -/
theorem c_four {n : Int} {t u v : Tok} (hd : dp + 2 < recursionLimit) (hu : un + 40 < cLine)
    (hret : ∀ (q : Addr) (k : Nat) (vs : List Value) (h' : Heap) (tk' : Nat), IntsAre vs (blkO (r24, mkPV 2 n)) → Fr h₀ L h' m → News h₀ L h' ((q, listOf vs.toArray k) :: news) → (∀ p ∈ news, p.1 < q) → Q (.ref q) { s with heap := h', toks := tk' }) :
    Cl w dp un gd cn cs L a ccd cl outer 337 [.int 24 t, .str (Str.ofString "four") u, .int n v] Q E s :=
  c_lblock (id := 24) (ty := 2) B F X N T hk ⟨by decide, by decide⟩ ⟨by decide, by decide⟩ hd hu hret
end
theorem range_nat {h : Heap} {q : Addr} {x : Int} {t u v : Tok} (hr : IsRange h q 0 (x.fmod 6) 1 t u v) : ∃ nn : Nat, nn < 6 ∧ Builtin.Range.small 0 (nn : Int) 1 = true ∧ IsRange h q 0 (nn : Int) 1 t u v := by
  have e : x.fmod 6 = x % 6 := Int.fmod_eq_emod_of_nonneg x (by decide)
  have hs : ∀ nn : Nat, nn < 6 → Builtin.Range.small 0 (nn : Int) 1 = true := fun nn h => (by decide : ∀ nn : Fin 6, Builtin.Range.small 0 ((nn.val : Nat) : Int) 1 = true) ⟨nn, h⟩
  refine ⟨(x % 6).toNat, by omega, hs _ (by omega), ?_⟩
  rw [show (((x % 6).toNat : Nat) : Int) = x.fmod 6 by omega]
  exact hr
theorem pk_or (x : Int) : 2 + x.fmod 2 = 2 ∨ 2 + x.fmod 2 = 3 := by rw [fmod_2]; omega
def J1 (lb : Addr) (pk : Int) (m : Str → Option Value) (i : Nat) (m₁ : Str → Option Value) (nx : Led) : Prop :=
  ∃ (vs : List Value) (k : Nat) (bl : List Blk), (lb, listOf vs.toArray k) ∈ nx ∧ LsAre nx vs (bl.map blkO) ∧ goodB pk bl ∧ bl.length ≤ i ∧ Has ["k", "identifier", "kind"] m [] m₁
theorem J1.start {g h : Heap} {L lb : Addr} {k : Nat} {pk : Int} {m : Str → Option Value} {t : Tok} (_N : News g L h [(lb, listOf #[] k)]) (_hpk : m (Str.ofString "packet") = some (.int pk t)) : J1 lb pk m 0 m [(lb, listOf #[] k)] :=
  ⟨[], k, [], .head _, .nil, ⟨fun _ h => (nomatch h), rfl⟩, Nat.le_refl _, Has.refl fun _ h => (nomatch h)⟩
theorem push_end {g h0 h8 : Heap} {L lb it q : Addr} {nx own big : Led} {vs ws : List Value} {k kq k8 i : Nat} {bl : List Blk} {r : Rw} {n pk : Int} {m m8 : Str → Option Value} {s : Shared} {Q : Flow → Shared → Prop} {tk : Nat}
    (lN : News g L h0 big) (hq : (q, listOf ws.toArray kq) ∈ big) (hlb : (lb, listOf vs.toArray k) ∈ nx) (hls : LsAre nx vs (bl.map blkO)) (hg : goodB pk bl) (hlen : bl.length ≤ i) (hsub : ∀ p ∈ nx ++ own, p ∈ big) (hit : ∀ b ∈ [it], ∃ o, (b, o) ∈ own) (hnx : ∀ p ∈ nx, p.1 ∉ [it]) (hown : ∀ p ∈ own, p.1 = it ∨ p ∈ ([] : Led)) (hlt : ∀ p ∈ nx ++ own, p.1 < q)
    (hi : IntsAre ws (r.id :: enc r.ty (mkPV r.ty n))) (hr : r ∈ rows) (h39 : r.id ≠ 39) (hpk : (r.pk.map (·.1)).any (· == pk) = true) (hone : r.multi = true ∨ (bl.any fun z => z.1.id == r.id) = false)
    (F8 : Fr g L h8 m8) (N8 : News g L h8 ((lb, listOf (vs ++ [Value.ref q]).toArray k8) :: big.filter (·.1 != lb))) (hm : Has ["k", "identifier", "kind"] m [] m8) :
    TurnEnd g L [it] own (J1 lb pk m (i + 1)) s Q .next { s with heap := h8, toks := tk } := by
  have hqlb : q ≠ lb := Nat.ne_of_gt (hlt _ (List.mem_append_left _ hlb))
  have hlbit : lb ≠ it := fun e => hnx _ hlb (List.mem_singleton.mpr e)
  have hotl : ∀ p ∈ nx, p.1 ≠ lb → p ∈ nx.filter (·.1 != lb) := fun p hp hne => List.mem_filter.mpr ⟨hp, by simpa using hne⟩
  have Nx : News g L h0 nx := sub_led lN fun p hp => hsub p (List.mem_append_left _ hp)
  have hold : LsAre (nx.filter (·.1 != lb)) vs (bl.map blkO) := hls.other Nx hlb hls.refs (blkO_ne bl) hotl
  refine TurnEnd.next ((lb, listOf (vs ++ [Value.ref q]).toArray k8) :: (q, listOf ws.toArray kq) :: nx.filter (·.1 != lb)) F8 (sub_led N8 fun p hp => ?_) (fun p hp => ?_) ⟨vs ++ [Value.ref q], k8, bl ++ [(r, mkPV r.ty n)], .head _, ?_, hg.snoc hr h39 hpk hone, by rw [List.length_append, List.length_singleton]; omega, hm⟩
  · rcases List.mem_cons.mp hp with rfl | hp
    · exact .head _
    · rcases List.mem_append.mp hp with hp | hp
      · rcases List.mem_cons.mp hp with rfl | hp
        · exact .tail _ (List.mem_filter.mpr ⟨hq, by simpa using hqlb⟩)
        · obtain ⟨h1, h2⟩ := List.mem_filter.mp hp
          exact .tail _ (List.mem_filter.mpr ⟨hsub p (List.mem_append_left _ h1), h2⟩)
      · refine .tail _ (List.mem_filter.mpr ⟨hsub p (List.mem_append_right _ hp), ?_⟩)
        rcases hown p hp with e | e
        · have : p.1 ≠ lb := fun q => hlbit (q.symm.trans e)
          simpa using this
        · cases e
  · rcases List.mem_cons.mp hp with rfl | hp
    · exact fun e => hlbit (List.mem_singleton.mp e)
    · rcases List.mem_cons.mp hp with rfl | hp
      · obtain ⟨o, ho⟩ := hit _ (.head _)
        exact fun e => Nat.ne_of_gt (hlt _ (List.mem_append_right _ ho)) (List.mem_singleton.mp e)
      · exact hnx p (List.mem_filter.mp hp).1
  · rw [List.map_append]
    refine (hold.sub fun p hp => .tail _ (.tail _ hp)).append (.cons ⟨q, kq, ws, rfl, .tail _ (.head _), hi⟩ .nil)
theorem J1.stay {g h : Heap} {L lb it : Addr} {nx own big : Led} {vs : List Value} {k i : Nat} {bl : List Blk} {pk : Int} {m m8 : Str → Option Value} {s : Shared} {Q : Flow → Shared → Prop} {tk : Nat}
    (F8 : Fr g L h m8) (N8 : News g L h big) (hlb : (lb, listOf vs.toArray k) ∈ nx) (hls : LsAre nx vs (bl.map blkO)) (hg : goodB pk bl) (hlen : bl.length ≤ i) (hsub : ∀ p ∈ nx ++ own, p ∈ big) (hnx : ∀ p ∈ nx, p.1 ∉ [it]) (hm : Has ["k", "identifier", "kind"] m [] m8) :
    TurnEnd g L [it] own (J1 lb pk m (i + 1)) s Q .next { s with heap := h, toks := tk } :=
  TurnEnd.next nx F8 (sub_led N8 hsub) hnx ⟨vs, k, bl, hlb, hls, hg, Nat.le_succ_of_le hlen, hm⟩
theorem multi_of {r : Rw} {b : Bool} (h : (r.id == 11 || r.id == 38) = b) : r.multi = b := h
theorem heads_any {bl : List Blk} {i : Int} {b : Bool} (h : (!((bl.map fun q => q.1.id).any (· == i))) = b) : (bl.any fun z => z.1.id == i) = !b := by
  rw [← h, List.any_map]; simp [Function.comp_def]
local macro_rules | `(tactic| walk_at "subscriptTail") => `(tactic| ((with_reducible show wpAny _ _ (subscriptTail _ _ (Value.ref _) (Value.int _ _)) _ _ _); (with_reducible rename KindsAt _ _ _ => hKd9); refine Hold.mk ?_))
local macro_rules | `(tactic| walk_at "compareOp In int ref") => `(tactic| ((with_reducible show wpAny _ _ (compareOp CmpOp.In (Value.int _ _) (Value.ref _)) _ _ _); k_dflt (refine' in_1138 ?k1 ?k2 ?_; (case k1 => k_asm); (case k2 => k_mem); k_whole)))
local macro_rules | `(tactic| walk_at "compareOp NotIn int ref") => `(tactic| ((with_reducible show wpAny _ _ (compareOp CmpOp.NotIn (Value.int _ _) (Value.ref _)) _ _ _); k_dflt (refine' notin_list_ints ?k1 ?k2 ?_; (case k1 => exact News.isList (by k_asm) (by k_mem)); (case k2 => assumption); k_whole)))
local macro_rules | `(tactic| walk_at "compareOp NotIn int ref") => `(tactic| ((with_reducible show wpAny _ _ (compareOp CmpOp.NotIn (Value.int _ _) (Value.ref _)) _ _ _); k_dflt (refine' notin_1138 ?k1 ?k2 ?_; (case k1 => k_asm); (case k2 => k_mem); k_whole)))
local macro_rules | `(tactic| walk_at "call builtin:list.append") => `(tactic| ((with_reducible show wpAny _ _ (call (Value.builtin "list.append") [Value.ref _, Value.ref _]) _ _ _); refine Hold.mk ?_))
theorem len_hold {M : Model} {A : Around} {Q E : Value → Shared → Prop} {s : Shared} {l : Addr} {us : List Value} {c : Nat} {led : Led} (_h : (l, listOf us.toArray c) ∈ led) (h : Hold (wpAny M A (call (.builtin "len") [.ref l]) Q E s)) : wpAny M A (call (.builtin "len") [.ref l]) Q E s := h
local macro_rules | `(tactic| walk_at "call builtin:len") => `(tactic| ((with_reducible show wpAny _ _ (call (Value.builtin "len") [Value.ref _]) _ _ _); (with_reducible refine' len_hold ?k1 ?_; (case k1 => with_reducible assumption))))
local macro_rules | `(tactic| walk_at "subscriptTail") => `(tactic| ((with_reducible show wpAny _ _ (subscriptTail _ (Expr.Slice _ _ _ _) (Value.ref _) _) _ _ _); refine Hold.mk ?_))
local macro_rules | `(tactic| walk_at "call ref") => `(tactic| ((with_reducible show wpAny _ _ (call (Value.ref 344) _) _ _ _); refine Hold.mk ?_))
local macro_rules | `(tactic| walk_at "call ref") => `(tactic| ((with_reducible show wpAny _ _ (call (Value.ref 349) _) _ _ _); refine Hold.mk ?_))
local macro_rules | `(tactic| walk_at "call ref") => `(tactic| ((with_reducible show wpAny _ _ (call (Value.ref 356) _) _ _ _); refine Hold.mk ?_))
theorem beh_in (n : Nat) : ∀ z ∈ ([7, 200, 0] : List Int).take n, 0 ≤ z ∧ z < 256 := by
  intro z hz
  have := List.mem_of_mem_take hz
  simp only [List.mem_cons, List.not_mem_nil, or_false] at this
  omega
theorem beh_len (n : Nat) : (([7, 200, 0] : List Int).take n).length ≤ 10 := by
  rw [List.length_take]; simp only [List.length_cons, List.length_nil]; omega
local macro_rules | `(tactic| walk_at "compareOp Eq ref ref") => `(tactic| ((with_reducible show wpAny _ _ (compareOp _ _ _) _ _ _); refine Hold.mk ?_))
local macro_rules | `(tactic| walk_at "compareOp NotEq ref ref") => `(tactic| ((with_reducible show wpAny _ _ (compareOp _ _ _) _ _ _); refine Hold.mk ?_))
local macro_rules | `(tactic| walk_at "call ref") => `(tactic| (k_dflt (refine' c_four (B := ?B) (F := ?F) (X := ?X) (N := ?N) (T := ?T) (hk := ?hk) (hd := ?hd) (hu := ?hu)  (hret := ?_); (case B => k_asm); (case F => k_asm); (case X => k_asm); (case N => k_asm); (case T => k_asm); (case hk => first | exact rfl | assumption); (case hd => ktr_room); (case hu => ktr_units); k_whole; intro q' k' vs' h' tk' hi' F' N' l1'; (try dsimp only); (try k_sweep))))
theorem lawT : PySem.Challenge.rw_ci0033_01.Holds := hd (by
  k_go0
  k_steps
  walk_at "for"
  k_steps
  unfold Hold
  rename Fr _ _ _ _ => lF
  rename News _ _ _ _ => lN
  rename IsRange _ _ _ _ _ _ _ _ => rG
  obtain ⟨nn, hnn, hsm, rG⟩ := range_nat rG
  refine for_rangeN (news := []) (nx₀ := [_]) (J1 _ _ _) rfl rG hsm lF lN (J1.start lN (by exact rfl)) ?_ ?_
  · rintro i t m₁ nx own h tk htk hi ⟨vs, k, bl, hlb, hls, hg, hlen, hm⟩ hit hnx hown hsub F1 N1
    obtain ⟨u, rfl⟩ := hm.out
    have huq : ∀ v ns ms, LsAt nx v ns → LsAt nx v ms → ns = ms := fun v ns ms h1 h2 => h1.uniq (sub_led N1 fun p hp => List.mem_append_left _ hp) h2
    k_steps
    unfold Hold
    rename News _ _ _ _ => lN
    rename KindsAt _ _ _ => hK
    refine sub_kindsD lN hK (pk_or _) ?_
    intro qa va hqa hva
    k_steps
    unfold Hold
    rename News _ _ _ _ => lN
    refine sub_kind lN hqa hva (kinds_len _ (by simpa using pk_or _)) ?_
    intro e te u1 u2 he hte
    obtain ⟨r, hr, e1, e2, hpk, h39⟩ := kinds_rows _ (by simpa using pk_or _) e he
    rw [← e1, ← e2] at hte
    rename KindsAt _ _ _ => hK
    clear hK hva hqa
    rename ∀ p ∈ nx ++ own, p ∈ _ => hs9
    have hlb' := hs9 _ (List.mem_append_left _ hlb)
    have hls' := hls.sub (fun p hp => hs9 p (List.mem_append_left _ hp))
    have hri := rows_in r hr
    have hty : 0 ≤ r.ty ∧ r.ty ≤ 6 := ⟨hri.2.2.1, hri.2.2.2⟩
    have hid : 0 ≤ r.id ∧ r.id < 128 := by omega
    k_steps
    · rename (r.id == 11 || r.id == 38) = true => hmu
      unfold Hold
      rename Fr _ _ _ _ => lF
      rename News _ _ _ _ => lN
      rename IntsAre _ (r.id :: _) => iB
      rename ∀ (p : Addr × Obj), p ∈ _ :: _ → p.1 < _ => l9
      refine append_R (vs := vs) (k := k) lF lN (by k_mem) (by rw [hls.length, List.length_map]; omega) ?_
      intro h8 k8 F8 N8
      k_steps
      exact push_end lN (.head _) hlb hls hg hlen (fun p hp => .tail _ (.tail _ (hs9 p hp))) hit hnx hown (fun p hp => l9 p (.tail _ (hs9 p hp))) iB hr h39 hpk (.inl hmu) (by k_asm) (by assumption) (by walk_at "has")
    · rename (r.id == 11 || r.id == 38) = false => hmu
      unfold Hold
      refine comp_T (fun _ => true) (fun v y => ∃ ns c t, LsAt nx v ns ∧ ns.head? = some c ∧ y = .int c t) (by with_unfolding_all rfl) (by with_unfolding_all decide) rfl (by with_unfolding_all decide) rfl ?_
      k_steps
      unfold Hold
      rename Fr _ _ _ _ => lF
      rename News _ _ _ _ => lN
      refine comp_list (vs := vs) (nn := k) rfl (by k_mem) (by rw [hls.length, List.length_map, sizeLine_eq]; omega) lF lN ?_ ?_ ?_
      · intro C v s₃ m₃ E' ht hvm F1 N1
        obtain ⟨hp, g, d, tk, os⟩ := s₃
        exact wpAny_pure ⟨rfl, Keeps.toks⟩
      · intro C v s₃ m₃ E' ht hvm _ F1 N1
        obtain ⟨hp, g, d, tk, os⟩ := s₃
        obtain ⟨j, hj⟩ := List.getElem?_of_mem hvm
        obtain ⟨ns, hns, hat⟩ := hls.at hj
        have hne' := blkO_ne bl ns (List.mem_of_getElem? hns)
        have hat' := hat
        obtain ⟨lv, kv, wv, rfl, hlv, hiv⟩ := hat
        cases hiv with
        | nil => exact absurd rfl hne'
        | @cons c0 tc wv' ns' hiv' =>
          have hlv' := hs9 _ (List.mem_append_left _ hlv)
          k_steps
          all_goals first | exact Str.ofString "" | exact Value.none | exact ([] : List (Str × Addr)) | exact (0 : Nat) | exact ⟨⟨_, _, _, hat', rfl, rfl⟩, Keeps.toks⟩
      · intro D h' tk ys n' hG F1 N1 hD
        rw [List.filter_eq_self.mpr (fun _ _ => rfl)] at hG
        have iH := heads_ints huq hls hG
        k_steps
        · exact J1.stay (by k_asm) (by assumption) hlb hls hg hlen (fun p hp => .tail _ (.tail _ (hs9 p hp))) hnx (by walk_at "has")
        · rename List.any _ _ = false => hany
          rw [List.any_map] at hany
          unfold Hold
          rename Fr _ _ _ _ => lF
          rename News _ _ _ _ => lN
          rename IntsAre _ (r.id :: _) => iB
          rename ∀ (p : Addr × Obj), p ∈ _ :: _ → p.1 < _ => l9
          refine append_R (vs := vs) (k := k) lF lN (by k_mem) (by rw [hls.length, List.length_map]; omega) ?_
          intro h8 k8 F8 N8
          k_steps
          exact push_end lN (.head _) hlb hls hg hlen (fun p hp => .tail _ (.tail _ (.tail _ (hs9 p hp)))) hit hnx hown (fun p hp => l9 p (.tail _ (.tail _ (hs9 p hp)))) iB hr h39 hpk (.inr hany) (by k_asm) (by assumption) (by walk_at "has")
  · rintro m₁ nx h tk htk ⟨vs, k, bl, hlb, hls, hg, hlen, hm⟩ F1 N1
    obtain ⟨u, rfl⟩ := hm.out
    rw [List.append_nil] at N1
    have hml : (bl.map blkO).length ≤ 5 := by rw [List.length_map]; omega
    (try (with_reducible rename Flt.MathXP _ _ _ => z0; clear z0))
    (try (with_reducible rename LooseAre _ _ _ => z1; clear z1))
    (try (with_reducible rename Glob _ _ _ _ _ _ _ _ => z2; clear z2))
    (try (with_reducible rename Tables _ _ _ _ => z3; clear z3))
    (try (with_reducible rename TopE _ _ _ _ => z4; clear z4))
    (try (with_reducible rename TopW _ _ _ => z5; clear z5))
    (try (with_reducible rename BMod _ _ _ _ _ => z6; clear z6))
    (try (with_reducible rename Heap.CodeRec _ _ _ => z7; clear z7))
    (try (with_reducible rename Well _ _ _ _ => z8; clear z8))
    (try (with_reducible rename Reads _ _ _ _ => z9; clear z9))
    (try (with_reducible rename ReadsAll _ _ _ _ => z10; clear z10))
    (try (with_reducible rename ReadsAllW _ _ _ _ _ _ => z11; clear z11))
    (try (with_reducible rename Dflts _ _ _ _ _ _ => z12; clear z12))
    k_steps
    unfold Hold
    rename News _ _ _ _ => lN
    refine kst_len lN hlb (hls.length.trans (List.length_map _)) (by omega) ?_
    k_steps
    unfold Hold
    rename Fr _ _ _ _ => lF
    rename News _ _ _ _ => lN
    refine slice_upto (vs := [_, _, _]) lF lN (.head _) (by simp) (by rw [fmod_4]; omega) (by rw [fmod_4]; simp only [List.length_cons, List.length_nil]; omega) ?_
    intro h5 qb F5 N5 l5
    k_steps
    walk_at "for"
    k_steps
    · exfalso
      rename Int.fmod _ _ < 0 => hneg
      exact absurd (place_lo _ _) (Int.not_le.mpr hneg)
    unfold Hold
    rename Fr _ _ _ _ => lF
    rename News _ _ _ _ => lN
    refine slice_from (vs := vs) (k := k) lF lN (by k_mem) (by rw [hls.length]; omega) (place_lo _ _) (by rw [hls.length, List.length_map]; exact place_hi _ _) ?_
    intro h6 q6 F6 N6 l6
    k_steps
    unfold Hold
    rename Fr _ _ _ _ => lF
    rename News _ _ _ _ => lN
    refine slice_upto (vs := vs) (k := k) lF lN (by k_mem) (by rw [hls.length]; omega) (place_lo _ _) (by rw [hls.length, List.length_map]; exact place_hi _ _) ?_
    intro h7 q7 F7 N7 l7
    dsimp only
    refine add_lists (vs := vs.drop _) (ws := vs.take _) F7 N7 (News.isList N7 (.tail _ (.head _))) (News.isList N7 (.head _)) ?_ (by rw [List.length_drop, List.length_take, hls.length, sizeLine_eq]; omega)
    intro h8 F8 N8
    k_steps
    unfold Hold
    rename Fr _ _ _ _ => lF
    rename News _ _ _ _ => lN
    refine for_tuple (fun i m₁ nx => nx = [] ∧ Has ["laid", "due"] _ [] m₁) rfl (.head _) lF lN ⟨rfl, Has.refl (fun _ h => nomatch h)⟩ ?_ ?_
    · rintro i v m₂ nx2 own h2 tk2 htk2 hvi ⟨rfl, hm2⟩ hit2 hnx2 hsub2 F2 N2
      obtain ⟨u2, rfl⟩ := hm2.out
      have hls0 : LsAre own vs (bl.map blkO) := hls.sub fun p hp => hsub2 p (by repeat (first | exact hp | refine List.mem_cons_of_mem _ ?_))
      obtain ⟨lt, kt, vt, blt, rfl, hlt, hvt, hgt, hzt⟩ := laid_of hg (by omega) hls0 (hsub2 _ (by k_mem)) (k8 := 0) (hsub2 _ (.tail _ (.head _))) hvi
      have hqb := hsub2 _ (show (qb, _) ∈ _ by k_mem)
      have hne2 := blkO_ne blt
      have hml2 : (blt.map blkO).length ≤ 5 := by rw [List.length_map]; omega
      k_steps
      unfold Hold
      k_dflt (refine' c_lsorted (t := 0) (lss := blt.map blkO) (vs := vt) (k := kt) (B := ?B) (F := ?F) (X := ?X) (N := ?N) (T := ?T) (hk := ?hk) (hl := hlt) (hv := hvt) (hne := hne2) (hz := by omega) (hd := ?hd) (hu := ?hu) (hret := ?_))
      case B => k_asm
      case F => k_asm
      case X => k_asm
      case N => k_asm
      case T => k_asm
      case hk => first | exact rfl | assumption
      case hd => ktr_room
      case hu => ktr_units
      intro qs ks wsv h3 tk3 hs3 F3 N3 l3
      rw [← sortB_map] at hs3
      have hgs := hgt.sort
      k_steps
      unfold Hold
      have hoct := octs_len hgt
      have ho2 : (octs (sortB blt)).length = (octs blt).length := octs_perm (sortB_perm fun q hq => (hgt.1 q hq).1.1)
      have hfl : ((sortB blt).map blkO).flatten = octs (sortB blt) := by unfold octs; rw [List.flatMap_def]; rfl
      k_dflt (refine' c_lwhole (lss := (sortB blt).map blkO) (vs := wsv) (k := ks) (B := ?B) (F := ?F) (X := ?X) (N := ?N) (T := ?T) (hk := ?hk) (hl := .head _) (hv := hs3.sub fun p hp => .tail _ hp) (hz := by rw [hfl]; omega) (hd := ?hd) (hu := ?hu) (hret := ?_))
      case B => k_asm
      case F => k_asm
      case X => k_asm
      case N => k_asm
      case T => k_asm
      case hk => first | exact rfl | assumption
      case hd => ktr_room
      case hu => ktr_units
      intro qd kd wd h4 tk4 hd4 F4 N4 l4
      rw [hfl] at hd4
      k_steps
      unfold Hold
      have hpk3 : (rows.flatMap (outR (psOf blt))).length ≤ 120 := by rw [packed_eq fun q hq => (hgt.1 q hq).1.1, ho2]; omega
      k_dflt (refine' c_lread (bl := blt) (vs := vt) (k := kt) (B := ?B) (F := ?F) (X := ?X) (N := ?N) (T := ?T) (hk := ?hk) (XB := ?XB) (TB := ?TB) (hl := .tail _ (.tail _ hlt)) (hlh := .tail _ (.tail _ hqb)) (hv := hvt.sub fun p hp => .tail _ (.tail _ hp)) (hb := IntsAre.take (.cons _ _ (.cons _ _ (.cons _ _ .nil))) _) (hrb := ?hrb) (hzr := ?hzr) (hz := by omega) (hz2 := by omega) (hokP := fun q hq => (hgt.1 q hq).1) (hz3 := hpk3) (hd := ?hd) (hu := ?hu) (hret := ?_) (hnone := ?_))
      case B => k_asm
      case F => k_asm
      case X => k_asm
      case N => k_asm
      case T => k_asm
      case XB => k_asm
      case TB => k_asm
      case hk => first | exact rfl | assumption
      case hd => ktr_room
      case hu => ktr_units
      case hrb => exact beh_in _
      case hzr => exact beh_len _
      · intro _ q5 l5 k5 w5 t5 h5 tk5 led5 hq5 hl5 hi5 hsub5 F5 N5
        have hdue5 := hsub5 _ (.head _)
        have hlt5 := hsub5 _ (.tail _ (.tail _ hlt))
        have hvt5 : LsAre led5 vt (blt.map blkO) := hvt.sub fun p hp => hsub5 p (.tail _ (.tail _ hp))
        k_steps
        unfold Hold
        rename News _ _ _ _ => lN
        refine kst_len lN hdue5 (IntsAre.length hd4) (by simp only [List.length_cons]; omega) ?_
        k_steps
        unfold Hold
        rename News _ _ _ _ => lN
        refine eq_nil (lss := blt.map blkO) (vs := vt) (k := kt) lN (.tail _ hlt5) (hvt5.sub fun p hp => .tail _ hp) (.head _) (by ktr_units) ?_
        k_steps
        unfold Hold
        rename News _ _ _ _ => lN
        rw [packed_eq fun q hq => (hgt.1 q hq).1.1] at hi5
        have e5 : ((octs blt).length : Int) + 1 = ((((octs (sortB blt)).length : Int) :: octs (sortB blt)).length : Int) := by rw [List.length_cons, ho2]; omega
        have e6 : blt.isEmpty = (blt.map blkO).isEmpty := by cases blt <;> rfl
        rw [e5, e6] at hq5
        refine ne_same lN (.tail _ (.tail _ hq5)) (.tail _ (.tail _ hl5)) hi5 (.head _) (.tail _ (.tail _ hdue5)) hd4 (by ktr_units) ?_
        k_steps
        unfold Hold
        k_dflt (refine' c_lsorted (t := 0) (lss := blt.map blkO) (vs := vt) (k := kt) (B := ?B) (F := ?F) (X := ?X) (N := ?N) (T := ?T) (hk := ?hk) (hl := .tail _ (.tail _ hlt5)) (hv := hvt5.sub fun p hp => .tail _ (.tail _ hp)) (hne := hne2) (hz := by omega) (hd := ?hd) (hu := ?hu) (hret := ?_))
        case B => k_asm
        case F => k_asm
        case X => k_asm
        case N => k_asm
        case T => k_asm
        case hk => first | exact rfl | assumption
        case hd => ktr_room
        case hu => ktr_units
        intro qs2 ks2 ws2 h6 tk6 hs6 F6 N6 l6
        rw [← sortB_map] at hs6
        k_steps
        unfold Hold
        have hsl : (sortB blt).length = blt.length := (sortB_perm fun q hq => (hgt.1 q hq).1.1).length_eq
        k_dflt (refine' c_lread (bl := sortB blt) (vs := ws2) (k := ks2) (wb := []) (k2 := 0) (rb := []) (B := ?B) (F := ?F) (X := ?X) (N := ?N) (T := ?T) (hk := ?hk) (XB := ?XB) (TB := ?TB) (hl := .tail _ (.head _)) (hlh := .head _) (hv := hs6.sub fun p hp => .tail _ (.tail _ hp)) (hb := .nil) (hrb := fun _ h => nomatch h) (hzr := Nat.zero_le _) (hz := by omega) (hz2 := by omega) (hokP := fun q hq => (hgs.1 q hq).1) (hz3 := by rw [packed_sort]; exact hpk3) (hd := ?hd) (hu := ?hu) (hret := ?_) (hnone := ?_))
        case B => k_asm
        case F => k_asm
        case X => k_asm
        case N => k_asm
        case T => k_asm
        case XB => k_asm
        case TB => k_asm
        case hk => first | exact rfl | assumption
        case hd => ktr_room
        case hu => ktr_units
        · intro _ q7 l7 k7 w7 t7 h7 tk7 led7 hq7 hl7 hi7 hsub7 F7 N7
          have hdue7 := hsub7 _ (.tail _ (.tail _ (.tail _ (.tail _ hdue5))))
          have hlt7 := hsub7 _ (.tail _ (.tail _ (.tail _ (.tail _ hlt5))))
          have hvt7 : LsAre led7 vt (blt.map blkO) := hvt5.sub fun p hp => hsub7 p (.tail _ (.tail _ (.tail _ (.tail _ hp))))
          k_steps
          unfold Hold
          rename News _ _ _ _ => lN
          refine kst_len lN hdue7 (IntsAre.length hd4) (by simp only [List.length_cons]; omega) ?_
          k_steps
          unfold Hold
          rename News _ _ _ _ => lN
          refine eq_nil (lss := blt.map blkO) (vs := vt) (k := kt) lN (.tail _ hlt7) (hvt7.sub fun p hp => .tail _ hp) (.head _) (by ktr_units) ?_
          k_steps
          unfold Hold
          rename News _ _ _ _ => lN
          rw [packed_sort, packed_eq fun q hq => (hgt.1 q hq).1.1] at hi7
          have e7 : ((octs (sortB blt)).length : Int) + 1 = ((((octs (sortB blt)).length : Int) :: octs (sortB blt)).length : Int) := by rw [List.length_cons]; omega
          have e8 : (sortB blt).isEmpty = (blt.map blkO).isEmpty := by cases blt with | nil => rfl | cons a l => (cases e : sortB (a :: l) with | nil => (rw [e] at hsl; cases hsl) | cons _ _ => rfl)
          rw [e7, e8] at hq7
          refine ne_same lN (.tail _ (.tail _ hq7)) (.tail _ (.tail _ hl7)) hi7 (.head _) (.tail _ (.tail _ hdue7)) hd4 (by ktr_units) ?_
          have hown7 : ∀ p ∈ own, p ∈ led7 := fun p hp => hsub7 p (.tail _ (.tail _ (.tail _ (.tail _ (hsub5 p (.tail _ (.tail _ hp)))))))
          k_steps
          exact TurnEnd.next [] (by k_asm) (sub_led (by assumption) fun p hp => .tail _ (.tail _ (hown7 p hp))) (fun _ h => nomatch h) ⟨rfl, by walk_at "has"⟩
        · intro hno
          rw [hgs.2] at hno
          cases hno
      · intro hno
        rw [hgt.2] at hno
        cases hno
    · rintro m₂ nx2 h2 tk2 htk2 ⟨rfl, hm2⟩ F2 N2
      obtain ⟨u2, rfl⟩ := hm2.out
      rw [List.nil_append] at N2
      k_steps
      walk_at "for"
      k_steps
      unfold Hold
      refine for_list (vs := vs) (nn := k) (fun i m₁ nx => nx = [] ∧ Has ["block"] _ [] m₁) rfl (by k_mem) F2 N2 ⟨rfl, Has.refl (fun _ h => nomatch h)⟩ ?_ ?_
      · rintro i v m3 nx3 own h3 tk3 htk3 hvi ⟨rfl, hm3⟩ hit3 hnx3 hsub3 F3 N3
        obtain ⟨u3, rfl⟩ := hm3.out
        have hls3 : LsAre own vs (bl.map blkO) := hls.sub fun p hp => hsub3 p (by repeat (first | exact hp | refine List.mem_cons_of_mem _ ?_))
        have hlb3 := hsub3 _ (show (_, W.listOf vs.toArray k) ∈ _ by k_mem)
        have hqb3 := hsub3 _ (show (qb, _) ∈ _ by k_mem)
        obtain ⟨q, hq, lq, kq, wq, wsq, tq, rfl, hlq, rfl, hiq⟩ := blk_at hls3 hvi
        k_steps
        · exact TurnEnd.next [] (by k_asm) (sub_led (by assumption) fun p hp => .tail _ hp) (fun _ h => nomatch h) ⟨rfl, by walk_at "has"⟩
        · rename (q.1.id == 11 || q.1.id == 38) = false => hmu
          have hvl : vs.length ≤ 5 := by rw [hls.length]; exact hml
          unfold Hold
          rename Fr _ _ _ _ => lF
          rename News _ _ _ _ => lN
          refine slice_upto (vs := vs) (k := k) lF lN (.tail _ hlb3) (by omega) (place_lo _ _) (by rw [hls.length, List.length_map]; exact place_hi _ _) ?_
          intro h9 q9 F9 N9 l9
          k_steps
          rename Fr _ _ _ _ => lF
          rename News _ _ _ _ => lN
          refine add_lists (vs := vs.take _) (ws := [.ref lq]) lF lN (News.isList lN (.tail _ (.head _))) (News.isList lN (.head _)) ?_ (by rw [List.length_take, sizeLine_eq]; simp only [List.length_cons, List.length_nil]; omega)
          intro h10 F10 N10
          k_steps
          unfold Hold
          rename Fr _ _ _ _ => lF
          rename News _ _ _ _ => lN
          refine slice_from (vs := vs) (k := k) lF lN (by repeat (first | exact hlb3 | refine List.mem_cons_of_mem _ ?_)) (by omega) (place_lo _ _) (by rw [hls.length, List.length_map]; exact place_hi _ _) ?_
          intro h11 q11 F11 N11 l11
          dsimp only
          refine add_lists (vs := vs.take _ ++ [.ref lq]) (ws := vs.drop _) F11 N11 (News.isList N11 (.tail _ (.head _))) (News.isList N11 (.head _)) ?_ (by rw [List.length_append, List.length_take, List.length_drop, sizeLine_eq]; simp only [List.length_cons, List.length_nil]; omega)
          intro h12 F12 N12
          k_steps
          unfold Hold
          have hokq := (hg.1 q hq).1
          have hlq13 := (hg.1 q hq).2.2
          have hbl5 : bl.length ≤ 5 := by omega
          k_dflt (refine' c_lread (bl := insB bl _ q) (vs := vs.take _ ++ [Value.ref lq] ++ vs.drop _) (k := 0) (B := ?B) (F := F12) (X := ?X) (N := N12) (T := ?T) (hk := ?hk) (XB := ?XB) (TB := ?TB) (hl := .head _) (hlh := ?hlh) (hv := insB_ls (hls3.sub ?hsb) ⟨lq, kq, _, rfl, ?hlq, hiq⟩ _) (hb := IntsAre.take (.cons _ _ (.cons _ _ (.cons _ _ .nil))) _) (hrb := ?hrb) (hzr := ?hzr) (hz := Nat.le_trans (insB_octs hg hbl5 hlq13) (by decide)) (hz2 := by rw [insB_len]; omega) (hokP := insB_okP hg hokq) (hz3 := insB_pack hg hbl5 hokq hlq13) (hd := ?hd) (hu := ?hu) (hret := ?_) (hnone := ?_))
          case B => k_asm
          case X => k_asm
          case T => k_asm
          case XB => k_asm
          case TB => k_asm
          case hk => first | exact rfl | assumption
          case hd => ktr_room
          case hu => ktr_units
          case hrb => exact beh_in _
          case hzr => exact beh_len _
          case hlh => repeat (first | exact hqb3 | refine List.mem_cons_of_mem _ ?_)
          case hsb => exact fun p hp => by repeat (first | exact hp | refine List.mem_cons_of_mem _ ?_)
          case hlq => repeat (first | exact hlq | refine List.mem_cons_of_mem _ ?_)
          · intro hno
            rw [insB_rep hg hq hmu] at hno
            cases hno
          · intro _ h13 tk13 F13 N13
            k_steps
            refine TurnEnd.ret ?_
            dsimp only
            k_steps
      · rintro m3 nx3 h3 tk3 htk3 ⟨rfl, hm3⟩ F3 N3
        obtain ⟨u3, rfl⟩ := hm3.out
        rw [List.nil_append] at N3
        have hvl : vs.length ≤ 5 := by rw [hls.length]; exact hml
        k_steps
        unfold Hold
        rename IntsAre _ (blkO _) => hiq
        rename News _ _ _ _ => lN
        rename Fr _ _ _ _ => lF
        have hlb3 := mem_of lN (p := (_, W.listOf vs.toArray k)) (by k_mem)
        have hqb3 := mem_of lN (p := (qb, _)) (by k_mem)
        have hlq := mem_of lN (.head _)
        have hls3 := hls.keepsOf lN fun p hp => by repeat (first | exact hp | refine List.mem_cons_of_mem _ ?_)
        refine slice_upto (vs := vs) (k := k) lF lN hlb3 (by omega) (place_lo _ _) (by rw [hls.length, List.length_map]; exact place_hi _ _) ?_
        intro h9 q9 F9 N9 l9
        k_steps
        rename Fr _ _ _ _ => lF
        rename News _ _ _ _ => lN
        refine add_lists (vs := vs.take _) (ws := [.ref _]) lF lN (News.isList lN (.tail _ (.head _))) (News.isList lN (.head _)) ?_ (by rw [List.length_take, sizeLine_eq]; simp only [List.length_cons, List.length_nil]; omega)
        intro h10 F10 N10
        k_steps
        unfold Hold
        rename Fr _ _ _ _ => lF
        rename News _ _ _ _ => lN
        refine slice_from (vs := vs) (k := k) lF lN (by repeat (first | exact hlb3 | refine List.mem_cons_of_mem _ ?_)) (by omega) (place_lo _ _) (by rw [hls.length, List.length_map]; exact place_hi _ _) ?_
        intro h11 q11 F11 N11 l11
        dsimp only
        refine add_lists (vs := vs.take _ ++ [.ref _]) (ws := vs.drop _) F11 N11 (News.isList N11 (.tail _ (.head _))) (News.isList N11 (.head _)) ?_ (by rw [List.length_append, List.length_take, List.length_drop, sizeLine_eq]; simp only [List.length_cons, List.length_nil]; omega)
        intro h12 F12 N12
        k_steps
        unfold Hold
        have hbl5 : bl.length ≤ 5 := by omega
        k_dflt (refine' c_lread (bl := insB bl _ (r24, mkPV 2 _)) (vs := vs.take _ ++ [Value.ref _] ++ vs.drop _) (k := 0) (B := ?B) (F := F12) (X := ?X) (N := N12) (T := ?T) (hk := ?hk) (XB := ?XB) (TB := ?TB) (hl := .head _) (hlh := ?hlh) (hv := insB_ls (hls3.sub ?hsb) ⟨_, _, _, rfl, ?hlq, hiq⟩ _) (hb := IntsAre.take (.cons _ _ (.cons _ _ (.cons _ _ .nil))) _) (hrb := ?hrb) (hzr := ?hzr) (hz := Nat.le_trans (insB_octs hg hbl5 r24_len) (by decide)) (hz2 := by rw [insB_len]; omega) (hokP := insB_okP hg r24_ok) (hz3 := insB_pack hg hbl5 r24_ok r24_len) (hd := ?hd) (hu := ?hu) (hret := ?_) (hnone := ?_))
        case B => k_asm
        case X => k_asm
        case T => k_asm
        case XB => k_asm
        case TB => k_asm
        case hk => first | exact rfl | assumption
        case hd => ktr_room
        case hu => ktr_units
        case hrb => exact beh_in _
        case hzr => exact beh_len _
        case hlh => repeat (first | exact hqb3 | refine List.mem_cons_of_mem _ ?_)
        case hsb => exact fun p hp => by repeat (first | exact hp | refine List.mem_cons_of_mem _ ?_)
        case hlq => repeat (first | exact hlq | refine List.mem_cons_of_mem _ ?_)
        · intro hno
          rw [insB_strange (pk_or _)] at hno
          cases hno
        · intro _ h13 tk13 F13 N13
          k_steps)
end Mine
theorem PySem.Challenge.cw_ci0033_01_holds : PySem.Challenge.rw_ci0033_01.Holds :=
  Mine.lawT
