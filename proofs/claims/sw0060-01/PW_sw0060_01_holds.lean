import PyProof.Rows.All
import Wide.All
import OpenK.AllK
import Wide.FinOn
import PySem.Challenge.RW_sw0060_01
open PySem PySem.W PySem.Calls PyProof.Rows
set_option Elab.async false
set_option maxRecDepth 100000
set_option maxHeartbeats 8000000
namespace Mine
section
local macro_rules | `(tactic| refine PySem.W.holds_open $_*) => `(tactic| assumption)
theorem hdK (X : PySem.Challenge.rw_sw0060_01.row.Holds) : PySem.Challenge.rw_sw0060_01.row.Holds := by k_head
end
-- part 00_loops
section
theorem frm_y {z y : Str} {a v : Option Value} {b : Option Value} (h1 : z = y → a = v) (h2 : z ≠ y → a = b) : a = if z = y then v else b := by
  by_cases e : z = y
  · rw [if_pos e]; exact h1 e
  · rw [if_neg e]; exact h2 e
theorem frm_t {z y : Str} {a : Option Value} {b : Option Value} (h2 : z ≠ y → a = b) : a = if z = y then a else b := by
  by_cases e : z = y
  · rw [if_pos e]
  · rw [if_neg e]; exact h2 e
theorem frm0_1 {m' M : Str → Option Value} {t1 : Str}  (hm : ∀ z, z ≠ t1 → m' z = M z) : m' = fun z => if z = t1 then m' z else M z := by
  funext z
  refine frm_t fun et1 => ?_
  exact hm z et1
theorem frm0_2 {m' M : Str → Option Value} {t1 t2 : Str}  (hm : ∀ z, z ≠ t1 → z ≠ t2 → m' z = M z) : m' = fun z => if z = t1 then m' z else if z = t2 then m' z else M z := by
  funext z
  refine frm_t fun et1 => ?_
  refine frm_t fun et2 => ?_
  exact hm z et1 et2
theorem frm0_3 {m' M : Str → Option Value} {t1 t2 t3 : Str}  (hm : ∀ z, z ≠ t1 → z ≠ t2 → z ≠ t3 → m' z = M z) : m' = fun z => if z = t1 then m' z else if z = t2 then m' z else if z = t3 then m' z else M z := by
  funext z
  refine frm_t fun et1 => ?_
  refine frm_t fun et2 => ?_
  refine frm_t fun et3 => ?_
  exact hm z et1 et2 et3
theorem frm0_5 {m' M : Str → Option Value} {t1 t2 t3 t4 t5 : Str}  (hm : ∀ z, z ≠ t1 → z ≠ t2 → z ≠ t3 → z ≠ t4 → z ≠ t5 → m' z = M z) : m' = fun z => if z = t1 then m' z else if z = t2 then m' z else if z = t3 then m' z else if z = t4 then m' z else if z = t5 then m' z else M z := by
  funext z
  refine frm_t fun et1 => ?_
  refine frm_t fun et2 => ?_
  refine frm_t fun et3 => ?_
  refine frm_t fun et4 => ?_
  refine frm_t fun et5 => ?_
  exact hm z et1 et2 et3 et4 et5
theorem frm1_0 {m' M : Str → Option Value} {y1 : Str} {v1 : Value} (h1 : m' y1 = some v1) (hm : ∀ z, z ≠ y1 → m' z = M z) : m' = fun z => if z = y1 then some v1 else M z := by
  funext z
  refine frm_y (fun e => by rw [e]; exact h1) fun ey1 => ?_
  exact hm z ey1
theorem frm1_1 {m' M : Str → Option Value} {y1 t1 : Str} {v1 : Value} (h1 : m' y1 = some v1) (hm : ∀ z, z ≠ y1 → z ≠ t1 → m' z = M z) : m' = fun z => if z = y1 then some v1 else if z = t1 then m' z else M z := by
  funext z
  refine frm_y (fun e => by rw [e]; exact h1) fun ey1 => ?_
  refine frm_t fun et1 => ?_
  exact hm z ey1 et1
theorem frm1_4 {m' M : Str → Option Value} {y1 t1 t2 t3 t4 : Str} {v1 : Value} (h1 : m' y1 = some v1) (hm : ∀ z, z ≠ y1 → z ≠ t1 → z ≠ t2 → z ≠ t3 → z ≠ t4 → m' z = M z) : m' = fun z => if z = y1 then some v1 else if z = t1 then m' z else if z = t2 then m' z else if z = t3 then m' z else if z = t4 then m' z else M z := by
  funext z
  refine frm_y (fun e => by rw [e]; exact h1) fun ey1 => ?_
  refine frm_t fun et1 => ?_
  refine frm_t fun et2 => ?_
  refine frm_t fun et3 => ?_
  refine frm_t fun et4 => ?_
  exact hm z ey1 et1 et2 et3 et4
theorem frm1_7 {m' M : Str → Option Value} {y1 t1 t2 t3 t4 t5 t6 t7 : Str} {v1 : Value} (h1 : m' y1 = some v1) (hm : ∀ z, z ≠ y1 → z ≠ t1 → z ≠ t2 → z ≠ t3 → z ≠ t4 → z ≠ t5 → z ≠ t6 → z ≠ t7 → m' z = M z) : m' = fun z => if z = y1 then some v1 else if z = t1 then m' z else if z = t2 then m' z else if z = t3 then m' z else if z = t4 then m' z else if z = t5 then m' z else if z = t6 then m' z else if z = t7 then m' z else M z := by
  funext z
  refine frm_y (fun e => by rw [e]; exact h1) fun ey1 => ?_
  refine frm_t fun et1 => ?_
  refine frm_t fun et2 => ?_
  refine frm_t fun et3 => ?_
  refine frm_t fun et4 => ?_
  refine frm_t fun et5 => ?_
  refine frm_t fun et6 => ?_
  refine frm_t fun et7 => ?_
  exact hm z ey1 et1 et2 et3 et4 et5 et6 et7
theorem frm2_1 {m' M : Str → Option Value} {y1 y2 t1 : Str} {v1 v2 : Value} (h1 : m' y1 = some v1) (h2 : m' y2 = some v2) (hm : ∀ z, z ≠ y1 → z ≠ y2 → z ≠ t1 → m' z = M z) : m' = fun z => if z = y1 then some v1 else if z = y2 then some v2 else if z = t1 then m' z else M z := by
  funext z
  refine frm_y (fun e => by rw [e]; exact h1) fun ey1 => ?_
  refine frm_y (fun e => by rw [e]; exact h2) fun ey2 => ?_
  refine frm_t fun et1 => ?_
  exact hm z ey1 ey2 et1
theorem frm3_3 {m' M : Str → Option Value} {y1 y2 y3 t1 t2 t3 : Str} {v1 v2 v3 : Value} (h1 : m' y1 = some v1) (h2 : m' y2 = some v2) (h3 : m' y3 = some v3) (hm : ∀ z, z ≠ y1 → z ≠ y2 → z ≠ y3 → z ≠ t1 → z ≠ t2 → z ≠ t3 → m' z = M z) : m' = fun z => if z = y1 then some v1 else if z = y2 then some v2 else if z = y3 then some v3 else if z = t1 then m' z else if z = t2 then m' z else if z = t3 then m' z else M z := by
  funext z
  refine frm_y (fun e => by rw [e]; exact h1) fun ey1 => ?_
  refine frm_y (fun e => by rw [e]; exact h2) fun ey2 => ?_
  refine frm_y (fun e => by rw [e]; exact h3) fun ey3 => ?_
  refine frm_t fun et1 => ?_
  refine frm_t fun et2 => ?_
  refine frm_t fun et3 => ?_
  exact hm z ey1 ey2 ey3 et1 et2 et3
theorem frm4_1 {m' M : Str → Option Value} {y1 y2 y3 y4 t1 : Str} {v1 v2 v3 v4 : Value} (h1 : m' y1 = some v1) (h2 : m' y2 = some v2) (h3 : m' y3 = some v3) (h4 : m' y4 = some v4) (hm : ∀ z, z ≠ y1 → z ≠ y2 → z ≠ y3 → z ≠ y4 → z ≠ t1 → m' z = M z) : m' = fun z => if z = y1 then some v1 else if z = y2 then some v2 else if z = y3 then some v3 else if z = y4 then some v4 else if z = t1 then m' z else M z := by
  funext z
  refine frm_y (fun e => by rw [e]; exact h1) fun ey1 => ?_
  refine frm_y (fun e => by rw [e]; exact h2) fun ey2 => ?_
  refine frm_y (fun e => by rw [e]; exact h3) fun ey3 => ?_
  refine frm_y (fun e => by rw [e]; exact h4) fun ey4 => ?_
  refine frm_t fun et1 => ?_
  exact hm z ey1 ey2 ey3 ey4 et1
theorem off_one {X : Addr} {D : Addr} {o o' : Obj} {l : List (Addr × Obj)} (h : ∀ p ∈ (D, o) :: l, p.1 ≠ X) : ∀ p ∈ (D, o') :: l, p.1 ≠ X := by
  intro p hp
  rcases List.mem_cons.mp hp with rfl | hp
  · exact h (D, o) (List.mem_cons_self ..)
  · exact h _ (List.mem_cons_of_mem _ hp)
theorem off_set {X : Addr} {a : Addr × Obj} {D : Addr} {o o' : Obj} {l : List (Addr × Obj)} (h : ∀ p ∈ a :: (D, o) :: l, p.1 ≠ X) : ∀ p ∈ a :: (D, o') :: l, p.1 ≠ X := by
  intro p hp
  rcases List.mem_cons.mp hp with rfl | hp
  · exact h _ (List.mem_cons_self ..)
  · exact off_one (fun q hq => h q (List.mem_cons_of_mem _ hq)) p hp
/-- the end of a loop's turn: frame, ledger (the iterator first), and what holds between the turns -/
noncomputable def TurnEnd (h₀ : Heap) (L : Addr) (s₁ : Shared) (I : Addr) (it : Obj) (rest : (Str → Option Value) → List (Addr × Obj) → Prop) (s₂ : Shared) : Prop :=
  ∃ h' tk m' news', s₂ = { s₁ with heap := h', toks := tk } ∧ Fr h₀ L h' m' ∧ News h₀ L h' ((I, it) :: news') ∧ (∀ p ∈ news', p.1 ≠ I) ∧ rest m' news'
noncomputable def TurnPost (h₀ : Heap) (L : Addr) (s₁ : Shared) (I : Addr) (it : Obj) (rest : (Str → Option Value) → List (Addr × Obj) → Prop) (Q : Flow → Shared → Prop) (f : Flow) (s₂ : Shared) : Prop :=
  match f with
  | .ret v => Q (.ret v) s₂
  | .brk => Q .next s₂
  | _ => TurnEnd h₀ L s₁ I it rest s₂

theorem TurnEnd.intro {h₀ : Heap} {L I : Addr} {it : Obj} {rest : (Str → Option Value) → List (Addr × Obj) → Prop} {s₁ : Shared} {h' : Heap} {tk : Nat} {m' : Str → Option Value} {all : List (Addr × Obj)}
    (F : Fr h₀ L h' m') (N : News h₀ L h' all) (news' : List (Addr × Obj)) (hi : (I, it) ∈ all) (sub : ∀ p ∈ news', p ∈ all) (off : ∀ p ∈ news', p.1 ≠ I) (r : rest m' news') :
    TurnEnd h₀ L s₁ I it rest { s₁ with heap := h', toks := tk } :=
  ⟨h', tk, m', news', rfl, F, fun p hp => by rcases List.mem_cons.mp hp with rfl | hp; exact N _ hi; exact N p (sub p hp), off, r⟩

section
variable {prog : Program} {w : World} {A : Around} {E : Value → Shared → Prop} {s : Shared} {env : Env} {h₀ : Heap} {x : Str} {body : List Stmt} {Q : Flow → Shared → Prop}

/-- a loop by what holds between its turns, over any iterator whose object is known -/
theorem loopJ {I : Addr} {fp : List Addr} {n : Nat} {P : Nat → Value → Prop} {St : Nat → Heap → Prop} {m₀ : Str → Option Value} {news : List (Addr × Obj)}
    (W : Walks prog w A I fp [I] n P St) (hLf : env.locals ∉ fp) (hI : h₀.get? I = none) (hnw : ∀ p ∈ news, p.1 ≠ I) (hst : St 0 s.heap) (F : Fr h₀ env.locals s.heap m₀) (N : News h₀ env.locals s.heap news)
    (keep : List (Addr × Obj)) (hkeep : ∀ b ∈ fp, b = I ∨ (∃ o, h₀.get? b = some o) ∨ ∃ o, (b, o) ∈ keep)
    (hit : ∀ i h, St i h → ∃ it, h.get? I = some it)
    (J : Nat → (Str → Option Value) → List (Addr × Obj) → Prop) (h0 : J 0 m₀ news) (hsub : ∀ i m l, J i m l → ∀ p ∈ keep, p ∈ l)
    (turn : ∀ it i v m₁ news₁ h tk, i < n → P i v → J i m₁ news₁ → (∀ p ∈ news₁, p.1 ≠ I) → Fr h₀ env.locals h (fun y => if y = x then some v else m₁ y) → News h₀ env.locals h ((I, it) :: news₁) →
      wpAny (model prog w) A (execs body env) (TurnPost h₀ env.locals { s with heap := h, toks := tk } I it (J (i + 1)) Q) E { s with heap := h, toks := tk })
    (done : ∀ h tk m₁ news₁, J n m₁ news₁ → Fr h₀ env.locals h m₁ → News h₀ env.locals h news₁ → Q .next { s with heap := h, toks := tk }) :
    LoopAtV prog w A h₀ env x body Q E (.ref I) s := by
  refine ⟨I, fp, [I], n, P, St, m₀, news, J, rfl, W, hLf, ?_, ?_, hst, F, N, h0, ?_, ?_⟩
  · intro b hb
    rw [List.mem_singleton.mp hb]; exact hI
  · intro p hp hq
    exact hnw p hp (List.mem_singleton.mp hq)
  · rintro i v m₁ news₁ s₁ own ⟨hh', tk', rfl⟩ hin hP hJ hoff hown hget hall hst' F₁ N₁
    have hoff' : ∀ p ∈ news₁, p.1 ≠ I := fun p hp e => hoff p hp (List.mem_singleton.mpr e)
    obtain ⟨it, hIo⟩ := hit _ _ hst'
    have hIf : I ∈ fp := W.sub I (List.mem_singleton.mpr rfl)
    have hmem := hall I hIf hI _ hIo
    have N₂ : News h₀ env.locals hh' ((I, it) :: news₁) := fun p hp => by
      rcases List.mem_cons.mp hp with rfl | hp
      · exact N₁ _ (List.mem_append_left _ hmem)
      · exact N₁ _ (List.mem_append_right _ hp)
    refine wpAny_mono (turn it i v m₁ news₁ hh' tk' hin hP hJ hoff' F₁ N₂) (fun f s₂ p => ?_) fun _ _ e => e
    have fin : TurnEnd h₀ env.locals { s with heap := hh', toks := tk' } I (it) (J (i + 1)) s₂ → LoopStepU h₀ env.locals [I] own (J (i + 1)) { s with heap := hh', toks := tk' } .next s₂ := by
      rintro ⟨h', tk, m', news', e, F', N', ho, r⟩
      refine ⟨rfl, h', tk, m', news', e, F', fun p hp => ?_, fun p hp hq => ho p hp (List.mem_singleton.mp hq), r⟩
      rcases List.mem_append.mp hp with hp | hp
      · have h2 : hh'.get? p.1 = some p.2 := hget p hp
        rcases hkeep p.1 (hown p hp) with e1 | ⟨o, e1⟩ | ⟨o, e1⟩
        · have h3 : p = (I, it) := by
            rw [e1, hIo] at h2
            exact Prod.ext e1 (Option.some.inj h2).symm
          rw [h3]; exact N' _ (List.mem_cons_self ..)
        · have := (N₁ p (List.mem_append_left _ hp)).2.2
          rw [e1] at this; cases this
        · have a1 := (N₁ _ (List.mem_append_right _ (hsub _ _ _ hJ _ e1))).1
          have a2 : p = (p.1, o) := by
            have a1' : hh'.get? p.1 = some o := a1
            rw [h2] at a1'
            exact Prod.ext rfl (Option.some.inj a1')
          rw [a2]
          exact N' _ (List.mem_cons_of_mem _ (hsub _ _ _ r _ e1))
      · exact N' _ (List.mem_cons_of_mem _ hp)
    cases f with
    | ret v => exact .ret p
    | brk => exact .brk p
    | next => exact .next (fin p)
    | cont => exact .cont (fin p)
  · rintro h' tk m' news' F' N' _ hJ
    exact done h' tk m' news' hJ F' N'

/-- for x in range(a, b, c) -/
theorem loop_range {r : Addr} {a₀ b₀ c₀ : Int} {t₀ u₀ v₀ : Tok} {n : Nat} {m₀ : Str → Option Value} {news : List (Addr × Obj)}
    (hh : A.handled = none) (hr : IsRange s.heap r a₀ b₀ c₀ t₀ u₀ v₀) (hsmall : Builtin.Range.small a₀ b₀ c₀ = true) (hn : Builtin.Range.rangeSize a₀ b₀ c₀ = (n : Int))
    (F : Fr h₀ env.locals s.heap m₀) (N : News h₀ env.locals s.heap news)
    (J : (Str → Option Value) → List (Addr × Obj) → Nat → (Str → Option Value) → List (Addr × Obj) → Prop) (h0 : J m₀ news 0 m₀ news)
    (turn : ∀ I it i t m₁ news₁ h tk, i < n → J m₀ news i m₁ news₁ → (∀ p ∈ news₁, p.1 ≠ I) → Fr h₀ env.locals h (fun y => if y = x then some (.int (a₀ + (i : Int) * c₀) t) else m₁ y) → News h₀ env.locals h ((I, it) :: news₁) →
      wpAny (model prog w) A (execs body env) (TurnPost h₀ env.locals { s with heap := h, toks := tk } I it (J m₀ news (i + 1)) Q) E { s with heap := h, toks := tk })
    (done : ∀ h tk m₁ news₁, J m₀ news n m₁ news₁ → Fr h₀ env.locals h m₁ → News h₀ env.locals h news₁ → Q .next { s with heap := h, toks := tk }) :
    wpAny (model prog w) A (pyIter (.ref r)) (fun it s₂ => LoopAtV prog w A h₀ env x body Q E it s₂) E s := by
  refine wpAny_pyIter_range hr hsmall ?_
  have hnew := next_is_new F
  refine loopJ (I := s.heap.objs.size) (fp := [s.heap.objs.size]) (n := n) (Walks.range hh _ a₀ c₀ n) ?_ hnew ?_ (by show IsRangeIter _ _ _ _ _; rw [hn]; simpa using Heap.get?_push_size _ rfl) (F.push _)
    (fun p hp => ⟨Heap.get?_push_of_some _ (N p hp).1, (N p hp).2⟩) [] (fun b hb => .inl (List.mem_singleton.mp hb)) (fun i h e => ⟨_, e⟩) (J m₀ news) h0 (fun _ _ _ _ p hp => nomatch hp) ?_ ?_
  · intro hm
    exact absurd F.ns.lt ((List.mem_singleton.mp hm) ▸ Nat.lt_irrefl _)
  · intro p hp hI
    exact absurd (Heap.lt_size (N p hp).1) (hI ▸ Nat.lt_irrefl _)
  · rintro it i v m₁ news₁ h tk hi ⟨t, rfl⟩ hJ ho F₁ N₁
    exact turn _ it i t m₁ news₁ h tk hi hJ ho F₁ N₁
  · intro h tk m₁ news₁ hJ F₁ N₁
    exact done h tk m₁ news₁ hJ F₁ N₁

/-- for x in a list of the ledger -/
theorem loop_list {l : Addr} {its : Array Value} {k : Nat} {m₀ : Str → Option Value} {news : List (Addr × Obj)}
    (hh : A.handled = none) (hl : (l, listOf its k) ∈ news)
    (F : Fr h₀ env.locals s.heap m₀) (N : News h₀ env.locals s.heap news)
    (J : (Str → Option Value) → List (Addr × Obj) → Nat → (Str → Option Value) → List (Addr × Obj) → Prop) (h0 : J m₀ news 0 m₀ news) (hsub : ∀ i m l', J m₀ news i m l' → (l, listOf its k) ∈ l')
    (turn : ∀ I it i v m₁ news₁ h tk, i < its.size → its[i]? = some v → J m₀ news i m₁ news₁ → (∀ p ∈ news₁, p.1 ≠ I) → Fr h₀ env.locals h (fun y => if y = x then some v else m₁ y) → News h₀ env.locals h ((I, it) :: news₁) →
      wpAny (model prog w) A (execs body env) (TurnPost h₀ env.locals { s with heap := h, toks := tk } I it (J m₀ news (i + 1)) Q) E { s with heap := h, toks := tk })
    (done : ∀ h tk m₁ news₁, J m₀ news its.size m₁ news₁ → Fr h₀ env.locals h m₁ → News h₀ env.locals h news₁ → Q .next { s with heap := h, toks := tk }) :
    wpAny (model prog w) A (pyIter (.ref l)) (fun it s₂ => LoopAtV prog w A h₀ env x body Q E it s₂) E s := by
  have hls : s.heap.IsList l its := ⟨_, (N _ hl).1, rfl, k, rfl⟩
  have hlt : l < s.heap.objs.size := Heap.lt_size (N _ hl).1
  have hne : l ≠ s.heap.objs.size := Nat.ne_of_lt hlt
  refine wpAny_pyIter_list hls ?_
  have hnew := next_is_new F
  refine loopJ (I := s.heap.objs.size) (fp := [s.heap.objs.size, l]) (n := its.size) (Walks.list hh _ l hne its) ?_ hnew ?_ ⟨⟨_, Heap.get?_push_size _ rfl, rfl, rfl⟩, hls.at fun o e => Heap.get?_push_of_some _ e⟩ (F.push _)
    (fun p hp => ⟨Heap.get?_push_of_some _ (N p hp).1, (N p hp).2⟩) [(l, listOf its k)] ?_ (fun i h e => let ⟨o, e1, _⟩ := e.1; ⟨o, e1⟩) (J m₀ news) h0 ?_ ?_ ?_
  · intro hm
    rcases List.mem_cons.mp hm with e | hm
    · exact absurd F.ns.lt (e ▸ Nat.lt_irrefl _)
    · exact (N _ hl).2.1 (List.mem_singleton.mp hm).symm
  · intro p hp hI
    exact absurd (Heap.lt_size (N p hp).1) (hI ▸ Nat.lt_irrefl _)
  · intro b hb
    rcases List.mem_cons.mp hb with e | hb
    · exact .inl e
    · exact .inr (.inr ⟨_, by rw [List.mem_singleton.mp hb]; exact List.mem_singleton.mpr rfl⟩)
  · intro i m l' hJ p hp
    rw [List.mem_singleton.mp hp]; exact hsub i m l' hJ
  · rintro it i v m₁ news₁ h tk hi hv hJ ho F₁ N₁
    exact turn _ it i v m₁ news₁ h tk hi hv hJ ho F₁ N₁
  · intro h tk m₁ news₁ hJ F₁ N₁
    exact done h tk m₁ news₁ hJ F₁ N₁

/-- for ch in a text -/
theorem loop_str {y : Str} {t : Tok} {m₀ : Str → Option Value} {news : List (Addr × Obj)}
    (hh : A.handled = none)
    (F : Fr h₀ env.locals s.heap m₀) (N : News h₀ env.locals s.heap news)
    (J : (Str → Option Value) → List (Addr × Obj) → Nat → (Str → Option Value) → List (Addr × Obj) → Prop) (h0 : J m₀ news 0 m₀ news)
    (turn : ∀ I it i c u m₁ news₁ h tk, i < y.cps.size → y.cps[i]? = some c → J m₀ news i m₁ news₁ → (∀ p ∈ news₁, p.1 ≠ I) → Fr h₀ env.locals h (fun z => if z = x then some (.str ⟨#[c]⟩ u) else m₁ z) → News h₀ env.locals h ((I, it) :: news₁) →
      wpAny (model prog w) A (execs body env) (TurnPost h₀ env.locals { s with heap := h, toks := tk } I it (J m₀ news (i + 1)) Q) E { s with heap := h, toks := tk })
    (done : ∀ h tk m₁ news₁, J m₀ news y.cps.size m₁ news₁ → Fr h₀ env.locals h m₁ → News h₀ env.locals h news₁ → Q .next { s with heap := h, toks := tk }) :
    wpAny (model prog w) A (pyIter (.str y t)) (fun it s₂ => LoopAtV prog w A h₀ env x body Q E it s₂) E s := by
  have hnew := next_is_new F
  have key : ∀ (o : Obj) (St : Nat → Heap → Prop), Walks prog w A s.heap.objs.size [s.heap.objs.size] [s.heap.objs.size] y.cps.size (SignAt y) St → (∀ i h, St i h → ∃ it, h.get? s.heap.objs.size = some it) → St 0 (s.heap.push o) →
      LoopAtV prog w A h₀ env x body Q E (.ref s.heap.objs.size) { s with heap := s.heap.push o } := by
    intro o St W hit hst
    refine loopJ (I := s.heap.objs.size) (fp := [s.heap.objs.size]) (n := y.cps.size) W ?_ hnew ?_ hst (F.push _)
      (fun p hp => ⟨Heap.get?_push_of_some _ (N p hp).1, (N p hp).2⟩) [] (fun b hb => .inl (List.mem_singleton.mp hb)) hit (J m₀ news) h0 (fun _ _ _ _ p hp => nomatch hp) ?_ ?_
    · intro hm
      exact absurd F.ns.lt ((List.mem_singleton.mp hm) ▸ Nat.lt_irrefl _)
    · intro p hp hI
      exact absurd (Heap.lt_size (N p hp).1) (hI ▸ Nat.lt_irrefl _)
    · rintro it i v m₁ news₁ h tk hi ⟨c, u, hc, rfl⟩ hJ ho F₁ N₁
      exact turn _ it i c u m₁ news₁ h tk hi hc hJ ho F₁ N₁
    · intro h tk m₁ news₁ hJ F₁ N₁
      exact done h tk m₁ news₁ hJ F₁ N₁
  cases ha : y.cps.all (· < 128)
  · exact wpAny_pyIter_wide ha (key _ _ (Walks.strWide hh _ y t) (fun i h e => let ⟨o, e1, _⟩ := e; ⟨o, e1⟩) ⟨_, Heap.get?_push_size _ rfl, rfl, rfl⟩)
  · exact wpAny_pyIter_ascii ha (key _ _ (Walks.strAscii hh _ y t) (fun i h e => let ⟨o, e1, _⟩ := e; ⟨o, e1⟩) ⟨_, Heap.get?_push_size _ rfl, rfl, rfl⟩)

/-- a while: what holds between its turns, and what holds behind it -/
noncomputable def WEnd (h₀ : Heap) (L : Addr) (s₁ : Shared) (rest : (Str → Option Value) → List (Addr × Obj) → Prop) (s₂ : Shared) : Prop :=
  ∃ h' tk m' news', s₂ = { s₁ with heap := h', toks := tk } ∧ Fr h₀ L h' m' ∧ News h₀ L h' news' ∧ rest m' news'
noncomputable def WPost (h₀ : Heap) (L : Addr) (s₁ : Shared) (rest : (Str → Option Value) → List (Addr × Obj) → Prop) (Q : Flow → Shared → Prop) (f : Flow) (s₂ : Shared) : Prop :=
  match f with
  | .ret v => Q (.ret v) s₂
  | .brk => Q .next s₂
  | _ => WEnd h₀ L s₁ rest s₂
theorem WEnd.intro {h₀ : Heap} {L : Addr} {rest : (Str → Option Value) → List (Addr × Obj) → Prop} {s₁ : Shared} {h' : Heap} {tk : Nat} {m' : Str → Option Value} {all : List (Addr × Obj)}
    (F : Fr h₀ L h' m') (N : News h₀ L h' all) (news' : List (Addr × Obj)) (sub : ∀ p ∈ news', p ∈ all) (r : rest m' news') :
    WEnd h₀ L s₁ rest { s₁ with heap := h', toks := tk } := ⟨h', tk, m', news', rfl, F, fun p hp => N p (sub p hp), r⟩

theorem loop_while {L : Addr} {test : Expr} {body : List Stmt} {pos : Pos} {m : Str → Option Value} {news : List (Addr × Obj)}
    (J : (Str → Option Value) → List (Addr × Obj) → Nat → (Str → Option Value) → List (Addr × Obj) → Prop) (Jout : (Str → Option Value) → List (Addr × Obj) → (Str → Option Value) → List (Addr × Obj) → Prop) {n₀ : Nat}
    (F : Fr h₀ L s.heap m) (N : News h₀ L s.heap news) (hJ : J m news n₀ m news)
    (turn : ∀ n m₁ news₁ h tk, J m news n m₁ news₁ → Fr h₀ L h m₁ → News h₀ L h news₁ →
      wpAny (model prog w) A (isTrue test env (eval test env)) (fun b s₂ =>
        if b = true then wpAny (model prog w) A (execs body env) (WPost h₀ L { s with heap := h, toks := tk } (fun m' l => ∃ n', n' < n ∧ J m news n' m' l) Q) E s₂
        else WEnd h₀ L { s with heap := h, toks := tk } (Jout m news) s₂) E { s with heap := h, toks := tk })
    (done : ∀ h tk m₁ news₁, Jout m news m₁ news₁ → Fr h₀ L h m₁ → News h₀ L h news₁ → Q .next { s with heap := h, toks := tk })
    (hE : PassesOwn (model prog w) A env E := by passes_own) :
    wpAny (model prog w) A (exec (.While test body [] pos) env) Q E s := by
  refine While_inv2 (J m news) F N hJ (fun n m₁ news₁ h₁ tk₁ F₁ N₁ J₁ => ?_) hE
  refine wpAny_mono (turn n m₁ news₁ h₁ tk₁ J₁ F₁ N₁) (fun b s₂ h₂ => ?_) fun _ _ e => e
  cases b with
  | false =>
    simp only [Bool.false_eq_true, if_false] at h₂ ⊢
    obtain ⟨h', tk, m', news', rfl, F', N', r⟩ := h₂
    exact done h' tk m' news' r F' N'
  | true =>
    simp only [if_true] at h₂ ⊢
    refine wpAny_mono h₂ (fun f s₃ h₃ => ?_) fun _ _ e => e
    cases f with
    | next =>
      obtain ⟨h', tk, m', news', rfl, F', N', n', hn, r⟩ := h₃
      exact ⟨h', tk, m', news', n', rfl, F', N', hn, r⟩
    | cont =>
      obtain ⟨h', tk, m', news', rfl, F', N', n', hn, r⟩ := h₃
      exact ⟨h', tk, m', news', n', rfl, F', N', hn, r⟩
    | brk => exact h₃
    | ret v => exact h₃

noncomputable def TurnPostB (h₀ : Heap) (L : Addr) (s₁ : Shared) (I : Addr) (it : Obj) (rest out : (Str → Option Value) → List (Addr × Obj) → Prop) (Q : Flow → Shared → Prop) (f : Flow) (s₂ : Shared) : Prop :=
  match f with
  | .ret v => Q (.ret v) s₂
  | .brk => WEnd h₀ L s₁ out s₂
  | _ => TurnEnd h₀ L s₁ I it rest s₂
/-- for ch in a text, left by a break -/
theorem loop_strB {y : Str} {t : Tok} {m₀ : Str → Option Value} {news : List (Addr × Obj)}
    (hh : A.handled = none)
    (F : Fr h₀ env.locals s.heap m₀) (N : News h₀ env.locals s.heap news)
    (J : (Str → Option Value) → List (Addr × Obj) → Nat → (Str → Option Value) → List (Addr × Obj) → Prop) (Jout : (Str → Option Value) → List (Addr × Obj) → (Str → Option Value) → List (Addr × Obj) → Prop) (h0 : J m₀ news 0 m₀ news)
    (hout : ∀ m l, J m₀ news y.cps.size m l → Jout m₀ news m l)
    (turn : ∀ I it i c u m₁ news₁ h tk, i < y.cps.size → y.cps[i]? = some c → J m₀ news i m₁ news₁ → (∀ p ∈ news₁, p.1 ≠ I) → Fr h₀ env.locals h (fun z => if z = x then some (.str ⟨#[c]⟩ u) else m₁ z) → News h₀ env.locals h ((I, it) :: news₁) →
      wpAny (model prog w) A (execs body env) (TurnPostB h₀ env.locals { s with heap := h, toks := tk } I it (J m₀ news (i + 1)) (Jout m₀ news) Q) E { s with heap := h, toks := tk })
    (done : ∀ h tk m₁ news₁, Jout m₀ news m₁ news₁ → Fr h₀ env.locals h m₁ → News h₀ env.locals h news₁ → Q .next { s with heap := h, toks := tk }) :
    wpAny (model prog w) A (pyIter (.str y t)) (fun it s₂ => LoopAtV prog w A h₀ env x body Q E it s₂) E s := by
  refine loop_str hh F N J h0 (fun I it i c u m₁ news₁ h tk hi hc hJ ho F₁ N₁ => ?_) (fun h tk m₁ news₁ hJ F₁ N₁ => done h tk m₁ news₁ (hout _ _ hJ) F₁ N₁)
  refine wpAny_mono (turn I it i c u m₁ news₁ h tk hi hc hJ ho F₁ N₁) (fun f s₂ h₂ => ?_) fun _ _ e => e
  cases f with
  | ret v => exact h₂
  | next => exact h₂
  | cont => exact h₂
  | brk =>
    obtain ⟨h', tk', m', news', rfl, F', N', r⟩ := h₂
    exact done h' tk' m' news' r F' N'
end

section
variable {prog : Program} {w : World} {A : Around} {h₀ : Heap} {L : Addr} {m : Str → Option Value} {env : Env} {elt : Expr} {x : Str} {scope : Scope} {cl : List (Str × Addr)} {s : Shared} {S : List (Addr × Obj) → Prop} {P : Nat → Value → Prop} {Fin : List Value → List (Addr × Obj) → Prop} {news : List (Addr × Obj)}
/-- what an element of a comprehension leaves -/
noncomputable def ElPost (h₀ : Heap) (L : Addr) (m : Str → Option Value) (s : Shared) (led : List (Addr × Obj)) (Y : Value → Prop) (y : Value) (s₂ : Shared) : Prop :=
  ∃ h' tk' all, s₂ = { s with heap := h', toks := tk' } ∧ Fr h₀ L h' m ∧ News h₀ L h' all ∧ (∀ p ∈ led, p ∈ all) ∧ Y y
theorem ElPost.intro {led : List (Addr × Obj)} {Y : Value → Prop} {y : Value} {h' : Heap} {tk' : Nat} {all : List (Addr × Obj)} (F : Fr h₀ L h' m) (N : News h₀ L h' all) (sub : ∀ p ∈ led, p ∈ all) (hY : Y y) : ElPost h₀ L m s led Y y { s with heap := h', toks := tk' } :=
  ⟨h', tk', all, rfl, F, N, sub, hY⟩
/-- a comprehension whose elements are told one by one; what an element made is let go -/
theorem comp_rest {n : Nat} (Y : Nat → Value → Prop) (hS : S news)
    (turn : ∀ i v I oI C oC D m₂ ys h tk (E' : Value → Shared → Prop), i < n → P i v → LCg.NsObj oC m₂ → m₂ x = some v → Fr h₀ L h m → News h₀ L h ((I, oI) :: (C, oC) :: (D, LCg.lst ys) :: news) → LCg.Off3 I C D news → ((@Ne Nat I C) ∧ (@Ne Nat I D) ∧ (@Ne Nat C D)) →
      wpAny (model prog w) A (eval elt (compEnvC scope cl C env)) (ElPost h₀ L m s ((I, oI) :: (C, oC) :: (D, LCg.lst ys) :: news) (Y i)) E' { s with heap := h, toks := tk })
    (fin : ∀ ys, ys.length = n → (∀ i y, ys[i]? = some y → Y i y) → Fin ys news) : LCg.CompRest prog w A h₀ L m env elt x scope cl s S P Fin n 0 [] news := by
  have key : ∀ (j i : Nat) (ys : List Value), i + j = n → ys.length = i → (∀ k y, ys[k]? = some y → Y k y) → LCg.CompRest prog w A h₀ L m env elt x scope cl s S P Fin j i ys news := by
    intro j
    induction j with
    | zero =>
      intro i ys hi hl hy
      exact LCg.CompRest.zero (fin ys (by omega) hy)
    | succ j ih =>
      intro i ys hi hl hy
      refine LCg.CompRest.succ ?_
      intro v I oI C oC D m₂ h tk E' hv hC hx F N off ne
      refine wpAny_mono (turn i v I oI C oC D m₂ ys h tk E' (by omega) hv hC hx F N off ne) (fun y s₂ hq => ?_) fun _ _ e => e
      obtain ⟨h', tk', all, e, F', N', sub, hY⟩ := hq
      refine ⟨h', tk', news, e, F', fun p hp => N' p (sub p hp), off, hS, ?_⟩
      refine ih (i + 1) _ (by omega) (by rw [List.length_append, List.length_singleton, hl]) ?_
      intro k y' hk
      rcases Nat.lt_or_ge k ys.length with h1 | h1
      · rw [List.getElem?_append_left h1] at hk
        exact hy k y' hk
      · rw [List.getElem?_append_right h1] at hk
        have : k = ys.length := by
          rcases Nat.lt_or_ge (k - ys.length) 1 with h2 | h2
          · omega
          · rw [List.getElem?_eq_none (by simpa using h2)] at hk; cases hk
        subst this
        simp at hk
        subst hk
        rw [hl]
        exact hY
  exact key n 0 [] (by omega) rfl (fun k y hk => by simp at hk)
end
end
-- part 01_base
section
noncomputable def Halt (P : Prop) : Prop := P
theorem halt_of {P : Prop} (h : Halt P) : P := h
theorem Halt.out {P : Prop} (h : Halt P) : P := h
noncomputable abbrev PR := PySem.Challenge.rw_sw0060_01.row.prog
noncomputable abbrev VW := Mine.hdK.view_1
noncomputable abbrev LS : List Str := looseW VW [Str.ofString "Whitespace"]

theorem int_eq {c c' : Int} {t : Tok} (e : c = c') : some (Value.int c t) = some (Value.int c' t) := by rw [e]
noncomputable abbrev Spec (w : World) (mean : ExcName → Option Value) (mg mb : Str → Option Value) (f : Addr) (D U : Nat) (vs : List Value) (news : List (Addr × Obj)) (R : Value → List (Addr × Obj) → Prop) : Prop :=
  ∀ (dp un : Nat) (gd : Option (List Code)) (cn : Str) (cs : Scope) (a : Addr) (ccd : Value) (cl : List (Str × Addr)) (outer : List Env) (A₀ : Around) (base h₀ : Heap) (L : Addr) (m : Str → Option Value) (s : Shared) (Q E : Value → Shared → Prop),
    Below A₀ base outer h₀ → Fr h₀ L s.heap m → (Mine.hdK.heap_1 w.params).In h₀ → News h₀ L s.heap news → Top VW LS mean mg mb h₀ → cs.kind = .function → dp + D < recursionLimit → un + U < cLine →
    (∀ (v : Value) (own : List (Addr × Obj)) (h' : Heap) (tk' : Nat), R v own → Fr h₀ L h' m → News h₀ L h' (own ++ news) → Q v { s with heap := h', toks := tk' }) →
    wpAny (model PySem.Challenge.rw_sw0060_01.row.prog w) (ktrTop dp un gd cn cs L a ccd cl outer) (call (.ref f) vs) Q E s

theorem ite_bne_t {x : Int} {p q : Prop} (h : x ≠ 0) (hp : p) : if (x != 0) = true then p else q := by rw [if_pos (by simpa using h)]; exact hp
theorem ite_bne_f {x : Int} {p q : Prop} (h : x = 0) (hq : q) : if (x != 0) = true then p else q := by rw [if_neg (by simpa using h)]; exact hq
theorem ite_nbne_t {x : Int} {p q : Prop} (h : x = 0) (hp : p) : if (!(x != 0)) = true then p else q := by rw [if_pos (by simpa using h)]; exact hp
theorem ite_nbne_f {x : Int} {p q : Prop} (h : x ≠ 0) (hq : q) : if (!(x != 0)) = true then p else q := by rw [if_neg (by simpa using h)]; exact hq
theorem ite_dec_t {c : Prop} [Decidable c] {p q : Prop} (h : c) (hp : p) : if decide c = true then p else q := by rw [if_pos (by simpa using h)]; exact hp
theorem ite_dec_f {c : Prop} [Decidable c] {p q : Prop} (h : ¬ c) (hq : q) : if decide c = true then p else q := by rw [if_neg (by simpa using h)]; exact hq
theorem allLt_ne {d : Addr} : ∀ {l : List (Addr × Obj)}, AllLt d l → ∀ p ∈ l, p.1 ≠ d
  | [], _, _, hp => nomatch hp
  | q :: l, h, p, hp => by
    rcases List.mem_cons.mp hp with rfl | hp
    · exact Nat.ne_of_lt h.1
    · exact allLt_ne h.2 p hp
theorem lt_ne {d : Addr} {l : List (Addr × Obj)} (h : ∀ p ∈ l, p.1 < d) : ∀ p ∈ l, p.1 ≠ d := fun p hp => Nat.ne_of_lt (h p hp)
theorem sz_ints {vs : List Value} {ns : List Int} {k : Nat} (hI : IntsAre vs ns) (h : ns.length ≤ k) : vs.toArray.size ≤ k := by
  rw [List.size_toArray, hI.length]; exact h
noncomputable def Hid (P : Prop) : Prop := P
theorem five {n : Nat} (h1 : 1 ≤ n) (h2 : n ≤ 5) : n = 1 ∨ n = 2 ∨ n = 3 ∨ n = 4 ∨ n = 5 := by
  match n, h1, h2 with
  | 1, _, _ => exact .inl rfl
  | 2, _, _ => exact .inr (.inl rfl)
  | 3, _, _ => exact .inr (.inr (.inl rfl))
  | 4, _, _ => exact .inr (.inr (.inr (.inl rfl)))
  | 5, _, _ => exact .inr (.inr (.inr (.inr rfl)))
theorem wpred {q i k : Nat} (h : q - i = k) (h2 : k < q) (hi : i ≤ q) : i - 1 < i ∧ i - 1 ≤ q ∧ q - (i - 1) = k + 1 := by
  cases i with
  | zero => exact absurd h2 (by rw [← h]; exact Nat.lt_irrefl _)
  | succ i => exact ⟨Nat.lt_succ_self _, Nat.le_of_succ_le hi, by rw [← h, Nat.sub_add_eq, Nat.sub_add_cancel (Nat.sub_pos_of_lt hi)]; rfl⟩
theorem idx0 (j : Nat) : (0 : Int) + (j : Int) * 1 = (j : Int) := by rw [Int.mul_one, Int.zero_add]
theorem idx_nn (j : Nat) : (0 : Int) ≤ 0 + (j : Int) * 1 := by rw [idx0]; exact Int.natCast_nonneg j
theorem idx_ge (a j : Nat) : -(a : Int) ≤ 0 + (j : Int) * 1 := Int.le_trans (Int.neg_nonpos_of_nonneg (Int.natCast_nonneg a)) (idx_nn j)
theorem idx_lo (j : Nat) : (-9223372036854775808 : Int) < 0 + (j : Int) * 1 := Int.lt_of_lt_of_le (by decide) (idx_nn j)
theorem idx_lo' (j : Nat) : (-9223372036854775808 : Int) < (j : Int) := Int.lt_of_lt_of_le (by decide) (Int.natCast_nonneg j)
theorem idx_to (j : Nat) : ((0 : Int) + (j : Int) * 1).toNat = j := by rw [idx0]; rfl
theorem idx_lt {j n : Nat} (h : j < n) : (0 : Int) + (j : Int) * 1 < (n : Int) := by rw [idx0]; exact Int.ofNat_lt.mpr h
theorem idx_one (j : Nat) : (1 : Int) ≤ 1 + (j : Int) * 1 := by rw [Int.mul_one]; exact Int.le_add_of_nonneg_right (Int.natCast_nonneg j)
theorem idx_hi {j n : Nat} (h : j < n) (e : Nat.ble n 9223372036854775808 = true) : (0 : Int) + (j : Int) * 1 < 9223372036854775808 := by
  rw [idx0]; exact Int.ofNat_lt.mpr (Nat.lt_of_lt_of_le h (Nat.le_of_ble_eq_true e))
theorem nn_neg (a b : Nat) : -(a : Int) ≤ (b : Int) := Int.le_trans (Int.neg_nonpos_of_nonneg (Int.natCast_nonneg a)) (Int.natCast_nonneg b)
theorem cast_hi {j n : Nat} (h : j ≤ n) (e : Nat.blt n 9223372036854775808 = true) : (j : Int) < 9223372036854775808 :=
  Int.ofNat_lt.mpr (Nat.lt_of_le_of_lt h (Nat.lt_of_lt_of_le (Nat.le_of_ble_eq_true e) (Nat.le_refl _)))
theorem room0 {n a d : Nat} (h : n + a < d) : n < d := Nat.lt_of_le_of_lt (Nat.le_add_right _ _) h
theorem room1 {n a b d : Nat} (h : n + a < d) (e : Nat.ble b a = true) : n + b < d := Nat.lt_of_le_of_lt (Nat.add_le_add_left (Nat.le_of_ble_eq_true e) _) h
theorem room2 {n a b c d : Nat} (h : n + a < d) (e : Nat.ble (b + c) a = true) : n + b + c < d := by rw [Nat.add_assoc]; exact room1 h e
theorem le_big {n a b : Nat} (h : n ≤ a) (e : Nat.ble a b = true) : n ≤ b := Nat.le_trans h (Nat.le_of_ble_eq_true e)
theorem le_big' {m n a b : Nat} (h0 : m = n) (h : n ≤ a) (e : Nat.ble a b = true) : m ≤ b := h0 ▸ le_big h e
theorem pos_of {m n : Nat} (h0 : m = n) (h : 1 ≤ n) : 1 ≤ m := h0 ▸ h
theorem lt_of_eq' {m n k : Nat} (h0 : m = n) (h : k < n) : k < m := h0 ▸ h
theorem int_pos {x : Int} (h : 1 ≤ x) : 0 ≤ x := Int.le_trans (by decide) h
theorem ng_lt (a b : Nat) : -(a : Int) - 1 < (b : Int) := Int.lt_of_lt_of_le (Int.sub_lt_self _ (by decide)) (nn_neg a b)
theorem ng_hi (a : Nat) : -(a : Int) - 1 < 9223372036854775808 := Int.lt_trans (ng_lt a 0) (by decide)
theorem ng_ge {a b : Nat} (h : a + 1 ≤ b) : -(b : Int) ≤ -(a : Int) - 1 := by
  rw [Int.sub_eq_add_neg, ← Int.neg_add]
  exact Int.neg_le_neg (Int.ofNat_le.mpr h)
theorem ng_lo {a n : Nat} (h : a ≤ n) (e : Nat.blt (n + 1) 9223372036854775808 = true) : (-9223372036854775808 : Int) < -(a : Int) - 1 := by
  rw [Int.sub_eq_add_neg, ← Int.neg_add]
  exact Int.neg_lt_neg (Int.ofNat_lt.mpr (Nat.lt_of_le_of_lt (Nat.succ_le_succ h) (Nat.le_of_ble_eq_true e)))
theorem ng_lo0 {a : Nat} (h : -(a : Int) = 0) : (-9223372036854775808 : Int) < -(a : Int) - 1 := by rw [h]; decide
theorem ng_neg {a : Nat} (h : 1 ≤ a) : -(a : Int) < 0 := Int.neg_neg_of_pos (Int.ofNat_lt.mpr h)
theorem ng_ne {a : Nat} (h : 1 ≤ a) : -(a : Int) ≠ 0 := Int.ne_of_lt (ng_neg h)
theorem cast_ne {a : Nat} (h : a ≠ 0) : (a : Int) ≠ 0 := fun e => h (Int.ofNat.inj e)
theorem cast_ne' {m n : Nat} (h0 : m = n) (h : 1 ≤ n) : (m : Int) ≠ 0 := cast_ne (h0 ▸ Nat.ne_of_gt h)
theorem cast_nlt {m n a : Nat} (h0 : m = n) (h : n ≤ a) : ¬ (a : Int) < (m : Int) := Int.not_lt.mpr (Int.ofNat_le.mpr (h0 ▸ h))
theorem cast_hi2 {k n a : Nat} (h : k ≤ n) (h' : n ≤ a) (e : Nat.blt a 9223372036854775808 = true) : (k : Int) < 9223372036854775808 := cast_hi (Nat.le_trans h h') e
theorem cast_hi3 {m n a : Nat} (h0 : m = n) (h : n ≤ a) (e : Nat.blt a 9223372036854775808 = true) : (m : Int) < 9223372036854775808 := cast_hi (h0 ▸ h) e
theorem idx_hi2 {j n a : Nat} (h : j < n) (h' : n ≤ a) (e : Nat.ble a 9223372036854775808 = true) : (0 : Int) + (j : Int) * 1 < 9223372036854775808 := idx_hi (Nat.lt_of_lt_of_le h h') e
theorem not_big {m n a : Nat} (h0 : m = n) (h : n ≤ a) (e : Nat.blt a 9223372036854775808 = true) : ¬ ((m : Int) ≥ 2 ^ 63) := Int.not_le.mpr (Int.ofNat_lt.mpr (h0 ▸ Nat.lt_of_le_of_lt h (Nat.le_of_ble_eq_true e)))
theorem slc_lt {k a b : Nat} (h : ((0 : Int) ≤ k → (k : Int) ≤ a → (b : Int) = a - k) ∧ ((a : Int) ≤ k → (b : Int) = 0)) (h0 : (b : Int) ≠ 0) : (k : Int) < a :=
  Int.not_le.mp fun q => h0 (h.2 q)
theorem slc_hi {k a b c : Nat} (h1 : a ≤ c) (h : ((0 : Int) ≤ k → (k : Int) ≤ a → (b : Int) = a - k) ∧ ((a : Int) ≤ k → (b : Int) = 0)) (h0 : (b : Int) ≠ 0) (e : Nat.ble c 9223372036854775808 = true) : (k : Int) < 9223372036854775808 :=
  Int.lt_of_lt_of_le (slc_lt h h0) (Int.ofNat_le.mpr (le_big h1 e))
theorem ix_pos {i : Int} {n : Nat} (h : 1 ≤ i) : 0 ≤ i + (n : Int) * 1 := by rw [Int.mul_one]; exact Int.add_nonneg (int_pos h) (Int.natCast_nonneg n)
theorem ix_ne {i : Int} (h : 1 ≤ i) : i ≠ 0 := Int.ne_of_gt (Int.lt_of_lt_of_le (by decide) h)
theorem ix_add {a b : Nat} (h : a = b + 1) : (b : Int) + 1 = (a : Int) := by rw [h]; rfl
theorem le_add' (a b : Nat) : (a : Int) ≤ (b : Int) + (a : Int) := Int.le_add_of_nonneg_left (Int.natCast_nonneg b)
theorem eq_of {a b : Nat} (h : a ≤ b) (h2 : ¬ a < b) : a = b := Nat.le_antisymm h (Nat.not_lt.mp h2)
theorem imp_ne {a b : Nat} (h : a ≠ 0 → b ≠ 0) (h2 : -(a : Int) ≠ 0) : (b : Int) ≠ 0 := cast_ne (h fun e => h2 (by rw [e]; rfl))
theorem one_le {i n : Nat} (h : i < n) : 1 + (i : Int) * 1 ≤ (n : Int) := by rw [Int.mul_one, Int.add_comm]; exact Int.ofNat_le.mpr h
theorem one_idx (i : Nat) : 1 + (i : Int) * 1 = 1 + (i : Int) := by rw [Int.mul_one]
theorem k76 {k : Nat} (h : k ≤ 5) : ((7 - (k : Int) - 1).toNat : Int) = ((6 - k : Nat) : Int) := by omega
theorem fr_let {h₀ : Heap} {L : Addr} {h : Heap} {m : Str → Option Value} (F : Fr h₀ L h m) {P : Prop} (k : let M := m; Fr h₀ L h M → P) : P := k F
end
-- part 01s_str
section
/-- a text by the list of its signs -/
noncomputable def mkS (l : List Nat) : Str := ⟨l.toArray⟩
theorem mkS_length (l : List Nat) : (mkS l).length = l.length := by simp [mkS, Str.length]
theorem mkS_size (l : List Nat) : (mkS l).cps.size = l.length := by simp [mkS]
theorem mkS_inj {a b : List Nat} : mkS a = mkS b ↔ a = b := by
  constructor
  · intro h
    have := congrArg (fun s : Str => s.cps.toList) h
    simpa [mkS] using this
  · intro h; rw [h]
theorem mkS_append (a b : List Nat) : mkS a ++ mkS b = mkS (a ++ b) := by
  show Str.append _ _ = _
  simp [Str.append, mkS]
theorem mkS_beq (a b : List Nat) : (mkS a == mkS b) = (a == b) := by
  rw [Bool.eq_iff_iff, beq_iff_eq, beq_iff_eq, mkS_inj]
theorem mkS_of (x : Str) : mkS x.cps.toList = x := by
  cases x; simp [mkS]
theorem mkS_blank : Str.ofString " " = mkS [32] := by decide +kernel
theorem mkS_tab : Str.ofString "\t" = mkS [9] := by decide +kernel
theorem mkS_nil : Str.ofString "" = mkS [] := by decide +kernel

theorem pick_range (l : List Nat) (a n : Nat) (h : a + n ≤ l.length) : ((List.range n).map fun (k : Nat) => ((a : Int) + 1 * (k : Int)).toNat).filterMap (fun i => l.toArray[i]?) = (l.drop a).take n := by
  induction n with
  | zero => simp
  | succ n ih =>
    rw [List.range_succ, List.map_append, List.filterMap_append, ih (by omega), List.take_add_one]
    congr 1
    have e : ((a : Int) + 1 * (n : Int)).toNat = a + n := by omega
    rw [List.map_cons, e]
    simp [List.getElem?_drop, show a + n < l.length by omega]

noncomputable def clipLo (len : Nat) : Option Int → Int
  | none => 0
  | some i => max 0 (min (if i < 0 then i + len else i) len)
noncomputable def clipHi (len : Nat) : Option Int → Int
  | none => len
  | some i => max 0 (min (if i < 0 then i + len else i) len)
theorem indices_one {lo hi : Option Int} {len a b : Nat} (ha : clipLo len lo = (a : Int)) (hb : clipHi len hi = (b : Int)) (hab : a ≤ b) :
    Builtin.Str.strSliceIndices lo hi 1 len = (List.range (b - a)).map fun (k : Nat) => ((a : Int) + 1 * (k : Int)).toNat := by
  have e3 : sliceRange a b 1 = (List.range (b - a)).map fun (k : Nat) => ((a : Int) + 1 * (k : Int)).toNat := by
    unfold sliceRange
    simp only [show (1 : Int) > 0 by decide, if_true]
    congr 1
    congr 1
    by_cases h : (a : Int) < b
    · rw [if_pos h, Int.ediv_one]; omega
    · rw [if_neg h]; omega
  rw [← e3, ← ha, ← hb]
  unfold Builtin.Str.strSliceIndices clipLo clipHi
  cases lo <;> cases hi <;> simp

theorem slice_mkS {l : List Nat} {lo hi : Option Int} {a b : Nat} (ha : clipLo l.length lo = (a : Int)) (hb : clipHi l.length hi = (b : Int)) (hab : a ≤ b) (hbl : b ≤ l.length) :
    Txt.slice (mkS l) lo hi = mkS ((l.drop a).take (b - a)) := by
  unfold Txt.slice
  rw [mkS_length, indices_one ha hb hab]
  have e := pick_range l a (b - a) (by omega)
  split
  · rename_i h
    simp at h
    have h1 : a = 0 := by omega
    have h2 : b = l.length := by omega
    subst h1; subst h2
    simp
  · show (⟨_⟩ : Str) = ⟨_⟩
    congr 1
    rw [← e]
    rfl
theorem slice_from {l : List Nat} {k : Int} (h0 : 0 ≤ k) (h : k ≤ l.length) : Txt.slice (mkS l) (some k) none = mkS (l.drop k.toNat) := by
  rw [slice_mkS (a := k.toNat) (b := l.length) (by simp only [clipLo]; rw [if_neg (by omega)]; omega) rfl (by omega) (Nat.le_refl _)]
  rw [List.take_of_length_le (by simp)]
theorem slice_all {l : List Nat} : Txt.slice (mkS l) none none = mkS l := by
  rw [slice_mkS (a := 0) (b := l.length) rfl rfl (Nat.zero_le _) (Nat.le_refl _)]
  simp
theorem slice_to {l : List Nat} {k : Int} (h0 : 0 ≤ k) (h : k ≤ l.length) : Txt.slice (mkS l) none (some k) = mkS (l.take k.toNat) := by
  rw [slice_mkS (a := 0) (b := k.toNat) rfl (by simp only [clipHi]; rw [if_neg (by omega)]; omega) (Nat.zero_le _) (by omega)]
  simp
theorem slice_neg {l : List Nat} {k : Int} (h0 : k < 0) (h : -k ≤ l.length) : Txt.slice (mkS l) none (some k) = mkS (l.take (l.length - (-k).toNat)) := by
  rw [slice_mkS (a := 0) (b := l.length - (-k).toNat) rfl (by simp only [clipHi]; rw [if_pos h0]; omega) (Nat.zero_le _) (by omega)]
  simp
theorem slice_two {l : List Nat} {i j : Int} (h0 : 0 ≤ i) (h1 : i ≤ j) (h : j ≤ l.length) : Txt.slice (mkS l) (some i) (some j) = mkS ((l.drop i.toNat).take (j.toNat - i.toNat)) := by
  rw [slice_mkS (a := i.toNat) (b := j.toNat) (by simp only [clipLo]; rw [if_neg (by omega)]; omega) (by simp only [clipHi]; rw [if_neg (by omega)]; omega) (by omega) (by omega)]

theorem item_mkS {l : List Nat} {k : Int} {j : Nat} (h : (if k < 0 then k + l.length else k) = j) (hj : j < l.length) : Txt.item (mkS l) k = mkS [l[j]] := by
  unfold Txt.item Txt.charAt seqIndex?
  rw [mkS_length]
  simp only [h]
  rw [if_pos (by simp; omega)]
  simp [mkS, hj]
theorem charAt_mkS {l : List Nat} {k : Int} {j : Nat} (h : (if k < 0 then k + l.length else k) = j) (hj : j < l.length) : (Txt.charAt (mkS l) k).isSome = true := by
  unfold Txt.charAt seqIndex?
  rw [mkS_length]
  simp only [h]
  rw [if_pos (by simp; omega)]
  simp [mkS, hj]

/-- a blank or a tab -/
noncomputable def Blank (s : Str) : Prop := s = mkS [9] ∨ s = mkS [32]
theorem ints_step : ∀ (vs : List Value) (a c : Int) (n : Nat), vs.length = n → (∀ (j : Nat) (v : Value), vs[j]? = some v → ∃ t, v = .int (a + j * c) t) → IntsAre vs ((List.range n).map fun i => a + (i : Nat) * c)
  | [], a, c, n, e, _ => by
    subst e
    exact IntsAre.nil
  | v :: r, a, c, n, e, h => by
    subst e
    rw [List.length_cons, List.range_succ_eq_map, List.map_cons, List.map_map]
    obtain ⟨t, ht⟩ := h 0 v rfl
    subst ht
    refine IntsAre.cons _ _ ?_
    have e2 : ((fun (i : Nat) => a + (i : Int) * c) ∘ Nat.succ) = fun i => (a + c) + (i : Nat) * c := by
      funext i
      simp only [Function.comp, Nat.succ_eq_add_one]
      push_cast
      rw [Int.add_mul]
      omega
    rw [e2]
    refine ints_step r (a + c) c r.length rfl fun j v hj => ?_
    obtain ⟨t', ht'⟩ := h (j + 1) v hj
    refine ⟨t', ht'.trans ?_⟩
    congr 1
    push_cast
    rw [Int.add_mul]
    omega
theorem list_range_step {prog : Program} {w : World} {A : Around} {E : Value → Shared → Prop} {s : Shared} {h₀ : Heap} {L r : Addr} {m : Str → Option Value} {news : List (Addr × Obj)} {a b c : Int} {t₀ u₀ v₀ : Tok} {n : Nat} {Q : Value → Shared → Prop}
    (hh : A.handled = none) (F : Fr h₀ L s.heap m) (N : News h₀ L s.heap news) (hr : IsRange s.heap r a b c t₀ u₀ v₀) (hsmall : Builtin.Range.small a b c = true) (hn : Builtin.Range.rangeSize a b c = (n : Int)) (hz : n ≤ 2 ^ 24)
    (h : ∀ D us k h' tk, Fr h₀ L h' m → News h₀ L h' ((D, listOf (List.toArray us) k) :: news) → (∀ p ∈ news, p.1 < D) → IntsAre us ((List.range n).map fun i => a + (i : Nat) * c) → Q (.ref D) { s with heap := h', toks := tk }) :
    wpAny (model prog w) A (call (.type "list") [.ref r]) Q E s := by
  refine call_list_range hh hr hsmall hn hz fun h' tk acc k hk hD hI => ?_
  have hD' : h'.get? s.heap.objs.size = some (listOf (List.toArray acc.toList) k) := by
    rw [Array.toArray_toList]
    exact hD
  exact h _ acc.toList k h' tk (F.keeps hk) (news_pushed F N hk hD' rfl) (fun p hp => Heap.lt_size (N p hp).1) (ints_step _ _ _ _ (by rw [Array.length_toList]; exact hI.1) fun j v hj => hI.2 j v (by rw [← hj, Array.getElem?_toList]))
theorem item_at {l : List Nat} {i : Nat} (h : i < l.length) : Txt.item (mkS l) (0 + (i : Int) * 1) = mkS [l.getD i 0] := by
  rw [item_mkS (j := i) (by rw [if_neg (by omega)]; omega) h]
  simp [List.getD_eq_getElem?_getD, h]
theorem blank_at {l : List Nat} {i : Nat} (hl : ∀ c ∈ l, c = 9 ∨ c = 32) (h : i < l.length) : Blank (mkS [l.getD i 0]) := by
  have : l.getD i 0 ∈ l := by
    simp [List.getD_eq_getElem?_getD, h]
  rcases hl _ this with e | e
  · exact .inl (by rw [e])
  · exact .inr (by rw [e])

theorem strs_of_get : ∀ {vs : List Value} {ts : List Str}, vs.length = ts.length → (∀ (i : Nat) (v : Value), vs[i]? = some v → ∃ (x : Str) (t : Tok), ts[i]? = some x ∧ v = Value.str x t) → StrsAre vs ts
  | [], [], _, _ => .nil
  | v :: vs, y :: ts, hl, h => by
    obtain ⟨x, t, hx, rfl⟩ := h 0 v rfl
    simp at hx
    subst hx
    exact .cons _ _ (strs_of_get (by simpa using hl) fun i v hv => h (i + 1) v hv)
theorem strs_at {vs : List Value} {ts : List Str} (h : StrsAre vs ts) {i : Nat} {v : Value} (hv : vs.toArray[i]? = some v) : ∃ (x : Str) (t : Tok), ts[i]? = some x ∧ v = Value.str x t := by
  have hv' : vs[i]? = some v := by simpa using hv
  have hi : i < ts.length := by
    rw [← h.length]
    exact (List.getElem?_eq_some_iff.mp hv').1
  obtain ⟨t, ht⟩ := h.get i ts[i] (by simp [hi])
  rw [hv'] at ht
  exact ⟨_, t, by simp [hi], Option.some.inj ht⟩

theorem mul_go (c : Nat) : ∀ (n : Nat) (acc : Array Nat), (List.replicate n #[c]).foldl (· ++ ·) acc = acc ++ (List.replicate n c).toArray
  | 0, acc => by simp
  | n + 1, acc => by
    rw [List.replicate_succ, List.foldl_cons, mul_go c n, List.replicate_succ]
    apply Array.ext'
    simp
theorem mul_mkS (c n : Nat) : Txt.mul (mkS [c]) (n : Int) = mkS (List.replicate n c) := by
  unfold Txt.mul
  by_cases h : (n : Int) < 1
  · obtain rfl : n = 0 := by omega
    rw [if_pos h]; rfl
  · rw [if_neg h]
    by_cases h1 : n = 1
    · subst h1; rfl
    · rw [if_neg (by simp [mkS, Str.length]; omega)]
      show (⟨_⟩ : Str) = ⟨_⟩
      congr 1
      have := mul_go c n #[]
      simpa [mkS] using this
end
section
example : (PySem.Challenge.rw_sw0060_01, Mine.hdK.heap_1).2 = Mine.hdK.heap_1 := by
  k_fill
  rfl
local macro_rules | `(tactic| walk_at $s:str) => `(tactic| k_extra $(Lean.Syntax.mkStrLit ("my " ++ s.getString)))
local macro_rules | `(tactic| k_all) => `(tactic| k_extra "my k_all")
local macro_rules | `(tactic| k_mem) => `(tactic| k_extra "my k_mem")
local macro_rules | `(tactic| omega) => `(tactic| k_extra "my omega")
-- part 02_col
section
example : True := by
  k_with_none
  k_with "my exec For Name Call cons nil" => first | ((k_here; (rename Fr _ _ _ _ => zlF'); (with_unfolding_all refine' For_invVF zlF' ?zk1 ?zk2 ?_; (case zk1 => exact rfl); (case zk2 => exact rfl); k_whole))) | fail
  k_with "my exec For Name Name cons nil" => first | ((k_here; (rename Fr _ _ _ _ => zlF'); (with_unfolding_all refine' For_invVF zlF' ?zk1 ?zk2 ?_; (case zk1 => exact rfl); (case zk2 => exact rfl); k_whole))) | fail
  k_with "my exec For Name Attribute cons nil" => first | ((k_here; (rename Fr _ _ _ _ => zlF'); (with_unfolding_all refine' For_invVF zlF' ?zk1 ?zk2 ?_; (case zk1 => exact rfl); (case zk2 => exact rfl); k_whole))) | fail
  k_with "my exec For Name Subscript cons nil" => first | ((k_here; (rename Fr _ _ _ _ => zlF'); (with_unfolding_all refine' For_invVF zlF' ?zk1 ?zk2 ?_; (case zk1 => exact rfl); (case zk2 => exact rfl); k_whole))) | fail
  k_with "my pyIter ref" => first | (((with_reducible show wpAny _ _ (pyIter (Value.ref _)) (fun it s₂ => LoopAtV _ _ _ _ _ _ _ _ _ it s₂) _ _); refine halt_of ?_)) | fail
  k_with "my pyIter str" => first | (((with_reducible show wpAny _ _ (pyIter (Value.str _ _)) (fun it s₂ => LoopAtV _ _ _ _ _ _ _ _ _ it s₂) _ _); refine halt_of ?_)) | fail
  k_with "my exec While BoolOp cons nil" => first | (refine halt_of ?_) | fail
  k_with "my exec While Compare cons nil" => first | (refine halt_of ?_) | fail
  k_with "my subscriptTail Name Slice str ref" => first | (((with_reducible show wpAny _ _ (subscriptTail _ (Expr.Slice none (some _) none _) _ _) _ _ _); (with_reducible rename Fr _ _ _ _ => zF'); (with_reducible rename News _ _ _ _ => zN'); (refine slice_strN_nn_len (hsz := ?zhsz) (s := ⟨_, _, _, _, _⟩) zF' zN' ?_); (case zhsz => size_fits); intro _ _ _ _ _ _)) | fail
  k_with "my ite" => first | (first | ((with_reducible show ite ((_ != (0 : Int)) = true) _ _); k_dflt (first | refine ite_bne_t (by omega) ?_ | refine ite_bne_f (by omega) ?_)) | ((with_reducible show ite ((!(_ != (0 : Int))) = true) _ _); k_dflt (first | refine ite_nbne_t (by omega) ?_ | refine ite_nbne_f (by omega) ?_)) | ((with_reducible show ite (decide _ = true) _ _); k_dflt (first | refine ite_dec_t (by omega) ?_ | refine ite_dec_f (by omega) ?_))) | fail
  k_with "my call type:list" => first | (((with_reducible show wpAny _ _ (call (Value.type _) [Value.ref _]) _ _ _); refine halt_of ?_)) | fail
  k_with "my setItem ref int" => first | ((k_here; (with_reducible show wpAny _ _ (setItem (Value.ref _) (Value.int _ _) (Value.int _ _)) _ _ _); k_dflt (refine' ksa_set ?zk1 ?zk2 ?zk3 ?zk4 ?zk5 ?zk6 ?zk7 ?_; (case zk1 => k_asm); (case zk2 => k_asm); (case zk3 => (repeat (first | exact Upd.head (by assumption) | refine Upd.tail (by assumption) ?_))); (case zk4 => with_reducible assumption); (case zk5 => ksa_idx); (case zk6 => ksa_idx); (case zk7 => ksa_idx); k_whole); intro zh' zF' zN' zhi' zhl' zhs'; (try k_sweep))) | fail
  k_with "my k_all" => first | (first | assumption | exact lt_ne (by assumption) | exact allLt_ne (by first | assumption | exact And.right (by assumption) | exact And.right (And.right (by assumption)) | exact And.right (And.right (And.right (by assumption))) | exact And.right (And.right (And.right (And.right (by assumption)))) | exact And.right (And.right (And.right (And.right (And.right (by assumption))))) | exact And.right (And.right (And.right (And.right (And.right (And.right (by assumption)))))) | exact And.right (And.right (And.right (And.right (And.right (And.right (And.right (by assumption))))))))) | fail
  k_with "my call type:tuple" => first | ((k_here; (with_reducible show wpAny _ _ (call (Value.type _) [Value.ref _]) _ _ _); k_dflt (refine' kde_tupleOf ?zk1 ?zk2 ?zk3 ?zk4 ?zk5 ?_; (case zk1 => k_asm); (case zk2 => k_asm); (case zk3 => exact News.isList (by k_asm) (by k_mem)); (case zk4 => exact sz_ints (by assumption) (by omega)); (case zk5 => rfl); k_whole); intro zD' zh' zF' zN' zl1; (try k_lt zl1); (try k_sweep))) | fail
  k_with "my call ref" => first | ((plain_pass; k_here; (refine wpAny_call ?_); k_dflt (refine' code_def ?zk1 ?zk2 ?zk3 ?zk4 ?zk5 ?zkA ?zkF ?zkK ?zk6 ?zk7 ?zk8 ?zk9 ?zkB ?_ ?zc2 ?zc3 ?zc4 ?zc5; (case zkA => exact rfl); (case zkF => exact rfl); (case zkK => first | exact rfl | assumption); (case zk1 => k_asm); (case zk2 => k_asm); (case zk3 => k_asm); (case zk4 => k_asm); (case zk5 => k_asm); (case zk6 => k_is); (case zk7 => k_is); (case zk8 => ktr_room); (case zk9 => exact BindsTo.of_eq rfl); (case zc5 => decide); (case zkB => exact locs rfl); (case zc2 => exact rfl); (case zc3 => exact rfl); (case zc4 => exact rfl); k_whole; intro zg' zL' zh' zFG' zF' zN' zB' zX' zT'; (try dsimp only); (try k_lift zB'); (try k_fold)))) | fail
  k_with "my call type:range" => first | (((rename Fr _ _ _ _ => zF'); (rename News _ _ _ _ => zN'); first | (with_unfolding_all refine range1_rows zF' zN' ?_; intro _ _ _ _ _ _ _ _ _) | (with_unfolding_all refine range2_rows zF' zN' ?_; intro _ _ _ _ _ _ _ _ _))) | fail
  k_with "my eval ListComp" => first | ((k_here; k_dflt (refine LCg.ListComp_U (F₀ := by k_asm) (by with_unfolding_all rfl) (by decide) (by rfl) (by decide) (by rfl) ?_))) | fail
  k_with "my exec Assign cons ListComp" => first | ((k_here; k_dflt (refine LCg.Assign_ListComp_U (F₀ := by k_asm) (by rfl) (by with_unfolding_all rfl) (by with_unfolding_all rfl) (by decide) (by rfl) (by decide) (by rfl) (by rfl) (by rfl) ?_))) | fail
  k_with "my CompSrc" => first | (refine halt_of ?_) | fail
  k_with "my call ref" => first | (((with_reducible show wpAny _ _ (PySem.call (Value.ref 28) _ _) _ _ _); k_dflt (refine' sub_spec _ _ _ _ _ ?zp0 ?zp1 _ _ _ _ _ _ _ _ _ _ _ _ _ _ _ _ _ ?zq1 ?zq2 ?zq3 ?zq4 ?zq5 ?zq6 ?zq7 ?zq8 ?_); (case zp0 => assumption); (case zp1 => assumption); (case zq1 => k_asm); (case zq2 => k_asm); (case zq3 => k_asm); (case zq4 => k_asm); (case zq5 => k_asm); (case zq6 => first | exact rfl | assumption); (case zq7 => ktr_room); (case zq8 => ktr_units); rintro zv' zown' zh' ztk' ⟨⟨zt', ze1⟩, ze2⟩ zF' zN'; subst ze1; subst ze2; (try simp only [List.nil_append] at zN'); (try dsimp only); (try k_fold))) | fail
  k_with "my call ref" => first | (((with_reducible show wpAny _ _ (PySem.call (Value.ref 153) _ _) _ _ _); k_dflt (refine' ws_call _ _ _ _ ?zp0 ?zp1 _ _ _ _ _ _ _ _ _ _ _ _ _ _ _ _ _ ?zq1 ?zq2 ?zq3 ?zq4 ?zq5 ?zq6 ?zq7 ?zq8 ?_); (case zp0 => assumption); (case zp1 => first | omega | (simp only [List.length_drop, List.length_take]; omega)); (case zq1 => k_asm); (case zq2 => k_asm); (case zq3 => k_asm); (case zq4 => k_asm); (case zq5 => k_asm); (case zq6 => first | exact rfl | assumption); (case zq7 => ktr_room); (case zq8 => ktr_units); rintro zv' zown' zh' ztk' ⟨zx', zd', zT1', zT2', zvs', zk1', zk2', zk3', zk4', zk5', zt2', zt3', zt4', ze1, zhI', zl1', zl2', zl3', zl4', ze2⟩ zF' zN'; subst ze1; subst ze2; (try simp only [List.cons_append, List.nil_append] at zN'); (try dsimp only [wsD, tupO] at zN'); (try k_lt zl1'); (try simp only [List.nil_append] at zN'); (try dsimp only); (try k_fold))) | fail
  k_with "my call ref" => first | (((with_reducible show wpAny _ _ (PySem.call (Value.ref 169) _ _) _ _ _); k_dflt (refine' height_spec _ _ _ ?zp0 ?zp1 _ _ _ _ _ _ _ _ _ _ _ _ _ _ _ _ _ ?zq1 ?zq2 ?zq3 ?zq4 ?zq5 ?zq6 ?zq7 ?zq8 ?_); (case zp0 => first | omega | (simp only [List.length_append]; omega)); (case zp1 => first | omega | (simp only [List.length_append]; omega)); (case zq1 => k_asm); (case zq2 => k_asm); (case zq3 => k_asm); (case zq4 => k_asm); (case zq5 => k_asm); (case zq6 => first | exact rfl | assumption); (case zq7 => ktr_room); (case zq8 => ktr_units); rintro zv' zown' zh' ztk' ⟨⟨zt', ze1⟩, ze2⟩ zF' zN'; subst ze1; subst ze2; (try simp only [List.nil_append] at zN'); (try dsimp only); (try k_fold))) | fail
  k_with "my call ref" => first | (((with_reducible show wpAny _ _ (PySem.call (Value.ref 35) _ _) _ _ _); k_dflt (refine' lev_any _ _ _ _ _ _ _ _ ?zp0 ?zp1 ?zp2 ?zp3 ?zp4 ?zp5 ?zp6 ?zp7 _ _ _ _ _ _ _ _ _ _ _ _ _ _ _ _ _ ?zq1 ?zq2 ?zq3 ?zq4 ?zq5 ?zq6 ?zq7 ?zq8 ?_); (case zp0 => assumption); (case zp1 => assumption); (case zp2 => assumption); (case zp3 => assumption); (case zp4 => omega); (case zp5 => omega); (case zp6 => omega); (case zp7 => omega); (case zq1 => k_asm); (case zq2 => k_asm); (case zq3 => k_asm); (case zq4 => k_asm); (case zq5 => k_asm); (case zq6 => first | exact rfl | assumption); (case zq7 => ktr_room); (case zq8 => ktr_units); rintro zv' zown' zh' ztk' ⟨⟨zt', ze1⟩, ze2⟩ zF' zN'; subst ze1; subst ze2; (try simp only [List.nil_append] at zN'); (try dsimp only); (try k_fold))) | fail
  k_with "my call ref" => first | ((plain_pass; (with_reducible show wpAny _ _ (PySem.call (Value.ref 162) _ _) _ _ _); refine halt_of ?_)) | fail
  k_with "my lt" => first | assumption | exact And.left (by assumption) | exact And.left (And.right (by assumption)) | exact And.right (by assumption) | exact And.left (And.right (And.right (by assumption))) | exact And.right (And.right (by assumption)) | exact And.left (And.right (And.right (And.right (by assumption)))) | exact And.right (And.right (And.right (by assumption))) | exact And.left (And.right (And.right (And.right (And.right (by assumption))))) | exact And.right (And.right (And.right (And.right (by assumption)))) | exact And.left (And.right (And.right (And.right (And.right (And.right (by assumption)))))) | exact And.right (And.right (And.right (And.right (And.right (by assumption))))) | exact And.left (And.right (And.right (And.right (And.right (And.right (And.right (by assumption))))))) | exact And.right (And.right (And.right (And.right (And.right (And.right (by assumption)))))) | exact And.left (And.right (And.right (And.right (And.right (And.right (And.right (And.right (by assumption)))))))) | exact And.right (And.right (And.right (And.right (And.right (And.right (And.right (by assumption))))))) | exact And.left (And.right (And.right (And.right (And.right (And.right (And.right (And.right (And.right (by assumption))))))))) | exact And.right (And.right (And.right (And.right (And.right (And.right (And.right (And.right (by assumption)))))))) | fail
  k_with "my succ" => first | (first | exact Nat.lt_succ_self _ | exact Nat.lt_succ_of_lt (Nat.lt_succ_self _) | exact Nat.lt_succ_of_lt (Nat.lt_succ_of_lt (Nat.lt_succ_self _)) | exact Nat.lt_succ_of_lt (Nat.lt_succ_of_lt (Nat.lt_succ_of_lt (Nat.lt_succ_self _)))) | fail
  k_with "my omega" => with_reducible (first | assumption | decide | exact room0 (by assumption) | exact room1 (by assumption) rfl | exact room2 (by assumption) rfl | exact idx_nn _ | exact idx_ge _ _ | exact idx_lo _ | exact idx_lo' _ | exact idx_to _ | exact idx_one _ | exact idx_lt (by assumption) | exact idx_lt (lt_of_eq' (by assumption) (by assumption)) | exact idx_hi (by assumption) rfl | exact idx_hi2 (by assumption) (by assumption) rfl | exact nn_neg _ _ | exact Int.natCast_nonneg _ | exact cast_hi (by assumption) rfl | exact cast_hi2 (by assumption) (by assumption) rfl | exact cast_hi3 (by assumption) (by assumption) rfl | exact ng_lt _ _ | exact ng_hi _ | exact ng_ge (by assumption) | exact ng_lo (by assumption) rfl | exact ng_lo0 (by assumption) | exact ng_neg (by assumption) | exact ng_ne (by assumption) | exact cast_ne (by assumption) | exact cast_ne' (by assumption) (by assumption) | exact not_big (by assumption) (by assumption) rfl | exact slc_lt (by assumption) (by assumption) | exact slc_hi (by assumption) (by assumption) (by assumption) rfl | exact ix_pos (by assumption) | exact ix_ne (by assumption) | exact ix_add (by assumption) | exact le_add' _ _ | exact imp_ne (by assumption) (by assumption) | exact Nat.lt_succ_self _ | exact Nat.le_succ_of_le (by assumption) | exact le_big (by assumption) rfl | exact le_big' (by assumption) (by assumption) rfl | exact pos_of (by assumption) (by assumption) | exact lt_of_eq' (by assumption) (by assumption) | exact int_pos (by assumption) | exact eq_of (by assumption) (by assumption) | exact Ne.symm (by assumption) | (refine Nat.ne_of_gt ?_; k_extra "my lt") | (refine Nat.ne_of_lt ?_; k_extra "my lt") | (refine Nat.ne_of_gt ?_; k_extra "my succ") | (refine Nat.ne_of_lt ?_; k_extra "my succ") | exact Int.le_trans (by assumption) (by decide) | exact Int.lt_of_le_of_lt (by assumption) (by decide) | exact Int.lt_of_lt_of_le (by decide) (by assumption) | exact Nat.le_trans (Nat.le_of_lt (by assumption)) (Nat.le_of_ble_eq_true rfl) | exact Int.ofNat_le.mpr (Nat.le_trans (by assumption) (Nat.le_of_ble_eq_true rfl)) | fail)
  trivial
/-- the column of a lead -/
noncomputable def colStep (line : Str) (size : Int) (c : Int) (i : Nat) : Int := if Txt.item line (i : Int) = Str.ofString " " then c + 1 else c - Int.fmod c size + size
noncomputable def colF (line : Str) (size : Int) : Int := (List.range 5).foldl (colStep line size) 0

theorem col_spec {w : World} {mean mg mb} (line : Str) (t : Tok) (size : Int) (t2 : Tok) (news) (hl : 5 ≤ line.length) (h1 : 1 ≤ size) (h2 : size ≤ 100):
   Spec w mean mg mb 197 1 8 [Value.str line t, Value.int size t2] news (fun v own => ∃ t, v = .int (colF line size) t ∧ own = []) := by
  dsimp only [Spec]
  intros; rename_i hret
  refine wpAny_call ?_
  k_dflt cell_enter
  k_steps
  refine Halt.out ?_
  refine loop_range (n := 5) (by rfl) (by assumption) (by decide) (by rfl) (by assumption) (by assumption)
    (fun M news i m₁ l => l = news ∧ (∃ t, m₁ (Str.ofString "column") = some (.int ((List.range i).foldl (colStep line size) 0) t)) ∧ ∀ z, z ≠ Str.ofString "column" → z ≠ Str.ofString "i" → m₁ z = M z) ?_ ?_ ?_
  · exact ⟨rfl, ⟨_, rfl⟩, fun z _ _ => rfl⟩
  · rintro I it i t m₁ news₁ h tk hi ⟨rfl, ⟨tc, hc⟩, hm⟩ ho F' N'
    k_fold
    rw [frm1_1 hc hm] at F'
    clear hc hm
    have e0 : (0 : Int) + (i : Int) * 1 = i := by omega
    have e1 : (List.range (i + 1)).foldl (colStep line size) 0 = colStep line size ((List.range i).foldl (colStep line size) 0) i := by rw [List.range_succ, List.foldl_append]; rfl
    k_steps
    all_goals refine TurnEnd.intro (by assumption) (by assumption) news₁ (List.mem_cons_self ..) (fun p hp => List.mem_cons_of_mem _ hp) ho ⟨rfl, ⟨_, int_eq ?_⟩, by intro z h1 h2; simp only [h1, h2, if_false]⟩
    · rename ((Txt.item _ _ == _) = true) => q
      rw [e0] at q
      rw [e1, colStep, if_pos (by simpa using q)]
    · rename ((Txt.item _ _ == _) = false) => q
      rw [e0] at q
      rw [e1, colStep, if_neg (by simpa using q)]
  · rintro h tk m₁ news₁ ⟨rfl, ⟨tc, hc⟩, hm⟩ F' N'
    rw [frm1_1 hc hm] at F'
    dsimp only
    k_steps
    exact hret _ [] _ _ ⟨_, rfl, rfl⟩ (by assumption) (by assumption)
end
-- part 03_sub
section
example : True := by
  k_with_none
  k_with "my exec For Name Call cons nil" => first | ((k_here; (rename Fr _ _ _ _ => zlF'); (with_unfolding_all refine' For_invVF zlF' ?zk1 ?zk2 ?_; (case zk1 => exact rfl); (case zk2 => exact rfl); k_whole))) | fail
  k_with "my exec For Name Name cons nil" => first | ((k_here; (rename Fr _ _ _ _ => zlF'); (with_unfolding_all refine' For_invVF zlF' ?zk1 ?zk2 ?_; (case zk1 => exact rfl); (case zk2 => exact rfl); k_whole))) | fail
  k_with "my exec For Name Attribute cons nil" => first | ((k_here; (rename Fr _ _ _ _ => zlF'); (with_unfolding_all refine' For_invVF zlF' ?zk1 ?zk2 ?_; (case zk1 => exact rfl); (case zk2 => exact rfl); k_whole))) | fail
  k_with "my exec For Name Subscript cons nil" => first | ((k_here; (rename Fr _ _ _ _ => zlF'); (with_unfolding_all refine' For_invVF zlF' ?zk1 ?zk2 ?_; (case zk1 => exact rfl); (case zk2 => exact rfl); k_whole))) | fail
  k_with "my pyIter ref" => first | (((with_reducible show wpAny _ _ (pyIter (Value.ref _)) (fun it s₂ => LoopAtV _ _ _ _ _ _ _ _ _ it s₂) _ _); refine halt_of ?_)) | fail
  k_with "my pyIter str" => first | (((with_reducible show wpAny _ _ (pyIter (Value.str _ _)) (fun it s₂ => LoopAtV _ _ _ _ _ _ _ _ _ it s₂) _ _); refine halt_of ?_)) | fail
  k_with "my exec While BoolOp cons nil" => first | (refine halt_of ?_) | fail
  k_with "my exec While Compare cons nil" => first | (refine halt_of ?_) | fail
  k_with "my subscriptTail Name Slice str ref" => first | (((with_reducible show wpAny _ _ (subscriptTail _ (Expr.Slice none (some _) none _) _ _) _ _ _); (with_reducible rename Fr _ _ _ _ => zF'); (with_reducible rename News _ _ _ _ => zN'); (refine slice_strN_nn_len (hsz := ?zhsz) (s := ⟨_, _, _, _, _⟩) zF' zN' ?_); (case zhsz => size_fits); intro _ _ _ _ _ _)) | fail
  k_with "my ite" => first | (first | ((with_reducible show ite ((_ != (0 : Int)) = true) _ _); k_dflt (first | refine ite_bne_t (by omega) ?_ | refine ite_bne_f (by omega) ?_)) | ((with_reducible show ite ((!(_ != (0 : Int))) = true) _ _); k_dflt (first | refine ite_nbne_t (by omega) ?_ | refine ite_nbne_f (by omega) ?_)) | ((with_reducible show ite (decide _ = true) _ _); k_dflt (first | refine ite_dec_t (by omega) ?_ | refine ite_dec_f (by omega) ?_))) | fail
  k_with "my call type:list" => first | (((with_reducible show wpAny _ _ (call (Value.type _) [Value.ref _]) _ _ _); refine halt_of ?_)) | fail
  k_with "my setItem ref int" => first | ((k_here; (with_reducible show wpAny _ _ (setItem (Value.ref _) (Value.int _ _) (Value.int _ _)) _ _ _); k_dflt (refine' ksa_set ?zk1 ?zk2 ?zk3 ?zk4 ?zk5 ?zk6 ?zk7 ?_; (case zk1 => k_asm); (case zk2 => k_asm); (case zk3 => (repeat (first | exact Upd.head (by assumption) | refine Upd.tail (by assumption) ?_))); (case zk4 => with_reducible assumption); (case zk5 => ksa_idx); (case zk6 => ksa_idx); (case zk7 => ksa_idx); k_whole); intro zh' zF' zN' zhi' zhl' zhs'; (try k_sweep))) | fail
  k_with "my k_all" => first | (first | assumption | exact lt_ne (by assumption) | exact allLt_ne (by first | assumption | exact And.right (by assumption) | exact And.right (And.right (by assumption)) | exact And.right (And.right (And.right (by assumption))) | exact And.right (And.right (And.right (And.right (by assumption)))) | exact And.right (And.right (And.right (And.right (And.right (by assumption))))) | exact And.right (And.right (And.right (And.right (And.right (And.right (by assumption)))))) | exact And.right (And.right (And.right (And.right (And.right (And.right (And.right (by assumption))))))))) | fail
  k_with "my call type:tuple" => first | ((k_here; (with_reducible show wpAny _ _ (call (Value.type _) [Value.ref _]) _ _ _); k_dflt (refine' kde_tupleOf ?zk1 ?zk2 ?zk3 ?zk4 ?zk5 ?_; (case zk1 => k_asm); (case zk2 => k_asm); (case zk3 => exact News.isList (by k_asm) (by k_mem)); (case zk4 => exact sz_ints (by assumption) (by omega)); (case zk5 => rfl); k_whole); intro zD' zh' zF' zN' zl1; (try k_lt zl1); (try k_sweep))) | fail
  k_with "my call ref" => first | ((plain_pass; k_here; (refine wpAny_call ?_); k_dflt (refine' code_def ?zk1 ?zk2 ?zk3 ?zk4 ?zk5 ?zkA ?zkF ?zkK ?zk6 ?zk7 ?zk8 ?zk9 ?zkB ?_ ?zc2 ?zc3 ?zc4 ?zc5; (case zkA => exact rfl); (case zkF => exact rfl); (case zkK => first | exact rfl | assumption); (case zk1 => k_asm); (case zk2 => k_asm); (case zk3 => k_asm); (case zk4 => k_asm); (case zk5 => k_asm); (case zk6 => k_is); (case zk7 => k_is); (case zk8 => ktr_room); (case zk9 => exact BindsTo.of_eq rfl); (case zc5 => decide); (case zkB => exact locs rfl); (case zc2 => exact rfl); (case zc3 => exact rfl); (case zc4 => exact rfl); k_whole; intro zg' zL' zh' zFG' zF' zN' zB' zX' zT'; (try dsimp only); (try k_lift zB'); (try k_fold)))) | fail
  k_with "my call type:range" => first | (((rename Fr _ _ _ _ => zF'); (rename News _ _ _ _ => zN'); first | (with_unfolding_all refine range1_rows zF' zN' ?_; intro _ _ _ _ _ _ _ _ _) | (with_unfolding_all refine range2_rows zF' zN' ?_; intro _ _ _ _ _ _ _ _ _))) | fail
  k_with "my eval ListComp" => first | ((k_here; k_dflt (refine LCg.ListComp_U (F₀ := by k_asm) (by with_unfolding_all rfl) (by decide) (by rfl) (by decide) (by rfl) ?_))) | fail
  k_with "my exec Assign cons ListComp" => first | ((k_here; k_dflt (refine LCg.Assign_ListComp_U (F₀ := by k_asm) (by rfl) (by with_unfolding_all rfl) (by with_unfolding_all rfl) (by decide) (by rfl) (by decide) (by rfl) (by rfl) (by rfl) ?_))) | fail
  k_with "my CompSrc" => first | (refine halt_of ?_) | fail
  k_with "my call ref" => first | (((with_reducible show wpAny _ _ (PySem.call (Value.ref 28) _ _) _ _ _); k_dflt (refine' sub_spec _ _ _ _ _ ?zp0 ?zp1 _ _ _ _ _ _ _ _ _ _ _ _ _ _ _ _ _ ?zq1 ?zq2 ?zq3 ?zq4 ?zq5 ?zq6 ?zq7 ?zq8 ?_); (case zp0 => assumption); (case zp1 => assumption); (case zq1 => k_asm); (case zq2 => k_asm); (case zq3 => k_asm); (case zq4 => k_asm); (case zq5 => k_asm); (case zq6 => first | exact rfl | assumption); (case zq7 => ktr_room); (case zq8 => ktr_units); rintro zv' zown' zh' ztk' ⟨⟨zt', ze1⟩, ze2⟩ zF' zN'; subst ze1; subst ze2; (try simp only [List.nil_append] at zN'); (try dsimp only); (try k_fold))) | fail
  k_with "my call ref" => first | (((with_reducible show wpAny _ _ (PySem.call (Value.ref 153) _ _) _ _ _); k_dflt (refine' ws_call _ _ _ _ ?zp0 ?zp1 _ _ _ _ _ _ _ _ _ _ _ _ _ _ _ _ _ ?zq1 ?zq2 ?zq3 ?zq4 ?zq5 ?zq6 ?zq7 ?zq8 ?_); (case zp0 => assumption); (case zp1 => first | omega | (simp only [List.length_drop, List.length_take]; omega)); (case zq1 => k_asm); (case zq2 => k_asm); (case zq3 => k_asm); (case zq4 => k_asm); (case zq5 => k_asm); (case zq6 => first | exact rfl | assumption); (case zq7 => ktr_room); (case zq8 => ktr_units); rintro zv' zown' zh' ztk' ⟨zx', zd', zT1', zT2', zvs', zk1', zk2', zk3', zk4', zk5', zt2', zt3', zt4', ze1, zhI', zl1', zl2', zl3', zl4', ze2⟩ zF' zN'; subst ze1; subst ze2; (try simp only [List.cons_append, List.nil_append] at zN'); (try dsimp only [wsD, tupO] at zN'); (try k_lt zl1'); (try simp only [List.nil_append] at zN'); (try dsimp only); (try k_fold))) | fail
  k_with "my call ref" => first | (((with_reducible show wpAny _ _ (PySem.call (Value.ref 169) _ _) _ _ _); k_dflt (refine' height_spec _ _ _ ?zp0 ?zp1 _ _ _ _ _ _ _ _ _ _ _ _ _ _ _ _ _ ?zq1 ?zq2 ?zq3 ?zq4 ?zq5 ?zq6 ?zq7 ?zq8 ?_); (case zp0 => first | omega | (simp only [List.length_append]; omega)); (case zp1 => first | omega | (simp only [List.length_append]; omega)); (case zq1 => k_asm); (case zq2 => k_asm); (case zq3 => k_asm); (case zq4 => k_asm); (case zq5 => k_asm); (case zq6 => first | exact rfl | assumption); (case zq7 => ktr_room); (case zq8 => ktr_units); rintro zv' zown' zh' ztk' ⟨⟨zt', ze1⟩, ze2⟩ zF' zN'; subst ze1; subst ze2; (try simp only [List.nil_append] at zN'); (try dsimp only); (try k_fold))) | fail
  k_with "my call ref" => first | (((with_reducible show wpAny _ _ (PySem.call (Value.ref 35) _ _) _ _ _); k_dflt (refine' lev_any _ _ _ _ _ _ _ _ ?zp0 ?zp1 ?zp2 ?zp3 ?zp4 ?zp5 ?zp6 ?zp7 _ _ _ _ _ _ _ _ _ _ _ _ _ _ _ _ _ ?zq1 ?zq2 ?zq3 ?zq4 ?zq5 ?zq6 ?zq7 ?zq8 ?_); (case zp0 => assumption); (case zp1 => assumption); (case zp2 => assumption); (case zp3 => assumption); (case zp4 => omega); (case zp5 => omega); (case zp6 => omega); (case zp7 => omega); (case zq1 => k_asm); (case zq2 => k_asm); (case zq3 => k_asm); (case zq4 => k_asm); (case zq5 => k_asm); (case zq6 => first | exact rfl | assumption); (case zq7 => ktr_room); (case zq8 => ktr_units); rintro zv' zown' zh' ztk' ⟨⟨zt', ze1⟩, ze2⟩ zF' zN'; subst ze1; subst ze2; (try simp only [List.nil_append] at zN'); (try dsimp only); (try k_fold))) | fail
  k_with "my call ref" => first | ((plain_pass; (with_reducible show wpAny _ _ (PySem.call (Value.ref 162) _ _) _ _ _); refine halt_of ?_)) | fail
  k_with "my lt" => first | assumption | exact And.left (by assumption) | exact And.left (And.right (by assumption)) | exact And.right (by assumption) | exact And.left (And.right (And.right (by assumption))) | exact And.right (And.right (by assumption)) | exact And.left (And.right (And.right (And.right (by assumption)))) | exact And.right (And.right (And.right (by assumption))) | exact And.left (And.right (And.right (And.right (And.right (by assumption))))) | exact And.right (And.right (And.right (And.right (by assumption)))) | exact And.left (And.right (And.right (And.right (And.right (And.right (by assumption)))))) | exact And.right (And.right (And.right (And.right (And.right (by assumption))))) | exact And.left (And.right (And.right (And.right (And.right (And.right (And.right (by assumption))))))) | exact And.right (And.right (And.right (And.right (And.right (And.right (by assumption)))))) | exact And.left (And.right (And.right (And.right (And.right (And.right (And.right (And.right (by assumption)))))))) | exact And.right (And.right (And.right (And.right (And.right (And.right (And.right (by assumption))))))) | exact And.left (And.right (And.right (And.right (And.right (And.right (And.right (And.right (And.right (by assumption))))))))) | exact And.right (And.right (And.right (And.right (And.right (And.right (And.right (And.right (by assumption)))))))) | fail
  k_with "my succ" => first | (first | exact Nat.lt_succ_self _ | exact Nat.lt_succ_of_lt (Nat.lt_succ_self _) | exact Nat.lt_succ_of_lt (Nat.lt_succ_of_lt (Nat.lt_succ_self _)) | exact Nat.lt_succ_of_lt (Nat.lt_succ_of_lt (Nat.lt_succ_of_lt (Nat.lt_succ_self _)))) | fail
  k_with "my omega" => with_reducible (first | assumption | decide | exact room0 (by assumption) | exact room1 (by assumption) rfl | exact room2 (by assumption) rfl | exact idx_nn _ | exact idx_ge _ _ | exact idx_lo _ | exact idx_lo' _ | exact idx_to _ | exact idx_one _ | exact idx_lt (by assumption) | exact idx_lt (lt_of_eq' (by assumption) (by assumption)) | exact idx_hi (by assumption) rfl | exact idx_hi2 (by assumption) (by assumption) rfl | exact nn_neg _ _ | exact Int.natCast_nonneg _ | exact cast_hi (by assumption) rfl | exact cast_hi2 (by assumption) (by assumption) rfl | exact cast_hi3 (by assumption) (by assumption) rfl | exact ng_lt _ _ | exact ng_hi _ | exact ng_ge (by assumption) | exact ng_lo (by assumption) rfl | exact ng_lo0 (by assumption) | exact ng_neg (by assumption) | exact ng_ne (by assumption) | exact cast_ne (by assumption) | exact cast_ne' (by assumption) (by assumption) | exact not_big (by assumption) (by assumption) rfl | exact slc_lt (by assumption) (by assumption) | exact slc_hi (by assumption) (by assumption) (by assumption) rfl | exact ix_pos (by assumption) | exact ix_ne (by assumption) | exact ix_add (by assumption) | exact le_add' _ _ | exact imp_ne (by assumption) (by assumption) | exact Nat.lt_succ_self _ | exact Nat.le_succ_of_le (by assumption) | exact le_big (by assumption) rfl | exact le_big' (by assumption) (by assumption) rfl | exact pos_of (by assumption) (by assumption) | exact lt_of_eq' (by assumption) (by assumption) | exact int_pos (by assumption) | exact eq_of (by assumption) (by assumption) | exact Ne.symm (by assumption) | (refine Nat.ne_of_gt ?_; k_extra "my lt") | (refine Nat.ne_of_lt ?_; k_extra "my lt") | (refine Nat.ne_of_gt ?_; k_extra "my succ") | (refine Nat.ne_of_lt ?_; k_extra "my succ") | exact Int.le_trans (by assumption) (by decide) | exact Int.lt_of_le_of_lt (by assumption) (by decide) | exact Int.lt_of_lt_of_le (by decide) (by assumption) | exact Nat.le_trans (Nat.le_of_lt (by assumption)) (Nat.le_of_ble_eq_true rfl) | exact Int.ofNat_le.mpr (Nat.le_trans (by assumption) (Nat.le_of_ble_eq_true rfl)) | fail)
  trivial
theorem lower_tab : Txt.lower (mkS [9]) = mkS [9] := by decide +kernel
theorem lower_blank : Txt.lower (mkS [32]) = mkS [32] := by decide +kernel
theorem sub_spec {w : World} {mean mg mb} (a b : Str) (ta tb : Tok) (news) (ha : Blank a) (hb : Blank b) :
   Spec w mean mg mb 28 1 9 [Value.str a ta, Value.str b tb] news (fun v own => (∃ t, v = .int (if a = b then 0 else 2) t) ∧ own = []) := by
  dsimp only [Spec]
  intros; rename_i hret
  have l1 : a.length = 1 := by rcases ha with rfl | rfl <;> rfl
  have l2 : b.length = 1 := by rcases hb with rfl | rfl <;> rfl
  have e1 : Txt.lower a = a := by rcases ha with rfl | rfl; exact lower_tab; exact lower_blank
  have e2 : Txt.lower b = b := by rcases hb with rfl | rfl; exact lower_tab; exact lower_blank
  refine wpAny_call ?_
  k_dflt cell_enter
  k_steps
  · rename ((a == b) = true) => q
    exact hret _ [] _ _ ⟨⟨_, by rw [if_pos (by simpa using q)]⟩, rfl⟩ (by assumption) (by assumption)
  · rename ((a == b) = false) => q
    rename ((Txt.lower a == Txt.lower b) = true) => q2
    rw [e1, e2, q] at q2
    cases q2
  · rename ((a == b) = false) => q
    exact hret _ [] _ _ ⟨⟨_, by rw [if_neg (by simpa using q)]⟩, rfl⟩ (by assumption) (by assumption)
end
-- part 03_lev
section
example : True := by
  k_with_none
  k_with "my exec For Name Call cons nil" => first | ((k_here; (rename Fr _ _ _ _ => zlF'); (with_unfolding_all refine' For_invVF zlF' ?zk1 ?zk2 ?_; (case zk1 => exact rfl); (case zk2 => exact rfl); k_whole))) | fail
  k_with "my exec For Name Name cons nil" => first | ((k_here; (rename Fr _ _ _ _ => zlF'); (with_unfolding_all refine' For_invVF zlF' ?zk1 ?zk2 ?_; (case zk1 => exact rfl); (case zk2 => exact rfl); k_whole))) | fail
  k_with "my exec For Name Attribute cons nil" => first | ((k_here; (rename Fr _ _ _ _ => zlF'); (with_unfolding_all refine' For_invVF zlF' ?zk1 ?zk2 ?_; (case zk1 => exact rfl); (case zk2 => exact rfl); k_whole))) | fail
  k_with "my exec For Name Subscript cons nil" => first | ((k_here; (rename Fr _ _ _ _ => zlF'); (with_unfolding_all refine' For_invVF zlF' ?zk1 ?zk2 ?_; (case zk1 => exact rfl); (case zk2 => exact rfl); k_whole))) | fail
  k_with "my pyIter ref" => first | (((with_reducible show wpAny _ _ (pyIter (Value.ref _)) (fun it s₂ => LoopAtV _ _ _ _ _ _ _ _ _ it s₂) _ _); refine halt_of ?_)) | fail
  k_with "my pyIter str" => first | (((with_reducible show wpAny _ _ (pyIter (Value.str _ _)) (fun it s₂ => LoopAtV _ _ _ _ _ _ _ _ _ it s₂) _ _); refine halt_of ?_)) | fail
  k_with "my exec While BoolOp cons nil" => first | (refine halt_of ?_) | fail
  k_with "my exec While Compare cons nil" => first | (refine halt_of ?_) | fail
  k_with "my subscriptTail Name Slice str ref" => first | (((with_reducible show wpAny _ _ (subscriptTail _ (Expr.Slice none (some _) none _) _ _) _ _ _); (with_reducible rename Fr _ _ _ _ => zF'); (with_reducible rename News _ _ _ _ => zN'); (refine slice_strN_nn_len (hsz := ?zhsz) (s := ⟨_, _, _, _, _⟩) zF' zN' ?_); (case zhsz => size_fits); intro _ _ _ _ _ _)) | fail
  k_with "my ite" => first | (first | ((with_reducible show ite ((_ != (0 : Int)) = true) _ _); k_dflt (first | refine ite_bne_t (by omega) ?_ | refine ite_bne_f (by omega) ?_)) | ((with_reducible show ite ((!(_ != (0 : Int))) = true) _ _); k_dflt (first | refine ite_nbne_t (by omega) ?_ | refine ite_nbne_f (by omega) ?_)) | ((with_reducible show ite (decide _ = true) _ _); k_dflt (first | refine ite_dec_t (by omega) ?_ | refine ite_dec_f (by omega) ?_))) | fail
  k_with "my call type:list" => first | (((with_reducible show wpAny _ _ (call (Value.type _) [Value.ref _]) _ _ _); refine halt_of ?_)) | fail
  k_with "my setItem ref int" => first | ((k_here; (with_reducible show wpAny _ _ (setItem (Value.ref _) (Value.int _ _) (Value.int _ _)) _ _ _); k_dflt (refine' ksa_set ?zk1 ?zk2 ?zk3 ?zk4 ?zk5 ?zk6 ?zk7 ?_; (case zk1 => k_asm); (case zk2 => k_asm); (case zk3 => (repeat (first | exact Upd.head (by assumption) | refine Upd.tail (by assumption) ?_))); (case zk4 => with_reducible assumption); (case zk5 => ksa_idx); (case zk6 => ksa_idx); (case zk7 => ksa_idx); k_whole); intro zh' zF' zN' zhi' zhl' zhs'; (try k_sweep))) | fail
  k_with "my k_all" => first | (first | assumption | exact lt_ne (by assumption) | exact allLt_ne (by first | assumption | exact And.right (by assumption) | exact And.right (And.right (by assumption)) | exact And.right (And.right (And.right (by assumption))) | exact And.right (And.right (And.right (And.right (by assumption)))) | exact And.right (And.right (And.right (And.right (And.right (by assumption))))) | exact And.right (And.right (And.right (And.right (And.right (And.right (by assumption)))))) | exact And.right (And.right (And.right (And.right (And.right (And.right (And.right (by assumption))))))))) | fail
  k_with "my call type:tuple" => first | ((k_here; (with_reducible show wpAny _ _ (call (Value.type _) [Value.ref _]) _ _ _); k_dflt (refine' kde_tupleOf ?zk1 ?zk2 ?zk3 ?zk4 ?zk5 ?_; (case zk1 => k_asm); (case zk2 => k_asm); (case zk3 => exact News.isList (by k_asm) (by k_mem)); (case zk4 => exact sz_ints (by assumption) (by omega)); (case zk5 => rfl); k_whole); intro zD' zh' zF' zN' zl1; (try k_lt zl1); (try k_sweep))) | fail
  k_with "my call ref" => first | ((plain_pass; k_here; (refine wpAny_call ?_); k_dflt (refine' code_def ?zk1 ?zk2 ?zk3 ?zk4 ?zk5 ?zkA ?zkF ?zkK ?zk6 ?zk7 ?zk8 ?zk9 ?zkB ?_ ?zc2 ?zc3 ?zc4 ?zc5; (case zkA => exact rfl); (case zkF => exact rfl); (case zkK => first | exact rfl | assumption); (case zk1 => k_asm); (case zk2 => k_asm); (case zk3 => k_asm); (case zk4 => k_asm); (case zk5 => k_asm); (case zk6 => k_is); (case zk7 => k_is); (case zk8 => ktr_room); (case zk9 => exact BindsTo.of_eq rfl); (case zc5 => decide); (case zkB => exact locs rfl); (case zc2 => exact rfl); (case zc3 => exact rfl); (case zc4 => exact rfl); k_whole; intro zg' zL' zh' zFG' zF' zN' zB' zX' zT'; (try dsimp only); (try k_lift zB'); (try k_fold)))) | fail
  k_with "my call type:range" => first | (((rename Fr _ _ _ _ => zF'); (rename News _ _ _ _ => zN'); first | (with_unfolding_all refine range1_rows zF' zN' ?_; intro _ _ _ _ _ _ _ _ _) | (with_unfolding_all refine range2_rows zF' zN' ?_; intro _ _ _ _ _ _ _ _ _))) | fail
  k_with "my eval ListComp" => first | ((k_here; k_dflt (refine LCg.ListComp_U (F₀ := by k_asm) (by with_unfolding_all rfl) (by decide) (by rfl) (by decide) (by rfl) ?_))) | fail
  k_with "my exec Assign cons ListComp" => first | ((k_here; k_dflt (refine LCg.Assign_ListComp_U (F₀ := by k_asm) (by rfl) (by with_unfolding_all rfl) (by with_unfolding_all rfl) (by decide) (by rfl) (by decide) (by rfl) (by rfl) (by rfl) ?_))) | fail
  k_with "my CompSrc" => first | (refine halt_of ?_) | fail
  k_with "my call ref" => first | (((with_reducible show wpAny _ _ (PySem.call (Value.ref 28) _ _) _ _ _); k_dflt (refine' sub_spec _ _ _ _ _ ?zp0 ?zp1 _ _ _ _ _ _ _ _ _ _ _ _ _ _ _ _ _ ?zq1 ?zq2 ?zq3 ?zq4 ?zq5 ?zq6 ?zq7 ?zq8 ?_); (case zp0 => assumption); (case zp1 => assumption); (case zq1 => k_asm); (case zq2 => k_asm); (case zq3 => k_asm); (case zq4 => k_asm); (case zq5 => k_asm); (case zq6 => first | exact rfl | assumption); (case zq7 => ktr_room); (case zq8 => ktr_units); rintro zv' zown' zh' ztk' ⟨⟨zt', ze1⟩, ze2⟩ zF' zN'; subst ze1; subst ze2; (try simp only [List.nil_append] at zN'); (try dsimp only); (try k_fold))) | fail
  k_with "my call ref" => first | (((with_reducible show wpAny _ _ (PySem.call (Value.ref 153) _ _) _ _ _); k_dflt (refine' ws_call _ _ _ _ ?zp0 ?zp1 _ _ _ _ _ _ _ _ _ _ _ _ _ _ _ _ _ ?zq1 ?zq2 ?zq3 ?zq4 ?zq5 ?zq6 ?zq7 ?zq8 ?_); (case zp0 => assumption); (case zp1 => first | omega | (simp only [List.length_drop, List.length_take]; omega)); (case zq1 => k_asm); (case zq2 => k_asm); (case zq3 => k_asm); (case zq4 => k_asm); (case zq5 => k_asm); (case zq6 => first | exact rfl | assumption); (case zq7 => ktr_room); (case zq8 => ktr_units); rintro zv' zown' zh' ztk' ⟨zx', zd', zT1', zT2', zvs', zk1', zk2', zk3', zk4', zk5', zt2', zt3', zt4', ze1, zhI', zl1', zl2', zl3', zl4', ze2⟩ zF' zN'; subst ze1; subst ze2; (try simp only [List.cons_append, List.nil_append] at zN'); (try dsimp only [wsD, tupO] at zN'); (try k_lt zl1'); (try simp only [List.nil_append] at zN'); (try dsimp only); (try k_fold))) | fail
  k_with "my call ref" => first | (((with_reducible show wpAny _ _ (PySem.call (Value.ref 169) _ _) _ _ _); k_dflt (refine' height_spec _ _ _ ?zp0 ?zp1 _ _ _ _ _ _ _ _ _ _ _ _ _ _ _ _ _ ?zq1 ?zq2 ?zq3 ?zq4 ?zq5 ?zq6 ?zq7 ?zq8 ?_); (case zp0 => first | omega | (simp only [List.length_append]; omega)); (case zp1 => first | omega | (simp only [List.length_append]; omega)); (case zq1 => k_asm); (case zq2 => k_asm); (case zq3 => k_asm); (case zq4 => k_asm); (case zq5 => k_asm); (case zq6 => first | exact rfl | assumption); (case zq7 => ktr_room); (case zq8 => ktr_units); rintro zv' zown' zh' ztk' ⟨⟨zt', ze1⟩, ze2⟩ zF' zN'; subst ze1; subst ze2; (try simp only [List.nil_append] at zN'); (try dsimp only); (try k_fold))) | fail
  k_with "my call ref" => first | (((with_reducible show wpAny _ _ (PySem.call (Value.ref 35) _ _) _ _ _); k_dflt (refine' lev_any _ _ _ _ _ _ _ _ ?zp0 ?zp1 ?zp2 ?zp3 ?zp4 ?zp5 ?zp6 ?zp7 _ _ _ _ _ _ _ _ _ _ _ _ _ _ _ _ _ ?zq1 ?zq2 ?zq3 ?zq4 ?zq5 ?zq6 ?zq7 ?zq8 ?_); (case zp0 => assumption); (case zp1 => assumption); (case zp2 => assumption); (case zp3 => assumption); (case zp4 => omega); (case zp5 => omega); (case zp6 => omega); (case zp7 => omega); (case zq1 => k_asm); (case zq2 => k_asm); (case zq3 => k_asm); (case zq4 => k_asm); (case zq5 => k_asm); (case zq6 => first | exact rfl | assumption); (case zq7 => ktr_room); (case zq8 => ktr_units); rintro zv' zown' zh' ztk' ⟨⟨zt', ze1⟩, ze2⟩ zF' zN'; subst ze1; subst ze2; (try simp only [List.nil_append] at zN'); (try dsimp only); (try k_fold))) | fail
  k_with "my call ref" => first | ((plain_pass; (with_reducible show wpAny _ _ (PySem.call (Value.ref 162) _ _) _ _ _); refine halt_of ?_)) | fail
  k_with "my lt" => first | assumption | exact And.left (by assumption) | exact And.left (And.right (by assumption)) | exact And.right (by assumption) | exact And.left (And.right (And.right (by assumption))) | exact And.right (And.right (by assumption)) | exact And.left (And.right (And.right (And.right (by assumption)))) | exact And.right (And.right (And.right (by assumption))) | exact And.left (And.right (And.right (And.right (And.right (by assumption))))) | exact And.right (And.right (And.right (And.right (by assumption)))) | exact And.left (And.right (And.right (And.right (And.right (And.right (by assumption)))))) | exact And.right (And.right (And.right (And.right (And.right (by assumption))))) | exact And.left (And.right (And.right (And.right (And.right (And.right (And.right (by assumption))))))) | exact And.right (And.right (And.right (And.right (And.right (And.right (by assumption)))))) | exact And.left (And.right (And.right (And.right (And.right (And.right (And.right (And.right (by assumption)))))))) | exact And.right (And.right (And.right (And.right (And.right (And.right (And.right (by assumption))))))) | exact And.left (And.right (And.right (And.right (And.right (And.right (And.right (And.right (And.right (by assumption))))))))) | exact And.right (And.right (And.right (And.right (And.right (And.right (And.right (And.right (by assumption)))))))) | fail
  k_with "my succ" => first | (first | exact Nat.lt_succ_self _ | exact Nat.lt_succ_of_lt (Nat.lt_succ_self _) | exact Nat.lt_succ_of_lt (Nat.lt_succ_of_lt (Nat.lt_succ_self _)) | exact Nat.lt_succ_of_lt (Nat.lt_succ_of_lt (Nat.lt_succ_of_lt (Nat.lt_succ_self _)))) | fail
  k_with "my omega" => with_reducible (first | assumption | decide | exact room0 (by assumption) | exact room1 (by assumption) rfl | exact room2 (by assumption) rfl | exact idx_nn _ | exact idx_ge _ _ | exact idx_lo _ | exact idx_lo' _ | exact idx_to _ | exact idx_one _ | exact idx_lt (by assumption) | exact idx_lt (lt_of_eq' (by assumption) (by assumption)) | exact idx_hi (by assumption) rfl | exact idx_hi2 (by assumption) (by assumption) rfl | exact nn_neg _ _ | exact Int.natCast_nonneg _ | exact cast_hi (by assumption) rfl | exact cast_hi2 (by assumption) (by assumption) rfl | exact cast_hi3 (by assumption) (by assumption) rfl | exact ng_lt _ _ | exact ng_hi _ | exact ng_ge (by assumption) | exact ng_lo (by assumption) rfl | exact ng_lo0 (by assumption) | exact ng_neg (by assumption) | exact ng_ne (by assumption) | exact cast_ne (by assumption) | exact cast_ne' (by assumption) (by assumption) | exact not_big (by assumption) (by assumption) rfl | exact slc_lt (by assumption) (by assumption) | exact slc_hi (by assumption) (by assumption) (by assumption) rfl | exact ix_pos (by assumption) | exact ix_ne (by assumption) | exact ix_add (by assumption) | exact le_add' _ _ | exact imp_ne (by assumption) (by assumption) | exact Nat.lt_succ_self _ | exact Nat.le_succ_of_le (by assumption) | exact le_big (by assumption) rfl | exact le_big' (by assumption) (by assumption) rfl | exact pos_of (by assumption) (by assumption) | exact lt_of_eq' (by assumption) (by assumption) | exact int_pos (by assumption) | exact eq_of (by assumption) (by assumption) | exact Ne.symm (by assumption) | (refine Nat.ne_of_gt ?_; k_extra "my lt") | (refine Nat.ne_of_lt ?_; k_extra "my lt") | (refine Nat.ne_of_gt ?_; k_extra "my succ") | (refine Nat.ne_of_lt ?_; k_extra "my succ") | exact Int.le_trans (by assumption) (by decide) | exact Int.lt_of_le_of_lt (by assumption) (by decide) | exact Int.lt_of_lt_of_le (by decide) (by assumption) | exact Nat.le_trans (Nat.le_of_lt (by assumption)) (Nat.le_of_ble_eq_true rfl) | exact Int.ofNat_le.mpr (Nat.le_trans (by assumption) (Nat.le_of_ble_eq_true rfl)) | fail)
  trivial
theorem cut_len {p x q : List Nat} {k : Nat} (hk : k ≤ p.length) (hn : 1 ≤ x.length) : (Txt.slice (mkS (p ++ x ++ q)) (some (k : Int)) none).length ≠ 0 := by
  rw [slice_from (by omega) (by simp; omega), mkS_length]
  simp; omega
theorem item_pre {p x y q : List Nat} {k : Nat} (hk : k ≤ p.length) (hx : 1 ≤ x.length) (hy : 1 ≤ y.length) (hne : x.head? ≠ y.head?) :
    (Txt.item (mkS (p ++ x ++ q)) (k : Int) == Txt.item (mkS (p ++ y ++ q)) (k : Int)) = decide (k < p.length) := by
  rw [item_mkS (j := k) (by rw [if_neg (by omega)]) (by simp; omega), item_mkS (j := k) (by rw [if_neg (by omega)]) (by simp; omega), mkS_beq]
  rw [Bool.eq_iff_iff, beq_iff_eq, decide_eq_true_iff]
  simp only [List.cons.injEq, and_true]
  by_cases h : k < p.length
  · simp [h, List.getElem_append_left]
  · obtain rfl : k = p.length := by omega
    cases x with
    | nil => simp at hx
    | cons a x => cases y with
      | nil => simp at hy
      | cons b y => simpa using hne
theorem post_len {x q : List Nat} {k : Nat} (h0 : 1 ≤ k) (hk : k ≤ q.length) (hn : 1 ≤ x.length) : (Txt.slice (mkS (x ++ q)) none (some (-(k : Int)))).length ≠ 0 := by
  rw [slice_neg (by omega) (by simp; omega), mkS_length]
  simp; omega
theorem item_post {x y q : List Nat} {k : Nat} (hk : k ≤ q.length) (hx : 1 ≤ x.length) (hy : 1 ≤ y.length) (hle : x.getLast? ≠ y.getLast?) :
    (Txt.item (mkS (x ++ q)) (-(k : Int) - 1) == Txt.item (mkS (y ++ q)) (-(k : Int) - 1)) = decide (k < q.length) := by
  rw [item_mkS (j := x.length + q.length - 1 - k) (by rw [if_pos (by omega), List.length_append]; omega) (by simp; omega), item_mkS (j := y.length + q.length - 1 - k) (by rw [if_pos (by omega), List.length_append]; omega) (by simp; omega), mkS_beq]
  rw [Bool.eq_iff_iff, beq_iff_eq, decide_eq_true_iff]
  simp only [List.cons.injEq, and_true]
  by_cases h : k < q.length
  · simp only [h, iff_true]
    rw [List.getElem_append_right (by omega), List.getElem_append_right (by omega)]
    congr 1
    omega
  · obtain rfl : k = q.length := by omega
    simp only [h, iff_false]
    rw [List.getElem_append_left (by omega), List.getElem_append_left (by omega)]
    intro e
    apply hle
    rw [List.getLast?_eq_getElem?, List.getLast?_eq_getElem?, List.getElem?_eq_getElem (by omega), List.getElem?_eq_getElem (by omega)]
    congr 1
    have e1 : x.length + q.length - 1 - q.length = x.length - 1 := by omega
    have e2 : y.length + q.length - 1 - q.length = y.length - 1 := by omega
    simp only [e1, e2] at e
    exact e
noncomputable def inStep (x : List Nat) (ch : Nat) (s : Int × Int × Int × List Int) (j : Nat) : Int × Int × Int × List Int :=
  let sub := s.1 + (if ch = x.getD j 0 then 0 else 2)
  let d := s.2.2.2.getD j 0
  let r := if sub < (if d < s.2.1 then d else s.2.1) + 2 then sub else (if d < s.2.1 then d else s.2.1) + 2
  (d, r, if r < s.2.2.1 then r else s.2.2.1, s.2.2.2.set j r)
noncomputable def inner (x : List Nat) (ch : Nat) (i : Nat) (row : List Int) (k : Nat) : Int × Int × Int × List Int := (List.range k).foldl (inStep x ch) ((i : Int) * 2, (i : Int) * 2, 9223372036854775807, row)
noncomputable def outer (x : List Nat) (mx : Int) : List Nat → Nat → List Int → Int → Int
  | [], _, _, res => res
  | ch :: ys, i, row, _ => let s := inner x ch i row x.length; if mx < s.2.2.1 then mx + 1 else outer x mx ys (i + 1) s.2.2.2 s.2.1
noncomputable def levCore (x y : List Nat) (mx : Int) : Int := outer x mx y 0 ((List.range x.length).map fun i => 2 + (i : Nat) * 2) 0
theorem inner_succ (x : List Nat) (ch i : Nat) (row : List Int) (k : Nat) : inner x ch i row (k + 1) = inStep x ch (inner x ch i row k) k := by
  rw [inner, List.range_succ, List.foldl_append]; rfl
theorem lev_spec {w : World} {mean mg mb} (p x y q : List Nat) (n : Nat) (ta tb : Tok) (mx : Int) (tm : Tok) (news)
   (hp : p.length ≤ 5) (hq1 : 1 ≤ q.length) (hq : q.length ≤ 20) (hx : x.length = n) (hy : y.length = n) (hn : 1 ≤ n) (hn5 : n ≤ 5) (hne : x.head? ≠ y.head?) (hle : x.getLast? ≠ y.getLast?) (hbx : ∀ c ∈ x, c = 9 ∨ c = 32) (hby : ∀ c ∈ y, c = 9 ∨ c = 32) (h1 : 4 ≤ mx) (h2 : mx ≤ 10) :
   Spec w mean mg mb 35 2 20 [Value.str (mkS (p ++ x ++ q)) ta, Value.str (mkS (p ++ y ++ q)) tb, Value.int mx tm] news (fun v own => (∃ t, v = .int (levCore x y mx) t) ∧ ∃ D us k, own = [(D, listOf (List.toArray us) k)]) := by
  dsimp only [Spec]
  intros; rename_i hret
  have la : (mkS (p ++ x ++ q)).length ≤ 30 := by rw [mkS_length]; simp; omega
  have lb : (mkS (p ++ y ++ q)).length ≤ 30 := by rw [mkS_length]; simp; omega
  have hx1 : Hid (1 ≤ x.length) := by rw [hx]; exact hn
  have hy1 : Hid (1 ≤ y.length) := by rw [hy]; exact hn
  replace hx : Hid _ := hx
  replace hy : Hid _ := hy
  generalize hA : mkS (p ++ x ++ q) = a at *
  generalize hB : mkS (p ++ y ++ q) = b at *
  refine wpAny_call ?_
  k_dflt cell_enter
  k_steps
  · rename ((a == b) = true) => e
    exfalso
    rw [← hA, ← hB, mkS_beq, beq_iff_eq] at e
    have : x = y := by simpa using e
    exact hne (by rw [this])
  · refine Halt.out ?_
    rename Fr _ _ _ _ => F
    rename News _ _ _ _ => N
    refine fr_let F ?_
    clear F
    intro MF1 F
    refine loop_while (n₀ := p.length) (fun M news i m₁ l => l = news ∧ i ≤ p.length ∧ (∃ t, m₁ (Str.ofString "pre") = some (.int (p.length - i : Nat) t)) ∧ ∀ z, z ≠ Str.ofString "pre" → m₁ z = M z)
      (fun M news m₁ l => l = news ∧ (∃ t, m₁ (Str.ofString "pre") = some (.int p.length t)) ∧ ∀ z, z ≠ Str.ofString "pre" → m₁ z = M z) F N ?_ ?_ ?_
    · exact ⟨rfl, Nat.le_refl _, ⟨_, by rw [Nat.sub_self]; rfl⟩, fun z _ => rfl⟩
    · rintro i m₁ news₁ h tk ⟨rfl, hi, ⟨t, hc⟩, hm⟩ F' N'
      rw [frm1_0 hc hm] at F'
      clear F N
      generalize hk : p.length - i = k at *
      k_fold
      have hkp : k ≤ p.length := by rw [← hk]; exact Nat.sub_le _ _
      have hk5 : k ≤ 5 := Nat.le_trans hkp hp
      replace hk : Hid _ := hk
      replace hi : Hid _ := hi
      replace hkp : Hid _ := hkp
      have hp' : Hid _ := hp
      have hq' : Hid _ := hq
      have hq1' : Hid _ := hq1
      have hn' : Hid _ := hn
      have hn5' : Hid _ := hn5
      clear hp hq hq1 hn hn5
      k_steps
      · rename ((Txt.item _ _ == _) = true) => e
        rw [← hA, ← hB, item_pre hkp hx1 hy1 hne, decide_eq_true_iff] at e
        obtain ⟨u1, u2, u3⟩ := wpred hk e hi
        refine WEnd.intro (by assumption) (by assumption) news₁ (fun p hp => hp) ⟨i - 1, u1, rfl, u2, ⟨_, int_eq ?_⟩, by intro z h1; simp only [h1, if_false]⟩
        rw [u3]; rfl
      · rename ((Txt.item _ _ == _) = false) => e
        rw [← hA, ← hB, item_pre hkp hx1 hy1 hne, decide_eq_false_iff_not] at e
        refine WEnd.intro (by assumption) (by assumption) news₁ (fun p hp => hp) ⟨rfl, ⟨_, int_eq ?_⟩, by intro z h1; simp only [h1, if_false]⟩
        exact congrArg Int.ofNat (Nat.le_antisymm hkp (Nat.le_of_not_lt e))
      · exfalso
        have := cut_len (p := p) (x := y) (q := q) (k := k) hkp hy1
        rw [hB] at this
        exact this (Int.ofNat_eq_zero.mp (by assumption))
      · exfalso
        have := cut_len (p := p) (x := x) (q := q) (k := k) hkp hx1
        rw [hA] at this
        exact this (Int.ofNat_eq_zero.mp (by assumption))
    · rintro h tk m₁ news₁ ⟨rfl, ⟨t, hc⟩, hm⟩ F' N'
      rw [frm1_0 hc hm] at F'
      clear F N
      dsimp only
      k_steps
      refine Halt.out ?_
      rename Fr _ _ _ _ => F
      rename News _ _ _ _ => N
      have ea : Txt.slice a (some (p.length : Int)) none = mkS (x ++ q) := by
        rw [← hA, slice_from (by omega) (by simp; omega)]
        simp
      have eb : Txt.slice b (some (p.length : Int)) none = mkS (y ++ q) := by
        rw [← hB, slice_from (by omega) (by simp; omega)]
        simp
      rw [ea, eb] at F
      have la2 : (mkS (x ++ q)).length = n + q.length := by rw [mkS_length, List.length_append, show x.length = n from hx]
      have lb2 : (mkS (y ++ q)).length = n + q.length := by rw [mkS_length, List.length_append, show y.length = n from hy]
      clear ea eb hm hc
      generalize hA2 : mkS (x ++ q) = a2 at *
      generalize hB2 : mkS (y ++ q) = b2 at *
      refine fr_let F ?_
      clear F
      intro MF2 F
      refine loop_while (n₀ := q.length) (fun M news i m₁ l => l = news ∧ i ≤ q.length ∧ (∃ t, m₁ (Str.ofString "post") = some (.int (-((q.length - i : Nat) : Int)) t)) ∧ ∀ z, z ≠ Str.ofString "post" → m₁ z = M z)
        (fun M news m₁ l => l = news ∧ (∃ t, m₁ (Str.ofString "post") = some (.int (-(q.length : Int)) t)) ∧ ∀ z, z ≠ Str.ofString "post" → m₁ z = M z) F N ?_ ?_ ?_
      · exact ⟨rfl, Nat.le_refl _, ⟨_, by rw [Nat.sub_self]; rfl⟩, fun z _ => rfl⟩
      · rintro i m₁ news₁ h tk ⟨rfl, hi, ⟨t, hc⟩, hm⟩ F' N'
        rw [frm1_0 hc hm] at F'
        clear F N hc hm
        generalize hk : q.length - i = k at *
        k_fold
        have hkq : k ≤ q.length := by rw [← hk]; exact Nat.sub_le _ _
        have hk20 : k ≤ 20 := Nat.le_trans hkq hq
        have hka : k + 1 ≤ a2.length := by rw [la2, Nat.add_comm]; exact Nat.add_le_add hn hkq
        have hkb : k + 1 ≤ b2.length := by rw [lb2, Nat.add_comm]; exact Nat.add_le_add hn hkq
        have la4 : a2.length ≤ 25 := by rw [la2]; exact Nat.add_le_add hn5 hq
        have lb4 : b2.length ≤ 25 := by rw [lb2]; exact Nat.add_le_add hn5 hq
        have s1 : k ≠ 0 → (Txt.slice a2 none (some (-(k : Int)))).length ≠ 0 := fun h0 => by rw [← hA2]; exact post_len (Nat.pos_of_ne_zero h0) hkq hx1
        have s2 : k ≠ 0 → (Txt.slice b2 none (some (-(k : Int)))).length ≠ 0 := fun h0 => by rw [← hB2]; exact post_len (Nat.pos_of_ne_zero h0) hkq hy1
        have s3 : (Txt.slice a2 none none).length ≠ 0 := by rw [← hA2, slice_all, hA2]; exact Nat.ne_of_gt (Nat.lt_of_lt_of_le (Nat.succ_pos _) hka)
        have s4 : (Txt.slice b2 none none).length ≠ 0 := by rw [← hB2, slice_all, hB2]; exact Nat.ne_of_gt (Nat.lt_of_lt_of_le (Nat.succ_pos _) hkb)
        have hk' : Hid _ := hk
        have hi' : Hid _ := hi
        have hkq' : Hid _ := hkq
        have hp' : Hid _ := hp
        have hq' : Hid _ := hq
        have hq1' : Hid _ := hq1
        have hn' : Hid _ := hn
        have hn5' : Hid _ := hn5
        clear hk hi hkq hp hq hq1 hn hn5 la2 lb2 la lb
        k_steps
        all_goals first
          | (rename ((Txt.item _ _ == _) = true) => e
             rw [← hA2, ← hB2, item_post hkq' hx1 hy1 hle, decide_eq_true_iff] at e
             obtain ⟨u1, u2, u3⟩ := wpred hk' e hi'
             refine WEnd.intro (by assumption) (by assumption) news₁ (fun p hp => hp) ⟨i - 1, u1, rfl, u2, ⟨_, int_eq ?_⟩, by intro z h1; simp only [h1, if_false]⟩
             rw [u3]; exact (Int.neg_add (a := (k : Int)) (b := 1)).symm)
          | (rename ((Txt.item _ _ == _) = false) => e
             rw [← hA2, ← hB2, item_post hkq' hx1 hy1 hle, decide_eq_false_iff_not] at e
             refine WEnd.intro (by assumption) (by assumption) news₁ (fun p hp => hp) ⟨rfl, ⟨_, int_eq ?_⟩, by intro z h1; simp only [h1, if_false]⟩
             exact congrArg (fun z : Nat => -(z : Int)) (Nat.le_antisymm hkq' (Nat.le_of_not_lt e)))
      · rintro h tk m₁ news₁ ⟨rfl, ⟨t, hc⟩, hm⟩ F' N'
        rw [frm1_0 hc hm] at F'
        clear F N hc hm
        have ea : Txt.slice a2 none (some (-(q.length : Int))) = mkS x := by
          rw [← hA2, slice_neg (by omega) (by simp; omega)]
          simp
        have eb : Txt.slice b2 none (some (-(q.length : Int))) = mkS y := by
          rw [← hB2, slice_neg (by omega) (by simp; omega)]
          simp
        have la3 : (Txt.slice a2 none (some (-(q.length : Int)))).length = n := by rw [ea, mkS_length, show x.length = n from hx]
        have lb3 : (Txt.slice b2 none (some (-(q.length : Int)))).length = n := by rw [eb, mkS_length, show y.length = n from hy]
        dsimp only
        k_steps
        refine Halt.out ?_
        rename IsRange _ _ _ _ _ _ _ _ => R
        refine list_range_step (n := n) (by rfl) (by assumption) (by assumption) R ?_ ?_ (by omega) ?_
        · rw [la3]
          obtain h | h | h | h | h := five hn hn5
          all_goals (rw [h]; decide +kernel)
        · rw [la3]
          obtain h | h | h | h | h := five hn hn5
          all_goals (rw [h]; decide +kernel)
        intro D us k h' tk' F' N' l1 hI
        k_steps
        refine Halt.out ?_
        rename Fr _ _ _ _ => F
        rename News _ _ _ _ => N
        rw [ea, eb] at *
        generalize hA3 : mkS x = a3 at *
        generalize hB3 : mkS y = b3 at *
        clear hfact ea eb
        rename IsRange _ _ _ _ _ _ _ _ => R
        have hsm : Builtin.Range.small 0 (b3.length : Int) 1 = true := by
          rw [lb3]
          obtain h | h | h | h | h := five hn hn5
          all_goals (rw [h]; decide +kernel)
        have hsm2 : Builtin.Range.small 0 (a3.length : Int) 1 = true := by rw [la3, ← lb3]; exact hsm
        have hsz : Builtin.Range.rangeSize 0 (b3.length : Int) 1 = (n : Int) := by
          rw [lb3]
          obtain h | h | h | h | h := five hn hn5
          all_goals (rw [h]; decide +kernel)
        have hsz2 : Builtin.Range.rangeSize 0 (a3.length : Int) 1 = (n : Int) := by rw [la3]; rw [lb3] at hsz; exact hsz
        refine fr_let F ?_
        clear F
        intro MF3 F
        refine loop_range (n := n) (by rfl) R hsm hsz (by assumption) (by assumption)
          (fun M nw i m₁ l => ∃ (vs : List Value) (kk : Nat) (row : List Int) (res : Int), l = (D, listOf vs.toArray kk) :: news₁ ∧ IntsAre vs row ∧ row.length = n ∧ (∃ t, m₁ (Str.ofString "result") = some (.int res t)) ∧ outer x mx (y.drop i) i row res = levCore x y mx ∧
            ∀ z, z ≠ Str.ofString "result" → z ≠ Str.ofString "bindex" → z ≠ Str.ofString "bchar" → z ≠ Str.ofString "distance" → z ≠ Str.ofString "minimum" → z ≠ Str.ofString "index" → z ≠ Str.ofString "substitute" → z ≠ Str.ofString "insert_delete" → m₁ z = M z) ?_ ?_ ?_
        · refine ⟨us, k, _, 0, rfl, hI, by simp, ⟨_, rfl⟩, ?_, by intro z h1 h2 h3 h4 h5 h6 h7 h8; rfl⟩
          rw [levCore, show x.length = n from hx]; rfl
        · rintro I it i t m₁ news₂ h tk hi ⟨vs, kk, row, res, rfl, hvs, hrow, ⟨tr, hc⟩, hJ, hm⟩ ho F' N'
          rw [frm1_7 hc hm] at F'
          k_fold
          clear F N hc hm R
          have hn2 : I ≠ D := fun e => ho (D, listOf vs.toArray kk) (List.mem_cons_self ..) e.symm
          have hiy : i < y.length := by rw [show y.length = n from hy]; exact hi
          have hbl : Txt.item b3 (0 + (i : Int) * 1) = mkS [y.getD i 0] := by rw [← hB3]; exact item_at hiy
          have hbb : Blank (Txt.item b3 (0 + (i : Int) * 1)) := by rw [hbl]; exact blank_at hby hiy
          k_steps
          refine Halt.out ?_
          rename Fr _ _ _ _ => F
          rename News _ _ _ _ => N
          rename IsRange _ _ _ _ _ _ _ _ => R
          refine fr_let F ?_
          clear F
          intro MF4 F
          refine loop_range (n := n) (by rfl) R hsm2 hsz2 (by assumption) (by assumption)
            (fun M nw j m₁ l => ∃ (vs : List Value) (kk : Nat) (st : Int × Int × Int × List Int), l = (I, it) :: (D, listOf vs.toArray kk) :: news₁ ∧ st = inner x (y.getD i 0) i row j ∧ IntsAre vs st.2.2.2 ∧ st.2.2.2.length = n ∧
              (∃ t, m₁ (Str.ofString "distance") = some (.int st.1 t)) ∧ (∃ t, m₁ (Str.ofString "result") = some (.int st.2.1 t)) ∧ (∃ t, m₁ (Str.ofString "minimum") = some (.int st.2.2.1 t)) ∧
              ∀ z, z ≠ Str.ofString "distance" → z ≠ Str.ofString "result" → z ≠ Str.ofString "minimum" → z ≠ Str.ofString "index" → z ≠ Str.ofString "substitute" → z ≠ Str.ofString "insert_delete" → m₁ z = M z) ?_ ?_ ?_
          · refine ⟨vs, kk, _, rfl, rfl, hvs, hrow, ⟨_, int_eq ?_⟩, ⟨_, int_eq ?_⟩, ⟨_, rfl⟩, by intro z h1 h2 h3 h4 h5 h6; rfl⟩
            · show (0 + (i : Int) * 1) * 2 = (i : Int) * 2
              rw [idx0]
            · show (0 + (i : Int) * 1) * 2 = (i : Int) * 2
              rw [idx0]
          · rintro I2 it2 j t m₁ news₂ h tk hj ⟨vs, kk, ⟨sd, sr, sm, srow⟩, rfl, hst, hvs, hrow, ⟨t1, hc1⟩, ⟨t2, hc2⟩, ⟨t3, hc3⟩, hm⟩ ho2 F' N'
            dsimp only at hvs hrow hc1 hc2 hc3
            rw [frm3_3 hc1 hc2 hc3 hm] at F'
            k_fold
            clear F N hc1 hc2 hc3 hm R
            have hjx : j < x.length := by rw [show x.length = n from hx]; exact hj
            have hal : Txt.item a3 (0 + (j : Int) * 1) = mkS [x.getD j 0] := by rw [← hA3]; exact item_at hjx
            have hab : Blank (Txt.item a3 (0 + (j : Int) * 1)) := by rw [hal]; exact blank_at hbx hjx
            have hn1 : I2 ≠ D := fun e => ho2 (D, listOf vs.toArray kk) (by simp) e.symm
            have hn3 : ∀ p ∈ news₁, p.1 ≠ D := fun p hp => Nat.ne_of_lt (l1 p hp)
            have hcost : (if Txt.item b3 (0 + (i : Int) * 1) = Txt.item a3 (0 + (j : Int) * 1) then (0 : Int) else 2) = if y.getD i 0 = x.getD j 0 then 0 else 2 := by
              rw [hbl, hal]; simp only [mkS_inj, List.cons.injEq, and_true]
            have hj0 : (0 + (j : Int) * 1).toNat = j := by rw [idx0]; rfl
            k_steps
            all_goals (rename IntsAre (List.set _ _ _) _ => hI2; simp only [hcost, hj0] at *)
            all_goals refine TurnEnd.intro (by assumption) (by assumption) _ (List.mem_cons_self ..) (fun p hp => List.mem_cons_of_mem _ hp) (off_set ho2) ⟨_, _, inStep x (y.getD i 0) (sd, sr, sm, srow) j, rfl, by rw [inner_succ, ← hst], hI2, by simp [inStep, hrow], ⟨_, int_eq ?_⟩, ⟨_, int_eq ?_⟩, ⟨_, int_eq ?_⟩, by intro z h1 h2 h3 h4 h5 h6; simp only [h1, h2, h3, h4, h5, h6, if_false]⟩
            · rfl
            · rfl
            · exact (if_pos (by assumption)).symm
            · rfl
            · rfl
            · exact (if_neg (by assumption)).symm
          · rintro h tk m₁ news₂ ⟨vs, kk, ⟨sd, sr, sm, srow⟩, rfl, hst, hvs, hrow, ⟨t1, hc1⟩, ⟨t2, hc2⟩, ⟨t3, hc3⟩, hm⟩ F' N'
            dsimp only at hvs hrow hc1 hc2 hc3
            rw [frm3_3 hc1 hc2 hc3 hm] at F'
            clear F N hc1 hc2 hc3 hm R
            have hy2 : y.drop i = y.getD i 0 :: y.drop (i + 1) := by
              have hiy : i < y.length := by rw [show y.length = n from hy]; exact hi
              rw [List.drop_eq_getElem_cons hiy]
              simp [List.getD_eq_getElem?_getD, hiy]
            rw [hy2, outer, show x.length = n from hx, ← hst] at hJ
            dsimp only at hJ ⊢
            k_steps
            · rw [if_pos (by assumption)] at hJ
              dsimp only [TurnPost]
              k_steps
              exact hret _ _ _ _ ⟨⟨_, by rw [hJ]⟩, D, vs, kk, rfl⟩ (by assumption) (fun p hp => (by assumption : News _ _ _ ((I, it) :: (D, listOf vs.toArray kk) :: news₁)) p (List.mem_cons_of_mem _ hp))
            · rw [if_neg (by assumption)] at hJ
              refine TurnEnd.intro (by assumption) (by assumption) _ (List.mem_cons_self ..) (fun p hp => List.mem_cons_of_mem _ hp) (off_one ho) ⟨vs, kk, srow, sr, rfl, hvs, hrow, ⟨_, rfl⟩, hJ, by intro z h1 h2 h3 h4 h5 h6 h7 h8; simp only [MF4, h1, h2, h3, h4, h5, h6, h7, h8, if_false]⟩
        · rintro h tk m₁ news₂ ⟨vs, kk, row, res, rfl, hvs, hrow, ⟨tr, hc⟩, hJ, hm⟩ F' N'
          rw [frm1_7 hc hm] at F'
          clear F N hc hm R
          rw [List.drop_of_length_le (Nat.le_of_eq hy), outer] at hJ
          dsimp only
          k_steps
          exact hret _ [_] _ _ ⟨⟨_, by rw [hJ]⟩, D, vs, kk, rfl⟩ (by assumption) (by assumption)
end
-- part 04_ws
section
example : True := by
  k_with_none
  k_with "my exec For Name Call cons nil" => first | ((k_here; (rename Fr _ _ _ _ => zlF'); (with_unfolding_all refine' For_invVF zlF' ?zk1 ?zk2 ?_; (case zk1 => exact rfl); (case zk2 => exact rfl); k_whole))) | fail
  k_with "my exec For Name Name cons nil" => first | ((k_here; (rename Fr _ _ _ _ => zlF'); (with_unfolding_all refine' For_invVF zlF' ?zk1 ?zk2 ?_; (case zk1 => exact rfl); (case zk2 => exact rfl); k_whole))) | fail
  k_with "my exec For Name Attribute cons nil" => first | ((k_here; (rename Fr _ _ _ _ => zlF'); (with_unfolding_all refine' For_invVF zlF' ?zk1 ?zk2 ?_; (case zk1 => exact rfl); (case zk2 => exact rfl); k_whole))) | fail
  k_with "my exec For Name Subscript cons nil" => first | ((k_here; (rename Fr _ _ _ _ => zlF'); (with_unfolding_all refine' For_invVF zlF' ?zk1 ?zk2 ?_; (case zk1 => exact rfl); (case zk2 => exact rfl); k_whole))) | fail
  k_with "my pyIter ref" => first | (((with_reducible show wpAny _ _ (pyIter (Value.ref _)) (fun it s₂ => LoopAtV _ _ _ _ _ _ _ _ _ it s₂) _ _); refine halt_of ?_)) | fail
  k_with "my pyIter str" => first | (((with_reducible show wpAny _ _ (pyIter (Value.str _ _)) (fun it s₂ => LoopAtV _ _ _ _ _ _ _ _ _ it s₂) _ _); refine halt_of ?_)) | fail
  k_with "my exec While BoolOp cons nil" => first | (refine halt_of ?_) | fail
  k_with "my exec While Compare cons nil" => first | (refine halt_of ?_) | fail
  k_with "my subscriptTail Name Slice str ref" => first | (((with_reducible show wpAny _ _ (subscriptTail _ (Expr.Slice none (some _) none _) _ _) _ _ _); (with_reducible rename Fr _ _ _ _ => zF'); (with_reducible rename News _ _ _ _ => zN'); (refine slice_strN_nn_len (hsz := ?zhsz) (s := ⟨_, _, _, _, _⟩) zF' zN' ?_); (case zhsz => size_fits); intro _ _ _ _ _ _)) | fail
  k_with "my ite" => first | (first | ((with_reducible show ite ((_ != (0 : Int)) = true) _ _); k_dflt (first | refine ite_bne_t (by omega) ?_ | refine ite_bne_f (by omega) ?_)) | ((with_reducible show ite ((!(_ != (0 : Int))) = true) _ _); k_dflt (first | refine ite_nbne_t (by omega) ?_ | refine ite_nbne_f (by omega) ?_)) | ((with_reducible show ite (decide _ = true) _ _); k_dflt (first | refine ite_dec_t (by omega) ?_ | refine ite_dec_f (by omega) ?_))) | fail
  k_with "my call type:list" => first | (((with_reducible show wpAny _ _ (call (Value.type _) [Value.ref _]) _ _ _); refine halt_of ?_)) | fail
  k_with "my setItem ref int" => first | ((k_here; (with_reducible show wpAny _ _ (setItem (Value.ref _) (Value.int _ _) (Value.int _ _)) _ _ _); k_dflt (refine' ksa_set ?zk1 ?zk2 ?zk3 ?zk4 ?zk5 ?zk6 ?zk7 ?_; (case zk1 => k_asm); (case zk2 => k_asm); (case zk3 => (repeat (first | exact Upd.head (by assumption) | refine Upd.tail (by assumption) ?_))); (case zk4 => with_reducible assumption); (case zk5 => ksa_idx); (case zk6 => ksa_idx); (case zk7 => ksa_idx); k_whole); intro zh' zF' zN' zhi' zhl' zhs'; (try k_sweep))) | fail
  k_with "my k_all" => first | (first | assumption | exact lt_ne (by assumption) | exact allLt_ne (by first | assumption | exact And.right (by assumption) | exact And.right (And.right (by assumption)) | exact And.right (And.right (And.right (by assumption))) | exact And.right (And.right (And.right (And.right (by assumption)))) | exact And.right (And.right (And.right (And.right (And.right (by assumption))))) | exact And.right (And.right (And.right (And.right (And.right (And.right (by assumption)))))) | exact And.right (And.right (And.right (And.right (And.right (And.right (And.right (by assumption))))))))) | fail
  k_with "my call type:tuple" => first | ((k_here; (with_reducible show wpAny _ _ (call (Value.type _) [Value.ref _]) _ _ _); k_dflt (refine' kde_tupleOf ?zk1 ?zk2 ?zk3 ?zk4 ?zk5 ?_; (case zk1 => k_asm); (case zk2 => k_asm); (case zk3 => exact News.isList (by k_asm) (by k_mem)); (case zk4 => exact sz_ints (by assumption) (by omega)); (case zk5 => rfl); k_whole); intro zD' zh' zF' zN' zl1; (try k_lt zl1); (try k_sweep))) | fail
  k_with "my call ref" => first | ((plain_pass; k_here; (refine wpAny_call ?_); k_dflt (refine' code_def ?zk1 ?zk2 ?zk3 ?zk4 ?zk5 ?zkA ?zkF ?zkK ?zk6 ?zk7 ?zk8 ?zk9 ?zkB ?_ ?zc2 ?zc3 ?zc4 ?zc5; (case zkA => exact rfl); (case zkF => exact rfl); (case zkK => first | exact rfl | assumption); (case zk1 => k_asm); (case zk2 => k_asm); (case zk3 => k_asm); (case zk4 => k_asm); (case zk5 => k_asm); (case zk6 => k_is); (case zk7 => k_is); (case zk8 => ktr_room); (case zk9 => exact BindsTo.of_eq rfl); (case zc5 => decide); (case zkB => exact locs rfl); (case zc2 => exact rfl); (case zc3 => exact rfl); (case zc4 => exact rfl); k_whole; intro zg' zL' zh' zFG' zF' zN' zB' zX' zT'; (try dsimp only); (try k_lift zB'); (try k_fold)))) | fail
  k_with "my call type:range" => first | (((rename Fr _ _ _ _ => zF'); (rename News _ _ _ _ => zN'); first | (with_unfolding_all refine range1_rows zF' zN' ?_; intro _ _ _ _ _ _ _ _ _) | (with_unfolding_all refine range2_rows zF' zN' ?_; intro _ _ _ _ _ _ _ _ _))) | fail
  k_with "my eval ListComp" => first | ((k_here; k_dflt (refine LCg.ListComp_U (F₀ := by k_asm) (by with_unfolding_all rfl) (by decide) (by rfl) (by decide) (by rfl) ?_))) | fail
  k_with "my exec Assign cons ListComp" => first | ((k_here; k_dflt (refine LCg.Assign_ListComp_U (F₀ := by k_asm) (by rfl) (by with_unfolding_all rfl) (by with_unfolding_all rfl) (by decide) (by rfl) (by decide) (by rfl) (by rfl) (by rfl) ?_))) | fail
  k_with "my CompSrc" => first | (refine halt_of ?_) | fail
  k_with "my call ref" => first | (((with_reducible show wpAny _ _ (PySem.call (Value.ref 28) _ _) _ _ _); k_dflt (refine' sub_spec _ _ _ _ _ ?zp0 ?zp1 _ _ _ _ _ _ _ _ _ _ _ _ _ _ _ _ _ ?zq1 ?zq2 ?zq3 ?zq4 ?zq5 ?zq6 ?zq7 ?zq8 ?_); (case zp0 => assumption); (case zp1 => assumption); (case zq1 => k_asm); (case zq2 => k_asm); (case zq3 => k_asm); (case zq4 => k_asm); (case zq5 => k_asm); (case zq6 => first | exact rfl | assumption); (case zq7 => ktr_room); (case zq8 => ktr_units); rintro zv' zown' zh' ztk' ⟨⟨zt', ze1⟩, ze2⟩ zF' zN'; subst ze1; subst ze2; (try simp only [List.nil_append] at zN'); (try dsimp only); (try k_fold))) | fail
  k_with "my call ref" => first | (((with_reducible show wpAny _ _ (PySem.call (Value.ref 153) _ _) _ _ _); k_dflt (refine' ws_call _ _ _ _ ?zp0 ?zp1 _ _ _ _ _ _ _ _ _ _ _ _ _ _ _ _ _ ?zq1 ?zq2 ?zq3 ?zq4 ?zq5 ?zq6 ?zq7 ?zq8 ?_); (case zp0 => assumption); (case zp1 => first | omega | (simp only [List.length_drop, List.length_take]; omega)); (case zq1 => k_asm); (case zq2 => k_asm); (case zq3 => k_asm); (case zq4 => k_asm); (case zq5 => k_asm); (case zq6 => first | exact rfl | assumption); (case zq7 => ktr_room); (case zq8 => ktr_units); rintro zv' zown' zh' ztk' ⟨zx', zd', zT1', zT2', zvs', zk1', zk2', zk3', zk4', zk5', zt2', zt3', zt4', ze1, zhI', zl1', zl2', zl3', zl4', ze2⟩ zF' zN'; subst ze1; subst ze2; (try simp only [List.cons_append, List.nil_append] at zN'); (try dsimp only [wsD, tupO] at zN'); (try k_lt zl1'); (try simp only [List.nil_append] at zN'); (try dsimp only); (try k_fold))) | fail
  k_with "my call ref" => first | (((with_reducible show wpAny _ _ (PySem.call (Value.ref 169) _ _) _ _ _); k_dflt (refine' height_spec _ _ _ ?zp0 ?zp1 _ _ _ _ _ _ _ _ _ _ _ _ _ _ _ _ _ ?zq1 ?zq2 ?zq3 ?zq4 ?zq5 ?zq6 ?zq7 ?zq8 ?_); (case zp0 => first | omega | (simp only [List.length_append]; omega)); (case zp1 => first | omega | (simp only [List.length_append]; omega)); (case zq1 => k_asm); (case zq2 => k_asm); (case zq3 => k_asm); (case zq4 => k_asm); (case zq5 => k_asm); (case zq6 => first | exact rfl | assumption); (case zq7 => ktr_room); (case zq8 => ktr_units); rintro zv' zown' zh' ztk' ⟨⟨zt', ze1⟩, ze2⟩ zF' zN'; subst ze1; subst ze2; (try simp only [List.nil_append] at zN'); (try dsimp only); (try k_fold))) | fail
  k_with "my call ref" => first | (((with_reducible show wpAny _ _ (PySem.call (Value.ref 35) _ _) _ _ _); k_dflt (refine' lev_any _ _ _ _ _ _ _ _ ?zp0 ?zp1 ?zp2 ?zp3 ?zp4 ?zp5 ?zp6 ?zp7 _ _ _ _ _ _ _ _ _ _ _ _ _ _ _ _ _ ?zq1 ?zq2 ?zq3 ?zq4 ?zq5 ?zq6 ?zq7 ?zq8 ?_); (case zp0 => assumption); (case zp1 => assumption); (case zp2 => assumption); (case zp3 => assumption); (case zp4 => omega); (case zp5 => omega); (case zp6 => omega); (case zp7 => omega); (case zq1 => k_asm); (case zq2 => k_asm); (case zq3 => k_asm); (case zq4 => k_asm); (case zq5 => k_asm); (case zq6 => first | exact rfl | assumption); (case zq7 => ktr_room); (case zq8 => ktr_units); rintro zv' zown' zh' ztk' ⟨⟨zt', ze1⟩, ze2⟩ zF' zN'; subst ze1; subst ze2; (try simp only [List.nil_append] at zN'); (try dsimp only); (try k_fold))) | fail
  k_with "my call ref" => first | ((plain_pass; (with_reducible show wpAny _ _ (PySem.call (Value.ref 162) _ _) _ _ _); refine halt_of ?_)) | fail
  k_with "my lt" => first | assumption | exact And.left (by assumption) | exact And.left (And.right (by assumption)) | exact And.right (by assumption) | exact And.left (And.right (And.right (by assumption))) | exact And.right (And.right (by assumption)) | exact And.left (And.right (And.right (And.right (by assumption)))) | exact And.right (And.right (And.right (by assumption))) | exact And.left (And.right (And.right (And.right (And.right (by assumption))))) | exact And.right (And.right (And.right (And.right (by assumption)))) | exact And.left (And.right (And.right (And.right (And.right (And.right (by assumption)))))) | exact And.right (And.right (And.right (And.right (And.right (by assumption))))) | exact And.left (And.right (And.right (And.right (And.right (And.right (And.right (by assumption))))))) | exact And.right (And.right (And.right (And.right (And.right (And.right (by assumption)))))) | exact And.left (And.right (And.right (And.right (And.right (And.right (And.right (And.right (by assumption)))))))) | exact And.right (And.right (And.right (And.right (And.right (And.right (And.right (by assumption))))))) | exact And.left (And.right (And.right (And.right (And.right (And.right (And.right (And.right (And.right (by assumption))))))))) | exact And.right (And.right (And.right (And.right (And.right (And.right (And.right (And.right (by assumption)))))))) | fail
  k_with "my succ" => first | (first | exact Nat.lt_succ_self _ | exact Nat.lt_succ_of_lt (Nat.lt_succ_self _) | exact Nat.lt_succ_of_lt (Nat.lt_succ_of_lt (Nat.lt_succ_self _)) | exact Nat.lt_succ_of_lt (Nat.lt_succ_of_lt (Nat.lt_succ_of_lt (Nat.lt_succ_self _)))) | fail
  k_with "my omega" => with_reducible (first | assumption | decide | exact room0 (by assumption) | exact room1 (by assumption) rfl | exact room2 (by assumption) rfl | exact idx_nn _ | exact idx_ge _ _ | exact idx_lo _ | exact idx_lo' _ | exact idx_to _ | exact idx_one _ | exact idx_lt (by assumption) | exact idx_lt (lt_of_eq' (by assumption) (by assumption)) | exact idx_hi (by assumption) rfl | exact idx_hi2 (by assumption) (by assumption) rfl | exact nn_neg _ _ | exact Int.natCast_nonneg _ | exact cast_hi (by assumption) rfl | exact cast_hi2 (by assumption) (by assumption) rfl | exact cast_hi3 (by assumption) (by assumption) rfl | exact ng_lt _ _ | exact ng_hi _ | exact ng_ge (by assumption) | exact ng_lo (by assumption) rfl | exact ng_lo0 (by assumption) | exact ng_neg (by assumption) | exact ng_ne (by assumption) | exact cast_ne (by assumption) | exact cast_ne' (by assumption) (by assumption) | exact not_big (by assumption) (by assumption) rfl | exact slc_lt (by assumption) (by assumption) | exact slc_hi (by assumption) (by assumption) (by assumption) rfl | exact ix_pos (by assumption) | exact ix_ne (by assumption) | exact ix_add (by assumption) | exact le_add' _ _ | exact imp_ne (by assumption) (by assumption) | exact Nat.lt_succ_self _ | exact Nat.le_succ_of_le (by assumption) | exact le_big (by assumption) rfl | exact le_big' (by assumption) (by assumption) rfl | exact pos_of (by assumption) (by assumption) | exact lt_of_eq' (by assumption) (by assumption) | exact int_pos (by assumption) | exact eq_of (by assumption) (by assumption) | exact Ne.symm (by assumption) | (refine Nat.ne_of_gt ?_; k_extra "my lt") | (refine Nat.ne_of_lt ?_; k_extra "my lt") | (refine Nat.ne_of_gt ?_; k_extra "my succ") | (refine Nat.ne_of_lt ?_; k_extra "my succ") | exact Int.le_trans (by assumption) (by decide) | exact Int.lt_of_le_of_lt (by assumption) (by decide) | exact Int.lt_of_lt_of_le (by decide) (by assumption) | exact Nat.le_trans (Nat.le_of_lt (by assumption)) (Nat.le_of_ble_eq_true rfl) | exact Int.ofNat_le.mpr (Nat.le_trans (by assumption) (Nat.le_of_ble_eq_true rfl)) | fail)
  trivial
/-- what a tab does to the counts -/
noncomputable def bump (cnt : List Int) (b : Int) : List Int :=
  if (cnt.length : Int) ≤ b then (cnt ++ (List.replicate (b - cnt.length + 1).toNat [0]).flatten).set b.toNat ((cnt ++ (List.replicate (b - cnt.length + 1).toNat [0]).flatten).getD b.toNat 0 + 1)
  else cnt.set b.toNat (cnt.getD b.toNat 0 + 1)
noncomputable def wsGo : List Nat → Int → Int → Int → List Int → Int × Int × Int × List Int
  | [], n, nt, b, cnt => (n, nt, b, cnt)
  | c :: r, n, nt, b, cnt => if c = 32 then wsGo r (n + 1) nt (b + 1) cnt else if c = 9 then wsGo r (n + 1) (nt + 1) 0 (bump cnt b) else (n, nt, b, cnt)
theorem rest3 {D : Addr} {a b c : Addr × Obj} {l : List (Addr × Obj)} (h : a.1 < D ∧ b.1 < D ∧ c.1 < D ∧ AllLt D l) : ∀ p ∈ a :: b :: c :: l, p.1 ≠ D := by
  intro p hp
  rcases List.mem_cons.mp hp with rfl | hp
  · exact Nat.ne_of_lt h.1
  rcases List.mem_cons.mp hp with rfl | hp
  · exact Nat.ne_of_lt h.2.1
  rcases List.mem_cons.mp hp with rfl | hp
  · exact Nat.ne_of_lt h.2.2.1
  · exact allLt_ne h.2.2.2 p hp
theorem off_new {X D : Addr} {o : Obj} {l l' : List (Addr × Obj)} (h : ∀ p ∈ l', p.1 ≠ X) (hs : ∀ p ∈ l, p ∈ l') (hn : X < D) : ∀ p ∈ (D, o) :: l, p.1 ≠ X := by
  intro p hp
  rcases List.mem_cons.mp hp with rfl | hp
  · exact Nat.ne_of_gt hn
  · exact h _ (hs p hp)
theorem drop_at {a : List Nat} {i c : Nat} (h : (mkS a).cps[i]? = some c) : a.drop i = c :: a.drop (i + 1) := by
  have h' : a[i]? = some c := by simpa [mkS] using h
  obtain ⟨hl, rfl⟩ := List.getElem?_eq_some_iff.mp h'
  exact List.drop_eq_getElem_cons hl
theorem bump_len {cnt : List Int} {b : Int} {k : Nat} (h0 : 0 ≤ b) (hb : b < k) (hc : cnt.length ≤ k) : (bump cnt b).length ≤ k := by
  unfold bump
  split
  · simp; omega
  · simp; omega
noncomputable abbrev wsW (a : List Nat) : Int × Int × Int × List Int := wsGo a 0 0 0 []
noncomputable abbrev tupO (vs : Array Value) : Obj := { cls := .type "tuple", data := .seq vs }
noncomputable abbrev wsD (p : Params) (raw : Value) (n nt : Int) (T : Addr) (sm : Bool) (k1 k2 k3 k4 k5 t2 t3 : Tok) : Obj :=
  dictOf [{ hash := PyData.keyHash p (Str.ofString "raw"), key := Value.str (Str.ofString "raw") k1, val := raw },
    { hash := PyData.keyHash p (Str.ofString "n"), key := Value.str (Str.ofString "n") k2, val := Value.int n t2 },
    { hash := PyData.keyHash p (Str.ofString "nt"), key := Value.str (Str.ofString "nt") k3, val := Value.int nt t3 },
    { hash := PyData.keyHash p (Str.ofString "norm"), key := Value.str (Str.ofString "norm") k4, val := Value.ref T },
    { hash := PyData.keyHash p (Str.ofString "is_simple"), key := Value.str (Str.ofString "is_simple") k5, val := Value.bool sm }] 5
theorem sub6 {h₀ h : Heap} {L : Addr} {a b c d e f : Addr × Obj} {l : List (Addr × Obj)} (N : News h₀ L h (a :: b :: c :: d :: e :: f :: l)) : News h₀ L h ([a, b, e, f] ++ l) := by
  intro p hp
  refine N p ?_
  rcases List.mem_cons.mp hp with rfl | hp
  · exact .head _
  rcases List.mem_cons.mp hp with rfl | hp
  · exact .tail _ (.head _)
  rcases List.mem_cons.mp hp with rfl | hp
  · exact .tail _ (.tail _ (.tail _ (.tail _ (.head _))))
  rcases List.mem_cons.mp hp with rfl | hp
  · exact .tail _ (.tail _ (.tail _ (.tail _ (.tail _ (.head _)))))
  · exact .tail _ (.tail _ (.tail _ (.tail _ (.tail _ (.tail _ hp)))))
theorem ws_spec {w : World} {mean mg mb} (a : List Nat) (ta : Tok) (news) (ha : a.length ≤ 20) :
   Spec w mean mg mb 153 3 20 [Value.str (mkS a) ta] news (fun v own => ∃ (x d T1 T2 : Addr) (vs : List Value) (k1 k2 k3 k4 k5 t2 t3 t4 : Tok), v = .ref x ∧ IntsAre vs (wsW a).2.2.2 ∧ (∀ q ∈ news, q.1 < d) ∧ @LT.lt Nat _ d x ∧ @LT.lt Nat _ x T1 ∧ @LT.lt Nat _ T1 T2 ∧
     own = [(T2, tupO #[.ref T1, .int (wsW a).2.2.1 t4]), (T1, tupO vs.toArray), (x, instObj 153 d), (d, wsD w.params (.str (mkS a) ta) (wsW a).1 (wsW a).2.1 T2 (decide (((wsW a).2.2.2.length : Int) ≤ 1)) k1 k2 k3 k4 k5 t2 t3)]) := by
  dsimp only [Spec]
  intros; rename_i hret
  k_dflt (refine' call_cls ?k1 ?k2 ?k3 ?k4 ?k5 ?k6 ?_; (case k1 => k_asm); (case k2 => k_asm); (case k3 => k_asm); (case k4 => k_is); (case k5 => k_is); (case k6 => k_is); k_whole)
  intro x' d' h' F' N' l1 l2
  k_lt2 l2
  k_dflt cell_enter
  k_steps
  refine Halt.out ?_
  rename Fr _ _ _ _ => F
  rename News _ _ _ _ => N
  refine fr_let F ?_
  clear F
  intro MF1 F
  refine loop_strB (by rfl) F N
    (fun M nw i m₁ l => ∃ (C : Addr) (vs : List Value) (kk : Nat) (n nt b : Int) (cnt : List Int), l = (C, listOf vs.toArray kk) :: nw.tail ∧ IntsAre vs cnt ∧ (∀ p ∈ nw.tail, p.1 ≠ C) ∧
      0 ≤ b ∧ b ≤ i ∧ cnt.length ≤ i ∧ wsGo (a.drop i) n nt b cnt = wsGo a 0 0 0 [] ∧
      m₁ (Str.ofString "count") = some (.ref C) ∧ (∃ t, m₁ (Str.ofString "n") = some (.int n t)) ∧ (∃ t, m₁ (Str.ofString "nt") = some (.int nt t)) ∧ (∃ t, m₁ (Str.ofString "b") = some (.int b t)) ∧
      ∀ z, z ≠ Str.ofString "count" → z ≠ Str.ofString "n" → z ≠ Str.ofString "nt" → z ≠ Str.ofString "b" → z ≠ Str.ofString "ch" → m₁ z = M z)
    (fun M nw m₁ l => ∃ (C : Addr) (vs : List Value) (kk : Nat) (n nt b : Int) (cnt : List Int), l = (C, listOf vs.toArray kk) :: nw.tail ∧ IntsAre vs cnt ∧ (∀ p ∈ nw.tail, p.1 ≠ C) ∧
      0 ≤ b ∧ b ≤ 20 ∧ cnt.length ≤ 20 ∧ (n, nt, b, cnt) = wsGo a 0 0 0 [] ∧
      m₁ (Str.ofString "count") = some (.ref C) ∧ (∃ t, m₁ (Str.ofString "n") = some (.int n t)) ∧ (∃ t, m₁ (Str.ofString "nt") = some (.int nt t)) ∧ (∃ t, m₁ (Str.ofString "b") = some (.int b t)) ∧
      ∀ z, z ≠ Str.ofString "count" → z ≠ Str.ofString "n" → z ≠ Str.ofString "nt" → z ≠ Str.ofString "b" → z ≠ Str.ofString "ch" → m₁ z = M z) ?_ ?_ ?_ ?_
  · refine ⟨_, [], _, 0, 0, 0, [], rfl, IntsAre.nil, ?_, by omega, by omega, by simp, rfl, rfl, ⟨_, rfl⟩, ⟨_, rfl⟩, ⟨_, rfl⟩, by intro z h1 h2 h3 h4 h5; rfl⟩
    rename (_ < _ ∧ _ < _ ∧ _ < _ ∧ AllLt _ news) => l3
    intro p hp
    rcases List.mem_cons.mp hp with rfl | hp
    · exact Nat.ne_of_lt l3.1
    rcases List.mem_cons.mp hp with rfl | hp
    · exact Nat.ne_of_lt l3.2.1
    rcases List.mem_cons.mp hp with rfl | hp
    · exact Nat.ne_of_lt l3.2.2.1
    · exact allLt_ne l3.2.2.2 p hp
  · rintro m l ⟨C, vs, kk, n, nt, b, cnt, e, hI, hC, h1, h2, h3, h4, r⟩
    have hs := mkS_size a
    rw [hs] at h2 h3 h4
    rw [List.drop_of_length_le (Nat.le_refl _)] at h4
    exact ⟨C, vs, kk, n, nt, b, cnt, e, hI, hC, h1, by omega, by omega, h4, r⟩
  · rintro I it i c u m₁ news₁ h tk hi hc ⟨C, vs, kk, n, nt, b, cnt, rfl, hI, hC, h1, h2, h3, h4, q1, ⟨t2, q2⟩, ⟨t3, q3⟩, ⟨t4, q4⟩, hm⟩ ho F' N'
    rw [frm4_1 q1 q2 q3 q4 hm] at F'
    dsimp only [List.tail] at N' hC ho
    clear F N q1 q2 q3 q4 hm
    rw [mkS_size] at hi
    k_fold
    have hIC : I ≠ C := fun e => ho _ (List.mem_cons_self ..) e.symm
    k_steps
    all_goals (try dsimp only)
    all_goals (try k_unfold)
    all_goals (try dsimp only [TurnPostB])
    · rename (({ cps := #[c] } : Str) == Str.ofString " ") = true => q
      have hc32 : c = 32 := by
        have q' : (mkS [c] == Str.ofString " ") = true := q
        rw [mkS_blank, mkS_beq, beq_iff_eq] at q'
        simpa using q'
      refine TurnEnd.intro (by assumption) (by assumption) _ (List.mem_cons_self ..) (fun p hp => List.mem_cons_of_mem _ hp) ho ⟨C, vs, kk, n + 1, nt, b + 1, cnt, rfl, hI, hC, by omega, by omega, by omega, ?_, rfl, ⟨_, rfl⟩, ⟨_, rfl⟩, ⟨_, rfl⟩, by intro z h1 h2 h3 h4 h5; simp only [h1, h2, h3, h4, h5, if_false]⟩
      rw [← h4, drop_at hc, wsGo, if_pos hc32]
    · rename (({ cps := #[c] } : Str) == Str.ofString " ") = false => q
      rename (({ cps := #[c] } : Str) == Str.ofString "\t") = true => q2
      rename (_ < _ ∧ _ < _ ∧ _ < _ ∧ _ < _ ∧ _ < _ ∧ _ < _ ∧ _ < _ ∧ AllLt _ news) => l5
      rename IntsAre (List.set _ _ _) _ => hI2
      have hc9 : c = 9 := by
        have q' : (mkS [c] == Str.ofString "\t") = true := q2
        rw [mkS_tab, mkS_beq, beq_iff_eq] at q'
        simpa using q'
      have hbu : bump cnt b = (cnt ++ (List.replicate (b - cnt.length + 1).toNat [0]).flatten).set b.toNat ((cnt ++ (List.replicate (b - cnt.length + 1).toNat [0]).flatten).getD b.toNat 0 + 1) := by rw [bump, if_pos (by assumption)]
      rw [← hbu] at hI2
      have hlen := bump_len (cnt := cnt) (k := i + 1) h1 (by omega) (by omega)
      refine TurnEnd.intro (by assumption) (by assumption) ((_, listOf _ 0) :: _) (List.mem_cons_of_mem _ (List.mem_cons_of_mem _ (List.mem_cons_of_mem _ (List.mem_cons_self ..)))) ?_ (off_new ho (fun p hp => List.mem_cons_of_mem _ hp) l5.2.2.1) ⟨_, _, _, n + 1, nt + 1, 0, bump cnt b, rfl, hI2, rest3 l5.2.2.2.2, by omega, by omega, hlen, ?_, rfl, ⟨_, rfl⟩, ⟨_, rfl⟩, ⟨_, rfl⟩, by intro z h1 h2 h3 h4 h5; simp only [h1, h2, h3, h4, h5, if_false]⟩
      · intro p hp
        rcases List.mem_cons.mp hp with rfl | hp
        · exact List.mem_cons_self ..
        · exact List.mem_cons_of_mem _ (List.mem_cons_of_mem _ (List.mem_cons_of_mem _ (List.mem_cons_of_mem _ (List.mem_cons_of_mem _ hp))))
      · rw [← h4, drop_at hc, wsGo, if_neg (by rw [hc9]; decide), if_pos hc9]
    · rename (({ cps := #[c] } : Str) == Str.ofString " ") = false => q
      rename (({ cps := #[c] } : Str) == Str.ofString "\t") = true => q2
      rename IntsAre (List.set _ _ _) _ => hI2
      have hc9 : c = 9 := by
        have q' : (mkS [c] == Str.ofString "\t") = true := q2
        rw [mkS_tab, mkS_beq, beq_iff_eq] at q'
        simpa using q'
      have hbu : bump cnt b = cnt.set b.toNat (cnt.getD b.toNat 0 + 1) := by rw [bump, if_neg (by assumption)]
      rw [← hbu] at hI2
      have hlen := bump_len (cnt := cnt) (k := i + 1) h1 (by omega) (by omega)
      refine TurnEnd.intro (by assumption) (by assumption) _ (List.mem_cons_self ..) (fun p hp => List.mem_cons_of_mem _ hp) (off_one ho) ⟨C, _, kk, n + 1, nt + 1, 0, bump cnt b, rfl, hI2, hC, by omega, by omega, hlen, ?_, rfl, ⟨_, rfl⟩, ⟨_, rfl⟩, ⟨_, rfl⟩, by intro z h1 h2 h3 h4 h5; simp only [h1, h2, h3, h4, h5, if_false]⟩
      rw [← h4, drop_at hc, wsGo, if_neg (by rw [hc9]; decide), if_pos hc9]
    · rename (({ cps := #[c] } : Str) == Str.ofString " ") = false => q
      rename (({ cps := #[c] } : Str) == Str.ofString "\t") = false => q2
      have n1 : c ≠ 32 := by
        have q' : (mkS [c] == Str.ofString " ") = false := q
        rw [mkS_blank, mkS_beq] at q'
        simpa using q'
      have n2 : c ≠ 9 := by
        have q' : (mkS [c] == Str.ofString "\t") = false := q2
        rw [mkS_tab, mkS_beq] at q'
        simpa using q'
      refine WEnd.intro (by assumption) (by assumption) _ (fun p hp => List.mem_cons_of_mem _ hp) ⟨C, vs, kk, n, nt, b, cnt, rfl, hI, hC, by omega, by omega, by omega, ?_, rfl, ⟨_, rfl⟩, ⟨_, rfl⟩, ⟨_, rfl⟩, by intro z h1 h2 h3 h4 h5; simp only [h1, h2, h3, h4, h5, if_false]⟩
      rw [← h4, drop_at hc, wsGo, if_neg n1, if_neg n2]
  · rintro h tk m₁ news₁ ⟨C, vs, kk, n, nt, b, cnt, rfl, hI, hC, h1, h2, h3, h4, q1, ⟨t2, q2⟩, ⟨t3, q3⟩, ⟨t4, q4⟩, hm⟩ F' N'
    obtain ⟨rfl, rfl, rfl, rfl⟩ : n = (wsW a).1 ∧ nt = (wsW a).2.1 ∧ b = (wsW a).2.2.1 ∧ cnt = (wsW a).2.2.2 := by rw [wsW, ← h4]; exact ⟨rfl, rfl, rfl, rfl⟩
    rw [frm4_1 q1 q2 q3 q4 hm] at F'
    dsimp only [List.tail] at N' hC
    clear F N q1 q2 q3 q4 hm h4
    dsimp only
    have hd1 : C ≠ d' := fun e => hC _ (List.mem_cons_of_mem _ (List.mem_cons_of_mem _ (List.mem_cons_self ..))) e.symm
    have hx1 : C ≠ x' := fun e => hC _ (List.mem_cons_of_mem _ (List.mem_cons_self ..)) e.symm
    k_steps
    rename (_ < _ ∧ _ < _ ∧ _ < _ ∧ _ < _ ∧ AllLt _ news) => l4
    rename (_ < _ ∧ _ < _ ∧ _ < _ ∧ _ < _ ∧ _ < _ ∧ AllLt _ news) => l5
    rename News _ _ _ _ => NN
    exact hret _ _ _ _ ⟨x', d', _, _, vs, _, _, _, _, _, t2, t3, t4, rfl, hI, l1, l2, l4.2.2.1, l5.1, rfl⟩ (by assumption) (sub6 NN)

noncomputable abbrev wsR (w : World) (a : List Nat) (ta : Tok) (news : List (Addr × Obj)) (v : Value) (own : List (Addr × Obj)) : Prop :=
  ∃ (x d T1 T2 : Addr) (vs : List Value) (k1 k2 k3 k4 k5 t2 t3 t4 : Tok), v = .ref x ∧ IntsAre vs (wsW a).2.2.2 ∧ (∀ q ∈ news, q.1 < d) ∧ @LT.lt Nat _ d x ∧ @LT.lt Nat _ x T1 ∧ @LT.lt Nat _ T1 T2 ∧
     own = [(T2, tupO #[.ref T1, .int (wsW a).2.2.1 t4]), (T1, tupO vs.toArray), (x, instObj 153 d), (d, wsD w.params (.str (mkS a) ta) (wsW a).1 (wsW a).2.1 T2 (decide (((wsW a).2.2.2.length : Int) ≤ 1)) k1 k2 k3 k4 k5 t2 t3)]
theorem ws_call {w : World} {mean mg mb} (s : Str) (a : List Nat) (ta : Tok) (news) (e : s = mkS a) (ha : a.length ≤ 20) :
   Spec w mean mg mb 153 3 20 [Value.str s ta] news (wsR w a ta news) := by
  subst e
  exact ws_spec a ta news ha
end
-- part 05_height
section
example : True := by
  k_with_none
  k_with "my exec For Name Call cons nil" => first | ((k_here; (rename Fr _ _ _ _ => zlF'); (with_unfolding_all refine' For_invVF zlF' ?zk1 ?zk2 ?_; (case zk1 => exact rfl); (case zk2 => exact rfl); k_whole))) | fail
  k_with "my exec For Name Name cons nil" => first | ((k_here; (rename Fr _ _ _ _ => zlF'); (with_unfolding_all refine' For_invVF zlF' ?zk1 ?zk2 ?_; (case zk1 => exact rfl); (case zk2 => exact rfl); k_whole))) | fail
  k_with "my exec For Name Attribute cons nil" => first | ((k_here; (rename Fr _ _ _ _ => zlF'); (with_unfolding_all refine' For_invVF zlF' ?zk1 ?zk2 ?_; (case zk1 => exact rfl); (case zk2 => exact rfl); k_whole))) | fail
  k_with "my exec For Name Subscript cons nil" => first | ((k_here; (rename Fr _ _ _ _ => zlF'); (with_unfolding_all refine' For_invVF zlF' ?zk1 ?zk2 ?_; (case zk1 => exact rfl); (case zk2 => exact rfl); k_whole))) | fail
  k_with "my pyIter ref" => first | (((with_reducible show wpAny _ _ (pyIter (Value.ref _)) (fun it s₂ => LoopAtV _ _ _ _ _ _ _ _ _ it s₂) _ _); refine halt_of ?_)) | fail
  k_with "my pyIter str" => first | (((with_reducible show wpAny _ _ (pyIter (Value.str _ _)) (fun it s₂ => LoopAtV _ _ _ _ _ _ _ _ _ it s₂) _ _); refine halt_of ?_)) | fail
  k_with "my exec While BoolOp cons nil" => first | (refine halt_of ?_) | fail
  k_with "my exec While Compare cons nil" => first | (refine halt_of ?_) | fail
  k_with "my subscriptTail Name Slice str ref" => first | (((with_reducible show wpAny _ _ (subscriptTail _ (Expr.Slice none (some _) none _) _ _) _ _ _); (with_reducible rename Fr _ _ _ _ => zF'); (with_reducible rename News _ _ _ _ => zN'); (refine slice_strN_nn_len (hsz := ?zhsz) (s := ⟨_, _, _, _, _⟩) zF' zN' ?_); (case zhsz => size_fits); intro _ _ _ _ _ _)) | fail
  k_with "my ite" => first | (first | ((with_reducible show ite ((_ != (0 : Int)) = true) _ _); k_dflt (first | refine ite_bne_t (by omega) ?_ | refine ite_bne_f (by omega) ?_)) | ((with_reducible show ite ((!(_ != (0 : Int))) = true) _ _); k_dflt (first | refine ite_nbne_t (by omega) ?_ | refine ite_nbne_f (by omega) ?_)) | ((with_reducible show ite (decide _ = true) _ _); k_dflt (first | refine ite_dec_t (by omega) ?_ | refine ite_dec_f (by omega) ?_))) | fail
  k_with "my call type:list" => first | (((with_reducible show wpAny _ _ (call (Value.type _) [Value.ref _]) _ _ _); refine halt_of ?_)) | fail
  k_with "my setItem ref int" => first | ((k_here; (with_reducible show wpAny _ _ (setItem (Value.ref _) (Value.int _ _) (Value.int _ _)) _ _ _); k_dflt (refine' ksa_set ?zk1 ?zk2 ?zk3 ?zk4 ?zk5 ?zk6 ?zk7 ?_; (case zk1 => k_asm); (case zk2 => k_asm); (case zk3 => (repeat (first | exact Upd.head (by assumption) | refine Upd.tail (by assumption) ?_))); (case zk4 => with_reducible assumption); (case zk5 => ksa_idx); (case zk6 => ksa_idx); (case zk7 => ksa_idx); k_whole); intro zh' zF' zN' zhi' zhl' zhs'; (try k_sweep))) | fail
  k_with "my k_all" => first | (first | assumption | exact lt_ne (by assumption) | exact allLt_ne (by first | assumption | exact And.right (by assumption) | exact And.right (And.right (by assumption)) | exact And.right (And.right (And.right (by assumption))) | exact And.right (And.right (And.right (And.right (by assumption)))) | exact And.right (And.right (And.right (And.right (And.right (by assumption))))) | exact And.right (And.right (And.right (And.right (And.right (And.right (by assumption)))))) | exact And.right (And.right (And.right (And.right (And.right (And.right (And.right (by assumption))))))))) | fail
  k_with "my call type:tuple" => first | ((k_here; (with_reducible show wpAny _ _ (call (Value.type _) [Value.ref _]) _ _ _); k_dflt (refine' kde_tupleOf ?zk1 ?zk2 ?zk3 ?zk4 ?zk5 ?_; (case zk1 => k_asm); (case zk2 => k_asm); (case zk3 => exact News.isList (by k_asm) (by k_mem)); (case zk4 => exact sz_ints (by assumption) (by omega)); (case zk5 => rfl); k_whole); intro zD' zh' zF' zN' zl1; (try k_lt zl1); (try k_sweep))) | fail
  k_with "my call ref" => first | ((plain_pass; k_here; (refine wpAny_call ?_); k_dflt (refine' code_def ?zk1 ?zk2 ?zk3 ?zk4 ?zk5 ?zkA ?zkF ?zkK ?zk6 ?zk7 ?zk8 ?zk9 ?zkB ?_ ?zc2 ?zc3 ?zc4 ?zc5; (case zkA => exact rfl); (case zkF => exact rfl); (case zkK => first | exact rfl | assumption); (case zk1 => k_asm); (case zk2 => k_asm); (case zk3 => k_asm); (case zk4 => k_asm); (case zk5 => k_asm); (case zk6 => k_is); (case zk7 => k_is); (case zk8 => ktr_room); (case zk9 => exact BindsTo.of_eq rfl); (case zc5 => decide); (case zkB => exact locs rfl); (case zc2 => exact rfl); (case zc3 => exact rfl); (case zc4 => exact rfl); k_whole; intro zg' zL' zh' zFG' zF' zN' zB' zX' zT'; (try dsimp only); (try k_lift zB'); (try k_fold)))) | fail
  k_with "my call type:range" => first | (((rename Fr _ _ _ _ => zF'); (rename News _ _ _ _ => zN'); first | (with_unfolding_all refine range1_rows zF' zN' ?_; intro _ _ _ _ _ _ _ _ _) | (with_unfolding_all refine range2_rows zF' zN' ?_; intro _ _ _ _ _ _ _ _ _))) | fail
  k_with "my eval ListComp" => first | ((k_here; k_dflt (refine LCg.ListComp_U (F₀ := by k_asm) (by with_unfolding_all rfl) (by decide) (by rfl) (by decide) (by rfl) ?_))) | fail
  k_with "my exec Assign cons ListComp" => first | ((k_here; k_dflt (refine LCg.Assign_ListComp_U (F₀ := by k_asm) (by rfl) (by with_unfolding_all rfl) (by with_unfolding_all rfl) (by decide) (by rfl) (by decide) (by rfl) (by rfl) (by rfl) ?_))) | fail
  k_with "my CompSrc" => first | (refine halt_of ?_) | fail
  k_with "my call ref" => first | (((with_reducible show wpAny _ _ (PySem.call (Value.ref 28) _ _) _ _ _); k_dflt (refine' sub_spec _ _ _ _ _ ?zp0 ?zp1 _ _ _ _ _ _ _ _ _ _ _ _ _ _ _ _ _ ?zq1 ?zq2 ?zq3 ?zq4 ?zq5 ?zq6 ?zq7 ?zq8 ?_); (case zp0 => assumption); (case zp1 => assumption); (case zq1 => k_asm); (case zq2 => k_asm); (case zq3 => k_asm); (case zq4 => k_asm); (case zq5 => k_asm); (case zq6 => first | exact rfl | assumption); (case zq7 => ktr_room); (case zq8 => ktr_units); rintro zv' zown' zh' ztk' ⟨⟨zt', ze1⟩, ze2⟩ zF' zN'; subst ze1; subst ze2; (try simp only [List.nil_append] at zN'); (try dsimp only); (try k_fold))) | fail
  k_with "my call ref" => first | (((with_reducible show wpAny _ _ (PySem.call (Value.ref 153) _ _) _ _ _); k_dflt (refine' ws_call _ _ _ _ ?zp0 ?zp1 _ _ _ _ _ _ _ _ _ _ _ _ _ _ _ _ _ ?zq1 ?zq2 ?zq3 ?zq4 ?zq5 ?zq6 ?zq7 ?zq8 ?_); (case zp0 => assumption); (case zp1 => first | omega | (simp only [List.length_drop, List.length_take]; omega)); (case zq1 => k_asm); (case zq2 => k_asm); (case zq3 => k_asm); (case zq4 => k_asm); (case zq5 => k_asm); (case zq6 => first | exact rfl | assumption); (case zq7 => ktr_room); (case zq8 => ktr_units); rintro zv' zown' zh' ztk' ⟨zx', zd', zT1', zT2', zvs', zk1', zk2', zk3', zk4', zk5', zt2', zt3', zt4', ze1, zhI', zl1', zl2', zl3', zl4', ze2⟩ zF' zN'; subst ze1; subst ze2; (try simp only [List.cons_append, List.nil_append] at zN'); (try dsimp only [wsD, tupO] at zN'); (try k_lt zl1'); (try simp only [List.nil_append] at zN'); (try dsimp only); (try k_fold))) | fail
  k_with "my call ref" => first | (((with_reducible show wpAny _ _ (PySem.call (Value.ref 169) _ _) _ _ _); k_dflt (refine' height_spec _ _ _ ?zp0 ?zp1 _ _ _ _ _ _ _ _ _ _ _ _ _ _ _ _ _ ?zq1 ?zq2 ?zq3 ?zq4 ?zq5 ?zq6 ?zq7 ?zq8 ?_); (case zp0 => first | omega | (simp only [List.length_append]; omega)); (case zp1 => first | omega | (simp only [List.length_append]; omega)); (case zq1 => k_asm); (case zq2 => k_asm); (case zq3 => k_asm); (case zq4 => k_asm); (case zq5 => k_asm); (case zq6 => first | exact rfl | assumption); (case zq7 => ktr_room); (case zq8 => ktr_units); rintro zv' zown' zh' ztk' ⟨⟨zt', ze1⟩, ze2⟩ zF' zN'; subst ze1; subst ze2; (try simp only [List.nil_append] at zN'); (try dsimp only); (try k_fold))) | fail
  k_with "my call ref" => first | (((with_reducible show wpAny _ _ (PySem.call (Value.ref 35) _ _) _ _ _); k_dflt (refine' lev_any _ _ _ _ _ _ _ _ ?zp0 ?zp1 ?zp2 ?zp3 ?zp4 ?zp5 ?zp6 ?zp7 _ _ _ _ _ _ _ _ _ _ _ _ _ _ _ _ _ ?zq1 ?zq2 ?zq3 ?zq4 ?zq5 ?zq6 ?zq7 ?zq8 ?_); (case zp0 => assumption); (case zp1 => assumption); (case zp2 => assumption); (case zp3 => assumption); (case zp4 => omega); (case zp5 => omega); (case zp6 => omega); (case zp7 => omega); (case zq1 => k_asm); (case zq2 => k_asm); (case zq3 => k_asm); (case zq4 => k_asm); (case zq5 => k_asm); (case zq6 => first | exact rfl | assumption); (case zq7 => ktr_room); (case zq8 => ktr_units); rintro zv' zown' zh' ztk' ⟨⟨zt', ze1⟩, ze2⟩ zF' zN'; subst ze1; subst ze2; (try simp only [List.nil_append] at zN'); (try dsimp only); (try k_fold))) | fail
  k_with "my call ref" => first | ((plain_pass; (with_reducible show wpAny _ _ (PySem.call (Value.ref 162) _ _) _ _ _); refine halt_of ?_)) | fail
  k_with "my lt" => first | assumption | exact And.left (by assumption) | exact And.left (And.right (by assumption)) | exact And.right (by assumption) | exact And.left (And.right (And.right (by assumption))) | exact And.right (And.right (by assumption)) | exact And.left (And.right (And.right (And.right (by assumption)))) | exact And.right (And.right (And.right (by assumption))) | exact And.left (And.right (And.right (And.right (And.right (by assumption))))) | exact And.right (And.right (And.right (And.right (by assumption)))) | exact And.left (And.right (And.right (And.right (And.right (And.right (by assumption)))))) | exact And.right (And.right (And.right (And.right (And.right (by assumption))))) | exact And.left (And.right (And.right (And.right (And.right (And.right (And.right (by assumption))))))) | exact And.right (And.right (And.right (And.right (And.right (And.right (by assumption)))))) | exact And.left (And.right (And.right (And.right (And.right (And.right (And.right (And.right (by assumption)))))))) | exact And.right (And.right (And.right (And.right (And.right (And.right (And.right (by assumption))))))) | exact And.left (And.right (And.right (And.right (And.right (And.right (And.right (And.right (And.right (by assumption))))))))) | exact And.right (And.right (And.right (And.right (And.right (And.right (And.right (And.right (by assumption)))))))) | fail
  k_with "my succ" => first | (first | exact Nat.lt_succ_self _ | exact Nat.lt_succ_of_lt (Nat.lt_succ_self _) | exact Nat.lt_succ_of_lt (Nat.lt_succ_of_lt (Nat.lt_succ_self _)) | exact Nat.lt_succ_of_lt (Nat.lt_succ_of_lt (Nat.lt_succ_of_lt (Nat.lt_succ_self _)))) | fail
  k_with "my omega" => with_reducible (first | assumption | decide | exact room0 (by assumption) | exact room1 (by assumption) rfl | exact room2 (by assumption) rfl | exact idx_nn _ | exact idx_ge _ _ | exact idx_lo _ | exact idx_lo' _ | exact idx_to _ | exact idx_one _ | exact idx_lt (by assumption) | exact idx_lt (lt_of_eq' (by assumption) (by assumption)) | exact idx_hi (by assumption) rfl | exact idx_hi2 (by assumption) (by assumption) rfl | exact nn_neg _ _ | exact Int.natCast_nonneg _ | exact cast_hi (by assumption) rfl | exact cast_hi2 (by assumption) (by assumption) rfl | exact cast_hi3 (by assumption) (by assumption) rfl | exact ng_lt _ _ | exact ng_hi _ | exact ng_ge (by assumption) | exact ng_lo (by assumption) rfl | exact ng_lo0 (by assumption) | exact ng_neg (by assumption) | exact ng_ne (by assumption) | exact cast_ne (by assumption) | exact cast_ne' (by assumption) (by assumption) | exact not_big (by assumption) (by assumption) rfl | exact slc_lt (by assumption) (by assumption) | exact slc_hi (by assumption) (by assumption) (by assumption) rfl | exact ix_pos (by assumption) | exact ix_ne (by assumption) | exact ix_add (by assumption) | exact le_add' _ _ | exact imp_ne (by assumption) (by assumption) | exact Nat.lt_succ_self _ | exact Nat.le_succ_of_le (by assumption) | exact le_big (by assumption) rfl | exact le_big' (by assumption) (by assumption) rfl | exact pos_of (by assumption) (by assumption) | exact lt_of_eq' (by assumption) (by assumption) | exact int_pos (by assumption) | exact eq_of (by assumption) (by assumption) | exact Ne.symm (by assumption) | (refine Nat.ne_of_gt ?_; k_extra "my lt") | (refine Nat.ne_of_lt ?_; k_extra "my lt") | (refine Nat.ne_of_gt ?_; k_extra "my succ") | (refine Nat.ne_of_lt ?_; k_extra "my succ") | exact Int.le_trans (by assumption) (by decide) | exact Int.lt_of_le_of_lt (by assumption) (by decide) | exact Int.lt_of_lt_of_le (by decide) (by assumption) | exact Nat.le_trans (Nat.le_of_lt (by assumption)) (Nat.le_of_ble_eq_true rfl) | exact Int.ofNat_le.mpr (Nat.le_trans (by assumption) (Nat.le_of_ble_eq_true rfl)) | fail)
  trivial
noncomputable def htStep (l : List Nat) (h : Int) (i : Nat) : Int := if l.getD i 0 = 32 then h + (wsW (l.drop i)).2.1 else h
noncomputable def heightF (l : List Nat) : Int := (List.range 5).foldl (htStep l) 0
theorem height_spec {w : World} {mean mg mb} (l : List Nat) (t : Tok) (news) (h5 : 5 ≤ l.length) (h2 : l.length ≤ 20) :
   Spec w mean mg mb 169 5 35 [Value.str (mkS l) t] news (fun v own => (∃ t, v = .int (heightF l) t) ∧ own = []) := by
  dsimp only [Spec]
  intros; rename_i hret
  refine wpAny_call ?_
  k_dflt cell_enter
  k_steps
  refine Halt.out ?_
  rename Fr _ _ _ _ => F
  rename News _ _ _ _ => N
  rename IsRange _ _ _ _ _ _ _ _ => R
  have hsz : (mkS l).length = l.length := mkS_length l
  refine fr_let F ?_
  clear F
  intro MF1 F
  refine loop_range (n := 5) (by rfl) R (by decide) (by rfl) (by assumption) (by assumption)
    (fun M news i m₁ l' => l' = news ∧ (∃ t, m₁ (Str.ofString "height") = some (.int ((List.range i).foldl (htStep l) 0) t)) ∧ ∀ z, z ≠ Str.ofString "height" → z ≠ Str.ofString "i" → m₁ z = M z) ?_ ?_ ?_
  · exact ⟨rfl, ⟨_, rfl⟩, fun z _ _ => rfl⟩
  · rintro I it i t m₁ news₁ h tk hi ⟨rfl, ⟨tc, hc⟩, hm⟩ ho F' N'
    rw [frm1_1 hc hm] at F'
    k_fold
    clear F N R hc hm
    have hit : Txt.item (mkS l) (0 + (i : Int) * 1) = mkS [l.getD i 0] := item_at (by omega)
    have hsl : Txt.slice (mkS l) (some (0 + (i : Int) * 1)) none = mkS (l.drop i) := by
      rw [slice_from (by omega) (by omega)]
      congr 2
      omega
    k_steps
    all_goals refine TurnEnd.intro (by assumption) (by assumption) news₁ (by repeat first | exact List.mem_cons_self .. | refine List.mem_cons_of_mem _ ?_) (by intro p hp; repeat first | exact hp | refine List.mem_cons_of_mem _ ?_) ho ⟨rfl, ⟨_, int_eq ?_⟩, by intro z h1 h2; simp only [h1, h2, if_false]⟩
    · rename ((Txt.item _ _ == _) = true) => q
      rw [hit, mkS_blank, mkS_beq, beq_iff_eq] at q
      rw [List.range_succ, List.foldl_append]
      show _ = htStep l _ i
      rw [htStep, if_pos (by simpa using q)]
    · rename ((Txt.item _ _ == _) = false) => q
      rw [hit, mkS_blank, mkS_beq] at q
      rw [List.range_succ, List.foldl_append]
      show _ = htStep l _ i
      rw [htStep, if_neg (by simpa using q)]
  · rintro h tk m₁ news₁ ⟨rfl, ⟨tc, hc⟩, hm⟩ F' N'
    rw [frm1_1 hc hm] at F'
    dsimp only
    k_steps
    exact hret _ [] _ _ ⟨⟨_, rfl⟩, rfl⟩ (by assumption) (by assumption)
end
-- part 06_hooks
section
example : True := by
  k_with_none
  k_with "my exec For Name Call cons nil" => first | ((k_here; (rename Fr _ _ _ _ => zlF'); (with_unfolding_all refine' For_invVF zlF' ?zk1 ?zk2 ?_; (case zk1 => exact rfl); (case zk2 => exact rfl); k_whole))) | fail
  k_with "my exec For Name Name cons nil" => first | ((k_here; (rename Fr _ _ _ _ => zlF'); (with_unfolding_all refine' For_invVF zlF' ?zk1 ?zk2 ?_; (case zk1 => exact rfl); (case zk2 => exact rfl); k_whole))) | fail
  k_with "my exec For Name Attribute cons nil" => first | ((k_here; (rename Fr _ _ _ _ => zlF'); (with_unfolding_all refine' For_invVF zlF' ?zk1 ?zk2 ?_; (case zk1 => exact rfl); (case zk2 => exact rfl); k_whole))) | fail
  k_with "my exec For Name Subscript cons nil" => first | ((k_here; (rename Fr _ _ _ _ => zlF'); (with_unfolding_all refine' For_invVF zlF' ?zk1 ?zk2 ?_; (case zk1 => exact rfl); (case zk2 => exact rfl); k_whole))) | fail
  k_with "my pyIter ref" => first | (((with_reducible show wpAny _ _ (pyIter (Value.ref _)) (fun it s₂ => LoopAtV _ _ _ _ _ _ _ _ _ it s₂) _ _); refine halt_of ?_)) | fail
  k_with "my pyIter str" => first | (((with_reducible show wpAny _ _ (pyIter (Value.str _ _)) (fun it s₂ => LoopAtV _ _ _ _ _ _ _ _ _ it s₂) _ _); refine halt_of ?_)) | fail
  k_with "my exec While BoolOp cons nil" => first | (refine halt_of ?_) | fail
  k_with "my exec While Compare cons nil" => first | (refine halt_of ?_) | fail
  k_with "my subscriptTail Name Slice str ref" => first | (((with_reducible show wpAny _ _ (subscriptTail _ (Expr.Slice none (some _) none _) _ _) _ _ _); (with_reducible rename Fr _ _ _ _ => zF'); (with_reducible rename News _ _ _ _ => zN'); (refine slice_strN_nn_len (hsz := ?zhsz) (s := ⟨_, _, _, _, _⟩) zF' zN' ?_); (case zhsz => size_fits); intro _ _ _ _ _ _)) | fail
  k_with "my ite" => first | (first | ((with_reducible show ite ((_ != (0 : Int)) = true) _ _); k_dflt (first | refine ite_bne_t (by omega) ?_ | refine ite_bne_f (by omega) ?_)) | ((with_reducible show ite ((!(_ != (0 : Int))) = true) _ _); k_dflt (first | refine ite_nbne_t (by omega) ?_ | refine ite_nbne_f (by omega) ?_)) | ((with_reducible show ite (decide _ = true) _ _); k_dflt (first | refine ite_dec_t (by omega) ?_ | refine ite_dec_f (by omega) ?_))) | fail
  k_with "my call type:list" => first | (((with_reducible show wpAny _ _ (call (Value.type _) [Value.ref _]) _ _ _); refine halt_of ?_)) | fail
  k_with "my setItem ref int" => first | ((k_here; (with_reducible show wpAny _ _ (setItem (Value.ref _) (Value.int _ _) (Value.int _ _)) _ _ _); k_dflt (refine' ksa_set ?zk1 ?zk2 ?zk3 ?zk4 ?zk5 ?zk6 ?zk7 ?_; (case zk1 => k_asm); (case zk2 => k_asm); (case zk3 => (repeat (first | exact Upd.head (by assumption) | refine Upd.tail (by assumption) ?_))); (case zk4 => with_reducible assumption); (case zk5 => ksa_idx); (case zk6 => ksa_idx); (case zk7 => ksa_idx); k_whole); intro zh' zF' zN' zhi' zhl' zhs'; (try k_sweep))) | fail
  k_with "my k_all" => first | (first | assumption | exact lt_ne (by assumption) | exact allLt_ne (by first | assumption | exact And.right (by assumption) | exact And.right (And.right (by assumption)) | exact And.right (And.right (And.right (by assumption))) | exact And.right (And.right (And.right (And.right (by assumption)))) | exact And.right (And.right (And.right (And.right (And.right (by assumption))))) | exact And.right (And.right (And.right (And.right (And.right (And.right (by assumption)))))) | exact And.right (And.right (And.right (And.right (And.right (And.right (And.right (by assumption))))))))) | fail
  k_with "my call type:tuple" => first | ((k_here; (with_reducible show wpAny _ _ (call (Value.type _) [Value.ref _]) _ _ _); k_dflt (refine' kde_tupleOf ?zk1 ?zk2 ?zk3 ?zk4 ?zk5 ?_; (case zk1 => k_asm); (case zk2 => k_asm); (case zk3 => exact News.isList (by k_asm) (by k_mem)); (case zk4 => exact sz_ints (by assumption) (by omega)); (case zk5 => rfl); k_whole); intro zD' zh' zF' zN' zl1; (try k_lt zl1); (try k_sweep))) | fail
  k_with "my call ref" => first | ((plain_pass; k_here; (refine wpAny_call ?_); k_dflt (refine' code_def ?zk1 ?zk2 ?zk3 ?zk4 ?zk5 ?zkA ?zkF ?zkK ?zk6 ?zk7 ?zk8 ?zk9 ?zkB ?_ ?zc2 ?zc3 ?zc4 ?zc5; (case zkA => exact rfl); (case zkF => exact rfl); (case zkK => first | exact rfl | assumption); (case zk1 => k_asm); (case zk2 => k_asm); (case zk3 => k_asm); (case zk4 => k_asm); (case zk5 => k_asm); (case zk6 => k_is); (case zk7 => k_is); (case zk8 => ktr_room); (case zk9 => exact BindsTo.of_eq rfl); (case zc5 => decide); (case zkB => exact locs rfl); (case zc2 => exact rfl); (case zc3 => exact rfl); (case zc4 => exact rfl); k_whole; intro zg' zL' zh' zFG' zF' zN' zB' zX' zT'; (try dsimp only); (try k_lift zB'); (try k_fold)))) | fail
  k_with "my call type:range" => first | (((rename Fr _ _ _ _ => zF'); (rename News _ _ _ _ => zN'); first | (with_unfolding_all refine range1_rows zF' zN' ?_; intro _ _ _ _ _ _ _ _ _) | (with_unfolding_all refine range2_rows zF' zN' ?_; intro _ _ _ _ _ _ _ _ _))) | fail
  k_with "my eval ListComp" => first | ((k_here; k_dflt (refine LCg.ListComp_U (F₀ := by k_asm) (by with_unfolding_all rfl) (by decide) (by rfl) (by decide) (by rfl) ?_))) | fail
  k_with "my exec Assign cons ListComp" => first | ((k_here; k_dflt (refine LCg.Assign_ListComp_U (F₀ := by k_asm) (by rfl) (by with_unfolding_all rfl) (by with_unfolding_all rfl) (by decide) (by rfl) (by decide) (by rfl) (by rfl) (by rfl) ?_))) | fail
  k_with "my CompSrc" => first | (refine halt_of ?_) | fail
  k_with "my call ref" => first | (((with_reducible show wpAny _ _ (PySem.call (Value.ref 28) _ _) _ _ _); k_dflt (refine' sub_spec _ _ _ _ _ ?zp0 ?zp1 _ _ _ _ _ _ _ _ _ _ _ _ _ _ _ _ _ ?zq1 ?zq2 ?zq3 ?zq4 ?zq5 ?zq6 ?zq7 ?zq8 ?_); (case zp0 => assumption); (case zp1 => assumption); (case zq1 => k_asm); (case zq2 => k_asm); (case zq3 => k_asm); (case zq4 => k_asm); (case zq5 => k_asm); (case zq6 => first | exact rfl | assumption); (case zq7 => ktr_room); (case zq8 => ktr_units); rintro zv' zown' zh' ztk' ⟨⟨zt', ze1⟩, ze2⟩ zF' zN'; subst ze1; subst ze2; (try simp only [List.nil_append] at zN'); (try dsimp only); (try k_fold))) | fail
  k_with "my call ref" => first | (((with_reducible show wpAny _ _ (PySem.call (Value.ref 153) _ _) _ _ _); k_dflt (refine' ws_call _ _ _ _ ?zp0 ?zp1 _ _ _ _ _ _ _ _ _ _ _ _ _ _ _ _ _ ?zq1 ?zq2 ?zq3 ?zq4 ?zq5 ?zq6 ?zq7 ?zq8 ?_); (case zp0 => assumption); (case zp1 => first | omega | (simp only [List.length_drop, List.length_take]; omega)); (case zq1 => k_asm); (case zq2 => k_asm); (case zq3 => k_asm); (case zq4 => k_asm); (case zq5 => k_asm); (case zq6 => first | exact rfl | assumption); (case zq7 => ktr_room); (case zq8 => ktr_units); rintro zv' zown' zh' ztk' ⟨zx', zd', zT1', zT2', zvs', zk1', zk2', zk3', zk4', zk5', zt2', zt3', zt4', ze1, zhI', zl1', zl2', zl3', zl4', ze2⟩ zF' zN'; subst ze1; subst ze2; (try simp only [List.cons_append, List.nil_append] at zN'); (try dsimp only [wsD, tupO] at zN'); (try k_lt zl1'); (try simp only [List.nil_append] at zN'); (try dsimp only); (try k_fold))) | fail
  k_with "my call ref" => first | (((with_reducible show wpAny _ _ (PySem.call (Value.ref 169) _ _) _ _ _); k_dflt (refine' height_spec _ _ _ ?zp0 ?zp1 _ _ _ _ _ _ _ _ _ _ _ _ _ _ _ _ _ ?zq1 ?zq2 ?zq3 ?zq4 ?zq5 ?zq6 ?zq7 ?zq8 ?_); (case zp0 => first | omega | (simp only [List.length_append]; omega)); (case zp1 => first | omega | (simp only [List.length_append]; omega)); (case zq1 => k_asm); (case zq2 => k_asm); (case zq3 => k_asm); (case zq4 => k_asm); (case zq5 => k_asm); (case zq6 => first | exact rfl | assumption); (case zq7 => ktr_room); (case zq8 => ktr_units); rintro zv' zown' zh' ztk' ⟨⟨zt', ze1⟩, ze2⟩ zF' zN'; subst ze1; subst ze2; (try simp only [List.nil_append] at zN'); (try dsimp only); (try k_fold))) | fail
  k_with "my call ref" => first | (((with_reducible show wpAny _ _ (PySem.call (Value.ref 35) _ _) _ _ _); k_dflt (refine' lev_any _ _ _ _ _ _ _ _ ?zp0 ?zp1 ?zp2 ?zp3 ?zp4 ?zp5 ?zp6 ?zp7 _ _ _ _ _ _ _ _ _ _ _ _ _ _ _ _ _ ?zq1 ?zq2 ?zq3 ?zq4 ?zq5 ?zq6 ?zq7 ?zq8 ?_); (case zp0 => assumption); (case zp1 => assumption); (case zp2 => assumption); (case zp3 => assumption); (case zp4 => omega); (case zp5 => omega); (case zp6 => omega); (case zp7 => omega); (case zq1 => k_asm); (case zq2 => k_asm); (case zq3 => k_asm); (case zq4 => k_asm); (case zq5 => k_asm); (case zq6 => first | exact rfl | assumption); (case zq7 => ktr_room); (case zq8 => ktr_units); rintro zv' zown' zh' ztk' ⟨⟨zt', ze1⟩, ze2⟩ zF' zN'; subst ze1; subst ze2; (try simp only [List.nil_append] at zN'); (try dsimp only); (try k_fold))) | fail
  k_with "my call ref" => first | ((plain_pass; (with_reducible show wpAny _ _ (PySem.call (Value.ref 162) _ _) _ _ _); refine halt_of ?_)) | fail
  k_with "my lt" => first | assumption | exact And.left (by assumption) | exact And.left (And.right (by assumption)) | exact And.right (by assumption) | exact And.left (And.right (And.right (by assumption))) | exact And.right (And.right (by assumption)) | exact And.left (And.right (And.right (And.right (by assumption)))) | exact And.right (And.right (And.right (by assumption))) | exact And.left (And.right (And.right (And.right (And.right (by assumption))))) | exact And.right (And.right (And.right (And.right (by assumption)))) | exact And.left (And.right (And.right (And.right (And.right (And.right (by assumption)))))) | exact And.right (And.right (And.right (And.right (And.right (by assumption))))) | exact And.left (And.right (And.right (And.right (And.right (And.right (And.right (by assumption))))))) | exact And.right (And.right (And.right (And.right (And.right (And.right (by assumption)))))) | exact And.left (And.right (And.right (And.right (And.right (And.right (And.right (And.right (by assumption)))))))) | exact And.right (And.right (And.right (And.right (And.right (And.right (And.right (by assumption))))))) | exact And.left (And.right (And.right (And.right (And.right (And.right (And.right (And.right (And.right (by assumption))))))))) | exact And.right (And.right (And.right (And.right (And.right (And.right (And.right (And.right (by assumption)))))))) | fail
  k_with "my succ" => first | (first | exact Nat.lt_succ_self _ | exact Nat.lt_succ_of_lt (Nat.lt_succ_self _) | exact Nat.lt_succ_of_lt (Nat.lt_succ_of_lt (Nat.lt_succ_self _)) | exact Nat.lt_succ_of_lt (Nat.lt_succ_of_lt (Nat.lt_succ_of_lt (Nat.lt_succ_self _)))) | fail
  k_with "my omega" => with_reducible (first | assumption | decide | exact room0 (by assumption) | exact room1 (by assumption) rfl | exact room2 (by assumption) rfl | exact idx_nn _ | exact idx_ge _ _ | exact idx_lo _ | exact idx_lo' _ | exact idx_to _ | exact idx_one _ | exact idx_lt (by assumption) | exact idx_lt (lt_of_eq' (by assumption) (by assumption)) | exact idx_hi (by assumption) rfl | exact idx_hi2 (by assumption) (by assumption) rfl | exact nn_neg _ _ | exact Int.natCast_nonneg _ | exact cast_hi (by assumption) rfl | exact cast_hi2 (by assumption) (by assumption) rfl | exact cast_hi3 (by assumption) (by assumption) rfl | exact ng_lt _ _ | exact ng_hi _ | exact ng_ge (by assumption) | exact ng_lo (by assumption) rfl | exact ng_lo0 (by assumption) | exact ng_neg (by assumption) | exact ng_ne (by assumption) | exact cast_ne (by assumption) | exact cast_ne' (by assumption) (by assumption) | exact not_big (by assumption) (by assumption) rfl | exact slc_lt (by assumption) (by assumption) | exact slc_hi (by assumption) (by assumption) (by assumption) rfl | exact ix_pos (by assumption) | exact ix_ne (by assumption) | exact ix_add (by assumption) | exact le_add' _ _ | exact imp_ne (by assumption) (by assumption) | exact Nat.lt_succ_self _ | exact Nat.le_succ_of_le (by assumption) | exact le_big (by assumption) rfl | exact le_big' (by assumption) (by assumption) rfl | exact pos_of (by assumption) (by assumption) | exact lt_of_eq' (by assumption) (by assumption) | exact int_pos (by assumption) | exact eq_of (by assumption) (by assumption) | exact Ne.symm (by assumption) | (refine Nat.ne_of_gt ?_; k_extra "my lt") | (refine Nat.ne_of_lt ?_; k_extra "my lt") | (refine Nat.ne_of_gt ?_; k_extra "my succ") | (refine Nat.ne_of_lt ?_; k_extra "my succ") | exact Int.le_trans (by assumption) (by decide) | exact Int.lt_of_le_of_lt (by assumption) (by decide) | exact Int.lt_of_lt_of_le (by decide) (by assumption) | exact Nat.le_trans (Nat.le_of_lt (by assumption)) (Nat.le_of_ble_eq_true rfl) | exact Int.ofNat_le.mpr (Nat.le_trans (by assumption) (Nat.le_of_ble_eq_true rfl)) | fail)
  trivial
noncomputable def hkStep (l : List Nat) (i : Nat) (hs : List Int) (k : Nat) : List Int := if l.getD i 0 = 32 ∧ l.getD (i + 1 + k) 0 = 9 then hs ++ [(wsW ((l.drop i).take (1 + k))).1] else hs
noncomputable def hkRow (l : List Nat) (hs : List Int) (i : Nat) : List Int := (List.range (4 - i)).foldl (hkStep l i) hs
noncomputable def hooksF (l : List Nat) : List Int := (List.range 5).foldl (hkRow l) []
theorem hkStep_len (l : List Nat) (i : Nat) (hs : List Int) (k : Nat) : (hkStep l i hs k).length ≤ hs.length + 1 := by
  unfold hkStep; split <;> simp
theorem hooks_spec {w : World} {mean mg mb} (l : List Nat) (t : Tok) (news) (h5 : 5 ≤ l.length) (h2 : l.length ≤ 20) :
   Spec w mean mg mb 190 5 35 [Value.str (mkS l) t] news (fun v own => ∃ (H : Addr) (vs : List Value) (k : Nat), v = .ref H ∧ own = [(H, listOf vs.toArray k)] ∧ IntsAre vs (hooksF l) ∧ ∀ q ∈ news, q.1 < H) := by
  dsimp only [Spec]
  intros; rename_i hret
  refine wpAny_call ?_
  k_dflt cell_enter
  k_steps
  refine Halt.out ?_
  k_sweep
  rename Fr _ _ _ _ => F
  rename News _ _ _ _ => N
  rename IsRange _ _ _ _ _ _ _ _ => R
  have hsz : (mkS l).length = l.length := mkS_length l
  rename (∀ p ∈ news, p.1 < _) => l1
  refine fr_let F ?_
  clear F
  intro MF1 F
  refine loop_range (n := 5) (by rfl) R (by decide) (by rfl) (by assumption) (by assumption)
    (fun M nw i m₁ l' => ∃ (H : Addr) (o : Obj) (vs : List Value) (kk : Nat), (H, o) :: news = nw ∧ l' = (H, listOf vs.toArray kk) :: news ∧ IntsAre vs ((List.range i).foldl (hkRow l) []) ∧ ((List.range i).foldl (hkRow l) []).length ≤ 5 * i ∧ ∀ z, z ≠ Str.ofString "i" → z ≠ Str.ofString "j" → m₁ z = M z) ?_ ?_ ?_
  · exact ⟨_, _, [], _, rfl, rfl, IntsAre.nil, by simp, fun z _ _ => rfl⟩
  · rintro I it i t m₁ news₁ h tk hi ⟨H, o, vs, kk, eH, rfl, hI, hlen, hm⟩ ho F' N'
    clear F N R
    injection eH with eH _
    injection eH with eH _
    subst eH
    rw [frm0_2 hm] at F'
    k_fold
    clear hm
    k_steps
    refine Halt.out ?_
    k_sweep
    rename Fr _ _ _ _ => F
    rename News _ _ _ _ => N
    rename IsRange _ _ _ _ _ _ _ _ => R
    have hn1 : @Ne Nat H I := fun e => ho _ (List.mem_cons_self ..) e
    have hit : Txt.item (mkS l) (0 + (i : Int) * 1) = mkS [l.getD i 0] := item_at (by omega)
    refine fr_let F ?_
    clear F
    intro MF2 F
    refine loop_range (n := 4 - i) (by rfl) R ?_ ?_ (by assumption) (by assumption)
      (fun M nw k m₁ l' => ∃ (vs : List Value) (kk : Nat), l' = (I, it) :: (H, listOf vs.toArray kk) :: news ∧ IntsAre vs ((List.range k).foldl (hkStep l i) ((List.range i).foldl (hkRow l) [])) ∧ ((List.range k).foldl (hkStep l i) ((List.range i).foldl (hkRow l) [])).length ≤ 5 * i + k ∧ ∀ z, z ≠ Str.ofString "j" → m₁ z = M z) ?_ ?_ ?_
    · obtain rfl | rfl | rfl | rfl | rfl : i = 0 ∨ i = 1 ∨ i = 2 ∨ i = 3 ∨ i = 4 := by omega
      all_goals decide +kernel
    · obtain rfl | rfl | rfl | rfl | rfl : i = 0 ∨ i = 1 ∨ i = 2 ∨ i = 3 ∨ i = 4 := by omega
      all_goals decide +kernel
    · exact ⟨vs, kk, rfl, hI, by simpa using hlen, fun z _ => rfl⟩
    · rintro I2 it2 k t m₁ news₂ h tk hk ⟨vs, kk, rfl, hI, hlen, hm⟩ ho2 F' N'
      rw [frm0_1 hm] at F'
      k_fold
      clear F N R hm
      have hn2 : @Ne Nat H I2 := fun e => ho2 _ (List.mem_cons_of_mem _ (List.mem_cons_self ..)) e
      have hjt : Txt.item (mkS l) (0 + (i : Int) * 1 + 1 + (k : Int) * 1) = mkS [l.getD (i + 1 + k) 0] := by
        rw [← item_at (by omega)]
        congr 1
        omega
      have hsl : Txt.slice (mkS l) (some (0 + (i : Int) * 1)) (some (0 + (i : Int) * 1 + 1 + (k : Int) * 1)) = mkS ((l.drop i).take (1 + k)) := by
        rw [slice_two (by omega) (by omega) (by omega)]
        congr 2
        · omega
        · congr 1; omega
      k_steps
      · rename ((Txt.item _ (0 + (i : Int) * 1) == _) = true) => q1
        rename ((Txt.item _ (0 + (i : Int) * 1 + 1 + (k : Int) * 1) == _) = true) => q2
        rw [hit, mkS_blank, mkS_beq, beq_iff_eq] at q1
        rw [hjt, mkS_tab, mkS_beq, beq_iff_eq] at q2
        rename News _ _ _ _ => NN
        rw [List.push_toArray] at NN
        have e1 : hkStep l i ((List.range k).foldl (hkStep l i) ((List.range i).foldl (hkRow l) [])) k = (List.range k).foldl (hkStep l i) ((List.range i).foldl (hkRow l) []) ++ [(wsW ((l.drop i).take (1 + k))).1] := by
          rw [hkStep, if_pos ⟨by simpa using q1, by simpa using q2⟩]
        refine TurnEnd.intro (by assumption) NN ((I, it) :: (H, listOf _ (kk + 1)) :: news) (by repeat first | exact List.mem_cons_self .. | refine List.mem_cons_of_mem _ ?_) (by intro p hp; repeat first | exact hp | refine List.mem_cons_of_mem _ ?_) (off_set ho2) ⟨_, _, rfl, ?_, ?_, by intro z h1; simp only [h1, if_false]⟩
        · rw [List.range_succ, List.foldl_append]
          show IntsAre _ (hkStep l i _ k)
          rw [e1]
          exact IntsAre.append hI (IntsAre.cons _ _ IntsAre.nil)
        · rw [List.range_succ, List.foldl_append]
          have := hkStep_len l i ((List.range k).foldl (hkStep l i) ((List.range i).foldl (hkRow l) [])) k
          show (hkStep l i _ k).length ≤ _
          omega
      · rename ((Txt.item _ (0 + (i : Int) * 1 + 1 + (k : Int) * 1) == _) = false) => q2
        rw [hjt, mkS_tab, mkS_beq] at q2
        have e1 : hkStep l i ((List.range k).foldl (hkStep l i) ((List.range i).foldl (hkRow l) [])) k = (List.range k).foldl (hkStep l i) ((List.range i).foldl (hkRow l) []) := by
          rw [hkStep, if_neg (by intro h; simp at q2; exact q2 h.2)]
        refine TurnEnd.intro (by assumption) (by assumption) ((I, it) :: (H, listOf _ kk) :: news) (by repeat first | exact List.mem_cons_self .. | refine List.mem_cons_of_mem _ ?_) (by intro p hp; repeat first | exact hp | refine List.mem_cons_of_mem _ ?_) ho2 ⟨_, _, rfl, ?_, ?_, by intro z h1; simp only [h1, if_false]⟩
        · rw [List.range_succ, List.foldl_append]
          show IntsAre _ (hkStep l i _ k)
          rw [e1]
          exact hI
        · rw [List.range_succ, List.foldl_append]
          show (hkStep l i _ k).length ≤ _
          rw [e1]; omega
      · rename ((Txt.item _ (0 + (i : Int) * 1) == _) = false) => q1
        rw [hit, mkS_blank, mkS_beq] at q1
        have e1 : hkStep l i ((List.range k).foldl (hkStep l i) ((List.range i).foldl (hkRow l) [])) k = (List.range k).foldl (hkStep l i) ((List.range i).foldl (hkRow l) []) := by
          rw [hkStep, if_neg (by intro h; simp at q1; exact q1 h.1)]
        refine TurnEnd.intro (by assumption) (by assumption) ((I, it) :: (H, listOf _ kk) :: news) (by repeat first | exact List.mem_cons_self .. | refine List.mem_cons_of_mem _ ?_) (by intro p hp; repeat first | exact hp | refine List.mem_cons_of_mem _ ?_) ho2 ⟨_, _, rfl, ?_, ?_, by intro z h1; simp only [h1, if_false]⟩
        · rw [List.range_succ, List.foldl_append]
          show IntsAre _ (hkStep l i _ k)
          rw [e1]
          exact hI
        · rw [List.range_succ, List.foldl_append]
          show (hkStep l i _ k).length ≤ _
          rw [e1]; omega
    · rintro h tk m₁ news₂ ⟨vs, kk, rfl, hI, hlen, hm⟩ F' N'
      rw [frm0_1 hm] at F'
      clear F N R hm
      dsimp only
      k_steps
      refine TurnEnd.intro (by assumption) (by assumption) ((H, listOf _ kk) :: news) (by repeat first | exact List.mem_cons_self .. | refine List.mem_cons_of_mem _ ?_) (by intro p hp; repeat first | exact hp | refine List.mem_cons_of_mem _ ?_) (off_one ho) ⟨H, _, _, _, rfl, rfl, ?_, ?_, by intro z h1 h2; simp only [MF2, h1, h2, if_false]⟩
      · rw [List.range_succ, List.foldl_append]; exact hI
      · rw [List.range_succ, List.foldl_append]
        show (hkRow l _ i).length ≤ _
        rw [hkRow]; omega
  · rintro h tk m₁ news₁ ⟨H, o, vs, kk, eH, rfl, hI, hlen, hm⟩ F' N'
    rw [frm0_2 hm] at F'
    clear F N R hm
    injection eH with eH _
    injection eH with eH _
    subst eH
    dsimp only
    k_steps
    exact hret _ _ _ _ ⟨H, vs, kk, rfl, rfl, hI, l1⟩ (by assumption) (by assumption)
end
-- part 07_leads
section
example : True := by
  k_with_none
  k_with "my exec For Name Call cons nil" => first | ((k_here; (rename Fr _ _ _ _ => zlF'); (with_unfolding_all refine' For_invVF zlF' ?zk1 ?zk2 ?_; (case zk1 => exact rfl); (case zk2 => exact rfl); k_whole))) | fail
  k_with "my exec For Name Name cons nil" => first | ((k_here; (rename Fr _ _ _ _ => zlF'); (with_unfolding_all refine' For_invVF zlF' ?zk1 ?zk2 ?_; (case zk1 => exact rfl); (case zk2 => exact rfl); k_whole))) | fail
  k_with "my exec For Name Attribute cons nil" => first | ((k_here; (rename Fr _ _ _ _ => zlF'); (with_unfolding_all refine' For_invVF zlF' ?zk1 ?zk2 ?_; (case zk1 => exact rfl); (case zk2 => exact rfl); k_whole))) | fail
  k_with "my exec For Name Subscript cons nil" => first | ((k_here; (rename Fr _ _ _ _ => zlF'); (with_unfolding_all refine' For_invVF zlF' ?zk1 ?zk2 ?_; (case zk1 => exact rfl); (case zk2 => exact rfl); k_whole))) | fail
  k_with "my pyIter ref" => first | (((with_reducible show wpAny _ _ (pyIter (Value.ref _)) (fun it s₂ => LoopAtV _ _ _ _ _ _ _ _ _ it s₂) _ _); refine halt_of ?_)) | fail
  k_with "my pyIter str" => first | (((with_reducible show wpAny _ _ (pyIter (Value.str _ _)) (fun it s₂ => LoopAtV _ _ _ _ _ _ _ _ _ it s₂) _ _); refine halt_of ?_)) | fail
  k_with "my exec While BoolOp cons nil" => first | (refine halt_of ?_) | fail
  k_with "my exec While Compare cons nil" => first | (refine halt_of ?_) | fail
  k_with "my subscriptTail Name Slice str ref" => first | (((with_reducible show wpAny _ _ (subscriptTail _ (Expr.Slice none (some _) none _) _ _) _ _ _); (with_reducible rename Fr _ _ _ _ => zF'); (with_reducible rename News _ _ _ _ => zN'); (refine slice_strN_nn_len (hsz := ?zhsz) (s := ⟨_, _, _, _, _⟩) zF' zN' ?_); (case zhsz => size_fits); intro _ _ _ _ _ _)) | fail
  k_with "my ite" => first | (first | ((with_reducible show ite ((_ != (0 : Int)) = true) _ _); k_dflt (first | refine ite_bne_t (by omega) ?_ | refine ite_bne_f (by omega) ?_)) | ((with_reducible show ite ((!(_ != (0 : Int))) = true) _ _); k_dflt (first | refine ite_nbne_t (by omega) ?_ | refine ite_nbne_f (by omega) ?_)) | ((with_reducible show ite (decide _ = true) _ _); k_dflt (first | refine ite_dec_t (by omega) ?_ | refine ite_dec_f (by omega) ?_))) | fail
  k_with "my call type:list" => first | (((with_reducible show wpAny _ _ (call (Value.type _) [Value.ref _]) _ _ _); refine halt_of ?_)) | fail
  k_with "my setItem ref int" => first | ((k_here; (with_reducible show wpAny _ _ (setItem (Value.ref _) (Value.int _ _) (Value.int _ _)) _ _ _); k_dflt (refine' ksa_set ?zk1 ?zk2 ?zk3 ?zk4 ?zk5 ?zk6 ?zk7 ?_; (case zk1 => k_asm); (case zk2 => k_asm); (case zk3 => (repeat (first | exact Upd.head (by assumption) | refine Upd.tail (by assumption) ?_))); (case zk4 => with_reducible assumption); (case zk5 => ksa_idx); (case zk6 => ksa_idx); (case zk7 => ksa_idx); k_whole); intro zh' zF' zN' zhi' zhl' zhs'; (try k_sweep))) | fail
  k_with "my k_all" => first | (first | assumption | exact lt_ne (by assumption) | exact allLt_ne (by first | assumption | exact And.right (by assumption) | exact And.right (And.right (by assumption)) | exact And.right (And.right (And.right (by assumption))) | exact And.right (And.right (And.right (And.right (by assumption)))) | exact And.right (And.right (And.right (And.right (And.right (by assumption))))) | exact And.right (And.right (And.right (And.right (And.right (And.right (by assumption)))))) | exact And.right (And.right (And.right (And.right (And.right (And.right (And.right (by assumption))))))))) | fail
  k_with "my call type:tuple" => first | ((k_here; (with_reducible show wpAny _ _ (call (Value.type _) [Value.ref _]) _ _ _); k_dflt (refine' kde_tupleOf ?zk1 ?zk2 ?zk3 ?zk4 ?zk5 ?_; (case zk1 => k_asm); (case zk2 => k_asm); (case zk3 => exact News.isList (by k_asm) (by k_mem)); (case zk4 => exact sz_ints (by assumption) (by omega)); (case zk5 => rfl); k_whole); intro zD' zh' zF' zN' zl1; (try k_lt zl1); (try k_sweep))) | fail
  k_with "my call ref" => first | ((plain_pass; k_here; (refine wpAny_call ?_); k_dflt (refine' code_def ?zk1 ?zk2 ?zk3 ?zk4 ?zk5 ?zkA ?zkF ?zkK ?zk6 ?zk7 ?zk8 ?zk9 ?zkB ?_ ?zc2 ?zc3 ?zc4 ?zc5; (case zkA => exact rfl); (case zkF => exact rfl); (case zkK => first | exact rfl | assumption); (case zk1 => k_asm); (case zk2 => k_asm); (case zk3 => k_asm); (case zk4 => k_asm); (case zk5 => k_asm); (case zk6 => k_is); (case zk7 => k_is); (case zk8 => ktr_room); (case zk9 => exact BindsTo.of_eq rfl); (case zc5 => decide); (case zkB => exact locs rfl); (case zc2 => exact rfl); (case zc3 => exact rfl); (case zc4 => exact rfl); k_whole; intro zg' zL' zh' zFG' zF' zN' zB' zX' zT'; (try dsimp only); (try k_lift zB'); (try k_fold)))) | fail
  k_with "my call type:range" => first | (((rename Fr _ _ _ _ => zF'); (rename News _ _ _ _ => zN'); first | (with_unfolding_all refine range1_rows zF' zN' ?_; intro _ _ _ _ _ _ _ _ _) | (with_unfolding_all refine range2_rows zF' zN' ?_; intro _ _ _ _ _ _ _ _ _))) | fail
  k_with "my eval ListComp" => first | ((k_here; k_dflt (refine LCg.ListComp_U (F₀ := by k_asm) (by with_unfolding_all rfl) (by decide) (by rfl) (by decide) (by rfl) ?_))) | fail
  k_with "my exec Assign cons ListComp" => first | ((k_here; k_dflt (refine LCg.Assign_ListComp_U (F₀ := by k_asm) (by rfl) (by with_unfolding_all rfl) (by with_unfolding_all rfl) (by decide) (by rfl) (by decide) (by rfl) (by rfl) (by rfl) ?_))) | fail
  k_with "my CompSrc" => first | (refine halt_of ?_) | fail
  k_with "my call ref" => first | (((with_reducible show wpAny _ _ (PySem.call (Value.ref 28) _ _) _ _ _); k_dflt (refine' sub_spec _ _ _ _ _ ?zp0 ?zp1 _ _ _ _ _ _ _ _ _ _ _ _ _ _ _ _ _ ?zq1 ?zq2 ?zq3 ?zq4 ?zq5 ?zq6 ?zq7 ?zq8 ?_); (case zp0 => assumption); (case zp1 => assumption); (case zq1 => k_asm); (case zq2 => k_asm); (case zq3 => k_asm); (case zq4 => k_asm); (case zq5 => k_asm); (case zq6 => first | exact rfl | assumption); (case zq7 => ktr_room); (case zq8 => ktr_units); rintro zv' zown' zh' ztk' ⟨⟨zt', ze1⟩, ze2⟩ zF' zN'; subst ze1; subst ze2; (try simp only [List.nil_append] at zN'); (try dsimp only); (try k_fold))) | fail
  k_with "my call ref" => first | (((with_reducible show wpAny _ _ (PySem.call (Value.ref 153) _ _) _ _ _); k_dflt (refine' ws_call _ _ _ _ ?zp0 ?zp1 _ _ _ _ _ _ _ _ _ _ _ _ _ _ _ _ _ ?zq1 ?zq2 ?zq3 ?zq4 ?zq5 ?zq6 ?zq7 ?zq8 ?_); (case zp0 => assumption); (case zp1 => first | omega | (simp only [List.length_drop, List.length_take]; omega)); (case zq1 => k_asm); (case zq2 => k_asm); (case zq3 => k_asm); (case zq4 => k_asm); (case zq5 => k_asm); (case zq6 => first | exact rfl | assumption); (case zq7 => ktr_room); (case zq8 => ktr_units); rintro zv' zown' zh' ztk' ⟨zx', zd', zT1', zT2', zvs', zk1', zk2', zk3', zk4', zk5', zt2', zt3', zt4', ze1, zhI', zl1', zl2', zl3', zl4', ze2⟩ zF' zN'; subst ze1; subst ze2; (try simp only [List.cons_append, List.nil_append] at zN'); (try dsimp only [wsD, tupO] at zN'); (try k_lt zl1'); (try simp only [List.nil_append] at zN'); (try dsimp only); (try k_fold))) | fail
  k_with "my call ref" => first | (((with_reducible show wpAny _ _ (PySem.call (Value.ref 169) _ _) _ _ _); k_dflt (refine' height_spec _ _ _ ?zp0 ?zp1 _ _ _ _ _ _ _ _ _ _ _ _ _ _ _ _ _ ?zq1 ?zq2 ?zq3 ?zq4 ?zq5 ?zq6 ?zq7 ?zq8 ?_); (case zp0 => first | omega | (simp only [List.length_append]; omega)); (case zp1 => first | omega | (simp only [List.length_append]; omega)); (case zq1 => k_asm); (case zq2 => k_asm); (case zq3 => k_asm); (case zq4 => k_asm); (case zq5 => k_asm); (case zq6 => first | exact rfl | assumption); (case zq7 => ktr_room); (case zq8 => ktr_units); rintro zv' zown' zh' ztk' ⟨⟨zt', ze1⟩, ze2⟩ zF' zN'; subst ze1; subst ze2; (try simp only [List.nil_append] at zN'); (try dsimp only); (try k_fold))) | fail
  k_with "my call ref" => first | (((with_reducible show wpAny _ _ (PySem.call (Value.ref 35) _ _) _ _ _); k_dflt (refine' lev_any _ _ _ _ _ _ _ _ ?zp0 ?zp1 ?zp2 ?zp3 ?zp4 ?zp5 ?zp6 ?zp7 _ _ _ _ _ _ _ _ _ _ _ _ _ _ _ _ _ ?zq1 ?zq2 ?zq3 ?zq4 ?zq5 ?zq6 ?zq7 ?zq8 ?_); (case zp0 => assumption); (case zp1 => assumption); (case zp2 => assumption); (case zp3 => assumption); (case zp4 => omega); (case zp5 => omega); (case zp6 => omega); (case zp7 => omega); (case zq1 => k_asm); (case zq2 => k_asm); (case zq3 => k_asm); (case zq4 => k_asm); (case zq5 => k_asm); (case zq6 => first | exact rfl | assumption); (case zq7 => ktr_room); (case zq8 => ktr_units); rintro zv' zown' zh' ztk' ⟨⟨zt', ze1⟩, ze2⟩ zF' zN'; subst ze1; subst ze2; (try simp only [List.nil_append] at zN'); (try dsimp only); (try k_fold))) | fail
  k_with "my call ref" => first | ((plain_pass; (with_reducible show wpAny _ _ (PySem.call (Value.ref 162) _ _) _ _ _); refine halt_of ?_)) | fail
  k_with "my lt" => first | assumption | exact And.left (by assumption) | exact And.left (And.right (by assumption)) | exact And.right (by assumption) | exact And.left (And.right (And.right (by assumption))) | exact And.right (And.right (by assumption)) | exact And.left (And.right (And.right (And.right (by assumption)))) | exact And.right (And.right (And.right (by assumption))) | exact And.left (And.right (And.right (And.right (And.right (by assumption))))) | exact And.right (And.right (And.right (And.right (by assumption)))) | exact And.left (And.right (And.right (And.right (And.right (And.right (by assumption)))))) | exact And.right (And.right (And.right (And.right (And.right (by assumption))))) | exact And.left (And.right (And.right (And.right (And.right (And.right (And.right (by assumption))))))) | exact And.right (And.right (And.right (And.right (And.right (And.right (by assumption)))))) | exact And.left (And.right (And.right (And.right (And.right (And.right (And.right (And.right (by assumption)))))))) | exact And.right (And.right (And.right (And.right (And.right (And.right (And.right (by assumption))))))) | exact And.left (And.right (And.right (And.right (And.right (And.right (And.right (And.right (And.right (by assumption))))))))) | exact And.right (And.right (And.right (And.right (And.right (And.right (And.right (And.right (by assumption)))))))) | fail
  k_with "my succ" => first | (first | exact Nat.lt_succ_self _ | exact Nat.lt_succ_of_lt (Nat.lt_succ_self _) | exact Nat.lt_succ_of_lt (Nat.lt_succ_of_lt (Nat.lt_succ_self _)) | exact Nat.lt_succ_of_lt (Nat.lt_succ_of_lt (Nat.lt_succ_of_lt (Nat.lt_succ_self _)))) | fail
  k_with "my omega" => with_reducible (first | assumption | decide | exact room0 (by assumption) | exact room1 (by assumption) rfl | exact room2 (by assumption) rfl | exact idx_nn _ | exact idx_ge _ _ | exact idx_lo _ | exact idx_lo' _ | exact idx_to _ | exact idx_one _ | exact idx_lt (by assumption) | exact idx_lt (lt_of_eq' (by assumption) (by assumption)) | exact idx_hi (by assumption) rfl | exact idx_hi2 (by assumption) (by assumption) rfl | exact nn_neg _ _ | exact Int.natCast_nonneg _ | exact cast_hi (by assumption) rfl | exact cast_hi2 (by assumption) (by assumption) rfl | exact cast_hi3 (by assumption) (by assumption) rfl | exact ng_lt _ _ | exact ng_hi _ | exact ng_ge (by assumption) | exact ng_lo (by assumption) rfl | exact ng_lo0 (by assumption) | exact ng_neg (by assumption) | exact ng_ne (by assumption) | exact cast_ne (by assumption) | exact cast_ne' (by assumption) (by assumption) | exact not_big (by assumption) (by assumption) rfl | exact slc_lt (by assumption) (by assumption) | exact slc_hi (by assumption) (by assumption) (by assumption) rfl | exact ix_pos (by assumption) | exact ix_ne (by assumption) | exact ix_add (by assumption) | exact le_add' _ _ | exact imp_ne (by assumption) (by assumption) | exact Nat.lt_succ_self _ | exact Nat.le_succ_of_le (by assumption) | exact le_big (by assumption) rfl | exact le_big' (by assumption) (by assumption) rfl | exact pos_of (by assumption) (by assumption) | exact lt_of_eq' (by assumption) (by assumption) | exact int_pos (by assumption) | exact eq_of (by assumption) (by assumption) | exact Ne.symm (by assumption) | (refine Nat.ne_of_gt ?_; k_extra "my lt") | (refine Nat.ne_of_lt ?_; k_extra "my lt") | (refine Nat.ne_of_gt ?_; k_extra "my succ") | (refine Nat.ne_of_lt ?_; k_extra "my succ") | exact Int.le_trans (by assumption) (by decide) | exact Int.lt_of_le_of_lt (by assumption) (by decide) | exact Int.lt_of_lt_of_le (by decide) (by assumption) | exact Nat.le_trans (Nat.le_of_lt (by assumption)) (Nat.le_of_ble_eq_true rfl) | exact Int.ofNat_le.mpr (Nat.le_trans (by assumption) (Nat.le_of_ble_eq_true rfl)) | fail)
  trivial
noncomputable def leads : Nat → Nat → List (List Nat)
  | 0, t => [List.replicate t 9]
  | b + 1, 0 => [List.replicate (b + 1) 32]
  | b + 1, t + 1 => (leads b (t + 1)).map (32 :: ·) ++ (leads (b + 1) t).map (9 :: ·)
noncomputable abbrev leadsR (b t : Nat) (news : List (Addr × Obj)) (v : Value) (own : List (Addr × Obj)) : Prop :=
  ∃ (H : Addr) (vs : List Value) (k : Nat), v = .ref H ∧ own = [(H, listOf vs.toArray k)] ∧ StrsAre vs ((leads b t).map mkS) ∧ ∀ q ∈ news, q.1 < H
noncomputable def LeadsIH (w : World) (mean : ExcName → Option Value) (mg mb : Str → Option Value) (n : Nat) : Prop :=
  ∀ (b t : Nat) (tb tt : Tok) (news : List (Addr × Obj)), b + t < n → Spec w mean mg mb 162 (3 * (b + t) + 3) (10 * (b + t) + 20) [Value.int b tb, Value.int t tt] news (leadsR b t news)
theorem leads_use {w : World} {mean mg mb} {n : Nat} (IH : LeadsIH w mean mg mb n) (i j : Int) (b t : Nat) (tb tt : Tok) (news : List (Addr × Obj)) (ei : i = b) (ej : j = t) (h : b + t < n) :
    Spec w mean mg mb 162 (3 * (b + t) + 3) (10 * (b + t) + 20) [Value.int i tb, Value.int j tt] news (leadsR b t news) := by
  subst ei; subst ej
  exact IH b t tb tt news h
theorem leads_len : ∀ (b t : Nat), ∀ x ∈ leads b t, x.length = b + t
  | 0, t, x, h => by simp [leads] at h; simp [h]
  | b + 1, 0, x, h => by simp [leads] at h; simp [h]
  | b + 1, t + 1, x, h => by
    simp only [leads, List.mem_append, List.mem_map] at h
    rcases h with ⟨y, hy, rfl⟩ | ⟨y, hy, rfl⟩
    · have := leads_len b (t + 1) y hy
      simp; omega
    · have := leads_len (b + 1) t y hy
      simp; omega
theorem leads_count : ∀ (b t : Nat), (leads b t).length ≤ 2 ^ (b + t)
  | 0, t => by simp [leads, Nat.one_le_two_pow]
  | b + 1, 0 => by simp [leads, Nat.one_le_two_pow]
  | b + 1, t + 1 => by
    have h1 := leads_count b (t + 1)
    have h2 := leads_count (b + 1) t
    simp only [leads, List.length_append, List.length_map]
    have e1 : b + (t + 1) = b + 1 + t := by omega
    have e2 : b + 1 + (t + 1) = (b + 1 + t) + 1 := by omega
    rw [e1] at h1
    rw [e2, Nat.pow_succ]
    omega
theorem leads_spec {w : World} {mean mg mb} (n : Nat) (hn : n ≤ 6) : LeadsIH w mean mg mb n := by
  induction n with
  | zero => intro b t tb tt news h; omega
  | succ n IH =>
    have IH := IH (by omega)
    intro b t tb tt news h
    dsimp only [Spec]
    intros; rename_i hret
    refine wpAny_call ?_
    k_dflt cell_enter
    k_steps
    · refine hret _ _ _ _ ⟨_, [_], _, rfl, rfl, ?_, by assumption⟩ (by assumption) (by assumption)
      obtain rfl : b = 0 := by omega
      rw [leads, mkS_blank, mkS_tab, mul_mkS, mul_mkS, mkS_append]
      exact .cons _ _ .nil
    · refine hret _ _ _ _ ⟨_, [_], _, rfl, rfl, ?_, by assumption⟩ (by assumption) (by assumption)
      obtain ⟨b', rfl⟩ : ∃ b', b = b' + 1 := ⟨b - 1, by omega⟩
      obtain rfl : t = 0 := by omega
      rw [leads, mkS_blank, mkS_tab, mul_mkS, mul_mkS, mkS_append, List.replicate_zero, List.append_nil]
      exact .cons _ _ .nil
    · refine Halt.out ?_
      obtain ⟨b', rfl⟩ : ∃ b', b = b' + 1 := ⟨b - 1, by omega⟩
      obtain ⟨t', rfl⟩ : ∃ t', t = t' + 1 := ⟨t - 1, by omega⟩
      k_dflt (refine' leads_use IH _ _ b' (t' + 1) _ _ _ ?e1 ?e2 ?e3 _ _ _ _ _ _ _ _ _ _ _ _ _ _ _ _ _ ?q1 ?q2 ?q3 ?q4 ?q5 ?q6 ?q7 ?q8 ?_)
      (case e1 => omega)
      (case e2 => omega)
      (case e3 => omega)
      (case q1 => k_asm)
      (case q2 => k_asm)
      (case q3 => k_asm)
      (case q4 => k_asm)
      (case q5 => k_asm)
      (case q6 => exact rfl)
      (case q7 => ktr_room)
      (case q8 => ktr_units)
      rintro v' own' h' tk' ⟨H1, vs1, k1, rfl, rfl, hS1, hl1⟩ F' N'
      simp only [List.cons_append, List.nil_append] at N'
      dsimp only
      k_steps
      refine Halt.out ?_
      k_sweep
      rename Fr _ _ _ _ => F
      rename News _ _ _ _ => N
      have hc1 := leads_count b' (t' + 1)
      have hp1 : 2 ^ (b' + (t' + 1)) ≤ 2 ^ 5 := Nat.pow_le_pow_right (by omega) (by omega)
      have hv1 : vs1.length = (leads b' (t' + 1)).length := by rw [hS1.length, List.length_map]
      refine LCg.CompSrc.ledger (by rfl) F N (List.mem_cons_self ..) (by rw [List.size_toArray, sizeLine_eq]; omega) ?_
      intro g
      refine comp_rest (fun i y => ∃ (x : List Nat) (t : Tok), (leads b' (t' + 1))[i]? = some x ∧ y = Value.str (mkS (32 :: x)) t) (.inr ⟨_, List.mem_cons_self .., rfl, _, rfl⟩) ?_ ?_
      · intro i v I oI C oC D m₂ ys h tk E' hi hv hC hx F' N' off ne
        obtain ⟨x, tx, hx1, rfl⟩ := strs_at hS1 hv
        rw [List.getElem?_map] at hx1
        obtain ⟨x', hx', rfl⟩ := Option.map_eq_some_iff.mp hx1
        have hlen : (mkS x').length = b' + (t' + 1) := by rw [mkS_length]; exact leads_len _ _ _ (List.mem_of_getElem? hx')
        k_steps
        exact ElPost.intro (by assumption) (by assumption) (fun p hp => hp) ⟨x', _, hx', by rw [mkS_blank, mkS_append]; rfl⟩
      · intro ys hl hY D h tk F' N' off1
        k_steps
        refine Halt.out ?_
        k_dflt (refine' leads_use IH _ _ (b' + 1) t' _ _ _ ?e1 ?e2 ?e3 _ _ _ _ _ _ _ _ _ _ _ _ _ _ _ _ _ ?q1 ?q2 ?q3 ?q4 ?q5 ?q6 ?q7 ?q8 ?_)
        (case e1 => omega)
        (case e2 => omega)
        (case e3 => omega)
        (case q1 => k_asm)
        (case q2 => k_asm)
        (case q3 => k_asm)
        (case q4 => k_asm)
        (case q5 => k_asm)
        (case q6 => exact rfl)
        (case q7 => ktr_room)
        (case q8 => ktr_units)
        rintro v' own' h' tk' ⟨H2, vs2, k2, rfl, rfl, hS2, hl2⟩ F' N'
        simp only [List.cons_append, List.nil_append] at N'
        dsimp only
        k_steps
        refine Halt.out ?_
        k_sweep
        rename Fr _ _ _ _ => F
        rename News _ _ _ _ => N
        have hc2 := leads_count (b' + 1) t'
        have hp2 : 2 ^ (b' + 1 + t') ≤ 2 ^ 5 := Nat.pow_le_pow_right (by omega) (by omega)
        have hv2 : vs2.length = (leads (b' + 1) t').length := by rw [hS2.length, List.length_map]
        refine LCg.CompSrc.ledger (by rfl) F N (List.mem_cons_self ..) (by rw [List.size_toArray, sizeLine_eq]; omega) ?_
        intro g
        refine comp_rest (fun i y => ∃ (x : List Nat) (t : Tok), (leads (b' + 1) t')[i]? = some x ∧ y = Value.str (mkS (9 :: x)) t) (.inr ⟨_, List.mem_cons_self .., rfl, _, rfl⟩) ?_ ?_
        · intro i v I oI C oC D m₂ ys h tk E' hi hv hC hx F' N' off ne
          obtain ⟨x, tx, hx1, rfl⟩ := strs_at hS2 hv
          rw [List.getElem?_map] at hx1
          obtain ⟨x', hx', rfl⟩ := Option.map_eq_some_iff.mp hx1
          have hlen : (mkS x').length = b' + 1 + t' := by rw [mkS_length]; exact leads_len _ _ _ (List.mem_of_getElem? hx')
          k_steps
          exact ElPost.intro (by assumption) (by assumption) (fun p hp => hp) ⟨x', _, hx', by rw [mkS_tab, mkS_append]; rfl⟩
        · intro ys2 hl2 hY2 D2 h2 tk2 F2 N2 off2
          k_steps
          rename News _ _ _ _ => kN
          have hA : StrsAre ys ((leads b' (t' + 1)).map (fun x => mkS (32 :: x))) := strs_of_get (by rw [hl, List.length_map, List.size_toArray, hv1]) fun i y hy => by
            obtain ⟨x, t, hx, e⟩ := hY i y hy
            exact ⟨_, t, by rw [List.getElem?_map, hx]; rfl, e⟩
          have hB : StrsAre ys2 ((leads (b' + 1) t').map (fun x => mkS (9 :: x))) := strs_of_get (by rw [hl2, List.length_map, List.size_toArray, hv2]) fun i y hy => by
            obtain ⟨x, t, hx, e⟩ := hY2 i y hy
            exact ⟨_, t, by rw [List.getElem?_map, hx]; rfl, e⟩
          have N3 : News _ _ _ ((h2.objs.size, W.listOf (ys ++ ys2).toArray 0) :: (D2, LCg.lst ys2) :: (H2, W.listOf vs2.toArray k2) :: (D, LCg.lst ys) :: (H1, W.listOf vs1.toArray k1) :: news) := kN
          refine hret _ [(h2.objs.size, W.listOf (ys ++ ys2).toArray 0)] _ _ ⟨_, ys ++ ys2, _, rfl, rfl, ?_, ?_⟩ (by assumption) ?_
          · have e : (leads (b' + 1) (t' + 1)).map mkS = (leads b' (t' + 1)).map (fun x => mkS (32 :: x)) ++ (leads (b' + 1) t').map (fun x => mkS (9 :: x)) := by
              simp [leads, List.map_append, List.map_map, Function.comp_def]
            rw [e]
            exact hA.append' hB
          · intro q hq
            exact Heap.lt_size (N2 q (by simp [hq])).1
          · refine News.perm N3 ?_
            intro p hp
            simp only [List.cons_append, List.nil_append, List.mem_cons] at hp ⊢
            rcases hp with e | hp
            · exact .inl e
            · exact .inr (.inr (.inr (.inr (.inr hp))))
end
-- part 08_meth
section
example : True := by
  k_with_none
  k_with "my exec For Name Call cons nil" => first | ((k_here; (rename Fr _ _ _ _ => zlF'); (with_unfolding_all refine' For_invVF zlF' ?zk1 ?zk2 ?_; (case zk1 => exact rfl); (case zk2 => exact rfl); k_whole))) | fail
  k_with "my exec For Name Name cons nil" => first | ((k_here; (rename Fr _ _ _ _ => zlF'); (with_unfolding_all refine' For_invVF zlF' ?zk1 ?zk2 ?_; (case zk1 => exact rfl); (case zk2 => exact rfl); k_whole))) | fail
  k_with "my exec For Name Attribute cons nil" => first | ((k_here; (rename Fr _ _ _ _ => zlF'); (with_unfolding_all refine' For_invVF zlF' ?zk1 ?zk2 ?_; (case zk1 => exact rfl); (case zk2 => exact rfl); k_whole))) | fail
  k_with "my exec For Name Subscript cons nil" => first | ((k_here; (rename Fr _ _ _ _ => zlF'); (with_unfolding_all refine' For_invVF zlF' ?zk1 ?zk2 ?_; (case zk1 => exact rfl); (case zk2 => exact rfl); k_whole))) | fail
  k_with "my pyIter ref" => first | (((with_reducible show wpAny _ _ (pyIter (Value.ref _)) (fun it s₂ => LoopAtV _ _ _ _ _ _ _ _ _ it s₂) _ _); refine halt_of ?_)) | fail
  k_with "my pyIter str" => first | (((with_reducible show wpAny _ _ (pyIter (Value.str _ _)) (fun it s₂ => LoopAtV _ _ _ _ _ _ _ _ _ it s₂) _ _); refine halt_of ?_)) | fail
  k_with "my exec While BoolOp cons nil" => first | (refine halt_of ?_) | fail
  k_with "my exec While Compare cons nil" => first | (refine halt_of ?_) | fail
  k_with "my subscriptTail Name Slice str ref" => first | (((with_reducible show wpAny _ _ (subscriptTail _ (Expr.Slice none (some _) none _) _ _) _ _ _); (with_reducible rename Fr _ _ _ _ => zF'); (with_reducible rename News _ _ _ _ => zN'); (refine slice_strN_nn_len (hsz := ?zhsz) (s := ⟨_, _, _, _, _⟩) zF' zN' ?_); (case zhsz => size_fits); intro _ _ _ _ _ _)) | fail
  k_with "my ite" => first | (first | ((with_reducible show ite ((_ != (0 : Int)) = true) _ _); k_dflt (first | refine ite_bne_t (by omega) ?_ | refine ite_bne_f (by omega) ?_)) | ((with_reducible show ite ((!(_ != (0 : Int))) = true) _ _); k_dflt (first | refine ite_nbne_t (by omega) ?_ | refine ite_nbne_f (by omega) ?_)) | ((with_reducible show ite (decide _ = true) _ _); k_dflt (first | refine ite_dec_t (by omega) ?_ | refine ite_dec_f (by omega) ?_))) | fail
  k_with "my call type:list" => first | (((with_reducible show wpAny _ _ (call (Value.type _) [Value.ref _]) _ _ _); refine halt_of ?_)) | fail
  k_with "my setItem ref int" => first | ((k_here; (with_reducible show wpAny _ _ (setItem (Value.ref _) (Value.int _ _) (Value.int _ _)) _ _ _); k_dflt (refine' ksa_set ?zk1 ?zk2 ?zk3 ?zk4 ?zk5 ?zk6 ?zk7 ?_; (case zk1 => k_asm); (case zk2 => k_asm); (case zk3 => (repeat (first | exact Upd.head (by assumption) | refine Upd.tail (by assumption) ?_))); (case zk4 => with_reducible assumption); (case zk5 => ksa_idx); (case zk6 => ksa_idx); (case zk7 => ksa_idx); k_whole); intro zh' zF' zN' zhi' zhl' zhs'; (try k_sweep))) | fail
  k_with "my k_all" => first | (first | assumption | exact lt_ne (by assumption) | exact allLt_ne (by first | assumption | exact And.right (by assumption) | exact And.right (And.right (by assumption)) | exact And.right (And.right (And.right (by assumption))) | exact And.right (And.right (And.right (And.right (by assumption)))) | exact And.right (And.right (And.right (And.right (And.right (by assumption))))) | exact And.right (And.right (And.right (And.right (And.right (And.right (by assumption)))))) | exact And.right (And.right (And.right (And.right (And.right (And.right (And.right (by assumption))))))))) | fail
  k_with "my call type:tuple" => first | ((k_here; (with_reducible show wpAny _ _ (call (Value.type _) [Value.ref _]) _ _ _); k_dflt (refine' kde_tupleOf ?zk1 ?zk2 ?zk3 ?zk4 ?zk5 ?_; (case zk1 => k_asm); (case zk2 => k_asm); (case zk3 => exact News.isList (by k_asm) (by k_mem)); (case zk4 => exact sz_ints (by assumption) (by omega)); (case zk5 => rfl); k_whole); intro zD' zh' zF' zN' zl1; (try k_lt zl1); (try k_sweep))) | fail
  k_with "my call ref" => first | ((plain_pass; k_here; (refine wpAny_call ?_); k_dflt (refine' code_def ?zk1 ?zk2 ?zk3 ?zk4 ?zk5 ?zkA ?zkF ?zkK ?zk6 ?zk7 ?zk8 ?zk9 ?zkB ?_ ?zc2 ?zc3 ?zc4 ?zc5; (case zkA => exact rfl); (case zkF => exact rfl); (case zkK => first | exact rfl | assumption); (case zk1 => k_asm); (case zk2 => k_asm); (case zk3 => k_asm); (case zk4 => k_asm); (case zk5 => k_asm); (case zk6 => k_is); (case zk7 => k_is); (case zk8 => ktr_room); (case zk9 => exact BindsTo.of_eq rfl); (case zc5 => decide); (case zkB => exact locs rfl); (case zc2 => exact rfl); (case zc3 => exact rfl); (case zc4 => exact rfl); k_whole; intro zg' zL' zh' zFG' zF' zN' zB' zX' zT'; (try dsimp only); (try k_lift zB'); (try k_fold)))) | fail
  k_with "my call type:range" => first | (((rename Fr _ _ _ _ => zF'); (rename News _ _ _ _ => zN'); first | (with_unfolding_all refine range1_rows zF' zN' ?_; intro _ _ _ _ _ _ _ _ _) | (with_unfolding_all refine range2_rows zF' zN' ?_; intro _ _ _ _ _ _ _ _ _))) | fail
  k_with "my eval ListComp" => first | ((k_here; k_dflt (refine LCg.ListComp_U (F₀ := by k_asm) (by with_unfolding_all rfl) (by decide) (by rfl) (by decide) (by rfl) ?_))) | fail
  k_with "my exec Assign cons ListComp" => first | ((k_here; k_dflt (refine LCg.Assign_ListComp_U (F₀ := by k_asm) (by rfl) (by with_unfolding_all rfl) (by with_unfolding_all rfl) (by decide) (by rfl) (by decide) (by rfl) (by rfl) (by rfl) ?_))) | fail
  k_with "my CompSrc" => first | (refine halt_of ?_) | fail
  k_with "my call ref" => first | (((with_reducible show wpAny _ _ (PySem.call (Value.ref 28) _ _) _ _ _); k_dflt (refine' sub_spec _ _ _ _ _ ?zp0 ?zp1 _ _ _ _ _ _ _ _ _ _ _ _ _ _ _ _ _ ?zq1 ?zq2 ?zq3 ?zq4 ?zq5 ?zq6 ?zq7 ?zq8 ?_); (case zp0 => assumption); (case zp1 => assumption); (case zq1 => k_asm); (case zq2 => k_asm); (case zq3 => k_asm); (case zq4 => k_asm); (case zq5 => k_asm); (case zq6 => first | exact rfl | assumption); (case zq7 => ktr_room); (case zq8 => ktr_units); rintro zv' zown' zh' ztk' ⟨⟨zt', ze1⟩, ze2⟩ zF' zN'; subst ze1; subst ze2; (try simp only [List.nil_append] at zN'); (try dsimp only); (try k_fold))) | fail
  k_with "my call ref" => first | (((with_reducible show wpAny _ _ (PySem.call (Value.ref 153) _ _) _ _ _); k_dflt (refine' ws_call _ _ _ _ ?zp0 ?zp1 _ _ _ _ _ _ _ _ _ _ _ _ _ _ _ _ _ ?zq1 ?zq2 ?zq3 ?zq4 ?zq5 ?zq6 ?zq7 ?zq8 ?_); (case zp0 => assumption); (case zp1 => first | omega | (simp only [List.length_drop, List.length_take]; omega)); (case zq1 => k_asm); (case zq2 => k_asm); (case zq3 => k_asm); (case zq4 => k_asm); (case zq5 => k_asm); (case zq6 => first | exact rfl | assumption); (case zq7 => ktr_room); (case zq8 => ktr_units); rintro zv' zown' zh' ztk' ⟨zx', zd', zT1', zT2', zvs', zk1', zk2', zk3', zk4', zk5', zt2', zt3', zt4', ze1, zhI', zl1', zl2', zl3', zl4', ze2⟩ zF' zN'; subst ze1; subst ze2; (try simp only [List.cons_append, List.nil_append] at zN'); (try dsimp only [wsD, tupO] at zN'); (try k_lt zl1'); (try simp only [List.nil_append] at zN'); (try dsimp only); (try k_fold))) | fail
  k_with "my call ref" => first | (((with_reducible show wpAny _ _ (PySem.call (Value.ref 169) _ _) _ _ _); k_dflt (refine' height_spec _ _ _ ?zp0 ?zp1 _ _ _ _ _ _ _ _ _ _ _ _ _ _ _ _ _ ?zq1 ?zq2 ?zq3 ?zq4 ?zq5 ?zq6 ?zq7 ?zq8 ?_); (case zp0 => first | omega | (simp only [List.length_append]; omega)); (case zp1 => first | omega | (simp only [List.length_append]; omega)); (case zq1 => k_asm); (case zq2 => k_asm); (case zq3 => k_asm); (case zq4 => k_asm); (case zq5 => k_asm); (case zq6 => first | exact rfl | assumption); (case zq7 => ktr_room); (case zq8 => ktr_units); rintro zv' zown' zh' ztk' ⟨⟨zt', ze1⟩, ze2⟩ zF' zN'; subst ze1; subst ze2; (try simp only [List.nil_append] at zN'); (try dsimp only); (try k_fold))) | fail
  k_with "my call ref" => first | (((with_reducible show wpAny _ _ (PySem.call (Value.ref 35) _ _) _ _ _); k_dflt (refine' lev_any _ _ _ _ _ _ _ _ ?zp0 ?zp1 ?zp2 ?zp3 ?zp4 ?zp5 ?zp6 ?zp7 _ _ _ _ _ _ _ _ _ _ _ _ _ _ _ _ _ ?zq1 ?zq2 ?zq3 ?zq4 ?zq5 ?zq6 ?zq7 ?zq8 ?_); (case zp0 => assumption); (case zp1 => assumption); (case zp2 => assumption); (case zp3 => assumption); (case zp4 => omega); (case zp5 => omega); (case zp6 => omega); (case zp7 => omega); (case zq1 => k_asm); (case zq2 => k_asm); (case zq3 => k_asm); (case zq4 => k_asm); (case zq5 => k_asm); (case zq6 => first | exact rfl | assumption); (case zq7 => ktr_room); (case zq8 => ktr_units); rintro zv' zown' zh' ztk' ⟨⟨zt', ze1⟩, ze2⟩ zF' zN'; subst ze1; subst ze2; (try simp only [List.nil_append] at zN'); (try dsimp only); (try k_fold))) | fail
  k_with "my call ref" => first | ((plain_pass; (with_reducible show wpAny _ _ (PySem.call (Value.ref 162) _ _) _ _ _); refine halt_of ?_)) | fail
  k_with "my lt" => first | assumption | exact And.left (by assumption) | exact And.left (And.right (by assumption)) | exact And.right (by assumption) | exact And.left (And.right (And.right (by assumption))) | exact And.right (And.right (by assumption)) | exact And.left (And.right (And.right (And.right (by assumption)))) | exact And.right (And.right (And.right (by assumption))) | exact And.left (And.right (And.right (And.right (And.right (by assumption))))) | exact And.right (And.right (And.right (And.right (by assumption)))) | exact And.left (And.right (And.right (And.right (And.right (And.right (by assumption)))))) | exact And.right (And.right (And.right (And.right (And.right (by assumption))))) | exact And.left (And.right (And.right (And.right (And.right (And.right (And.right (by assumption))))))) | exact And.right (And.right (And.right (And.right (And.right (And.right (by assumption)))))) | exact And.left (And.right (And.right (And.right (And.right (And.right (And.right (And.right (by assumption)))))))) | exact And.right (And.right (And.right (And.right (And.right (And.right (And.right (by assumption))))))) | exact And.left (And.right (And.right (And.right (And.right (And.right (And.right (And.right (And.right (by assumption))))))))) | exact And.right (And.right (And.right (And.right (And.right (And.right (And.right (And.right (by assumption)))))))) | fail
  k_with "my succ" => first | (first | exact Nat.lt_succ_self _ | exact Nat.lt_succ_of_lt (Nat.lt_succ_self _) | exact Nat.lt_succ_of_lt (Nat.lt_succ_of_lt (Nat.lt_succ_self _)) | exact Nat.lt_succ_of_lt (Nat.lt_succ_of_lt (Nat.lt_succ_of_lt (Nat.lt_succ_self _)))) | fail
  k_with "my omega" => with_reducible (first | assumption | decide | exact room0 (by assumption) | exact room1 (by assumption) rfl | exact room2 (by assumption) rfl | exact idx_nn _ | exact idx_ge _ _ | exact idx_lo _ | exact idx_lo' _ | exact idx_to _ | exact idx_one _ | exact idx_lt (by assumption) | exact idx_lt (lt_of_eq' (by assumption) (by assumption)) | exact idx_hi (by assumption) rfl | exact idx_hi2 (by assumption) (by assumption) rfl | exact nn_neg _ _ | exact Int.natCast_nonneg _ | exact cast_hi (by assumption) rfl | exact cast_hi2 (by assumption) (by assumption) rfl | exact cast_hi3 (by assumption) (by assumption) rfl | exact ng_lt _ _ | exact ng_hi _ | exact ng_ge (by assumption) | exact ng_lo (by assumption) rfl | exact ng_lo0 (by assumption) | exact ng_neg (by assumption) | exact ng_ne (by assumption) | exact cast_ne (by assumption) | exact cast_ne' (by assumption) (by assumption) | exact not_big (by assumption) (by assumption) rfl | exact slc_lt (by assumption) (by assumption) | exact slc_hi (by assumption) (by assumption) (by assumption) rfl | exact ix_pos (by assumption) | exact ix_ne (by assumption) | exact ix_add (by assumption) | exact le_add' _ _ | exact imp_ne (by assumption) (by assumption) | exact Nat.lt_succ_self _ | exact Nat.le_succ_of_le (by assumption) | exact le_big (by assumption) rfl | exact le_big' (by assumption) (by assumption) rfl | exact pos_of (by assumption) (by assumption) | exact lt_of_eq' (by assumption) (by assumption) | exact int_pos (by assumption) | exact eq_of (by assumption) (by assumption) | exact Ne.symm (by assumption) | (refine Nat.ne_of_gt ?_; k_extra "my lt") | (refine Nat.ne_of_lt ?_; k_extra "my lt") | (refine Nat.ne_of_gt ?_; k_extra "my succ") | (refine Nat.ne_of_lt ?_; k_extra "my succ") | exact Int.le_trans (by assumption) (by decide) | exact Int.lt_of_le_of_lt (by assumption) (by decide) | exact Int.lt_of_lt_of_le (by decide) (by assumption) | exact Nat.le_trans (Nat.le_of_lt (by assumption)) (Nat.le_of_ble_eq_true rfl) | exact Int.ofNat_le.mpr (Nat.le_trans (by assumption) (Nat.le_of_ble_eq_true rfl)) | fail)
  trivial
example : True := by
  k_with "my k_mem" => first | ((show (_ : Addr × Obj) ∈ _; with_reducible assumption)) | fail
  trivial
structure IsWs (p : Params) (news : List (Addr × Obj)) (x : Addr) (a : List Nat) (d T1 T2 : Addr) (vs : List Value) (raw : Value) (k1 k2 k3 k4 k5 t2 t3 t4 : Tok) : Prop where
  h1 : (x, instObj 153 d) ∈ news
  h2 : (d, wsD p raw (wsW a).1 (wsW a).2.1 T2 (decide (((wsW a).2.2.2.length : Int) ≤ 1)) k1 k2 k3 k4 k5 t2 t3) ∈ news
  h3 : (T1, tupO vs.toArray) ∈ news
  h4 : (T2, tupO #[.ref T1, .int (wsW a).2.2.1 t4]) ∈ news
  h5 : IntsAre vs (wsW a).2.2.2
theorem wsGo_len : ∀ (a : List Nat) (n nt b : Int) (cnt : List Int) (k : Nat), 0 ≤ b → b ≤ k → cnt.length ≤ k → (wsGo a n nt b cnt).2.2.2.length ≤ k + a.length ∧ 0 ≤ (wsGo a n nt b cnt).2.2.1 ∧ (wsGo a n nt b cnt).2.2.1 ≤ k + a.length
  | [], n, nt, b, cnt, k, h0, hb, hc => by simp [wsGo]; omega
  | c :: r, n, nt, b, cnt, k, h0, hb, hc => by
    rw [wsGo]
    split
    · have := wsGo_len r (n + 1) nt (b + 1) cnt (k + 1) (by omega) (by omega) (by omega)
      simp only [List.length_cons]; omega
    · split
      · have := wsGo_len r (n + 1) (nt + 1) 0 (bump cnt b) (k + 1) (by omega) (by omega) (bump_len h0 (by omega) (by omega))
        simp only [List.length_cons]; omega
      · simp only [List.length_cons]; omega
theorem wsW_len {a : List Nat} (h : a.length ≤ 20) : (wsW a).2.2.2.length ≤ 20 ∧ 0 ≤ (wsW a).2.2.1 ∧ (wsW a).2.2.1 ≤ 20 := by
  have := wsGo_len a 0 0 0 [] 0 (by omega) (by omega) (by simp)
  simp only [wsW]; omega
theorem len_tI {prog w} {A : Around} {E : Value → Shared → Prop} {s : Shared} {l : Addr} {vs : List Value} {ns : List Int} {Q : Value → Shared → Prop} (hl : IsTup s.heap l vs.toArray) (hI : IntsAre vs ns) (hz : ns.length ≤ 16384) (h : Q (.int ns.length (s.toks + 1)) { s with toks := s.toks + 1 + 1 }) :
    wpAny (model prog w) A (call (.builtin "len") [.ref l]) Q E s :=
  kun_lenT hl (by rw [List.size_toArray, hI.length]) (by omega) h
example : True := by
  k_with "my call builtin:len" => first | ((k_here; (with_reducible show wpAny _ _ (call (Value.builtin "len") [Value.ref _]) _ _ _); k_dflt (refine' len_tI ?zk1 ?zk2 ?zk3 ?_; (case zk1 => exact News.isTup (by k_asm) (by k_mem)); (case zk2 => with_reducible assumption); (case zk3 => omega); k_whole))) | fail
  trivial
noncomputable def longF (a : List Nat) : Int := if (wsW a).2.2.1 > ((wsW a).2.2.2.length : Int) - 1 then (wsW a).2.2.1 else ((wsW a).2.2.2.length : Int) - 1
theorem long_spec {w : World} {mean mg mb} (a : List Nat) (x d T1 T2 vs raw k1 k2 k3 k4 k5 t2 t3 t4) (news) (ha : a.length ≤ 20) (hw : IsWs w.params news x a d T1 T2 vs raw k1 k2 k3 k4 k5 t2 t3 t4) :
   Spec w mean mg mb 115 2 20 [Value.ref x] news (fun v own => (∃ t, v = .int (longF a) t) ∧ own = []) := by
  dsimp only [Spec]
  intros; rename_i hret
  obtain ⟨m1, m2, m3, m4, m5⟩ := hw
  have hl := wsW_len ha
  refine wpAny_call ?_
  k_dflt cell_enter
  k_steps
  exact hret _ [] _ _ ⟨⟨_, rfl⟩, rfl⟩ (by assumption) (by assumption)
theorem tup_item {prog w} {A : Around} {E : Value → Shared → Prop} {s : Shared} {h₀ : Heap} {L : Addr} {news : List (Addr × Obj)} {value slice : Expr} {l : Addr} {vs : List Value} {ns : List Int} {k : Int} {u : Tok} {Q : Value → Shared → Prop}
    (N : News h₀ L s.heap news) (hm : (l, tupO vs.toArray) ∈ news) (hi : IntsAre vs ns) (h0 : 0 ≤ k) (h1 : k < ns.length) (hf : ns.length ≤ 100) (h : ∀ t, Q (.int (ns.getD k.toNat 0) t) s)
    (hs : subscripted slice false (.ref l) (.int k u) = operate [.ref l, .int k u] (getItem (.ref l) (.int k u)) := by with_unfolding_all rfl) (hg : ∀ r, letTemporaryGo value (.ref l) r = pure () := by intro _; with_unfolding_all rfl) :
    wpAny (model prog w) A (subscriptTail value slice (.ref l) (.int k u)) Q E s :=
  item_tuple_ints (News.isTup N hm) hi h0 h1 (by omega) h hs hg
example : True := by
  k_with "my subscriptTail Name Name ref int" => first | ((k_here; (with_reducible show wpAny _ _ (subscriptTail _ _ (Value.ref _) (Value.int _ _)) _ _ _); k_dflt (refine' tup_item ?zkN ?zkM ?zkI ?zk3 ?zk4 ?zk5 ?_; (case zkI => with_reducible assumption); (case zkN => k_asm); (case zkM => first | with_reducible assumption | exact List.mem_cons_of_mem _ (by with_reducible assumption) | exact List.mem_cons_of_mem _ (List.mem_cons_of_mem _ (by with_reducible assumption))); (case zk3 => omega); (case zk4 => omega); (case zk5 => omega); k_whole); intro _)) | fail
  trivial
theorem rsize {a b : Int} : Builtin.Range.rangeSize a b 1 = ((b - a).toNat : Int) := by
  unfold Builtin.Range.rangeSize
  rw [if_pos (by omega)]
  split <;> simp <;> omega
theorem rsmall {a b : Int} (h1 : -1000 ≤ a) (h2 : a ≤ 1000) (h3 : -1000 ≤ b) (h4 : b ≤ 1000) : Builtin.Range.small a b 1 = true := by
  have e : Builtin.Range.rangeSize a b 1 = ((b - a).toNat : Int) := rsize
  have f : ∀ x : Int, -5000 ≤ x → x ≤ 5000 → Builtin.Range.rangeFitsLong x = true := by
    intro x g1 g2
    unfold Builtin.Range.rangeFitsLong
    simp; omega
  unfold Builtin.Range.small
  rw [e, f a (by omega) (by omega), f b (by omega) (by omega), f 1 (by omega) (by omega), f _ (by omega) (by omega), if_pos (by omega), f _ (by omega) (by omega)]
  simp
noncomputable def indGo (cnt : List Int) (ts : Int) : Nat → Int
  | 0 => 0
  | k + 1 => indGo cnt ts k + Int.fdiv (ts + k) ts * cnt.getD (ts + k).toNat 0
noncomputable def indF (a : List Nat) (ts : Int) : Int := (wsW a).2.2.1 + ts * (indGo (wsW a).2.2.2 ts (((wsW a).2.2.2.length : Int) - ts).toNat + (wsW a).2.1)
theorem ind_spec {w : World} {mean mg mb} (a : List Nat) (x d T1 T2 vs raw k1 k2 k3 k4 k5 t2 t3 t4) (ts : Int) (tt : Tok) (news) (ha : a.length ≤ 20) (h1 : 1 ≤ ts) (h2 : ts ≤ 30) (hw : IsWs w.params news x a d T1 T2 vs raw k1 k2 k3 k4 k5 t2 t3 t4) :
   Spec w mean mg mb 122 2 20 [Value.ref x, Value.int ts tt] news (fun v own => (∃ t, v = .int (indF a ts) t) ∧ own = []) := by
  dsimp only [Spec]
  intros; rename_i hret
  obtain ⟨m1, m2, m3, m4, m5⟩ := hw
  have hl := wsW_len ha
  refine wpAny_call ?_
  k_dflt cell_enter
  k_steps
  refine Halt.out ?_
  k_sweep
  rename Fr _ _ _ _ => F
  rename News _ _ _ _ => N
  rename IsRange _ _ _ _ _ _ _ _ => R
  refine fr_let F ?_
  clear F
  intro MF1 F
  refine loop_range (n := (((wsW a).2.2.2.length : Int) - ts).toNat) (by rfl) R (rsmall (by omega) (by omega) (by omega) (by omega)) rsize (by assumption) (by assumption)
    (fun M nw i m₁ l => l = nw ∧ (∃ t, m₁ (Str.ofString "il") = some (.int (indGo (wsW a).2.2.2 ts i) t)) ∧ ∀ z, z ≠ Str.ofString "il" → z ≠ Str.ofString "i" → m₁ z = M z) ?_ ?_ ?_
  · exact ⟨rfl, ⟨_, rfl⟩, fun z _ _ => rfl⟩
  · rintro I it i t m₁ news₁ h tk hi ⟨rfl, ⟨tc, hc⟩, hm⟩ ho F' N'
    k_fold
    rw [frm1_1 hc hm] at F'
    clear hc hm F N R
    have e0 : ts + (i : Int) * 1 = ts + i := by omega
    have hlen := m5.length
    have hq1 : 0 ≤ (ts + (i : Int) * 1).fdiv ts := by
      rw [Int.fdiv_eq_ediv_of_nonneg _ (by omega)]; exact Int.ediv_nonneg (by omega) (by omega)
    have hq2 : (ts + (i : Int) * 1).fdiv ts ≤ 60 := by
      rw [Int.fdiv_eq_ediv_of_nonneg _ (by omega)]
      have := Int.ediv_le_self ts (a := ts + (i : Int) * 1) (by omega)
      omega
    k_steps
    refine TurnEnd.intro (by assumption) (by assumption) news₁ (List.mem_cons_self ..) (fun p hp => List.mem_cons_of_mem _ hp) ho ⟨rfl, ⟨_, int_eq ?_⟩, by intro z h1 h2; simp only [h1, h2, if_false]⟩
    rw [e0, indGo]
  · rintro h tk m₁ news₁ ⟨rfl, ⟨tc, hc⟩, hm⟩ F' N'
    rw [frm1_1 hc hm] at F'
    clear F N R
    dsimp only
    k_steps
    exact hret _ [] _ _ ⟨⟨_, rfl⟩, rfl⟩ (by assumption) (by assumption)
theorem IsWs.cons {p news x a d T1 T2 vs raw k1 k2 k3 k4 k5 t2 t3 t4} {q : Addr × Obj} (h : IsWs p news x a d T1 T2 vs raw k1 k2 k3 k4 k5 t2 t3 t4) : IsWs p (q :: news) x a d T1 T2 vs raw k1 k2 k3 k4 k5 t2 t3 t4 :=
  ⟨.tail _ h.h1, .tail _ h.h2, .tail _ h.h3, .tail _ h.h4, h.h5⟩
theorem IsWs.mono {p news news' x a d T1 T2 vs raw k1 k2 k3 k4 k5 t2 t3 t4} (hs : ∀ q ∈ news, q ∈ news') (h : IsWs p news x a d T1 T2 vs raw k1 k2 k3 k4 k5 t2 t3 t4) : IsWs p news' x a d T1 T2 vs raw k1 k2 k3 k4 k5 t2 t3 t4 :=
  ⟨hs _ h.h1, hs _ h.h2, hs _ h.h3, hs _ h.h4, h.h5⟩
inductive TripsAre (L : List (Addr × Obj)) : List Value → List (Int × Int × Int) → Prop
  | nil : TripsAre L [] []
  | cons (T : Addr) (a b c : Int) (t1 t2 t3 : Tok) (vs xs) : (T, tupO #[.int a t1, .int b t2, .int c t3]) ∈ L → TripsAre L vs xs → TripsAre L (.ref T :: vs) ((a, b, c) :: xs)
theorem TripsAre.mono {L L' : List (Addr × Obj)} (hs : ∀ q ∈ L, q ∈ L') {vs xs} (h : TripsAre L vs xs) : TripsAre L' vs xs := by
  induction h with
  | nil => exact .nil
  | cons T a b c t1 t2 t3 vs xs hm _ ih => exact .cons T a b c t1 t2 t3 vs xs (hs _ hm) ih
theorem TripsAre.append {L : List (Addr × Obj)} {vs xs ws ys} (h : TripsAre L vs xs) (g : TripsAre L ws ys) : TripsAre L (vs ++ ws) (xs ++ ys) := by
  induction h with
  | nil => exact g
  | cons T a b c t1 t2 t3 vs xs hm _ ih => exact .cons T a b c t1 t2 t3 _ _ hm ih
theorem TripsAre.length {L : List (Addr × Obj)} {vs xs} (h : TripsAre L vs xs) : vs.length = xs.length := by
  induction h with
  | nil => rfl
  | cons T a b c t1 t2 t3 vs xs hm _ ih => simp [ih]
example : True := by
  k_with "my call ref" => first | (((with_reducible show wpAny _ _ (PySem.call (Value.ref 115) _ _) _ _ _); k_dflt (refine' long_spec _ _ _ _ _ _ _ _ _ _ _ _ _ _ _ _ ?zp0 ?zp1 _ _ _ _ _ _ _ _ _ _ _ _ _ _ _ _ _ ?zq1 ?zq2 ?zq3 ?zq4 ?zq5 ?zq6 ?zq7 ?zq8 ?_); (case zq1 => k_asm); (case zq2 => k_asm); (case zq3 => k_asm); (case zq4 => k_asm); (case zq5 => k_asm); (case zp1 => first | assumption | exact IsWs.cons (by assumption) | exact IsWs.cons (IsWs.cons (by assumption)) | exact IsWs.cons (IsWs.cons (IsWs.cons (by assumption)))); (case zp0 => assumption); (case zq6 => first | exact rfl | assumption); (case zq7 => ktr_room); (case zq8 => ktr_units); rintro zv' zown' zh' ztk' ⟨⟨zt', ze1⟩, ze2⟩ zF' zN'; subst ze1; subst ze2; (try simp only [List.nil_append] at zN'); (try dsimp only); (try k_fold))) | fail
  k_with "my call ref" => first | (((with_reducible show wpAny _ _ (PySem.call (Value.ref 122) _ _) _ _ _); k_dflt (refine' ind_spec _ _ _ _ _ _ _ _ _ _ _ _ _ _ _ _ _ _ ?zp0 ?zp2 ?zp3 ?zp1 _ _ _ _ _ _ _ _ _ _ _ _ _ _ _ _ _ ?zq1 ?zq2 ?zq3 ?zq4 ?zq5 ?zq6 ?zq7 ?zq8 ?_); (case zq1 => k_asm); (case zq2 => k_asm); (case zq3 => k_asm); (case zq4 => k_asm); (case zq5 => k_asm); (case zp1 => first | assumption | exact IsWs.cons (by assumption) | exact IsWs.cons (IsWs.cons (by assumption)) | exact IsWs.cons (IsWs.cons (IsWs.cons (by assumption)))); (case zp0 => assumption); (case zp2 => omega); (case zp3 => omega); (case zq6 => first | exact rfl | assumption); (case zq7 => ktr_room); (case zq8 => ktr_units); rintro zv' zown' zh' ztk' ⟨⟨zt', ze1⟩, ze2⟩ zF' zN'; subst ze1; subst ze2; (try simp only [List.nil_append] at zN'); (try dsimp only); (try k_fold))) | fail
  trivial
noncomputable def witN (a b : List Nat) : Int := (if longF b > longF a then longF b else longF a) + 1
noncomputable def witStep (a b : List Nat) (l : List (Int × Int × Int)) (i : Nat) : List (Int × Int × Int) := if indF a (1 + i) ≠ indF b (1 + i) then l ++ [((1 + i : Int), indF a (1 + i), indF b (1 + i))] else l
noncomputable def witF (a b : List Nat) : List (Int × Int × Int) := (List.range (witN a b).toNat).foldl (witStep a b) []
theorem long_bd {a : List Nat} (h : a.length ≤ 20) : -1 ≤ longF a ∧ longF a ≤ 20 := by
  have := wsW_len h
  unfold longF
  split <;> omega
theorem trip_end {h₀ : Heap} {L I H D : Addr} {it o : Obj} {J : (Str → Option Value) → List (Addr × Obj) → Prop} {s₁ : Shared} {h' : Heap} {tk : Nat} {m' : Str → Option Value} {rest : List (Addr × Obj)} {vs : List Value} {k : Nat}
    (F : Fr h₀ L h' m') (N : News h₀ L h' ((D, o) :: (I, it) :: (H, listOf (vs ++ [Value.ref D]).toArray k) :: rest)) (l1 : I < D ∧ H < D ∧ AllLt D rest) (hHI : @Ne Nat H I) (hrI : ∀ p ∈ rest, p.1 ≠ I) (r : J m' ((H, listOf (vs ++ [Value.ref D]).toArray k) :: (D, o) :: rest)) :
    TurnEnd h₀ L s₁ I it J { s₁ with heap := h', toks := tk } := by
  refine TurnEnd.intro F N ((H, listOf (vs ++ [Value.ref D]).toArray k) :: (D, o) :: rest) (List.mem_cons_of_mem _ (List.mem_cons_self ..)) ?_ ?_ r
  · intro p hp
    rcases List.mem_cons.mp hp with rfl | hp
    · exact List.mem_cons_of_mem _ (List.mem_cons_of_mem _ (List.mem_cons_self ..))
    rcases List.mem_cons.mp hp with rfl | hp
    · exact List.mem_cons_self ..
    · exact List.mem_cons_of_mem _ (List.mem_cons_of_mem _ (List.mem_cons_of_mem _ hp))
  · intro p hp
    rcases List.mem_cons.mp hp with rfl | hp
    · exact hHI
    rcases List.mem_cons.mp hp with rfl | hp
    · exact Nat.ne_of_gt l1.1
    · exact hrI p hp
theorem wit_spec {w : World} {mean mg mb} (a : List Nat) (x d T1 T2 vs raw k1 k2 k3 k4 k5 t2 t3 t4) (b : List Nat) (y d' T1' T2' vs' raw' k1' k2' k3' k4' k5' t2' t3' t4') (news) (ha : a.length ≤ 20) (hb : b.length ≤ 20)
   (hw : IsWs w.params news x a d T1 T2 vs raw k1 k2 k3 k4 k5 t2 t3 t4) (hw' : IsWs w.params news y b d' T1' T2' vs' raw' k1' k2' k3' k4' k5' t2' t3' t4') :
   Spec w mean mg mb 136 5 45 [Value.ref x, Value.ref y] news (fun v own => ∃ (H : Addr) (vs : List Value) (kk : Nat) (rest : List (Addr × Obj)), v = .ref H ∧ own = (H, listOf vs.toArray kk) :: rest ∧ TripsAre rest vs (witF a b)) := by
  dsimp only [Spec]
  intros; rename_i hret
  have hl := long_bd ha
  have hl' := long_bd hb
  obtain ⟨m1, m2, m3, m4, m5⟩ := id hw
  obtain ⟨m1', m2', m3', m4', m5'⟩ := id hw'
  refine wpAny_call ?_
  k_dflt cell_enter
  k_steps
  refine Halt.out ?_
  k_sweep
  rename Fr _ _ _ _ => F
  rename News _ _ _ _ => N
  rename IsRange _ _ _ _ _ _ _ _ => R
  have hW : -0 ≤ witN a b ∧ witN a b ≤ 21 := by unfold witN; split <;> omega
  refine fr_let F ?_
  clear F
  intro MF2 F
  refine loop_range (n := (witN a b).toNat) (by rfl) R (rsmall (by omega) (by omega) (by unfold witN at hW; omega) (by unfold witN at hW; omega)) (by rw [rsize]; unfold witN; congr 2; omega) (by assumption) (by assumption)
    (fun M nw i m₁ l' => ∃ (H : Addr) (o : Obj) (vs : List Value) (kk : Nat) (rest : List (Addr × Obj)), (H, o) :: news = nw ∧ l' = (H, listOf vs.toArray kk) :: rest ∧ TripsAre rest vs ((List.range i).foldl (witStep a b) []) ∧ (∀ q ∈ news, q ∈ rest) ∧ (∀ q ∈ rest, q.1 ≠ H) ∧ ((List.range i).foldl (witStep a b) []).length ≤ i ∧ ∀ z, z ≠ Str.ofString "ts" → m₁ z = M z) ?_ ?_ ?_
  · exact ⟨_, _, [], _, _, rfl, rfl, TripsAre.nil, fun q hq => hq, by k_all, by simp, fun z _ => rfl⟩
  · rintro I it i t m₁ news₁ h tk hi ⟨H, o, vs, kk, rest, eH, rfl, hI, hsub, hne, hlen, hm⟩ ho F' N'
    clear F N R
    injection eH with eH _
    injection eH with eH _
    subst eH
    rw [frm0_1 hm] at F'
    k_fold
    clear hm
    have hw := IsWs.cons (q := (I, it)) (IsWs.cons (q := (H, listOf vs.toArray kk)) (IsWs.mono hsub hw))
    have hw' := IsWs.cons (q := (I, it)) (IsWs.cons (q := (H, listOf vs.toArray kk)) (IsWs.mono hsub hw'))
    obtain ⟨m1, m2, m3, m4, m5⟩ := id hw
    obtain ⟨m1', m2', m3', m4', m5'⟩ := id hw'
    have hHI : @Ne Nat H I := fun e => ho _ (List.mem_cons_self ..) e
    have hrI : ∀ p ∈ rest, p.1 ≠ I := fun p hp => ho p (List.mem_cons_of_mem _ hp)
    have hIH : @Ne Nat I H := fun e => hHI e.symm
    have hvl : vs.length ≤ 100 := by rw [hI.length]; omega
    have e0 : (1 : Int) + (i : Int) * 1 = 1 + i := by omega
    have er : (List.range (i + 1)).foldl (witStep a b) [] = witStep a b ((List.range i).foldl (witStep a b) []) i := by rw [List.range_succ, List.foldl_append]; rfl
    k_steps
    · rename (indF a _ ≠ indF b _) => q
      rename (I < _ ∧ _ < _ ∧ _) => l1
      rename News _ _ _ _ => NN
      rw [List.push_toArray] at NN
      rw [e0] at q
      have es : witStep a b ((List.range i).foldl (witStep a b) []) i = (List.range i).foldl (witStep a b) [] ++ [((1 + i : Int), indF a (1 + i), indF b (1 + i))] := by rw [witStep, if_pos q]
      refine trip_end (by assumption) NN l1 hHI hrI ⟨H, _, _, _, _, rfl, rfl, ?_, fun q hq => List.mem_cons_of_mem _ (hsub q hq), ?_, ?_, by intro z h1; simp only [h1, if_false]⟩
      · rw [er, es]
        rw [← e0]
        exact TripsAre.append (hI.mono fun q hq => List.mem_cons_of_mem _ hq) (.cons _ _ _ _ _ _ _ _ _ (List.mem_cons_self ..) .nil)
      · intro p hp
        rcases List.mem_cons.mp hp with rfl | hp
        · exact Nat.ne_of_gt l1.2.1
        · exact hne p hp
      · rw [er, es]
        simp only [List.length_append, List.length_cons, List.length_nil]
        omega
    · rename (indF a _ = indF b _) => q
      rw [e0] at q
      have es : witStep a b ((List.range i).foldl (witStep a b) []) i = (List.range i).foldl (witStep a b) [] := by rw [witStep, if_neg (by simpa using q)]
      refine TurnEnd.intro (by assumption) (by assumption) ((H, listOf vs.toArray kk) :: rest) (List.mem_cons_self ..) (fun p hp => List.mem_cons_of_mem _ hp) ho ⟨H, _, vs, kk, rest, rfl, rfl, ?_, hsub, hne, ?_, by intro z h1; simp only [h1, if_false]⟩
      · rw [er, es]; exact hI
      · rw [er, es]; omega
  · rintro h tk m₁ news₁ ⟨H, o, vs, kk, rest, eH, rfl, hI, hsub, hne, hlen, hm⟩ F' N'
    clear F N R
    injection eH with eH _
    injection eH with eH _
    subst eH
    rw [frm0_1 hm] at F'
    k_steps
    refine hret _ ((H, listOf vs.toArray kk) :: rest) _ _ ⟨H, vs, kk, rest, rfl, rfl, hI⟩ (by assumption) ?_
    refine News.perm (by assumption) ?_
    intro p hp
    rcases List.mem_append.mp hp with hp | hp
    · exact hp
    · exact List.mem_cons_of_mem _ (hsub p hp)
end
-- part 09_dist
section
example : True := by
  k_with_none
  k_with "my exec For Name Call cons nil" => first | ((k_here; (rename Fr _ _ _ _ => zlF'); (with_unfolding_all refine' For_invVF zlF' ?zk1 ?zk2 ?_; (case zk1 => exact rfl); (case zk2 => exact rfl); k_whole))) | fail
  k_with "my exec For Name Name cons nil" => first | ((k_here; (rename Fr _ _ _ _ => zlF'); (with_unfolding_all refine' For_invVF zlF' ?zk1 ?zk2 ?_; (case zk1 => exact rfl); (case zk2 => exact rfl); k_whole))) | fail
  k_with "my exec For Name Attribute cons nil" => first | ((k_here; (rename Fr _ _ _ _ => zlF'); (with_unfolding_all refine' For_invVF zlF' ?zk1 ?zk2 ?_; (case zk1 => exact rfl); (case zk2 => exact rfl); k_whole))) | fail
  k_with "my exec For Name Subscript cons nil" => first | ((k_here; (rename Fr _ _ _ _ => zlF'); (with_unfolding_all refine' For_invVF zlF' ?zk1 ?zk2 ?_; (case zk1 => exact rfl); (case zk2 => exact rfl); k_whole))) | fail
  k_with "my pyIter ref" => first | (((with_reducible show wpAny _ _ (pyIter (Value.ref _)) (fun it s₂ => LoopAtV _ _ _ _ _ _ _ _ _ it s₂) _ _); refine halt_of ?_)) | fail
  k_with "my pyIter str" => first | (((with_reducible show wpAny _ _ (pyIter (Value.str _ _)) (fun it s₂ => LoopAtV _ _ _ _ _ _ _ _ _ it s₂) _ _); refine halt_of ?_)) | fail
  k_with "my exec While BoolOp cons nil" => first | (refine halt_of ?_) | fail
  k_with "my exec While Compare cons nil" => first | (refine halt_of ?_) | fail
  k_with "my subscriptTail Name Slice str ref" => first | (((with_reducible show wpAny _ _ (subscriptTail _ (Expr.Slice none (some _) none _) _ _) _ _ _); (with_reducible rename Fr _ _ _ _ => zF'); (with_reducible rename News _ _ _ _ => zN'); (refine slice_strN_nn_len (hsz := ?zhsz) (s := ⟨_, _, _, _, _⟩) zF' zN' ?_); (case zhsz => size_fits); intro _ _ _ _ _ _)) | fail
  k_with "my ite" => first | (first | ((with_reducible show ite ((_ != (0 : Int)) = true) _ _); k_dflt (first | refine ite_bne_t (by omega) ?_ | refine ite_bne_f (by omega) ?_)) | ((with_reducible show ite ((!(_ != (0 : Int))) = true) _ _); k_dflt (first | refine ite_nbne_t (by omega) ?_ | refine ite_nbne_f (by omega) ?_)) | ((with_reducible show ite (decide _ = true) _ _); k_dflt (first | refine ite_dec_t (by omega) ?_ | refine ite_dec_f (by omega) ?_))) | fail
  k_with "my call type:list" => first | (((with_reducible show wpAny _ _ (call (Value.type _) [Value.ref _]) _ _ _); refine halt_of ?_)) | fail
  k_with "my setItem ref int" => first | ((k_here; (with_reducible show wpAny _ _ (setItem (Value.ref _) (Value.int _ _) (Value.int _ _)) _ _ _); k_dflt (refine' ksa_set ?zk1 ?zk2 ?zk3 ?zk4 ?zk5 ?zk6 ?zk7 ?_; (case zk1 => k_asm); (case zk2 => k_asm); (case zk3 => (repeat (first | exact Upd.head (by assumption) | refine Upd.tail (by assumption) ?_))); (case zk4 => with_reducible assumption); (case zk5 => ksa_idx); (case zk6 => ksa_idx); (case zk7 => ksa_idx); k_whole); intro zh' zF' zN' zhi' zhl' zhs'; (try k_sweep))) | fail
  k_with "my k_all" => first | (first | assumption | exact lt_ne (by assumption) | exact allLt_ne (by first | assumption | exact And.right (by assumption) | exact And.right (And.right (by assumption)) | exact And.right (And.right (And.right (by assumption))) | exact And.right (And.right (And.right (And.right (by assumption)))) | exact And.right (And.right (And.right (And.right (And.right (by assumption))))) | exact And.right (And.right (And.right (And.right (And.right (And.right (by assumption)))))) | exact And.right (And.right (And.right (And.right (And.right (And.right (And.right (by assumption))))))))) | fail
  k_with "my call type:tuple" => first | ((k_here; (with_reducible show wpAny _ _ (call (Value.type _) [Value.ref _]) _ _ _); k_dflt (refine' kde_tupleOf ?zk1 ?zk2 ?zk3 ?zk4 ?zk5 ?_; (case zk1 => k_asm); (case zk2 => k_asm); (case zk3 => exact News.isList (by k_asm) (by k_mem)); (case zk4 => exact sz_ints (by assumption) (by omega)); (case zk5 => rfl); k_whole); intro zD' zh' zF' zN' zl1; (try k_lt zl1); (try k_sweep))) | fail
  k_with "my call ref" => first | ((plain_pass; k_here; (refine wpAny_call ?_); k_dflt (refine' code_def ?zk1 ?zk2 ?zk3 ?zk4 ?zk5 ?zkA ?zkF ?zkK ?zk6 ?zk7 ?zk8 ?zk9 ?zkB ?_ ?zc2 ?zc3 ?zc4 ?zc5; (case zkA => exact rfl); (case zkF => exact rfl); (case zkK => first | exact rfl | assumption); (case zk1 => k_asm); (case zk2 => k_asm); (case zk3 => k_asm); (case zk4 => k_asm); (case zk5 => k_asm); (case zk6 => k_is); (case zk7 => k_is); (case zk8 => ktr_room); (case zk9 => exact BindsTo.of_eq rfl); (case zc5 => decide); (case zkB => exact locs rfl); (case zc2 => exact rfl); (case zc3 => exact rfl); (case zc4 => exact rfl); k_whole; intro zg' zL' zh' zFG' zF' zN' zB' zX' zT'; (try dsimp only); (try k_lift zB'); (try k_fold)))) | fail
  k_with "my call type:range" => first | (((rename Fr _ _ _ _ => zF'); (rename News _ _ _ _ => zN'); first | (with_unfolding_all refine range1_rows zF' zN' ?_; intro _ _ _ _ _ _ _ _ _) | (with_unfolding_all refine range2_rows zF' zN' ?_; intro _ _ _ _ _ _ _ _ _))) | fail
  k_with "my eval ListComp" => first | ((k_here; k_dflt (refine LCg.ListComp_U (F₀ := by k_asm) (by with_unfolding_all rfl) (by decide) (by rfl) (by decide) (by rfl) ?_))) | fail
  k_with "my exec Assign cons ListComp" => first | ((k_here; k_dflt (refine LCg.Assign_ListComp_U (F₀ := by k_asm) (by rfl) (by with_unfolding_all rfl) (by with_unfolding_all rfl) (by decide) (by rfl) (by decide) (by rfl) (by rfl) (by rfl) ?_))) | fail
  k_with "my CompSrc" => first | (refine halt_of ?_) | fail
  k_with "my call ref" => first | (((with_reducible show wpAny _ _ (PySem.call (Value.ref 28) _ _) _ _ _); k_dflt (refine' sub_spec _ _ _ _ _ ?zp0 ?zp1 _ _ _ _ _ _ _ _ _ _ _ _ _ _ _ _ _ ?zq1 ?zq2 ?zq3 ?zq4 ?zq5 ?zq6 ?zq7 ?zq8 ?_); (case zp0 => assumption); (case zp1 => assumption); (case zq1 => k_asm); (case zq2 => k_asm); (case zq3 => k_asm); (case zq4 => k_asm); (case zq5 => k_asm); (case zq6 => first | exact rfl | assumption); (case zq7 => ktr_room); (case zq8 => ktr_units); rintro zv' zown' zh' ztk' ⟨⟨zt', ze1⟩, ze2⟩ zF' zN'; subst ze1; subst ze2; (try simp only [List.nil_append] at zN'); (try dsimp only); (try k_fold))) | fail
  k_with "my call ref" => first | (((with_reducible show wpAny _ _ (PySem.call (Value.ref 153) _ _) _ _ _); k_dflt (refine' ws_call _ _ _ _ ?zp0 ?zp1 _ _ _ _ _ _ _ _ _ _ _ _ _ _ _ _ _ ?zq1 ?zq2 ?zq3 ?zq4 ?zq5 ?zq6 ?zq7 ?zq8 ?_); (case zp0 => assumption); (case zp1 => first | omega | (simp only [List.length_drop, List.length_take]; omega)); (case zq1 => k_asm); (case zq2 => k_asm); (case zq3 => k_asm); (case zq4 => k_asm); (case zq5 => k_asm); (case zq6 => first | exact rfl | assumption); (case zq7 => ktr_room); (case zq8 => ktr_units); rintro zv' zown' zh' ztk' ⟨zx', zd', zT1', zT2', zvs', zk1', zk2', zk3', zk4', zk5', zt2', zt3', zt4', ze1, zhI', zl1', zl2', zl3', zl4', ze2⟩ zF' zN'; subst ze1; subst ze2; (try simp only [List.cons_append, List.nil_append] at zN'); (try dsimp only [wsD, tupO] at zN'); (try k_lt zl1'); (try simp only [List.nil_append] at zN'); (try dsimp only); (try k_fold))) | fail
  k_with "my call ref" => first | (((with_reducible show wpAny _ _ (PySem.call (Value.ref 169) _ _) _ _ _); k_dflt (refine' height_spec _ _ _ ?zp0 ?zp1 _ _ _ _ _ _ _ _ _ _ _ _ _ _ _ _ _ ?zq1 ?zq2 ?zq3 ?zq4 ?zq5 ?zq6 ?zq7 ?zq8 ?_); (case zp0 => first | omega | (simp only [List.length_append]; omega)); (case zp1 => first | omega | (simp only [List.length_append]; omega)); (case zq1 => k_asm); (case zq2 => k_asm); (case zq3 => k_asm); (case zq4 => k_asm); (case zq5 => k_asm); (case zq6 => first | exact rfl | assumption); (case zq7 => ktr_room); (case zq8 => ktr_units); rintro zv' zown' zh' ztk' ⟨⟨zt', ze1⟩, ze2⟩ zF' zN'; subst ze1; subst ze2; (try simp only [List.nil_append] at zN'); (try dsimp only); (try k_fold))) | fail
  k_with "my call ref" => first | (((with_reducible show wpAny _ _ (PySem.call (Value.ref 35) _ _) _ _ _); k_dflt (refine' lev_any _ _ _ _ _ _ _ _ ?zp0 ?zp1 ?zp2 ?zp3 ?zp4 ?zp5 ?zp6 ?zp7 _ _ _ _ _ _ _ _ _ _ _ _ _ _ _ _ _ ?zq1 ?zq2 ?zq3 ?zq4 ?zq5 ?zq6 ?zq7 ?zq8 ?_); (case zp0 => assumption); (case zp1 => assumption); (case zp2 => assumption); (case zp3 => assumption); (case zp4 => omega); (case zp5 => omega); (case zp6 => omega); (case zp7 => omega); (case zq1 => k_asm); (case zq2 => k_asm); (case zq3 => k_asm); (case zq4 => k_asm); (case zq5 => k_asm); (case zq6 => first | exact rfl | assumption); (case zq7 => ktr_room); (case zq8 => ktr_units); rintro zv' zown' zh' ztk' ⟨⟨zt', ze1⟩, ze2⟩ zF' zN'; subst ze1; subst ze2; (try simp only [List.nil_append] at zN'); (try dsimp only); (try k_fold))) | fail
  k_with "my call ref" => first | ((plain_pass; (with_reducible show wpAny _ _ (PySem.call (Value.ref 162) _ _) _ _ _); refine halt_of ?_)) | fail
  k_with "my lt" => first | assumption | exact And.left (by assumption) | exact And.left (And.right (by assumption)) | exact And.right (by assumption) | exact And.left (And.right (And.right (by assumption))) | exact And.right (And.right (by assumption)) | exact And.left (And.right (And.right (And.right (by assumption)))) | exact And.right (And.right (And.right (by assumption))) | exact And.left (And.right (And.right (And.right (And.right (by assumption))))) | exact And.right (And.right (And.right (And.right (by assumption)))) | exact And.left (And.right (And.right (And.right (And.right (And.right (by assumption)))))) | exact And.right (And.right (And.right (And.right (And.right (by assumption))))) | exact And.left (And.right (And.right (And.right (And.right (And.right (And.right (by assumption))))))) | exact And.right (And.right (And.right (And.right (And.right (And.right (by assumption)))))) | exact And.left (And.right (And.right (And.right (And.right (And.right (And.right (And.right (by assumption)))))))) | exact And.right (And.right (And.right (And.right (And.right (And.right (And.right (by assumption))))))) | exact And.left (And.right (And.right (And.right (And.right (And.right (And.right (And.right (And.right (by assumption))))))))) | exact And.right (And.right (And.right (And.right (And.right (And.right (And.right (And.right (by assumption)))))))) | fail
  k_with "my succ" => first | (first | exact Nat.lt_succ_self _ | exact Nat.lt_succ_of_lt (Nat.lt_succ_self _) | exact Nat.lt_succ_of_lt (Nat.lt_succ_of_lt (Nat.lt_succ_self _)) | exact Nat.lt_succ_of_lt (Nat.lt_succ_of_lt (Nat.lt_succ_of_lt (Nat.lt_succ_self _)))) | fail
  k_with "my omega" => with_reducible (first | assumption | decide | exact room0 (by assumption) | exact room1 (by assumption) rfl | exact room2 (by assumption) rfl | exact idx_nn _ | exact idx_ge _ _ | exact idx_lo _ | exact idx_lo' _ | exact idx_to _ | exact idx_one _ | exact idx_lt (by assumption) | exact idx_lt (lt_of_eq' (by assumption) (by assumption)) | exact idx_hi (by assumption) rfl | exact idx_hi2 (by assumption) (by assumption) rfl | exact nn_neg _ _ | exact Int.natCast_nonneg _ | exact cast_hi (by assumption) rfl | exact cast_hi2 (by assumption) (by assumption) rfl | exact cast_hi3 (by assumption) (by assumption) rfl | exact ng_lt _ _ | exact ng_hi _ | exact ng_ge (by assumption) | exact ng_lo (by assumption) rfl | exact ng_lo0 (by assumption) | exact ng_neg (by assumption) | exact ng_ne (by assumption) | exact cast_ne (by assumption) | exact cast_ne' (by assumption) (by assumption) | exact not_big (by assumption) (by assumption) rfl | exact slc_lt (by assumption) (by assumption) | exact slc_hi (by assumption) (by assumption) (by assumption) rfl | exact ix_pos (by assumption) | exact ix_ne (by assumption) | exact ix_add (by assumption) | exact le_add' _ _ | exact imp_ne (by assumption) (by assumption) | exact Nat.lt_succ_self _ | exact Nat.le_succ_of_le (by assumption) | exact le_big (by assumption) rfl | exact le_big' (by assumption) (by assumption) rfl | exact pos_of (by assumption) (by assumption) | exact lt_of_eq' (by assumption) (by assumption) | exact int_pos (by assumption) | exact eq_of (by assumption) (by assumption) | exact Ne.symm (by assumption) | (refine Nat.ne_of_gt ?_; k_extra "my lt") | (refine Nat.ne_of_lt ?_; k_extra "my lt") | (refine Nat.ne_of_gt ?_; k_extra "my succ") | (refine Nat.ne_of_lt ?_; k_extra "my succ") | exact Int.le_trans (by assumption) (by decide) | exact Int.lt_of_le_of_lt (by assumption) (by decide) | exact Int.lt_of_lt_of_le (by decide) (by assumption) | exact Nat.le_trans (Nat.le_of_lt (by assumption)) (Nat.le_of_ble_eq_true rfl) | exact Int.ofNat_le.mpr (Nat.le_trans (by assumption) (Nat.le_of_ble_eq_true rfl)) | fail)
  trivial
theorem Spec.drop {w mean mg mb f D U vs news} {R R' : Value → List (Addr × Obj) → Prop} (h : Spec w mean mg mb f D U vs news R) (hr : ∀ v own, R v own → R' v []) : Spec w mean mg mb f D U vs news R' := by
  intro dp un gd cn cs a ccd cl outer A₀ base h₀ L m s Q E q1 q2 q3 q4 q5 q6 q7 q8 hret
  exact h _ _ _ _ _ _ _ _ _ _ _ _ _ _ _ _ _ q1 q2 q3 q4 q5 q6 q7 q8 (fun v own h' tk' r F N => hret v [] h' tk' (hr v own r) F N.right)
noncomputable def preC : List Nat → List Nat → List Nat × List Nat × List Nat
  | a :: u, b :: l => if a = b then (a :: (preC u l).1, (preC u l).2.1, (preC u l).2.2) else ([], a :: u, b :: l)
  | [], l => ([], [], l)
  | a :: u, [] => ([], a :: u, [])
theorem preC_spec : ∀ u l : List Nat, u = (preC u l).1 ++ (preC u l).2.1 ∧ l = (preC u l).1 ++ (preC u l).2.2 ∧ ((preC u l).2.1 ≠ [] → (preC u l).2.2 ≠ [] → (preC u l).2.1.head? ≠ (preC u l).2.2.head?)
  | [], l => by simp [preC]
  | a :: u, [] => by simp [preC]
  | a :: u, b :: l => by
    rw [preC]
    obtain ⟨h1, h2, h3⟩ := preC_spec u l
    split
    · subst b
      exact ⟨congrArg (a :: ·) h1, congrArg (a :: ·) h2, h3⟩
    · simp; omega
noncomputable def midX (u l : List Nat) : List Nat := (preC (preC u l).2.1.reverse (preC u l).2.2.reverse).2.1.reverse
noncomputable def midY (u l : List Nat) : List Nat := (preC (preC u l).2.1.reverse (preC u l).2.2.reverse).2.2.reverse
noncomputable def distF (u l : List Nat) (mx : Int) : Int := if u = l then 0 else levCore (midX u l) (midY u l) mx
theorem head_app {x q : List Nat} (h : x ≠ []) : (x ++ q).head? = x.head? := by
  cases x with
  | nil => exact absurd rfl h
  | cons a x => rfl
theorem mid_spec {u l : List Nat} (he : u.length = l.length) (hn : u ≠ l) : ∃ p q, u = p ++ midX u l ++ q ∧ l = p ++ midY u l ++ q ∧ (midX u l).length = (midY u l).length ∧ 1 ≤ (midX u l).length ∧ (midX u l).head? ≠ (midY u l).head? ∧ (midX u l).getLast? ≠ (midY u l).getLast? := by
  obtain ⟨h1, h2, h3⟩ := preC_spec u l
  obtain ⟨g1, g2, g3⟩ := preC_spec (preC u l).2.1.reverse (preC u l).2.2.reverse
  have ex : (preC u l).2.1 = midX u l ++ (preC (preC u l).2.1.reverse (preC u l).2.2.reverse).1.reverse := by
    unfold midX
    rw [← List.reverse_append, ← g1, List.reverse_reverse]
  have ey : (preC u l).2.2 = midY u l ++ (preC (preC u l).2.1.reverse (preC u l).2.2.reverse).1.reverse := by
    unfold midY
    rw [← List.reverse_append, ← g2, List.reverse_reverse]
  have hu : u = (preC u l).1 ++ midX u l ++ (preC (preC u l).2.1.reverse (preC u l).2.2.reverse).1.reverse := by
    rw [List.append_assoc, ← ex]; exact h1
  have hl : l = (preC u l).1 ++ midY u l ++ (preC (preC u l).2.1.reverse (preC u l).2.2.reverse).1.reverse := by
    rw [List.append_assoc, ← ey]; exact h2
  have hlen : (midX u l).length = (midY u l).length := by
    have a := congrArg List.length hu
    have b := congrArg List.length hl
    simp only [List.length_append] at a b
    omega
  have hx : midX u l ≠ [] := by
    intro e
    rw [e] at hlen
    have e' : midY u l = [] := List.eq_nil_of_length_eq_zero hlen.symm
    rw [e] at hu
    rw [e'] at hl
    exact hn (hu.trans hl.symm)
  have hy : midY u l ≠ [] := by
    intro e
    rw [e] at hlen
    exact hx (List.eq_nil_of_length_eq_zero hlen)
  refine ⟨_, _, hu, hl, hlen, List.length_pos_iff.mpr hx, ?_, ?_⟩
  · have := h3 (by rw [ex]; simp [hx]) (by rw [ey]; simp [hy])
    rw [ex, ey, head_app hx, head_app hy] at this
    exact this
  · have := g3 (by intro e; apply hx; unfold midX; rw [e]; rfl) (by intro e; apply hy; unfold midY; rw [e]; rfl)
    unfold midX midY
    rw [List.getLast?_reverse, List.getLast?_reverse]
    exact this
theorem lev_same {w : World} {mean mg mb} (a : Str) (ta tb : Tok) (mx : Int) (tm : Tok) (news) (ha : a.length ≤ 30) :
   Spec w mean mg mb 35 2 20 [Value.str a ta, Value.str a tb, Value.int mx tm] news (fun v own => (∃ t, v = .int 0 t) ∧ own = []) := by
  dsimp only [Spec]
  intros; rename_i hret
  refine wpAny_call ?_
  k_dflt cell_enter
  k_steps
  · exact hret _ [] _ _ ⟨⟨_, rfl⟩, rfl⟩ (by assumption) (by assumption)
  · exfalso
    rename ((a == a) = false) => e
    simp at e
theorem lev_any {w : World} {mean mg mb} (u l t : List Nat) (ta tb : Tok) (mx : Int) (tm : Tok) (news) (hu : u.length = 5) (hl : l.length = 5) (hbu : ∀ c ∈ u, c = 9 ∨ c = 32) (hbl : ∀ c ∈ l, c = 9 ∨ c = 32) (ht : 1 ≤ t.length) (ht2 : t.length ≤ 10) (h1 : 4 ≤ mx) (h2 : mx ≤ 10) :
   Spec w mean mg mb 35 2 20 [Value.str (mkS (u ++ t)) ta, Value.str (mkS (l ++ t)) tb, Value.int mx tm] news (fun v own => (∃ t, v = .int (distF u l mx) t) ∧ own = []) := by
  by_cases e : u = l
  · subst e
    rw [distF, if_pos rfl]
    exact lev_same _ _ _ _ _ _ (by rw [mkS_length, List.length_append]; omega)
  · rw [distF, if_neg e]
    obtain ⟨p, q, eu, el, h3, h4, h5, h6⟩ := mid_spec (by omega) e
    have gx : ∀ c ∈ midX u l, c = 9 ∨ c = 32 := fun c hc => hbu c (by rw [eu]; simp [hc])
    have gy : ∀ c ∈ midY u l, c = 9 ∨ c = 32 := fun c hc => hbl c (by rw [el]; simp [hc])
    have lu := congrArg List.length eu
    simp only [List.length_append] at lu
    generalize midX u l = x at *
    generalize midY u l = y at *
    subst eu el
    have e1 : p ++ x ++ q ++ t = p ++ x ++ (q ++ t) := by simp
    have e2 : p ++ y ++ q ++ t = p ++ y ++ (q ++ t) := by simp
    rw [e1, e2]
    refine Spec.drop (lev_spec p x y (q ++ t) x.length ta tb mx tm news (by omega) (by rw [List.length_append]; omega) (by rw [List.length_append]; omega) rfl h3.symm h4 (by omega) h5 h6 gx gy h1 h2) ?_
    rintro v own ⟨h, _⟩
    exact ⟨h, rfl⟩
end
-- part 10_ways
section
example : True := by
  k_with_none
  k_with "my exec For Name Call cons nil" => first | ((k_here; (rename Fr _ _ _ _ => zlF'); (with_unfolding_all refine' For_invVF zlF' ?zk1 ?zk2 ?_; (case zk1 => exact rfl); (case zk2 => exact rfl); k_whole))) | fail
  k_with "my exec For Name Name cons nil" => first | ((k_here; (rename Fr _ _ _ _ => zlF'); (with_unfolding_all refine' For_invVF zlF' ?zk1 ?zk2 ?_; (case zk1 => exact rfl); (case zk2 => exact rfl); k_whole))) | fail
  k_with "my exec For Name Attribute cons nil" => first | ((k_here; (rename Fr _ _ _ _ => zlF'); (with_unfolding_all refine' For_invVF zlF' ?zk1 ?zk2 ?_; (case zk1 => exact rfl); (case zk2 => exact rfl); k_whole))) | fail
  k_with "my exec For Name Subscript cons nil" => first | ((k_here; (rename Fr _ _ _ _ => zlF'); (with_unfolding_all refine' For_invVF zlF' ?zk1 ?zk2 ?_; (case zk1 => exact rfl); (case zk2 => exact rfl); k_whole))) | fail
  k_with "my pyIter ref" => first | (((with_reducible show wpAny _ _ (pyIter (Value.ref _)) (fun it s₂ => LoopAtV _ _ _ _ _ _ _ _ _ it s₂) _ _); refine halt_of ?_)) | fail
  k_with "my pyIter str" => first | (((with_reducible show wpAny _ _ (pyIter (Value.str _ _)) (fun it s₂ => LoopAtV _ _ _ _ _ _ _ _ _ it s₂) _ _); refine halt_of ?_)) | fail
  k_with "my exec While BoolOp cons nil" => first | (refine halt_of ?_) | fail
  k_with "my exec While Compare cons nil" => first | (refine halt_of ?_) | fail
  k_with "my subscriptTail Name Slice str ref" => first | (((with_reducible show wpAny _ _ (subscriptTail _ (Expr.Slice none (some _) none _) _ _) _ _ _); (with_reducible rename Fr _ _ _ _ => zF'); (with_reducible rename News _ _ _ _ => zN'); (refine slice_strN_nn_len (hsz := ?zhsz) (s := ⟨_, _, _, _, _⟩) zF' zN' ?_); (case zhsz => size_fits); intro _ _ _ _ _ _)) | fail
  k_with "my ite" => first | (first | ((with_reducible show ite ((_ != (0 : Int)) = true) _ _); k_dflt (first | refine ite_bne_t (by omega) ?_ | refine ite_bne_f (by omega) ?_)) | ((with_reducible show ite ((!(_ != (0 : Int))) = true) _ _); k_dflt (first | refine ite_nbne_t (by omega) ?_ | refine ite_nbne_f (by omega) ?_)) | ((with_reducible show ite (decide _ = true) _ _); k_dflt (first | refine ite_dec_t (by omega) ?_ | refine ite_dec_f (by omega) ?_))) | fail
  k_with "my call type:list" => first | (((with_reducible show wpAny _ _ (call (Value.type _) [Value.ref _]) _ _ _); refine halt_of ?_)) | fail
  k_with "my setItem ref int" => first | ((k_here; (with_reducible show wpAny _ _ (setItem (Value.ref _) (Value.int _ _) (Value.int _ _)) _ _ _); k_dflt (refine' ksa_set ?zk1 ?zk2 ?zk3 ?zk4 ?zk5 ?zk6 ?zk7 ?_; (case zk1 => k_asm); (case zk2 => k_asm); (case zk3 => (repeat (first | exact Upd.head (by assumption) | refine Upd.tail (by assumption) ?_))); (case zk4 => with_reducible assumption); (case zk5 => ksa_idx); (case zk6 => ksa_idx); (case zk7 => ksa_idx); k_whole); intro zh' zF' zN' zhi' zhl' zhs'; (try k_sweep))) | fail
  k_with "my k_all" => first | (first | assumption | exact lt_ne (by assumption) | exact allLt_ne (by first | assumption | exact And.right (by assumption) | exact And.right (And.right (by assumption)) | exact And.right (And.right (And.right (by assumption))) | exact And.right (And.right (And.right (And.right (by assumption)))) | exact And.right (And.right (And.right (And.right (And.right (by assumption))))) | exact And.right (And.right (And.right (And.right (And.right (And.right (by assumption)))))) | exact And.right (And.right (And.right (And.right (And.right (And.right (And.right (by assumption))))))))) | fail
  k_with "my call type:tuple" => first | ((k_here; (with_reducible show wpAny _ _ (call (Value.type _) [Value.ref _]) _ _ _); k_dflt (refine' kde_tupleOf ?zk1 ?zk2 ?zk3 ?zk4 ?zk5 ?_; (case zk1 => k_asm); (case zk2 => k_asm); (case zk3 => exact News.isList (by k_asm) (by k_mem)); (case zk4 => exact sz_ints (by assumption) (by omega)); (case zk5 => rfl); k_whole); intro zD' zh' zF' zN' zl1; (try k_lt zl1); (try k_sweep))) | fail
  k_with "my call ref" => first | ((plain_pass; k_here; (refine wpAny_call ?_); k_dflt (refine' code_def ?zk1 ?zk2 ?zk3 ?zk4 ?zk5 ?zkA ?zkF ?zkK ?zk6 ?zk7 ?zk8 ?zk9 ?zkB ?_ ?zc2 ?zc3 ?zc4 ?zc5; (case zkA => exact rfl); (case zkF => exact rfl); (case zkK => first | exact rfl | assumption); (case zk1 => k_asm); (case zk2 => k_asm); (case zk3 => k_asm); (case zk4 => k_asm); (case zk5 => k_asm); (case zk6 => k_is); (case zk7 => k_is); (case zk8 => ktr_room); (case zk9 => exact BindsTo.of_eq rfl); (case zc5 => decide); (case zkB => exact locs rfl); (case zc2 => exact rfl); (case zc3 => exact rfl); (case zc4 => exact rfl); k_whole; intro zg' zL' zh' zFG' zF' zN' zB' zX' zT'; (try dsimp only); (try k_lift zB'); (try k_fold)))) | fail
  k_with "my call type:range" => first | (((rename Fr _ _ _ _ => zF'); (rename News _ _ _ _ => zN'); first | (with_unfolding_all refine range1_rows zF' zN' ?_; intro _ _ _ _ _ _ _ _ _) | (with_unfolding_all refine range2_rows zF' zN' ?_; intro _ _ _ _ _ _ _ _ _))) | fail
  k_with "my eval ListComp" => first | ((k_here; k_dflt (refine LCg.ListComp_U (F₀ := by k_asm) (by with_unfolding_all rfl) (by decide) (by rfl) (by decide) (by rfl) ?_))) | fail
  k_with "my exec Assign cons ListComp" => first | ((k_here; k_dflt (refine LCg.Assign_ListComp_U (F₀ := by k_asm) (by rfl) (by with_unfolding_all rfl) (by with_unfolding_all rfl) (by decide) (by rfl) (by decide) (by rfl) (by rfl) (by rfl) ?_))) | fail
  k_with "my CompSrc" => first | (refine halt_of ?_) | fail
  k_with "my call ref" => first | (((with_reducible show wpAny _ _ (PySem.call (Value.ref 28) _ _) _ _ _); k_dflt (refine' sub_spec _ _ _ _ _ ?zp0 ?zp1 _ _ _ _ _ _ _ _ _ _ _ _ _ _ _ _ _ ?zq1 ?zq2 ?zq3 ?zq4 ?zq5 ?zq6 ?zq7 ?zq8 ?_); (case zp0 => assumption); (case zp1 => assumption); (case zq1 => k_asm); (case zq2 => k_asm); (case zq3 => k_asm); (case zq4 => k_asm); (case zq5 => k_asm); (case zq6 => first | exact rfl | assumption); (case zq7 => ktr_room); (case zq8 => ktr_units); rintro zv' zown' zh' ztk' ⟨⟨zt', ze1⟩, ze2⟩ zF' zN'; subst ze1; subst ze2; (try simp only [List.nil_append] at zN'); (try dsimp only); (try k_fold))) | fail
  k_with "my call ref" => first | (((with_reducible show wpAny _ _ (PySem.call (Value.ref 153) _ _) _ _ _); k_dflt (refine' ws_call _ _ _ _ ?zp0 ?zp1 _ _ _ _ _ _ _ _ _ _ _ _ _ _ _ _ _ ?zq1 ?zq2 ?zq3 ?zq4 ?zq5 ?zq6 ?zq7 ?zq8 ?_); (case zp0 => assumption); (case zp1 => first | omega | (simp only [List.length_drop, List.length_take]; omega)); (case zq1 => k_asm); (case zq2 => k_asm); (case zq3 => k_asm); (case zq4 => k_asm); (case zq5 => k_asm); (case zq6 => first | exact rfl | assumption); (case zq7 => ktr_room); (case zq8 => ktr_units); rintro zv' zown' zh' ztk' ⟨zx', zd', zT1', zT2', zvs', zk1', zk2', zk3', zk4', zk5', zt2', zt3', zt4', ze1, zhI', zl1', zl2', zl3', zl4', ze2⟩ zF' zN'; subst ze1; subst ze2; (try simp only [List.cons_append, List.nil_append] at zN'); (try dsimp only [wsD, tupO] at zN'); (try k_lt zl1'); (try simp only [List.nil_append] at zN'); (try dsimp only); (try k_fold))) | fail
  k_with "my call ref" => first | (((with_reducible show wpAny _ _ (PySem.call (Value.ref 169) _ _) _ _ _); k_dflt (refine' height_spec _ _ _ ?zp0 ?zp1 _ _ _ _ _ _ _ _ _ _ _ _ _ _ _ _ _ ?zq1 ?zq2 ?zq3 ?zq4 ?zq5 ?zq6 ?zq7 ?zq8 ?_); (case zp0 => first | omega | (simp only [List.length_append]; omega)); (case zp1 => first | omega | (simp only [List.length_append]; omega)); (case zq1 => k_asm); (case zq2 => k_asm); (case zq3 => k_asm); (case zq4 => k_asm); (case zq5 => k_asm); (case zq6 => first | exact rfl | assumption); (case zq7 => ktr_room); (case zq8 => ktr_units); rintro zv' zown' zh' ztk' ⟨⟨zt', ze1⟩, ze2⟩ zF' zN'; subst ze1; subst ze2; (try simp only [List.nil_append] at zN'); (try dsimp only); (try k_fold))) | fail
  k_with "my call ref" => first | (((with_reducible show wpAny _ _ (PySem.call (Value.ref 35) _ _) _ _ _); k_dflt (refine' lev_any _ _ _ _ _ _ _ _ ?zp0 ?zp1 ?zp2 ?zp3 ?zp4 ?zp5 ?zp6 ?zp7 _ _ _ _ _ _ _ _ _ _ _ _ _ _ _ _ _ ?zq1 ?zq2 ?zq3 ?zq4 ?zq5 ?zq6 ?zq7 ?zq8 ?_); (case zp0 => assumption); (case zp1 => assumption); (case zp2 => assumption); (case zp3 => assumption); (case zp4 => omega); (case zp5 => omega); (case zp6 => omega); (case zp7 => omega); (case zq1 => k_asm); (case zq2 => k_asm); (case zq3 => k_asm); (case zq4 => k_asm); (case zq5 => k_asm); (case zq6 => first | exact rfl | assumption); (case zq7 => ktr_room); (case zq8 => ktr_units); rintro zv' zown' zh' ztk' ⟨⟨zt', ze1⟩, ze2⟩ zF' zN'; subst ze1; subst ze2; (try simp only [List.nil_append] at zN'); (try dsimp only); (try k_fold))) | fail
  k_with "my call ref" => first | ((plain_pass; (with_reducible show wpAny _ _ (PySem.call (Value.ref 162) _ _) _ _ _); refine halt_of ?_)) | fail
  k_with "my lt" => first | assumption | exact And.left (by assumption) | exact And.left (And.right (by assumption)) | exact And.right (by assumption) | exact And.left (And.right (And.right (by assumption))) | exact And.right (And.right (by assumption)) | exact And.left (And.right (And.right (And.right (by assumption)))) | exact And.right (And.right (And.right (by assumption))) | exact And.left (And.right (And.right (And.right (And.right (by assumption))))) | exact And.right (And.right (And.right (And.right (by assumption)))) | exact And.left (And.right (And.right (And.right (And.right (And.right (by assumption)))))) | exact And.right (And.right (And.right (And.right (And.right (by assumption))))) | exact And.left (And.right (And.right (And.right (And.right (And.right (And.right (by assumption))))))) | exact And.right (And.right (And.right (And.right (And.right (And.right (by assumption)))))) | exact And.left (And.right (And.right (And.right (And.right (And.right (And.right (And.right (by assumption)))))))) | exact And.right (And.right (And.right (And.right (And.right (And.right (And.right (by assumption))))))) | exact And.left (And.right (And.right (And.right (And.right (And.right (And.right (And.right (And.right (by assumption))))))))) | exact And.right (And.right (And.right (And.right (And.right (And.right (And.right (And.right (by assumption)))))))) | fail
  k_with "my succ" => first | (first | exact Nat.lt_succ_self _ | exact Nat.lt_succ_of_lt (Nat.lt_succ_self _) | exact Nat.lt_succ_of_lt (Nat.lt_succ_of_lt (Nat.lt_succ_self _)) | exact Nat.lt_succ_of_lt (Nat.lt_succ_of_lt (Nat.lt_succ_of_lt (Nat.lt_succ_self _)))) | fail
  k_with "my omega" => with_reducible (first | assumption | decide | exact room0 (by assumption) | exact room1 (by assumption) rfl | exact room2 (by assumption) rfl | exact idx_nn _ | exact idx_ge _ _ | exact idx_lo _ | exact idx_lo' _ | exact idx_to _ | exact idx_one _ | exact idx_lt (by assumption) | exact idx_lt (lt_of_eq' (by assumption) (by assumption)) | exact idx_hi (by assumption) rfl | exact idx_hi2 (by assumption) (by assumption) rfl | exact nn_neg _ _ | exact Int.natCast_nonneg _ | exact cast_hi (by assumption) rfl | exact cast_hi2 (by assumption) (by assumption) rfl | exact cast_hi3 (by assumption) (by assumption) rfl | exact ng_lt _ _ | exact ng_hi _ | exact ng_ge (by assumption) | exact ng_lo (by assumption) rfl | exact ng_lo0 (by assumption) | exact ng_neg (by assumption) | exact ng_ne (by assumption) | exact cast_ne (by assumption) | exact cast_ne' (by assumption) (by assumption) | exact not_big (by assumption) (by assumption) rfl | exact slc_lt (by assumption) (by assumption) | exact slc_hi (by assumption) (by assumption) (by assumption) rfl | exact ix_pos (by assumption) | exact ix_ne (by assumption) | exact ix_add (by assumption) | exact le_add' _ _ | exact imp_ne (by assumption) (by assumption) | exact Nat.lt_succ_self _ | exact Nat.le_succ_of_le (by assumption) | exact le_big (by assumption) rfl | exact le_big' (by assumption) (by assumption) rfl | exact pos_of (by assumption) (by assumption) | exact lt_of_eq' (by assumption) (by assumption) | exact int_pos (by assumption) | exact eq_of (by assumption) (by assumption) | exact Ne.symm (by assumption) | (refine Nat.ne_of_gt ?_; k_extra "my lt") | (refine Nat.ne_of_lt ?_; k_extra "my lt") | (refine Nat.ne_of_gt ?_; k_extra "my succ") | (refine Nat.ne_of_lt ?_; k_extra "my succ") | exact Int.le_trans (by assumption) (by decide) | exact Int.lt_of_le_of_lt (by assumption) (by decide) | exact Int.lt_of_lt_of_le (by decide) (by assumption) | exact Nat.le_trans (Nat.le_of_lt (by assumption)) (Nat.le_of_ble_eq_true rfl) | exact Int.ofNat_le.mpr (Nat.le_trans (by assumption) (Nat.le_of_ble_eq_true rfl)) | fail)
  trivial
theorem kdpLook_put (c : List (Str × Int)) (k j : Str) (v d : Int) : kdpLook (kdpPut c k v) j d = if j = k then v else kdpLook c j d := by
  unfold kdpPut
  by_cases hc : (c.any fun p => decide (p.1 = k)) = true
  · rw [if_pos hc]
    induction c with
    | nil => simp at hc
    | cons p c ih =>
      unfold kdpLook
      simp only [List.map_cons, List.find?_cons]
      by_cases hp : p.1 = k
      · by_cases hj : j = k
        · subst hj; simp [hp]
        · have h1 : ¬ k = j := fun e => hj e.symm
          simp only [hp, decide_true, if_true, h1, decide_false, if_false, hj]
          by_cases hc' : (c.any fun p => decide (p.1 = k)) = true
          · have := ih hc'
            unfold kdpLook at this
            rw [if_neg hj] at this
            exact this
          · have e : (c.map fun p => if decide (p.1 = k) = true then (p.1, v) else p) = c := by
              conv => rhs; rw [← List.map_id c]
              refine List.map_congr_left fun q hq => ?_
              rw [if_neg ?_]; · rfl
              intro h
              exact hc' (List.any_eq_true.mpr ⟨q, hq, h⟩)
            rw [e]
      · have hc' : (c.any fun p => decide (p.1 = k)) = true := by simpa [hp] using hc
        have := ih hc'
        unfold kdpLook at this
        simp only [hp, decide_false, Bool.false_eq_true, if_false]
        by_cases hj : p.1 = j
        · subst hj
          simp [hp]
        · simp only [hj, decide_false]
          exact this
  · rw [if_neg hc]
    unfold kdpLook
    rw [List.find?_append]
    by_cases hj : j = k
    · subst hj
      have : c.find? (fun p => decide (p.1 = j)) = none := by
        rw [List.find?_eq_none]
        intro x hx h
        exact hc (List.any_eq_true.mpr ⟨x, hx, h⟩)
      rw [this]; simp
    · have h1 : ¬ k = j := fun e => hj e.symm
      simp [h1, hj]
theorem kdpPut_len_has {c : List (Str × Int)} {k : Str} (v : Int) (h : kdpHas c k = true) : (kdpPut c k v).length = c.length := by
  unfold kdpPut
  have h' : (c.any fun p => decide (p.1 = k)) = true := h
  rw [if_pos h', List.length_map]
theorem key_inj {u l t : List Nat} : mkS (u ++ t) = mkS (l ++ t) ↔ u = l := by
  constructor
  · intro h
    have : u ++ t = l ++ t := by simpa [mkS] using h
    exact List.append_cancel_right this
  · rintro rfl; rfl
noncomputable abbrev key (t u : List Nat) : Str := mkS (u ++ t)
noncomputable def ht (t u : List Nat) : Int := heightF (u ++ t)
noncomputable abbrev SK (w : World) := PySem.strKind PySem.Challenge.rw_sw0060_01.row.prog w
theorem off_set2 {I a b : Addr} {o o' p p' : Obj} {l : List (Addr × Obj)} (h : ∀ q ∈ (a, o) :: (b, p) :: l, q.1 ≠ I) : ∀ q ∈ (a, o') :: (b, p') :: l, q.1 ≠ I := by
  intro q hq
  rcases List.mem_cons.mp hq with rfl | hq
  · exact (h (a, o) (List.mem_cons_self ..) : a ≠ I)
  rcases List.mem_cons.mp hq with rfl | hq
  · exact (h (b, p) (List.mem_cons_of_mem _ (List.mem_cons_self ..)) : b ≠ I)
  · exact h _ (List.mem_cons_of_mem _ (List.mem_cons_of_mem _ hq))
noncomputable def lowStep (P : List Nat → List Nat → Bool) (t : List Nat) (h : Int) (u : List Nat) (W : List Nat → Int) (l : List Nat) : List Nat → Int := if ht t l + 1 = h ∧ P u l = true then (fun z => if z = l then W l + W u else W z) else W
noncomputable def upStep (P : List Nat → List Nat → Bool) (t : List Nat) (ls : List (List Nat)) (h : Int) (W : List Nat → Int) (u : List Nat) : List Nat → Int := if ht t u = h ∧ W u > 0 then ls.foldl (lowStep P t h u) W else W
noncomputable def rowStep (P : List Nat → List Nat → Bool) (t : List Nat) (ls : List (List Nat)) (h0 : Int) (W : List Nat → Int) (i : Nat) : List Nat → Int := ls.foldl (upStep P t ls (h0 + (i : Int) * -1)) W
noncomputable def waysF (P : List Nat → List Nat → Bool) (t : List Nat) (ls : List (List Nat)) (f : List Nat) : List Nat → Int := (List.range (ht t f).toNat).foldl (rowStep P t ls (ht t f)) (fun z => if z = f then 1 else 0)
theorem foldl_take_succ {α β : Type} (g : β → α → β) (b : β) {l : List α} {j : Nat} {u : α} (h : l[j]? = some u) : (l.take (j + 1)).foldl g b = g ((l.take j).foldl g b) u := by
  rw [List.take_add_one, h, List.foldl_append]; rfl
theorem off_same {I : Addr} {l l' : List (Addr × Obj)} (e : l'.map (·.1) = l.map (·.1)) (h : ∀ p ∈ l, p.1 ≠ I) : ∀ p ∈ l', p.1 ≠ I := by
  intro p hp
  have : p.1 ∈ l.map (·.1) := by rw [← e]; exact List.mem_map_of_mem hp
  obtain ⟨q, hq, hqe⟩ := List.mem_map.mp this
  rw [← hqe]
  exact h q hq
theorem allLt_lt {d : Addr} : ∀ {l : List (Addr × Obj)}, AllLt d l → ∀ p ∈ l, p.1 < d
  | [], _, _, hp => nomatch hp
  | q :: l, h, p, hp => by
    rcases List.mem_cons.mp hp with rfl | hp
    · exact h.1
    · exact allLt_lt h.2 p hp
structure WaysD (t : List Nat) (ls : List (List Nat)) (c : List (Str × Int)) (W : List Nat → Int) : Prop where
  len : c.length ≤ 33
  at' : ∀ u ∈ ls, kdpHas c (key t u) = true ∧ kdpLook c (key t u) 0 = W u
theorem WaysD.put {t ls c W} (h : WaysD t ls c W) {l : List Nat} (hl : l ∈ ls) (v : Int) : WaysD t ls (kdpPut c (key t l) v) (fun z => if z = l then v else W z) := by
  refine ⟨?_, ?_⟩
  · rw [kdpPut_len_has _ (h.at' l hl).1]; exact h.len
  · intro u hu
    rw [kdpHas_put, kdpLook_put]
    refine ⟨by rw [(h.at' u hu).1]; simp, ?_⟩
    show (if key t u = key t l then v else _) = (if u = l then v else W u)
    by_cases e : u = l
    · rw [if_pos (by rw [e]), if_pos e]
    · rw [if_neg (fun q => e (key_inj.mp q)), if_neg e]
      exact (h.at' u hu).2
theorem rsize_down {a : Int} (h : 0 ≤ a) : Builtin.Range.rangeSize a 0 (-1) = (a.toNat : Int) := by
  unfold Builtin.Range.rangeSize
  rw [if_neg (by omega)]
  split <;> simp <;> omega
theorem rsmall_down {a : Int} (h1 : 0 ≤ a) (h2 : a ≤ 1000) : Builtin.Range.small a 0 (-1) = true := by
  have e := rsize_down h1
  have f : ∀ x : Int, -5000 ≤ x → x ≤ 5000 → Builtin.Range.rangeFitsLong x = true := by
    intro x g1 g2
    unfold Builtin.Range.rangeFitsLong
    simp; omega
  unfold Builtin.Range.small
  rw [e, f a (by omega) (by omega), f 0 (by omega) (by omega), f (-1) (by omega) (by omega), f _ (by omega) (by omega), if_neg (by omega), f _ (by omega) (by omega)]
  simp
theorem ways_spec {w : World} {mean mg mb} (f t : List Nat) (ls : List (List Nat)) (tf : Tok) (Lh : Addr) (vs : List Value) (k : Nat) (bd : Int) (tb : Tok) (news)
   (hL : (Lh, listOf vs.toArray k) ∈ news) (hS : StrsAre vs (ls.map fun u => mkS (u ++ t))) (hls : ls.length ≤ 32) (hf : f ∈ ls) (h5 : ∀ u ∈ ls, u.length = 5) (h9 : ∀ u ∈ ls, ∀ c ∈ u, c = 9 ∨ c = 32) (ht1 : 1 ≤ t.length) (ht2 : t.length ≤ 10) (hb1 : 4 ≤ bd) (hb2 : bd ≤ 10)
   (hh : ∀ u ∈ ls, 0 ≤ ht t u ∧ ht t u ≤ 100) (P : List Nat → List Nat → Bool) (hP : ∀ u ∈ ls, ∀ l ∈ ls, P u l = decide (distF u l bd = 4)) (hP2 : ∀ u ∈ ls, ∀ l ∈ ls, ht t l + 2 = ht t u → P u l = true) :
   Spec w mean mg mb 176 10 80 [Value.str (mkS (f ++ t)) tf, Value.ref Lh, Value.int bd tb] news (fun v own => ∃ (D : Addr) (o : Obj) (kw : List (Str × Value)) (cw : List (Str × Int)), v = .ref D ∧ own = [(D, o)] ∧ (∀ q ∈ news, q.1 < D) ∧ o.IsDictOf (SK w) kw ∧ PyProof.V.FlatPairs PyData.str kw (kdpD cw) ∧ WaysD t ls cw (waysF P t ls f)) := by
  dsimp only [Spec]
  intros; rename_i hret
  refine wpAny_call ?_
  k_dflt cell_enter
  k_steps
  refine Halt.out ?_
  k_sweep
  rename Fr _ _ _ _ => F
  rename News _ _ _ _ => N
  have hvl : vs.length = ls.length := by rw [hS.length, List.length_map]
  refine fr_let F ?_
  clear F
  intro MF1 F
  refine loop_list (its := vs.toArray) (k := k) (by rfl) (List.mem_cons_of_mem _ (List.mem_cons_of_mem _ hL)) F N
    (fun M nw i m₁ l' => ∃ (H D : Addr) (o1 o2 oh ow : Obj) (kh kw : List (Str × Value)) (ch cw : List (Str × Int)), (D, o2) :: (H, o1) :: news = nw ∧ l' = (D, ow) :: (H, oh) :: news ∧ @Ne Nat D H ∧ (∀ p ∈ news, p.1 < D) ∧ (∀ p ∈ news, p.1 ≠ H) ∧
      oh.IsDictOf (SK w) kh ∧ PyProof.V.FlatPairs PyData.str kh (kdpD ch) ∧ ow.IsDictOf (SK w) kw ∧ PyProof.V.FlatPairs PyData.str kw (kdpD cw) ∧ ch.length ≤ i ∧ cw.length ≤ i ∧
      (∀ j u, j < i → ls[j]? = some u → kdpHas ch (key t u) = true ∧ kdpLook ch (key t u) 0 = ht t u ∧ kdpHas cw (key t u) = true ∧ kdpLook cw (key t u) 0 = 0) ∧ ∀ z, z ≠ Str.ofString "line" → m₁ z = M z) ?_ ?_ ?_ ?_
  · refine ⟨_, _, _, _, _, _, [], [], [], [], rfl, rfl, ?_, ?_, ?_, by assumption, by assumption, by assumption, by assumption, by simp, by simp, by intro j u hj; omega, fun z _ => rfl⟩
    · rename (_ < _ ∧ AllLt _ news) => q
      exact Nat.ne_of_gt q.1
    · rename (_ < _ ∧ AllLt _ news) => q
      exact allLt_lt q.2
    · exact lt_ne (by assumption)
  · rintro i m l' ⟨H, D, o1, o2, oh, ow, kh, kw, ch, cw, e, rfl, _⟩
    exact List.mem_cons_of_mem _ (List.mem_cons_of_mem _ hL)
  · rintro I it i v m₁ news₁ h tk hi hv ⟨H, D, o1, o2, oh, ow, kh, kw, ch, cw, e, rfl, nDH, nD, nH, d1, f1, d2, f2, l1, l2, hj, hm⟩ ho F' N'
    clear F N
    k_fold
    injection e with e e'
    injection e with e _
    subst e
    injection e' with e _
    injection e with e _
    subst e
    rw [frm0_1 hm] at F'
    clear hm
    obtain ⟨x, tv, hx, rfl⟩ := strs_at hS hv
    rw [List.getElem?_map] at hx
    obtain ⟨u, hu, rfl⟩ := Option.map_eq_some_iff.mp hx
    have hum : u ∈ ls := List.mem_of_getElem? hu
    have hu5 := h5 u hum
    have hDI : @Ne Nat D I := fun e => ho _ (List.mem_cons_self ..) e
    have hID : @Ne Nat I D := fun e => hDI e.symm
    have hHI : @Ne Nat H I := fun e => ho _ (List.mem_cons_of_mem _ (List.mem_cons_self ..)) e
    have hIH : @Ne Nat I H := fun e => hHI e.symm
    have nHD : @Ne Nat H D := fun e => nDH e.symm
    have hii : i < 32 := by rw [List.size_toArray] at hi; omega
    k_steps
    refine TurnEnd.intro (by assumption) (by assumption) ((D, _) :: (H, _) :: news) (List.mem_cons_self ..) (fun p hp => List.mem_cons_of_mem _ hp) ?_ ⟨H, D, _, _, _, _, _, _, kdpPut ch (key t u) (ht t u), kdpPut cw (key t u) 0, rfl, rfl, nDH, nD, nH, by assumption, by assumption, by assumption, by assumption, ?_, ?_, ?_, by intro z h1; simp only [h1, if_false]⟩
    · exact off_set2 ho
    · have := kdpPut_len ch (key t u) (ht t u)
      omega
    · have := kdpPut_len cw (key t u) 0
      omega
    · intro j u' hj' hu'
      rw [kdpHas_put, kdpHas_put, kdpLook_put, kdpLook_put]
      by_cases e : u' = u
      · subst e
        simp
      · have hjj : j ≠ i := by
          rintro rfl
          rw [hu] at hu'
          exact e (Option.some.inj hu').symm
        obtain ⟨a1, a2, a3, a4⟩ := hj j u' (by omega) hu'
        have ne : ¬ key t u' = key t u := fun q => e (key_inj.mp q)
        simp only [ne, if_false, decide_false, Bool.false_or]
        exact ⟨a1, a2, a3, a4⟩
  · rintro h tk m₁ news₁ ⟨H, D, o1, o2, oh, ow, kh, kw, ch, cw, e, rfl, nDH, nD, nH, d1, f1, d2, f2, l1, l2, hj, hm⟩ F' N'
    clear F N
    injection e with e e'
    injection e with e _
    subst e
    injection e' with e _
    injection e with e _
    subst e
    rw [frm0_1 hm] at F'
    clear hm
    have hsz : vs.toArray.size = ls.length := by rw [List.size_toArray, hvl]
    rw [hsz] at l1 l2 hj
    have hH : ∀ u ∈ ls, kdpHas ch (key t u) = true ∧ kdpLook ch (key t u) 0 = ht t u := by
      intro u hu
      obtain ⟨j, hj1, hj2⟩ := List.getElem_of_mem hu
      obtain ⟨a1, a2, _⟩ := hj j u hj1 (by rw [← hj2]; exact List.getElem?_eq_getElem hj1)
      exact ⟨a1, a2⟩
    have hW : WaysD t ls cw (fun _ => 0) := by
      refine ⟨by omega, ?_⟩
      intro u hu
      obtain ⟨j, hj1, hj2⟩ := List.getElem_of_mem hu
      obtain ⟨_, _, a1, a2⟩ := hj j u hj1 (by rw [← hj2]; exact List.getElem?_eq_getElem hj1)
      exact ⟨a1, a2⟩
    have nHD : @Ne Nat H D := fun e => nDH e.symm
    clear hj
    have hHf := hH f hf
    have hWf := (hW.at' f hf).1
    have hwl := hW.len
    k_steps
    refine Halt.out ?_
    k_sweep
    rename Fr _ _ _ _ => F
    rename News _ _ _ _ => N
    rename IsRange _ _ _ _ _ _ _ _ => R
    rw [hHf.2] at R
    obtain ⟨g1, g2⟩ := hh f hf
    have hW1 := hW.put hf 1
    refine fr_let F ?_
    clear F
    intro MF2 F
    refine loop_range (n := (ht t f).toNat) (by rfl) R (rsmall_down g1 (by omega)) (rsize_down g1) (by assumption) (by assumption)
      (fun M nw i m₁ l' => ∃ (ow : Obj) (kw : List (Str × Value)) (cw : List (Str × Int)), l' = (D, ow) :: (H, oh) :: news ∧ ow.IsDictOf (SK w) kw ∧ PyProof.V.FlatPairs PyData.str kw (kdpD cw) ∧
        WaysD t ls cw ((List.range i).foldl (rowStep P t ls (ht t f)) (fun z => if z = f then 1 else 0)) ∧ ∀ z, z ≠ Str.ofString "height" → z ≠ Str.ofString "upper" → z ≠ Str.ofString "lower" → m₁ z = M z) ?_ ?_ ?_
    · exact ⟨_, _, _, rfl, by assumption, by assumption, hW1, fun z _ _ _ => rfl⟩
    · rintro I it i ti m₁ news₁ h tk hi ⟨ow, kw, cw, rfl, d2, f2, hW, hm⟩ ho F' N'
      clear F N R
      rw [frm0_3 hm] at F'
      k_fold
      clear hm
      k_steps
      refine Halt.out ?_
      k_sweep
      rename Fr _ _ _ _ => F
      rename News _ _ _ _ => N
      have hDI : @Ne Nat D I := fun e => ho _ (List.mem_cons_self ..) e
      have hID : @Ne Nat I D := fun e => hDI e.symm
      have hHI : @Ne Nat H I := fun e => ho _ (List.mem_cons_of_mem _ (List.mem_cons_self ..)) e
      have hIH : @Ne Nat I H := fun e => hHI e.symm
      refine fr_let F ?_
      clear F
      intro MF3 F
      refine loop_list (its := vs.toArray) (k := k) (by rfl) (List.mem_cons_of_mem _ (List.mem_cons_of_mem _ (List.mem_cons_of_mem _ hL))) F N
        (fun M nw j m₁ l' => ∃ (ow : Obj) (kw : List (Str × Value)) (cw : List (Str × Int)), l' = (I, it) :: (D, ow) :: (H, oh) :: news ∧ ow.IsDictOf (SK w) kw ∧ PyProof.V.FlatPairs PyData.str kw (kdpD cw) ∧
          WaysD t ls cw ((ls.take j).foldl (upStep P t ls (ht t f + (i : Int) * -1)) ((List.range i).foldl (rowStep P t ls (ht t f)) (fun z => if z = f then 1 else 0))) ∧ ∀ z, z ≠ Str.ofString "upper" → z ≠ Str.ofString "lower" → m₁ z = M z) ?_ ?_ ?_ ?_
      · exact ⟨_, _, _, rfl, by assumption, by assumption, hW, fun z _ _ => rfl⟩
      · rintro j m l' ⟨ow, kw, cw, rfl, _⟩
        exact List.mem_cons_of_mem _ (List.mem_cons_of_mem _ (List.mem_cons_of_mem _ hL))
      · rintro I2 it2 j v m₁ news₁ h tk hj hv ⟨ow, kw, cw, rfl, d2, f2, hW, hm⟩ ho2 F' N'
        clear F N
        rw [frm0_2 hm] at F'
        k_fold
        clear hm
        obtain ⟨x, tv, hx, rfl⟩ := strs_at hS hv
        rw [List.getElem?_map] at hx
        obtain ⟨u, hu, rfl⟩ := Option.map_eq_some_iff.mp hx
        have hum : u ∈ ls := List.mem_of_getElem? hu
        have hu5 := h5 u hum
        have hu9 := h9 u hum
        have hHu : kdpHas ch (mkS (u ++ t)) = true := (hH u hum).1
        have hHu2 : kdpLook ch (mkS (u ++ t)) 0 = ht t u := (hH u hum).2
        have hWu : kdpHas cw (mkS (u ++ t)) = true := (hW.at' u hum).1
        have hWu2 : kdpLook cw (mkS (u ++ t)) 0 = _ := (hW.at' u hum).2
        have hts := foldl_take_succ (upStep P t ls (ht t f + (i : Int) * -1)) ((List.range i).foldl (rowStep P t ls (ht t f)) (fun z => if z = f then 1 else 0)) hu
        k_steps
        · refine Halt.out ?_
          k_sweep
          rename Fr _ _ _ _ => F
          rename News _ _ _ _ => N
          rename (kdpLook ch _ _ = ht t f + _) => c1
          rename (kdpLook cw _ _ > 0) => c2
          have hus : upStep P t ls (ht t f + (i : Int) * -1) ((ls.take j).foldl (upStep P t ls (ht t f + (i : Int) * -1)) ((List.range i).foldl (rowStep P t ls (ht t f)) (fun z => if z = f then 1 else 0))) u = ls.foldl (lowStep P t (ht t f + (i : Int) * -1) u) ((ls.take j).foldl (upStep P t ls (ht t f + (i : Int) * -1)) ((List.range i).foldl (rowStep P t ls (ht t f)) (fun z => if z = f then 1 else 0))) := by
            rw [upStep, if_pos ⟨by omega, by omega⟩]
          have hts' := hts.trans hus
          clear hts hus
          obtain ⟨W0, hW0⟩ : ∃ W0, W0 = (ls.take j).foldl (upStep P t ls (ht t f + (i : Int) * -1)) ((List.range i).foldl (rowStep P t ls (ht t f)) (fun z => if z = f then 1 else 0)) := ⟨_, rfl⟩
          rw [← hW0] at hW hts' hWu2
          clear hW0
          have hDI2 : @Ne Nat D I2 := fun e => ho2 _ (List.mem_cons_of_mem _ (List.mem_cons_self ..)) e
          have hI2D : @Ne Nat I2 D := fun e => hDI2 e.symm
          refine fr_let F ?_
          clear F
          intro MF4 F
          refine loop_list (its := vs.toArray) (k := k) (by rfl) (List.mem_cons_of_mem _ (List.mem_cons_of_mem _ (List.mem_cons_of_mem _ (List.mem_cons_of_mem _ hL)))) F N
            (fun M nw q m₁ l' => ∃ (ow : Obj) (kw : List (Str × Value)) (cw : List (Str × Int)), l' = (I2, it2) :: (I, it) :: (D, ow) :: (H, oh) :: news ∧ ow.IsDictOf (SK w) kw ∧ PyProof.V.FlatPairs PyData.str kw (kdpD cw) ∧
              WaysD t ls cw ((ls.take q).foldl (lowStep P t (ht t f + (i : Int) * -1) u) W0) ∧ ∀ z, z ≠ Str.ofString "lower" → m₁ z = M z) ?_ ?_ ?_ ?_
          · exact ⟨_, _, _, rfl, by assumption, by assumption, hW, fun z _ => rfl⟩
          · rintro j m l' ⟨ow, kw, cw, rfl, _⟩
            exact List.mem_cons_of_mem _ (List.mem_cons_of_mem _ (List.mem_cons_of_mem _ (List.mem_cons_of_mem _ hL)))
          · rintro I3 it3 q v m₁ news₁ h tk hq hv ⟨ow, kw, cw, rfl, d2, f2, hW, hm⟩ ho3 F' N'
            clear F N
            rw [frm0_1 hm] at F'
            k_fold
            clear hm
            have hDI3 : @Ne Nat D I3 := fun e => ho3 _ (List.mem_cons_of_mem _ (List.mem_cons_of_mem _ (List.mem_cons_self ..))) e
            have hI3D : @Ne Nat I3 D := fun e => hDI3 e.symm
            obtain ⟨x, tl, hx, rfl⟩ := strs_at hS hv
            rw [List.getElem?_map] at hx
            obtain ⟨l, hl, rfl⟩ := Option.map_eq_some_iff.mp hx
            have hlm : l ∈ ls := List.mem_of_getElem? hl
            have hl5 := h5 l hlm
            have hl9 := h9 l hlm
            have hHl : kdpHas ch (mkS (l ++ t)) = true := (hH l hlm).1
            have hHl2 : kdpLook ch (mkS (l ++ t)) 0 = ht t l := (hH l hlm).2
            have hWl : kdpHas cw (mkS (l ++ t)) = true := (hW.at' l hlm).1
            have hWl2 : kdpLook cw (mkS (l ++ t)) 0 = _ := (hW.at' l hlm).2
            have hWu : kdpHas cw (mkS (u ++ t)) = true := (hW.at' u hum).1
            have hWu2 : kdpLook cw (mkS (u ++ t)) 0 = _ := (hW.at' u hum).2
            have hts := foldl_take_succ (lowStep P t (ht t f + (i : Int) * -1) u) W0 hl
            have hPl := hP u hum l hlm
            have hP2l := hP2 u hum l hlm
            have hwl := hW.len
            k_steps
            · exfalso; omega
            · rename (distF u l bd = 4) => c3
              rename (kdpLook ch (mkS (l ++ t)) 0 + 1 = _) => c4
              refine TurnEnd.intro (by assumption) (by assumption) ((I2, it2) :: (I, it) :: (D, _) :: (H, oh) :: news) (List.mem_cons_self ..) (fun p hp => List.mem_cons_of_mem _ hp) (off_same (by rfl) ho3) ⟨_, _, _, rfl, by assumption, by assumption, ?_, by intro z h1; simp only [h1, if_false]⟩
              rw [hts, lowStep, if_pos ⟨by omega, by rw [hPl]; exact decide_eq_true c3⟩, ← hWl2, ← hWu2]
              exact hW.put hlm _
            · exfalso; omega
            · rename (distF u l bd ≠ 4) => c3
              refine TurnEnd.intro (by assumption) (by assumption) ((I2, it2) :: (I, it) :: (D, _) :: (H, oh) :: news) (List.mem_cons_self ..) (fun p hp => List.mem_cons_of_mem _ hp) (off_same (by rfl) ho3) ⟨_, _, _, rfl, d2, f2, ?_, by intro z h1; simp only [h1, if_false]⟩
              rw [hts, lowStep, if_neg (by rintro ⟨_, e⟩; rw [hPl] at e; exact c3 (of_decide_eq_true e))]
              exact hW
            · rename (kdpLook ch (mkS (l ++ t)) 0 + 1 ≠ _) => c4
              refine TurnEnd.intro (by assumption) (by assumption) ((I2, it2) :: (I, it) :: (D, _) :: (H, oh) :: news) (List.mem_cons_self ..) (fun p hp => List.mem_cons_of_mem _ hp) (off_same (by rfl) ho3) ⟨_, _, _, rfl, d2, f2, ?_, by intro z h1; simp only [h1, if_false]⟩
              rw [hts, lowStep, if_neg (by rintro ⟨e, _⟩; omega)]
              exact hW
            · exfalso
              rename (distF u l bd ≠ 4) => c3
              have e := hP2l (by omega)
              rw [hPl] at e
              exact c3 (of_decide_eq_true e)
            · rename (kdpLook ch (mkS (l ++ t)) 0 + 1 ≠ _) => c4
              refine TurnEnd.intro (by assumption) (by assumption) ((I2, it2) :: (I, it) :: (D, _) :: (H, oh) :: news) (List.mem_cons_self ..) (fun p hp => List.mem_cons_of_mem _ hp) (off_same (by rfl) ho3) ⟨_, _, _, rfl, d2, f2, ?_, by intro z h1; simp only [h1, if_false]⟩
              rw [hts, lowStep, if_neg (by rintro ⟨e, _⟩; omega)]
              exact hW
          · rintro h tk m₁ news₁ ⟨ow, kw, cw, rfl, d2, f2, hW, hm⟩ F' N'
            clear F N
            rw [frm0_1 hm] at F'
            rw [hsz, List.take_length] at hW
            dsimp only
            k_steps
            refine TurnEnd.intro (by assumption) (by assumption) ((I, it) :: (D, _) :: (H, oh) :: news) (List.mem_cons_self ..) (fun p hp => List.mem_cons_of_mem _ hp) (off_same (by rfl) ho2) ⟨_, _, _, rfl, d2, f2, ?_, by intro z h1 h2; simp only [MF4, h1, h2, if_false]⟩
            rw [hts']
            exact hW
        · rename (¬ kdpLook cw _ _ > 0) => c2
          refine TurnEnd.intro (by assumption) (by assumption) ((I, it) :: (D, _) :: (H, oh) :: news) (List.mem_cons_self ..) (fun p hp => List.mem_cons_of_mem _ hp) (off_same (by rfl) ho2) ⟨_, _, _, rfl, d2, f2, ?_, by intro z h1 h2; simp only [h1, h2, if_false]⟩
          rw [hts, upStep, if_neg (by rintro ⟨_, e⟩; omega)]
          exact hW
        · rename (kdpLook ch _ _ ≠ ht t f + _) => c2
          refine TurnEnd.intro (by assumption) (by assumption) ((I, it) :: (D, _) :: (H, oh) :: news) (List.mem_cons_self ..) (fun p hp => List.mem_cons_of_mem _ hp) (off_same (by rfl) ho2) ⟨_, _, _, rfl, d2, f2, ?_, by intro z h1 h2; simp only [h1, h2, if_false]⟩
          rw [hts, upStep, if_neg (by rintro ⟨e, _⟩; omega)]
          exact hW
      · rintro h tk m₁ news₁ ⟨ow, kw, cw, rfl, d2, f2, hW, hm⟩ F' N'
        clear F N
        rw [frm0_2 hm] at F'
        rw [hsz, List.take_length] at hW
        dsimp only
        k_steps
        refine TurnEnd.intro (by assumption) (by assumption) ((D, _) :: (H, oh) :: news) (List.mem_cons_self ..) (fun p hp => List.mem_cons_of_mem _ hp) (off_same (by rfl) ho) ⟨_, _, _, rfl, d2, f2, ?_, by intro z h1 h2 h3; simp only [MF3, h1, h2, h3, if_false]⟩
        rw [List.range_succ, List.foldl_append]
        exact hW
    · rintro h tk m₁ news₁ ⟨ow, kw, cw, rfl, d2, f2, hW, hm⟩ F' N'
      clear F N R
      rw [frm0_3 hm] at F'
      dsimp only
      k_steps
      refine hret _ [(D, ow)] _ _ ⟨D, ow, kw, cw, rfl, rfl, ?_, d2, f2, hW⟩ (by assumption) ?_
      · exact nD
      · refine News.perm (by assumption) ?_
        intro p hp
        rcases List.mem_cons.mp hp with rfl | hp
        · exact List.mem_cons_self ..
        · exact List.mem_cons_of_mem _ (List.mem_cons_of_mem _ hp)
end
-- part 10d_dict
section
example : True := by
  k_with_none
  k_with "my exec For Name Call cons nil" => first | ((k_here; (rename Fr _ _ _ _ => zlF'); (with_unfolding_all refine' For_invVF zlF' ?zk1 ?zk2 ?_; (case zk1 => exact rfl); (case zk2 => exact rfl); k_whole))) | fail
  k_with "my exec For Name Name cons nil" => first | ((k_here; (rename Fr _ _ _ _ => zlF'); (with_unfolding_all refine' For_invVF zlF' ?zk1 ?zk2 ?_; (case zk1 => exact rfl); (case zk2 => exact rfl); k_whole))) | fail
  k_with "my exec For Name Attribute cons nil" => first | ((k_here; (rename Fr _ _ _ _ => zlF'); (with_unfolding_all refine' For_invVF zlF' ?zk1 ?zk2 ?_; (case zk1 => exact rfl); (case zk2 => exact rfl); k_whole))) | fail
  k_with "my exec For Name Subscript cons nil" => first | ((k_here; (rename Fr _ _ _ _ => zlF'); (with_unfolding_all refine' For_invVF zlF' ?zk1 ?zk2 ?_; (case zk1 => exact rfl); (case zk2 => exact rfl); k_whole))) | fail
  k_with "my pyIter ref" => first | (((with_reducible show wpAny _ _ (pyIter (Value.ref _)) (fun it s₂ => LoopAtV _ _ _ _ _ _ _ _ _ it s₂) _ _); refine halt_of ?_)) | fail
  k_with "my pyIter str" => first | (((with_reducible show wpAny _ _ (pyIter (Value.str _ _)) (fun it s₂ => LoopAtV _ _ _ _ _ _ _ _ _ it s₂) _ _); refine halt_of ?_)) | fail
  k_with "my exec While BoolOp cons nil" => first | (refine halt_of ?_) | fail
  k_with "my exec While Compare cons nil" => first | (refine halt_of ?_) | fail
  k_with "my subscriptTail Name Slice str ref" => first | (((with_reducible show wpAny _ _ (subscriptTail _ (Expr.Slice none (some _) none _) _ _) _ _ _); (with_reducible rename Fr _ _ _ _ => zF'); (with_reducible rename News _ _ _ _ => zN'); (refine slice_strN_nn_len (hsz := ?zhsz) (s := ⟨_, _, _, _, _⟩) zF' zN' ?_); (case zhsz => size_fits); intro _ _ _ _ _ _)) | fail
  k_with "my ite" => first | (first | ((with_reducible show ite ((_ != (0 : Int)) = true) _ _); k_dflt (first | refine ite_bne_t (by omega) ?_ | refine ite_bne_f (by omega) ?_)) | ((with_reducible show ite ((!(_ != (0 : Int))) = true) _ _); k_dflt (first | refine ite_nbne_t (by omega) ?_ | refine ite_nbne_f (by omega) ?_)) | ((with_reducible show ite (decide _ = true) _ _); k_dflt (first | refine ite_dec_t (by omega) ?_ | refine ite_dec_f (by omega) ?_))) | fail
  k_with "my call type:list" => first | (((with_reducible show wpAny _ _ (call (Value.type _) [Value.ref _]) _ _ _); refine halt_of ?_)) | fail
  k_with "my setItem ref int" => first | ((k_here; (with_reducible show wpAny _ _ (setItem (Value.ref _) (Value.int _ _) (Value.int _ _)) _ _ _); k_dflt (refine' ksa_set ?zk1 ?zk2 ?zk3 ?zk4 ?zk5 ?zk6 ?zk7 ?_; (case zk1 => k_asm); (case zk2 => k_asm); (case zk3 => (repeat (first | exact Upd.head (by assumption) | refine Upd.tail (by assumption) ?_))); (case zk4 => with_reducible assumption); (case zk5 => ksa_idx); (case zk6 => ksa_idx); (case zk7 => ksa_idx); k_whole); intro zh' zF' zN' zhi' zhl' zhs'; (try k_sweep))) | fail
  k_with "my k_all" => first | (first | assumption | exact lt_ne (by assumption) | exact allLt_ne (by first | assumption | exact And.right (by assumption) | exact And.right (And.right (by assumption)) | exact And.right (And.right (And.right (by assumption))) | exact And.right (And.right (And.right (And.right (by assumption)))) | exact And.right (And.right (And.right (And.right (And.right (by assumption))))) | exact And.right (And.right (And.right (And.right (And.right (And.right (by assumption)))))) | exact And.right (And.right (And.right (And.right (And.right (And.right (And.right (by assumption))))))))) | fail
  k_with "my call type:tuple" => first | ((k_here; (with_reducible show wpAny _ _ (call (Value.type _) [Value.ref _]) _ _ _); k_dflt (refine' kde_tupleOf ?zk1 ?zk2 ?zk3 ?zk4 ?zk5 ?_; (case zk1 => k_asm); (case zk2 => k_asm); (case zk3 => exact News.isList (by k_asm) (by k_mem)); (case zk4 => exact sz_ints (by assumption) (by omega)); (case zk5 => rfl); k_whole); intro zD' zh' zF' zN' zl1; (try k_lt zl1); (try k_sweep))) | fail
  k_with "my call ref" => first | ((plain_pass; k_here; (refine wpAny_call ?_); k_dflt (refine' code_def ?zk1 ?zk2 ?zk3 ?zk4 ?zk5 ?zkA ?zkF ?zkK ?zk6 ?zk7 ?zk8 ?zk9 ?zkB ?_ ?zc2 ?zc3 ?zc4 ?zc5; (case zkA => exact rfl); (case zkF => exact rfl); (case zkK => first | exact rfl | assumption); (case zk1 => k_asm); (case zk2 => k_asm); (case zk3 => k_asm); (case zk4 => k_asm); (case zk5 => k_asm); (case zk6 => k_is); (case zk7 => k_is); (case zk8 => ktr_room); (case zk9 => exact BindsTo.of_eq rfl); (case zc5 => decide); (case zkB => exact locs rfl); (case zc2 => exact rfl); (case zc3 => exact rfl); (case zc4 => exact rfl); k_whole; intro zg' zL' zh' zFG' zF' zN' zB' zX' zT'; (try dsimp only); (try k_lift zB'); (try k_fold)))) | fail
  k_with "my call type:range" => first | (((rename Fr _ _ _ _ => zF'); (rename News _ _ _ _ => zN'); first | (with_unfolding_all refine range1_rows zF' zN' ?_; intro _ _ _ _ _ _ _ _ _) | (with_unfolding_all refine range2_rows zF' zN' ?_; intro _ _ _ _ _ _ _ _ _))) | fail
  k_with "my eval ListComp" => first | ((k_here; k_dflt (refine LCg.ListComp_U (F₀ := by k_asm) (by with_unfolding_all rfl) (by decide) (by rfl) (by decide) (by rfl) ?_))) | fail
  k_with "my exec Assign cons ListComp" => first | ((k_here; k_dflt (refine LCg.Assign_ListComp_U (F₀ := by k_asm) (by rfl) (by with_unfolding_all rfl) (by with_unfolding_all rfl) (by decide) (by rfl) (by decide) (by rfl) (by rfl) (by rfl) ?_))) | fail
  k_with "my CompSrc" => first | (refine halt_of ?_) | fail
  k_with "my call ref" => first | (((with_reducible show wpAny _ _ (PySem.call (Value.ref 28) _ _) _ _ _); k_dflt (refine' sub_spec _ _ _ _ _ ?zp0 ?zp1 _ _ _ _ _ _ _ _ _ _ _ _ _ _ _ _ _ ?zq1 ?zq2 ?zq3 ?zq4 ?zq5 ?zq6 ?zq7 ?zq8 ?_); (case zp0 => assumption); (case zp1 => assumption); (case zq1 => k_asm); (case zq2 => k_asm); (case zq3 => k_asm); (case zq4 => k_asm); (case zq5 => k_asm); (case zq6 => first | exact rfl | assumption); (case zq7 => ktr_room); (case zq8 => ktr_units); rintro zv' zown' zh' ztk' ⟨⟨zt', ze1⟩, ze2⟩ zF' zN'; subst ze1; subst ze2; (try simp only [List.nil_append] at zN'); (try dsimp only); (try k_fold))) | fail
  k_with "my call ref" => first | (((with_reducible show wpAny _ _ (PySem.call (Value.ref 153) _ _) _ _ _); k_dflt (refine' ws_call _ _ _ _ ?zp0 ?zp1 _ _ _ _ _ _ _ _ _ _ _ _ _ _ _ _ _ ?zq1 ?zq2 ?zq3 ?zq4 ?zq5 ?zq6 ?zq7 ?zq8 ?_); (case zp0 => assumption); (case zp1 => first | omega | (simp only [List.length_drop, List.length_take]; omega)); (case zq1 => k_asm); (case zq2 => k_asm); (case zq3 => k_asm); (case zq4 => k_asm); (case zq5 => k_asm); (case zq6 => first | exact rfl | assumption); (case zq7 => ktr_room); (case zq8 => ktr_units); rintro zv' zown' zh' ztk' ⟨zx', zd', zT1', zT2', zvs', zk1', zk2', zk3', zk4', zk5', zt2', zt3', zt4', ze1, zhI', zl1', zl2', zl3', zl4', ze2⟩ zF' zN'; subst ze1; subst ze2; (try simp only [List.cons_append, List.nil_append] at zN'); (try dsimp only [wsD, tupO] at zN'); (try k_lt zl1'); (try simp only [List.nil_append] at zN'); (try dsimp only); (try k_fold))) | fail
  k_with "my call ref" => first | (((with_reducible show wpAny _ _ (PySem.call (Value.ref 169) _ _) _ _ _); k_dflt (refine' height_spec _ _ _ ?zp0 ?zp1 _ _ _ _ _ _ _ _ _ _ _ _ _ _ _ _ _ ?zq1 ?zq2 ?zq3 ?zq4 ?zq5 ?zq6 ?zq7 ?zq8 ?_); (case zp0 => first | omega | (simp only [List.length_append]; omega)); (case zp1 => first | omega | (simp only [List.length_append]; omega)); (case zq1 => k_asm); (case zq2 => k_asm); (case zq3 => k_asm); (case zq4 => k_asm); (case zq5 => k_asm); (case zq6 => first | exact rfl | assumption); (case zq7 => ktr_room); (case zq8 => ktr_units); rintro zv' zown' zh' ztk' ⟨⟨zt', ze1⟩, ze2⟩ zF' zN'; subst ze1; subst ze2; (try simp only [List.nil_append] at zN'); (try dsimp only); (try k_fold))) | fail
  k_with "my call ref" => first | (((with_reducible show wpAny _ _ (PySem.call (Value.ref 35) _ _) _ _ _); k_dflt (refine' lev_any _ _ _ _ _ _ _ _ ?zp0 ?zp1 ?zp2 ?zp3 ?zp4 ?zp5 ?zp6 ?zp7 _ _ _ _ _ _ _ _ _ _ _ _ _ _ _ _ _ ?zq1 ?zq2 ?zq3 ?zq4 ?zq5 ?zq6 ?zq7 ?zq8 ?_); (case zp0 => assumption); (case zp1 => assumption); (case zp2 => assumption); (case zp3 => assumption); (case zp4 => omega); (case zp5 => omega); (case zp6 => omega); (case zp7 => omega); (case zq1 => k_asm); (case zq2 => k_asm); (case zq3 => k_asm); (case zq4 => k_asm); (case zq5 => k_asm); (case zq6 => first | exact rfl | assumption); (case zq7 => ktr_room); (case zq8 => ktr_units); rintro zv' zown' zh' ztk' ⟨⟨zt', ze1⟩, ze2⟩ zF' zN'; subst ze1; subst ze2; (try simp only [List.nil_append] at zN'); (try dsimp only); (try k_fold))) | fail
  k_with "my call ref" => first | ((plain_pass; (with_reducible show wpAny _ _ (PySem.call (Value.ref 162) _ _) _ _ _); refine halt_of ?_)) | fail
  k_with "my lt" => first | assumption | exact And.left (by assumption) | exact And.left (And.right (by assumption)) | exact And.right (by assumption) | exact And.left (And.right (And.right (by assumption))) | exact And.right (And.right (by assumption)) | exact And.left (And.right (And.right (And.right (by assumption)))) | exact And.right (And.right (And.right (by assumption))) | exact And.left (And.right (And.right (And.right (And.right (by assumption))))) | exact And.right (And.right (And.right (And.right (by assumption)))) | exact And.left (And.right (And.right (And.right (And.right (And.right (by assumption)))))) | exact And.right (And.right (And.right (And.right (And.right (by assumption))))) | exact And.left (And.right (And.right (And.right (And.right (And.right (And.right (by assumption))))))) | exact And.right (And.right (And.right (And.right (And.right (And.right (by assumption)))))) | exact And.left (And.right (And.right (And.right (And.right (And.right (And.right (And.right (by assumption)))))))) | exact And.right (And.right (And.right (And.right (And.right (And.right (And.right (by assumption))))))) | exact And.left (And.right (And.right (And.right (And.right (And.right (And.right (And.right (And.right (by assumption))))))))) | exact And.right (And.right (And.right (And.right (And.right (And.right (And.right (And.right (by assumption)))))))) | fail
  k_with "my succ" => first | (first | exact Nat.lt_succ_self _ | exact Nat.lt_succ_of_lt (Nat.lt_succ_self _) | exact Nat.lt_succ_of_lt (Nat.lt_succ_of_lt (Nat.lt_succ_self _)) | exact Nat.lt_succ_of_lt (Nat.lt_succ_of_lt (Nat.lt_succ_of_lt (Nat.lt_succ_self _)))) | fail
  k_with "my omega" => with_reducible (first | assumption | decide | exact room0 (by assumption) | exact room1 (by assumption) rfl | exact room2 (by assumption) rfl | exact idx_nn _ | exact idx_ge _ _ | exact idx_lo _ | exact idx_lo' _ | exact idx_to _ | exact idx_one _ | exact idx_lt (by assumption) | exact idx_lt (lt_of_eq' (by assumption) (by assumption)) | exact idx_hi (by assumption) rfl | exact idx_hi2 (by assumption) (by assumption) rfl | exact nn_neg _ _ | exact Int.natCast_nonneg _ | exact cast_hi (by assumption) rfl | exact cast_hi2 (by assumption) (by assumption) rfl | exact cast_hi3 (by assumption) (by assumption) rfl | exact ng_lt _ _ | exact ng_hi _ | exact ng_ge (by assumption) | exact ng_lo (by assumption) rfl | exact ng_lo0 (by assumption) | exact ng_neg (by assumption) | exact ng_ne (by assumption) | exact cast_ne (by assumption) | exact cast_ne' (by assumption) (by assumption) | exact not_big (by assumption) (by assumption) rfl | exact slc_lt (by assumption) (by assumption) | exact slc_hi (by assumption) (by assumption) (by assumption) rfl | exact ix_pos (by assumption) | exact ix_ne (by assumption) | exact ix_add (by assumption) | exact le_add' _ _ | exact imp_ne (by assumption) (by assumption) | exact Nat.lt_succ_self _ | exact Nat.le_succ_of_le (by assumption) | exact le_big (by assumption) rfl | exact le_big' (by assumption) (by assumption) rfl | exact pos_of (by assumption) (by assumption) | exact lt_of_eq' (by assumption) (by assumption) | exact int_pos (by assumption) | exact eq_of (by assumption) (by assumption) | exact Ne.symm (by assumption) | (refine Nat.ne_of_gt ?_; k_extra "my lt") | (refine Nat.ne_of_lt ?_; k_extra "my lt") | (refine Nat.ne_of_gt ?_; k_extra "my succ") | (refine Nat.ne_of_lt ?_; k_extra "my succ") | exact Int.le_trans (by assumption) (by decide) | exact Int.lt_of_le_of_lt (by assumption) (by decide) | exact Int.lt_of_lt_of_le (by decide) (by assumption) | exact Nat.le_trans (Nat.le_of_lt (by assumption)) (Nat.le_of_ble_eq_true rfl) | exact Int.ofNat_le.mpr (Nat.le_trans (by assumption) (Nat.le_of_ble_eq_true rfl)) | fail)
  trivial
section
variable {prog : Program} {w : World} {A : Around} {E : Value → Shared → Prop} {s : Shared} {h₀ : Heap} {env : Env} {x : Str} {body : List Stmt} {Q : Flow → Shared → Prop}
/-- for key in a dict of the ledger, the keys texts -/
theorem loop_dict {d : Addr} {o : Obj} {kvs : List (Str × Value)} {m₀ : Str → Option Value} {news : List (Addr × Obj)}
    (hh : A.handled = none) (hd : o.IsDictOf (PySem.strKind prog w) kvs) (lo : (d == sysModules) = false) (hm : (d, o) ∈ news)
    (F : Fr h₀ env.locals s.heap m₀) (N : News h₀ env.locals s.heap news)
    (J : (Str → Option Value) → List (Addr × Obj) → Nat → (Str → Option Value) → List (Addr × Obj) → Prop) (h0 : J m₀ news 0 m₀ news) (hsub : ∀ i m l', J m₀ news i m l' → (d, o) ∈ l')
    (turn : ∀ I it i k v t m₁ news₁ h tk, kvs[i]? = some (k, v) → J m₀ news i m₁ news₁ → (∀ p ∈ news₁, p.1 ≠ I) → Fr h₀ env.locals h (fun y => if y = x then some (.str k t) else m₁ y) → News h₀ env.locals h ((I, it) :: news₁) →
      wpAny (model prog w) A (execs body env) (TurnPost h₀ env.locals { s with heap := h, toks := tk } I it (J m₀ news (i + 1)) Q) E { s with heap := h, toks := tk })
    (done : ∀ h tk m₁ news₁, J m₀ news kvs.length m₁ news₁ → Fr h₀ env.locals h m₁ → News h₀ env.locals h news₁ → Q .next { s with heap := h, toks := tk }) :
    wpAny (model prog w) A (pyIter (.ref d)) (fun it s₂ => LoopAtV prog w A h₀ env x body Q E it s₂) E s := by
  obtain ⟨ep, ha⟩ := KdkAt.of hd
  have hat := ha.dictAt (N _ hm).1
  have hlt : d < s.heap.objs.size := Heap.lt_size (N _ hm).1
  have hne : d ≠ s.heap.objs.size := Nat.ne_of_lt hlt
  refine wpAny_pyIter_dict lo hat ?_
  have hnew := next_is_new F
  refine loopJ (I := s.heap.objs.size) (fp := [s.heap.objs.size, d]) (n := kvs.length) (Walks.dictKeys (knd := PySem.strKind prog w) hh _ d hne kvs ep) ?_ hnew ?_ ⟨⟨_, Heap.get?_push_size _ rfl, rfl, rfl⟩, hat.push _⟩ (F.push _)
    (fun p hp => ⟨Heap.get?_push_of_some _ (N p hp).1, (N p hp).2⟩) [(d, o)] ?_ (fun i h e => let ⟨o, e1, _⟩ := e.1; ⟨o, e1⟩) (J m₀ news) h0 ?_ ?_ ?_
  · intro hm'
    rcases List.mem_cons.mp hm' with e | hm'
    · exact absurd F.ns.lt (e ▸ Nat.lt_irrefl _)
    · exact (N _ hm).2.1 (List.mem_singleton.mp hm').symm
  · intro p hp hI
    exact absurd (Heap.lt_size (N p hp).1) (hI ▸ Nat.lt_irrefl _)
  · intro b hb
    rcases List.mem_cons.mp hb with e | hb
    · exact .inl e
    · exact .inr (.inr ⟨_, by rw [List.mem_singleton.mp hb]; exact List.mem_singleton.mpr rfl⟩)
  · intro i m l' hJ p hp
    rw [List.mem_singleton.mp hp]; exact hsub i m l' hJ
  · rintro it i v m₁ news₁ h tk hi ⟨k, xv, hx, hkey⟩ hJ ho F₁ N₁
    obtain ⟨t, rfl⟩ := Value.isStrOf_shape hkey
    exact turn _ it i k xv t m₁ news₁ h tk hx hJ ho F₁ N₁
  · intro h tk m₁ news₁ hJ F₁ N₁
    exact done h tk m₁ news₁ hJ F₁ N₁
end
noncomputable abbrev LD := List (List Nat × Int)
noncomputable def putE (e : LD) (u : List Nat) (v : Int) : LD := if e.any (fun p => decide (p.1 = u)) then e.map (fun p => if decide (p.1 = u) then (p.1, v) else p) else e ++ [(u, v)]
noncomputable def lookE (e : LD) (u : List Nat) : Int := ((e.find? fun p => decide (p.1 = u)).map (·.2)).getD 0
noncomputable def hasE (e : LD) (u : List Nat) : Bool := e.any fun p => decide (p.1 = u)
noncomputable def K (t : List Nat) (e : LD) : List (Str × Int) := e.map fun p => (key t p.1, p.2)
theorem key_dec {t u l : List Nat} : decide (key t u = key t l) = decide (u = l) := by
  by_cases h : u = l
  · subst h; simp
  · rw [decide_eq_false h, decide_eq_false (fun q => h (key_inj.mp q))]
theorem K_any (t : List Nat) (e : LD) (u : List Nat) : (K t e).any (fun p => decide (p.1 = key t u)) = e.any fun p => decide (p.1 = u) := by
  unfold K
  rw [List.any_map]
  congr 1
  funext p
  exact key_dec
theorem K_has (t : List Nat) (e : LD) (u : List Nat) : kdpHas (K t e) (key t u) = hasE e u := K_any t e u
theorem K_put (t : List Nat) (e : LD) (u : List Nat) (v : Int) : kdpPut (K t e) (key t u) v = K t (putE e u v) := by
  unfold kdpPut putE
  rw [K_any]
  split
  · unfold K
    rw [List.map_map, List.map_map]
    refine List.map_congr_left fun p _ => ?_
    show (if decide (key t p.1 = key t u) = true then (key t p.1, v) else (key t p.1, p.2)) = (fun p : List Nat × Int => (key t p.1, p.2)) (if decide (p.1 = u) = true then (p.1, v) else p)
    rw [key_dec]
    split <;> rfl
  · unfold K
    rw [List.map_append]; rfl
theorem K_look (t : List Nat) (e : LD) (u : List Nat) : kdpLook (K t e) (key t u) 0 = lookE e u := by
  unfold kdpLook lookE K
  rw [List.find?_map]
  have : ((fun p : Str × Int => decide (p.1 = key t u)) ∘ fun p : List Nat × Int => (key t p.1, p.2)) = fun p => decide (p.1 = u) := by
    funext p
    exact key_dec
  rw [this, Option.map_map]
  rfl
theorem K_len (t : List Nat) (e : LD) : (K t e).length = e.length := by unfold K; rw [List.length_map]
theorem putE_len (e : LD) (u : List Nat) (v : Int) : (putE e u v).length ≤ e.length + 1 := by
  unfold putE
  split
  · rw [List.length_map]; omega
  · rw [List.length_append]; simp
theorem putE_all {e : LD} {u : List Nat} {v : Int} (h : ∀ p ∈ e, p.1.length = 5) (hu : u.length = 5) : ∀ p ∈ putE e u v, p.1.length = 5 := by
  unfold putE
  split
  · intro p hp
    obtain ⟨q, hq, rfl⟩ := List.mem_map.mp hp
    split
    · exact h q hq
    · exact h q hq
  · intro p hp
    rcases List.mem_append.mp hp with hp | hp
    · exact h p hp
    · rw [List.mem_singleton.mp hp]; exact hu
theorem hasE_mem {e : LD} {p : List Nat × Int} (h : p ∈ e) : hasE e p.1 = true := List.any_eq_true.mpr ⟨p, h, by simp⟩
/-- a blank and the tab right behind it change places -/
noncomputable def sw (u : List Nat) (i : Nat) : List Nat := (u.set i 9).set (i + 1) 32
theorem sw_len (u : List Nat) (i : Nat) : (sw u i).length = u.length := by simp [sw]
noncomputable def downE (u : List Nat) (v : Int) (b : LD) (i : Nat) : LD := if u.getD i 0 = 32 ∧ u.getD (i + 1) 0 = 9 then putE b (sw u i) (lookE b (sw u i) + v) else b
noncomputable def lineE (here : LD) (b : LD) (p : List Nat × Int) : LD := (List.range 4).foldl (downE p.1 (lookE here p.1)) b
noncomputable def belowE (here : LD) : LD := here.foldl (lineE here) []
noncomputable def toldStep (below : LD) (c : LD) (p : List Nat × Int) : LD := putE c p.1 (lookE below p.1)
noncomputable def toldE (told below : LD) : LD := below.foldl (toldStep below) told
noncomputable def goE : Nat → LD → LD → Option LD
  | 0, _, _ => none
  | n + 1, told, here => if here.length ≤ 40 ∧ told.length ≤ 40 then (if here = [] then some told else goE n (toldE told (belowE here)) (belowE here)) else none
theorem sw_key {u t : List Nat} (hu : u.length = 5) {i : Nat} (hi : i < 4) : (u ++ t).take i ++ [9, 32] ++ (u ++ t).drop (i + 2) = sw u i ++ t := by
  obtain ⟨a, b, c, d, e, rfl⟩ : ∃ a b c d e, u = [a, b, c, d, e] := by
    match u, hu with
    | [a, b, c, d, e], _ => exact ⟨a, b, c, d, e, rfl⟩
  obtain rfl | rfl | rfl | rfl : i = 0 ∨ i = 1 ∨ i = 2 ∨ i = 3 := by omega
  all_goals rfl
theorem sl_key {u t : List Nat} (hu : u.length = 5) {i : Nat} (hi : i < 4) : ((u ++ t).drop i).take 2 = [u.getD i 0, u.getD (i + 1) 0] := by
  obtain ⟨a, b, c, d, e, rfl⟩ : ∃ a b c d e, u = [a, b, c, d, e] := by
    match u, hu with
    | [a, b, c, d, e], _ => exact ⟨a, b, c, d, e, rfl⟩
  obtain rfl | rfl | rfl | rfl : i = 0 ∨ i = 1 ∨ i = 2 ∨ i = 3 := by omega
  all_goals rfl
end
-- part 11_exch
section
example : True := by
  k_with_none
  k_with "my exec For Name Call cons nil" => first | ((k_here; (rename Fr _ _ _ _ => zlF'); (with_unfolding_all refine' For_invVF zlF' ?zk1 ?zk2 ?_; (case zk1 => exact rfl); (case zk2 => exact rfl); k_whole))) | fail
  k_with "my exec For Name Name cons nil" => first | ((k_here; (rename Fr _ _ _ _ => zlF'); (with_unfolding_all refine' For_invVF zlF' ?zk1 ?zk2 ?_; (case zk1 => exact rfl); (case zk2 => exact rfl); k_whole))) | fail
  k_with "my exec For Name Attribute cons nil" => first | ((k_here; (rename Fr _ _ _ _ => zlF'); (with_unfolding_all refine' For_invVF zlF' ?zk1 ?zk2 ?_; (case zk1 => exact rfl); (case zk2 => exact rfl); k_whole))) | fail
  k_with "my exec For Name Subscript cons nil" => first | ((k_here; (rename Fr _ _ _ _ => zlF'); (with_unfolding_all refine' For_invVF zlF' ?zk1 ?zk2 ?_; (case zk1 => exact rfl); (case zk2 => exact rfl); k_whole))) | fail
  k_with "my pyIter ref" => first | (((with_reducible show wpAny _ _ (pyIter (Value.ref _)) (fun it s₂ => LoopAtV _ _ _ _ _ _ _ _ _ it s₂) _ _); refine halt_of ?_)) | fail
  k_with "my pyIter str" => first | (((with_reducible show wpAny _ _ (pyIter (Value.str _ _)) (fun it s₂ => LoopAtV _ _ _ _ _ _ _ _ _ it s₂) _ _); refine halt_of ?_)) | fail
  k_with "my exec While BoolOp cons nil" => first | (refine halt_of ?_) | fail
  k_with "my exec While Compare cons nil" => first | (refine halt_of ?_) | fail
  k_with "my subscriptTail Name Slice str ref" => first | (((with_reducible show wpAny _ _ (subscriptTail _ (Expr.Slice none (some _) none _) _ _) _ _ _); (with_reducible rename Fr _ _ _ _ => zF'); (with_reducible rename News _ _ _ _ => zN'); (refine slice_strN_nn_len (hsz := ?zhsz) (s := ⟨_, _, _, _, _⟩) zF' zN' ?_); (case zhsz => size_fits); intro _ _ _ _ _ _)) | fail
  k_with "my ite" => first | (first | ((with_reducible show ite ((_ != (0 : Int)) = true) _ _); k_dflt (first | refine ite_bne_t (by omega) ?_ | refine ite_bne_f (by omega) ?_)) | ((with_reducible show ite ((!(_ != (0 : Int))) = true) _ _); k_dflt (first | refine ite_nbne_t (by omega) ?_ | refine ite_nbne_f (by omega) ?_)) | ((with_reducible show ite (decide _ = true) _ _); k_dflt (first | refine ite_dec_t (by omega) ?_ | refine ite_dec_f (by omega) ?_))) | fail
  k_with "my call type:list" => first | (((with_reducible show wpAny _ _ (call (Value.type _) [Value.ref _]) _ _ _); refine halt_of ?_)) | fail
  k_with "my setItem ref int" => first | ((k_here; (with_reducible show wpAny _ _ (setItem (Value.ref _) (Value.int _ _) (Value.int _ _)) _ _ _); k_dflt (refine' ksa_set ?zk1 ?zk2 ?zk3 ?zk4 ?zk5 ?zk6 ?zk7 ?_; (case zk1 => k_asm); (case zk2 => k_asm); (case zk3 => (repeat (first | exact Upd.head (by assumption) | refine Upd.tail (by assumption) ?_))); (case zk4 => with_reducible assumption); (case zk5 => ksa_idx); (case zk6 => ksa_idx); (case zk7 => ksa_idx); k_whole); intro zh' zF' zN' zhi' zhl' zhs'; (try k_sweep))) | fail
  k_with "my k_all" => first | (first | assumption | exact lt_ne (by assumption) | exact allLt_ne (by first | assumption | exact And.right (by assumption) | exact And.right (And.right (by assumption)) | exact And.right (And.right (And.right (by assumption))) | exact And.right (And.right (And.right (And.right (by assumption)))) | exact And.right (And.right (And.right (And.right (And.right (by assumption))))) | exact And.right (And.right (And.right (And.right (And.right (And.right (by assumption)))))) | exact And.right (And.right (And.right (And.right (And.right (And.right (And.right (by assumption))))))))) | fail
  k_with "my call type:tuple" => first | ((k_here; (with_reducible show wpAny _ _ (call (Value.type _) [Value.ref _]) _ _ _); k_dflt (refine' kde_tupleOf ?zk1 ?zk2 ?zk3 ?zk4 ?zk5 ?_; (case zk1 => k_asm); (case zk2 => k_asm); (case zk3 => exact News.isList (by k_asm) (by k_mem)); (case zk4 => exact sz_ints (by assumption) (by omega)); (case zk5 => rfl); k_whole); intro zD' zh' zF' zN' zl1; (try k_lt zl1); (try k_sweep))) | fail
  k_with "my call ref" => first | ((plain_pass; k_here; (refine wpAny_call ?_); k_dflt (refine' code_def ?zk1 ?zk2 ?zk3 ?zk4 ?zk5 ?zkA ?zkF ?zkK ?zk6 ?zk7 ?zk8 ?zk9 ?zkB ?_ ?zc2 ?zc3 ?zc4 ?zc5; (case zkA => exact rfl); (case zkF => exact rfl); (case zkK => first | exact rfl | assumption); (case zk1 => k_asm); (case zk2 => k_asm); (case zk3 => k_asm); (case zk4 => k_asm); (case zk5 => k_asm); (case zk6 => k_is); (case zk7 => k_is); (case zk8 => ktr_room); (case zk9 => exact BindsTo.of_eq rfl); (case zc5 => decide); (case zkB => exact locs rfl); (case zc2 => exact rfl); (case zc3 => exact rfl); (case zc4 => exact rfl); k_whole; intro zg' zL' zh' zFG' zF' zN' zB' zX' zT'; (try dsimp only); (try k_lift zB'); (try k_fold)))) | fail
  k_with "my call type:range" => first | (((rename Fr _ _ _ _ => zF'); (rename News _ _ _ _ => zN'); first | (with_unfolding_all refine range1_rows zF' zN' ?_; intro _ _ _ _ _ _ _ _ _) | (with_unfolding_all refine range2_rows zF' zN' ?_; intro _ _ _ _ _ _ _ _ _))) | fail
  k_with "my eval ListComp" => first | ((k_here; k_dflt (refine LCg.ListComp_U (F₀ := by k_asm) (by with_unfolding_all rfl) (by decide) (by rfl) (by decide) (by rfl) ?_))) | fail
  k_with "my exec Assign cons ListComp" => first | ((k_here; k_dflt (refine LCg.Assign_ListComp_U (F₀ := by k_asm) (by rfl) (by with_unfolding_all rfl) (by with_unfolding_all rfl) (by decide) (by rfl) (by decide) (by rfl) (by rfl) (by rfl) ?_))) | fail
  k_with "my CompSrc" => first | (refine halt_of ?_) | fail
  k_with "my call ref" => first | (((with_reducible show wpAny _ _ (PySem.call (Value.ref 28) _ _) _ _ _); k_dflt (refine' sub_spec _ _ _ _ _ ?zp0 ?zp1 _ _ _ _ _ _ _ _ _ _ _ _ _ _ _ _ _ ?zq1 ?zq2 ?zq3 ?zq4 ?zq5 ?zq6 ?zq7 ?zq8 ?_); (case zp0 => assumption); (case zp1 => assumption); (case zq1 => k_asm); (case zq2 => k_asm); (case zq3 => k_asm); (case zq4 => k_asm); (case zq5 => k_asm); (case zq6 => first | exact rfl | assumption); (case zq7 => ktr_room); (case zq8 => ktr_units); rintro zv' zown' zh' ztk' ⟨⟨zt', ze1⟩, ze2⟩ zF' zN'; subst ze1; subst ze2; (try simp only [List.nil_append] at zN'); (try dsimp only); (try k_fold))) | fail
  k_with "my call ref" => first | (((with_reducible show wpAny _ _ (PySem.call (Value.ref 153) _ _) _ _ _); k_dflt (refine' ws_call _ _ _ _ ?zp0 ?zp1 _ _ _ _ _ _ _ _ _ _ _ _ _ _ _ _ _ ?zq1 ?zq2 ?zq3 ?zq4 ?zq5 ?zq6 ?zq7 ?zq8 ?_); (case zp0 => assumption); (case zp1 => first | omega | (simp only [List.length_drop, List.length_take]; omega)); (case zq1 => k_asm); (case zq2 => k_asm); (case zq3 => k_asm); (case zq4 => k_asm); (case zq5 => k_asm); (case zq6 => first | exact rfl | assumption); (case zq7 => ktr_room); (case zq8 => ktr_units); rintro zv' zown' zh' ztk' ⟨zx', zd', zT1', zT2', zvs', zk1', zk2', zk3', zk4', zk5', zt2', zt3', zt4', ze1, zhI', zl1', zl2', zl3', zl4', ze2⟩ zF' zN'; subst ze1; subst ze2; (try simp only [List.cons_append, List.nil_append] at zN'); (try dsimp only [wsD, tupO] at zN'); (try k_lt zl1'); (try simp only [List.nil_append] at zN'); (try dsimp only); (try k_fold))) | fail
  k_with "my call ref" => first | (((with_reducible show wpAny _ _ (PySem.call (Value.ref 169) _ _) _ _ _); k_dflt (refine' height_spec _ _ _ ?zp0 ?zp1 _ _ _ _ _ _ _ _ _ _ _ _ _ _ _ _ _ ?zq1 ?zq2 ?zq3 ?zq4 ?zq5 ?zq6 ?zq7 ?zq8 ?_); (case zp0 => first | omega | (simp only [List.length_append]; omega)); (case zp1 => first | omega | (simp only [List.length_append]; omega)); (case zq1 => k_asm); (case zq2 => k_asm); (case zq3 => k_asm); (case zq4 => k_asm); (case zq5 => k_asm); (case zq6 => first | exact rfl | assumption); (case zq7 => ktr_room); (case zq8 => ktr_units); rintro zv' zown' zh' ztk' ⟨⟨zt', ze1⟩, ze2⟩ zF' zN'; subst ze1; subst ze2; (try simp only [List.nil_append] at zN'); (try dsimp only); (try k_fold))) | fail
  k_with "my call ref" => first | (((with_reducible show wpAny _ _ (PySem.call (Value.ref 35) _ _) _ _ _); k_dflt (refine' lev_any _ _ _ _ _ _ _ _ ?zp0 ?zp1 ?zp2 ?zp3 ?zp4 ?zp5 ?zp6 ?zp7 _ _ _ _ _ _ _ _ _ _ _ _ _ _ _ _ _ ?zq1 ?zq2 ?zq3 ?zq4 ?zq5 ?zq6 ?zq7 ?zq8 ?_); (case zp0 => assumption); (case zp1 => assumption); (case zp2 => assumption); (case zp3 => assumption); (case zp4 => omega); (case zp5 => omega); (case zp6 => omega); (case zp7 => omega); (case zq1 => k_asm); (case zq2 => k_asm); (case zq3 => k_asm); (case zq4 => k_asm); (case zq5 => k_asm); (case zq6 => first | exact rfl | assumption); (case zq7 => ktr_room); (case zq8 => ktr_units); rintro zv' zown' zh' ztk' ⟨⟨zt', ze1⟩, ze2⟩ zF' zN'; subst ze1; subst ze2; (try simp only [List.nil_append] at zN'); (try dsimp only); (try k_fold))) | fail
  k_with "my call ref" => first | ((plain_pass; (with_reducible show wpAny _ _ (PySem.call (Value.ref 162) _ _) _ _ _); refine halt_of ?_)) | fail
  k_with "my lt" => first | assumption | exact And.left (by assumption) | exact And.left (And.right (by assumption)) | exact And.right (by assumption) | exact And.left (And.right (And.right (by assumption))) | exact And.right (And.right (by assumption)) | exact And.left (And.right (And.right (And.right (by assumption)))) | exact And.right (And.right (And.right (by assumption))) | exact And.left (And.right (And.right (And.right (And.right (by assumption))))) | exact And.right (And.right (And.right (And.right (by assumption)))) | exact And.left (And.right (And.right (And.right (And.right (And.right (by assumption)))))) | exact And.right (And.right (And.right (And.right (And.right (by assumption))))) | exact And.left (And.right (And.right (And.right (And.right (And.right (And.right (by assumption))))))) | exact And.right (And.right (And.right (And.right (And.right (And.right (by assumption)))))) | exact And.left (And.right (And.right (And.right (And.right (And.right (And.right (And.right (by assumption)))))))) | exact And.right (And.right (And.right (And.right (And.right (And.right (And.right (by assumption))))))) | exact And.left (And.right (And.right (And.right (And.right (And.right (And.right (And.right (And.right (by assumption))))))))) | exact And.right (And.right (And.right (And.right (And.right (And.right (And.right (And.right (by assumption)))))))) | fail
  k_with "my succ" => first | (first | exact Nat.lt_succ_self _ | exact Nat.lt_succ_of_lt (Nat.lt_succ_self _) | exact Nat.lt_succ_of_lt (Nat.lt_succ_of_lt (Nat.lt_succ_self _)) | exact Nat.lt_succ_of_lt (Nat.lt_succ_of_lt (Nat.lt_succ_of_lt (Nat.lt_succ_self _)))) | fail
  k_with "my omega" => with_reducible (first | assumption | decide | exact room0 (by assumption) | exact room1 (by assumption) rfl | exact room2 (by assumption) rfl | exact idx_nn _ | exact idx_ge _ _ | exact idx_lo _ | exact idx_lo' _ | exact idx_to _ | exact idx_one _ | exact idx_lt (by assumption) | exact idx_lt (lt_of_eq' (by assumption) (by assumption)) | exact idx_hi (by assumption) rfl | exact idx_hi2 (by assumption) (by assumption) rfl | exact nn_neg _ _ | exact Int.natCast_nonneg _ | exact cast_hi (by assumption) rfl | exact cast_hi2 (by assumption) (by assumption) rfl | exact cast_hi3 (by assumption) (by assumption) rfl | exact ng_lt _ _ | exact ng_hi _ | exact ng_ge (by assumption) | exact ng_lo (by assumption) rfl | exact ng_lo0 (by assumption) | exact ng_neg (by assumption) | exact ng_ne (by assumption) | exact cast_ne (by assumption) | exact cast_ne' (by assumption) (by assumption) | exact not_big (by assumption) (by assumption) rfl | exact slc_lt (by assumption) (by assumption) | exact slc_hi (by assumption) (by assumption) (by assumption) rfl | exact ix_pos (by assumption) | exact ix_ne (by assumption) | exact ix_add (by assumption) | exact le_add' _ _ | exact imp_ne (by assumption) (by assumption) | exact Nat.lt_succ_self _ | exact Nat.le_succ_of_le (by assumption) | exact le_big (by assumption) rfl | exact le_big' (by assumption) (by assumption) rfl | exact pos_of (by assumption) (by assumption) | exact lt_of_eq' (by assumption) (by assumption) | exact int_pos (by assumption) | exact eq_of (by assumption) (by assumption) | exact Ne.symm (by assumption) | (refine Nat.ne_of_gt ?_; k_extra "my lt") | (refine Nat.ne_of_lt ?_; k_extra "my lt") | (refine Nat.ne_of_gt ?_; k_extra "my succ") | (refine Nat.ne_of_lt ?_; k_extra "my succ") | exact Int.le_trans (by assumption) (by decide) | exact Int.lt_of_le_of_lt (by assumption) (by decide) | exact Int.lt_of_lt_of_le (by decide) (by assumption) | exact Nat.le_trans (Nat.le_of_lt (by assumption)) (Nat.le_of_ble_eq_true rfl) | exact Int.ofNat_le.mpr (Nat.le_trans (by assumption) (Nat.le_of_ble_eq_true rfl)) | fail)
  trivial
example : True := by
  k_with "my eval Dict" => first | ((k_here; k_dflt (refine' kdn_eval (knd := PySem.strKind _ _) ?zF ?zN ?zb ?za ?zl ?ze ?zn ?_; (case zF => k_asm); (case zN => first | k_asm | exact News.nil); (case zb => exact TopRead.nolimit (by k_asm)); (case za => rfl); (case zl => rfl); (case ze => exact List.cons_ne_nil _ _); (case zn => exact Nat.le_of_ble_eq_true rfl)); intro zd' zh' zo' zF' zN' zl1 zlo' zhd'; (try k_lt zl1))) | fail
  trivial
theorem mkS_bt : Str.ofString " \t" = mkS [32, 9] := by decide +kernel
theorem mkS_tb : Str.ofString "\t " = mkS [9, 32] := by decide +kernel
theorem key_at {t : List Nat} {kh : List (Str × Value)} {eh : LD} (f : PyProof.V.FlatPairs PyData.str kh (kdpD (K t eh))) {i : Nat} {k : Str} {v : Value} (h : kh[i]? = some (k, v)) : ∃ p, eh[i]? = some p ∧ k = mkS (p.1 ++ t) := by
  obtain ⟨dv, hD, _⟩ := f.at h
  unfold kdpD K at hD
  rw [List.getElem?_map, List.getElem?_map] at hD
  cases e : eh[i]? with
  | none => rw [e] at hD; cases hD
  | some p =>
    rw [e] at hD
    refine ⟨p, rfl, ?_⟩
    have := Option.some.inj hD
    injection this with a b
    injection a with a
    exact a.symm
theorem key_len {t : List Nat} {kh : List (Str × Value)} {eh : LD} (f : PyProof.V.FlatPairs PyData.str kh (kdpD (K t eh))) : kh.length = eh.length := by
  have := f.length
  rw [kdpD_length, K_len] at this
  exact this.symm
theorem exch_spec {w : World} {mean mg mb} (f t : List Nat) (tf : Tok) (news) (h5 : f.length = 5) (ht1 : 1 ≤ t.length) (ht2 : t.length ≤ 10) (res : LD) (hres : goE 12 [(f, 1)] [(f, 1)] = some res) :
   Spec w mean mg mb 183 10 80 [Value.str (mkS (f ++ t)) tf] news (fun v own => ∃ (D : Addr) (o : Obj) (kw : List (Str × Value)), v = .ref D ∧ own = [(D, o)] ∧ (∀ q ∈ news, q.1 < D) ∧ (D == sysModules) = false ∧ o.IsDictOf (SK w) kw ∧ PyProof.V.FlatPairs PyData.str kw (kdpD (K t res))) := by
  dsimp only [Spec]
  intros; rename_i hret
  refine wpAny_call ?_
  k_dflt cell_enter
  k_steps
  refine Halt.out ?_
  k_sweep
  rename Fr _ _ _ _ => F
  rename News _ _ _ _ => N
  refine fr_let F ?_
  clear F
  intro MF1 F
  refine loop_while (n₀ := 12) (fun M nw n m₁ l' => ∃ (Dt Dh : Addr) (o1 o2 ot oh : Obj) (kt kh : List (Str × Value)) (et eh : LD), (∃ X, (X, o2) :: (Dt, o1) :: news = nw) ∧ l' = (Dh, oh) :: (Dt, ot) :: news ∧ @Ne Nat Dh Dt ∧ (∀ p ∈ news, p.1 < Dt) ∧ (∀ p ∈ news, p.1 ≠ Dh) ∧ (Dt == sysModules) = false ∧ (Dh == sysModules) = false ∧
      ot.IsDictOf (SK w) kt ∧ PyProof.V.FlatPairs PyData.str kt (kdpD (K t et)) ∧ oh.IsDictOf (SK w) kh ∧ PyProof.V.FlatPairs PyData.str kh (kdpD (K t eh)) ∧ (∀ p ∈ eh, p.1.length = 5) ∧ goE n et eh = some res ∧
      m₁ (Str.ofString "here") = some (.ref Dh) ∧ ∀ z, z ≠ Str.ofString "here" → z ≠ Str.ofString "below" → z ≠ Str.ofString "line" → z ≠ Str.ofString "i" → z ≠ Str.ofString "lower" → m₁ z = M z)
    (fun M nw m₁ l' => ∃ (Dt Dh : Addr) (o1 o2 ot oh : Obj) (kt : List (Str × Value)), (∃ X, (X, o2) :: (Dt, o1) :: news = nw) ∧ l' = (Dh, oh) :: (Dt, ot) :: news ∧ (∀ p ∈ news, p.1 < Dt) ∧ (Dt == sysModules) = false ∧
      ot.IsDictOf (SK w) kt ∧ PyProof.V.FlatPairs PyData.str kt (kdpD (K t res)) ∧ ∀ z, z ≠ Str.ofString "here" → z ≠ Str.ofString "below" → z ≠ Str.ofString "line" → z ≠ Str.ofString "i" → z ≠ Str.ofString "lower" → m₁ z = M z) F N ?_ ?_ ?_
  · refine ⟨_, _, _, _, _, _, _, _, [(f, 1)], [(f, 1)], ⟨_, rfl⟩, rfl, ?_, ?_, ?_, by assumption, by assumption, by assumption, by assumption, by assumption, by assumption, by simp [h5], hres, rfl, fun z _ _ _ _ _ => rfl⟩
    · rename (_ < _ ∧ AllLt _ news) => q
      exact Nat.ne_of_gt q.1
    · assumption
    · rename (_ < _ ∧ AllLt _ news) => q
      exact allLt_ne q.2
  · rintro n m₁ news₁ h tk ⟨Dt, Dh, o1, o2, ot, oh, kt, kh, et, eh, ⟨X, e⟩, rfl, nDD, nT, nH, lt, lh, d1, f1, d2, f2, a5, hgo, mh, hm⟩ F' N'
    clear F N
    injection e with _ e
    injection e with e _
    injection e with e _
    subst e
    rw [frm1_4 mh hm] at F'
    clear hm mh
    k_fold
    cases n with
    | zero => simp [goE] at hgo
    | succ n =>
      rw [goE] at hgo
      split at hgo
      case isFalse => cases hgo
      case isTrue hle =>
      have l1 : (K t eh).length = eh.length := K_len t eh
      have l2 : (K t et).length = et.length := K_len t et
      have nTt : ∀ p ∈ news, p.1 ≠ Dt := lt_ne nT
      have hkl := key_len f2
      k_steps
      · refine Halt.out ?_
        k_sweep
        rename Fr _ _ _ _ => F
        rename News _ _ _ _ => N
        refine fr_let F ?_
        clear F
        intro MF2 F
        refine loop_dict (kvs := kh) (by rfl) d2 lh (List.mem_cons_of_mem _ (List.mem_cons_self ..)) F N
          (fun M nw i m₁ l' => ∃ (Db : Addr) (o1 ob : Obj) (kb : List (Str × Value)) (eb : LD), (Db, o1) :: (Dh, oh) :: (Dt, ot) :: news = nw ∧ l' = (Db, ob) :: (Dh, oh) :: (Dt, ot) :: news ∧ @LT.lt Nat _ Dh Db ∧ @LT.lt Nat _ Dt Db ∧ (∀ p ∈ news, p.1 ≠ Db) ∧ (Db == sysModules) = false ∧
            ob.IsDictOf (SK w) kb ∧ PyProof.V.FlatPairs PyData.str kb (kdpD (K t eb)) ∧ (∀ p ∈ eb, p.1.length = 5) ∧ eb.length ≤ 4 * i ∧ eb = (eh.take i).foldl (lineE eh) [] ∧ ∀ z, z ≠ Str.ofString "line" → z ≠ Str.ofString "i" → z ≠ Str.ofString "lower" → m₁ z = M z) ?_ ?_ ?_ ?_
        · refine ⟨_, _, _, _, [], rfl, rfl, ?_, ?_, ?_, by assumption, by assumption, by assumption, by simp, by simp, rfl, fun z _ _ _ => rfl⟩
          all_goals (rename (_ < _ ∧ _ < _ ∧ AllLt _ news) => q)
          · exact q.1
          · exact q.2.1
          · exact allLt_ne q.2.2
        · rintro i m l' ⟨Db, o1, ob, kb, eb, _, rfl, _⟩
          exact List.mem_cons_of_mem _ (List.mem_cons_self ..)
        · rintro I it i k v tv m₁ news₁ h tk hkv ⟨Db, o1, ob, kb, eb, e, rfl, b1, b2, nB, lb, d3, f3, a6, lb4, heb, hm⟩ ho F' N'
          clear F N
          injection e with e _
          injection e with e _
          subst e
          rw [frm0_3 hm] at F'
          k_fold
          clear hm
          obtain ⟨p, hp, rfl⟩ := key_at f2 hkv
          have hpm : p ∈ eh := List.mem_of_getElem? hp
          have hp5 := a5 p hpm
          have hii : i < eh.length := (List.getElem?_eq_some_iff.mp hp).1
          k_steps
          refine Halt.out ?_
          k_sweep
          rename Fr _ _ _ _ => F
          rename News _ _ _ _ => N
          rename IsRange _ _ _ _ _ _ _ _ => R
          have hts := foldl_take_succ (lineE eh) [] hp
          rw [← heb] at hts
          have hBI : @Ne Nat Db I := fun e => ho _ (List.mem_cons_self ..) e
          have hIB : @Ne Nat I Db := fun e => hBI e.symm
          have nBh : @Ne Nat Db Dh := fun e => Nat.ne_of_gt b1 e
          have nBt : @Ne Nat Db Dt := fun e => Nat.ne_of_gt b2 e
          have nhB : @Ne Nat Dh Db := fun e => nBh e.symm
          have ntB : @Ne Nat Dt Db := fun e => nBt e.symm
          have hhas : kdpHas (K t eh) (mkS (p.1 ++ t)) = true := by
            have := K_has t eh p.1
            rw [hasE_mem hpm] at this
            exact this
          have hlk : kdpLook (K t eh) (mkS (p.1 ++ t)) 0 = lookE eh p.1 := K_look t eh p.1
          have hlen9 : (mkS (p.1 ++ t)).length = 5 + t.length := by rw [mkS_length, List.length_append, hp5]
          refine fr_let F ?_
          clear F
          intro MF3 F
          refine loop_range (n := 4) (by rfl) R (by decide) (by rfl) (by assumption) (by assumption)
            (fun M nw q m₁ l' => ∃ (ob : Obj) (kb : List (Str × Value)) (eb' : LD), l' = (I, it) :: (Db, ob) :: (Dh, oh) :: (Dt, ot) :: news ∧
              ob.IsDictOf (SK w) kb ∧ PyProof.V.FlatPairs PyData.str kb (kdpD (K t eb')) ∧ (∀ p ∈ eb', p.1.length = 5) ∧ eb'.length ≤ 4 * i + q ∧ eb' = (List.range q).foldl (downE p.1 (lookE eh p.1)) eb ∧ ∀ z, z ≠ Str.ofString "i" → z ≠ Str.ofString "lower" → m₁ z = M z) ?_ ?_ ?_
          · exact ⟨_, _, eb, rfl, d3, f3, a6, by omega, rfl, fun z _ _ => rfl⟩
          · rintro I2 it2 q tq m₁ news₁ h tk hq ⟨ob, kb, eb', rfl, d3, f3, a7, lb5, heb', hm⟩ ho2 F' N'
            clear F N R
            rw [frm0_2 hm] at F'
            k_fold
            clear hm
            have hBI2 : @Ne Nat Db I2 := fun e => ho2 _ (List.mem_cons_of_mem _ (List.mem_cons_self ..)) e
            have hI2B : @Ne Nat I2 Db := fun e => hBI2 e.symm
            have lK : (K t eb').length = eb'.length := K_len t eb'
            have hpl : ((p.1 ++ t).length : Int) = 5 + t.length := by rw [List.length_append, hp5]; rfl
            have e0 : (0 : Int) + (q : Int) * 1 = q := by omega
            have e2 : ((q : Int) + 2).toNat = q + 2 := by omega
            have hk1 : Txt.slice (mkS (p.1 ++ t)) (some (0 + (q : Int) * 1)) (some (0 + (q : Int) * 1 + 2)) = mkS [p.1.getD q 0, p.1.getD (q + 1) 0] := by
              rw [slice_two (by omega) (by omega) (by omega), e0, e2, ← sl_key hp5 hq]
              congr 2
              omega
            have hk2 : Txt.slice (mkS (p.1 ++ t)) none (some (0 + (q : Int) * 1)) ++ Str.ofString "\t " ++ Txt.slice (mkS (p.1 ++ t)) (some (0 + (q : Int) * 1 + 2)) none = mkS (sw p.1 q ++ t) := by
              rw [slice_to (by omega) (by omega), slice_from (by omega) (by omega), e0, e2, Int.toNat_natCast, mkS_tb, mkS_append, mkS_append, sw_key hp5 hq]
            have hrs : (List.range (q + 1)).foldl (downE p.1 (lookE eh p.1)) eb = downE p.1 (lookE eh p.1) eb' q := by rw [List.range_succ, List.foldl_append, ← heb']; rfl
            k_steps
            · rename ((Txt.slice _ _ _ == _) = true) => c1
              rw [hk1, mkS_bt, mkS_beq, beq_iff_eq] at c1
              rename PyProof.V.FlatPairs PyData.str _ _ => ff
              have hq2 : kdpLook (K t eb') (mkS (sw p.1 q ++ t)) 0 = lookE eb' (sw p.1 q) := K_look t eb' (sw p.1 q)
              have hq3 : ∀ v, kdpPut (K t eb') (mkS (sw p.1 q ++ t)) v = K t (putE eb' (sw p.1 q) v) := fun v => K_put t eb' (sw p.1 q) v
              rw [hk2, hq3, hq2, hlk] at ff
              have hds : downE p.1 (lookE eh p.1) eb' q = putE eb' (sw p.1 q) (lookE eb' (sw p.1 q) + lookE eh p.1) := by
                rw [downE, if_pos (by simpa using c1)]
              refine TurnEnd.intro (by assumption) (by assumption) ((I, it) :: (Db, _) :: (Dh, oh) :: (Dt, ot) :: news) (List.mem_cons_self ..) (fun p hp => List.mem_cons_of_mem _ hp) (off_same (by rfl) ho2) ⟨_, _, _, rfl, by assumption, ff, putE_all a7 (by rw [sw_len]; exact hp5), ?_, ?_, by intro z h1 h2; simp only [h1, h2, if_false]⟩
              · have := putE_len eb' (sw p.1 q) (lookE eb' (sw p.1 q) + lookE eh p.1)
                omega
              · rw [hrs, hds]
            · rename ((Txt.slice _ _ _ == _) = false) => c1
              rw [hk1, mkS_bt, mkS_beq] at c1
              refine TurnEnd.intro (by assumption) (by assumption) ((I, it) :: (Db, _) :: (Dh, oh) :: (Dt, ot) :: news) (List.mem_cons_self ..) (fun p hp => List.mem_cons_of_mem _ hp) (off_same (by rfl) ho2) ⟨_, _, eb', rfl, d3, f3, a7, by omega, ?_, by intro z h1 h2; simp only [h1, h2, if_false]⟩
              rw [hrs, downE, if_neg (by simpa using c1)]
          · rintro h tk m₁ news₁ ⟨ob, kb, eb', rfl, d3, f3, a7, lb5, heb', hm⟩ F' N'
            clear F N R
            rw [frm0_2 hm] at F'
            dsimp only
            k_steps
            refine TurnEnd.intro (by assumption) (by assumption) ((Db, _) :: (Dh, oh) :: (Dt, ot) :: news) (List.mem_cons_self ..) (fun p hp => List.mem_cons_of_mem _ hp) (off_same (by rfl) ho) ⟨Db, _, _, _, eb', rfl, rfl, b1, b2, nB, lb, d3, f3, a7, by omega, ?_, by intro z h1 h2 h3; simp only [MF3, h1, h2, h3, if_false]⟩
            rw [hts, heb']; rfl
        · rintro h tk m₁ news₁ ⟨Db, o1, ob, kb, eb, e, rfl, b1, b2, nB, lb, d3, f3, a6, lb4, heb, hm⟩ F' N'
          clear F N
          injection e with e _
          injection e with e _
          subst e
          rw [frm0_3 hm] at F'
          clear hm
          rw [hkl, List.take_length] at heb
          rw [hkl] at lb4
          dsimp only
          k_steps
          refine Halt.out ?_
          k_sweep
          rename Fr _ _ _ _ => F
          rename News _ _ _ _ => N
          have nBh : @Ne Nat Db Dh := fun e => Nat.ne_of_gt b1 e
          have nBt : @Ne Nat Db Dt := fun e => Nat.ne_of_gt b2 e
          have nhB : @Ne Nat Dh Db := fun e => nBh e.symm
          have ntB : @Ne Nat Dt Db := fun e => nBt e.symm
          have hkl3 := key_len f3
          refine fr_let F ?_
          clear F
          intro MF4 F
          refine loop_dict (kvs := kb) (by rfl) d3 lb (List.mem_cons_self ..) F N
            (fun M nw i m₁ l' => ∃ (ot' : Obj) (kt' : List (Str × Value)) (et' : LD), l' = (Db, ob) :: (Dh, oh) :: (Dt, ot') :: news ∧ ot'.IsDictOf (SK w) kt' ∧ PyProof.V.FlatPairs PyData.str kt' (kdpD (K t et')) ∧ et'.length ≤ 40 + i ∧
              et' = (eb.take i).foldl (toldStep eb) et ∧ ∀ z, z ≠ Str.ofString "line" → m₁ z = M z) ?_ ?_ ?_ ?_
          · exact ⟨_, _, et, rfl, d1, f1, by omega, rfl, fun z _ => rfl⟩
          · rintro i m l' ⟨ot', kt', et', rfl, _⟩
            exact List.mem_cons_self ..
          · rintro I it i k v tv m₁ news₁ h tk hkv ⟨ot', kt', et', rfl, d4, f4, l4, het, hm⟩ ho F' N'
            clear F N
            rw [frm0_1 hm] at F'
            k_fold
            clear hm
            obtain ⟨p, hp, rfl⟩ := key_at f3 hkv
            have hpm : p ∈ eb := List.mem_of_getElem? hp
            have hp5 := a6 p hpm
            have hii : i < eb.length := (List.getElem?_eq_some_iff.mp hp).1
            have hTI : @Ne Nat Dt I := fun e => ho _ (List.mem_cons_of_mem _ (List.mem_cons_of_mem _ (List.mem_cons_self ..))) e
            have hIT : @Ne Nat I Dt := fun e => hTI e.symm
            have lK : (K t et').length = et'.length := K_len t et'
            have hts := foldl_take_succ (toldStep eb) et hp
            rw [← het] at hts
            have hhas : kdpHas (K t eb) (mkS (p.1 ++ t)) = true := by
              have := K_has t eb p.1
              rw [hasE_mem hpm] at this
              exact this
            have hlk : kdpLook (K t eb) (mkS (p.1 ++ t)) 0 = lookE eb p.1 := K_look t eb p.1
            k_steps
            rename PyProof.V.FlatPairs PyData.str _ _ => ff
            have hq3 : ∀ v, kdpPut (K t et') (mkS (p.1 ++ t)) v = K t (putE et' p.1 v) := fun v => K_put t et' p.1 v
            rw [hq3, hlk] at ff
            refine TurnEnd.intro (by assumption) (by assumption) ((Db, ob) :: (Dh, oh) :: (Dt, _) :: news) (List.mem_cons_self ..) (fun p hp => List.mem_cons_of_mem _ hp) (off_same (by rfl) ho) ⟨_, _, _, rfl, by assumption, ff, ?_, ?_, by intro z h1; simp only [h1, if_false]⟩
            · have := putE_len et' p.1 (lookE eb p.1)
              omega
            · rw [hts]; rfl
          · rintro h tk m₁ news₁ ⟨ot', kt', et', rfl, d4, f4, l4, het, hm⟩ F' N'
            clear F N
            rw [frm0_1 hm] at F'
            clear hm
            rw [hkl3, List.take_length] at het
            dsimp only
            k_steps
            have hne : eh.length ≠ 0 := by omega
            rw [if_neg (fun e0 => hne (by rw [e0]; rfl))] at hgo
            have heb' : eb = belowE eh := heb
            have het' : et' = toldE et (belowE eh) := by rw [← heb']; exact het
            rw [← heb'] at hgo het'
            have het'' : toldE et eb = et' := het.symm
            rw [het''] at hgo
            refine WEnd.intro (by assumption) (by assumption) ((Db, ob) :: (Dt, ot') :: news) ?_ ⟨n, by omega, Dt, Db, _, _, ot', ob, kt', kb, et', eb, ⟨_, rfl⟩, rfl, nBt, nT, nB, lt, lb, d4, f4, d3, f3, a6, hgo, rfl, by intro z h1 h2 h3 h4 h5; simp only [MF4, MF2, h1, h2, h3, h4, h5, if_false]⟩
            intro p hp
            rcases List.mem_cons.mp hp with rfl | hp
            · exact List.mem_cons_self ..
            · exact List.mem_cons_of_mem _ (List.mem_cons_of_mem _ hp)
      · have e0 : eh = [] := by
          rename (¬ (0 : Int) < _) => q
          exact List.eq_nil_of_length_eq_zero (by omega)
        rw [if_pos e0] at hgo
        injection hgo with hgo
        subst hgo
        exact WEnd.intro (by assumption) (by assumption) _ (fun p hp => hp) ⟨Dt, Dh, _, _, ot, oh, kt, ⟨_, rfl⟩, rfl, nT, lt, d1, f1, by intro z h1 h2 h3 h4 h5; simp only [h1, h2, h3, h4, h5, if_false]⟩
  · rintro h tk m₁ news₁ ⟨Dt, Dh, o1, o2, ot, oh, kt, ⟨X, e⟩, rfl, nT, lt, d1, f1, hm⟩ F' N'
    clear F N
    injection e with _ e
    injection e with e _
    injection e with e _
    subst e
    rw [frm0_5 hm] at F'
    dsimp only
    k_steps
    refine hret _ [(Dt, ot)] _ _ ⟨Dt, ot, kt, rfl, rfl, nT, lt, d1, f1⟩ (by assumption) ?_
    refine News.perm (by assumption) ?_
    intro p hp
    exact List.mem_cons_of_mem _ hp
end
-- part 11a_tok
section
example : True := by
  k_with_none
  k_with "my exec For Name Call cons nil" => first | ((k_here; (rename Fr _ _ _ _ => zlF'); (with_unfolding_all refine' For_invVF zlF' ?zk1 ?zk2 ?_; (case zk1 => exact rfl); (case zk2 => exact rfl); k_whole))) | fail
  k_with "my exec For Name Name cons nil" => first | ((k_here; (rename Fr _ _ _ _ => zlF'); (with_unfolding_all refine' For_invVF zlF' ?zk1 ?zk2 ?_; (case zk1 => exact rfl); (case zk2 => exact rfl); k_whole))) | fail
  k_with "my exec For Name Attribute cons nil" => first | ((k_here; (rename Fr _ _ _ _ => zlF'); (with_unfolding_all refine' For_invVF zlF' ?zk1 ?zk2 ?_; (case zk1 => exact rfl); (case zk2 => exact rfl); k_whole))) | fail
  k_with "my exec For Name Subscript cons nil" => first | ((k_here; (rename Fr _ _ _ _ => zlF'); (with_unfolding_all refine' For_invVF zlF' ?zk1 ?zk2 ?_; (case zk1 => exact rfl); (case zk2 => exact rfl); k_whole))) | fail
  k_with "my pyIter ref" => first | (((with_reducible show wpAny _ _ (pyIter (Value.ref _)) (fun it s₂ => LoopAtV _ _ _ _ _ _ _ _ _ it s₂) _ _); refine halt_of ?_)) | fail
  k_with "my pyIter str" => first | (((with_reducible show wpAny _ _ (pyIter (Value.str _ _)) (fun it s₂ => LoopAtV _ _ _ _ _ _ _ _ _ it s₂) _ _); refine halt_of ?_)) | fail
  k_with "my exec While BoolOp cons nil" => first | (refine halt_of ?_) | fail
  k_with "my exec While Compare cons nil" => first | (refine halt_of ?_) | fail
  k_with "my subscriptTail Name Slice str ref" => first | (((with_reducible show wpAny _ _ (subscriptTail _ (Expr.Slice none (some _) none _) _ _) _ _ _); (with_reducible rename Fr _ _ _ _ => zF'); (with_reducible rename News _ _ _ _ => zN'); (refine slice_strN_nn_len (hsz := ?zhsz) (s := ⟨_, _, _, _, _⟩) zF' zN' ?_); (case zhsz => size_fits); intro _ _ _ _ _ _)) | fail
  k_with "my ite" => first | (first | ((with_reducible show ite ((_ != (0 : Int)) = true) _ _); k_dflt (first | refine ite_bne_t (by omega) ?_ | refine ite_bne_f (by omega) ?_)) | ((with_reducible show ite ((!(_ != (0 : Int))) = true) _ _); k_dflt (first | refine ite_nbne_t (by omega) ?_ | refine ite_nbne_f (by omega) ?_)) | ((with_reducible show ite (decide _ = true) _ _); k_dflt (first | refine ite_dec_t (by omega) ?_ | refine ite_dec_f (by omega) ?_))) | fail
  k_with "my call type:list" => first | (((with_reducible show wpAny _ _ (call (Value.type _) [Value.ref _]) _ _ _); refine halt_of ?_)) | fail
  k_with "my setItem ref int" => first | ((k_here; (with_reducible show wpAny _ _ (setItem (Value.ref _) (Value.int _ _) (Value.int _ _)) _ _ _); k_dflt (refine' ksa_set ?zk1 ?zk2 ?zk3 ?zk4 ?zk5 ?zk6 ?zk7 ?_; (case zk1 => k_asm); (case zk2 => k_asm); (case zk3 => (repeat (first | exact Upd.head (by assumption) | refine Upd.tail (by assumption) ?_))); (case zk4 => with_reducible assumption); (case zk5 => ksa_idx); (case zk6 => ksa_idx); (case zk7 => ksa_idx); k_whole); intro zh' zF' zN' zhi' zhl' zhs'; (try k_sweep))) | fail
  k_with "my k_all" => first | (first | assumption | exact lt_ne (by assumption) | exact allLt_ne (by first | assumption | exact And.right (by assumption) | exact And.right (And.right (by assumption)) | exact And.right (And.right (And.right (by assumption))) | exact And.right (And.right (And.right (And.right (by assumption)))) | exact And.right (And.right (And.right (And.right (And.right (by assumption))))) | exact And.right (And.right (And.right (And.right (And.right (And.right (by assumption)))))) | exact And.right (And.right (And.right (And.right (And.right (And.right (And.right (by assumption))))))))) | fail
  k_with "my call type:tuple" => first | ((k_here; (with_reducible show wpAny _ _ (call (Value.type _) [Value.ref _]) _ _ _); k_dflt (refine' kde_tupleOf ?zk1 ?zk2 ?zk3 ?zk4 ?zk5 ?_; (case zk1 => k_asm); (case zk2 => k_asm); (case zk3 => exact News.isList (by k_asm) (by k_mem)); (case zk4 => exact sz_ints (by assumption) (by omega)); (case zk5 => rfl); k_whole); intro zD' zh' zF' zN' zl1; (try k_lt zl1); (try k_sweep))) | fail
  k_with "my call ref" => first | ((plain_pass; k_here; (refine wpAny_call ?_); k_dflt (refine' code_def ?zk1 ?zk2 ?zk3 ?zk4 ?zk5 ?zkA ?zkF ?zkK ?zk6 ?zk7 ?zk8 ?zk9 ?zkB ?_ ?zc2 ?zc3 ?zc4 ?zc5; (case zkA => exact rfl); (case zkF => exact rfl); (case zkK => first | exact rfl | assumption); (case zk1 => k_asm); (case zk2 => k_asm); (case zk3 => k_asm); (case zk4 => k_asm); (case zk5 => k_asm); (case zk6 => k_is); (case zk7 => k_is); (case zk8 => ktr_room); (case zk9 => exact BindsTo.of_eq rfl); (case zc5 => decide); (case zkB => exact locs rfl); (case zc2 => exact rfl); (case zc3 => exact rfl); (case zc4 => exact rfl); k_whole; intro zg' zL' zh' zFG' zF' zN' zB' zX' zT'; (try dsimp only); (try k_lift zB'); (try k_fold)))) | fail
  k_with "my call type:range" => first | (((rename Fr _ _ _ _ => zF'); (rename News _ _ _ _ => zN'); first | (with_unfolding_all refine range1_rows zF' zN' ?_; intro _ _ _ _ _ _ _ _ _) | (with_unfolding_all refine range2_rows zF' zN' ?_; intro _ _ _ _ _ _ _ _ _))) | fail
  k_with "my eval ListComp" => first | ((k_here; k_dflt (refine LCg.ListComp_U (F₀ := by k_asm) (by with_unfolding_all rfl) (by decide) (by rfl) (by decide) (by rfl) ?_))) | fail
  k_with "my exec Assign cons ListComp" => first | ((k_here; k_dflt (refine LCg.Assign_ListComp_U (F₀ := by k_asm) (by rfl) (by with_unfolding_all rfl) (by with_unfolding_all rfl) (by decide) (by rfl) (by decide) (by rfl) (by rfl) (by rfl) ?_))) | fail
  k_with "my CompSrc" => first | (refine halt_of ?_) | fail
  k_with "my call ref" => first | (((with_reducible show wpAny _ _ (PySem.call (Value.ref 28) _ _) _ _ _); k_dflt (refine' sub_spec _ _ _ _ _ ?zp0 ?zp1 _ _ _ _ _ _ _ _ _ _ _ _ _ _ _ _ _ ?zq1 ?zq2 ?zq3 ?zq4 ?zq5 ?zq6 ?zq7 ?zq8 ?_); (case zp0 => assumption); (case zp1 => assumption); (case zq1 => k_asm); (case zq2 => k_asm); (case zq3 => k_asm); (case zq4 => k_asm); (case zq5 => k_asm); (case zq6 => first | exact rfl | assumption); (case zq7 => ktr_room); (case zq8 => ktr_units); rintro zv' zown' zh' ztk' ⟨⟨zt', ze1⟩, ze2⟩ zF' zN'; subst ze1; subst ze2; (try simp only [List.nil_append] at zN'); (try dsimp only); (try k_fold))) | fail
  k_with "my call ref" => first | (((with_reducible show wpAny _ _ (PySem.call (Value.ref 153) _ _) _ _ _); k_dflt (refine' ws_call _ _ _ _ ?zp0 ?zp1 _ _ _ _ _ _ _ _ _ _ _ _ _ _ _ _ _ ?zq1 ?zq2 ?zq3 ?zq4 ?zq5 ?zq6 ?zq7 ?zq8 ?_); (case zp0 => assumption); (case zp1 => first | omega | (simp only [List.length_drop, List.length_take]; omega)); (case zq1 => k_asm); (case zq2 => k_asm); (case zq3 => k_asm); (case zq4 => k_asm); (case zq5 => k_asm); (case zq6 => first | exact rfl | assumption); (case zq7 => ktr_room); (case zq8 => ktr_units); rintro zv' zown' zh' ztk' ⟨zx', zd', zT1', zT2', zvs', zk1', zk2', zk3', zk4', zk5', zt2', zt3', zt4', ze1, zhI', zl1', zl2', zl3', zl4', ze2⟩ zF' zN'; subst ze1; subst ze2; (try simp only [List.cons_append, List.nil_append] at zN'); (try dsimp only [wsD, tupO] at zN'); (try k_lt zl1'); (try simp only [List.nil_append] at zN'); (try dsimp only); (try k_fold))) | fail
  k_with "my call ref" => first | (((with_reducible show wpAny _ _ (PySem.call (Value.ref 169) _ _) _ _ _); k_dflt (refine' height_spec _ _ _ ?zp0 ?zp1 _ _ _ _ _ _ _ _ _ _ _ _ _ _ _ _ _ ?zq1 ?zq2 ?zq3 ?zq4 ?zq5 ?zq6 ?zq7 ?zq8 ?_); (case zp0 => first | omega | (simp only [List.length_append]; omega)); (case zp1 => first | omega | (simp only [List.length_append]; omega)); (case zq1 => k_asm); (case zq2 => k_asm); (case zq3 => k_asm); (case zq4 => k_asm); (case zq5 => k_asm); (case zq6 => first | exact rfl | assumption); (case zq7 => ktr_room); (case zq8 => ktr_units); rintro zv' zown' zh' ztk' ⟨⟨zt', ze1⟩, ze2⟩ zF' zN'; subst ze1; subst ze2; (try simp only [List.nil_append] at zN'); (try dsimp only); (try k_fold))) | fail
  k_with "my call ref" => first | (((with_reducible show wpAny _ _ (PySem.call (Value.ref 35) _ _) _ _ _); k_dflt (refine' lev_any _ _ _ _ _ _ _ _ ?zp0 ?zp1 ?zp2 ?zp3 ?zp4 ?zp5 ?zp6 ?zp7 _ _ _ _ _ _ _ _ _ _ _ _ _ _ _ _ _ ?zq1 ?zq2 ?zq3 ?zq4 ?zq5 ?zq6 ?zq7 ?zq8 ?_); (case zp0 => assumption); (case zp1 => assumption); (case zp2 => assumption); (case zp3 => assumption); (case zp4 => omega); (case zp5 => omega); (case zp6 => omega); (case zp7 => omega); (case zq1 => k_asm); (case zq2 => k_asm); (case zq3 => k_asm); (case zq4 => k_asm); (case zq5 => k_asm); (case zq6 => first | exact rfl | assumption); (case zq7 => ktr_room); (case zq8 => ktr_units); rintro zv' zown' zh' ztk' ⟨⟨zt', ze1⟩, ze2⟩ zF' zN'; subst ze1; subst ze2; (try simp only [List.nil_append] at zN'); (try dsimp only); (try k_fold))) | fail
  k_with "my call ref" => first | ((plain_pass; (with_reducible show wpAny _ _ (PySem.call (Value.ref 162) _ _) _ _ _); refine halt_of ?_)) | fail
  k_with "my lt" => first | assumption | exact And.left (by assumption) | exact And.left (And.right (by assumption)) | exact And.right (by assumption) | exact And.left (And.right (And.right (by assumption))) | exact And.right (And.right (by assumption)) | exact And.left (And.right (And.right (And.right (by assumption)))) | exact And.right (And.right (And.right (by assumption))) | exact And.left (And.right (And.right (And.right (And.right (by assumption))))) | exact And.right (And.right (And.right (And.right (by assumption)))) | exact And.left (And.right (And.right (And.right (And.right (And.right (by assumption)))))) | exact And.right (And.right (And.right (And.right (And.right (by assumption))))) | exact And.left (And.right (And.right (And.right (And.right (And.right (And.right (by assumption))))))) | exact And.right (And.right (And.right (And.right (And.right (And.right (by assumption)))))) | exact And.left (And.right (And.right (And.right (And.right (And.right (And.right (And.right (by assumption)))))))) | exact And.right (And.right (And.right (And.right (And.right (And.right (And.right (by assumption))))))) | exact And.left (And.right (And.right (And.right (And.right (And.right (And.right (And.right (And.right (by assumption))))))))) | exact And.right (And.right (And.right (And.right (And.right (And.right (And.right (And.right (by assumption)))))))) | fail
  k_with "my succ" => first | (first | exact Nat.lt_succ_self _ | exact Nat.lt_succ_of_lt (Nat.lt_succ_self _) | exact Nat.lt_succ_of_lt (Nat.lt_succ_of_lt (Nat.lt_succ_self _)) | exact Nat.lt_succ_of_lt (Nat.lt_succ_of_lt (Nat.lt_succ_of_lt (Nat.lt_succ_self _)))) | fail
  k_with "my omega" => with_reducible (first | assumption | decide | exact room0 (by assumption) | exact room1 (by assumption) rfl | exact room2 (by assumption) rfl | exact idx_nn _ | exact idx_ge _ _ | exact idx_lo _ | exact idx_lo' _ | exact idx_to _ | exact idx_one _ | exact idx_lt (by assumption) | exact idx_lt (lt_of_eq' (by assumption) (by assumption)) | exact idx_hi (by assumption) rfl | exact idx_hi2 (by assumption) (by assumption) rfl | exact nn_neg _ _ | exact Int.natCast_nonneg _ | exact cast_hi (by assumption) rfl | exact cast_hi2 (by assumption) (by assumption) rfl | exact cast_hi3 (by assumption) (by assumption) rfl | exact ng_lt _ _ | exact ng_hi _ | exact ng_ge (by assumption) | exact ng_lo (by assumption) rfl | exact ng_lo0 (by assumption) | exact ng_neg (by assumption) | exact ng_ne (by assumption) | exact cast_ne (by assumption) | exact cast_ne' (by assumption) (by assumption) | exact not_big (by assumption) (by assumption) rfl | exact slc_lt (by assumption) (by assumption) | exact slc_hi (by assumption) (by assumption) (by assumption) rfl | exact ix_pos (by assumption) | exact ix_ne (by assumption) | exact ix_add (by assumption) | exact le_add' _ _ | exact imp_ne (by assumption) (by assumption) | exact Nat.lt_succ_self _ | exact Nat.le_succ_of_le (by assumption) | exact le_big (by assumption) rfl | exact le_big' (by assumption) (by assumption) rfl | exact pos_of (by assumption) (by assumption) | exact lt_of_eq' (by assumption) (by assumption) | exact int_pos (by assumption) | exact eq_of (by assumption) (by assumption) | exact Ne.symm (by assumption) | (refine Nat.ne_of_gt ?_; k_extra "my lt") | (refine Nat.ne_of_lt ?_; k_extra "my lt") | (refine Nat.ne_of_gt ?_; k_extra "my succ") | (refine Nat.ne_of_lt ?_; k_extra "my succ") | exact Int.le_trans (by assumption) (by decide) | exact Int.lt_of_le_of_lt (by assumption) (by decide) | exact Int.lt_of_lt_of_le (by decide) (by assumption) | exact Nat.le_trans (Nat.le_of_lt (by assumption)) (Nat.le_of_ble_eq_true rfl) | exact Int.ofNat_le.mpr (Nat.le_trans (by assumption) (Nat.le_of_ble_eq_true rfl)) | fail)
  trivial
section
variable {prog : Program} {w : World} {A : Around} {E : Value → Shared → Prop} {s : Shared} {env : Env} {h₀ : Heap} {x : Str} {px : Pos} {body : List Stmt} {Q : Flow → Shared → Prop}
/-- for ch in an ascii text; the signs' tokens are no older than k₀ -/
theorem for_ascii {y : Str} {t : Tok} {k₀ : Nat} {m₀ : Str → Option Value} {news : List (Addr × Obj)}
    (hx : env.kindOf x = some .local) (hp : (env.scope.kind == .class || (env.scope.kind == .module && env.locals != env.globals)) = false)
    (hh : A.handled = none) (ha : y.cps.all (· < 128) = true) (hk : k₀ ≤ s.toks)
    (F : Fr h₀ env.locals s.heap m₀) (N : News h₀ env.locals s.heap news)
    (J : (Str → Option Value) → List (Addr × Obj) → Nat → (Str → Option Value) → List (Addr × Obj) → Prop) (h0 : J m₀ news 0 m₀ news)
    (turn : ∀ I it i c u m₁ news₁ h tk, k₀ ≤ u → k₀ ≤ tk → i < y.cps.size → y.cps[i]? = some c → J m₀ news i m₁ news₁ → (∀ p ∈ news₁, p.1 ≠ I) → Fr h₀ env.locals h (fun z => if z = x then some (.str ⟨#[c]⟩ u) else m₁ z) → News h₀ env.locals h ((I, it) :: news₁) →
      wpAny (model prog w) A (execs body env) (TurnPost h₀ env.locals { s with heap := h, toks := tk } I it (J m₀ news (i + 1)) Q) E { s with heap := h, toks := tk })
    (done : ∀ h tk m₁ news₁, J m₀ news y.cps.size m₁ news₁ → Fr h₀ env.locals h m₁ → News h₀ env.locals h news₁ → Q .next { s with heap := h, toks := tk })
    (hE : PassesOwn (model prog w) A env E := by passes_own) :
    wpAny (model prog w) A (pyIter (.str y t)) (fun it s₂ => codeAny (model prog w) A (.forLoop (.Name x px) it body [] env) (fun r s' => match r with | .ok f => Q f s' | .error e => cameBackBy (model prog w) A env E e s') s₂) E s := by
  refine wpAny_pyIter_ascii ha ?_
  have hnew := next_is_new F
  have hLI : env.locals ≠ s.heap.objs.size := fun e => absurd F.ns.lt (e ▸ Nat.lt_irrefl _)
  refine codeAny_forLoop (fun k s' => ∃ h' tk m' news' i, s' = { s with heap := h', toks := tk } ∧ k₀ ≤ tk ∧ h'.IsStrIter s.heap.objs.size "str_ascii_iterator" y t i ∧ Fr h₀ env.locals h' m' ∧ News h₀ env.locals h' news' ∧ (∀ p ∈ news', p.1 ≠ s.heap.objs.size) ∧ J m₀ news i m' news' ∧ i ≤ y.cps.size ∧ k = y.cps.size + 1 - i) ?_ (y.cps.size + 1)
    ⟨_, s.toks, m₀, news, 0, rfl, hk, ⟨_, Heap.get?_push_size _ rfl, rfl, rfl⟩, F.push _, fun p hp => ⟨Heap.get?_push_of_some _ (N p hp).1, (N p hp).2⟩, fun p hp e => absurd (Heap.lt_size (N p hp).1) (e ▸ Nat.lt_irrefl _), h0, Nat.zero_le _, rfl⟩
  rintro k s' ⟨h', tk, m', news', i, rfl, htk, hit, F', N', off, hJ, hi, rfl⟩
  by_cases hlt : i < y.cps.size
  · refine wpAny_pyNext_ascii_item hit (c := y.cps[i]) (by simp [hlt]) fun h₁ hit₁ hs₁ => ?_
    have F₁ : Fr h₀ env.locals h₁ m' := F'.change hs₁ (fun e => hLI e.symm) hnew
    have N₁ : News h₀ env.locals h₁ news' := fun p hp => ⟨(hs₁.2 _ (off p hp)).trans (N' p hp).1, (N' p hp).2⟩
    refine wpAny_assign_Name (wpAny_storeName_local hx F₁.ns (fun h₂ hn₂ hs₂ => ?_) hp)
    have F₂ := F₁.set hn₂ hs₂
    have N₂ := N₁.set hs₂
    obtain ⟨it, hI₁, c₁, d₁⟩ := hit₁
    have hI₂ : h₂.get? s.heap.objs.size = some it := (hs₂.2 _ (fun e => hLI e.symm)).trans hI₁
    have N₃ : News h₀ env.locals h₂ ((s.heap.objs.size, it) :: news') := fun p hp => by
      rcases List.mem_cons.mp hp with rfl | hp
      · exact ⟨hI₂, fun e => hLI e.symm, hnew⟩
      · exact N₂ p hp
    refine wpAny_mono (wpAny_toks_of (n := k₀) (show k₀ ≤ tk + 1 + 1 by omega) (turn _ it i y.cps[i] tk m' news' h₂ (tk + 1 + 1) htk (by omega) hlt (by simp [hlt]) hJ off F₂ N₃)) (fun f s₃ p => ?_) fun e s₃ a => hE e s₃ a.2
    obtain ⟨hk₃, p⟩ := p
    have fin : TurnEnd h₀ env.locals { s with heap := h₂, toks := tk + 1 + 1 } s.heap.objs.size it (J m₀ news (i + 1)) s₃ → ∃ m, m < y.cps.size + 1 - i ∧ ∃ h' tk m' news' i, s₃ = { s with heap := h', toks := tk } ∧ k₀ ≤ tk ∧ h'.IsStrIter s.heap.objs.size "str_ascii_iterator" y t i ∧ Fr h₀ env.locals h' m' ∧ News h₀ env.locals h' news' ∧ (∀ p ∈ news', p.1 ≠ s.heap.objs.size) ∧ J m₀ news i m' news' ∧ i ≤ y.cps.size ∧ m = y.cps.size + 1 - i := by
      rintro ⟨h₄, tk₄, m₄, news₄, rfl, F₄, N₄, o₄, J₄⟩
      exact ⟨y.cps.size + 1 - (i + 1), by omega, h₄, tk₄, m₄, news₄, i + 1, rfl, hk₃, ⟨it, (N₄ _ (List.mem_cons_self ..)).1, c₁, d₁⟩, F₄, fun p hp => N₄ p (List.mem_cons_of_mem _ hp), o₄, J₄, hlt, rfl⟩
    cases f with
    | ret v => exact p
    | brk => exact p
    | next => exact fin p
    | cont => exact fin p
  · have hin : i = y.cps.size := by omega
    subst hin
    refine wpAny_pyNext_ascii_end hh hit (by simp) fun h₁ he => wpAny_execs_nil ?_
    have F₁ : Fr h₀ env.locals h₁ m' := ⟨F'.ns.at' fun o e => he _ o hLI e, fun b o e => he b o (fun q => by rw [q, hnew] at e; cases e) (F'.keep b o e), F'.above⟩
    have N₁ : News h₀ env.locals h₁ news' := fun p hp => ⟨he _ _ (off p hp) (N' p hp).1, (N' p hp).2⟩
    exact done h₁ tk m' news' hJ F₁ N₁
end
section
variable {prog : Program} {w : World} {A : Around} {E : Value → Shared → Prop} {s : Shared}
noncomputable def CleanStatics (h : Heap) : Prop := h.get? 2 = some { cls := Value.none, data := Data.dict #[] }
theorem notTold {t : Tok} {Q : Bool → Shared → Prop} (hc : CleanStatics s.heap) (h : Q false s) : wpAny (model prog w) A (sharingNotTold t) Q E s := by
  unfold sharingNotTold
  refine wpAny_bind (wpAny_nsGet (m := fun _ => none) ?_ ?_)
  · exact ⟨_, #[], 0, hc, rfl, by intro e he; simp at he, fun name => rfl⟩
  · exact wpAny_pure h
theorem created_any {c : Bool} {t u : Tok} {Q : Bool → Shared → Prop} (hc : CleanStatics s.heap) (ht : t ≠ 0) (hu : u ≠ 0) (htu : t = u → c = true) (h : ∀ b : Bool, (b = true → c = true) → Q b s) : wpAny (model prog w) A (isSame.created c t u) Q E s := by
  unfold isSame.created
  have e1 : (t == 0 || u == 0) = false := by simp [ht, hu]
  rw [e1]
  by_cases e : t = u
  · subst e
    have e2 : (t == t) = true := by simp
    simp only [e2, if_true, Bool.false_eq_true, if_false]
    exact wpAny_pure (h true fun _ => htu rfl)
  · have e2 : (t == u) = false := by simp [e]
    cases c with
    | false =>
      simp only [e2, Bool.false_eq_true, if_false, Bool.not_false, if_true]
      exact wpAny_pure (h false fun x => x)
    | true =>
      simp only [e2, Bool.false_eq_true, if_false, Bool.not_true]
      refine wpAny_bind (notTold hc ?_)
      simp only [Bool.false_eq_true, if_false]
      refine wpAny_bind (notTold hc ?_)
      simp only [Bool.false_eq_true, if_false]
      refine wpAny_bind (wpAny_rule ?_)
      refine wpAny_bind (wpAny_askSetting ?_)
      exact wpAny_pure (h _ fun _ => rfl)
theorem is_str {p q : Str} {t u : Tok} {Q : Value → Shared → Prop} (hc : CleanStatics s.heap) (ht : t ≠ 0) (hu : u ≠ 0) (htu : t = u → p = q) (h : ∀ b : Bool, (b = true → p = q) → Q (.bool b) s) : wpAny (model prog w) A (compareOp .Is (.str p t) (.str q u)) Q E s := by
  show wpAny _ _ (do return Value.bool (← isSame (.str p t) (.str q u))) _ _ s
  refine wpAny_bind (created_any hc ht hu (fun e => by rw [htu e]; simp) fun b hb => wpAny_pure (h b fun e => by simpa using hb e))
theorem is_int {p q : Int} {t u : Tok} {Q : Value → Shared → Prop} (hc : CleanStatics s.heap) (ht : t ≠ 0) (hu : u ≠ 0) (htu : t = u → p = q) (h : ∀ b : Bool, (b = true → p = q) → Q (.bool b) s) : wpAny (model prog w) A (compareOp .Is (.int p t) (.int q u)) Q E s := by
  show wpAny _ _ (do return Value.bool (← isSame (.int p t) (.int q u))) _ _ s
  refine wpAny_bind ?_
  show wpAny _ _ (if (p == q && smallInt p) = true then isSame.cachedInt t u else isSame.created (p == q) t u) _ _ s
  split
  · rename_i hq
    have hpq : p = q := by simpa using (Bool.and_eq_true_iff.mp hq).1
    unfold isSame.cachedInt
    have e1 : (t == 0 || u == 0) = false := by simp [ht, hu]
    rw [e1]
    simp only [Bool.false_eq_true, if_false]
    refine wpAny_bind (wpAny_rule ?_)
    exact wpAny_pure (wpAny_pure (h true fun _ => hpq))
  · exact created_any hc ht hu (fun e => by rw [htu e]; simp) fun b hb => wpAny_pure (h b fun e => by simpa using hb e)
end
end
-- part 11b_count
section
example : True := by
  k_with_none
  k_with "my exec For Name Call cons nil" => first | ((k_here; (rename Fr _ _ _ _ => zlF'); (with_unfolding_all refine' For_invVF zlF' ?zk1 ?zk2 ?_; (case zk1 => exact rfl); (case zk2 => exact rfl); k_whole))) | fail
  k_with "my exec For Name Name cons nil" => first | ((k_here; (rename Fr _ _ _ _ => zlF'); (with_unfolding_all refine' For_invVF zlF' ?zk1 ?zk2 ?_; (case zk1 => exact rfl); (case zk2 => exact rfl); k_whole))) | fail
  k_with "my exec For Name Attribute cons nil" => first | ((k_here; (rename Fr _ _ _ _ => zlF'); (with_unfolding_all refine' For_invVF zlF' ?zk1 ?zk2 ?_; (case zk1 => exact rfl); (case zk2 => exact rfl); k_whole))) | fail
  k_with "my exec For Name Subscript cons nil" => first | ((k_here; (rename Fr _ _ _ _ => zlF'); (with_unfolding_all refine' For_invVF zlF' ?zk1 ?zk2 ?_; (case zk1 => exact rfl); (case zk2 => exact rfl); k_whole))) | fail
  k_with "my pyIter ref" => first | (((with_reducible show wpAny _ _ (pyIter (Value.ref _)) (fun it s₂ => LoopAtV _ _ _ _ _ _ _ _ _ it s₂) _ _); refine halt_of ?_)) | fail
  k_with "my pyIter str" => first | (((with_reducible show wpAny _ _ (pyIter (Value.str _ _)) (fun it s₂ => LoopAtV _ _ _ _ _ _ _ _ _ it s₂) _ _); refine halt_of ?_)) | fail
  k_with "my exec While BoolOp cons nil" => first | (refine halt_of ?_) | fail
  k_with "my exec While Compare cons nil" => first | (refine halt_of ?_) | fail
  k_with "my subscriptTail Name Slice str ref" => first | (((with_reducible show wpAny _ _ (subscriptTail _ (Expr.Slice none (some _) none _) _ _) _ _ _); (with_reducible rename Fr _ _ _ _ => zF'); (with_reducible rename News _ _ _ _ => zN'); (refine slice_strN_nn_len (hsz := ?zhsz) (s := ⟨_, _, _, _, _⟩) zF' zN' ?_); (case zhsz => size_fits); intro _ _ _ _ _ _)) | fail
  k_with "my ite" => first | (first | ((with_reducible show ite ((_ != (0 : Int)) = true) _ _); k_dflt (first | refine ite_bne_t (by omega) ?_ | refine ite_bne_f (by omega) ?_)) | ((with_reducible show ite ((!(_ != (0 : Int))) = true) _ _); k_dflt (first | refine ite_nbne_t (by omega) ?_ | refine ite_nbne_f (by omega) ?_)) | ((with_reducible show ite (decide _ = true) _ _); k_dflt (first | refine ite_dec_t (by omega) ?_ | refine ite_dec_f (by omega) ?_))) | fail
  k_with "my call type:list" => first | (((with_reducible show wpAny _ _ (call (Value.type _) [Value.ref _]) _ _ _); refine halt_of ?_)) | fail
  k_with "my setItem ref int" => first | ((k_here; (with_reducible show wpAny _ _ (setItem (Value.ref _) (Value.int _ _) (Value.int _ _)) _ _ _); k_dflt (refine' ksa_set ?zk1 ?zk2 ?zk3 ?zk4 ?zk5 ?zk6 ?zk7 ?_; (case zk1 => k_asm); (case zk2 => k_asm); (case zk3 => (repeat (first | exact Upd.head (by assumption) | refine Upd.tail (by assumption) ?_))); (case zk4 => with_reducible assumption); (case zk5 => ksa_idx); (case zk6 => ksa_idx); (case zk7 => ksa_idx); k_whole); intro zh' zF' zN' zhi' zhl' zhs'; (try k_sweep))) | fail
  k_with "my k_all" => first | (first | assumption | exact lt_ne (by assumption) | exact allLt_ne (by first | assumption | exact And.right (by assumption) | exact And.right (And.right (by assumption)) | exact And.right (And.right (And.right (by assumption))) | exact And.right (And.right (And.right (And.right (by assumption)))) | exact And.right (And.right (And.right (And.right (And.right (by assumption))))) | exact And.right (And.right (And.right (And.right (And.right (And.right (by assumption)))))) | exact And.right (And.right (And.right (And.right (And.right (And.right (And.right (by assumption))))))))) | fail
  k_with "my call type:tuple" => first | ((k_here; (with_reducible show wpAny _ _ (call (Value.type _) [Value.ref _]) _ _ _); k_dflt (refine' kde_tupleOf ?zk1 ?zk2 ?zk3 ?zk4 ?zk5 ?_; (case zk1 => k_asm); (case zk2 => k_asm); (case zk3 => exact News.isList (by k_asm) (by k_mem)); (case zk4 => exact sz_ints (by assumption) (by omega)); (case zk5 => rfl); k_whole); intro zD' zh' zF' zN' zl1; (try k_lt zl1); (try k_sweep))) | fail
  k_with "my call ref" => first | ((plain_pass; k_here; (refine wpAny_call ?_); k_dflt (refine' code_def ?zk1 ?zk2 ?zk3 ?zk4 ?zk5 ?zkA ?zkF ?zkK ?zk6 ?zk7 ?zk8 ?zk9 ?zkB ?_ ?zc2 ?zc3 ?zc4 ?zc5; (case zkA => exact rfl); (case zkF => exact rfl); (case zkK => first | exact rfl | assumption); (case zk1 => k_asm); (case zk2 => k_asm); (case zk3 => k_asm); (case zk4 => k_asm); (case zk5 => k_asm); (case zk6 => k_is); (case zk7 => k_is); (case zk8 => ktr_room); (case zk9 => exact BindsTo.of_eq rfl); (case zc5 => decide); (case zkB => exact locs rfl); (case zc2 => exact rfl); (case zc3 => exact rfl); (case zc4 => exact rfl); k_whole; intro zg' zL' zh' zFG' zF' zN' zB' zX' zT'; (try dsimp only); (try k_lift zB'); (try k_fold)))) | fail
  k_with "my call type:range" => first | (((rename Fr _ _ _ _ => zF'); (rename News _ _ _ _ => zN'); first | (with_unfolding_all refine range1_rows zF' zN' ?_; intro _ _ _ _ _ _ _ _ _) | (with_unfolding_all refine range2_rows zF' zN' ?_; intro _ _ _ _ _ _ _ _ _))) | fail
  k_with "my eval ListComp" => first | ((k_here; k_dflt (refine LCg.ListComp_U (F₀ := by k_asm) (by with_unfolding_all rfl) (by decide) (by rfl) (by decide) (by rfl) ?_))) | fail
  k_with "my exec Assign cons ListComp" => first | ((k_here; k_dflt (refine LCg.Assign_ListComp_U (F₀ := by k_asm) (by rfl) (by with_unfolding_all rfl) (by with_unfolding_all rfl) (by decide) (by rfl) (by decide) (by rfl) (by rfl) (by rfl) ?_))) | fail
  k_with "my CompSrc" => first | (refine halt_of ?_) | fail
  k_with "my call ref" => first | (((with_reducible show wpAny _ _ (PySem.call (Value.ref 28) _ _) _ _ _); k_dflt (refine' sub_spec _ _ _ _ _ ?zp0 ?zp1 _ _ _ _ _ _ _ _ _ _ _ _ _ _ _ _ _ ?zq1 ?zq2 ?zq3 ?zq4 ?zq5 ?zq6 ?zq7 ?zq8 ?_); (case zp0 => assumption); (case zp1 => assumption); (case zq1 => k_asm); (case zq2 => k_asm); (case zq3 => k_asm); (case zq4 => k_asm); (case zq5 => k_asm); (case zq6 => first | exact rfl | assumption); (case zq7 => ktr_room); (case zq8 => ktr_units); rintro zv' zown' zh' ztk' ⟨⟨zt', ze1⟩, ze2⟩ zF' zN'; subst ze1; subst ze2; (try simp only [List.nil_append] at zN'); (try dsimp only); (try k_fold))) | fail
  k_with "my call ref" => first | (((with_reducible show wpAny _ _ (PySem.call (Value.ref 153) _ _) _ _ _); k_dflt (refine' ws_call _ _ _ _ ?zp0 ?zp1 _ _ _ _ _ _ _ _ _ _ _ _ _ _ _ _ _ ?zq1 ?zq2 ?zq3 ?zq4 ?zq5 ?zq6 ?zq7 ?zq8 ?_); (case zp0 => assumption); (case zp1 => first | omega | (simp only [List.length_drop, List.length_take]; omega)); (case zq1 => k_asm); (case zq2 => k_asm); (case zq3 => k_asm); (case zq4 => k_asm); (case zq5 => k_asm); (case zq6 => first | exact rfl | assumption); (case zq7 => ktr_room); (case zq8 => ktr_units); rintro zv' zown' zh' ztk' ⟨zx', zd', zT1', zT2', zvs', zk1', zk2', zk3', zk4', zk5', zt2', zt3', zt4', ze1, zhI', zl1', zl2', zl3', zl4', ze2⟩ zF' zN'; subst ze1; subst ze2; (try simp only [List.cons_append, List.nil_append] at zN'); (try dsimp only [wsD, tupO] at zN'); (try k_lt zl1'); (try simp only [List.nil_append] at zN'); (try dsimp only); (try k_fold))) | fail
  k_with "my call ref" => first | (((with_reducible show wpAny _ _ (PySem.call (Value.ref 169) _ _) _ _ _); k_dflt (refine' height_spec _ _ _ ?zp0 ?zp1 _ _ _ _ _ _ _ _ _ _ _ _ _ _ _ _ _ ?zq1 ?zq2 ?zq3 ?zq4 ?zq5 ?zq6 ?zq7 ?zq8 ?_); (case zp0 => first | omega | (simp only [List.length_append]; omega)); (case zp1 => first | omega | (simp only [List.length_append]; omega)); (case zq1 => k_asm); (case zq2 => k_asm); (case zq3 => k_asm); (case zq4 => k_asm); (case zq5 => k_asm); (case zq6 => first | exact rfl | assumption); (case zq7 => ktr_room); (case zq8 => ktr_units); rintro zv' zown' zh' ztk' ⟨⟨zt', ze1⟩, ze2⟩ zF' zN'; subst ze1; subst ze2; (try simp only [List.nil_append] at zN'); (try dsimp only); (try k_fold))) | fail
  k_with "my call ref" => first | (((with_reducible show wpAny _ _ (PySem.call (Value.ref 35) _ _) _ _ _); k_dflt (refine' lev_any _ _ _ _ _ _ _ _ ?zp0 ?zp1 ?zp2 ?zp3 ?zp4 ?zp5 ?zp6 ?zp7 _ _ _ _ _ _ _ _ _ _ _ _ _ _ _ _ _ ?zq1 ?zq2 ?zq3 ?zq4 ?zq5 ?zq6 ?zq7 ?zq8 ?_); (case zp0 => assumption); (case zp1 => assumption); (case zp2 => assumption); (case zp3 => assumption); (case zp4 => omega); (case zp5 => omega); (case zp6 => omega); (case zp7 => omega); (case zq1 => k_asm); (case zq2 => k_asm); (case zq3 => k_asm); (case zq4 => k_asm); (case zq5 => k_asm); (case zq6 => first | exact rfl | assumption); (case zq7 => ktr_room); (case zq8 => ktr_units); rintro zv' zown' zh' ztk' ⟨⟨zt', ze1⟩, ze2⟩ zF' zN'; subst ze1; subst ze2; (try simp only [List.nil_append] at zN'); (try dsimp only); (try k_fold))) | fail
  k_with "my call ref" => first | ((plain_pass; (with_reducible show wpAny _ _ (PySem.call (Value.ref 162) _ _) _ _ _); refine halt_of ?_)) | fail
  k_with "my lt" => first | assumption | exact And.left (by assumption) | exact And.left (And.right (by assumption)) | exact And.right (by assumption) | exact And.left (And.right (And.right (by assumption))) | exact And.right (And.right (by assumption)) | exact And.left (And.right (And.right (And.right (by assumption)))) | exact And.right (And.right (And.right (by assumption))) | exact And.left (And.right (And.right (And.right (And.right (by assumption))))) | exact And.right (And.right (And.right (And.right (by assumption)))) | exact And.left (And.right (And.right (And.right (And.right (And.right (by assumption)))))) | exact And.right (And.right (And.right (And.right (And.right (by assumption))))) | exact And.left (And.right (And.right (And.right (And.right (And.right (And.right (by assumption))))))) | exact And.right (And.right (And.right (And.right (And.right (And.right (by assumption)))))) | exact And.left (And.right (And.right (And.right (And.right (And.right (And.right (And.right (by assumption)))))))) | exact And.right (And.right (And.right (And.right (And.right (And.right (And.right (by assumption))))))) | exact And.left (And.right (And.right (And.right (And.right (And.right (And.right (And.right (And.right (by assumption))))))))) | exact And.right (And.right (And.right (And.right (And.right (And.right (And.right (And.right (by assumption)))))))) | fail
  k_with "my succ" => first | (first | exact Nat.lt_succ_self _ | exact Nat.lt_succ_of_lt (Nat.lt_succ_self _) | exact Nat.lt_succ_of_lt (Nat.lt_succ_of_lt (Nat.lt_succ_self _)) | exact Nat.lt_succ_of_lt (Nat.lt_succ_of_lt (Nat.lt_succ_of_lt (Nat.lt_succ_self _)))) | fail
  k_with "my omega" => with_reducible (first | assumption | decide | exact room0 (by assumption) | exact room1 (by assumption) rfl | exact room2 (by assumption) rfl | exact idx_nn _ | exact idx_ge _ _ | exact idx_lo _ | exact idx_lo' _ | exact idx_to _ | exact idx_one _ | exact idx_lt (by assumption) | exact idx_lt (lt_of_eq' (by assumption) (by assumption)) | exact idx_hi (by assumption) rfl | exact idx_hi2 (by assumption) (by assumption) rfl | exact nn_neg _ _ | exact Int.natCast_nonneg _ | exact cast_hi (by assumption) rfl | exact cast_hi2 (by assumption) (by assumption) rfl | exact cast_hi3 (by assumption) (by assumption) rfl | exact ng_lt _ _ | exact ng_hi _ | exact ng_ge (by assumption) | exact ng_lo (by assumption) rfl | exact ng_lo0 (by assumption) | exact ng_neg (by assumption) | exact ng_ne (by assumption) | exact cast_ne (by assumption) | exact cast_ne' (by assumption) (by assumption) | exact not_big (by assumption) (by assumption) rfl | exact slc_lt (by assumption) (by assumption) | exact slc_hi (by assumption) (by assumption) (by assumption) rfl | exact ix_pos (by assumption) | exact ix_ne (by assumption) | exact ix_add (by assumption) | exact le_add' _ _ | exact imp_ne (by assumption) (by assumption) | exact Nat.lt_succ_self _ | exact Nat.le_succ_of_le (by assumption) | exact le_big (by assumption) rfl | exact le_big' (by assumption) (by assumption) rfl | exact pos_of (by assumption) (by assumption) | exact lt_of_eq' (by assumption) (by assumption) | exact int_pos (by assumption) | exact eq_of (by assumption) (by assumption) | exact Ne.symm (by assumption) | (refine Nat.ne_of_gt ?_; k_extra "my lt") | (refine Nat.ne_of_lt ?_; k_extra "my lt") | (refine Nat.ne_of_gt ?_; k_extra "my succ") | (refine Nat.ne_of_lt ?_; k_extra "my succ") | exact Int.le_trans (by assumption) (by decide) | exact Int.lt_of_le_of_lt (by assumption) (by decide) | exact Int.lt_of_lt_of_le (by decide) (by assumption) | exact Nat.le_trans (Nat.le_of_lt (by assumption)) (Nat.le_of_ble_eq_true rfl) | exact Int.ofNat_le.mpr (Nat.le_trans (by assumption) (Nat.le_of_ble_eq_true rfl)) | fail)
  trivial
theorem ints_at {vs : List Value} {ns : List Int} (h : IntsAre vs ns) {i : Nat} {v : Value} (hv : vs.toArray[i]? = some v) : ∃ (x : Int) (t : Tok), ns[i]? = some x ∧ v = Value.int x t := by
  induction h generalizing i with
  | nil => simp at hv
  | cons x t _ ih =>
    cases i with
    | zero =>
      simp at hv
      exact ⟨_, _, rfl, hv.symm⟩
    | succ i =>
      simp only [List.getElem?_toArray, List.getElem?_cons_succ] at hv ih ⊢
      exact ih hv
noncomputable def cntS (l : List Nat) (c : Nat) (n : Nat) : Int := ((l.take n).countP (· == c) : Nat)
theorem cnt_succ {α : Type} {l : List α} {f : α → Bool} {i : Nat} {d : α} (h : l[i]? = some d) : ((l.take (i + 1)).countP f : Nat) = (l.take i).countP f + (if f d = true then 1 else 0) := by
  rw [List.take_add_one, h, List.countP_append]
  simp [List.countP_cons]
theorem clean_of {w : World} {h₀ h : Heap} {L : Addr} {m : Str → Option Value} (X : (Mine.hdK.heap_1 w.params).In h₀) (F : Fr h₀ L h m) : CleanStatics h :=
  F.keep _ _ (X 2 _ (by rfl))
/-- a spec that asks something of the token counter -/
noncomputable abbrev SpecT (w : World) (mean : ExcName → Option Value) (mg mb : Str → Option Value) (f : Addr) (D U : Nat) (vs : List Value) (news : List (Addr × Obj)) (Kt : Nat → Prop) (R : Value → List (Addr × Obj) → Prop) : Prop :=
  ∀ (dp un : Nat) (gd : Option (List Code)) (cn : Str) (cs : Scope) (a : Addr) (ccd : Value) (cl : List (Str × Addr)) (outer : List Env) (A₀ : Around) (base h₀ : Heap) (L : Addr) (m : Str → Option Value) (s : Shared) (Q E : Value → Shared → Prop),
    Below A₀ base outer h₀ → Fr h₀ L s.heap m → (Mine.hdK.heap_1 w.params).In h₀ → News h₀ L s.heap news → Top VW LS mean mg mb h₀ → cs.kind = .function → dp + D < recursionLimit → un + U < cLine → Kt s.toks →
    (∀ (v : Value) (own : List (Addr × Obj)) (h' : Heap) (tk' : Nat), R v own → Fr h₀ L h' m → News h₀ L h' (own ++ news) → Q v { s with heap := h', toks := tk' }) →
    wpAny (model PySem.Challenge.rw_sw0060_01.row.prog w) (ktrTop dp un gd cn cs L a ccd cl outer) (call (.ref f) vs) Q E s
section
example : True := by
  k_with "my exec For Name Name cons nil" => first | ((k_dflt (refine wpAny_For ?_ (by intro _; rfl)))) | fail
  k_with "my pyIter str" => first | (((with_reducible show wpAny _ _ (pyIter (Value.str _ _)) _ _ _); refine halt_of ?_)) | fail
  k_with "my compareOp Is str str" => first | ((k_here; k_dflt (refine' is_str ?zc ?zt ?zu ?zn ?_; (case zc => exact clean_of (by assumption) (by assumption)); (case zt => (show @Ne Nat _ 0; omega)); (case zu => (show @Ne Nat _ 0; omega)); (case zn => (intro e; exfalso; (have ze' : @Eq Nat _ _ := e); omega)); k_whole); intro zb zhb)) | fail
  trivial
theorem countS_spec {w : World} {mean mg mb} (l : List Nat) (tl : Tok) (c : Nat) (tc : Tok) (news) (hl : l.length ≤ 30) (hb : ∀ x ∈ l, x < 128) (htc : @Ne Nat tc 0) :
   SpecT w mean mg mb 77 2 20 [Value.str (mkS l) tl, Value.str (mkS [c]) tc] news (fun k => @LT.lt Nat _ tc k) (fun v own => (∃ t, v = .int (l.countP (· == c) : Nat) t) ∧ own = []) := by
  dsimp only [SpecT]
  intro dp un gd cn cs a ccd cl outer A₀ base h₀ L m s Q E b1 b2 b3 b4 b5 b6 b7 b8 hkt hret
  refine wpAny_call ?_
  k_dflt cell_enter
  generalize hgt : s.toks + _ = tk0
  have hkt0 : @LT.lt Nat _ tc tk0 := by
    rw [← hgt]
    exact Nat.lt_of_lt_of_le hkt (Nat.le_add_right _ _)
  clear hgt
  k_steps
  refine Halt.out ?_
  k_sweep
  rename Fr _ _ _ _ => F
  rename News _ _ _ _ => N
  refine fr_let F ?_
  clear F
  intro MF1 F
  refine for_ascii (k₀ := tc + 1) (by rfl) (by rfl) (by rfl) ?_ ?_ F N (fun M nw i m₁ l' => l' = nw ∧ (∃ t, m₁ (Str.ofString "count") = some (.int (cntS l c i) t)) ∧ ∀ z, z ≠ Str.ofString "count" → z ≠ Str.ofString "i" → m₁ z = M z) ?_ ?_ ?_
  · simp only [mkS, List.all_toArray, List.all_eq_true, decide_eq_true_eq]
    exact hb
  · dsimp only
    omega
  · exact ⟨rfl, ⟨_, rfl⟩, fun z _ _ => rfl⟩
  · rintro I it i d u m₁ news₁ h tk hu htk hi hd ⟨rfl, ⟨tc', hc⟩, hm⟩ ho F' N'
    k_fold
    rw [frm1_1 hc hm] at F'
    clear hc hm F N
    have hu0 : @Ne Nat u 0 := by omega
    have hdl : l[i]? = some d := by simpa [mkS] using hd
    have hcs := cnt_succ (f := fun x => x == c) hdl
    k_steps
    · rename (_ = true → _ = mkS [c]) => e1
      have e2 : mkS [d] = mkS [c] := e1 (by assumption)
      have e3 : d = c := by simpa [mkS] using e2
      refine TurnEnd.intro (by assumption) (by assumption) news₁ (List.mem_cons_self ..) (fun p hp => List.mem_cons_of_mem _ hp) ho ⟨rfl, ⟨_, int_eq ?_⟩, by intro z h1 h2; simp only [h1, h2, if_false]⟩
      rw [if_pos (by simp [e3])] at hcs
      unfold cntS
      omega
    · rename ((_ == mkS [c]) = true) => e1
      have e2 : (mkS [d] == mkS [c]) = true := e1
      have e3 : d = c := by simpa [mkS_beq] using e2
      refine TurnEnd.intro (by assumption) (by assumption) news₁ (List.mem_cons_self ..) (fun p hp => List.mem_cons_of_mem _ hp) ho ⟨rfl, ⟨_, int_eq ?_⟩, by intro z h1 h2; simp only [h1, h2, if_false]⟩
      rw [if_pos (by simp [e3])] at hcs
      unfold cntS
      omega
    · rename ((_ == mkS [c]) = false) => e1
      have e2 : (mkS [d] == mkS [c]) = false := e1
      have e3 : d ≠ c := by simpa [mkS_beq] using e2
      refine TurnEnd.intro (by assumption) (by assumption) news₁ (List.mem_cons_self ..) (fun p hp => List.mem_cons_of_mem _ hp) ho ⟨rfl, ⟨_, int_eq ?_⟩, by intro z h1 h2; simp only [h1, h2, if_false]⟩
      rw [if_neg (by simp [e3])] at hcs
      unfold cntS
      omega
  · rintro h tk m₁ news₁ ⟨rfl, ⟨tc', hc⟩, hm⟩ F' N'
    rw [frm1_1 hc hm] at F'
    dsimp only
    k_steps
    have e : cntS l c (mkS l).cps.size = (l.countP (· == c) : Nat) := by
      unfold cntS
      rw [mkS_size, List.take_length]
    rw [e]
    exact hret _ [] _ _ ⟨⟨_, rfl⟩, rfl⟩ (by assumption) (by assumption)
end
example : True := by
  k_with_none
  k_with "my exec For Name Call cons nil" => first | ((k_here; (rename Fr _ _ _ _ => zlF'); (with_unfolding_all refine' For_invVF zlF' ?zk1 ?zk2 ?_; (case zk1 => exact rfl); (case zk2 => exact rfl); k_whole))) | fail
  k_with "my exec For Name Name cons nil" => first | ((k_here; (rename Fr _ _ _ _ => zlF'); (with_unfolding_all refine' For_invVF zlF' ?zk1 ?zk2 ?_; (case zk1 => exact rfl); (case zk2 => exact rfl); k_whole))) | fail
  k_with "my exec For Name Attribute cons nil" => first | ((k_here; (rename Fr _ _ _ _ => zlF'); (with_unfolding_all refine' For_invVF zlF' ?zk1 ?zk2 ?_; (case zk1 => exact rfl); (case zk2 => exact rfl); k_whole))) | fail
  k_with "my exec For Name Subscript cons nil" => first | ((k_here; (rename Fr _ _ _ _ => zlF'); (with_unfolding_all refine' For_invVF zlF' ?zk1 ?zk2 ?_; (case zk1 => exact rfl); (case zk2 => exact rfl); k_whole))) | fail
  k_with "my pyIter ref" => first | (((with_reducible show wpAny _ _ (pyIter (Value.ref _)) (fun it s₂ => LoopAtV _ _ _ _ _ _ _ _ _ it s₂) _ _); refine halt_of ?_)) | fail
  k_with "my pyIter str" => first | (((with_reducible show wpAny _ _ (pyIter (Value.str _ _)) (fun it s₂ => LoopAtV _ _ _ _ _ _ _ _ _ it s₂) _ _); refine halt_of ?_)) | fail
  k_with "my exec While BoolOp cons nil" => first | (refine halt_of ?_) | fail
  k_with "my exec While Compare cons nil" => first | (refine halt_of ?_) | fail
  k_with "my subscriptTail Name Slice str ref" => first | (((with_reducible show wpAny _ _ (subscriptTail _ (Expr.Slice none (some _) none _) _ _) _ _ _); (with_reducible rename Fr _ _ _ _ => zF'); (with_reducible rename News _ _ _ _ => zN'); (refine slice_strN_nn_len (hsz := ?zhsz) (s := ⟨_, _, _, _, _⟩) zF' zN' ?_); (case zhsz => size_fits); intro _ _ _ _ _ _)) | fail
  k_with "my ite" => first | (first | ((with_reducible show ite ((_ != (0 : Int)) = true) _ _); k_dflt (first | refine ite_bne_t (by omega) ?_ | refine ite_bne_f (by omega) ?_)) | ((with_reducible show ite ((!(_ != (0 : Int))) = true) _ _); k_dflt (first | refine ite_nbne_t (by omega) ?_ | refine ite_nbne_f (by omega) ?_)) | ((with_reducible show ite (decide _ = true) _ _); k_dflt (first | refine ite_dec_t (by omega) ?_ | refine ite_dec_f (by omega) ?_))) | fail
  k_with "my call type:list" => first | (((with_reducible show wpAny _ _ (call (Value.type _) [Value.ref _]) _ _ _); refine halt_of ?_)) | fail
  k_with "my setItem ref int" => first | ((k_here; (with_reducible show wpAny _ _ (setItem (Value.ref _) (Value.int _ _) (Value.int _ _)) _ _ _); k_dflt (refine' ksa_set ?zk1 ?zk2 ?zk3 ?zk4 ?zk5 ?zk6 ?zk7 ?_; (case zk1 => k_asm); (case zk2 => k_asm); (case zk3 => (repeat (first | exact Upd.head (by assumption) | refine Upd.tail (by assumption) ?_))); (case zk4 => with_reducible assumption); (case zk5 => ksa_idx); (case zk6 => ksa_idx); (case zk7 => ksa_idx); k_whole); intro zh' zF' zN' zhi' zhl' zhs'; (try k_sweep))) | fail
  k_with "my k_all" => first | (first | assumption | exact lt_ne (by assumption) | exact allLt_ne (by first | assumption | exact And.right (by assumption) | exact And.right (And.right (by assumption)) | exact And.right (And.right (And.right (by assumption))) | exact And.right (And.right (And.right (And.right (by assumption)))) | exact And.right (And.right (And.right (And.right (And.right (by assumption))))) | exact And.right (And.right (And.right (And.right (And.right (And.right (by assumption)))))) | exact And.right (And.right (And.right (And.right (And.right (And.right (And.right (by assumption))))))))) | fail
  k_with "my call type:tuple" => first | ((k_here; (with_reducible show wpAny _ _ (call (Value.type _) [Value.ref _]) _ _ _); k_dflt (refine' kde_tupleOf ?zk1 ?zk2 ?zk3 ?zk4 ?zk5 ?_; (case zk1 => k_asm); (case zk2 => k_asm); (case zk3 => exact News.isList (by k_asm) (by k_mem)); (case zk4 => exact sz_ints (by assumption) (by omega)); (case zk5 => rfl); k_whole); intro zD' zh' zF' zN' zl1; (try k_lt zl1); (try k_sweep))) | fail
  k_with "my call ref" => first | ((plain_pass; k_here; (refine wpAny_call ?_); k_dflt (refine' code_def ?zk1 ?zk2 ?zk3 ?zk4 ?zk5 ?zkA ?zkF ?zkK ?zk6 ?zk7 ?zk8 ?zk9 ?zkB ?_ ?zc2 ?zc3 ?zc4 ?zc5; (case zkA => exact rfl); (case zkF => exact rfl); (case zkK => first | exact rfl | assumption); (case zk1 => k_asm); (case zk2 => k_asm); (case zk3 => k_asm); (case zk4 => k_asm); (case zk5 => k_asm); (case zk6 => k_is); (case zk7 => k_is); (case zk8 => ktr_room); (case zk9 => exact BindsTo.of_eq rfl); (case zc5 => decide); (case zkB => exact locs rfl); (case zc2 => exact rfl); (case zc3 => exact rfl); (case zc4 => exact rfl); k_whole; intro zg' zL' zh' zFG' zF' zN' zB' zX' zT'; (try dsimp only); (try k_lift zB'); (try k_fold)))) | fail
  k_with "my call type:range" => first | (((rename Fr _ _ _ _ => zF'); (rename News _ _ _ _ => zN'); first | (with_unfolding_all refine range1_rows zF' zN' ?_; intro _ _ _ _ _ _ _ _ _) | (with_unfolding_all refine range2_rows zF' zN' ?_; intro _ _ _ _ _ _ _ _ _))) | fail
  k_with "my eval ListComp" => first | ((k_here; k_dflt (refine LCg.ListComp_U (F₀ := by k_asm) (by with_unfolding_all rfl) (by decide) (by rfl) (by decide) (by rfl) ?_))) | fail
  k_with "my exec Assign cons ListComp" => first | ((k_here; k_dflt (refine LCg.Assign_ListComp_U (F₀ := by k_asm) (by rfl) (by with_unfolding_all rfl) (by with_unfolding_all rfl) (by decide) (by rfl) (by decide) (by rfl) (by rfl) (by rfl) ?_))) | fail
  k_with "my CompSrc" => first | (refine halt_of ?_) | fail
  k_with "my call ref" => first | (((with_reducible show wpAny _ _ (PySem.call (Value.ref 28) _ _) _ _ _); k_dflt (refine' sub_spec _ _ _ _ _ ?zp0 ?zp1 _ _ _ _ _ _ _ _ _ _ _ _ _ _ _ _ _ ?zq1 ?zq2 ?zq3 ?zq4 ?zq5 ?zq6 ?zq7 ?zq8 ?_); (case zp0 => assumption); (case zp1 => assumption); (case zq1 => k_asm); (case zq2 => k_asm); (case zq3 => k_asm); (case zq4 => k_asm); (case zq5 => k_asm); (case zq6 => first | exact rfl | assumption); (case zq7 => ktr_room); (case zq8 => ktr_units); rintro zv' zown' zh' ztk' ⟨⟨zt', ze1⟩, ze2⟩ zF' zN'; subst ze1; subst ze2; (try simp only [List.nil_append] at zN'); (try dsimp only); (try k_fold))) | fail
  k_with "my call ref" => first | (((with_reducible show wpAny _ _ (PySem.call (Value.ref 153) _ _) _ _ _); k_dflt (refine' ws_call _ _ _ _ ?zp0 ?zp1 _ _ _ _ _ _ _ _ _ _ _ _ _ _ _ _ _ ?zq1 ?zq2 ?zq3 ?zq4 ?zq5 ?zq6 ?zq7 ?zq8 ?_); (case zp0 => assumption); (case zp1 => first | omega | (simp only [List.length_drop, List.length_take]; omega)); (case zq1 => k_asm); (case zq2 => k_asm); (case zq3 => k_asm); (case zq4 => k_asm); (case zq5 => k_asm); (case zq6 => first | exact rfl | assumption); (case zq7 => ktr_room); (case zq8 => ktr_units); rintro zv' zown' zh' ztk' ⟨zx', zd', zT1', zT2', zvs', zk1', zk2', zk3', zk4', zk5', zt2', zt3', zt4', ze1, zhI', zl1', zl2', zl3', zl4', ze2⟩ zF' zN'; subst ze1; subst ze2; (try simp only [List.cons_append, List.nil_append] at zN'); (try dsimp only [wsD, tupO] at zN'); (try k_lt zl1'); (try simp only [List.nil_append] at zN'); (try dsimp only); (try k_fold))) | fail
  k_with "my call ref" => first | (((with_reducible show wpAny _ _ (PySem.call (Value.ref 169) _ _) _ _ _); k_dflt (refine' height_spec _ _ _ ?zp0 ?zp1 _ _ _ _ _ _ _ _ _ _ _ _ _ _ _ _ _ ?zq1 ?zq2 ?zq3 ?zq4 ?zq5 ?zq6 ?zq7 ?zq8 ?_); (case zp0 => first | omega | (simp only [List.length_append]; omega)); (case zp1 => first | omega | (simp only [List.length_append]; omega)); (case zq1 => k_asm); (case zq2 => k_asm); (case zq3 => k_asm); (case zq4 => k_asm); (case zq5 => k_asm); (case zq6 => first | exact rfl | assumption); (case zq7 => ktr_room); (case zq8 => ktr_units); rintro zv' zown' zh' ztk' ⟨⟨zt', ze1⟩, ze2⟩ zF' zN'; subst ze1; subst ze2; (try simp only [List.nil_append] at zN'); (try dsimp only); (try k_fold))) | fail
  k_with "my call ref" => first | (((with_reducible show wpAny _ _ (PySem.call (Value.ref 35) _ _) _ _ _); k_dflt (refine' lev_any _ _ _ _ _ _ _ _ ?zp0 ?zp1 ?zp2 ?zp3 ?zp4 ?zp5 ?zp6 ?zp7 _ _ _ _ _ _ _ _ _ _ _ _ _ _ _ _ _ ?zq1 ?zq2 ?zq3 ?zq4 ?zq5 ?zq6 ?zq7 ?zq8 ?_); (case zp0 => assumption); (case zp1 => assumption); (case zp2 => assumption); (case zp3 => assumption); (case zp4 => omega); (case zp5 => omega); (case zp6 => omega); (case zp7 => omega); (case zq1 => k_asm); (case zq2 => k_asm); (case zq3 => k_asm); (case zq4 => k_asm); (case zq5 => k_asm); (case zq6 => first | exact rfl | assumption); (case zq7 => ktr_room); (case zq8 => ktr_units); rintro zv' zown' zh' ztk' ⟨⟨zt', ze1⟩, ze2⟩ zF' zN'; subst ze1; subst ze2; (try simp only [List.nil_append] at zN'); (try dsimp only); (try k_fold))) | fail
  k_with "my call ref" => first | ((plain_pass; (with_reducible show wpAny _ _ (PySem.call (Value.ref 162) _ _) _ _ _); refine halt_of ?_)) | fail
  k_with "my lt" => first | assumption | exact And.left (by assumption) | exact And.left (And.right (by assumption)) | exact And.right (by assumption) | exact And.left (And.right (And.right (by assumption))) | exact And.right (And.right (by assumption)) | exact And.left (And.right (And.right (And.right (by assumption)))) | exact And.right (And.right (And.right (by assumption))) | exact And.left (And.right (And.right (And.right (And.right (by assumption))))) | exact And.right (And.right (And.right (And.right (by assumption)))) | exact And.left (And.right (And.right (And.right (And.right (And.right (by assumption)))))) | exact And.right (And.right (And.right (And.right (And.right (by assumption))))) | exact And.left (And.right (And.right (And.right (And.right (And.right (And.right (by assumption))))))) | exact And.right (And.right (And.right (And.right (And.right (And.right (by assumption)))))) | exact And.left (And.right (And.right (And.right (And.right (And.right (And.right (And.right (by assumption)))))))) | exact And.right (And.right (And.right (And.right (And.right (And.right (And.right (by assumption))))))) | exact And.left (And.right (And.right (And.right (And.right (And.right (And.right (And.right (And.right (by assumption))))))))) | exact And.right (And.right (And.right (And.right (And.right (And.right (And.right (And.right (by assumption)))))))) | fail
  k_with "my succ" => first | (first | exact Nat.lt_succ_self _ | exact Nat.lt_succ_of_lt (Nat.lt_succ_self _) | exact Nat.lt_succ_of_lt (Nat.lt_succ_of_lt (Nat.lt_succ_self _)) | exact Nat.lt_succ_of_lt (Nat.lt_succ_of_lt (Nat.lt_succ_of_lt (Nat.lt_succ_self _)))) | fail
  k_with "my omega" => with_reducible (first | assumption | decide | exact room0 (by assumption) | exact room1 (by assumption) rfl | exact room2 (by assumption) rfl | exact idx_nn _ | exact idx_ge _ _ | exact idx_lo _ | exact idx_lo' _ | exact idx_to _ | exact idx_one _ | exact idx_lt (by assumption) | exact idx_lt (lt_of_eq' (by assumption) (by assumption)) | exact idx_hi (by assumption) rfl | exact idx_hi2 (by assumption) (by assumption) rfl | exact nn_neg _ _ | exact Int.natCast_nonneg _ | exact cast_hi (by assumption) rfl | exact cast_hi2 (by assumption) (by assumption) rfl | exact cast_hi3 (by assumption) (by assumption) rfl | exact ng_lt _ _ | exact ng_hi _ | exact ng_ge (by assumption) | exact ng_lo (by assumption) rfl | exact ng_lo0 (by assumption) | exact ng_neg (by assumption) | exact ng_ne (by assumption) | exact cast_ne (by assumption) | exact cast_ne' (by assumption) (by assumption) | exact not_big (by assumption) (by assumption) rfl | exact slc_lt (by assumption) (by assumption) | exact slc_hi (by assumption) (by assumption) (by assumption) rfl | exact ix_pos (by assumption) | exact ix_ne (by assumption) | exact ix_add (by assumption) | exact le_add' _ _ | exact imp_ne (by assumption) (by assumption) | exact Nat.lt_succ_self _ | exact Nat.le_succ_of_le (by assumption) | exact le_big (by assumption) rfl | exact le_big' (by assumption) (by assumption) rfl | exact pos_of (by assumption) (by assumption) | exact lt_of_eq' (by assumption) (by assumption) | exact int_pos (by assumption) | exact eq_of (by assumption) (by assumption) | exact Ne.symm (by assumption) | (refine Nat.ne_of_gt ?_; k_extra "my lt") | (refine Nat.ne_of_lt ?_; k_extra "my lt") | (refine Nat.ne_of_gt ?_; k_extra "my succ") | (refine Nat.ne_of_lt ?_; k_extra "my succ") | exact Int.le_trans (by assumption) (by decide) | exact Int.lt_of_le_of_lt (by assumption) (by decide) | exact Int.lt_of_lt_of_le (by decide) (by assumption) | exact Nat.le_trans (Nat.le_of_lt (by assumption)) (Nat.le_of_ble_eq_true rfl) | exact Int.ofNat_le.mpr (Nat.le_trans (by assumption) (Nat.le_of_ble_eq_true rfl)) | fail)
  trivial
example : True := by
  k_with "my compareOp Is int int" => first | ((k_here; k_dflt (refine' is_int ?zc ?zt ?zu ?zn ?_; (case zc => exact clean_of (by assumption) (by assumption)); (case zt => assumption); (case zu => assumption); (case zn => assumption); k_whole); intro zb zhb)) | fail
  trivial
theorem countI_spec {w : World} {mean mg mb} (vs : List Value) (ns : List Int) (k : Nat) (D : Addr) (c : Int) (tc : Tok) (news) (hm : (D, listOf vs.toArray k) ∈ news) (hI : IntsAre vs ns) (hlen : ns.length ≤ 30) (htc : tc ≠ 0) (htk : ∀ v ∈ vs, ∀ x t, v = Value.int x t → t ≠ 0 ∧ (t = tc → x = c)) :
   Spec w mean mg mb 77 2 20 [Value.ref D, Value.int c tc] news (fun v own => (∃ t, v = .int (ns.countP (· == c) : Nat) t) ∧ own = []) := by
  dsimp only [Spec]
  intros; rename_i hret
  refine wpAny_call ?_
  k_dflt cell_enter
  k_steps
  refine Halt.out ?_
  k_sweep
  rename Fr _ _ _ _ => F
  rename News _ _ _ _ => N
  refine fr_let F ?_
  clear F
  intro MF2 F
  refine loop_list (by rfl) hm F N (fun M nw i m₁ l' => l' = nw ∧ (∃ t, m₁ (Str.ofString "count") = some (.int ((ns.take i).countP (· == c) : Nat) t)) ∧ ∀ z, z ≠ Str.ofString "count" → z ≠ Str.ofString "i" → m₁ z = M z) ?_ ?_ ?_ ?_
  · exact ⟨rfl, ⟨_, rfl⟩, fun z _ _ => rfl⟩
  · rintro i m l' ⟨rfl, _⟩
    exact hm
  · rintro I it i v m₁ news₁ h tk hi hv ⟨rfl, ⟨tn, hc⟩, hm'⟩ ho F' N'
    k_fold
    rw [frm1_1 hc hm'] at F'
    clear hc hm' F N
    have hmem : v ∈ vs := by
      have := Array.mem_of_getElem? hv
      simpa using this
    obtain ⟨x, tx, hx, rfl⟩ := ints_at hI hv
    obtain ⟨q1, q2⟩ := htk _ hmem _ _ rfl
    have hcs := cnt_succ (f := fun x => x == c) hx
    have hcb : ((ns.take i).countP (· == c)) ≤ 30 := Nat.le_trans List.countP_le_length (by rw [List.length_take]; omega)
    k_steps
    · rename (_ = true → x = c) => e1
      have e3 : x = c := e1 (by assumption)
      refine TurnEnd.intro (by assumption) (by assumption) news₁ (List.mem_cons_self ..) (fun p hp => List.mem_cons_of_mem _ hp) ho ⟨rfl, ⟨_, int_eq ?_⟩, by intro z h1 h2; simp only [h1, h2, if_false]⟩
      rw [if_pos (by simp [e3])] at hcs
      omega
    · rename (x = c) => e3
      refine TurnEnd.intro (by assumption) (by assumption) news₁ (List.mem_cons_self ..) (fun p hp => List.mem_cons_of_mem _ hp) ho ⟨rfl, ⟨_, int_eq ?_⟩, by intro z h1 h2; simp only [h1, h2, if_false]⟩
      rw [if_pos (by simp [e3])] at hcs
      omega
    · rename (x ≠ c) => e3
      refine TurnEnd.intro (by assumption) (by assumption) news₁ (List.mem_cons_self ..) (fun p hp => List.mem_cons_of_mem _ hp) ho ⟨rfl, ⟨_, int_eq ?_⟩, by intro z h1 h2; simp only [h1, h2, if_false]⟩
      rw [if_neg (by simp [e3])] at hcs
      omega
  · rintro h tk m₁ news₁ ⟨rfl, ⟨tn, hc⟩, hm'⟩ F' N'
    rw [frm1_1 hc hm'] at F'
    dsimp only
    k_steps
    have e : (ns.take vs.toArray.size) = ns := List.take_of_length_le (by rw [List.size_toArray, hI.length]; omega)
    rw [e]
    exact hret _ [] _ _ ⟨⟨_, rfl⟩, rfl⟩ (by assumption) (by assumption)
end
-- part 11c_plain
section
example : True := by
  k_with_none
  k_with "my exec For Name Call cons nil" => first | ((k_here; (rename Fr _ _ _ _ => zlF'); (with_unfolding_all refine' For_invVF zlF' ?zk1 ?zk2 ?_; (case zk1 => exact rfl); (case zk2 => exact rfl); k_whole))) | fail
  k_with "my exec For Name Name cons nil" => first | ((k_here; (rename Fr _ _ _ _ => zlF'); (with_unfolding_all refine' For_invVF zlF' ?zk1 ?zk2 ?_; (case zk1 => exact rfl); (case zk2 => exact rfl); k_whole))) | fail
  k_with "my exec For Name Attribute cons nil" => first | ((k_here; (rename Fr _ _ _ _ => zlF'); (with_unfolding_all refine' For_invVF zlF' ?zk1 ?zk2 ?_; (case zk1 => exact rfl); (case zk2 => exact rfl); k_whole))) | fail
  k_with "my exec For Name Subscript cons nil" => first | ((k_here; (rename Fr _ _ _ _ => zlF'); (with_unfolding_all refine' For_invVF zlF' ?zk1 ?zk2 ?_; (case zk1 => exact rfl); (case zk2 => exact rfl); k_whole))) | fail
  k_with "my pyIter ref" => first | (((with_reducible show wpAny _ _ (pyIter (Value.ref _)) (fun it s₂ => LoopAtV _ _ _ _ _ _ _ _ _ it s₂) _ _); refine halt_of ?_)) | fail
  k_with "my pyIter str" => first | (((with_reducible show wpAny _ _ (pyIter (Value.str _ _)) (fun it s₂ => LoopAtV _ _ _ _ _ _ _ _ _ it s₂) _ _); refine halt_of ?_)) | fail
  k_with "my exec While BoolOp cons nil" => first | (refine halt_of ?_) | fail
  k_with "my exec While Compare cons nil" => first | (refine halt_of ?_) | fail
  k_with "my subscriptTail Name Slice str ref" => first | (((with_reducible show wpAny _ _ (subscriptTail _ (Expr.Slice none (some _) none _) _ _) _ _ _); (with_reducible rename Fr _ _ _ _ => zF'); (with_reducible rename News _ _ _ _ => zN'); (refine slice_strN_nn_len (hsz := ?zhsz) (s := ⟨_, _, _, _, _⟩) zF' zN' ?_); (case zhsz => size_fits); intro _ _ _ _ _ _)) | fail
  k_with "my ite" => first | (first | ((with_reducible show ite ((_ != (0 : Int)) = true) _ _); k_dflt (first | refine ite_bne_t (by omega) ?_ | refine ite_bne_f (by omega) ?_)) | ((with_reducible show ite ((!(_ != (0 : Int))) = true) _ _); k_dflt (first | refine ite_nbne_t (by omega) ?_ | refine ite_nbne_f (by omega) ?_)) | ((with_reducible show ite (decide _ = true) _ _); k_dflt (first | refine ite_dec_t (by omega) ?_ | refine ite_dec_f (by omega) ?_))) | fail
  k_with "my call type:list" => first | (((with_reducible show wpAny _ _ (call (Value.type _) [Value.ref _]) _ _ _); refine halt_of ?_)) | fail
  k_with "my setItem ref int" => first | ((k_here; (with_reducible show wpAny _ _ (setItem (Value.ref _) (Value.int _ _) (Value.int _ _)) _ _ _); k_dflt (refine' ksa_set ?zk1 ?zk2 ?zk3 ?zk4 ?zk5 ?zk6 ?zk7 ?_; (case zk1 => k_asm); (case zk2 => k_asm); (case zk3 => (repeat (first | exact Upd.head (by assumption) | refine Upd.tail (by assumption) ?_))); (case zk4 => with_reducible assumption); (case zk5 => ksa_idx); (case zk6 => ksa_idx); (case zk7 => ksa_idx); k_whole); intro zh' zF' zN' zhi' zhl' zhs'; (try k_sweep))) | fail
  k_with "my k_all" => first | (first | assumption | exact lt_ne (by assumption) | exact allLt_ne (by first | assumption | exact And.right (by assumption) | exact And.right (And.right (by assumption)) | exact And.right (And.right (And.right (by assumption))) | exact And.right (And.right (And.right (And.right (by assumption)))) | exact And.right (And.right (And.right (And.right (And.right (by assumption))))) | exact And.right (And.right (And.right (And.right (And.right (And.right (by assumption)))))) | exact And.right (And.right (And.right (And.right (And.right (And.right (And.right (by assumption))))))))) | fail
  k_with "my call type:tuple" => first | ((k_here; (with_reducible show wpAny _ _ (call (Value.type _) [Value.ref _]) _ _ _); k_dflt (refine' kde_tupleOf ?zk1 ?zk2 ?zk3 ?zk4 ?zk5 ?_; (case zk1 => k_asm); (case zk2 => k_asm); (case zk3 => exact News.isList (by k_asm) (by k_mem)); (case zk4 => exact sz_ints (by assumption) (by omega)); (case zk5 => rfl); k_whole); intro zD' zh' zF' zN' zl1; (try k_lt zl1); (try k_sweep))) | fail
  k_with "my call ref" => first | ((plain_pass; k_here; (refine wpAny_call ?_); k_dflt (refine' code_def ?zk1 ?zk2 ?zk3 ?zk4 ?zk5 ?zkA ?zkF ?zkK ?zk6 ?zk7 ?zk8 ?zk9 ?zkB ?_ ?zc2 ?zc3 ?zc4 ?zc5; (case zkA => exact rfl); (case zkF => exact rfl); (case zkK => first | exact rfl | assumption); (case zk1 => k_asm); (case zk2 => k_asm); (case zk3 => k_asm); (case zk4 => k_asm); (case zk5 => k_asm); (case zk6 => k_is); (case zk7 => k_is); (case zk8 => ktr_room); (case zk9 => exact BindsTo.of_eq rfl); (case zc5 => decide); (case zkB => exact locs rfl); (case zc2 => exact rfl); (case zc3 => exact rfl); (case zc4 => exact rfl); k_whole; intro zg' zL' zh' zFG' zF' zN' zB' zX' zT'; (try dsimp only); (try k_lift zB'); (try k_fold)))) | fail
  k_with "my call type:range" => first | (((rename Fr _ _ _ _ => zF'); (rename News _ _ _ _ => zN'); first | (with_unfolding_all refine range1_rows zF' zN' ?_; intro _ _ _ _ _ _ _ _ _) | (with_unfolding_all refine range2_rows zF' zN' ?_; intro _ _ _ _ _ _ _ _ _))) | fail
  k_with "my eval ListComp" => first | ((k_here; k_dflt (refine LCg.ListComp_U (F₀ := by k_asm) (by with_unfolding_all rfl) (by decide) (by rfl) (by decide) (by rfl) ?_))) | fail
  k_with "my exec Assign cons ListComp" => first | ((k_here; k_dflt (refine LCg.Assign_ListComp_U (F₀ := by k_asm) (by rfl) (by with_unfolding_all rfl) (by with_unfolding_all rfl) (by decide) (by rfl) (by decide) (by rfl) (by rfl) (by rfl) ?_))) | fail
  k_with "my CompSrc" => first | (refine halt_of ?_) | fail
  k_with "my call ref" => first | (((with_reducible show wpAny _ _ (PySem.call (Value.ref 28) _ _) _ _ _); k_dflt (refine' sub_spec _ _ _ _ _ ?zp0 ?zp1 _ _ _ _ _ _ _ _ _ _ _ _ _ _ _ _ _ ?zq1 ?zq2 ?zq3 ?zq4 ?zq5 ?zq6 ?zq7 ?zq8 ?_); (case zp0 => assumption); (case zp1 => assumption); (case zq1 => k_asm); (case zq2 => k_asm); (case zq3 => k_asm); (case zq4 => k_asm); (case zq5 => k_asm); (case zq6 => first | exact rfl | assumption); (case zq7 => ktr_room); (case zq8 => ktr_units); rintro zv' zown' zh' ztk' ⟨⟨zt', ze1⟩, ze2⟩ zF' zN'; subst ze1; subst ze2; (try simp only [List.nil_append] at zN'); (try dsimp only); (try k_fold))) | fail
  k_with "my call ref" => first | (((with_reducible show wpAny _ _ (PySem.call (Value.ref 153) _ _) _ _ _); k_dflt (refine' ws_call _ _ _ _ ?zp0 ?zp1 _ _ _ _ _ _ _ _ _ _ _ _ _ _ _ _ _ ?zq1 ?zq2 ?zq3 ?zq4 ?zq5 ?zq6 ?zq7 ?zq8 ?_); (case zp0 => assumption); (case zp1 => first | omega | (simp only [List.length_drop, List.length_take]; omega)); (case zq1 => k_asm); (case zq2 => k_asm); (case zq3 => k_asm); (case zq4 => k_asm); (case zq5 => k_asm); (case zq6 => first | exact rfl | assumption); (case zq7 => ktr_room); (case zq8 => ktr_units); rintro zv' zown' zh' ztk' ⟨zx', zd', zT1', zT2', zvs', zk1', zk2', zk3', zk4', zk5', zt2', zt3', zt4', ze1, zhI', zl1', zl2', zl3', zl4', ze2⟩ zF' zN'; subst ze1; subst ze2; (try simp only [List.cons_append, List.nil_append] at zN'); (try dsimp only [wsD, tupO] at zN'); (try k_lt zl1'); (try simp only [List.nil_append] at zN'); (try dsimp only); (try k_fold))) | fail
  k_with "my call ref" => first | (((with_reducible show wpAny _ _ (PySem.call (Value.ref 169) _ _) _ _ _); k_dflt (refine' height_spec _ _ _ ?zp0 ?zp1 _ _ _ _ _ _ _ _ _ _ _ _ _ _ _ _ _ ?zq1 ?zq2 ?zq3 ?zq4 ?zq5 ?zq6 ?zq7 ?zq8 ?_); (case zp0 => first | omega | (simp only [List.length_append]; omega)); (case zp1 => first | omega | (simp only [List.length_append]; omega)); (case zq1 => k_asm); (case zq2 => k_asm); (case zq3 => k_asm); (case zq4 => k_asm); (case zq5 => k_asm); (case zq6 => first | exact rfl | assumption); (case zq7 => ktr_room); (case zq8 => ktr_units); rintro zv' zown' zh' ztk' ⟨⟨zt', ze1⟩, ze2⟩ zF' zN'; subst ze1; subst ze2; (try simp only [List.nil_append] at zN'); (try dsimp only); (try k_fold))) | fail
  k_with "my call ref" => first | (((with_reducible show wpAny _ _ (PySem.call (Value.ref 35) _ _) _ _ _); k_dflt (refine' lev_any _ _ _ _ _ _ _ _ ?zp0 ?zp1 ?zp2 ?zp3 ?zp4 ?zp5 ?zp6 ?zp7 _ _ _ _ _ _ _ _ _ _ _ _ _ _ _ _ _ ?zq1 ?zq2 ?zq3 ?zq4 ?zq5 ?zq6 ?zq7 ?zq8 ?_); (case zp0 => assumption); (case zp1 => assumption); (case zp2 => assumption); (case zp3 => assumption); (case zp4 => omega); (case zp5 => omega); (case zp6 => omega); (case zp7 => omega); (case zq1 => k_asm); (case zq2 => k_asm); (case zq3 => k_asm); (case zq4 => k_asm); (case zq5 => k_asm); (case zq6 => first | exact rfl | assumption); (case zq7 => ktr_room); (case zq8 => ktr_units); rintro zv' zown' zh' ztk' ⟨⟨zt', ze1⟩, ze2⟩ zF' zN'; subst ze1; subst ze2; (try simp only [List.nil_append] at zN'); (try dsimp only); (try k_fold))) | fail
  k_with "my call ref" => first | ((plain_pass; (with_reducible show wpAny _ _ (PySem.call (Value.ref 162) _ _) _ _ _); refine halt_of ?_)) | fail
  k_with "my lt" => first | assumption | exact And.left (by assumption) | exact And.left (And.right (by assumption)) | exact And.right (by assumption) | exact And.left (And.right (And.right (by assumption))) | exact And.right (And.right (by assumption)) | exact And.left (And.right (And.right (And.right (by assumption)))) | exact And.right (And.right (And.right (by assumption))) | exact And.left (And.right (And.right (And.right (And.right (by assumption))))) | exact And.right (And.right (And.right (And.right (by assumption)))) | exact And.left (And.right (And.right (And.right (And.right (And.right (by assumption)))))) | exact And.right (And.right (And.right (And.right (And.right (by assumption))))) | exact And.left (And.right (And.right (And.right (And.right (And.right (And.right (by assumption))))))) | exact And.right (And.right (And.right (And.right (And.right (And.right (by assumption)))))) | exact And.left (And.right (And.right (And.right (And.right (And.right (And.right (And.right (by assumption)))))))) | exact And.right (And.right (And.right (And.right (And.right (And.right (And.right (by assumption))))))) | exact And.left (And.right (And.right (And.right (And.right (And.right (And.right (And.right (And.right (by assumption))))))))) | exact And.right (And.right (And.right (And.right (And.right (And.right (And.right (And.right (by assumption)))))))) | fail
  k_with "my succ" => first | (first | exact Nat.lt_succ_self _ | exact Nat.lt_succ_of_lt (Nat.lt_succ_self _) | exact Nat.lt_succ_of_lt (Nat.lt_succ_of_lt (Nat.lt_succ_self _)) | exact Nat.lt_succ_of_lt (Nat.lt_succ_of_lt (Nat.lt_succ_of_lt (Nat.lt_succ_self _)))) | fail
  k_with "my omega" => with_reducible (first | assumption | decide | exact room0 (by assumption) | exact room1 (by assumption) rfl | exact room2 (by assumption) rfl | exact idx_nn _ | exact idx_ge _ _ | exact idx_lo _ | exact idx_lo' _ | exact idx_to _ | exact idx_one _ | exact idx_lt (by assumption) | exact idx_lt (lt_of_eq' (by assumption) (by assumption)) | exact idx_hi (by assumption) rfl | exact idx_hi2 (by assumption) (by assumption) rfl | exact nn_neg _ _ | exact Int.natCast_nonneg _ | exact cast_hi (by assumption) rfl | exact cast_hi2 (by assumption) (by assumption) rfl | exact cast_hi3 (by assumption) (by assumption) rfl | exact ng_lt _ _ | exact ng_hi _ | exact ng_ge (by assumption) | exact ng_lo (by assumption) rfl | exact ng_lo0 (by assumption) | exact ng_neg (by assumption) | exact ng_ne (by assumption) | exact cast_ne (by assumption) | exact cast_ne' (by assumption) (by assumption) | exact not_big (by assumption) (by assumption) rfl | exact slc_lt (by assumption) (by assumption) | exact slc_hi (by assumption) (by assumption) (by assumption) rfl | exact ix_pos (by assumption) | exact ix_ne (by assumption) | exact ix_add (by assumption) | exact le_add' _ _ | exact imp_ne (by assumption) (by assumption) | exact Nat.lt_succ_self _ | exact Nat.le_succ_of_le (by assumption) | exact le_big (by assumption) rfl | exact le_big' (by assumption) (by assumption) rfl | exact pos_of (by assumption) (by assumption) | exact lt_of_eq' (by assumption) (by assumption) | exact int_pos (by assumption) | exact eq_of (by assumption) (by assumption) | exact Ne.symm (by assumption) | (refine Nat.ne_of_gt ?_; k_extra "my lt") | (refine Nat.ne_of_lt ?_; k_extra "my lt") | (refine Nat.ne_of_gt ?_; k_extra "my succ") | (refine Nat.ne_of_lt ?_; k_extra "my succ") | exact Int.le_trans (by assumption) (by decide) | exact Int.lt_of_le_of_lt (by assumption) (by decide) | exact Int.lt_of_lt_of_le (by decide) (by assumption) | exact Nat.le_trans (Nat.le_of_lt (by assumption)) (Nat.le_of_ble_eq_true rfl) | exact Int.ofNat_le.mpr (Nat.le_trans (by assumption) (Nat.le_of_ble_eq_true rfl)) | fail)
  trivial
/-- what the columns say: the sizes at which two leads' columns are unlike -/
noncomputable def colL (l : List Nat) (size : Int) : Int := (List.range 5).foldl (fun c i => if l.getD i 0 = 32 then c + 1 else c - Int.fmod c size + size) 0
noncomputable def dueStep (st ld : List Nat) (d : List (Int × Int × Int)) (i : Nat) : List (Int × Int × Int) := if colL st (1 + i) ≠ colL ld (1 + i) then d ++ [((1 + i : Int), colL st (1 + i), colL ld (1 + i))] else d
noncomputable def dueF (st ld : List Nat) (n : Nat) : List (Int × Int × Int) := (List.range n).foldl (dueStep st ld) []
noncomputable def prodF (hs : List Int) : Int := hs.foldl (· * ·) 1
noncomputable def ordF (n : Nat) : Int := (List.range n).foldl (fun (p : Int) (k : Nat) => p * ((k : Int) + 1)) 1
noncomputable def PF (u l : List Nat) : Bool := decide (distF u l 4 = 4)
structure PlainOK (ld tl : List Nat) (bd : Int) (kt : Nat) (st : List Nat) (ls : List (List Nat)) (res : LD) : Prop where
  mem : ld ∈ ls
  smem : st ∈ ls
  len : ls.length ≤ 32
  l5 : ∀ u ∈ ls, u.length = 5
  l9 : ∀ u ∈ ls, ∀ c ∈ u, c = 9 ∨ c = 32
  simple : ∀ u ∈ ls, decide (((wsW (u ++ tl)).2.2.2.length : Int) ≤ 1) = decide (u = st)
  hts : ∀ u ∈ ls, 0 ≤ ht tl u ∧ ht tl u ≤ 100
  hP : ∀ u ∈ ls, ∀ l ∈ ls, PF u l = decide (distF u l bd = 4)
  hP2 : ∀ u ∈ ls, ∀ l ∈ ls, ht tl l + 2 = ht tl u → PF u l = true
  go : goE 12 [(ld, 1)] [(ld, 1)] = some res
  ways : ∀ u ∈ ls, waysF PF tl ls ld u = lookE res u
  bnd : ∀ u ∈ ls, 0 ≤ lookE res u ∧ lookE res u ≤ 1000
  hb : (hooksF (ld ++ tl)).length ≤ 6 ∧ ∀ h ∈ hooksF (ld ++ tl), 1 ≤ h ∧ h ≤ 5
  hook : lookE res st * prodF (hooksF (ld ++ tl)) = ordF (hooksF (ld ++ tl)).length
  col : ∀ size : Int, 1 ≤ size → size ≤ 6 → colF (mkS (st ++ tl)) size = colL st size ∧ colF (mkS (ld ++ tl)) size = colL ld size
  cnt : ∀ i : Nat, i < 6 - kt → colL st (1 + i) = colL ld (1 + i) → (((hooksF (ld ++ tl)).map (fun h => Int.fmod h (1 + i))).countP (· == 0) : Int) * (1 + i) = (hooksF (ld ++ tl)).length
  wit : witF (st ++ tl) (ld ++ tl) = dueF st ld (6 - kt)
theorem wsGo_tail (tc : List Nat) : ∀ (a : List Nat) (n nt b : Int) (cnt : List Int), wsGo (a ++ 120 :: tc) n nt b cnt = wsGo a n nt b cnt
  | [], n, nt, b, cnt => by simp [wsGo]
  | c :: r, n, nt, b, cnt => by
    rw [List.cons_append, wsGo, wsGo, wsGo_tail tc r, wsGo_tail tc r]
theorem wsW_tail (tc a : List Nat) : wsW (a ++ 120 :: tc) = wsW a := wsGo_tail tc a 0 0 0 []
theorem getD_tail {u t : List Nat} {i : Nat} (h : i < u.length) : (u ++ t).getD i 0 = u.getD i 0 := by
  simp [List.getD_eq_getElem?_getD, List.getElem?_append_left h]
theorem foldl_cg {α β : Type} {f g : β → α → β} : ∀ (l : List α) (b : β), (∀ b, ∀ a ∈ l, f b a = g b a) → l.foldl f b = l.foldl g b
  | [], _, _ => rfl
  | a :: l, b, h => by
    rw [List.foldl_cons, List.foldl_cons, h b a (List.mem_cons_self ..)]
    exact foldl_cg l _ fun b x hx => h b x (List.mem_cons_of_mem _ hx)
theorem height_tail (tc : List Nat) {u : List Nat} (h5 : u.length = 5) : heightF (u ++ 120 :: tc) = heightF u := by
  unfold heightF
  refine foldl_cg _ _ fun b i hi => ?_
  have hi5 : i < 5 := List.mem_range.mp hi
  unfold htStep
  rw [getD_tail (by omega), List.drop_append_of_le_length (by omega), wsW_tail]
theorem ht_tail (tc : List Nat) {u : List Nat} (h5 : u.length = 5) : ht (120 :: tc) u = heightF u := height_tail tc h5
theorem hooks_tail (tc : List Nat) {u : List Nat} (h5 : u.length = 5) : hooksF (u ++ 120 :: tc) = hooksF u := by
  unfold hooksF
  refine foldl_cg _ _ fun b i hi => ?_
  have hi5 : i < 5 := List.mem_range.mp hi
  unfold hkRow
  refine foldl_cg _ _ fun hs k hk => ?_
  have hk5 : k < 4 - i := List.mem_range.mp hk
  unfold hkStep
  rw [getD_tail (by omega), getD_tail (by omega), List.drop_append_of_le_length (by omega), List.take_append_of_le_length (by rw [List.length_drop]; omega)]
theorem col_tail (t : List Nat) {u : List Nat} (h5 : u.length = 5) (size : Int) : colF (mkS (u ++ t)) size = colL u size := by
  unfold colF colL
  refine foldl_cg _ _ fun c i hi => ?_
  have hi5 : i < 5 := List.mem_range.mp hi
  unfold colStep
  have e : Txt.item (mkS (u ++ t)) (i : Int) = mkS [(u ++ t).getD i 0] := by
    have := item_at (l := u ++ t) (i := i) (by rw [List.length_append]; omega)
    rw [← this]; congr 1; omega
  rw [e, getD_tail (by omega), mkS_blank]
  simp only [mkS_inj, List.cons.injEq, and_true]
theorem long_tail (tc a : List Nat) : longF (a ++ 120 :: tc) = longF a := by unfold longF; rw [wsW_tail]
theorem ind_tail (tc a : List Nat) (s : Int) : indF (a ++ 120 :: tc) s = indF a s := by unfold indF; rw [wsW_tail]
theorem wit_tail (tc a b : List Nat) : witF (a ++ 120 :: tc) (b ++ 120 :: tc) = witF a b := by
  unfold witF witN
  rw [long_tail, long_tail]
  refine foldl_cg _ _ fun l i _ => ?_
  unfold witStep
  rw [ind_tail, ind_tail]
theorem ways_tail (P : List Nat → List Nat → Bool) (t t' : List Nat) (ls : List (List Nat)) (f : List Nat) (hf : f ∈ ls) (h : ∀ u ∈ ls, ht t u = ht t' u) : waysF P t ls f = waysF P t' ls f := by
  unfold waysF
  rw [h f hf]
  refine foldl_cg _ _ fun W i _ => ?_
  unfold rowStep
  refine foldl_cg _ _ fun W u hu => ?_
  unfold upStep
  rw [h u hu]
  split
  · refine foldl_cg _ _ fun W l hl => ?_
    unfold lowStep
    rw [h l hl]
  · rfl
noncomputable def goC (b : Nat) (r : Nat → List (List Nat)) : Nat → List (List Nat)
  | 0 => [List.replicate (b + 1) 32]
  | t + 1 => (r (t + 1)).map (32 :: ·) ++ (goC b r t).map (9 :: ·)
noncomputable def leadsC : Nat → Nat → List (List Nat)
  | 0 => fun t => [List.replicate t 9]
  | b + 1 => goC b (leadsC b)
theorem leads_eq : ∀ b t : Nat, leads b t = leadsC b t
  | 0, t => by rw [leads, leadsC]
  | b + 1, t => by
    rw [leadsC]
    induction t with
    | zero => rw [leads, goC]
    | succ t ih => rw [leads, goC, ih, leads_eq b (t + 1)]
noncomputable def KT (ld : List Nat) : Nat := ld.countP (· == 9)
noncomputable def LS' (ld : List Nat) : List (List Nat) := leadsC (5 - KT ld) (KT ld)
noncomputable def ST (ld : List Nat) : List Nat := List.replicate (KT ld) 9 ++ List.replicate (5 - KT ld) 32
noncomputable def resF (ld : List Nat) : LD := (goE 12 [(ld, 1)] [(ld, 1)]).getD []
noncomputable def all5 : List (List Nat) := (List.range 6).flatMap fun k => leadsC (5 - k) k
noncomputable def chk1 (ld : List Nat) : Bool :=
  decide (ld ∈ LS' ld) && decide (ST ld ∈ LS' ld) && decide ((LS' ld).length ≤ 32) && decide (∀ u ∈ LS' ld, u.length = 5) && decide (∀ u ∈ LS' ld, ∀ c ∈ u, c = 9 ∨ c = 32) &&
  decide (∀ u ∈ LS' ld, decide (((wsW u).2.2.2.length : Int) ≤ 1) = decide (u = ST ld)) && decide (∀ u ∈ LS' ld, 0 ≤ heightF u ∧ heightF u ≤ 100)
noncomputable def chk2 (ld : List Nat) : Bool :=
  (goE 12 [(ld, 1)] [(ld, 1)]).isSome && decide (∀ u ∈ LS' ld, 0 ≤ lookE (resF ld) u ∧ lookE (resF ld) u ≤ 1000) && decide ((hooksF ld).length ≤ 6 ∧ ∀ h ∈ hooksF ld, 1 ≤ h ∧ h ≤ 5) &&
  decide (lookE (resF ld) (ST ld) * prodF (hooksF ld) = ordF (hooksF ld).length) &&
  ((List.range (6 - KT ld)).all fun (i : Nat) => !decide (colL (ST ld) (1 + i) = colL ld (1 + i)) || decide (((((hooksF ld).map (fun h => Int.fmod h (1 + (i : Int)))).countP (· == 0) : Nat) : Int) * (1 + i) = (hooksF ld).length)) &&
  decide (witF (ST ld) ld = dueF (ST ld) ld (6 - KT ld))
noncomputable def chk3 (ld : List Nat) : Bool := decide (∀ l ∈ LS' ld, heightF l + 2 = heightF ld → PF ld l = true)
noncomputable def chk4 (ld : List Nat) : Bool := decide (∀ l ∈ LS' ld, ∀ i ∈ List.range 7, PF ld l = decide (distF ld l (4 + (i : Int)) = 4))
noncomputable def chk5 (ld : List Nat) : Bool := decide (∀ u ∈ LS' ld, waysF PF [] (LS' ld) ld u = lookE (resF ld) u)
theorem mem_all5 {ld : List Nat} (h5 : ld.length = 5) (h9 : ∀ c ∈ ld, c = 9 ∨ c = 32) : ld ∈ all5 := by
  obtain ⟨a, b, c, d, e, rfl⟩ : ∃ a b c d e, ld = [a, b, c, d, e] := by
    match ld, h5 with
    | [a, b, c, d, e], _ => exact ⟨a, b, c, d, e, rfl⟩
  have ha := h9 a (by simp)
  have hb := h9 b (by simp)
  have hc := h9 c (by simp)
  have hd := h9 d (by simp)
  have he := h9 e (by simp)
  rcases ha with rfl | rfl <;> rcases hb with rfl | rfl <;> rcases hc with rfl | rfl <;> rcases hd with rfl | rfl <;> rcases he with rfl | rfl <;> decide +kernel
set_option maxRecDepth 100000 in
theorem ok1 : ∀ ld ∈ all5, chk1 ld = true := by decide +kernel
theorem ok2 : ∀ ld ∈ all5, chk2 ld = true := by decide +kernel
theorem ok3 : ∀ ld ∈ all5, chk3 ld = true := by decide +kernel
theorem ok4 : ∀ ld ∈ all5, chk4 ld = true := by decide +kernel
theorem ok6 : ∀ ld ∈ all5, ((LS' ld).all fun u => LS' u == LS' ld) = true := by decide +kernel
theorem ok5 : ∀ ld ∈ all5, chk5 ld = true := by decide +kernel

theorem plain_all {ld tl tc : List Nat} {kt : Nat} {st : List Nat} {bd : Int} (hl5 : ld.length = 5) (hl9 : ∀ c ∈ ld, c = 9 ∨ c = 32) (htl : tl = 120 :: tc) (hkt : kt = ld.countP (· == 9)) (hst : st = List.replicate kt 9 ++ List.replicate (5 - kt) 32)
    (hb1 : 4 ≤ bd) (hb2 : bd ≤ 10) : PlainOK ld tl bd kt st (leads (5 - kt) kt) (resF ld) := by
  have hm := mem_all5 hl5 hl9
  have hS : st = ST ld := by rw [hst, hkt]; rfl
  have hL : leads (5 - kt) kt = LS' ld := by rw [leads_eq, hkt]; rfl
  have hK : kt = KT ld := hkt
  have c1 := ok1 ld hm
  have c2 := ok2 ld hm
  simp only [chk1, Bool.and_eq_true, decide_eq_true_eq] at c1
  simp only [chk2, Bool.and_eq_true, decide_eq_true_eq] at c2
  obtain ⟨⟨⟨⟨⟨⟨a1, a2⟩, a3⟩, a4⟩, a5⟩, a6⟩, a7⟩ := c1
  obtain ⟨⟨⟨⟨⟨b1, b2⟩, b3⟩, b4⟩, b5⟩, b6⟩ := c2
  have hs5 : st.length = 5 := by rw [hS]; exact a4 _ a2
  have sub : ∀ u ∈ LS' ld, u ∈ all5 := fun u hu => mem_all5 (a4 u hu) (a5 u hu)
  have same : ∀ u ∈ LS' ld, LS' u = LS' ld := fun u hu => by
    have := List.all_eq_true.mp (ok6 ld hm) u hu
    simpa using this
  rw [hL]
  subst hS
  subst htl
  rw [hK]
  refine ⟨a1, a2, a3, a4, a5, ?_, ?_, ?_, ?_, ?_, ?_, b2, ?_, ?_, ?_, ?_, ?_⟩
  · intro u hu
    rw [wsW_tail]; exact a6 u hu
  · intro u hu
    rw [ht_tail tc (a4 u hu)]; exact a7 u hu
  · intro u hu l hl
    have := ok4 u (sub u hu)
    simp only [chk4, decide_eq_true_eq] at this
    have := this l (by rw [same u hu]; exact hl) (bd - 4).toNat (List.mem_range.mpr (by omega))
    rw [this]
    have e : (4 + ((bd - 4).toNat : Int)) = bd := by omega
    rw [e]
  · intro u hu l hl h
    rw [ht_tail tc (a4 u hu), ht_tail tc (a4 l hl)] at h
    have := ok3 u (sub u hu)
    simp only [chk3, decide_eq_true_eq] at this
    exact this l (by rw [same u hu]; exact hl) h
  · unfold resF
    obtain ⟨r, hr⟩ := Option.isSome_iff_exists.mp b1
    rw [hr]; rfl
  · intro u hu
    have := ok5 ld hm
    simp only [chk5, decide_eq_true_eq] at this
    rw [← this u hu, ways_tail PF (120 :: tc) [] (LS' ld) ld a1 fun u hu => ?_]
    rw [ht_tail tc (a4 u hu)]
    unfold ht
    rw [List.append_nil]
  · rw [hooks_tail tc hl5]; exact b3
  · rw [hooks_tail tc hl5]; exact b4
  · intro size _ _
    exact ⟨col_tail _ hs5 _, col_tail _ hl5 _⟩
  · intro i hi h
    have := List.all_eq_true.mp b5 i (List.mem_range.mpr hi)
    rw [hooks_tail tc hl5]
    simp only [h, decide_true, Bool.not_true, Bool.false_or, decide_eq_true_eq] at this
    exact this
  · rw [wit_tail]; exact b6
end
-- part 11d_cell
section
example : True := by
  k_with_none
  k_with "my exec For Name Call cons nil" => first | ((k_here; (rename Fr _ _ _ _ => zlF'); (with_unfolding_all refine' For_invVF zlF' ?zk1 ?zk2 ?_; (case zk1 => exact rfl); (case zk2 => exact rfl); k_whole))) | fail
  k_with "my exec For Name Name cons nil" => first | ((k_here; (rename Fr _ _ _ _ => zlF'); (with_unfolding_all refine' For_invVF zlF' ?zk1 ?zk2 ?_; (case zk1 => exact rfl); (case zk2 => exact rfl); k_whole))) | fail
  k_with "my exec For Name Attribute cons nil" => first | ((k_here; (rename Fr _ _ _ _ => zlF'); (with_unfolding_all refine' For_invVF zlF' ?zk1 ?zk2 ?_; (case zk1 => exact rfl); (case zk2 => exact rfl); k_whole))) | fail
  k_with "my exec For Name Subscript cons nil" => first | ((k_here; (rename Fr _ _ _ _ => zlF'); (with_unfolding_all refine' For_invVF zlF' ?zk1 ?zk2 ?_; (case zk1 => exact rfl); (case zk2 => exact rfl); k_whole))) | fail
  k_with "my pyIter ref" => first | (((with_reducible show wpAny _ _ (pyIter (Value.ref _)) (fun it s₂ => LoopAtV _ _ _ _ _ _ _ _ _ it s₂) _ _); refine halt_of ?_)) | fail
  k_with "my pyIter str" => first | (((with_reducible show wpAny _ _ (pyIter (Value.str _ _)) (fun it s₂ => LoopAtV _ _ _ _ _ _ _ _ _ it s₂) _ _); refine halt_of ?_)) | fail
  k_with "my exec While BoolOp cons nil" => first | (refine halt_of ?_) | fail
  k_with "my exec While Compare cons nil" => first | (refine halt_of ?_) | fail
  k_with "my subscriptTail Name Slice str ref" => first | (((with_reducible show wpAny _ _ (subscriptTail _ (Expr.Slice none (some _) none _) _ _) _ _ _); (with_reducible rename Fr _ _ _ _ => zF'); (with_reducible rename News _ _ _ _ => zN'); (refine slice_strN_nn_len (hsz := ?zhsz) (s := ⟨_, _, _, _, _⟩) zF' zN' ?_); (case zhsz => size_fits); intro _ _ _ _ _ _)) | fail
  k_with "my ite" => first | (first | ((with_reducible show ite ((_ != (0 : Int)) = true) _ _); k_dflt (first | refine ite_bne_t (by omega) ?_ | refine ite_bne_f (by omega) ?_)) | ((with_reducible show ite ((!(_ != (0 : Int))) = true) _ _); k_dflt (first | refine ite_nbne_t (by omega) ?_ | refine ite_nbne_f (by omega) ?_)) | ((with_reducible show ite (decide _ = true) _ _); k_dflt (first | refine ite_dec_t (by omega) ?_ | refine ite_dec_f (by omega) ?_))) | fail
  k_with "my call type:list" => first | (((with_reducible show wpAny _ _ (call (Value.type _) [Value.ref _]) _ _ _); refine halt_of ?_)) | fail
  k_with "my setItem ref int" => first | ((k_here; (with_reducible show wpAny _ _ (setItem (Value.ref _) (Value.int _ _) (Value.int _ _)) _ _ _); k_dflt (refine' ksa_set ?zk1 ?zk2 ?zk3 ?zk4 ?zk5 ?zk6 ?zk7 ?_; (case zk1 => k_asm); (case zk2 => k_asm); (case zk3 => (repeat (first | exact Upd.head (by assumption) | refine Upd.tail (by assumption) ?_))); (case zk4 => with_reducible assumption); (case zk5 => ksa_idx); (case zk6 => ksa_idx); (case zk7 => ksa_idx); k_whole); intro zh' zF' zN' zhi' zhl' zhs'; (try k_sweep))) | fail
  k_with "my k_all" => first | (first | assumption | exact lt_ne (by assumption) | exact allLt_ne (by first | assumption | exact And.right (by assumption) | exact And.right (And.right (by assumption)) | exact And.right (And.right (And.right (by assumption))) | exact And.right (And.right (And.right (And.right (by assumption)))) | exact And.right (And.right (And.right (And.right (And.right (by assumption))))) | exact And.right (And.right (And.right (And.right (And.right (And.right (by assumption)))))) | exact And.right (And.right (And.right (And.right (And.right (And.right (And.right (by assumption))))))))) | fail
  k_with "my call type:tuple" => first | ((k_here; (with_reducible show wpAny _ _ (call (Value.type _) [Value.ref _]) _ _ _); k_dflt (refine' kde_tupleOf ?zk1 ?zk2 ?zk3 ?zk4 ?zk5 ?_; (case zk1 => k_asm); (case zk2 => k_asm); (case zk3 => exact News.isList (by k_asm) (by k_mem)); (case zk4 => exact sz_ints (by assumption) (by omega)); (case zk5 => rfl); k_whole); intro zD' zh' zF' zN' zl1; (try k_lt zl1); (try k_sweep))) | fail
  k_with "my call ref" => first | ((plain_pass; k_here; (refine wpAny_call ?_); k_dflt (refine' code_def ?zk1 ?zk2 ?zk3 ?zk4 ?zk5 ?zkA ?zkF ?zkK ?zk6 ?zk7 ?zk8 ?zk9 ?zkB ?_ ?zc2 ?zc3 ?zc4 ?zc5; (case zkA => exact rfl); (case zkF => exact rfl); (case zkK => first | exact rfl | assumption); (case zk1 => k_asm); (case zk2 => k_asm); (case zk3 => k_asm); (case zk4 => k_asm); (case zk5 => k_asm); (case zk6 => k_is); (case zk7 => k_is); (case zk8 => ktr_room); (case zk9 => exact BindsTo.of_eq rfl); (case zc5 => decide); (case zkB => exact locs rfl); (case zc2 => exact rfl); (case zc3 => exact rfl); (case zc4 => exact rfl); k_whole; intro zg' zL' zh' zFG' zF' zN' zB' zX' zT'; (try dsimp only); (try k_lift zB'); (try k_fold)))) | fail
  k_with "my call type:range" => first | (((rename Fr _ _ _ _ => zF'); (rename News _ _ _ _ => zN'); first | (with_unfolding_all refine range1_rows zF' zN' ?_; intro _ _ _ _ _ _ _ _ _) | (with_unfolding_all refine range2_rows zF' zN' ?_; intro _ _ _ _ _ _ _ _ _))) | fail
  k_with "my eval ListComp" => first | ((k_here; k_dflt (refine LCg.ListComp_U (F₀ := by k_asm) (by with_unfolding_all rfl) (by decide) (by rfl) (by decide) (by rfl) ?_))) | fail
  k_with "my exec Assign cons ListComp" => first | ((k_here; k_dflt (refine LCg.Assign_ListComp_U (F₀ := by k_asm) (by rfl) (by with_unfolding_all rfl) (by with_unfolding_all rfl) (by decide) (by rfl) (by decide) (by rfl) (by rfl) (by rfl) ?_))) | fail
  k_with "my CompSrc" => first | (refine halt_of ?_) | fail
  k_with "my call ref" => first | (((with_reducible show wpAny _ _ (PySem.call (Value.ref 28) _ _) _ _ _); k_dflt (refine' sub_spec _ _ _ _ _ ?zp0 ?zp1 _ _ _ _ _ _ _ _ _ _ _ _ _ _ _ _ _ ?zq1 ?zq2 ?zq3 ?zq4 ?zq5 ?zq6 ?zq7 ?zq8 ?_); (case zp0 => assumption); (case zp1 => assumption); (case zq1 => k_asm); (case zq2 => k_asm); (case zq3 => k_asm); (case zq4 => k_asm); (case zq5 => k_asm); (case zq6 => first | exact rfl | assumption); (case zq7 => ktr_room); (case zq8 => ktr_units); rintro zv' zown' zh' ztk' ⟨⟨zt', ze1⟩, ze2⟩ zF' zN'; subst ze1; subst ze2; (try simp only [List.nil_append] at zN'); (try dsimp only); (try k_fold))) | fail
  k_with "my call ref" => first | (((with_reducible show wpAny _ _ (PySem.call (Value.ref 153) _ _) _ _ _); k_dflt (refine' ws_call _ _ _ _ ?zp0 ?zp1 _ _ _ _ _ _ _ _ _ _ _ _ _ _ _ _ _ ?zq1 ?zq2 ?zq3 ?zq4 ?zq5 ?zq6 ?zq7 ?zq8 ?_); (case zp0 => assumption); (case zp1 => first | omega | (simp only [List.length_drop, List.length_take]; omega)); (case zq1 => k_asm); (case zq2 => k_asm); (case zq3 => k_asm); (case zq4 => k_asm); (case zq5 => k_asm); (case zq6 => first | exact rfl | assumption); (case zq7 => ktr_room); (case zq8 => ktr_units); rintro zv' zown' zh' ztk' ⟨zx', zd', zT1', zT2', zvs', zk1', zk2', zk3', zk4', zk5', zt2', zt3', zt4', ze1, zhI', zl1', zl2', zl3', zl4', ze2⟩ zF' zN'; subst ze1; subst ze2; (try simp only [List.cons_append, List.nil_append] at zN'); (try dsimp only [wsD, tupO] at zN'); (try k_lt zl1'); (try simp only [List.nil_append] at zN'); (try dsimp only); (try k_fold))) | fail
  k_with "my call ref" => first | (((with_reducible show wpAny _ _ (PySem.call (Value.ref 169) _ _) _ _ _); k_dflt (refine' height_spec _ _ _ ?zp0 ?zp1 _ _ _ _ _ _ _ _ _ _ _ _ _ _ _ _ _ ?zq1 ?zq2 ?zq3 ?zq4 ?zq5 ?zq6 ?zq7 ?zq8 ?_); (case zp0 => first | omega | (simp only [List.length_append]; omega)); (case zp1 => first | omega | (simp only [List.length_append]; omega)); (case zq1 => k_asm); (case zq2 => k_asm); (case zq3 => k_asm); (case zq4 => k_asm); (case zq5 => k_asm); (case zq6 => first | exact rfl | assumption); (case zq7 => ktr_room); (case zq8 => ktr_units); rintro zv' zown' zh' ztk' ⟨⟨zt', ze1⟩, ze2⟩ zF' zN'; subst ze1; subst ze2; (try simp only [List.nil_append] at zN'); (try dsimp only); (try k_fold))) | fail
  k_with "my call ref" => first | (((with_reducible show wpAny _ _ (PySem.call (Value.ref 35) _ _) _ _ _); k_dflt (refine' lev_any _ _ _ _ _ _ _ _ ?zp0 ?zp1 ?zp2 ?zp3 ?zp4 ?zp5 ?zp6 ?zp7 _ _ _ _ _ _ _ _ _ _ _ _ _ _ _ _ _ ?zq1 ?zq2 ?zq3 ?zq4 ?zq5 ?zq6 ?zq7 ?zq8 ?_); (case zp0 => assumption); (case zp1 => assumption); (case zp2 => assumption); (case zp3 => assumption); (case zp4 => omega); (case zp5 => omega); (case zp6 => omega); (case zp7 => omega); (case zq1 => k_asm); (case zq2 => k_asm); (case zq3 => k_asm); (case zq4 => k_asm); (case zq5 => k_asm); (case zq6 => first | exact rfl | assumption); (case zq7 => ktr_room); (case zq8 => ktr_units); rintro zv' zown' zh' ztk' ⟨⟨zt', ze1⟩, ze2⟩ zF' zN'; subst ze1; subst ze2; (try simp only [List.nil_append] at zN'); (try dsimp only); (try k_fold))) | fail
  k_with "my call ref" => first | ((plain_pass; (with_reducible show wpAny _ _ (PySem.call (Value.ref 162) _ _) _ _ _); refine halt_of ?_)) | fail
  k_with "my lt" => first | assumption | exact And.left (by assumption) | exact And.left (And.right (by assumption)) | exact And.right (by assumption) | exact And.left (And.right (And.right (by assumption))) | exact And.right (And.right (by assumption)) | exact And.left (And.right (And.right (And.right (by assumption)))) | exact And.right (And.right (And.right (by assumption))) | exact And.left (And.right (And.right (And.right (And.right (by assumption))))) | exact And.right (And.right (And.right (And.right (by assumption)))) | exact And.left (And.right (And.right (And.right (And.right (And.right (by assumption)))))) | exact And.right (And.right (And.right (And.right (And.right (by assumption))))) | exact And.left (And.right (And.right (And.right (And.right (And.right (And.right (by assumption))))))) | exact And.right (And.right (And.right (And.right (And.right (And.right (by assumption)))))) | exact And.left (And.right (And.right (And.right (And.right (And.right (And.right (And.right (by assumption)))))))) | exact And.right (And.right (And.right (And.right (And.right (And.right (And.right (by assumption))))))) | exact And.left (And.right (And.right (And.right (And.right (And.right (And.right (And.right (And.right (by assumption))))))))) | exact And.right (And.right (And.right (And.right (And.right (And.right (And.right (And.right (by assumption)))))))) | fail
  k_with "my succ" => first | (first | exact Nat.lt_succ_self _ | exact Nat.lt_succ_of_lt (Nat.lt_succ_self _) | exact Nat.lt_succ_of_lt (Nat.lt_succ_of_lt (Nat.lt_succ_self _)) | exact Nat.lt_succ_of_lt (Nat.lt_succ_of_lt (Nat.lt_succ_of_lt (Nat.lt_succ_self _)))) | fail
  k_with "my omega" => with_reducible (first | assumption | decide | exact room0 (by assumption) | exact room1 (by assumption) rfl | exact room2 (by assumption) rfl | exact idx_nn _ | exact idx_ge _ _ | exact idx_lo _ | exact idx_lo' _ | exact idx_to _ | exact idx_one _ | exact idx_lt (by assumption) | exact idx_lt (lt_of_eq' (by assumption) (by assumption)) | exact idx_hi (by assumption) rfl | exact idx_hi2 (by assumption) (by assumption) rfl | exact nn_neg _ _ | exact Int.natCast_nonneg _ | exact cast_hi (by assumption) rfl | exact cast_hi2 (by assumption) (by assumption) rfl | exact cast_hi3 (by assumption) (by assumption) rfl | exact ng_lt _ _ | exact ng_hi _ | exact ng_ge (by assumption) | exact ng_lo (by assumption) rfl | exact ng_lo0 (by assumption) | exact ng_neg (by assumption) | exact ng_ne (by assumption) | exact cast_ne (by assumption) | exact cast_ne' (by assumption) (by assumption) | exact not_big (by assumption) (by assumption) rfl | exact slc_lt (by assumption) (by assumption) | exact slc_hi (by assumption) (by assumption) (by assumption) rfl | exact ix_pos (by assumption) | exact ix_ne (by assumption) | exact ix_add (by assumption) | exact le_add' _ _ | exact imp_ne (by assumption) (by assumption) | exact Nat.lt_succ_self _ | exact Nat.le_succ_of_le (by assumption) | exact le_big (by assumption) rfl | exact le_big' (by assumption) (by assumption) rfl | exact pos_of (by assumption) (by assumption) | exact lt_of_eq' (by assumption) (by assumption) | exact int_pos (by assumption) | exact eq_of (by assumption) (by assumption) | exact Ne.symm (by assumption) | (refine Nat.ne_of_gt ?_; k_extra "my lt") | (refine Nat.ne_of_lt ?_; k_extra "my lt") | (refine Nat.ne_of_gt ?_; k_extra "my succ") | (refine Nat.ne_of_lt ?_; k_extra "my succ") | exact Int.le_trans (by assumption) (by decide) | exact Int.lt_of_le_of_lt (by assumption) (by decide) | exact Int.lt_of_lt_of_le (by decide) (by assumption) | exact Nat.le_trans (Nat.le_of_lt (by assumption)) (Nat.le_of_ble_eq_true rfl) | exact Int.ofNat_le.mpr (Nat.le_trans (by assumption) (Nat.le_of_ble_eq_true rfl)) | fail)
  trivial
theorem name_addr {h₀ h : Heap} {L D : Addr} {o : Obj} {r : List (Addr × Obj)} {P : Prop} (_ : News h₀ L h ((D, o) :: r)) (H : ∀ DD, DD = D → P) : P := H D rfl
section
variable {prog : Program} {w : World} {A : Around} {E : Value → Shared → Prop} {s : Shared} {h₀ : Heap} {x : Str} {px : Pos} {body : List Stmt} {Q : Flow → Shared → Prop} {name : Str} {scope : Scope} {L a : Addr} {cd : Value}
/-- for x in range(a, b, c), where x is a cell of the function -/
theorem loop_range_cell {c r : Addr} {a₀ b₀ c₀ : Int} {t₀ u₀ v₀ : Tok} {n : Nat} {m₀ : Str → Option Value} {own₀ rest₀ : List (Addr × Obj)} {o₀ : Obj} {w₀ : Option Value}
    (hh : A.handled = none) (hr : IsRange s.heap r a₀ b₀ c₀ t₀ u₀ v₀) (hsmall : Builtin.Range.small a₀ b₀ c₀ = true) (hn : Builtin.Range.rangeSize a₀ b₀ c₀ = (n : Int))
    (F : Fr h₀ L s.heap m₀) (N : News h₀ L s.heap (own₀ ++ (c, o₀) :: rest₀)) (hd₀ : o₀.data = .cell w₀)
    (hc : (cellsFrom (L + 1) scope.names []).lookup x = some c) (hk : scope.kind = .function) (hl : (envOfC name scope L a cd).kindOf x = some .cell)
    (J : (Str → Option Value) → List (Addr × Obj) → List (Addr × Obj) → Nat → (Str → Option Value) → List (Addr × Obj) → List (Addr × Obj) → Prop) (h0 : J m₀ own₀ rest₀ 0 m₀ own₀ rest₀) (hap : ∀ i m own rest, J m₀ own₀ rest₀ i m own rest → (∀ p ∈ own, p.1 ≠ c) ∧ (∀ p ∈ rest, p.1 ≠ c))
    (turn : ∀ I it i t m own rest o h tk, s.toks ≤ tk → i < n → J m₀ own₀ rest₀ i m own rest → (∀ p ∈ own ++ (c, o) :: rest, p.1 ≠ I) → o.data = .cell (some (.int (a₀ + (i : Int) * c₀) t)) → Fr h₀ L h m → News h₀ L h ((I, it) :: (own ++ (c, o) :: rest)) →
      wpAny (model prog w) A (execs body (envOfC name scope L a cd)) (TurnPost h₀ L { s with heap := h, toks := tk } I it (fun m' l' => ∃ own' rest' o' v', l' = own' ++ (c, o') :: rest' ∧ o'.data = .cell v' ∧ J m₀ own₀ rest₀ (i + 1) m' own' rest') Q) E { s with heap := h, toks := tk })
    (done : ∀ h tk m own rest o v, J m₀ own₀ rest₀ n m own rest → o.data = .cell v → Fr h₀ L h m → News h₀ L h (own ++ (c, o) :: rest) → Q .next { s with heap := h, toks := tk })
    (hE : PassesOwn (model prog w) A (envOfC name scope L a cd) E := by passes_own) :
    wpAny (model prog w) A (pyIter (.ref r)) (fun it s₂ => codeAny (model prog w) A (.forLoop (.Name x px) it body [] (envOfC name scope L a cd)) (fun r s' => match r with | .ok f => Q f s' | .error e => cameBackBy (model prog w) A (envOfC name scope L a cd) E e s') s₂) E s := by
  refine wpAny_pyIter_range hr hsmall ?_
  have hnew := next_is_new F
  have hLI : L ≠ s.heap.objs.size := Nat.ne_of_lt F.ns.lt
  have W := Walks.range (prog := prog) (w := w) hh s.heap.objs.size a₀ c₀ n
  refine codeAny_forLoop (fun k s' => ∃ h' tk m' own rest o v i, s' = { s with heap := h', toks := tk } ∧ s.toks ≤ tk ∧ IsRangeIter h' s.heap.objs.size (a₀ + (i : Nat) * c₀) ((n : Int) - (i : Nat)) c₀ ∧ Fr h₀ L h' m' ∧ News h₀ L h' (own ++ (c, o) :: rest) ∧ o.data = .cell v ∧ (∀ p ∈ own ++ (c, o) :: rest, p.1 ≠ s.heap.objs.size) ∧ J m₀ own₀ rest₀ i m' own rest ∧ i ≤ n ∧ k = n + 1 - i) ?_ (n + 1)
    ⟨_, s.toks, m₀, own₀, rest₀, o₀, w₀, 0, rfl, Nat.le_refl _, (by show IsRangeIter _ _ _ _ _; rw [hn]; simpa using Heap.get?_push_size _ rfl), F.push _, fun p hp => ⟨Heap.get?_push_of_some _ (N p hp).1, (N p hp).2⟩, hd₀, fun p hp e => absurd (Heap.lt_size (N p hp).1) (e ▸ Nat.lt_irrefl _), h0, Nat.zero_le _, rfl⟩
  rintro k s' ⟨h', tk, m', own, rest, o, v, i, rfl, htk, hit, F', N', hd, off, hJ, hi, rfl⟩
  by_cases hlt : i < n
  · refine wpAny_with_toks (Nat.le_refl _) (W.item i _ _ _ hlt hit fun v₁ h₁ tk₁ hP hit₁ hk₁ htk₁ => ?_)
    have htk₂ : s.toks ≤ tk₁ := Nat.le_trans htk htk₁
    obtain ⟨t, rfl⟩ := hP
    have F₁ : Fr h₀ L h₁ m' := ⟨F'.ns.at' fun o e => hk₁ L o (by simpa using hLI) e, fun b o e => hk₁ b o (fun q => by rw [List.mem_singleton.mp q, hnew] at e; cases e) (F'.keep b o e), F'.above⟩
    have N₁ : News h₀ L h₁ (own ++ (c, o) :: rest) := fun p hp => ⟨hk₁ _ _ (fun q => off p hp (List.mem_singleton.mp q)) (N' p hp).1, (N' p hp).2⟩
    have hcI : c ≠ s.heap.objs.size := off (c, o) (List.mem_append_right _ (List.mem_cons_self ..))
    obtain ⟨ap1, ap2⟩ := hap _ _ _ _ hJ
    have hmem := N₁ (c, o) (List.mem_append_right _ (List.mem_cons_self ..))
    refine wpAny_assign_Name (wpAny_storeName_cell hk hl hc ⟨o, hmem.1, hd⟩ fun h₂ hv hs => ?_)
    obtain ⟨o₂, ho₂, hd₂⟩ := hv
    have F₂ : Fr h₀ L h₂ m' := ⟨F₁.ns.sameBut hs (Ne.symm hmem.2.1), fun b ob e => (hs.2 b (fun q => by rw [q, hmem.2.2] at e; cases e)).trans (F₁.keep b ob e), F₁.above⟩
    have N₂ : News h₀ L h₂ (own ++ (c, o₂) :: rest) := N₁.setAt ap1 ap2 hs ho₂
    have hI₂ : ∃ it, h₂.get? s.heap.objs.size = some it ∧ IsRangeIter h₂ s.heap.objs.size (a₀ + ((i + 1 : Nat) : Int) * c₀) ((n : Int) - ((i + 1 : Nat) : Int)) c₀ := by
      have e1 : h₁.get? s.heap.objs.size = some _ := hit₁
      have e2 := (hs.2 _ (Ne.symm hcI)).trans e1
      exact ⟨_, e2, e2⟩
    obtain ⟨it, hI₃, hit₃⟩ := hI₂
    have off₂ : ∀ p ∈ own ++ (c, o₂) :: rest, p.1 ≠ s.heap.objs.size := fun p hp => by
      rcases List.mem_append.mp hp with hp | hp
      · exact off p (List.mem_append_left _ hp)
      · rcases List.mem_cons.mp hp with rfl | hp
        · exact hcI
        · exact off p (List.mem_append_right _ (List.mem_cons_of_mem _ hp))
    have N₃ : News h₀ L h₂ ((s.heap.objs.size, it) :: (own ++ (c, o₂) :: rest)) := fun p hp => by
      rcases List.mem_cons.mp hp with rfl | hp
      · exact ⟨hI₃, fun e => hLI e.symm, hnew⟩
      · exact N₂ p hp
    refine wpAny_mono (wpAny_toks_of (n := s.toks) (show s.toks ≤ tk₁ from htk₂) (turn _ it i t m' own rest o₂ h₂ tk₁ htk₂ hlt hJ off₂ hd₂ F₂ N₃)) (fun f s₃ p => ?_) fun e s₃ q => hE e s₃ q.2
    obtain ⟨hk₃, p⟩ := p
    have fin : TurnEnd h₀ L { s with heap := h₂, toks := tk₁ } s.heap.objs.size it (fun m' l' => ∃ own' rest' o' v', l' = own' ++ (c, o') :: rest' ∧ o'.data = .cell v' ∧ J m₀ own₀ rest₀ (i + 1) m' own' rest') s₃ →
        ∃ k, k < n + 1 - i ∧ ∃ h' tk m' own rest o v i, s₃ = { s with heap := h', toks := tk } ∧ s.toks ≤ tk ∧ IsRangeIter h' s.heap.objs.size (a₀ + (i : Nat) * c₀) ((n : Int) - (i : Nat)) c₀ ∧ Fr h₀ L h' m' ∧ News h₀ L h' (own ++ (c, o) :: rest) ∧ o.data = .cell v ∧ (∀ p ∈ own ++ (c, o) :: rest, p.1 ≠ s.heap.objs.size) ∧ J m₀ own₀ rest₀ i m' own rest ∧ i ≤ n ∧ k = n + 1 - i := by
      rintro ⟨h₄, tk₄, m₄, news₄, rfl, F₄, N₄, o₄, own', rest', o', v', rfl, hd', J₄⟩
      refine ⟨n + 1 - (i + 1), by omega, h₄, tk₄, m₄, own', rest', o', v', i + 1, rfl, hk₃, ?_, F₄, fun p hp => N₄ p (List.mem_cons_of_mem _ hp), hd', o₄, J₄, hlt, rfl⟩
      have e3 : h₂.get? s.heap.objs.size = some _ := hit₃
      rw [hI₃] at e3
      have e4 := (N₄ _ (List.mem_cons_self ..)).1
      show h₄.get? s.heap.objs.size = some _
      exact e4.trans e3
    cases f with
    | ret v => exact p
    | brk => exact p
    | next => exact fin p
    | cont => exact fin p
  · have hin : i = n := by omega
    subst hin
    refine W.done _ _ _ hit fun h₁ tk₁ hk₁ => wpAny_execs_nil ?_
    have F₁ : Fr h₀ L h₁ m' := ⟨F'.ns.at' fun o e => hk₁ L o (by simpa using hLI) e, fun b o e => hk₁ b o (fun q => by rw [List.mem_singleton.mp q, hnew] at e; cases e) (F'.keep b o e), F'.above⟩
    have N₁ : News h₀ L h₁ (own ++ (c, o) :: rest) := fun p hp => ⟨hk₁ _ _ (fun q => off p hp (List.mem_singleton.mp q)) (N' p hp).1, (N' p hp).2⟩
    exact done h₁ tk₁ m' own rest o v hJ hd F₁ N₁
end
end
-- part 11e_comptok
section
example : True := by
  k_with_none
  k_with "my exec For Name Call cons nil" => first | ((k_here; (rename Fr _ _ _ _ => zlF'); (with_unfolding_all refine' For_invVF zlF' ?zk1 ?zk2 ?_; (case zk1 => exact rfl); (case zk2 => exact rfl); k_whole))) | fail
  k_with "my exec For Name Name cons nil" => first | ((k_here; (rename Fr _ _ _ _ => zlF'); (with_unfolding_all refine' For_invVF zlF' ?zk1 ?zk2 ?_; (case zk1 => exact rfl); (case zk2 => exact rfl); k_whole))) | fail
  k_with "my exec For Name Attribute cons nil" => first | ((k_here; (rename Fr _ _ _ _ => zlF'); (with_unfolding_all refine' For_invVF zlF' ?zk1 ?zk2 ?_; (case zk1 => exact rfl); (case zk2 => exact rfl); k_whole))) | fail
  k_with "my exec For Name Subscript cons nil" => first | ((k_here; (rename Fr _ _ _ _ => zlF'); (with_unfolding_all refine' For_invVF zlF' ?zk1 ?zk2 ?_; (case zk1 => exact rfl); (case zk2 => exact rfl); k_whole))) | fail
  k_with "my pyIter ref" => first | (((with_reducible show wpAny _ _ (pyIter (Value.ref _)) (fun it s₂ => LoopAtV _ _ _ _ _ _ _ _ _ it s₂) _ _); refine halt_of ?_)) | fail
  k_with "my pyIter str" => first | (((with_reducible show wpAny _ _ (pyIter (Value.str _ _)) (fun it s₂ => LoopAtV _ _ _ _ _ _ _ _ _ it s₂) _ _); refine halt_of ?_)) | fail
  k_with "my exec While BoolOp cons nil" => first | (refine halt_of ?_) | fail
  k_with "my exec While Compare cons nil" => first | (refine halt_of ?_) | fail
  k_with "my subscriptTail Name Slice str ref" => first | (((with_reducible show wpAny _ _ (subscriptTail _ (Expr.Slice none (some _) none _) _ _) _ _ _); (with_reducible rename Fr _ _ _ _ => zF'); (with_reducible rename News _ _ _ _ => zN'); (refine slice_strN_nn_len (hsz := ?zhsz) (s := ⟨_, _, _, _, _⟩) zF' zN' ?_); (case zhsz => size_fits); intro _ _ _ _ _ _)) | fail
  k_with "my ite" => first | (first | ((with_reducible show ite ((_ != (0 : Int)) = true) _ _); k_dflt (first | refine ite_bne_t (by omega) ?_ | refine ite_bne_f (by omega) ?_)) | ((with_reducible show ite ((!(_ != (0 : Int))) = true) _ _); k_dflt (first | refine ite_nbne_t (by omega) ?_ | refine ite_nbne_f (by omega) ?_)) | ((with_reducible show ite (decide _ = true) _ _); k_dflt (first | refine ite_dec_t (by omega) ?_ | refine ite_dec_f (by omega) ?_))) | fail
  k_with "my call type:list" => first | (((with_reducible show wpAny _ _ (call (Value.type _) [Value.ref _]) _ _ _); refine halt_of ?_)) | fail
  k_with "my setItem ref int" => first | ((k_here; (with_reducible show wpAny _ _ (setItem (Value.ref _) (Value.int _ _) (Value.int _ _)) _ _ _); k_dflt (refine' ksa_set ?zk1 ?zk2 ?zk3 ?zk4 ?zk5 ?zk6 ?zk7 ?_; (case zk1 => k_asm); (case zk2 => k_asm); (case zk3 => (repeat (first | exact Upd.head (by assumption) | refine Upd.tail (by assumption) ?_))); (case zk4 => with_reducible assumption); (case zk5 => ksa_idx); (case zk6 => ksa_idx); (case zk7 => ksa_idx); k_whole); intro zh' zF' zN' zhi' zhl' zhs'; (try k_sweep))) | fail
  k_with "my k_all" => first | (first | assumption | exact lt_ne (by assumption) | exact allLt_ne (by first | assumption | exact And.right (by assumption) | exact And.right (And.right (by assumption)) | exact And.right (And.right (And.right (by assumption))) | exact And.right (And.right (And.right (And.right (by assumption)))) | exact And.right (And.right (And.right (And.right (And.right (by assumption))))) | exact And.right (And.right (And.right (And.right (And.right (And.right (by assumption)))))) | exact And.right (And.right (And.right (And.right (And.right (And.right (And.right (by assumption))))))))) | fail
  k_with "my call type:tuple" => first | ((k_here; (with_reducible show wpAny _ _ (call (Value.type _) [Value.ref _]) _ _ _); k_dflt (refine' kde_tupleOf ?zk1 ?zk2 ?zk3 ?zk4 ?zk5 ?_; (case zk1 => k_asm); (case zk2 => k_asm); (case zk3 => exact News.isList (by k_asm) (by k_mem)); (case zk4 => exact sz_ints (by assumption) (by omega)); (case zk5 => rfl); k_whole); intro zD' zh' zF' zN' zl1; (try k_lt zl1); (try k_sweep))) | fail
  k_with "my call ref" => first | ((plain_pass; k_here; (refine wpAny_call ?_); k_dflt (refine' code_def ?zk1 ?zk2 ?zk3 ?zk4 ?zk5 ?zkA ?zkF ?zkK ?zk6 ?zk7 ?zk8 ?zk9 ?zkB ?_ ?zc2 ?zc3 ?zc4 ?zc5; (case zkA => exact rfl); (case zkF => exact rfl); (case zkK => first | exact rfl | assumption); (case zk1 => k_asm); (case zk2 => k_asm); (case zk3 => k_asm); (case zk4 => k_asm); (case zk5 => k_asm); (case zk6 => k_is); (case zk7 => k_is); (case zk8 => ktr_room); (case zk9 => exact BindsTo.of_eq rfl); (case zc5 => decide); (case zkB => exact locs rfl); (case zc2 => exact rfl); (case zc3 => exact rfl); (case zc4 => exact rfl); k_whole; intro zg' zL' zh' zFG' zF' zN' zB' zX' zT'; (try dsimp only); (try k_lift zB'); (try k_fold)))) | fail
  k_with "my call type:range" => first | (((rename Fr _ _ _ _ => zF'); (rename News _ _ _ _ => zN'); first | (with_unfolding_all refine range1_rows zF' zN' ?_; intro _ _ _ _ _ _ _ _ _) | (with_unfolding_all refine range2_rows zF' zN' ?_; intro _ _ _ _ _ _ _ _ _))) | fail
  k_with "my eval ListComp" => first | ((k_here; k_dflt (refine LCg.ListComp_U (F₀ := by k_asm) (by with_unfolding_all rfl) (by decide) (by rfl) (by decide) (by rfl) ?_))) | fail
  k_with "my exec Assign cons ListComp" => first | ((k_here; k_dflt (refine LCg.Assign_ListComp_U (F₀ := by k_asm) (by rfl) (by with_unfolding_all rfl) (by with_unfolding_all rfl) (by decide) (by rfl) (by decide) (by rfl) (by rfl) (by rfl) ?_))) | fail
  k_with "my CompSrc" => first | (refine halt_of ?_) | fail
  k_with "my call ref" => first | (((with_reducible show wpAny _ _ (PySem.call (Value.ref 28) _ _) _ _ _); k_dflt (refine' sub_spec _ _ _ _ _ ?zp0 ?zp1 _ _ _ _ _ _ _ _ _ _ _ _ _ _ _ _ _ ?zq1 ?zq2 ?zq3 ?zq4 ?zq5 ?zq6 ?zq7 ?zq8 ?_); (case zp0 => assumption); (case zp1 => assumption); (case zq1 => k_asm); (case zq2 => k_asm); (case zq3 => k_asm); (case zq4 => k_asm); (case zq5 => k_asm); (case zq6 => first | exact rfl | assumption); (case zq7 => ktr_room); (case zq8 => ktr_units); rintro zv' zown' zh' ztk' ⟨⟨zt', ze1⟩, ze2⟩ zF' zN'; subst ze1; subst ze2; (try simp only [List.nil_append] at zN'); (try dsimp only); (try k_fold))) | fail
  k_with "my call ref" => first | (((with_reducible show wpAny _ _ (PySem.call (Value.ref 153) _ _) _ _ _); k_dflt (refine' ws_call _ _ _ _ ?zp0 ?zp1 _ _ _ _ _ _ _ _ _ _ _ _ _ _ _ _ _ ?zq1 ?zq2 ?zq3 ?zq4 ?zq5 ?zq6 ?zq7 ?zq8 ?_); (case zp0 => assumption); (case zp1 => first | omega | (simp only [List.length_drop, List.length_take]; omega)); (case zq1 => k_asm); (case zq2 => k_asm); (case zq3 => k_asm); (case zq4 => k_asm); (case zq5 => k_asm); (case zq6 => first | exact rfl | assumption); (case zq7 => ktr_room); (case zq8 => ktr_units); rintro zv' zown' zh' ztk' ⟨zx', zd', zT1', zT2', zvs', zk1', zk2', zk3', zk4', zk5', zt2', zt3', zt4', ze1, zhI', zl1', zl2', zl3', zl4', ze2⟩ zF' zN'; subst ze1; subst ze2; (try simp only [List.cons_append, List.nil_append] at zN'); (try dsimp only [wsD, tupO] at zN'); (try k_lt zl1'); (try simp only [List.nil_append] at zN'); (try dsimp only); (try k_fold))) | fail
  k_with "my call ref" => first | (((with_reducible show wpAny _ _ (PySem.call (Value.ref 169) _ _) _ _ _); k_dflt (refine' height_spec _ _ _ ?zp0 ?zp1 _ _ _ _ _ _ _ _ _ _ _ _ _ _ _ _ _ ?zq1 ?zq2 ?zq3 ?zq4 ?zq5 ?zq6 ?zq7 ?zq8 ?_); (case zp0 => first | omega | (simp only [List.length_append]; omega)); (case zp1 => first | omega | (simp only [List.length_append]; omega)); (case zq1 => k_asm); (case zq2 => k_asm); (case zq3 => k_asm); (case zq4 => k_asm); (case zq5 => k_asm); (case zq6 => first | exact rfl | assumption); (case zq7 => ktr_room); (case zq8 => ktr_units); rintro zv' zown' zh' ztk' ⟨⟨zt', ze1⟩, ze2⟩ zF' zN'; subst ze1; subst ze2; (try simp only [List.nil_append] at zN'); (try dsimp only); (try k_fold))) | fail
  k_with "my call ref" => first | (((with_reducible show wpAny _ _ (PySem.call (Value.ref 35) _ _) _ _ _); k_dflt (refine' lev_any _ _ _ _ _ _ _ _ ?zp0 ?zp1 ?zp2 ?zp3 ?zp4 ?zp5 ?zp6 ?zp7 _ _ _ _ _ _ _ _ _ _ _ _ _ _ _ _ _ ?zq1 ?zq2 ?zq3 ?zq4 ?zq5 ?zq6 ?zq7 ?zq8 ?_); (case zp0 => assumption); (case zp1 => assumption); (case zp2 => assumption); (case zp3 => assumption); (case zp4 => omega); (case zp5 => omega); (case zp6 => omega); (case zp7 => omega); (case zq1 => k_asm); (case zq2 => k_asm); (case zq3 => k_asm); (case zq4 => k_asm); (case zq5 => k_asm); (case zq6 => first | exact rfl | assumption); (case zq7 => ktr_room); (case zq8 => ktr_units); rintro zv' zown' zh' ztk' ⟨⟨zt', ze1⟩, ze2⟩ zF' zN'; subst ze1; subst ze2; (try simp only [List.nil_append] at zN'); (try dsimp only); (try k_fold))) | fail
  k_with "my call ref" => first | ((plain_pass; (with_reducible show wpAny _ _ (PySem.call (Value.ref 162) _ _) _ _ _); refine halt_of ?_)) | fail
  k_with "my lt" => first | assumption | exact And.left (by assumption) | exact And.left (And.right (by assumption)) | exact And.right (by assumption) | exact And.left (And.right (And.right (by assumption))) | exact And.right (And.right (by assumption)) | exact And.left (And.right (And.right (And.right (by assumption)))) | exact And.right (And.right (And.right (by assumption))) | exact And.left (And.right (And.right (And.right (And.right (by assumption))))) | exact And.right (And.right (And.right (And.right (by assumption)))) | exact And.left (And.right (And.right (And.right (And.right (And.right (by assumption)))))) | exact And.right (And.right (And.right (And.right (And.right (by assumption))))) | exact And.left (And.right (And.right (And.right (And.right (And.right (And.right (by assumption))))))) | exact And.right (And.right (And.right (And.right (And.right (And.right (by assumption)))))) | exact And.left (And.right (And.right (And.right (And.right (And.right (And.right (And.right (by assumption)))))))) | exact And.right (And.right (And.right (And.right (And.right (And.right (And.right (by assumption))))))) | exact And.left (And.right (And.right (And.right (And.right (And.right (And.right (And.right (And.right (by assumption))))))))) | exact And.right (And.right (And.right (And.right (And.right (And.right (And.right (And.right (by assumption)))))))) | fail
  k_with "my succ" => first | (first | exact Nat.lt_succ_self _ | exact Nat.lt_succ_of_lt (Nat.lt_succ_self _) | exact Nat.lt_succ_of_lt (Nat.lt_succ_of_lt (Nat.lt_succ_self _)) | exact Nat.lt_succ_of_lt (Nat.lt_succ_of_lt (Nat.lt_succ_of_lt (Nat.lt_succ_self _)))) | fail
  k_with "my omega" => with_reducible (first | assumption | decide | exact room0 (by assumption) | exact room1 (by assumption) rfl | exact room2 (by assumption) rfl | exact idx_nn _ | exact idx_ge _ _ | exact idx_lo _ | exact idx_lo' _ | exact idx_to _ | exact idx_one _ | exact idx_lt (by assumption) | exact idx_lt (lt_of_eq' (by assumption) (by assumption)) | exact idx_hi (by assumption) rfl | exact idx_hi2 (by assumption) (by assumption) rfl | exact nn_neg _ _ | exact Int.natCast_nonneg _ | exact cast_hi (by assumption) rfl | exact cast_hi2 (by assumption) (by assumption) rfl | exact cast_hi3 (by assumption) (by assumption) rfl | exact ng_lt _ _ | exact ng_hi _ | exact ng_ge (by assumption) | exact ng_lo (by assumption) rfl | exact ng_lo0 (by assumption) | exact ng_neg (by assumption) | exact ng_ne (by assumption) | exact cast_ne (by assumption) | exact cast_ne' (by assumption) (by assumption) | exact not_big (by assumption) (by assumption) rfl | exact slc_lt (by assumption) (by assumption) | exact slc_hi (by assumption) (by assumption) (by assumption) rfl | exact ix_pos (by assumption) | exact ix_ne (by assumption) | exact ix_add (by assumption) | exact le_add' _ _ | exact imp_ne (by assumption) (by assumption) | exact Nat.lt_succ_self _ | exact Nat.le_succ_of_le (by assumption) | exact le_big (by assumption) rfl | exact le_big' (by assumption) (by assumption) rfl | exact pos_of (by assumption) (by assumption) | exact lt_of_eq' (by assumption) (by assumption) | exact int_pos (by assumption) | exact eq_of (by assumption) (by assumption) | exact Ne.symm (by assumption) | (refine Nat.ne_of_gt ?_; k_extra "my lt") | (refine Nat.ne_of_lt ?_; k_extra "my lt") | (refine Nat.ne_of_gt ?_; k_extra "my succ") | (refine Nat.ne_of_lt ?_; k_extra "my succ") | exact Int.le_trans (by assumption) (by decide) | exact Int.lt_of_le_of_lt (by assumption) (by decide) | exact Int.lt_of_lt_of_le (by decide) (by assumption) | exact Nat.le_trans (Nat.le_of_lt (by assumption)) (Nat.le_of_ble_eq_true rfl) | exact Int.ofNat_le.mpr (Nat.le_trans (by assumption) (Nat.le_of_ble_eq_true rfl)) | fail)
  trivial
section
variable {prog : Program} {w : World} {A : Around} {E : Value → Shared → Prop} {s : Shared} {h₀ : Heap} {L : Addr} {m : Str → Option Value} {env : Env}
/-- what an element leaves, with the token counter told -/
noncomputable def ElPostT (h₀ : Heap) (L : Addr) (m : Str → Option Value) (s : Shared) (led : List (Addr × Obj)) (Y : Nat → Value → Prop) (y : Value) (s₂ : Shared) : Prop :=
  ∃ h' tk' all, s₂ = { s with heap := h', toks := tk' } ∧ Fr h₀ L h' m ∧ News h₀ L h' all ∧ (∀ p ∈ led, p ∈ all) ∧ Y tk' y
theorem ElPostT.intro {led : List (Addr × Obj)} {Y : Nat → Value → Prop} {y : Value} {h' : Heap} {tk' : Nat} {all : List (Addr × Obj)} (F : Fr h₀ L h' m) (N : News h₀ L h' all) (sub : ∀ p ∈ led, p ∈ all) (hY : Y tk' y) : ElPostT h₀ L m s led Y y { s with heap := h', toks := tk' } :=
  ⟨h', tk', all, rfl, F, N, sub, hY⟩
/-- a comprehension over a list of the ledger, the tokens of the elements told -/
noncomputable def CompTok (prog : Program) (w : World) (A : Around) (h₀ : Heap) (L : Addr) (m : Str → Option Value) (env : Env) (elt : Expr) (x : Str) (scope : Scope) (cl : List (Str × Addr)) (Q : Value → Shared → Prop) (xv : Value) (s₁ : Shared) : Prop :=
  ∃ (ax : Addr) (its : Array Value) (k : Nat) (news : List (Addr × Obj)) (Y : Nat → Nat → Value → Prop), xv = .ref ax ∧ A.handled = none ∧ Fr h₀ L s₁.heap m ∧ News h₀ L s₁.heap news ∧ (ax, listOf its k) ∈ news ∧ its.size ≤ sizeLine ∧
    (∀ t t' i y, t ≤ t' → Y t i y → Y t' i y) ∧
    (∀ i v I oI C oC D m₂ ys h tk (E' : Value → Shared → Prop), its[i]? = some v → LCg.NsObj oC m₂ → m₂ x = some v → Fr h₀ L h m → News h₀ L h ((I, oI) :: (C, oC) :: (D, LCg.lst ys) :: news) → LCg.Off3 I C D news → ((@Ne Nat I C) ∧ (@Ne Nat I D) ∧ (@Ne Nat C D)) → s₁.toks ≤ tk →
      wpAny (model prog w) A (eval elt (compEnvC scope cl C env)) (ElPostT h₀ L m { s₁ with heap := h, toks := tk } ((I, oI) :: (C, oC) :: (D, LCg.lst ys) :: news) (fun t => Y t i)) E' { s₁ with heap := h, toks := tk }) ∧
    (∀ ys D h tk, s₁.toks ≤ tk → ys.length = its.size → (∀ i y, ys[i]? = some y → Y tk i y) → Fr h₀ L h m → News h₀ L h ((D, LCg.lst ys) :: news) → LCg.Off1 D news → Q (.ref D) { s₁ with heap := h, toks := tk })
theorem listcomp_tok {elt iter : Expr} {x : Str} {px : Pos} {scope : Scope} {cl : List (Str × Addr)} {pos : Pos} {Q : Value → Shared → Prop} (_F₀ : Fr h₀ L s.heap m)
    (hclos : closureFor scope env = pure cl) (hcell : ∀ y ∈ scope.names, y.2 ≠ .cell) (hkind : scope.kind = .function)
    (hnames : ∀ y ∈ scope.names, y.2 = .local → scope.names.lookup y.1 = some .local) (hx : scope.names.lookup x = some .local)
    (h : wpAny (model prog w) A (eval iter env) (CompTok prog w A h₀ L m env elt x scope cl Q) E s)
    (hs : ∀ x, foldedSetIterable iter env x = pure x := by intro _; rfl) :
    wpAny (model prog w) A (eval (.ListComp elt [⟨.Name x px, iter, [], 0⟩] scope pos) env) Q E s := by
  rw [eval_ListComp]
  refine wpAny_comprehension_free (use := none) rfl hs hclos hkind hnames (wpAny_mono h (fun xv s₁ h₁ => ?_) fun _ _ e => e)
  obtain ⟨ax, its, k, news, Y, rfl, hh, F, N, hm, hsz, mono, turn, done⟩ := h₁
  have hl : s₁.heap.IsList ax its := ⟨_, (N _ hm).1, rfl, k, rfl⟩
  have hax : ax < s₁.heap.objs.size := Heap.lt_size (N _ hm).1
  have hLlt : L < s₁.heap.objs.size := F.ns.lt
  refine wpAny_pyIter_list hl ?_
  obtain ⟨I, hI⟩ : ∃ I, I = s₁.heap.objs.size := ⟨_, rfl⟩
  obtain ⟨g₁, hg₁⟩ : ∃ g₁, g₁ = s₁.heap.push { cls := .type "list_iterator", data := .fields #[.ref ax, .int 0 0] } := ⟨_, rfl⟩
  have up₁ : ∀ b o, s₁.heap.get? b = some o → g₁.get? b = some o := fun b o e => by rw [hg₁]; exact Heap.get?_push_of_some _ e
  have sz₁ : g₁.objs.size = I + 1 := by rw [hg₁, hI, Heap.size_push]
  have itI : g₁.IsListIter I ax 0 := by rw [hg₁, hI]; exact ⟨_, Heap.get?_push_size _ rfl, rfl, rfl⟩
  rw [← hI, ← hg₁]
  refine wpAny_newObj_type (wpAny_newFunctionEnv hcell (by intro y hy; simp at hy) (fun g₃ hns₃ hsb₃ => ?_) hkind)
  dsimp only at hns₃ hsb₃ ⊢
  obtain ⟨D, hD⟩ : ∃ D, D = g₁.objs.size := ⟨_, rfl⟩
  obtain ⟨g₂, hg₂⟩ : ∃ g₂, g₂ = g₁.push { cls := .type "list", dict := none, data := .seq ([] : List Value).toArray } := ⟨_, rfl⟩
  rw [← hg₂] at hns₃ hsb₃
  rw [← hg₂, ← hD]
  obtain ⟨C, hC⟩ : ∃ C, C = g₂.objs.size := ⟨_, rfl⟩
  rw [← hC] at hns₃ hsb₃
  rw [← hC]
  have hDI : @Eq Nat D (I + 1) := by rw [hD, sz₁]
  have hCI : @Eq Nat C (I + 2) := by rw [hC, hg₂, Heap.size_push, ← hD, hDI]
  have nIC : @Ne Nat I C := by omega
  have nID : @Ne Nat I D := by omega
  have nCD : @Ne Nat C D := by omega
  have lI : ∀ b, b < s₁.heap.objs.size → (@Ne Nat b I) ∧ (@Ne Nat b C) ∧ (@Ne Nat b D) := fun b hb => by
    have hb' : @LT.lt Nat instLTNat b I := hI ▸ hb
    omega
  have up₃ : ∀ b o, (@Ne Nat b C) → g₂.get? b = some o → g₃.get? b = some o := fun b o hb e => hsb₃.extBut b o hb (Heap.get?_push_of_some _ e)
  have old : ∀ b o, s₁.heap.get? b = some o → g₃.get? b = some o := fun b o e =>
    up₃ b o (lI b (Heap.lt_size e)).2.1 (by rw [hg₂]; exact Heap.get?_push_of_some _ (up₁ b o e))
  have hacc : g₃.get? D = some (LCg.lst []) := up₃ D _ (fun e => nCD e.symm) (by rw [hg₂, hD]; exact Heap.get?_push_size _ rfl)
  have none₀ : ∀ b, s₁.heap.objs.size ≤ b → h₀.get? b = none := fun b hb => by
    cases e : h₀.get? b with
    | none => rfl
    | some o => exact absurd (Heap.lt_size (F.keep b o e)) (Nat.not_lt.mpr hb)
  have zI : h₀.get? I = none := none₀ I (by rw [hI]; exact Nat.le_refl _)
  have zD : h₀.get? D = none := none₀ D (by rw [← hI]; show @LE.le Nat _ I D; omega)
  have zC : h₀.get? C = none := none₀ C (by rw [← hI]; show @LE.le Nat _ I C; omega)
  obtain ⟨nLI, nLC, nLD⟩ := lI L hLlt
  have st₀ : g₃.IsListIter I ax 0 ∧ g₃.IsList ax its := by
    obtain ⟨o, e, r⟩ := itI
    obtain ⟨o', e', r'⟩ := hl
    exact ⟨⟨o, up₃ I o nIC (by rw [hg₂]; exact Heap.get?_push_of_some _ e), r⟩, ⟨o', old _ _ e', r'⟩⟩
  have W := Walks.list (prog := prog) (w := w) hh I ax (lI ax hax).1 its
  have off₀ : LCg.Off3 I C D news := LCg.Off3.of fun p hp => lI _ (Heap.lt_size (N p hp).1)
  have loop : ∀ s₃ : Shared, s₃ = { s₁ with heap := g₃, toks := s₁.toks + ([] : List (Str × Value)).length } →
      codeAny (model prog w) A (.compLoop (.ListComp elt [⟨.Name x px, iter, [], 0⟩] scope pos) 0 (.ref I) (.ref D) (compEnvC scope cl C env)) (compPost (model prog w) A E none Q (.ref D) C) s₃ := by
    rintro s₃ rfl
    refine codeAny_compLoop_tests
      (fun j s' => ∃ h' tk i ys m', s' = { s₁ with heap := h', toks := tk } ∧ i ≤ its.size ∧ j = its.size + 1 - i ∧ ys.length = i ∧ (h'.IsListIter I ax i ∧ h'.IsList ax its) ∧ Fr h₀ L h' m ∧ h'.Ns C m' ∧ News h₀ L h' ((D, LCg.lst ys) :: news) ∧ s₁.toks ≤ tk ∧ ∀ i y, ys[i]? = some y → Y tk i y)
      ?_ (its.size + 1) ⟨g₃, _, 0, [], _, rfl, Nat.zero_le _, rfl, rfl, st₀, F.keeps old, hns₃, fun p hp => ?_, Nat.le_add_right _ _, fun i y e => by simp at e⟩
    · rintro j s' ⟨h', tk, i, ys, m', rfl, hi, rfl, hyl, st', F', ns', N', h0k, hY⟩
      by_cases hlt : i < its.size
      · refine wpAny_with_toks (Nat.le_refl _) (W.item i _ _ _ hlt st' fun v h₁ tk₁ hPv st₁ hk₁ htk₁ => ?_)
        have htk₁' : tk ≤ tk₁ := htk₁
        have kb : ∀ b o, (@Ne Nat b I) → h'.get? b = some o → h₁.get? b = some o := fun b o hb e => hk₁ b o (fun q => hb (List.mem_singleton.mp q)) e
        have ns₁ : h₁.Ns C m' := ns'.at' fun o e => kb C o (fun e => nIC e.symm) e
        refine wpAny_assign_Name (wpAny_storeName_local (lookup_relabel_local hx) ns₁ (fun h₂ ns₂ sb₂ => ?_) (by simp [compEnvC, relabel, hkind]))
        refine wpAny_tests_nil ?_
        simp only [if_true]
        have F₂ : Fr h₀ L h₂ m := (LCg.fr_but F' hk₁ nLI zI).change sb₂ (fun e => nLC e.symm) zC
        obtain ⟨oI, e₁, r₁⟩ := st₁.1
        have eI : h₂.get? I = some oI := sb₂.extBut _ _ nIC e₁
        obtain ⟨oC, eC, hoC⟩ := LCg.ns_obj ns₂
        have N₁ : News h₀ L h₁ ((D, LCg.lst ys) :: news) := LCg.news_but N' hk₁ fun p hp => by
          rcases List.mem_cons.mp hp with rfl | hp
          · exact fun e => nID e.symm
          · exact (off₀.mem p hp).1
        have offC : ∀ p ∈ (D, LCg.lst ys) :: news, p.1 ≠ C := fun p hp => by
          rcases List.mem_cons.mp hp with rfl | hp
          · exact fun e => nCD e.symm
          · exact (off₀.mem p hp).2.1
        have N₂ : News h₀ L h₂ ((I, oI) :: (C, oC) :: (D, LCg.lst ys) :: news) := fun p hp => by
          rcases List.mem_cons.mp hp with rfl | hp
          · exact ⟨eI, fun e => nLI e.symm, zI⟩
          rcases List.mem_cons.mp hp with rfl | hp
          · exact ⟨eC, fun e => nLC e.symm, zC⟩
          · exact ⟨sb₂.extBut _ _ (offC p hp) (N₁ p hp).1, (N₁ p hp).2⟩
        have hPv' : its[i]? = some v := hPv
        refine wpAny_mono (wpAny_toks_of (n := tk) (show tk ≤ _ from Nat.le_trans htk₁' (Nat.le_succ _)) (turn i v I oI C oC D _ ys h₂ _ _ hPv' hoC (by simp) F₂ N₂ off₀ ⟨nIC, nID, nCD⟩ (Nat.le_trans h0k (Nat.le_trans htk₁' (Nat.le_succ _))))) (fun y s₄ h₄ => ?_) fun e s₄ h₄ => h₄.2
        obtain ⟨hk₄, h₄, tk₄, all, rfl, F₄, N₄, sub, hYy⟩ := h₄
        have hk₄' : tk ≤ tk₄ := hk₄
        have a₁ := (N₄ _ (sub (I, oI) (.head _))).1
        have a₂ := (N₄ _ (sub (C, oC) (.tail _ (.head _)))).1
        have a₃ := (N₄ _ (sub (D, LCg.lst ys) (.tail _ (.tail _ (.head _))))).1
        refine append_at (hsz := by show ys.toArray.size ≤ sizeLine; rw [List.size_toArray, hyl]; exact Nat.le_trans hi hsz) a₃ fun h₅ hs₅ hD₅ => ?_
        have nax : (@Ne Nat ax D) := (lI ax hax).2.2
        refine ⟨its.size + 1 - (i + 1), by omega, h₅, tk₄, i + 1, ys ++ [y], _, rfl, hlt, rfl, by rw [List.length_append, List.length_singleton, hyl], ⟨⟨oI, hs₅.extBut _ _ nID a₁, r₁⟩, ⟨_, hs₅.extBut _ _ nax (N₄ _ (sub _ (.tail _ (.tail _ (.tail _ hm))))).1, rfl, k, rfl⟩⟩,
          F₄.change hs₅ (fun e => nLD e.symm) zD, (hoC.ns a₂).sameBut hs₅ nCD, fun p hp => ?_, Nat.le_trans h0k hk₄', fun i' y' hy' => ?_⟩
        · rcases List.mem_cons.mp hp with rfl | hp
          · exact ⟨hD₅.trans (congrArg some (LCg.lst_snoc ys y)), fun e => nLD e.symm, zD⟩
          · have q := N₄ p (sub p (.tail _ (.tail _ (.tail _ hp))))
            exact ⟨hs₅.extBut _ _ (off₀.mem p hp).2.2 q.1, q.2⟩
        · rcases Nat.lt_or_ge i' ys.length with q | q
          · rw [List.getElem?_append_left q] at hy'
            exact mono _ _ _ _ hk₄' (hY i' y' hy')
          · rw [List.getElem?_append_right q] at hy'
            obtain rfl : i' = ys.length := by
              rcases Nat.lt_or_ge (i' - ys.length) 1 with q2 | q2
              · omega
              · rw [List.getElem?_eq_none (by simpa using q2)] at hy'; cases hy'
            simp at hy'
            subst hy'
            rw [hyl]
            exact hYy
      · obtain rfl : i = its.size := Nat.le_antisymm hi (Nat.not_lt.mp hlt)
        refine wpAny_with_toks (Nat.le_refl _) (W.done _ _ _ st' fun h₂ tk₂ hk₂ htk₂ => ?_)
        have htk₂' : tk ≤ tk₂ := htk₂
        have kb : ∀ b o, (@Ne Nat b I) → h'.get? b = some o → h₂.get? b = some o := fun b o hb e => hk₂ b o (fun q => hb (List.mem_singleton.mp q)) e
        have F₂ : Fr h₀ L h₂ m := LCg.fr_but F' hk₂ nLI zI
        have N₂ : News h₀ L h₂ ((D, LCg.lst ys) :: news) := LCg.news_but N' hk₂ fun p hp => by
          rcases List.mem_cons.mp hp with rfl | hp
          · exact fun e => nID e.symm
          · exact (off₀.mem p hp).1
        have offC : ∀ p ∈ (D, LCg.lst ys) :: news, p.1 ≠ C := fun p hp => by
          rcases List.mem_cons.mp hp with rfl | hp
          · exact fun e => nCD e.symm
          · exact (off₀.mem p hp).2.1
        refine ⟨m', ns'.at' fun o e => kb C o (fun e => nIC e.symm) e, fun h'' hs'' => done ys D h'' tk₂ (Nat.le_trans h0k htk₂') hyl (fun i y hy => mono _ _ _ _ htk₂' (hY i y hy)) (F₂.change hs'' (fun e => nLC e.symm) zC) (fun p hp => ⟨hs''.extBut _ _ (offC p hp) (N₂ p hp).1, (N₂ p hp).2⟩) off₀.one⟩
    · rcases List.mem_cons.mp hp with rfl | hp
      · exact ⟨hacc, fun e => nLD e.symm, zD⟩
      · exact ⟨old _ _ (N p hp).1, (N p hp).2⟩
  exact codeAny_compStart_list (loop _ rfl) (W.self 0 _ _ _ st₀ (loop _ rfl))
end
end
-- part 11f_mod
section
example : True := by
  k_with_none
  k_with "my exec For Name Call cons nil" => first | ((k_here; (rename Fr _ _ _ _ => zlF'); (with_unfolding_all refine' For_invVF zlF' ?zk1 ?zk2 ?_; (case zk1 => exact rfl); (case zk2 => exact rfl); k_whole))) | fail
  k_with "my exec For Name Name cons nil" => first | ((k_here; (rename Fr _ _ _ _ => zlF'); (with_unfolding_all refine' For_invVF zlF' ?zk1 ?zk2 ?_; (case zk1 => exact rfl); (case zk2 => exact rfl); k_whole))) | fail
  k_with "my exec For Name Attribute cons nil" => first | ((k_here; (rename Fr _ _ _ _ => zlF'); (with_unfolding_all refine' For_invVF zlF' ?zk1 ?zk2 ?_; (case zk1 => exact rfl); (case zk2 => exact rfl); k_whole))) | fail
  k_with "my exec For Name Subscript cons nil" => first | ((k_here; (rename Fr _ _ _ _ => zlF'); (with_unfolding_all refine' For_invVF zlF' ?zk1 ?zk2 ?_; (case zk1 => exact rfl); (case zk2 => exact rfl); k_whole))) | fail
  k_with "my pyIter ref" => first | (((with_reducible show wpAny _ _ (pyIter (Value.ref _)) (fun it s₂ => LoopAtV _ _ _ _ _ _ _ _ _ it s₂) _ _); refine halt_of ?_)) | fail
  k_with "my pyIter str" => first | (((with_reducible show wpAny _ _ (pyIter (Value.str _ _)) (fun it s₂ => LoopAtV _ _ _ _ _ _ _ _ _ it s₂) _ _); refine halt_of ?_)) | fail
  k_with "my exec While BoolOp cons nil" => first | (refine halt_of ?_) | fail
  k_with "my exec While Compare cons nil" => first | (refine halt_of ?_) | fail
  k_with "my subscriptTail Name Slice str ref" => first | (((with_reducible show wpAny _ _ (subscriptTail _ (Expr.Slice none (some _) none _) _ _) _ _ _); (with_reducible rename Fr _ _ _ _ => zF'); (with_reducible rename News _ _ _ _ => zN'); (refine slice_strN_nn_len (hsz := ?zhsz) (s := ⟨_, _, _, _, _⟩) zF' zN' ?_); (case zhsz => size_fits); intro _ _ _ _ _ _)) | fail
  k_with "my ite" => first | (first | ((with_reducible show ite ((_ != (0 : Int)) = true) _ _); k_dflt (first | refine ite_bne_t (by omega) ?_ | refine ite_bne_f (by omega) ?_)) | ((with_reducible show ite ((!(_ != (0 : Int))) = true) _ _); k_dflt (first | refine ite_nbne_t (by omega) ?_ | refine ite_nbne_f (by omega) ?_)) | ((with_reducible show ite (decide _ = true) _ _); k_dflt (first | refine ite_dec_t (by omega) ?_ | refine ite_dec_f (by omega) ?_))) | fail
  k_with "my call type:list" => first | (((with_reducible show wpAny _ _ (call (Value.type _) [Value.ref _]) _ _ _); refine halt_of ?_)) | fail
  k_with "my setItem ref int" => first | ((k_here; (with_reducible show wpAny _ _ (setItem (Value.ref _) (Value.int _ _) (Value.int _ _)) _ _ _); k_dflt (refine' ksa_set ?zk1 ?zk2 ?zk3 ?zk4 ?zk5 ?zk6 ?zk7 ?_; (case zk1 => k_asm); (case zk2 => k_asm); (case zk3 => (repeat (first | exact Upd.head (by assumption) | refine Upd.tail (by assumption) ?_))); (case zk4 => with_reducible assumption); (case zk5 => ksa_idx); (case zk6 => ksa_idx); (case zk7 => ksa_idx); k_whole); intro zh' zF' zN' zhi' zhl' zhs'; (try k_sweep))) | fail
  k_with "my k_all" => first | (first | assumption | exact lt_ne (by assumption) | exact allLt_ne (by first | assumption | exact And.right (by assumption) | exact And.right (And.right (by assumption)) | exact And.right (And.right (And.right (by assumption))) | exact And.right (And.right (And.right (And.right (by assumption)))) | exact And.right (And.right (And.right (And.right (And.right (by assumption))))) | exact And.right (And.right (And.right (And.right (And.right (And.right (by assumption)))))) | exact And.right (And.right (And.right (And.right (And.right (And.right (And.right (by assumption))))))))) | fail
  k_with "my call type:tuple" => first | ((k_here; (with_reducible show wpAny _ _ (call (Value.type _) [Value.ref _]) _ _ _); k_dflt (refine' kde_tupleOf ?zk1 ?zk2 ?zk3 ?zk4 ?zk5 ?_; (case zk1 => k_asm); (case zk2 => k_asm); (case zk3 => exact News.isList (by k_asm) (by k_mem)); (case zk4 => exact sz_ints (by assumption) (by omega)); (case zk5 => rfl); k_whole); intro zD' zh' zF' zN' zl1; (try k_lt zl1); (try k_sweep))) | fail
  k_with "my call ref" => first | ((plain_pass; k_here; (refine wpAny_call ?_); k_dflt (refine' code_def ?zk1 ?zk2 ?zk3 ?zk4 ?zk5 ?zkA ?zkF ?zkK ?zk6 ?zk7 ?zk8 ?zk9 ?zkB ?_ ?zc2 ?zc3 ?zc4 ?zc5; (case zkA => exact rfl); (case zkF => exact rfl); (case zkK => first | exact rfl | assumption); (case zk1 => k_asm); (case zk2 => k_asm); (case zk3 => k_asm); (case zk4 => k_asm); (case zk5 => k_asm); (case zk6 => k_is); (case zk7 => k_is); (case zk8 => ktr_room); (case zk9 => exact BindsTo.of_eq rfl); (case zc5 => decide); (case zkB => exact locs rfl); (case zc2 => exact rfl); (case zc3 => exact rfl); (case zc4 => exact rfl); k_whole; intro zg' zL' zh' zFG' zF' zN' zB' zX' zT'; (try dsimp only); (try k_lift zB'); (try k_fold)))) | fail
  k_with "my call type:range" => first | (((rename Fr _ _ _ _ => zF'); (rename News _ _ _ _ => zN'); first | (with_unfolding_all refine range1_rows zF' zN' ?_; intro _ _ _ _ _ _ _ _ _) | (with_unfolding_all refine range2_rows zF' zN' ?_; intro _ _ _ _ _ _ _ _ _))) | fail
  k_with "my eval ListComp" => first | ((k_here; k_dflt (refine LCg.ListComp_U (F₀ := by k_asm) (by with_unfolding_all rfl) (by decide) (by rfl) (by decide) (by rfl) ?_))) | fail
  k_with "my exec Assign cons ListComp" => first | ((k_here; k_dflt (refine LCg.Assign_ListComp_U (F₀ := by k_asm) (by rfl) (by with_unfolding_all rfl) (by with_unfolding_all rfl) (by decide) (by rfl) (by decide) (by rfl) (by rfl) (by rfl) ?_))) | fail
  k_with "my CompSrc" => first | (refine halt_of ?_) | fail
  k_with "my call ref" => first | (((with_reducible show wpAny _ _ (PySem.call (Value.ref 28) _ _) _ _ _); k_dflt (refine' sub_spec _ _ _ _ _ ?zp0 ?zp1 _ _ _ _ _ _ _ _ _ _ _ _ _ _ _ _ _ ?zq1 ?zq2 ?zq3 ?zq4 ?zq5 ?zq6 ?zq7 ?zq8 ?_); (case zp0 => assumption); (case zp1 => assumption); (case zq1 => k_asm); (case zq2 => k_asm); (case zq3 => k_asm); (case zq4 => k_asm); (case zq5 => k_asm); (case zq6 => first | exact rfl | assumption); (case zq7 => ktr_room); (case zq8 => ktr_units); rintro zv' zown' zh' ztk' ⟨⟨zt', ze1⟩, ze2⟩ zF' zN'; subst ze1; subst ze2; (try simp only [List.nil_append] at zN'); (try dsimp only); (try k_fold))) | fail
  k_with "my call ref" => first | (((with_reducible show wpAny _ _ (PySem.call (Value.ref 153) _ _) _ _ _); k_dflt (refine' ws_call _ _ _ _ ?zp0 ?zp1 _ _ _ _ _ _ _ _ _ _ _ _ _ _ _ _ _ ?zq1 ?zq2 ?zq3 ?zq4 ?zq5 ?zq6 ?zq7 ?zq8 ?_); (case zp0 => assumption); (case zp1 => first | omega | (simp only [List.length_drop, List.length_take]; omega)); (case zq1 => k_asm); (case zq2 => k_asm); (case zq3 => k_asm); (case zq4 => k_asm); (case zq5 => k_asm); (case zq6 => first | exact rfl | assumption); (case zq7 => ktr_room); (case zq8 => ktr_units); rintro zv' zown' zh' ztk' ⟨zx', zd', zT1', zT2', zvs', zk1', zk2', zk3', zk4', zk5', zt2', zt3', zt4', ze1, zhI', zl1', zl2', zl3', zl4', ze2⟩ zF' zN'; subst ze1; subst ze2; (try simp only [List.cons_append, List.nil_append] at zN'); (try dsimp only [wsD, tupO] at zN'); (try k_lt zl1'); (try simp only [List.nil_append] at zN'); (try dsimp only); (try k_fold))) | fail
  k_with "my call ref" => first | (((with_reducible show wpAny _ _ (PySem.call (Value.ref 169) _ _) _ _ _); k_dflt (refine' height_spec _ _ _ ?zp0 ?zp1 _ _ _ _ _ _ _ _ _ _ _ _ _ _ _ _ _ ?zq1 ?zq2 ?zq3 ?zq4 ?zq5 ?zq6 ?zq7 ?zq8 ?_); (case zp0 => first | omega | (simp only [List.length_append]; omega)); (case zp1 => first | omega | (simp only [List.length_append]; omega)); (case zq1 => k_asm); (case zq2 => k_asm); (case zq3 => k_asm); (case zq4 => k_asm); (case zq5 => k_asm); (case zq6 => first | exact rfl | assumption); (case zq7 => ktr_room); (case zq8 => ktr_units); rintro zv' zown' zh' ztk' ⟨⟨zt', ze1⟩, ze2⟩ zF' zN'; subst ze1; subst ze2; (try simp only [List.nil_append] at zN'); (try dsimp only); (try k_fold))) | fail
  k_with "my call ref" => first | (((with_reducible show wpAny _ _ (PySem.call (Value.ref 35) _ _) _ _ _); k_dflt (refine' lev_any _ _ _ _ _ _ _ _ ?zp0 ?zp1 ?zp2 ?zp3 ?zp4 ?zp5 ?zp6 ?zp7 _ _ _ _ _ _ _ _ _ _ _ _ _ _ _ _ _ ?zq1 ?zq2 ?zq3 ?zq4 ?zq5 ?zq6 ?zq7 ?zq8 ?_); (case zp0 => assumption); (case zp1 => assumption); (case zp2 => assumption); (case zp3 => assumption); (case zp4 => omega); (case zp5 => omega); (case zp6 => omega); (case zp7 => omega); (case zq1 => k_asm); (case zq2 => k_asm); (case zq3 => k_asm); (case zq4 => k_asm); (case zq5 => k_asm); (case zq6 => first | exact rfl | assumption); (case zq7 => ktr_room); (case zq8 => ktr_units); rintro zv' zown' zh' ztk' ⟨⟨zt', ze1⟩, ze2⟩ zF' zN'; subst ze1; subst ze2; (try simp only [List.nil_append] at zN'); (try dsimp only); (try k_fold))) | fail
  k_with "my call ref" => first | ((plain_pass; (with_reducible show wpAny _ _ (PySem.call (Value.ref 162) _ _) _ _ _); refine halt_of ?_)) | fail
  k_with "my lt" => first | assumption | exact And.left (by assumption) | exact And.left (And.right (by assumption)) | exact And.right (by assumption) | exact And.left (And.right (And.right (by assumption))) | exact And.right (And.right (by assumption)) | exact And.left (And.right (And.right (And.right (by assumption)))) | exact And.right (And.right (And.right (by assumption))) | exact And.left (And.right (And.right (And.right (And.right (by assumption))))) | exact And.right (And.right (And.right (And.right (by assumption)))) | exact And.left (And.right (And.right (And.right (And.right (And.right (by assumption)))))) | exact And.right (And.right (And.right (And.right (And.right (by assumption))))) | exact And.left (And.right (And.right (And.right (And.right (And.right (And.right (by assumption))))))) | exact And.right (And.right (And.right (And.right (And.right (And.right (by assumption)))))) | exact And.left (And.right (And.right (And.right (And.right (And.right (And.right (And.right (by assumption)))))))) | exact And.right (And.right (And.right (And.right (And.right (And.right (And.right (by assumption))))))) | exact And.left (And.right (And.right (And.right (And.right (And.right (And.right (And.right (And.right (by assumption))))))))) | exact And.right (And.right (And.right (And.right (And.right (And.right (And.right (And.right (by assumption)))))))) | fail
  k_with "my succ" => first | (first | exact Nat.lt_succ_self _ | exact Nat.lt_succ_of_lt (Nat.lt_succ_self _) | exact Nat.lt_succ_of_lt (Nat.lt_succ_of_lt (Nat.lt_succ_self _)) | exact Nat.lt_succ_of_lt (Nat.lt_succ_of_lt (Nat.lt_succ_of_lt (Nat.lt_succ_self _)))) | fail
  k_with "my omega" => with_reducible (first | assumption | decide | exact room0 (by assumption) | exact room1 (by assumption) rfl | exact room2 (by assumption) rfl | exact idx_nn _ | exact idx_ge _ _ | exact idx_lo _ | exact idx_lo' _ | exact idx_to _ | exact idx_one _ | exact idx_lt (by assumption) | exact idx_lt (lt_of_eq' (by assumption) (by assumption)) | exact idx_hi (by assumption) rfl | exact idx_hi2 (by assumption) (by assumption) rfl | exact nn_neg _ _ | exact Int.natCast_nonneg _ | exact cast_hi (by assumption) rfl | exact cast_hi2 (by assumption) (by assumption) rfl | exact cast_hi3 (by assumption) (by assumption) rfl | exact ng_lt _ _ | exact ng_hi _ | exact ng_ge (by assumption) | exact ng_lo (by assumption) rfl | exact ng_lo0 (by assumption) | exact ng_neg (by assumption) | exact ng_ne (by assumption) | exact cast_ne (by assumption) | exact cast_ne' (by assumption) (by assumption) | exact not_big (by assumption) (by assumption) rfl | exact slc_lt (by assumption) (by assumption) | exact slc_hi (by assumption) (by assumption) (by assumption) rfl | exact ix_pos (by assumption) | exact ix_ne (by assumption) | exact ix_add (by assumption) | exact le_add' _ _ | exact imp_ne (by assumption) (by assumption) | exact Nat.lt_succ_self _ | exact Nat.le_succ_of_le (by assumption) | exact le_big (by assumption) rfl | exact le_big' (by assumption) (by assumption) rfl | exact pos_of (by assumption) (by assumption) | exact lt_of_eq' (by assumption) (by assumption) | exact int_pos (by assumption) | exact eq_of (by assumption) (by assumption) | exact Ne.symm (by assumption) | (refine Nat.ne_of_gt ?_; k_extra "my lt") | (refine Nat.ne_of_lt ?_; k_extra "my lt") | (refine Nat.ne_of_gt ?_; k_extra "my succ") | (refine Nat.ne_of_lt ?_; k_extra "my succ") | exact Int.le_trans (by assumption) (by decide) | exact Int.lt_of_le_of_lt (by assumption) (by decide) | exact Int.lt_of_lt_of_le (by decide) (by assumption) | exact Nat.le_trans (Nat.le_of_lt (by assumption)) (Nat.le_of_ble_eq_true rfl) | exact Int.ofNat_le.mpr (Nat.le_trans (by assumption) (Nat.le_of_ble_eq_true rfl)) | fail)
  trivial
theorem mod_spec {w : World} {mean mg mb} (x y : Int) (tx ty : Tok) (news : List (Addr × Obj)) (hx1 : 0 ≤ x) (hx2 : x ≤ 1000) (hy1 : 1 ≤ y) (hy2 : y ≤ 1000) :
  ∀ (dp un : Nat) (gd : Option (List Code)) (cn : Str) (cs : Scope) (a : Addr) (ccd : Value) (cl : List (Str × Addr)) (outer : List Env) (A₀ : Around) (base h₀ : Heap) (L : Addr) (m : Str → Option Value) (s : Shared) (Q E : Value → Shared → Prop),
    Below A₀ base outer h₀ → Fr h₀ L s.heap m → (Mine.hdK.heap_1 w.params).In h₀ → News h₀ L s.heap news → Top VW LS mean mg mb h₀ → cs.kind = .function → dp + 2 < recursionLimit → un + 20 < cLine → @LE.le Nat _ 1 s.toks →
    (∀ (t : Tok) (h' : Heap) (tk' : Nat), @Ne Nat t 0 → @LT.lt Nat _ t tk' → Fr h₀ L h' m → News h₀ L h' news → Q (.int (Int.fmod x y) t) { s with heap := h', toks := tk' }) →
    wpAny (model PySem.Challenge.rw_sw0060_01.row.prog w) (ktrTop dp un gd cn cs L a ccd cl outer) (call (.ref 63) [.int x tx, .int y ty]) Q E s := by
  intro dp un gd cn cs a ccd cl outer A₀ base h₀ L m s Q E b1 b2 b3 b4 b5 b6 b7 b8 hkt hret
  refine wpAny_call ?_
  k_dflt cell_enter
  generalize hgt : s.toks + _ = tk0
  have hkt0 : @LE.le Nat _ 1 tk0 := by
    rw [← hgt]
    exact Nat.le_trans hkt (Nat.le_add_right _ _)
  clear hgt
  k_steps
  exact hret tk0 _ _ (Nat.ne_of_gt hkt0) (Nat.lt_succ_self _) (by assumption) (by assumption)
end
-- part 11g_trips
section
example : True := by
  k_with_none
  k_with "my exec For Name Call cons nil" => first | ((k_here; (rename Fr _ _ _ _ => zlF'); (with_unfolding_all refine' For_invVF zlF' ?zk1 ?zk2 ?_; (case zk1 => exact rfl); (case zk2 => exact rfl); k_whole))) | fail
  k_with "my exec For Name Name cons nil" => first | ((k_here; (rename Fr _ _ _ _ => zlF'); (with_unfolding_all refine' For_invVF zlF' ?zk1 ?zk2 ?_; (case zk1 => exact rfl); (case zk2 => exact rfl); k_whole))) | fail
  k_with "my exec For Name Attribute cons nil" => first | ((k_here; (rename Fr _ _ _ _ => zlF'); (with_unfolding_all refine' For_invVF zlF' ?zk1 ?zk2 ?_; (case zk1 => exact rfl); (case zk2 => exact rfl); k_whole))) | fail
  k_with "my exec For Name Subscript cons nil" => first | ((k_here; (rename Fr _ _ _ _ => zlF'); (with_unfolding_all refine' For_invVF zlF' ?zk1 ?zk2 ?_; (case zk1 => exact rfl); (case zk2 => exact rfl); k_whole))) | fail
  k_with "my pyIter ref" => first | (((with_reducible show wpAny _ _ (pyIter (Value.ref _)) (fun it s₂ => LoopAtV _ _ _ _ _ _ _ _ _ it s₂) _ _); refine halt_of ?_)) | fail
  k_with "my pyIter str" => first | (((with_reducible show wpAny _ _ (pyIter (Value.str _ _)) (fun it s₂ => LoopAtV _ _ _ _ _ _ _ _ _ it s₂) _ _); refine halt_of ?_)) | fail
  k_with "my exec While BoolOp cons nil" => first | (refine halt_of ?_) | fail
  k_with "my exec While Compare cons nil" => first | (refine halt_of ?_) | fail
  k_with "my subscriptTail Name Slice str ref" => first | (((with_reducible show wpAny _ _ (subscriptTail _ (Expr.Slice none (some _) none _) _ _) _ _ _); (with_reducible rename Fr _ _ _ _ => zF'); (with_reducible rename News _ _ _ _ => zN'); (refine slice_strN_nn_len (hsz := ?zhsz) (s := ⟨_, _, _, _, _⟩) zF' zN' ?_); (case zhsz => size_fits); intro _ _ _ _ _ _)) | fail
  k_with "my ite" => first | (first | ((with_reducible show ite ((_ != (0 : Int)) = true) _ _); k_dflt (first | refine ite_bne_t (by omega) ?_ | refine ite_bne_f (by omega) ?_)) | ((with_reducible show ite ((!(_ != (0 : Int))) = true) _ _); k_dflt (first | refine ite_nbne_t (by omega) ?_ | refine ite_nbne_f (by omega) ?_)) | ((with_reducible show ite (decide _ = true) _ _); k_dflt (first | refine ite_dec_t (by omega) ?_ | refine ite_dec_f (by omega) ?_))) | fail
  k_with "my call type:list" => first | (((with_reducible show wpAny _ _ (call (Value.type _) [Value.ref _]) _ _ _); refine halt_of ?_)) | fail
  k_with "my setItem ref int" => first | ((k_here; (with_reducible show wpAny _ _ (setItem (Value.ref _) (Value.int _ _) (Value.int _ _)) _ _ _); k_dflt (refine' ksa_set ?zk1 ?zk2 ?zk3 ?zk4 ?zk5 ?zk6 ?zk7 ?_; (case zk1 => k_asm); (case zk2 => k_asm); (case zk3 => (repeat (first | exact Upd.head (by assumption) | refine Upd.tail (by assumption) ?_))); (case zk4 => with_reducible assumption); (case zk5 => ksa_idx); (case zk6 => ksa_idx); (case zk7 => ksa_idx); k_whole); intro zh' zF' zN' zhi' zhl' zhs'; (try k_sweep))) | fail
  k_with "my k_all" => first | (first | assumption | exact lt_ne (by assumption) | exact allLt_ne (by first | assumption | exact And.right (by assumption) | exact And.right (And.right (by assumption)) | exact And.right (And.right (And.right (by assumption))) | exact And.right (And.right (And.right (And.right (by assumption)))) | exact And.right (And.right (And.right (And.right (And.right (by assumption))))) | exact And.right (And.right (And.right (And.right (And.right (And.right (by assumption)))))) | exact And.right (And.right (And.right (And.right (And.right (And.right (And.right (by assumption))))))))) | fail
  k_with "my call type:tuple" => first | ((k_here; (with_reducible show wpAny _ _ (call (Value.type _) [Value.ref _]) _ _ _); k_dflt (refine' kde_tupleOf ?zk1 ?zk2 ?zk3 ?zk4 ?zk5 ?_; (case zk1 => k_asm); (case zk2 => k_asm); (case zk3 => exact News.isList (by k_asm) (by k_mem)); (case zk4 => exact sz_ints (by assumption) (by omega)); (case zk5 => rfl); k_whole); intro zD' zh' zF' zN' zl1; (try k_lt zl1); (try k_sweep))) | fail
  k_with "my call ref" => first | ((plain_pass; k_here; (refine wpAny_call ?_); k_dflt (refine' code_def ?zk1 ?zk2 ?zk3 ?zk4 ?zk5 ?zkA ?zkF ?zkK ?zk6 ?zk7 ?zk8 ?zk9 ?zkB ?_ ?zc2 ?zc3 ?zc4 ?zc5; (case zkA => exact rfl); (case zkF => exact rfl); (case zkK => first | exact rfl | assumption); (case zk1 => k_asm); (case zk2 => k_asm); (case zk3 => k_asm); (case zk4 => k_asm); (case zk5 => k_asm); (case zk6 => k_is); (case zk7 => k_is); (case zk8 => ktr_room); (case zk9 => exact BindsTo.of_eq rfl); (case zc5 => decide); (case zkB => exact locs rfl); (case zc2 => exact rfl); (case zc3 => exact rfl); (case zc4 => exact rfl); k_whole; intro zg' zL' zh' zFG' zF' zN' zB' zX' zT'; (try dsimp only); (try k_lift zB'); (try k_fold)))) | fail
  k_with "my call type:range" => first | (((rename Fr _ _ _ _ => zF'); (rename News _ _ _ _ => zN'); first | (with_unfolding_all refine range1_rows zF' zN' ?_; intro _ _ _ _ _ _ _ _ _) | (with_unfolding_all refine range2_rows zF' zN' ?_; intro _ _ _ _ _ _ _ _ _))) | fail
  k_with "my eval ListComp" => first | ((k_here; k_dflt (refine LCg.ListComp_U (F₀ := by k_asm) (by with_unfolding_all rfl) (by decide) (by rfl) (by decide) (by rfl) ?_))) | fail
  k_with "my exec Assign cons ListComp" => first | ((k_here; k_dflt (refine LCg.Assign_ListComp_U (F₀ := by k_asm) (by rfl) (by with_unfolding_all rfl) (by with_unfolding_all rfl) (by decide) (by rfl) (by decide) (by rfl) (by rfl) (by rfl) ?_))) | fail
  k_with "my CompSrc" => first | (refine halt_of ?_) | fail
  k_with "my call ref" => first | (((with_reducible show wpAny _ _ (PySem.call (Value.ref 28) _ _) _ _ _); k_dflt (refine' sub_spec _ _ _ _ _ ?zp0 ?zp1 _ _ _ _ _ _ _ _ _ _ _ _ _ _ _ _ _ ?zq1 ?zq2 ?zq3 ?zq4 ?zq5 ?zq6 ?zq7 ?zq8 ?_); (case zp0 => assumption); (case zp1 => assumption); (case zq1 => k_asm); (case zq2 => k_asm); (case zq3 => k_asm); (case zq4 => k_asm); (case zq5 => k_asm); (case zq6 => first | exact rfl | assumption); (case zq7 => ktr_room); (case zq8 => ktr_units); rintro zv' zown' zh' ztk' ⟨⟨zt', ze1⟩, ze2⟩ zF' zN'; subst ze1; subst ze2; (try simp only [List.nil_append] at zN'); (try dsimp only); (try k_fold))) | fail
  k_with "my call ref" => first | (((with_reducible show wpAny _ _ (PySem.call (Value.ref 153) _ _) _ _ _); k_dflt (refine' ws_call _ _ _ _ ?zp0 ?zp1 _ _ _ _ _ _ _ _ _ _ _ _ _ _ _ _ _ ?zq1 ?zq2 ?zq3 ?zq4 ?zq5 ?zq6 ?zq7 ?zq8 ?_); (case zp0 => assumption); (case zp1 => first | omega | (simp only [List.length_drop, List.length_take]; omega)); (case zq1 => k_asm); (case zq2 => k_asm); (case zq3 => k_asm); (case zq4 => k_asm); (case zq5 => k_asm); (case zq6 => first | exact rfl | assumption); (case zq7 => ktr_room); (case zq8 => ktr_units); rintro zv' zown' zh' ztk' ⟨zx', zd', zT1', zT2', zvs', zk1', zk2', zk3', zk4', zk5', zt2', zt3', zt4', ze1, zhI', zl1', zl2', zl3', zl4', ze2⟩ zF' zN'; subst ze1; subst ze2; (try simp only [List.cons_append, List.nil_append] at zN'); (try dsimp only [wsD, tupO] at zN'); (try k_lt zl1'); (try simp only [List.nil_append] at zN'); (try dsimp only); (try k_fold))) | fail
  k_with "my call ref" => first | (((with_reducible show wpAny _ _ (PySem.call (Value.ref 169) _ _) _ _ _); k_dflt (refine' height_spec _ _ _ ?zp0 ?zp1 _ _ _ _ _ _ _ _ _ _ _ _ _ _ _ _ _ ?zq1 ?zq2 ?zq3 ?zq4 ?zq5 ?zq6 ?zq7 ?zq8 ?_); (case zp0 => first | omega | (simp only [List.length_append]; omega)); (case zp1 => first | omega | (simp only [List.length_append]; omega)); (case zq1 => k_asm); (case zq2 => k_asm); (case zq3 => k_asm); (case zq4 => k_asm); (case zq5 => k_asm); (case zq6 => first | exact rfl | assumption); (case zq7 => ktr_room); (case zq8 => ktr_units); rintro zv' zown' zh' ztk' ⟨⟨zt', ze1⟩, ze2⟩ zF' zN'; subst ze1; subst ze2; (try simp only [List.nil_append] at zN'); (try dsimp only); (try k_fold))) | fail
  k_with "my call ref" => first | (((with_reducible show wpAny _ _ (PySem.call (Value.ref 35) _ _) _ _ _); k_dflt (refine' lev_any _ _ _ _ _ _ _ _ ?zp0 ?zp1 ?zp2 ?zp3 ?zp4 ?zp5 ?zp6 ?zp7 _ _ _ _ _ _ _ _ _ _ _ _ _ _ _ _ _ ?zq1 ?zq2 ?zq3 ?zq4 ?zq5 ?zq6 ?zq7 ?zq8 ?_); (case zp0 => assumption); (case zp1 => assumption); (case zp2 => assumption); (case zp3 => assumption); (case zp4 => omega); (case zp5 => omega); (case zp6 => omega); (case zp7 => omega); (case zq1 => k_asm); (case zq2 => k_asm); (case zq3 => k_asm); (case zq4 => k_asm); (case zq5 => k_asm); (case zq6 => first | exact rfl | assumption); (case zq7 => ktr_room); (case zq8 => ktr_units); rintro zv' zown' zh' ztk' ⟨⟨zt', ze1⟩, ze2⟩ zF' zN'; subst ze1; subst ze2; (try simp only [List.nil_append] at zN'); (try dsimp only); (try k_fold))) | fail
  k_with "my call ref" => first | ((plain_pass; (with_reducible show wpAny _ _ (PySem.call (Value.ref 162) _ _) _ _ _); refine halt_of ?_)) | fail
  k_with "my lt" => first | assumption | exact And.left (by assumption) | exact And.left (And.right (by assumption)) | exact And.right (by assumption) | exact And.left (And.right (And.right (by assumption))) | exact And.right (And.right (by assumption)) | exact And.left (And.right (And.right (And.right (by assumption)))) | exact And.right (And.right (And.right (by assumption))) | exact And.left (And.right (And.right (And.right (And.right (by assumption))))) | exact And.right (And.right (And.right (And.right (by assumption)))) | exact And.left (And.right (And.right (And.right (And.right (And.right (by assumption)))))) | exact And.right (And.right (And.right (And.right (And.right (by assumption))))) | exact And.left (And.right (And.right (And.right (And.right (And.right (And.right (by assumption))))))) | exact And.right (And.right (And.right (And.right (And.right (And.right (by assumption)))))) | exact And.left (And.right (And.right (And.right (And.right (And.right (And.right (And.right (by assumption)))))))) | exact And.right (And.right (And.right (And.right (And.right (And.right (And.right (by assumption))))))) | exact And.left (And.right (And.right (And.right (And.right (And.right (And.right (And.right (And.right (by assumption))))))))) | exact And.right (And.right (And.right (And.right (And.right (And.right (And.right (And.right (by assumption)))))))) | fail
  k_with "my succ" => first | (first | exact Nat.lt_succ_self _ | exact Nat.lt_succ_of_lt (Nat.lt_succ_self _) | exact Nat.lt_succ_of_lt (Nat.lt_succ_of_lt (Nat.lt_succ_self _)) | exact Nat.lt_succ_of_lt (Nat.lt_succ_of_lt (Nat.lt_succ_of_lt (Nat.lt_succ_self _)))) | fail
  k_with "my omega" => with_reducible (first | assumption | decide | exact room0 (by assumption) | exact room1 (by assumption) rfl | exact room2 (by assumption) rfl | exact idx_nn _ | exact idx_ge _ _ | exact idx_lo _ | exact idx_lo' _ | exact idx_to _ | exact idx_one _ | exact idx_lt (by assumption) | exact idx_lt (lt_of_eq' (by assumption) (by assumption)) | exact idx_hi (by assumption) rfl | exact idx_hi2 (by assumption) (by assumption) rfl | exact nn_neg _ _ | exact Int.natCast_nonneg _ | exact cast_hi (by assumption) rfl | exact cast_hi2 (by assumption) (by assumption) rfl | exact cast_hi3 (by assumption) (by assumption) rfl | exact ng_lt _ _ | exact ng_hi _ | exact ng_ge (by assumption) | exact ng_lo (by assumption) rfl | exact ng_lo0 (by assumption) | exact ng_neg (by assumption) | exact ng_ne (by assumption) | exact cast_ne (by assumption) | exact cast_ne' (by assumption) (by assumption) | exact not_big (by assumption) (by assumption) rfl | exact slc_lt (by assumption) (by assumption) | exact slc_hi (by assumption) (by assumption) (by assumption) rfl | exact ix_pos (by assumption) | exact ix_ne (by assumption) | exact ix_add (by assumption) | exact le_add' _ _ | exact imp_ne (by assumption) (by assumption) | exact Nat.lt_succ_self _ | exact Nat.le_succ_of_le (by assumption) | exact le_big (by assumption) rfl | exact le_big' (by assumption) (by assumption) rfl | exact pos_of (by assumption) (by assumption) | exact lt_of_eq' (by assumption) (by assumption) | exact int_pos (by assumption) | exact eq_of (by assumption) (by assumption) | exact Ne.symm (by assumption) | (refine Nat.ne_of_gt ?_; k_extra "my lt") | (refine Nat.ne_of_lt ?_; k_extra "my lt") | (refine Nat.ne_of_gt ?_; k_extra "my succ") | (refine Nat.ne_of_lt ?_; k_extra "my succ") | exact Int.le_trans (by assumption) (by decide) | exact Int.lt_of_le_of_lt (by assumption) (by decide) | exact Int.lt_of_lt_of_le (by decide) (by assumption) | exact Nat.le_trans (Nat.le_of_lt (by assumption)) (Nat.le_of_ble_eq_true rfl) | exact Int.ofNat_le.mpr (Nat.le_trans (by assumption) (Nat.le_of_ble_eq_true rfl)) | fail)
  trivial
noncomputable def tripD (x : Int × Int × Int) : PyData := .tuple [.int x.1, .int x.2.1, .int x.2.2]
theorem trips_lay : ∀ xs : List (Int × Int × Int), PyData.canLayAll0 (xs.map tripD) = true
  | [] => by simp [PyData.canLayAll0]
  | x :: xs => by simp [PyData.canLayAll0, PyData.canLay0, tripD, trips_lay xs]
theorem trips_depth : ∀ xs : List (Int × Int × Int), PyData.depthAll (xs.map tripD) ≤ 10
  | [] => by simp [PyData.depthAll]
  | x :: xs => by
    have := trips_depth xs
    simp only [List.map_cons, PyData.depthAll, tripD, PyData.depth]
    omega
theorem trips_reads {h₀ h : Heap} {L : Addr} {news n₁ : List (Addr × Obj)} (N : News h₀ L h news) {vs : List Value} {xs : List (Int × Int × Int)} (hT : TripsAre n₁ vs xs) (sub : ∀ p ∈ n₁, p ∈ news) : ∃ as, ReadsAll h vs (xs.map tripD) as := by
  induction hT with
  | nil => exact ⟨_, .nil⟩
  | cons T a b c t1 t2 t3 vs xs hm _ ih =>
    obtain ⟨as, ih⟩ := ih
    exact ⟨_, .cons (reads_tuple_at (N.get (sub _ hm)) rfl rfl (.cons (.int _ _) (.cons (.int _ _) (.cons (.int _ _) .nil)))) ih⟩
theorem trips_eq {prog : Program} {w : World} {A : Around} {E : Value → Shared → Prop} {s : Shared} {h₀ : Heap} {L a b : Addr} {news n₁ n₂ : List (Addr × Obj)} {vs us : List Value} {xs : List (Int × Int × Int)} {k k' : Nat} {Q : Value → Shared → Prop}
    (N : News h₀ L s.heap news) (ma : (a, listOf vs.toArray k) ∈ news) (mb : (b, listOf us.toArray k') ∈ news) (ha : TripsAre n₁ vs xs) (sa : ∀ p ∈ n₁, p ∈ news) (hb : TripsAre n₂ us xs) (sb : ∀ p ∈ n₂, p ∈ news)
    (hu : A.units + 64 < cLine) (h : Q (.bool true) s) : wpAny (model prog w) A (compareOp .Eq (.ref a) (.ref b)) Q E s := by
  obtain ⟨as, ra⟩ := trips_reads N ha sa
  obtain ⟨bs, rb⟩ := trips_reads N hb sb
  have hc : PyData.canLay0 (.list (xs.map tripD)) = true := by simp [PyData.canLay0, trips_lay]
  have hs : PySem.SeqAt.shaped (.list (xs.map tripD)) = true := by
    have hd : PyData.depth (.list (xs.map tripD)) ≤ 64 := by
      have := trips_depth xs
      simp only [PyData.depth]
      omega
    show (PyData.canLay0 _ && decide _) = true
    rw [Bool.and_eq_true]
    exact ⟨hc, decide_eq_true hd⟩
  refine eq_dataH (reads_list_at (N.get ma) rfl rfl (by simpa using ra)) (reads_list_at (N.get mb) rfl rfl (by simpa using rb)) hs hs hu ?_
  have e := PySem.SeqAt.eqv_refl _ hc
  rw [e]
  exact h
end
-- part 12_law
section
example : True := by
  k_with_none
  k_with "my exec For Name Call cons nil" => first | ((k_here; (rename Fr _ _ _ _ => zlF'); (with_unfolding_all refine' For_invVF zlF' ?zk1 ?zk2 ?_; (case zk1 => exact rfl); (case zk2 => exact rfl); k_whole))) | fail
  k_with "my exec For Name Name cons nil" => first | ((k_here; (rename Fr _ _ _ _ => zlF'); (with_unfolding_all refine' For_invVF zlF' ?zk1 ?zk2 ?_; (case zk1 => exact rfl); (case zk2 => exact rfl); k_whole))) | fail
  k_with "my exec For Name Attribute cons nil" => first | ((k_here; (rename Fr _ _ _ _ => zlF'); (with_unfolding_all refine' For_invVF zlF' ?zk1 ?zk2 ?_; (case zk1 => exact rfl); (case zk2 => exact rfl); k_whole))) | fail
  k_with "my exec For Name Subscript cons nil" => first | ((k_here; (rename Fr _ _ _ _ => zlF'); (with_unfolding_all refine' For_invVF zlF' ?zk1 ?zk2 ?_; (case zk1 => exact rfl); (case zk2 => exact rfl); k_whole))) | fail
  k_with "my pyIter ref" => first | (((with_reducible show wpAny _ _ (pyIter (Value.ref _)) (fun it s₂ => LoopAtV _ _ _ _ _ _ _ _ _ it s₂) _ _); refine halt_of ?_)) | fail
  k_with "my pyIter str" => first | (((with_reducible show wpAny _ _ (pyIter (Value.str _ _)) (fun it s₂ => LoopAtV _ _ _ _ _ _ _ _ _ it s₂) _ _); refine halt_of ?_)) | fail
  k_with "my exec While BoolOp cons nil" => first | (refine halt_of ?_) | fail
  k_with "my exec While Compare cons nil" => first | (refine halt_of ?_) | fail
  k_with "my subscriptTail Name Slice str ref" => first | (((with_reducible show wpAny _ _ (subscriptTail _ (Expr.Slice none (some _) none _) _ _) _ _ _); (with_reducible rename Fr _ _ _ _ => zF'); (with_reducible rename News _ _ _ _ => zN'); (refine slice_strN_nn_len (hsz := ?zhsz) (s := ⟨_, _, _, _, _⟩) zF' zN' ?_); (case zhsz => size_fits); intro _ _ _ _ _ _)) | fail
  k_with "my ite" => first | (first | ((with_reducible show ite ((_ != (0 : Int)) = true) _ _); k_dflt (first | refine ite_bne_t (by omega) ?_ | refine ite_bne_f (by omega) ?_)) | ((with_reducible show ite ((!(_ != (0 : Int))) = true) _ _); k_dflt (first | refine ite_nbne_t (by omega) ?_ | refine ite_nbne_f (by omega) ?_)) | ((with_reducible show ite (decide _ = true) _ _); k_dflt (first | refine ite_dec_t (by omega) ?_ | refine ite_dec_f (by omega) ?_))) | fail
  k_with "my call type:list" => first | (((with_reducible show wpAny _ _ (call (Value.type _) [Value.ref _]) _ _ _); refine halt_of ?_)) | fail
  k_with "my setItem ref int" => first | ((k_here; (with_reducible show wpAny _ _ (setItem (Value.ref _) (Value.int _ _) (Value.int _ _)) _ _ _); k_dflt (refine' ksa_set ?zk1 ?zk2 ?zk3 ?zk4 ?zk5 ?zk6 ?zk7 ?_; (case zk1 => k_asm); (case zk2 => k_asm); (case zk3 => (repeat (first | exact Upd.head (by assumption) | refine Upd.tail (by assumption) ?_))); (case zk4 => with_reducible assumption); (case zk5 => ksa_idx); (case zk6 => ksa_idx); (case zk7 => ksa_idx); k_whole); intro zh' zF' zN' zhi' zhl' zhs'; (try k_sweep))) | fail
  k_with "my k_all" => first | (first | assumption | exact lt_ne (by assumption) | exact allLt_ne (by first | assumption | exact And.right (by assumption) | exact And.right (And.right (by assumption)) | exact And.right (And.right (And.right (by assumption))) | exact And.right (And.right (And.right (And.right (by assumption)))) | exact And.right (And.right (And.right (And.right (And.right (by assumption))))) | exact And.right (And.right (And.right (And.right (And.right (And.right (by assumption)))))) | exact And.right (And.right (And.right (And.right (And.right (And.right (And.right (by assumption))))))))) | fail
  k_with "my call type:tuple" => first | ((k_here; (with_reducible show wpAny _ _ (call (Value.type _) [Value.ref _]) _ _ _); k_dflt (refine' kde_tupleOf ?zk1 ?zk2 ?zk3 ?zk4 ?zk5 ?_; (case zk1 => k_asm); (case zk2 => k_asm); (case zk3 => exact News.isList (by k_asm) (by k_mem)); (case zk4 => exact sz_ints (by assumption) (by omega)); (case zk5 => rfl); k_whole); intro zD' zh' zF' zN' zl1; (try k_lt zl1); (try k_sweep))) | fail
  k_with "my call ref" => first | ((plain_pass; k_here; (refine wpAny_call ?_); k_dflt (refine' code_def ?zk1 ?zk2 ?zk3 ?zk4 ?zk5 ?zkA ?zkF ?zkK ?zk6 ?zk7 ?zk8 ?zk9 ?zkB ?_ ?zc2 ?zc3 ?zc4 ?zc5; (case zkA => exact rfl); (case zkF => exact rfl); (case zkK => first | exact rfl | assumption); (case zk1 => k_asm); (case zk2 => k_asm); (case zk3 => k_asm); (case zk4 => k_asm); (case zk5 => k_asm); (case zk6 => k_is); (case zk7 => k_is); (case zk8 => ktr_room); (case zk9 => exact BindsTo.of_eq rfl); (case zc5 => decide); (case zkB => exact locs rfl); (case zc2 => exact rfl); (case zc3 => exact rfl); (case zc4 => exact rfl); k_whole; intro zg' zL' zh' zFG' zF' zN' zB' zX' zT'; (try dsimp only); (try k_lift zB'); (try k_fold)))) | fail
  k_with "my call type:range" => first | (((rename Fr _ _ _ _ => zF'); (rename News _ _ _ _ => zN'); first | (with_unfolding_all refine range1_rows zF' zN' ?_; intro _ _ _ _ _ _ _ _ _) | (with_unfolding_all refine range2_rows zF' zN' ?_; intro _ _ _ _ _ _ _ _ _))) | fail
  k_with "my eval ListComp" => first | ((k_here; k_dflt (refine LCg.ListComp_U (F₀ := by k_asm) (by with_unfolding_all rfl) (by decide) (by rfl) (by decide) (by rfl) ?_))) | fail
  k_with "my exec Assign cons ListComp" => first | ((k_here; k_dflt (refine LCg.Assign_ListComp_U (F₀ := by k_asm) (by rfl) (by with_unfolding_all rfl) (by with_unfolding_all rfl) (by decide) (by rfl) (by decide) (by rfl) (by rfl) (by rfl) ?_))) | fail
  k_with "my CompSrc" => first | (refine halt_of ?_) | fail
  k_with "my call ref" => first | (((with_reducible show wpAny _ _ (PySem.call (Value.ref 28) _ _) _ _ _); k_dflt (refine' sub_spec _ _ _ _ _ ?zp0 ?zp1 _ _ _ _ _ _ _ _ _ _ _ _ _ _ _ _ _ ?zq1 ?zq2 ?zq3 ?zq4 ?zq5 ?zq6 ?zq7 ?zq8 ?_); (case zp0 => assumption); (case zp1 => assumption); (case zq1 => k_asm); (case zq2 => k_asm); (case zq3 => k_asm); (case zq4 => k_asm); (case zq5 => k_asm); (case zq6 => first | exact rfl | assumption); (case zq7 => ktr_room); (case zq8 => ktr_units); rintro zv' zown' zh' ztk' ⟨⟨zt', ze1⟩, ze2⟩ zF' zN'; subst ze1; subst ze2; (try simp only [List.nil_append] at zN'); (try dsimp only); (try k_fold))) | fail
  k_with "my call ref" => first | (((with_reducible show wpAny _ _ (PySem.call (Value.ref 153) _ _) _ _ _); k_dflt (refine' ws_call _ _ _ _ ?zp0 ?zp1 _ _ _ _ _ _ _ _ _ _ _ _ _ _ _ _ _ ?zq1 ?zq2 ?zq3 ?zq4 ?zq5 ?zq6 ?zq7 ?zq8 ?_); (case zp0 => assumption); (case zp1 => first | omega | (simp only [List.length_drop, List.length_take]; omega)); (case zq1 => k_asm); (case zq2 => k_asm); (case zq3 => k_asm); (case zq4 => k_asm); (case zq5 => k_asm); (case zq6 => first | exact rfl | assumption); (case zq7 => ktr_room); (case zq8 => ktr_units); rintro zv' zown' zh' ztk' ⟨zx', zd', zT1', zT2', zvs', zk1', zk2', zk3', zk4', zk5', zt2', zt3', zt4', ze1, zhI', zl1', zl2', zl3', zl4', ze2⟩ zF' zN'; subst ze1; subst ze2; (try simp only [List.cons_append, List.nil_append] at zN'); (try dsimp only [wsD, tupO] at zN'); (try k_lt zl1'); (try simp only [List.nil_append] at zN'); (try dsimp only); (try k_fold))) | fail
  k_with "my call ref" => first | (((with_reducible show wpAny _ _ (PySem.call (Value.ref 169) _ _) _ _ _); k_dflt (refine' height_spec _ _ _ ?zp0 ?zp1 _ _ _ _ _ _ _ _ _ _ _ _ _ _ _ _ _ ?zq1 ?zq2 ?zq3 ?zq4 ?zq5 ?zq6 ?zq7 ?zq8 ?_); (case zp0 => first | omega | (simp only [List.length_append]; omega)); (case zp1 => first | omega | (simp only [List.length_append]; omega)); (case zq1 => k_asm); (case zq2 => k_asm); (case zq3 => k_asm); (case zq4 => k_asm); (case zq5 => k_asm); (case zq6 => first | exact rfl | assumption); (case zq7 => ktr_room); (case zq8 => ktr_units); rintro zv' zown' zh' ztk' ⟨⟨zt', ze1⟩, ze2⟩ zF' zN'; subst ze1; subst ze2; (try simp only [List.nil_append] at zN'); (try dsimp only); (try k_fold))) | fail
  k_with "my call ref" => first | (((with_reducible show wpAny _ _ (PySem.call (Value.ref 35) _ _) _ _ _); k_dflt (refine' lev_any _ _ _ _ _ _ _ _ ?zp0 ?zp1 ?zp2 ?zp3 ?zp4 ?zp5 ?zp6 ?zp7 _ _ _ _ _ _ _ _ _ _ _ _ _ _ _ _ _ ?zq1 ?zq2 ?zq3 ?zq4 ?zq5 ?zq6 ?zq7 ?zq8 ?_); (case zp0 => assumption); (case zp1 => assumption); (case zp2 => assumption); (case zp3 => assumption); (case zp4 => omega); (case zp5 => omega); (case zp6 => omega); (case zp7 => omega); (case zq1 => k_asm); (case zq2 => k_asm); (case zq3 => k_asm); (case zq4 => k_asm); (case zq5 => k_asm); (case zq6 => first | exact rfl | assumption); (case zq7 => ktr_room); (case zq8 => ktr_units); rintro zv' zown' zh' ztk' ⟨⟨zt', ze1⟩, ze2⟩ zF' zN'; subst ze1; subst ze2; (try simp only [List.nil_append] at zN'); (try dsimp only); (try k_fold))) | fail
  k_with "my call ref" => first | ((plain_pass; (with_reducible show wpAny _ _ (PySem.call (Value.ref 162) _ _) _ _ _); refine halt_of ?_)) | fail
  k_with "my lt" => first | assumption | exact And.left (by assumption) | exact And.left (And.right (by assumption)) | exact And.right (by assumption) | exact And.left (And.right (And.right (by assumption))) | exact And.right (And.right (by assumption)) | exact And.left (And.right (And.right (And.right (by assumption)))) | exact And.right (And.right (And.right (by assumption))) | exact And.left (And.right (And.right (And.right (And.right (by assumption))))) | exact And.right (And.right (And.right (And.right (by assumption)))) | exact And.left (And.right (And.right (And.right (And.right (And.right (by assumption)))))) | exact And.right (And.right (And.right (And.right (And.right (by assumption))))) | exact And.left (And.right (And.right (And.right (And.right (And.right (And.right (by assumption))))))) | exact And.right (And.right (And.right (And.right (And.right (And.right (by assumption)))))) | exact And.left (And.right (And.right (And.right (And.right (And.right (And.right (And.right (by assumption)))))))) | exact And.right (And.right (And.right (And.right (And.right (And.right (And.right (by assumption))))))) | exact And.left (And.right (And.right (And.right (And.right (And.right (And.right (And.right (And.right (by assumption))))))))) | exact And.right (And.right (And.right (And.right (And.right (And.right (And.right (And.right (by assumption)))))))) | fail
  k_with "my succ" => first | (first | exact Nat.lt_succ_self _ | exact Nat.lt_succ_of_lt (Nat.lt_succ_self _) | exact Nat.lt_succ_of_lt (Nat.lt_succ_of_lt (Nat.lt_succ_self _)) | exact Nat.lt_succ_of_lt (Nat.lt_succ_of_lt (Nat.lt_succ_of_lt (Nat.lt_succ_self _)))) | fail
  k_with "my omega" => with_reducible (first | assumption | decide | exact room0 (by assumption) | exact room1 (by assumption) rfl | exact room2 (by assumption) rfl | exact idx_nn _ | exact idx_ge _ _ | exact idx_lo _ | exact idx_lo' _ | exact idx_to _ | exact idx_one _ | exact idx_lt (by assumption) | exact idx_lt (lt_of_eq' (by assumption) (by assumption)) | exact idx_hi (by assumption) rfl | exact idx_hi2 (by assumption) (by assumption) rfl | exact nn_neg _ _ | exact Int.natCast_nonneg _ | exact cast_hi (by assumption) rfl | exact cast_hi2 (by assumption) (by assumption) rfl | exact cast_hi3 (by assumption) (by assumption) rfl | exact ng_lt _ _ | exact ng_hi _ | exact ng_ge (by assumption) | exact ng_lo (by assumption) rfl | exact ng_lo0 (by assumption) | exact ng_neg (by assumption) | exact ng_ne (by assumption) | exact cast_ne (by assumption) | exact cast_ne' (by assumption) (by assumption) | exact not_big (by assumption) (by assumption) rfl | exact slc_lt (by assumption) (by assumption) | exact slc_hi (by assumption) (by assumption) (by assumption) rfl | exact ix_pos (by assumption) | exact ix_ne (by assumption) | exact ix_add (by assumption) | exact le_add' _ _ | exact imp_ne (by assumption) (by assumption) | exact Nat.lt_succ_self _ | exact Nat.le_succ_of_le (by assumption) | exact le_big (by assumption) rfl | exact le_big' (by assumption) (by assumption) rfl | exact pos_of (by assumption) (by assumption) | exact lt_of_eq' (by assumption) (by assumption) | exact int_pos (by assumption) | exact eq_of (by assumption) (by assumption) | exact Ne.symm (by assumption) | (refine Nat.ne_of_gt ?_; k_extra "my lt") | (refine Nat.ne_of_lt ?_; k_extra "my lt") | (refine Nat.ne_of_gt ?_; k_extra "my succ") | (refine Nat.ne_of_lt ?_; k_extra "my succ") | exact Int.le_trans (by assumption) (by decide) | exact Int.lt_of_le_of_lt (by assumption) (by decide) | exact Int.lt_of_lt_of_le (by decide) (by assumption) | exact Nat.le_trans (Nat.le_of_lt (by assumption)) (Nat.le_of_ble_eq_true rfl) | exact Int.ofNat_le.mpr (Nat.le_trans (by assumption) (Nat.le_of_ble_eq_true rfl)) | fail)
  trivial
theorem join_ones' : ∀ cs : List Nat, Txt.join (Str.ofString "") (cs.map fun c => mkS [c]) = mkS cs := by
  intro cs
  show Builtin.Str.glued (Str.ofString "") _ = _
  rw [StrLaws.glued_eq_join]
  have z : Str.ofString "" = mkS [] := by decide +kernel
  rw [z]
  induction cs with
  | nil => decide +kernel
  | cons c cs ih =>
    cases cs with
    | nil => rfl
    | cons d cs =>
      rw [List.map_cons, List.map_cons] at *
      have e : Str.join (mkS []) (mkS [c] :: mkS [d] :: List.map (fun c => mkS [c]) cs) = mkS [c] ++ mkS [] ++ Str.join (mkS []) (mkS [d] :: List.map (fun c => mkS [c]) cs) := rfl
      rw [e, ih, mkS_append, mkS_append]
      rfl
theorem sum_ones : ∀ cs : List Nat, ((cs.map fun c => mkS [c]).map (·.length)).sum = cs.length
  | [] => rfl
  | c :: cs => by
    rw [List.map_cons, List.map_cons, List.sum_cons, sum_ones cs, mkS_length, List.length_cons]
    simp; omega
theorem join_signs' {prog : Program} {w : World} {A : Around} {E : Value → Shared → Prop} {s : Shared} {h₀ : Heap} {L : Addr} {news : List (Addr × Obj)} {t : Tok} {Q : Value → Shared → Prop} {D : Addr} {ys : List Value} {k : Nat} {cs : List Nat}
    (N : News h₀ L s.heap news) (hm : (D, listOf ys.toArray k) ∈ news) (hS : StrsAre ys (cs.map fun c => mkS [c])) (hlen : cs.length ≤ 100)
    (h : ∀ t' k, Q (.str (mkS cs) t') { s with toks := k }) : wpAny (model prog w) A (call (.builtin "str.join") [.str (Str.ofString "") t, .ref D]) Q E s := by
  refine join_list (News.isList N hm) (ys := cs.map fun c => mkS [c]) hS ?_ ?_
  · rw [sum_ones, List.length_map]
    have z : (Str.ofString "").length = 0 := by decide
    rw [z]; omega
  · intro t' k
    rw [join_ones']
    exact h t' k
theorem join_pos {prog : Program} {w : World} {A : Around} {E : Value → Shared → Prop} {s : Shared} {h₀ : Heap} {L : Addr} {news : List (Addr × Obj)} {t : Tok} {Q : Value → Shared → Prop} {D : Addr} {ys : List Value} {k : Nat} {cs : List Nat}
    (hk : @LE.le Nat _ 1 s.toks) (N : News h₀ L s.heap news) (hm : (D, listOf ys.toArray k) ∈ news) (hS : StrsAre ys (cs.map fun c => mkS [c])) (hlen : cs.length ≤ 100)
    (h : ∀ t' k, @LE.le Nat _ 1 k → Q (.str (mkS cs) t') { s with toks := k }) : wpAny (model prog w) A (call (.builtin "str.join") [.str (Str.ofString "") t, .ref D]) Q E s :=
  wpAny_with_toks hk (join_signs' N hm hS hlen fun t' k hk' => h t' k hk')
theorem add_tail {prog : Program} {w : World} {A : Around} {E : Value → Shared → Prop} {s : Shared} {t u : Tok} {Q : Value → Shared → Prop} {cs : List Nat}
    (hk : @LE.le Nat _ 1 s.toks) (hlen : cs.length ≤ 100) (h : ∀ t' k, @LE.le Nat _ 1 k → Q (.str (mkS (120 :: cs)) t') { s with toks := k }) : wpAny (model prog w) A (binaryOp .Add (.str (Str.ofString "x") t) (.str (mkS cs) u)) Q E s := by
  have e : Str.ofString "x" = mkS [120] := by decide +kernel
  refine wpAny_with_toks hk (SBL.add (hsz := by rw [mkS_length, e, mkS_length, sizeLine_eq]; simp; omega) fun t' k _ hk' => ?_)
  rw [e, mkS_append]
  exact h t' k hk'
theorem listcomp_pos {α : Type} {M : Model} {A : Around} {T : Sem α} {Q : α → Shared → Prop} {E : Value → Shared → Prop} {h g d o} {k : Nat} (H : wpAny M A T (fun a s' => @LE.le Nat _ 1 s'.toks → Q a s') (fun e s' => @LE.le Nat _ 1 s'.toks → E e s') { heap := h, gens := g, drawn := d, toks := k + 1, os := o }) :
    wpAny M A T Q E { heap := h, gens := g, drawn := d, toks := k + 1, os := o } := wpAny_with_toks (Nat.le_add_left 1 k) H
theorem strs_of_ones {cs : List Nat} {ys : List Value} (hl : ys.length = cs.length) (h : ∀ i y, ys[i]? = some y → ∃ t, y = Value.str (mkS [cs.getD i 0]) t) : StrsAre ys (cs.map fun c => mkS [c]) := by
  refine strs_of_get (by rw [hl, List.length_map]) fun i y hy => ?_
  obtain ⟨t, rfl⟩ := h i y hy
  have hi : i < cs.length := by rw [← hl]; exact (List.getElem?_eq_some_iff.mp hy).1
  refine ⟨_, t, ?_, rfl⟩
  simp [List.getD, hi]
theorem signs_of {Pc : Nat → Prop} : ∀ {ys : List Value}, (∀ (i : Nat) (y : Value), ys[i]? = some y → ∃ (c : Nat) (t : Tok), y = Value.str (mkS [c]) t ∧ Pc c) → ∃ cs : List Nat, cs.length = ys.length ∧ StrsAre ys (cs.map fun c => mkS [c]) ∧ ∀ c ∈ cs, Pc c
  | [], _ => ⟨[], rfl, .nil, by simp⟩
  | y :: ys, h => by
    obtain ⟨c, t, rfl, hc⟩ := h 0 y rfl
    obtain ⟨cs, h1, h2, h3⟩ := signs_of (ys := ys) fun i y' hy => h (i + 1) y' hy
    refine ⟨c :: cs, by simp [h1], .cons _ _ h2, ?_⟩
    intro d hd
    rcases List.mem_cons.mp hd with rfl | hd
    · exact hc
    · exact h3 d hd
example : True := by
  k_with "my call builtin:str.join" => first | ((k_here; (with_reducible show wpAny _ _ (call (Value.builtin _) [Value.str _ _, Value.ref _]) _ _ _); k_dflt (refine' join_signs' ?zN ?zM ?zS ?zL ?_; (case zN => k_asm); (case zS => assumption); (case zM => k_mem); (case zL => first | omega | (simp only [List.length_map, List.length_range, List.length_drop, List.length_take]; omega))); intro _ _)) | fail
  trivial
noncomputable def leadSign (tot : Int) (i : Nat) : Nat := if Int.fmod (Int.fdiv tot (2 ^ i)) 2 = 1 then 9 else 32
theorem item4 (x : Int) : ∃ c, Txt.item (Str.ofString " \txX") (x.fmod 4) = mkS [c] ∧ (c = 32 ∨ c = 9 ∨ c = 120 ∨ c = 88) := by
  have h1 : 0 ≤ x.fmod 4 := Int.fmod_nonneg_of_pos x (by decide)
  have h2 : x.fmod 4 < 4 := Int.fmod_lt_of_pos x (by decide)
  have e : Str.ofString " \txX" = mkS [32, 9, 120, 88] := by decide +kernel
  rw [e]
  obtain h | h | h | h : x.fmod 4 = 0 ∨ x.fmod 4 = 1 ∨ x.fmod 4 = 2 ∨ x.fmod 4 = 3 := by omega
  all_goals rw [h]
  · exact ⟨32, by decide +kernel, by decide⟩
  · exact ⟨9, by decide +kernel, by decide⟩
  · exact ⟨120, by decide +kernel, by decide⟩
  · exact ⟨88, by decide +kernel, by decide⟩
theorem gen_pos {prog : Program} {w : World} {A : Around} {α : Type} {T : Sem α} {Q : α → Shared → Prop} {E : Value → Shared → Prop} {h : Heap} {g d o} {k : Nat} (H : ∀ n, @LE.le Nat _ 1 n → wpAny (model prog w) A T Q E { heap := h, gens := g, drawn := d, toks := n, os := o }) :
    wpAny (model prog w) A T Q E { heap := h, gens := g, drawn := d, toks := k + 1, os := o } := H _ (Nat.le_add_left 1 k)
theorem countS_call {w : World} {mean mg mb} (l : List Nat) (tl : Tok) (s : Str) (tc : Tok) (news) (e : s = mkS [9]) (hl : l.length ≤ 30) (hb : ∀ x ∈ l, x = 9 ∨ x = 32) (htc : @Ne Nat tc 0) :
   SpecT w mean mg mb 77 2 20 [Value.str (mkS l) tl, Value.str s tc] news (fun k => @LT.lt Nat _ tc k) (fun v own => (∃ t, v = .int (l.countP (· == 9) : Nat) t) ∧ own = []) := by
  subst e
  exact countS_spec l tl 9 tc news hl (fun x hx => by rcases hb x hx with h | h <;> omega) htc
example : True := by
  k_with "my storeName" => first | (((with_reducible show wpAny _ _ (storeName _ (Str.ofString "tail") _) _ _ _); refine halt_of ?_)) | fail
  k_with "my storeName" => first | (((with_reducible show wpAny _ _ (storeName _ (Str.ofString "ways") _) _ _ _); (rename Fr _ _ _ _ => zF'); (rename News _ _ _ _ => zN'); first | (with_unfolding_all refine stCNk (own := [_, _, _]) zF' zN' rfl (by assumption) (by repeat' (first | exact trivial | refine ⟨.inl (by (show @Ne Nat _ _); omega), ?_⟩ | refine ⟨.inr (fun _ hh => nomatch hh), ?_⟩)) (by repeat' (first | exact trivial | refine ⟨.inl (by (show @Ne Nat _ _); omega), ?_⟩ | refine ⟨.inr (fun _ hh => nomatch hh), ?_⟩)) ?_; intro _ _ _ zkN' _; (try simp only [List.cons_append, List.nil_append] at zkN')) | (with_unfolding_all refine stCNk (own := [_, _, _, _]) zF' zN' rfl (by assumption) (by repeat' (first | exact trivial | refine ⟨.inl (by (show @Ne Nat _ _); omega), ?_⟩ | refine ⟨.inr (fun _ hh => nomatch hh), ?_⟩)) (by repeat' (first | exact trivial | refine ⟨.inl (by (show @Ne Nat _ _); omega), ?_⟩ | refine ⟨.inr (fun _ hh => nomatch hh), ?_⟩)) ?_; intro _ _ _ zkN' _; (try simp only [List.cons_append, List.nil_append] at zkN')) | (with_unfolding_all refine stCNk (own := [_, _, _, _, _]) zF' zN' rfl (by assumption) (by repeat' (first | exact trivial | refine ⟨.inl (by (show @Ne Nat _ _); omega), ?_⟩ | refine ⟨.inr (fun _ hh => nomatch hh), ?_⟩)) (by repeat' (first | exact trivial | refine ⟨.inl (by (show @Ne Nat _ _); omega), ?_⟩ | refine ⟨.inr (fun _ hh => nomatch hh), ?_⟩)) ?_; intro _ _ _ zkN' _; (try simp only [List.cons_append, List.nil_append] at zkN')))) | fail
  k_with "my storeName" => first | (((with_reducible show wpAny _ _ (storeName _ (Str.ofString "plain") _) _ _ _); (rename Fr _ _ _ _ => zF'); (rename News _ _ _ _ => zN'); first | (with_unfolding_all refine stCNk (own := [_, _, _]) zF' zN' rfl (by assumption) (by repeat' (first | exact trivial | refine ⟨.inl (by (show @Ne Nat _ _); omega), ?_⟩ | refine ⟨.inr (fun _ hh => nomatch hh), ?_⟩)) (by repeat' (first | exact trivial | refine ⟨.inl (by (show @Ne Nat _ _); omega), ?_⟩ | refine ⟨.inr (fun _ hh => nomatch hh), ?_⟩)) ?_; intro _ _ _ zkN' _; (try simp only [List.cons_append, List.nil_append] at zkN')) | (with_unfolding_all refine stCNk (own := [_, _, _, _]) zF' zN' rfl (by assumption) (by repeat' (first | exact trivial | refine ⟨.inl (by (show @Ne Nat _ _); omega), ?_⟩ | refine ⟨.inr (fun _ hh => nomatch hh), ?_⟩)) (by repeat' (first | exact trivial | refine ⟨.inl (by (show @Ne Nat _ _); omega), ?_⟩ | refine ⟨.inr (fun _ hh => nomatch hh), ?_⟩)) ?_; intro _ _ _ zkN' _; (try simp only [List.cons_append, List.nil_append] at zkN')) | (with_unfolding_all refine stCNk (own := [_, _, _, _, _]) zF' zN' rfl (by assumption) (by repeat' (first | exact trivial | refine ⟨.inl (by (show @Ne Nat _ _); omega), ?_⟩ | refine ⟨.inr (fun _ hh => nomatch hh), ?_⟩)) (by repeat' (first | exact trivial | refine ⟨.inl (by (show @Ne Nat _ _); omega), ?_⟩ | refine ⟨.inr (fun _ hh => nomatch hh), ?_⟩)) ?_; intro _ _ _ zkN' _; (try simp only [List.cons_append, List.nil_append] at zkN')))) | fail
  k_with "my call ref" => first | (((with_reducible show wpAny _ _ (PySem.call (Value.ref 77) _ _) _ _ _); refine halt_of ?_)) | fail
  k_with "my call ref" => first | (((with_reducible show wpAny _ _ (PySem.call (Value.ref 136) _ _) _ _ _); refine halt_of ?_)) | fail
  k_with "my call ref" => first | (((with_reducible show wpAny _ _ (PySem.call (Value.ref 197) _ _) _ _ _); refine halt_of ?_)) | fail
  k_with "my call ref" => first | (((with_reducible show wpAny _ _ (PySem.call (Value.ref 190) _ _) _ _ _); refine halt_of ?_)) | fail
  k_with "my call ref" => first | (((with_reducible show wpAny _ _ (PySem.call (Value.ref 183) _ _) _ _ _); refine halt_of ?_)) | fail
  k_with "my call ref" => first | (((with_reducible show wpAny _ _ (PySem.call (Value.ref 176) _ _) _ _ _); refine halt_of ?_)) | fail
  k_with "my call ref" => first | (((with_reducible show wpAny _ _ (PySem.call (Value.ref 153) _ _) _ _ _); refine halt_of ?_)) | fail
  k_with "my call ref" => first | (((with_reducible show wpAny _ _ (PySem.call (Value.ref 162) _ _) _ _ _); refine halt_of ?_)) | fail
  k_with "my storeName" => first | (((with_reducible show wpAny _ _ (storeName _ (Str.ofString "straight") (Value.str (HAppend.hAppend _ _) _)) _ _ _); refine halt_of ?_)) | fail
  trivial
theorem add_ls {prog : Program} {w : World} {A : Around} {E : Value → Shared → Prop} {s : Shared} {t u : Tok} {Q : Value → Shared → Prop} {a b : List Nat}
    (hlen : a.length + b.length ≤ 100) (h : ∀ t' k, Q (.str (mkS (a ++ b)) t') { s with toks := k }) : wpAny (model prog w) A (binaryOp .Add (.str (mkS a) t) (.str (mkS b) u)) Q E s := by
  refine SBL.add (hsz := by rw [mkS_length, mkS_length, sizeLine_eq]; omega) fun t' k _ => ?_
  rw [mkS_append]
  exact h t' k
example : True := by
  k_with "my binaryOp Add str str" => first | ((k_here; (with_reducible show wpAny _ _ (binaryOp _ (Value.str (mkS _) _) (Value.str (mkS _) _)) _ _ _); k_dflt (refine' add_ls ?zL ?_; (case zL => omega)); intro _ _)) | fail
  trivial
theorem store_eq {M : Model} {A : Around} {E : Value → Shared → Prop} {s : Shared} {env : Env} {n : Str} {x y : Str} {t : Tok} {Q : Unit → Shared → Prop} (e : x = y) (h : wpAny M A (storeName env n (.str y t)) Q E s) : wpAny M A (storeName env n (.str x t)) Q E s := by rw [e]; exact h
theorem straight_eq {kt : Nat} {tl : List Nat} (h : kt ≤ 5) : Txt.mul (Str.ofString "\t") (kt : Int) ++ Txt.mul (Str.ofString " ") (5 - (kt : Int)) ++ mkS tl = mkS ((List.replicate kt 9 ++ List.replicate (5 - kt) 32) ++ tl) := by
  have e : (5 - (kt : Int)) = ((5 - kt : Nat) : Int) := by omega
  rw [e, mkS_blank, mkS_tab, mul_mkS, mul_mkS, mkS_append, mkS_append]
theorem not_sys {D : Addr} {n : Nat} (h : @LT.lt Nat instLTNat (n + 1) D) : (D == sysModules) = false := by
  have e : D ≠ sysModules := by
    intro e
    have : @Eq Nat D 1 := e
    omega
  simpa using e
theorem keq_empty {prog : Program} {w : World} {A : Around} {E : Value → Shared → Prop} {s : Shared} {a b : Addr} {ka : List (Str × Value)} {Q : Value → Shared → Prop} (la : (a == sysModules) = false) (lb : (b == sysModules) = false)
    (da : s.heap.DictOf (PySem.strKind prog w) a ka) (db : s.heap.DictOf (PySem.strKind prog w) b []) (hu : A.units < cLine) (hne : ka ≠ []) (h : Q (.bool false) s) : wpAny (model prog w) A (compareOp .Eq (.ref a) (.ref b)) Q E s :=
  keq_eq (r := false) la lb da db hu (fun e => absurd (List.length_eq_zero_iff.mp e) hne) (by rw [Bool.and_false]; exact h)
theorem ways_ne {t : List Nat} {ls : List (List Nat)} {cw : List (Str × Int)} {W : List Nat → Int} {kw : List (Str × Value)} {u : List Nat} (hW : WaysD t ls cw W) (fp : PyProof.V.FlatPairs PyData.str kw (kdpD cw)) (hu : u ∈ ls) : kw ≠ [] := by
  intro e
  subst e
  have h := fp.length
  have h2 := (hW.at' u hu).1
  unfold kdpHas at h2
  obtain ⟨p, hp, _⟩ := List.any_eq_true.mp h2
  have : cw.length = 0 := by
    unfold kdpD at h
    rw [List.length_map] at h
    exact h
  rw [List.length_eq_zero_iff.mp this] at hp
  exact absurd hp (List.not_mem_nil)
theorem ints_of_get : ∀ {vs : List Value} {ns : List Int}, vs.length = ns.length → (∀ (i : Nat) (v : Value), vs[i]? = some v → ∃ (x : Int) (t : Tok), ns[i]? = some x ∧ v = Value.int x t) → IntsAre vs ns
  | [], [], _, _ => .nil
  | v :: vs, y :: ts, hl, h => by
    obtain ⟨x, t, hx, rfl⟩ := h 0 v rfl
    simp at hx
    subst hx
    exact .cons _ _ (ints_of_get (by simpa using hl) fun i v hv => h (i + 1) v hv)
theorem prod_bd : ∀ (hs : List Int) (acc n : Int), 1 ≤ acc → acc ≤ n → (∀ h ∈ hs, 1 ≤ h ∧ h ≤ 5) → 1 ≤ hs.foldl (· * ·) acc ∧ hs.foldl (· * ·) acc ≤ n * 5 ^ hs.length
  | [], acc, n, h1, h2, _ => by simp; exact ⟨h1, h2⟩
  | h :: hs, acc, n, h1, h2, hb => by
    obtain ⟨b1, b2⟩ := hb h (List.mem_cons_self ..)
    have e1 : 1 ≤ acc * h := by
      have := Int.mul_le_mul h1 b1 (by omega) (by omega)
      omega
    have e2 : acc * h ≤ n * 5 := Int.mul_le_mul h2 b2 (by omega) (by omega)
    have := prod_bd hs (acc * h) (n * 5) e1 e2 fun x hx => hb x (List.mem_cons_of_mem _ hx)
    rw [List.foldl_cons, List.length_cons, Int.pow_succ]
    refine ⟨this.1, ?_⟩
    have e3 : n * (5 ^ hs.length * 5) = n * 5 * 5 ^ hs.length := by rw [Int.mul_comm (5 ^ hs.length) 5, ← Int.mul_assoc]
    rw [e3]; exact this.2
theorem prodF_bd {hs : List Int} {i : Nat} (hl : hs.length ≤ 6) (hb : ∀ h ∈ hs, 1 ≤ h ∧ h ≤ 5) : 1 ≤ prodF (hs.take i) ∧ prodF (hs.take i) ≤ 15625 := by
  have h := prod_bd (hs.take i) 1 1 (by omega) (by omega) fun x hx => hb x (List.mem_of_mem_take hx)
  have h3 : ∀ m ∈ List.range 7, (5 : Int) ^ m ≤ 15625 := by decide +kernel
  have h2 := h3 (hs.take i).length (List.mem_range.mpr (by rw [List.length_take]; omega))
  unfold prodF
  omega
theorem ordF_bd {i : Nat} (h : i ≤ 6) : 1 ≤ ordF i ∧ ordF i ≤ 720 := by
  have : ∀ i ∈ List.range 7, 1 ≤ ordF i ∧ ordF i ≤ 720 := by decide +kernel
  exact this i (List.mem_range.mpr (by omega))
theorem ordF_succ (i : Nat) : ordF (i + 1) = ordF i * ((i : Int) + 1) := by
  unfold ordF
  rw [List.range_succ, List.foldl_append]
  rfl
theorem prodF_succ {hs : List Int} {i : Nat} (h : i < hs.length) : prodF (hs.take (i + 1)) = prodF (hs.take i) * hs.getD i 0 := by
  unfold prodF
  rw [List.take_add_one, List.foldl_append, List.getElem?_eq_getElem h]
  simp [List.getD_eq_getElem?_getD, h]
theorem ltN {a b : Addr} (h : a < b) : @LT.lt Nat instLTNat a b := h
theorem item4' (x : Int) (tk : Tok) : ∃ (c : Nat) (t : Tok), Value.str (Txt.item (Str.ofString " \txX") (x.fmod 4)) tk = Value.str (mkS [c]) t ∧ (c = 32 ∨ c = 9 ∨ c = 120 ∨ c = 88) := by
  obtain ⟨c, e, h⟩ := item4 x
  exact ⟨c, tk, by rw [e], h⟩
example : True := by
  k_with "my eval ListComp" => first | ((k_here; refine listcomp_pos ?_; k_dflt (refine LCg.ListComp_U (F₀ := by k_asm) (by with_unfolding_all rfl) (by decide) (by rfl) (by decide) (by rfl) ?_))) | fail
  k_with "my call builtin:str.join" => first | ((k_here; (with_reducible show wpAny _ _ (call (Value.builtin _) [Value.str _ _, Value.ref _]) _ _ _); k_dflt (refine' join_pos ?zT ?zN ?zM ?zS ?zL ?_; (case zT => assumption); (case zN => k_asm); (case zS => assumption); (case zM => k_mem); (case zL => first | omega | (simp only [List.length_map, List.length_range, List.length_drop, List.length_take]; omega))); intro _ _ _)) | fail
  k_with "my binaryOp Add str str" => first | ((k_here; (with_reducible show wpAny _ _ (binaryOp _ (Value.str (Str.ofString "x") _) (Value.str (mkS _) _)) _ _ _); k_dflt (refine' add_tail ?zT ?zL ?_; (case zT => assumption); (case zL => omega)); intro _ _ _)) | fail
  k_with "my compareOp NotEq int int" => first | (((with_reducible show wpAny _ _ (compareOp CmpOp.NotEq (Value.int (HMul.hMul _ _) _) (Value.int _ _)) _ _ _); refine halt_of ?_)) | fail
  trivial
theorem cmp_ne_same {prog : Program} {w : World} {A : Around} {E : Value → Shared → Prop} {s : Shared} {x y : Int} {t u : Tok} {Q : Value → Shared → Prop} (e : x = y) (h : Q (.bool false) s) : wpAny (model prog w) A (compareOp .NotEq (.int x t) (.int y u)) Q E s :=
  PyProof.Rows.ne_int (by rw [e, bne_self_eq_false]; exact h)
example : True := by
  k_with "my exec For Name Call cons nil" => first | ((k_here; first | ((rename Fr _ _ _ _ => zlF'); (with_unfolding_all refine' For_invVF zlF' ?zk1 ?zk2 ?_; (case zk1 => exact rfl); (case zk2 => exact rfl); k_whole)) | (k_dflt (refine wpAny_For ?_ (by intro _; rfl))))) | fail
  k_with "my pyIter ref" => first | (((with_reducible show wpAny _ _ (pyIter (Value.ref _)) (fun it s₂ => codeAny _ _ _ _ _) _ _); refine halt_of ?_)) | fail
  k_with "my eval ListComp" => first | (((with_reducible show wpAny _ _ (eval (Expr.ListComp (Expr.Call (Expr.Name _ _) _ _ _) _ _ _) _) _ _ _); refine halt_of ?_)) | fail
  k_with "my call ref" => first | (((with_reducible show wpAny _ _ (PySem.call (Value.ref 63) _ _) _ _ _); refine halt_of ?_)) | fail
  k_with "my storeName" => first | (((with_reducible show wpAny _ _ (storeName _ (Str.ofString "here") _) _ _ _); refine halt_of ?_)) | fail
  k_with "my storeName" => first | (((with_reducible show wpAny _ _ (storeName _ (Str.ofString "there") _) _ _ _); refine halt_of ?_)) | fail
  trivial
theorem isws_head {h₀ h : Heap} {L : Addr} {p : Params} {x d T1 T2 : Addr} {a : List Nat} {vs : List Value} {raw : Value} {k1 k2 k3 k4 k5 t2 t3 t4 : Tok} {r : List (Addr × Obj)}
    (_ : News h₀ L h ((T2, tupO #[.ref T1, .int (wsW a).2.2.1 t4]) :: (T1, tupO vs.toArray) :: (x, instObj 153 d) :: (d, wsD p raw (wsW a).1 (wsW a).2.1 T2 (decide (((wsW a).2.2.2.length : Int) ≤ 1)) k1 k2 k3 k4 k5 t2 t3) :: r)) (hI : IntsAre vs (wsW a).2.2.2) :
    IsWs p ((T2, tupO #[.ref T1, .int (wsW a).2.2.1 t4]) :: (T1, tupO vs.toArray) :: (x, instObj 153 d) :: (d, wsD p raw (wsW a).1 (wsW a).2.1 T2 (decide (((wsW a).2.2.2.length : Int) ≤ 1)) k1 k2 k3 k4 k5 t2 t3) :: r) x a d T1 T2 vs raw k1 k2 k3 k4 k5 t2 t3 t4 :=
  ⟨.tail _ (.tail _ (.head _)), .tail _ (.tail _ (.tail _ (.head _))), .tail _ (.head _), .head _, hI⟩
example : True := by
  k_with "my compareOp Eq ref ref" => first | (((with_reducible show wpAny _ _ (compareOp CmpOp.Eq (Value.ref _) (Value.ref _)) _ _ _); refine halt_of ?_)) | fail
  trivial
theorem due_end {h₀ h' : Heap} {L I D DD : Addr} {it tup lo lo' : Obj} {a b c d e f g : Addr × Obj} {trips : List (Addr × Obj)} {J : (Str → Option Value) → List (Addr × Obj) → Prop} {s₁ : Shared} {tk : Nat} {m' : Str → Option Value}
    (F : Fr h₀ L h' m') (N : News h₀ L h' ((D, tup) :: (I, it) :: (DD, lo') :: a :: b :: c :: d :: e :: f :: g :: trips)) (hDI : @Ne Nat D I) (off : ∀ p ∈ (DD, lo) :: a :: b :: c :: d :: e :: f :: g :: trips, p.1 ≠ I)
    (r : J m' ((DD, lo') :: a :: b :: c :: d :: e :: f :: g :: (D, tup) :: trips)) : TurnEnd h₀ L s₁ I it J { s₁ with heap := h', toks := tk } := by
  refine TurnEnd.intro F N ((DD, lo') :: a :: b :: c :: d :: e :: f :: g :: (D, tup) :: trips) (.tail _ (.head _)) ?_ ?_ r
  · intro p hp
    simp only [List.mem_cons] at hp ⊢
    rcases hp with h | h | h | h | h | h | h | h | h | h <;> simp [h]
  · intro p hp
    simp only [List.mem_cons] at hp
    rcases hp with h | h | h | h | h | h | h | h | h | h
    · rw [h]; exact off (DD, lo) (.head _)
    · exact off p (by simp [h])
    · exact off p (by simp [h])
    · exact off p (by simp [h])
    · exact off p (by simp [h])
    · exact off p (by simp [h])
    · exact off p (by simp [h])
    · exact off p (by simp [h])
    · rw [h]; exact hDI
    · exact off p (by simp [h])
theorem due_succ (st ld : List Nat) (i : Nat) : dueF st ld (i + 1) = dueStep st ld (dueF st ld i) i := by
  unfold dueF
  rw [List.range_succ, List.foldl_append]
  rfl
theorem law_holds.tw5389484754426515990 : True := trivial
theorem law_holds.tw4488160821755447447 : True := trivial
theorem law_holds.tw10790200183148841061 : True := trivial
theorem law_holds.tw15759456685926392790 : True := trivial
theorem law_holds.tw7425569058691365973 : True := trivial
theorem law_holds.tw2209844140923178617 : True := trivial
theorem law_holds.tw15643490421465472420 : True := trivial
theorem law_holds.tw4593294709026258786 : True := trivial
theorem law_holds.tw3912811242725288453 : True := trivial
theorem law_holds.tw1832781179975386347 : True := trivial
theorem law_holds.tw17548904289303218438 : True := trivial
theorem law_holds.tw9529696498207198238 : True := trivial
theorem law_holds.tw4581845663705801772 : True := trivial
theorem law_holds.tw4946720094412051239 : True := trivial
theorem law_holds.tw2075624079617657780 : True := trivial
theorem law_holds.tw1385162719727133579 : True := trivial
theorem law_holds.tw9849722394096787677 : True := trivial
theorem law_holds.tw9682718004065560343 : True := trivial
theorem law_holds.tw6860709855171689206 : True := trivial
theorem law_holds.tw2043166853727251185 : True := trivial
theorem law_holds.tw11097350217990362986 : True := trivial
theorem law_holds.tw15352839923633478061 : True := trivial
theorem law_holds.tw10024239376800412576 : True := trivial
theorem law_holds.tw6896717019858035522 : True := trivial
theorem law_holds.tw3366817510852727610 : True := trivial
theorem law_holds.tw8785698371604719795 : True := trivial
theorem law_holds.tw17911580528928914924 : True := trivial
theorem law_holds.tw16406091861079842607 : True := trivial
theorem law_holds.tw11484002064277903863 : True := trivial
theorem law_holds.tw18090433342136740992 : True := trivial
theorem law_holds.tw11609493526922420660 : True := trivial
theorem law_holds.tw2643271747718453845 : True := trivial
theorem law_holds.tw3910120701321347557 : True := trivial
theorem law_holds.tw8970147916757833333 : True := trivial
theorem law_holds.tw7820799176418779761 : True := trivial
theorem law_holds.tw4614512636035447770 : True := trivial
theorem law_holds.tw653560878884961445 : True := trivial
theorem law_holds.tw8249079356659094474 : True := trivial
theorem law_holds.tw10007947361888340627 : True := trivial
theorem law_holds.tw5212653520564569363 : True := trivial
theorem law_holds.tw10371022188087798493 : True := trivial
theorem law_holds.tw3426384778480675251 : True := trivial
theorem law_holds.tw16893121556090616931 : True := trivial
theorem law_holds.tw11625900857008200698 : True := trivial
theorem law_holds.tw3438298445031660282 : True := trivial
theorem law_holds.tw15802469936163623734 : True := trivial
theorem law_holds.tw5112083995522966620 : True := trivial
theorem law_holds.tw7408322871517469003 : True := trivial
theorem law_holds.tw7019463264422422977 : True := trivial
theorem law_holds.tw9255152265573255198 : True := trivial
theorem law_holds.tw9552830710289189752 : True := trivial
theorem law_holds.tw7497986649931050792 : True := trivial
theorem law_holds.tw7304591109411159013 : True := trivial
theorem law_holds.tw16805829885119392726 : True := trivial
theorem law_holds.tw8266603773606604290 : True := trivial
theorem law_holds.tw545109181885906688 : True := trivial
theorem law_holds.tw12831907817818079685 : True := trivial
theorem law_holds.tw12780804625047726367 : True := trivial
theorem law_holds.tw179590077315354965 : True := trivial
theorem law_holds.tw10566571302883470556 : True := trivial
theorem law_holds.tw11633083819707477107 : True := trivial
theorem law_holds.tw14385925486924208373 : True := trivial
theorem law_holds.tw1414043511812021011 : True := trivial
theorem law_holds.tw10028117763298573888 : True := trivial
theorem law_holds.tw1670043908289496885 : True := trivial
theorem law_holds.tw5640673133297012132 : True := trivial
theorem law_holds.tw16098122237329998606 : True := trivial
theorem law_holds.tw14774650325386425613 : True := trivial
theorem law_holds.tw12116493165278983582 : True := trivial
theorem law_holds.tw4273555757443719353 : True := trivial
theorem law_holds.tw14497384708736915567 : True := trivial
theorem law_holds.tw13431030151845061361 : True := trivial
theorem law_holds.tw13397297893571687751 : True := trivial
theorem law_holds.tw8957123355933967898 : True := trivial
theorem law_holds.tw18326849912455186884 : True := trivial
theorem law_holds.tw16470317323979864763 : True := trivial
theorem law_holds.tw2907507879108658156 : True := trivial
theorem law_holds.tw14498155544194170393 : True := trivial
theorem law_holds.tw8634839017697508684 : True := trivial
theorem law_holds.tw15661869461025623997 : True := trivial
theorem law_holds.tw6934448944433832347 : True := trivial
theorem law_holds.tw1377309892636839040 : True := trivial
theorem law_holds.tw14326059299131336239 : True := trivial
theorem law_holds.tw9779807473162285230 : True := trivial
theorem law_holds.tw3882201998751590657 : True := trivial
theorem law_holds.tw10188763426450519768 : True := trivial
theorem law_holds.tw12223724995276690173 : True := trivial
theorem law_holds.tw13280740594461564331 : True := trivial
theorem law_holds.tw11404014056486942332 : True := trivial
theorem law_holds.tw12303009252429188658 : True := trivial
theorem law_holds.tw4037582482628031876 : True := trivial
theorem law_holds.tw14571795756577361901 : True := trivial
theorem law_holds.tw10242277825702978295 : True := trivial
theorem law_holds.tw2644310842459337959 : True := trivial
theorem law_holds.tw15607887362523206001 : True := trivial
theorem law_holds.tw9992725586745946429 : True := trivial
theorem law_holds.tw784011647948385275 : True := trivial
theorem law_holds.tw519298541982818421 : True := trivial
theorem law_holds.tw676263390381983339 : True := trivial
theorem law_holds.tw3756308257209627903 : True := trivial
theorem law_holds.tw11781800970755023335 : True := trivial
theorem law_holds.tw16836969012518115619 : True := trivial
theorem law_holds.tw15274831704391544125 : True := trivial
theorem law_holds.tw14289194402921355359 : True := trivial
theorem law_holds.tw7910590604623066228 : True := trivial
theorem law_holds.tw13154458805202713791 : True := trivial
theorem law_holds.tw788937038709431438 : True := trivial
theorem law_holds.tw724200737284857819 : True := trivial
theorem law_holds.tw14983226153234331074 : True := trivial
theorem law_holds.tw1905533677188600702 : True := trivial
theorem law_holds.tw18203989763732354715 : True := trivial
theorem law_holds.tw10958410103948607464 : True := trivial
theorem law_holds.tw3253568177066640346 : True := trivial
theorem law_holds.tw10486713781251687710 : True := trivial
theorem law_holds.tw447027507633508388 : True := trivial
theorem law_holds.tw9423440377400516374 : True := trivial
theorem law_holds.tw8285764192309689115 : True := trivial
theorem law_holds.tw4441770287765753910 : True := trivial
theorem law_holds.tw16099233806120587224 : True := trivial
theorem law_holds.tw14997073306097389879 : True := trivial
theorem law_holds.tw13709617746848070560 : True := trivial
theorem law_holds.tw302768837105346163 : True := trivial
theorem law_holds.tw12889056044993165476 : True := trivial
theorem law_holds.tw18234560199702728603 : True := trivial
theorem law_holds.tw5062152199769849712 : True := trivial
theorem law_holds.tw3035144380315620824 : True := trivial
theorem law_holds.tw13392613628428298086 : True := trivial
theorem law_holds.tw6776455111828631412 : True := trivial
theorem law_holds.tw18254337876149969668 : True := trivial
theorem law_holds.tw12342728606916771844 : True := trivial
theorem law_holds.tw9207643191828677137 : True := trivial
theorem law_holds.tw9184033795430018204 : True := trivial
theorem law_holds.tw8835965917227929528 : True := trivial
theorem law_holds.tw8652346329174877282 : True := trivial
theorem law_holds.tw8191475993861738794 : True := trivial
theorem law_holds.tw7221428835167493151 : True := trivial
theorem law_holds.tw718173064312146323 : True := trivial
theorem law_holds.tw7120836010843673076 : True := trivial
theorem law_holds.tw6765152471904792315 : True := trivial
theorem law_holds.tw6499956759230125245 : True := trivial
theorem law_holds.tw631266038723830076 : True := trivial
theorem law_holds.tw6159533029260741167 : True := trivial
theorem law_holds.tw602461330855297101 : True := trivial
theorem law_holds.tw575232530192455986 : True := trivial
theorem law_holds.tw5506821171919863439 : True := trivial
theorem law_holds.tw4916342969005030805 : True := trivial
theorem law_holds.tw4818577856007422655 : True := trivial
theorem law_holds.tw3776956092104397036 : True := trivial
theorem law_holds.tw3186734533307500241 : True := trivial
theorem law_holds.tw3158129796062787159 : True := trivial
theorem law_holds.tw2618386414584295968 : True := trivial
theorem law_holds.tw2578278018795888234 : True := trivial
theorem law_holds.tw2503670479209048990 : True := trivial
theorem law_holds.tw2387193687640843687 : True := trivial
theorem law_holds.tw2102315897755806987 : True := trivial
theorem law_holds.tw1989176631692091739 : True := trivial
theorem law_holds.tw17499823404086765753 : True := trivial
theorem law_holds.tw17255088995462705879 : True := trivial
theorem law_holds.tw17180001009569633970 : True := trivial
theorem law_holds.tw17027635718292003107 : True := trivial
theorem law_holds.tw16461882675039125421 : True := trivial
theorem law_holds.tw15448297888555860652 : True := trivial
theorem law_holds.tw14988988175077273356 : True := trivial
theorem law_holds.tw14925382992726071281 : True := trivial
theorem law_holds.tw14828999820898988419 : True := trivial
theorem law_holds.tw14160533322030094474 : True := trivial
theorem law_holds.tw13800757232730249582 : True := trivial
theorem law_holds.tw13780023080261437657 : True := trivial
theorem law_holds.tw13766487248619392586 : True := trivial
theorem law_holds.tw13301187468288870568 : True := trivial
theorem law_holds.tw12889673554181485818 : True := trivial
theorem law_holds.tw1285599515219305098 : True := trivial
theorem law_holds.tw12732824653754844360 : True := trivial
theorem law_holds.tw12476058986133298565 : True := trivial
theorem law_holds.tw123295346585929383 : True := trivial
theorem law_holds.tw12134408205421670959 : True := trivial
theorem law_holds.tw12115171985352901274 : True := trivial
theorem law_holds.tw11846676642670509255 : True := trivial
theorem law_holds.tw11100686419730198450 : True := trivial
theorem law_holds.tw11098625913536864229 : True := trivial
theorem law_holds.tw10817052189556005596 : True := trivial
theorem law_holds.tw10368410895845634921 : True := trivial
theorem law_holds.tw14500461262537925873 : True := trivial
set_option Elab.async true in
theorem law_holds : PySem.Challenge.rw_sw0060_01.Holds := by
  w_on
  o_law
  k_head
  (case hw => w_witness2)
  change WalkO Mine.hdK.view_1 _ (XL Mine.hdK.view_1 _) (Hook.says (kHook Mine.hdK.heap_1 _ _)) _ _ _ _
  k_go0
  all_goals (try k_fold)
  k_steps
  refine Halt.out ?_
  k_sweep
  rename Fr _ _ _ _ => F
  rename News _ _ _ _ => N
  rename List Int => ns
  rename (IntsAre _ (List.take 60 ns)) => hI6
  rename ((List.take 60 ns).length = _) => hl6
  rename Obj.data _ = Data.cell (some _) => dT
  refine fr_let F ?_
  clear F
  intro MF1 F
  refine loop_list (by rfl) (List.mem_cons_self ..) F N
    (fun M nw i m₁ l' => ∃ (a b c d e f g : Addr × Obj) (oc : Obj) (tot : Int) (t : Tok), nw = [a, b, c, d, e, f] ∧ g = (f.1, oc) ∧ l' = [a, b, c, d, e, g] ∧ oc.data = Data.cell (some (Value.int tot t)) ∧ 24 ≤ tot ∧ tot ≤ 24 + 1000000 * i ∧ ∀ z, z ≠ Str.ofString "x" → m₁ z = M z) ?_ ?_ ?_ ?_
  · exact ⟨_, _, _, _, _, _, _, _, 24, _, rfl, rfl, rfl, dT, by omega, by omega, fun z _ => rfl⟩
  · rintro i m l' ⟨a, b, c, d, e, f, g, oc, tot, t, h1, rfl, rfl, _⟩
    injection h1 with h1 _
    rw [h1]
    exact List.mem_cons_self ..
  · rintro I it i v m₁ news₁ h tk hi hv ⟨a, b, c, d, e, f, g, oc, tot, t, h1, rfl, rfl, dT', b1, b2, hm⟩ ho F' N'
    clear F N
    injection h1 with e1 h1
    injection h1 with e2 h1
    injection h1 with e3 h1
    injection h1 with e4 h1
    injection h1 with e5 h1
    injection h1 with e6 h1
    subst e1 e2 e3 e4 e5 e6
    dsimp only at N'
    rw [frm0_1 hm] at F'
    k_fold
    clear hm
    obtain ⟨x, tx, hx, rfl⟩ := ints_at hI6 hv
    have h6 : @Ne Nat _ I := ho (_, oc) (.tail _ (.tail _ (.tail _ (.tail _ (.tail _ (.head _))))))
    have h6' : @Ne Nat I _ := fun e => h6 e.symm
    dsimp only at h6 h6'
    have hfm : x.fmod 1000000 = x % 1000000 := Int.fmod_eq_emod_of_nonneg x (by decide)
    k_steps
    rename Obj.data _ = Data.cell (some _) => dT2
    refine TurnEnd.intro (by assumption) (by assumption) [_, _, _, _, _, (_, _)] (List.mem_cons_self ..) (fun p hp => List.mem_cons_of_mem _ hp) (off_same (by rfl) ho) ⟨_, _, _, _, _, _, _, _, _, _, rfl, rfl, rfl, dT2, ?_, ?_, by intro z h1; simp only [h1, if_false]⟩
    · rw [hfm]; omega
    · rw [hfm]; omega
  · rintro h tk m₁ news₁ ⟨a, b, c, d, e, f, g, oc, tot, t, h1, rfl, rfl, dT', b1, b2, hm⟩ F' N'
    clear F N
    injection h1 with e1 h1
    injection h1 with e2 h1
    injection h1 with e3 h1
    injection h1 with e4 h1
    injection h1 with e5 h1
    injection h1 with e6 h1
    subst e1 e2 e3 e4 e5 e6
    dsimp only at N'
    rw [frm0_1 hm] at F'
    clear hm
    have b3 : tot ≤ 24 + 1000000 * 63 := by
      have : (List.take 60 ns).length ≤ 60 := by rw [hl6]; omega
      have h2 := hI6.length
      rw [List.size_toArray] at b2
      omega
    dsimp only
    k_steps
    refine Halt.out ?_
    k_sweep
    rename Fr _ _ _ _ => F
    rename News _ _ _ _ => N
    rename IsRange _ _ _ _ _ _ _ _ => R
    refine fr_let F ?_
    clear F
    intro MF2 F
    refine LCg.CompSrc.range (n := 5) (by rfl) F N R (by decide) (by rfl) (by decide) ?_
    intro g
    refine comp_rest (fun i y => ∃ (t : Tok), y = Value.str (mkS [leadSign tot i]) t) trivial ?_ ?_
    · rintro i v I oI C oC D m₂ ys h tk E' hi ⟨tv, rfl⟩ hC hx F' N' off ne
      clear F N R
      have e0 : ((0 : Int) + (i : Int)).toNat = i := by omega
      k_steps
      · rename (Int.fmod _ 2 = 1) => q
        rw [e0] at q
        exact ElPost.intro (by assumption) (by assumption) (fun p hp => hp) ⟨_, by rw [leadSign, if_pos q, mkS_tab]⟩
      · rename (Int.fmod _ 2 ≠ 1) => q
        rw [e0] at q
        exact ElPost.intro (by assumption) (by assumption) (fun p hp => hp) ⟨_, by rw [leadSign, if_neg q, mkS_blank]⟩
    · intro ys hl hY D h tk F' N' off1
      clear F N R
      have hS1 : StrsAre ys (((List.range 5).map (leadSign tot)).map fun c => mkS [c]) := strs_of_ones (by rw [hl]; rfl) fun i y hy => by
        obtain ⟨t, rfl⟩ := hY i y hy
        have hi : i < 5 := by rw [← hl]; exact (List.getElem?_eq_some_iff.mp hy).1
        exact ⟨t, by simp [List.getD, hi]⟩
      obtain ⟨ld, hld⟩ : ∃ ld, ld = (List.range 5).map (leadSign tot) := ⟨_, rfl⟩
      rw [← hld] at hS1
      have hl5 : ld.length = 5 := by rw [hld]; simp
      have hl9 : ∀ c ∈ ld, c = 9 ∨ c = 32 := by
        intro c hc
        rw [hld] at hc
        obtain ⟨i, _, rfl⟩ := List.mem_map.mp hc
        unfold leadSign
        split <;> simp
      clear hld hY
      have hm5 : (mkS ld).length = 5 := by rw [mkS_length]; exact hl5
      intro htk1
      k_steps
      refine Halt.out ?_
      k_sweep
      rename Fr _ _ _ _ => F
      rename News _ _ _ _ => N
      rename (IntsAre _ (List.take _ (List.drop 1 ns))) => hI7
      rename ((List.take _ (List.drop 1 ns)).length = _) => hl7
      have hs7 := Nat.le_trans (Nat.le_of_eq hI7.length) (Nat.le_trans (List.length_take_le _ _) (Nat.sub_le_sub_right (Nat.min_le_left 6 _) 1))
      clear hl7
      refine fr_let F ?_
      clear F
      intro MF3 F
      refine LCg.CompSrc.ledger (by rfl) F N (List.mem_cons_self ..) (by rw [List.size_toArray, sizeLine_eq]; exact le_big hs7 rfl) ?_
      intro g
      refine comp_rest (fun i y => ∃ (c : Nat) (t : Tok), y = Value.str (mkS [c]) t ∧ (c = 32 ∨ c = 9 ∨ c = 120 ∨ c = 88)) (.inr ⟨_, List.mem_cons_self .., rfl, _, rfl⟩) ?_ ?_
      · rintro i v I oI C oC D m₂ ys h tk E' hi hv hC hx F' N' off ne
        clear F N
        obtain ⟨x, tx, hx7, rfl⟩ := ints_at hI7 hv
        k_steps
        exact ElPost.intro (by assumption) (by assumption) (fun p hp => hp) (item4' x _)
      · intro ys2 hl2 hY2 D2 h2 tk2 F2 N2 off2
        clear F N
        obtain ⟨tc, htc, hS2, hPc⟩ := signs_of hY2
        have htc5 : tc.length ≤ 5 := by rw [htc, hl2, List.size_toArray]; exact hs7
        clear hY2
        intro htk2
        k_steps
        delta Halt
        rename Fr _ _ _ _ => F
        rename News _ _ _ _ => N
        refine stCNk (own := [_, _, _, _, _, _, _]) F N rfl (by assumption) (by repeat' (first | exact trivial | refine ⟨.inl (by (show @Ne Nat _ _); omega), ?_⟩ | refine ⟨.inr (fun _ hh => nomatch hh), ?_⟩)) (by repeat' (first | exact trivial | refine ⟨.inl (by (show @Ne Nat _ _); omega), ?_⟩ | refine ⟨.inr (fun _ hh => nomatch hh), ?_⟩)) ?_
        intro h3 o3 F3 N3 dtl
        clear F N
        obtain ⟨tl, htl⟩ : ∃ tl, tl = 120 :: tc := ⟨_, rfl⟩
        rw [← htl] at dtl
        have htl1 : 1 ≤ tl.length := by rw [htl]; simp
        have htl2 : tl.length ≤ 6 := by rw [htl]; exact Nat.succ_le_succ htc5
        have hmtl : (mkS tl).length ≤ 6 := by rw [mkS_length]; exact htl2
        have N4 : News _ _ _ [_, _, _, _, _] := fun p hp => N3 p (.tail _ (.tail _ (.tail _ (.tail _ hp))))
        clear N3
        k_steps
        delta Halt
        refine' countS_call _ _ _ _ _ ?p0 ?p1 ?p2 ?p3 _ _ _ _ _ _ _ _ _ _ _ _ _ _ _ _ _ ?q1 ?q2 ?q3 ?q4 ?q5 ?q6 ?q7 ?q8 ?q9 ?_
        case p0 => exact mkS_tab
        case p1 => omega
        case p2 => assumption
        case p3 => (show @Ne Nat _ 0; omega)
        case q1 => k_asm
        case q2 => k_asm
        case q3 => k_asm
        case q4 => k_asm
        case q5 => k_asm
        case q6 => first | exact rfl | assumption
        case q7 => ktr_room
        case q8 => ktr_units
        case q9 => (show @LT.lt Nat _ _ _; dsimp only; omega)
        rintro v' own' h' tk' ⟨⟨t', e1⟩, e2⟩ F' N'
        obtain ⟨kt, hkt⟩ : ∃ kt, kt = ld.countP (· == 9) := ⟨_, rfl⟩
        rw [← hkt] at e1
        subst e1
        subst e2
        simp only [List.nil_append] at N'
        have hk5 : kt ≤ 5 := by rw [hkt, ← hl5]; exact List.countP_le_length
        dsimp only
        k_steps
        delta Halt
        obtain ⟨st, hst⟩ : ∃ st, st = List.replicate kt 9 ++ List.replicate (5 - kt) 32 := ⟨_, rfl⟩
        have hst5 : st.length = 5 := by rw [hst, List.length_append, List.length_replicate, List.length_replicate]; exact Nat.add_sub_of_le hk5
        have hsl11 : st.length + tl.length ≤ 11 := by rw [hst5]; exact Nat.add_le_add_left htl2 5
        have hll11 : ld.length + tl.length ≤ 11 := by rw [hl5]; exact Nat.add_le_add_left htl2 5
        have hsl5 : 5 ≤ st.length + tl.length := by rw [hst5]; exact Nat.le_add_right _ _
        have hll5 : 5 ≤ ld.length + tl.length := by rw [hl5]; exact Nat.le_add_right _ _
        have hms11 : (mkS (st ++ tl)).length ≤ 11 := by rw [mkS_length, List.length_append]; exact hsl11
        have hml11 : (mkS (ld ++ tl)).length ≤ 11 := by rw [mkS_length, List.length_append]; exact hll11
        have hms5 : 5 ≤ (mkS (st ++ tl)).length := by rw [mkS_length, List.length_append]; exact hsl5
        have hml5 : 5 ≤ (mkS (ld ++ tl)).length := by rw [mkS_length, List.length_append]; exact hll5
        have est := straight_eq (tl := tl) hk5
        rw [← hst] at est
        refine store_eq est ?_
        clear est
        k_steps
        delta Halt
        k_dflt (refine' leads_use (leads_spec 6 (by omega)) _ _ (5 - kt) kt _ _ _ ?e1 ?e2 ?e3 _ _ _ _ _ _ _ _ _ _ _ _ _ _ _ _ _ ?q1 ?q2 ?q3 ?q4 ?q5 ?q6 ?q7 ?q8 ?_)
        (case e1 => exact (Int.ofNat_sub hk5).symm)
        (case e2 => rfl)
        (case e3 => rw [Nat.sub_add_cancel hk5]; decide)
        (case q1 => k_asm)
        (case q2 => k_asm)
        (case q3 => k_asm)
        (case q4 => k_asm)
        (case q5 => k_asm)
        (case q6 => first | exact rfl | assumption)
        (case q7 => ktr_room)
        (case q8 => ktr_units)
        rintro v' own' h' tk' ⟨H1, vs1, k1, e1, e2, hS1, hl1⟩ F' N'
        subst e1
        subst e2
        simp only [List.cons_append, List.nil_append] at N'
        dsimp only
        k_steps
        delta Halt
        rename Fr _ _ _ _ => F
        rename News _ _ _ _ => N
        have hf1 : 0 ≤ Int.fmod tot 7 := Int.fmod_nonneg_of_pos _ (by decide)
        have hf2 : Int.fmod tot 7 < 7 := Int.fmod_lt_of_pos _ (by decide)
        have hf3 : 4 ≤ 4 + Int.fmod tot 7 := Int.le_add_of_nonneg_right hf1
        have hf4 : 4 + Int.fmod tot 7 ≤ 10 := Int.add_le_add_left (Int.le_of_lt_add_one (b := 6) hf2) 4
        have PL := plain_all (bd := 4 + Int.fmod tot 7) hl5 hl9 htl hkt hst hf3 hf4
        obtain ⟨ls, hls⟩ : ∃ ls, ls = leads (5 - kt) kt := ⟨_, rfl⟩
        rw [← hls] at PL hS1
        have hv1 : vs1.length = ls.length := by rw [hS1.length, List.length_map]
        have hls32 := PL.len
        refine fr_let F ?_
        clear F
        intro MF4 F
        refine LCg.CompSrc.ledger (by rfl) F N (List.mem_cons_self ..) (by rw [List.size_toArray, sizeLine_eq]; omega) ?_
        intro g
        refine comp_rest (fun i y => ∃ (u : List Nat) (t : Tok), ls[i]? = some u ∧ y = Value.str (mkS (u ++ tl)) t) (.inr ⟨_, List.mem_cons_self .., rfl, _, rfl⟩) ?_ ?_
        · intro i v I oI C oC D m₂ ys h tk E' hi hv hC hx F' N' off ne
          clear F N
          obtain ⟨x, tx, hx1, rfl⟩ := strs_at hS1 hv
          rw [List.getElem?_map] at hx1
          obtain ⟨u, hu, rfl⟩ := Option.map_eq_some_iff.mp hx1
          have hu5 := PL.l5 u (List.mem_of_getElem? hu)
          have hu11 : u.length + tl.length ≤ 11 := by rw [hu5]; exact Nat.add_le_add_left htl2 5
          k_steps
          exact ElPost.intro (by assumption) (by assumption) (fun p hp => hp) ⟨u, _, hu, rfl⟩
        · intro ysL hlL hYL DL hL tkL FL NL offL
          clear F N
          have hSL : StrsAre ysL (ls.map fun u => mkS (u ++ tl)) := strs_of_get (by rw [hlL, List.length_map, List.size_toArray, hv1]) fun i y hy => by
            obtain ⟨u, t, hu, e⟩ := hYL i y hy
            exact ⟨_, t, by rw [List.getElem?_map, hu]; rfl, e⟩
          have hlL2 : ysL.length = ls.length := by rw [hlL, List.size_toArray, hv1]
          clear hYL
          k_steps
          delta Halt
          rename Fr _ _ _ _ => F
          rename News _ _ _ _ => N
          have N1 : News _ _ _ [_, _, _, _, _, _] := fun p hp => N p (by rcases List.mem_cons.mp hp with e | hp; (· rw [e]; exact List.mem_cons_self ..); exact List.mem_cons_of_mem _ (List.mem_cons_of_mem _ hp))
          clear N
          refine fr_let F ?_
          clear F
          intro MF5 F
          refine loop_list (by rfl) (List.mem_cons_self ..) F N1 (fun M nw i m₁ l' => l' = nw ∧ ∀ z, z ≠ Str.ofString "line" → m₁ z = M z) ?_ ?_ ?_ ?_
          · exact ⟨rfl, fun z _ => rfl⟩
          · rintro i m l' ⟨rfl, _⟩
            exact List.mem_cons_self ..
          · rintro I it i v m₁ news₁ h tk hi hv ⟨e1, hm⟩ ho F' N'
            clear F N1
            subst e1
            rw [frm0_1 hm] at F'
            k_fold
            clear hm
            obtain ⟨x, tx, hx1, rfl⟩ := strs_at hSL hv
            rw [List.getElem?_map] at hx1
            obtain ⟨u, hu, rfl⟩ := Option.map_eq_some_iff.mp hx1
            have hum := List.mem_of_getElem? hu
            have hu5 := PL.l5 u hum
            have hu11 : u.length + tl.length ≤ 11 := by rw [hu5]; exact Nat.add_le_add_left htl2 5
            have husz : (u ++ tl).length ≤ 20 := by rw [List.length_append]; exact le_big hu11 rfl
            have hself : mkS (u ++ tl) = mkS (u ++ tl) := rfl
            have hsim := PL.simple u hum
            have hN1 : @Ne Nat _ I := ho _ (.tail _ (.head _))
            have hN2 : @Ne Nat _ I := ho _ (.tail _ (.tail _ (.head _)))
            have hN3 : @Ne Nat _ I := ho _ (.tail _ (.tail _ (.tail _ (.head _))))
            have hN4 : @Ne Nat _ I := ho _ (.tail _ (.tail _ (.tail _ (.tail _ (.head _)))))
            have hN5 : @Ne Nat _ I := ho _ (.tail _ (.tail _ (.tail _ (.tail _ (.tail _ (.head _))))))
            k_steps
            delta Halt
            refine' ws_call _ _ _ _ ?p0 ?p1 _ _ _ _ _ _ _ _ _ _ _ _ _ _ _ _ _ ?q1 ?q2 ?q3 ?q4 ?q5 ?q6 ?q7 ?q8 ?_
            (case p0 => assumption)
            (case p1 => omega)
            (case q1 => k_asm)
            (case q2 => k_asm)
            (case q3 => k_asm)
            (case q4 => k_asm)
            (case q5 => k_asm)
            (case q6 => first | exact rfl | assumption)
            (case q7 => ktr_room)
            (case q8 => ktr_units)
            rintro v' own' h' tk' ⟨x', d', T1', T2', vs', k1', k2', k3', k4', k5', t2', t3', t4', e1, hI', l1', l2', l3', l4', e2⟩ F' N'
            subst e1
            subst e2
            simp only [List.cons_append, List.nil_append] at N'
            dsimp only [wsD, tupO] at N'
            k_lt l1'
            dsimp only
            have hbb : (mkS (u ++ tl) == mkS (st ++ tl)) = decide (u = st) := by
              rw [mkS_beq, Bool.eq_iff_iff, beq_iff_eq, decide_eq_true_iff]
              exact ⟨fun h => List.append_cancel_right h, fun h => by rw [h]⟩
            k_steps
            · exact TurnEnd.intro (by assumption) (by assumption) _ (.tail _ (.tail _ (.tail _ (.tail _ (.head _))))) (fun p hp => .tail _ (.tail _ (.tail _ (.tail _ (.tail _ hp))))) ho ⟨rfl, fun z h1 => by simp only [h1, if_false]⟩
            · exfalso
              rename ((_ == _) = false) => q
              rw [hsim, hbb] at q
              simp at q
          · rintro h tk m₁ news₁ ⟨e1, hm⟩ F' N'
            clear F N1
            subst e1
            rw [frm0_1 hm] at F'
            clear hm
            dsimp only
            k_steps
            delta Halt
            refine' ways_spec ld tl ls _ DL ysL _ (4 + Int.fmod tot 7) _ _ ?p1 hSL hls32 PL.mem PL.l5 PL.l9 htl1 (by omega) (by omega) (by omega) PL.hts PF PL.hP PL.hP2 _ _ _ _ _ _ _ _ _ _ _ _ _ _ _ _ _ ?q1 ?q2 ?q3 ?q4 ?q5 ?q6 ?q7 ?q8 ?_
            (case q1 => k_asm)
            (case q2 => k_asm)
            (case q3 => k_asm)
            (case q4 => k_asm)
            (case p1 => exact List.mem_cons_self ..)
            (case q5 => k_asm)
            (case q6 => first | exact rfl | assumption)
            (case q7 => ktr_room)
            (case q8 => ktr_units)
            rintro v' own' h' tk' ⟨DW, oW, kw, cw, e1, e2, lW, idW, fpW, hW⟩ F' N'
            subst e1
            subst e2
            simp only [List.cons_append, List.nil_append] at N'
            have lW1 := ltN (lW _ (.head _))
            have lW2 := ltN (lW _ (.tail _ (.head _)))
            have lW3 := ltN (lW _ (.tail _ (.tail _ (.head _))))
            have lW4 := ltN (lW _ (.tail _ (.tail _ (.tail _ (.head _)))))
            have lW5 := ltN (lW _ (.tail _ (.tail _ (.tail _ (.tail _ (.head _))))))
            have lW6 := ltN (lW _ (.tail _ (.tail _ (.tail _ (.tail _ (.tail _ (.head _)))))))
            dsimp only at lW1 lW2 lW3 lW4 lW5 lW6
            dsimp only
            k_steps
            delta Halt
            refine' exch_spec ld tl _ _ hl5 htl1 (by omega) (resF ld) PL.go _ _ _ _ _ _ _ _ _ _ _ _ _ _ _ _ _ ?q1 ?q2 ?q3 ?q4 ?q5 ?q6 ?q7 ?q8 ?_
            (case q1 => k_asm)
            (case q2 => k_asm)
            (case q3 => k_asm)
            (case q4 => k_asm)
            (case q5 => k_asm)
            (case q6 => first | exact rfl | assumption)
            (case q7 => ktr_room)
            (case q8 => ktr_units)
            rintro v' own' h' tk' ⟨DE, oE, ke, e1, e2, lE, nsE, idE, fpE⟩ F' N'
            subst e1
            subst e2
            simp only [List.cons_append, List.nil_append] at N'
            have lE1 := ltN (lE _ (.head _))
            have lE2 := ltN (lE _ (.tail _ (.head _)))
            have lE3 := ltN (lE _ (.tail _ (.tail _ (.head _))))
            have lE4 := ltN (lE _ (.tail _ (.tail _ (.tail _ (.head _)))))
            have lE5 := ltN (lE _ (.tail _ (.tail _ (.tail _ (.tail _ (.head _))))))
            have lE6 := ltN (lE _ (.tail _ (.tail _ (.tail _ (.tail _ (.tail _ (.head _)))))))
            have lE7 := ltN (lE _ (.tail _ (.tail _ (.tail _ (.tail _ (.tail _ (.tail _ (.head _))))))))
            dsimp only at lE1 lE2 lE3 lE4 lE5 lE6 lE7
            dsimp only
            k_steps
            rename Fr _ _ _ _ => F
            rename News _ _ _ _ => N
            rename ((_ == sysModules) = false) => lo0
            rename (Obj.IsDictOf (PySem.strKind _ _) _ []) => id0
            have hsW : (DW == sysModules) = false := not_sys lW6
            refine keq_empty hsW lo0 (Heap.dictOf_iff.mpr ⟨_, (N _ (.tail _ (.tail _ (.head _)))).1, idW⟩) (Heap.dictOf_iff.mpr ⟨_, (N _ (.head _)).1, id0⟩) (by k_units) (ways_ne hW fpW PL.mem) ?_
            clear lo0 id0
            have N5 : News _ _ _ [_, _, _, _, _, _, _, _] := fun p hp => N p (.tail _ hp)
            clear N
            k_steps
            delta Halt
            rename Fr _ _ _ _ => F
            refine fr_let F ?_
            clear F
            intro MF6 F
            refine LCg.CompSrc.ledger (by rfl) F N5 (.tail _ (.tail _ (.head _))) (by rw [List.size_toArray, sizeLine_eq]; omega) ?_
            intro g1
            refine comp_rest (fun i y => ∃ (x : Int) (t : Tok), (ls.map (lookE (resF ld)))[i]? = some x ∧ y = Value.int x t) (.inr ⟨_, .tail _ (.tail _ (.head _)), rfl, _, rfl⟩) ?_ ?_
            · intro i v I oI C oC D m₂ ys h tk E' hi hv hC hx F' N' off ne
              clear F N5
              obtain ⟨x, tx, hx1, rfl⟩ := strs_at hSL hv
              rw [List.getElem?_map] at hx1
              obtain ⟨u, hu, rfl⟩ := Option.map_eq_some_iff.mp hx1
              have hum := List.mem_of_getElem? hu
              have hw1 : kdpHas cw (mkS (u ++ tl)) = true := (hW.at' u hum).1
              have hw2 : kdpLook cw (mkS (u ++ tl)) 0 = lookE (resF ld) u := (hW.at' u hum).2.trans (PL.ways u hum)
              have hw3 := PL.bnd u hum
              k_steps
              exact ElPost.intro (by assumption) (by assumption) (fun p hp => hp) ⟨_, _, by rw [List.getElem?_map, hu]; rfl, congrArg (fun z => Value.int z _) hw2⟩
            · intro ysA hlA hYA DA hA tkA FA NA offA
              clear F N5
              have hIA : IntsAre ysA (ls.map (lookE (resF ld))) := ints_of_get (by rw [hlA, List.length_map, List.size_toArray, hlL2]) hYA
              clear hYA
              try (with_reducible intro htkA)
              k_steps
              all_goals (try delta Halt)
              rename Fr _ _ _ _ => F
              rename News _ _ _ _ => N
              refine fr_let F ?_
              clear F
              intro MF7 F
              refine LCg.CompSrc.ledger (by rfl) F N (.tail _ (.tail _ (.tail _ (.head _)))) (by rw [List.size_toArray, sizeLine_eq]; omega) ?_
              intro g2
              refine comp_rest (fun i y => ∃ (x : Int) (t : Tok), (ls.map (lookE (resF ld)))[i]? = some x ∧ y = Value.int x t) (.inr ⟨_, .tail _ (.tail _ (.tail _ (.head _))), rfl, _, rfl⟩) ?_ ?_
              · intro i v I oI C oC D m₂ ys h tk E' hi hv hC hx F' N' off ne
                clear F N
                obtain ⟨x, tx, hx1, rfl⟩ := strs_at hSL hv
                rw [List.getElem?_map] at hx1
                obtain ⟨u, hu, rfl⟩ := Option.map_eq_some_iff.mp hx1
                have hum := List.mem_of_getElem? hu
                have hw2 : kdpLook (K tl (resF ld)) (mkS (u ++ tl)) 0 = lookE (resF ld) u := K_look tl (resF ld) u
                have hw3 := PL.bnd u hum
                k_steps
                exact ElPost.intro (by assumption) (by assumption) (fun p hp => hp) ⟨_, _, by rw [List.getElem?_map, hu]; rfl, congrArg (fun z => Value.int z _) hw2⟩
              · intro ysB hlB hYB DB hB tkB FB NB offB
                clear F N
                have hIB : IntsAre ysB (ls.map (lookE (resF ld))) := ints_of_get (by rw [hlB, List.length_map, List.size_toArray, hlL2]) hYB
                clear hYB
                try (with_reducible intro htkB)
                k_steps
                all_goals (try delta Halt)
                have N6 : News _ _ _ [_, _, _, _, _, _] := fun p hp => NB p (by rcases List.mem_cons.mp hp with e | hp; (· rw [e]; exact .tail _ (.tail _ (.tail _ (.head _)))); exact .tail _ (.tail _ (.tail _ (.tail _ (.tail _ hp)))))
                clear NB
                refine' hooks_spec (ld ++ tl) _ _ ?p1 ?p2 _ _ _ _ _ _ _ _ _ _ _ _ _ _ _ _ _ ?q1 ?q2 ?q3 ?q4 ?q5 ?q6 ?q7 ?q8 ?_
                (case q1 => k_asm)
                (case q2 => k_asm)
                (case q3 => k_asm)
                (case q4 => k_asm)
                (case q5 => k_asm)
                (case q6 => first | exact rfl | assumption)
                (case q7 => ktr_room)
                (case q8 => ktr_units)
                (case p1 => rw [List.length_append]; omega)
                (case p2 => rw [List.length_append]; omega)
                obtain ⟨hs, hhs⟩ : ∃ hs, hs = hooksF (ld ++ tl) := ⟨_, rfl⟩
                have hhb := PL.hb
                have hhk := PL.hook
                have hcn := PL.cnt
                rw [← hhs] at hhb hhk
                rw [← hhs] at hcn
                obtain ⟨hh6, hh5⟩ := hhb
                rintro v' own' h' tk' ⟨DH, vsH, kH, e1, e2, hIH, lH⟩ F' N'
                rw [← hhs] at hIH
                have hvH : vsH.length = hs.length := hIH.length
                subst e1
                subst e2
                simp only [List.cons_append, List.nil_append] at N'
                have lH1 := ltN (lH _ (.head _))
                have lH2 := ltN (lH _ (.tail _ (.head _)))
                have lH3 := ltN (lH _ (.tail _ (.tail _ (.head _))))
                have lH4 := ltN (lH _ (.tail _ (.tail _ (.tail _ (.head _)))))
                have lH5 := ltN (lH _ (.tail _ (.tail _ (.tail _ (.tail _ (.head _))))))
                have lH6 := ltN (lH _ (.tail _ (.tail _ (.tail _ (.tail _ (.tail _ (.head _)))))))
                dsimp only at lH1 lH2 lH3 lH4 lH5 lH6
                dsimp only
                k_steps
                all_goals (try delta Halt)
                rename Fr _ _ _ _ => F
                rename News _ _ _ _ => N
                rename IsRange _ _ _ _ _ _ _ _ => R
                refine fr_let F ?_
                clear F
                intro MF8 F
                refine loop_range (n := hs.length) (by rfl) R (rsmall (by omega) (by omega) (by first | omega | (simp only [List.size_toArray]; omega)) (by first | omega | (simp only [List.size_toArray]; omega))) (by rw [rsize]; first | omega | (simp only [List.size_toArray]; omega)) F N
                  (fun M nw i m₁ l' => l' = nw ∧ (∃ t, m₁ (Str.ofString "product") = some (.int (prodF (hs.take i)) t)) ∧ (∃ t, m₁ (Str.ofString "orders") = some (.int (ordF i) t)) ∧ ∀ z, z ≠ Str.ofString "product" → z ≠ Str.ofString "orders" → z ≠ Str.ofString "k" → m₁ z = M z) ?_ ?_ ?_
                · exact ⟨rfl, ⟨_, rfl⟩, ⟨_, rfl⟩, fun z _ _ _ => rfl⟩
                · rintro I it i t m₁ news₁ h tk hi ⟨e1, ⟨tp, hp⟩, ⟨to, hor⟩, hm⟩ ho F' N'
                  clear F N R
                  subst e1
                  rw [frm2_1 hp hor hm] at F'
                  k_fold
                  clear hp hor hm
                  have hb1 := prodF_bd (i := i) hh6 hh5
                  have hi6 : i ≤ 6 := Nat.le_trans (Nat.le_of_lt hi) hh6
                  have hb2 := ordF_bd (i := i) hi6
                  have hel : 1 ≤ hs.getD i 0 ∧ hs.getD i 0 ≤ 5 := by
                    have : hs.getD i 0 ∈ hs := by simp [List.getD_eq_getElem?_getD, hi]
                    exact hh5 _ this
                  have hix : (0 + (i : Int) * 1).toNat = i := idx_to i
                  k_steps
                  refine TurnEnd.intro (by assumption) (by assumption) _ (List.mem_cons_self ..) (fun p hp => List.mem_cons_of_mem _ hp) ho ⟨rfl, ⟨_, int_eq ?_⟩, ⟨_, int_eq ?_⟩, by intro z h1 h2 h3; simp only [h1, h2, h3, if_false]⟩
                  · rw [prodF_succ hi, hix]
                  · rw [ordF_succ]; exact congrArg (fun z : Int => ordF i * z) (congrArg (fun z : Int => z + 1) (idx0 i))
                · rintro h tk m₁ news₁ ⟨e1, ⟨tp, hp⟩, ⟨to, hor⟩, hm⟩ F' N'
                  clear F N R
                  subst e1
                  rw [frm2_1 hp hor hm] at F'
                  rw [List.take_length] at hp F'
                  have hb1 := prodF_bd (i := hs.length) hh6 hh5
                  have hb2 := ordF_bd (i := hs.length) hh6
                  rw [List.take_length] at hb1
                  have hsw1 : kdpHas cw (mkS (st ++ tl)) = true := (hW.at' st PL.smem).1
                  have hsw2 : kdpLook cw (mkS (st ++ tl)) 0 = lookE (resF ld) st := (hW.at' st PL.smem).2.trans (PL.ways st PL.smem)
                  have hsw3 := PL.bnd st PL.smem
                  dsimp only
                  k_steps
                  all_goals (try delta Halt)
                  refine cmp_ne_same (show kdpLook cw (mkS (st ++ tl)) 0 * prodF hs = ordF hs.length by rw [hsw2]; exact hhk) ?_
                  k_steps
                  all_goals (try delta Halt)
                  rename Fr _ _ _ _ => F
                  rename News _ _ _ _ => N
                  rename IsRange _ _ _ _ _ _ _ _ => R
                  rename (DH < _ ∧ _) => lD
                  refine name_addr N ?_
                  intro DD eDD
                  subst eDD
                  refine fr_let F ?_
                  clear F
                  intro MF9 F
                  refine loop_range_cell (own₀ := [_, _, _]) (n := 6 - kt) (by rfl) R (rsmall (by omega) (by omega) (by omega) (by omega)) (by rw [rsize]; exact k76 hk5) F N (by assumption) (by rfl) (by rfl) (by rfl)
                    (fun M O R i m' own rest => ∃ (vs : List Value) (kk : Nat) (trips : List (Addr × Obj)), own = (DD, listOf vs.toArray kk) :: O.tail ∧ rest = R ++ trips ∧ TripsAre trips vs (dueF st ld i) ∧ (∀ p ∈ trips, @LT.lt Nat instLTNat DD p.1) ∧ (dueF st ld i).length ≤ i ∧ ∀ z, z ≠ Str.ofString "here" → z ≠ Str.ofString "there" → m' z = M z) ?_ ?_ ?_ ?_
                  · exact ⟨[], 0, [], rfl, by simp, .nil, by simp, by simp [dueF], fun z _ _ => rfl⟩
                  · rintro i m' own rest ⟨vs, kk, trips, e1, e2, _, hlt, _⟩
                    subst e1
                    subst e2
                    obtain ⟨d1, d2, d3, d4, d5, d6, d7⟩ := id lD
                    have q3 := ltN d3
                    refine ⟨fun p hp => ?_, fun p hp => ?_⟩
                    · simp only [List.tail_cons, List.mem_cons, List.not_mem_nil, or_false] at hp
                      rcases hp with e | e | e
                      · rw [e]; show @Ne Nat _ _; omega
                      · rw [e]; show @Ne Nat _ _; omega
                      · rw [e]; show @Ne Nat _ _; omega
                    · simp only [List.cons_append, List.nil_append, List.mem_cons] at hp
                      rcases hp with e | e | e | e | hp
                      · rw [e]; show @Ne Nat _ _; omega
                      · rw [e]; show @Ne Nat _ _; omega
                      · rw [e]; show @Ne Nat _ _; omega
                      · rw [e]; show @Ne Nat _ _; omega
                      · exact Nat.ne_of_gt (Nat.lt_trans q3 (hlt p hp))
                  · rintro I it i t m own rest o h tk htk hi ⟨vs, kk, trips, e1, e2, hT, hlt, hlen, hm⟩ off hd F' N'
                    clear htk
                    subst e1
                    subst e2
                    simp only [List.tail_cons, List.cons_append, List.nil_append] at N' off
                    clear F N R
                    rw [frm0_2 hm] at F'
                    k_fold
                    clear hm
                    have eI : (1 + (i : Int) * 1) = 1 + (i : Int) := one_idx i
                    have hi6 : i < 6 := Nat.lt_of_lt_of_le hi (Nat.sub_le _ _)
                    have hi66 : 1 + (i : Int) * 1 ≤ 6 := one_le hi6
                    have hi61 : 1 ≤ 1 + (i : Int) * 1 := idx_one i
                    have hi60 : 0 ≤ 1 + (i : Int) * 1 := int_pos hi61
                    have hcol := PL.col (1 + (i : Int) * 1) hi61 hi66
                    have hvT : vs.length = (dueF st ld i).length := hT.length
                    have hvs6 : vs.length ≤ 6 := by rw [hvT]; exact Nat.le_trans hlen (Nat.le_of_lt hi6)
                    replace hvT : Hid _ := hvT
                    replace hlen : Hid _ := hlen
                    replace hi : Hid _ := hi
                    have hDI : @Ne Nat DD I := off _ (.head _)
                    have hID : @Ne Nat I DD := fun e => hDI e.symm
                    have hne : ∀ p ∈ trips, p.1 ≠ DD := fun p hp => Nat.ne_of_gt (hlt p hp)
                    have hnI : ∀ p ∈ trips, p.1 ≠ I := fun p hp => off p (by simp [hp])
                    obtain ⟨d1, d2, d3, d4, d5, d6, d7⟩ := id lD
                    have n1 : @Ne Nat _ DD := Nat.ne_of_lt d1
                    have n2 : @Ne Nat _ DD := Nat.ne_of_lt d2
                    have n3 : @Ne Nat _ DD := Nat.ne_of_lt d3
                    have n4 : @Ne Nat _ DD := Nat.ne_of_lt d4
                    have n5 : @Ne Nat _ DD := Nat.ne_of_lt d5
                    have n6 : @Ne Nat _ DD := Nat.ne_of_lt d6
                    have n7 : @Ne Nat _ DD := Nat.ne_of_lt d7
                    k_steps
                    delta Halt
                    refine' col_spec (mkS (st ++ tl)) _ (1 + (i : Int) * 1) _ _ ?p1 ?p2 ?p3 _ _ _ _ _ _ _ _ _ _ _ _ _ _ _ _ _ ?q1 ?q2 ?q3 ?q4 ?q5 ?q6 ?q7 ?q8 ?_
                    (case q1 => k_asm)
                    (case q2 => k_asm)
                    (case q3 => k_asm)
                    (case q4 => k_asm)
                    (case q5 => k_asm)
                    (case q6 => first | exact rfl | assumption)
                    (case q7 => ktr_room)
                    (case q8 => ktr_units)
                    (case p1 => omega)
                    (case p2 => omega)
                    (case p3 => omega)
                    rintro v' own' h' tk' ⟨t1, e1, e2⟩ F' N'
                    rw [hcol.1, eI] at e1
                    subst e1
                    subst e2
                    simp only [List.nil_append] at N'
                    dsimp only
                    refine stLocN F' N' ?_
                    clear F' N'
                    intro h1 F1 N1
                    dsimp only
                    refine gen_pos ?_
                    intro tkp1 htkp1
                    k_steps
                    delta Halt
                    refine' col_spec (mkS (ld ++ tl)) _ (1 + (i : Int) * 1) _ _ ?p1 ?p2 ?p3 _ _ _ _ _ _ _ _ _ _ _ _ _ _ _ _ _ ?q1 ?q2 ?q3 ?q4 ?q5 ?q6 ?q7 ?q8 ?_
                    (case q1 => k_asm)
                    (case q2 => k_asm)
                    (case q3 => k_asm)
                    (case q4 => k_asm)
                    (case q5 => k_asm)
                    (case q6 => first | exact rfl | assumption)
                    (case q7 => ktr_room)
                    (case q8 => ktr_units)
                    (case p1 => omega)
                    (case p2 => omega)
                    (case p3 => omega)
                    rintro v' own' h' tk' ⟨t2, e1, e2⟩ F' N'
                    rw [hcol.2, eI] at e1
                    subst e1
                    subst e2
                    simp only [List.nil_append] at N'
                    dsimp only
                    refine stLocN F' N' ?_
                    clear F' N'
                    intro h2 F2 N2
                    dsimp only
                    refine gen_pos ?_
                    intro tkp2 htkp2
                    k_steps
                    · rename (colL st _ ≠ colL ld _) => q
                      rename (I < _ ∧ _) => l1
                      rename News _ _ _ _ => NN
                      rw [List.push_toArray, eI] at NN
                      refine due_end (by assumption) NN (Nat.ne_of_gt l1.1) off ⟨[_, _, _], _, _, _, rfl, hd, _, _, _, rfl, rfl, ?_, ?_, ?_, by intro z h1 h2; simp only [h1, h2, if_false]⟩
                      · rw [due_succ, dueStep, if_pos q]
                        exact TripsAre.append (hT.mono fun q hq => List.mem_cons_of_mem _ hq) (.cons _ _ _ _ _ _ _ _ _ (List.mem_cons_self ..) .nil)
                      · intro p hp
                        rcases List.mem_cons.mp hp with e | hp
                        · rw [e]; exact l1.2.1
                        · exact hlt p hp
                      · rw [due_succ, dueStep, if_pos q, List.length_append, List.length_singleton]
                        exact Nat.succ_le_succ hlen
                    · delta Halt
                      rename (colL st _ = colL ld _) => q
                      k_dflt (refine listcomp_tok (by k_asm) (by with_unfolding_all rfl) (by decide) (by rfl) (by decide) (by rfl) ?_)
                      k_steps
                      rename Fr _ _ _ _ => F
                      rename News _ _ _ _ => N
                      refine ⟨DH, vsH.toArray, kH, _, (fun tk j y => ∃ (x : Int) (u : Tok), (hs.map fun z => Int.fmod z (1 + (i : Int) * 1))[j]? = some x ∧ y = Value.int x u ∧ @Ne Nat u 0 ∧ @LT.lt Nat instLTNat u tk), rfl, rfl, F, N, .tail _ (.tail _ (.head _)), by rw [List.size_toArray, sizeLine_eq]; omega, ?_, ?_, ?_⟩
                      · rintro k1 k2 j y hkk ⟨x, u, g1, g2, g3, g4⟩
                        exact ⟨x, u, g1, g2, g3, Nat.lt_of_lt_of_le g4 hkk⟩
                      · intro j v J oJ C oC D m₂ ys h tk E' hv hC hx F' N' off3 ne htk
                        clear F N
                        have htk0 : @LE.le Nat _ 1 tk := Nat.le_trans (by assumption) htk
                        clear htk
                        obtain ⟨x, tx, hxs, rfl⟩ := ints_at hIH hv
                        have hxb := hh5 x (List.mem_of_getElem? hxs)
                        k_steps
                        delta Halt
                        refine' mod_spec x (1 + (i : Int) * 1) _ _ _ ?p1 ?p2 ?p3 ?p4 _ _ _ _ _ _ _ _ _ _ _ _ _ _ _ _ _ ?q1 ?q2 ?q3 ?q4 ?q5 ?q6 ?q7 ?q8 ?q9 ?_
                        (case q1 => k_asm)
                        (case q2 => k_asm)
                        (case q3 => k_asm)
                        (case q4 => k_asm)
                        (case q5 => k_asm)
                        (case q6 => first | exact rfl | assumption)
                        (case q7 => ktr_room)
                        (case q8 => ktr_units)
                        (case q9 => exact htk0)
                        (case p1 => omega)
                        (case p2 => omega)
                        (case p3 => omega)
                        (case p4 => omega)
                        rintro t' h' tk' g1 g2 F' N'
                        dsimp only
                        exact ElPostT.intro (by assumption) (by assumption) (fun p hp => hp) ⟨_, t', by rw [List.getElem?_map, hxs]; rfl, rfl, g1, g2⟩
                      · intro ys D h tk htk hlY hY F' N' off1
                        clear F N
                        have htk0 : @LE.le Nat _ 1 tk := Nat.le_trans (by assumption) htk
                        clear htk
                        have hIY : IntsAre ys (hs.map fun z => Int.fmod z (1 + (i : Int) * 1)) := ints_of_get (by rw [hlY, List.length_map, List.size_toArray, hvH]) fun j v hv => let ⟨x, u, g1, g2, _, _⟩ := hY j v hv; ⟨x, u, g1, g2⟩
                        k_steps
                        delta Halt
                        refine' countI_spec ys _ _ D 0 tk _ ?p1 hIY ?p2 ?p3 ?p4 _ _ _ _ _ _ _ _ _ _ _ _ _ _ _ _ _ ?q1 ?q2 ?q3 ?q4 ?q5 ?q6 ?q7 ?q8 ?_
                        (case q1 => k_asm)
                        (case q2 => k_asm)
                        (case q3 => k_asm)
                        (case q4 => k_asm)
                        (case q5 => k_asm)
                        (case q6 => first | exact rfl | assumption)
                        (case q7 => ktr_room)
                        (case q8 => ktr_units)
                        (case p1 => exact List.mem_cons_self ..)
                        (case p2 => rw [List.length_map]; omega)
                        (case p3 => exact Nat.ne_of_gt htk0)
                        (case p4 =>
                          intro v hv x t hvt
                          obtain ⟨j, hj⟩ := List.getElem?_of_mem hv
                          obtain ⟨x', u, g1, g2, g3, g4⟩ := hY j v hj
                          rw [hvt] at g2
                          injection g2 with g5 g6
                          subst g6
                          exact ⟨g3, fun e => absurd e (Nat.ne_of_lt g4)⟩)
                        rintro v' own' h' tk' ⟨⟨t', e1⟩, e2⟩ F' N'
                        have hcb : (hs.map fun z => Int.fmod z (1 + (i : Int) * 1)).countP (· == 0) ≤ 6 := Nat.le_trans List.countP_le_length (by rw [List.length_map]; exact hh6)
                        have hct := hcn i hi q
                        rw [← eI] at hct
                        obtain ⟨ct, hct0⟩ : ∃ ct, ct = (hs.map fun z => Int.fmod z (1 + (i : Int) * 1)).countP (· == 0) := ⟨_, rfl⟩
                        rw [← hct0] at e1 hcb hct
                        subst e1
                        subst e2
                        simp only [List.nil_append] at N'
                        dsimp only
                        k_steps
                        delta Halt
                        refine cmp_ne_same (by rw [hct]) ?_
                        k_steps
                        refine TurnEnd.intro (by assumption) (by assumption) _ (.tail _ (.head _)) (fun p hp => .tail _ (.tail _ hp)) off ⟨[_, _, _], _, _, _, rfl, hd, vs, kk, trips, rfl, rfl, ?_, hlt, ?_, by intro z h1 h2; simp only [h1, h2, if_false]⟩
                        · rw [due_succ, dueStep, if_neg (by simpa using q)]; exact hT
                        · rw [due_succ, dueStep, if_neg (by simpa using q)]; exact Nat.le_succ_of_le hlen
                  · rintro h tk m own rest o v ⟨vs, kk, trips, e1, e2, hT, hlt, hlen, hm⟩ hd F' N'
                    subst e1
                    subst e2
                    simp only [List.tail_cons, List.cons_append, List.nil_append] at N'
                    clear F N R
                    rw [frm0_2 hm] at F'
                    clear hm
                    dsimp only
                    k_steps
                    delta Halt
                    refine' ws_call _ (st ++ tl) _ _ rfl ?p1 _ _ _ _ _ _ _ _ _ _ _ _ _ _ _ _ _ ?q1 ?q2 ?q3 ?q4 ?q5 ?q6 ?q7 ?q8 ?_
                    (case q1 => k_asm)
                    (case q2 => k_asm)
                    (case q3 => k_asm)
                    (case q4 => k_asm)
                    (case q5 => k_asm)
                    (case q6 => first | exact rfl | assumption)
                    (case q7 => ktr_room)
                    (case q8 => ktr_units)
                    (case p1 => rw [List.length_append]; omega)
                    rintro v' own' h' tk' ⟨x1, d1, Ta1, Tb1, vw1, ka1, kb1, kc1, kd1, ke1, ta1, tb1, tc1, e1, hI1, lx1, ly1, lz1, lw1, e2⟩ F' N'
                    subst e1
                    subst e2
                    simp only [List.cons_append, List.nil_append] at N'
                    dsimp only [tupO] at N'
                    have iw1 := isws_head N' hI1
                    k_lt lx1
                    dsimp only
                    k_steps
                    delta Halt
                    refine' ws_call _ (ld ++ tl) _ _ rfl ?p1 _ _ _ _ _ _ _ _ _ _ _ _ _ _ _ _ _ ?q1 ?q2 ?q3 ?q4 ?q5 ?q6 ?q7 ?q8 ?_
                    (case q1 => k_asm)
                    (case q2 => k_asm)
                    (case q3 => k_asm)
                    (case q4 => k_asm)
                    (case q5 => k_asm)
                    (case q6 => first | exact rfl | assumption)
                    (case q7 => ktr_room)
                    (case q8 => ktr_units)
                    (case p1 => rw [List.length_append]; omega)
                    rintro v' own' h' tk' ⟨x2, d2, Ta2, Tb2, vw2, ka2, kb2, kc2, kd2, ke2, ta2, tb2, tc2, e1, hI2, lx2, ly2, lz2, lw2, e2⟩ F' N'
                    subst e1
                    subst e2
                    simp only [List.cons_append, List.nil_append] at N'
                    dsimp only [tupO] at N'
                    have iw2 := isws_head N' hI2
                    k_lt lx2
                    dsimp only
                    k_steps
                    delta Halt
                    refine' wit_spec (st ++ tl) x1 d1 Ta1 Tb1 vw1 _ ka1 kb1 kc1 kd1 ke1 ta1 tb1 tc1 (ld ++ tl) x2 d2 Ta2 Tb2 vw2 _ ka2 kb2 kc2 kd2 ke2 ta2 tb2 tc2 _ ?p1 ?p2 (IsWs.cons (IsWs.cons (IsWs.cons (IsWs.cons iw1)))) iw2 _ _ _ _ _ _ _ _ _ _ _ _ _ _ _ _ _ ?q1 ?q2 ?q3 ?q4 ?q5 ?q6 ?q7 ?q8 ?_
                    (case q1 => k_asm)
                    (case q2 => k_asm)
                    (case q3 => k_asm)
                    (case q4 => k_asm)
                    (case q5 => k_asm)
                    (case q6 => first | exact rfl | assumption)
                    (case q7 => ktr_room)
                    (case q8 => ktr_units)
                    (case p1 => rw [List.length_append]; omega)
                    (case p2 => rw [List.length_append]; omega)
                    rintro v' own' h' tk' ⟨DR, vR, kR, restR, e1, e2, hTR⟩ F' N'
                    rw [PL.wit] at hTR
                    subst e1
                    subst e2
                    dsimp only
                    simp only [List.cons_append] at N'
                    k_steps
                    delta Halt
                    rename Fr _ _ _ _ => F
                    rename News _ _ _ _ => N
                    refine trips_eq (n₁ := restR) (n₂ := trips) N (.head _) (.tail _ (List.mem_append_right _ (.tail _ (.tail _ (.tail _ (.tail _ (.tail _ (.tail _ (.tail _ (.tail _ (.head _))))))))))) hTR (fun p hp => .tail _ (List.mem_append_left _ hp)) hT (fun p hp => .tail _ (List.mem_append_right _ (.tail _ (.tail _ (.tail _ (.tail _ (.tail _ (.tail _ (.tail _ (.tail _ (.tail _ (.tail _ (.tail _ (.tail _ (.tail _ (.tail _ (.tail _ (.tail _ (hp))))))))))))))))))) (by k_units) ?_
                    k_steps
end
end
end Mine
theorem PySem.Challenge.cw_sw0060_01_holds : PySem.Challenge.rw_sw0060_01.Holds :=
  Mine.law_holds
