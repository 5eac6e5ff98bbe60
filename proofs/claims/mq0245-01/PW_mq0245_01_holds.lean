import PyProof.Rows.All
import Wide.All
import OpenK.AllK
import Wide.FinOn
import PySem.Challenge.RW_mq0245_01
open PySem PySem.W PyProof.Rows PySem.Calls
set_option Elab.async false
set_option maxRecDepth 100000
set_option maxHeartbeats 8000000
namespace Mine
open_top hd for PySem.Challenge.rw_mq0245_01
end Mine
namespace Mine

/-- what a turn leaves: the frame, the ledger, the state that goes on -/
def TEnd {σ : Type} (h₀ : Heap) (L : Addr) (P : σ → Prop) (M : σ → Str → Option Value) (nw : σ → List (Addr × Obj)) (rest : List (Addr × Obj)) (s₁ s₂ : Shared) : Prop :=
  ∃ h' tk m' news' st, s₂ = { s₁ with heap := h', toks := tk } ∧ Fr h₀ L h' m' ∧ News h₀ L h' news' ∧ (∀ p ∈ nw st ++ rest, p ∈ news') ∧ P st ∧ ∀ y, m' y = M st y
def TPost {σ : Type} (h₀ : Heap) (L : Addr) (P : σ → Prop) (M : σ → Str → Option Value) (nw : σ → List (Addr × Obj)) (rest : List (Addr × Obj)) (s₁ : Shared) (Q : Flow → Shared → Prop) (f : Flow) (s₂ : Shared) : Prop :=
  match f with
  | .ret v => Q (.ret v) s₂
  | .brk => Q .next s₂
  | _ => TEnd h₀ L P M nw rest s₁ s₂

theorem TEnd.mk {σ : Type} {h₀ : Heap} {L : Addr} {P : σ → Prop} {M : σ → Str → Option Value} {nw : σ → List (Addr × Obj)} {rest : List (Addr × Obj)} {s₁ : Shared} {h' : Heap} {tk : Nat} {m' : Str → Option Value} {news' : List (Addr × Obj)} (st : σ)
    (F : Fr h₀ L h' m') (N : News h₀ L h' news') (hsub : ∀ p ∈ nw st ++ rest, p ∈ news') (hP : P st) (hM : ∀ y, m' y = M st y) : TEnd h₀ L P M nw rest s₁ { s₁ with heap := h', toks := tk } :=
  ⟨h', tk, m', news', st, rfl, F, N, hsub, hP, hM⟩

section
variable {prog : Program} {w : World} {A : Around} {E : Value → Shared → Prop} {s : Shared} {env : Env} {h₀ : Heap} {x : Str} {body : List Stmt} {Q : Flow → Shared → Prop}

theorem loop_walks {σ : Type} {I : Addr} {fp : List Addr} {n : Nat} {Pv : Nat → Value → Prop} {St : Nat → Heap → Prop} {m₀ : Str → Option Value} {news : List (Addr × Obj)}
    (M : σ → Str → Option Value) (nw : σ → List (Addr × Obj)) (P : Nat → σ → Prop) (st₀ : σ)
    (W : Walks prog w A I fp [I] n Pv St) (hLf : env.locals ∉ fp) (hI : h₀.get? I = none)
    (hIt : ∀ i h, St i h → ∃ o, h.get? I = some o ∧ o.cls ≠ .type "list")
    (hcl : ∀ st, ∀ p ∈ nw st, p.2.cls = .type "list")
    (hst : St 0 s.heap) (F : Fr h₀ env.locals s.heap m₀) (N : News h₀ env.locals s.heap (nw st₀ ++ news)) (hNI : ∀ p ∈ nw st₀ ++ news, p.1 ≠ I)
    (hP : P 0 st₀) (hM : ∀ y, m₀ y = M st₀ y)
    (turn : ∀ i v st h tk own, i < n → Pv i v → P i st → Fr h₀ env.locals h (fun y => if y = x then some v else M st y) → News h₀ env.locals h (nw st ++ (news ++ own)) →
      wpAny (model prog w) A (execs body env) (TPost h₀ env.locals (P (i + 1)) M nw (news ++ own) { s with heap := h, toks := tk } Q) E { s with heap := h, toks := tk })
    (done : ∀ st h tk, P n st → Fr h₀ env.locals h (M st) → News h₀ env.locals h (nw st ++ news) → Q .next { s with heap := h, toks := tk }) :
    LoopAtV prog w A h₀ env x body Q E (.ref I) s := by
  have hwr : ∀ p ∈ nw st₀ ++ news, p.1 ∉ [I] := fun p hp hm => hNI p hp (List.mem_singleton.mp hm)
  have hm₀ : m₀ = M st₀ := funext hM
  refine ⟨I, fp, [I], n, Pv, St, m₀, nw st₀ ++ news, fun i m₁ news₁ => ∃ st, P i st ∧ m₁ = M st ∧ news₁ = nw st ++ news, rfl, W, hLf, fun b hb => (List.mem_singleton.mp hb) ▸ hI, hwr, hst, F, N, ⟨st₀, hP, hm₀, rfl⟩, ?_, ?_⟩
  · rintro i v m₁ news₁ s₁ own ⟨h, tk, rfl⟩ hin hPv ⟨st, hPi, rfl, rfl⟩ hoff _ _ hown hSt F₁ N₁
    have hIo : ∃ o, (I, o) ∈ own ∧ o.cls ≠ .type "list" := by
      obtain ⟨o, ho, hc⟩ := hIt _ _ hSt
      exact ⟨o, hown I (W.sub _ (.head _)) hI o ho, hc⟩
    have N₂ : News h₀ env.locals h (nw st ++ (news ++ own)) := fun p hp => N₁ p (by
      simp only [List.mem_append] at hp ⊢
      rcases hp with h1 | h1 | h1
      · exact .inr (.inl h1)
      · exact .inr (.inr h1)
      · exact .inl h1)
    refine wpAny_mono (turn i v st h tk own hin hPv hPi F₁ N₂) (fun f s₂ p => ?_) fun _ _ e => e
    have fin : TEnd h₀ env.locals (P (i + 1)) M nw (news ++ own) { s with heap := h, toks := tk } s₂ →
        LoopStepU h₀ env.locals [I] own (fun m₁ news₁ => ∃ st, P (i + 1) st ∧ m₁ = M st ∧ news₁ = nw st ++ news) { s with heap := h, toks := tk } .next s₂ := by
      rintro ⟨h', tk', m', news', st', e, F', N', hsub, hP', hM'⟩
      refine ⟨rfl, h', tk', m', nw st' ++ news, e, F', fun p hp => N' p (hsub p ?_), ?_, ⟨st', hP', funext hM', rfl⟩⟩
      · simp only [List.mem_append] at hp ⊢
        rcases hp with h1 | h1 | h1
        · exact .inr (.inr h1)
        · exact .inl h1
        · exact .inr (.inl h1)
      · intro p hp hm
        have hpI : p.1 = I := List.mem_singleton.mp hm
        rcases List.mem_append.mp hp with h1 | h1
        · obtain ⟨o, ho, hc⟩ := hIo
          have e1 := (N' p (hsub p (List.mem_append_left _ h1))).1
          have e2 := (N' (I, o) (hsub _ (by simp [ho]))).1
          rw [hpI] at e1
          have e3 : p.2 = o := Option.some.inj (e1.symm.trans e2)
          exact hc (e3 ▸ hcl st' p h1)
        · exact hNI p (List.mem_append_right _ h1) hpI
    cases f with
    | ret v => exact .ret p
    | brk => exact .brk p
    | next => exact .next (fin p)
    | cont => exact .cont (fin p)
  · rintro h' tk m' news' F' N' _ ⟨st, hPn, rfl, rfl⟩
    exact done st h' tk hPn F' N'

theorem iter_list {σ : Type} {l : Addr} {vs : List Value} {m₀ : Str → Option Value} {news : List (Addr × Obj)}
    (M : σ → Str → Option Value) (nw : σ → List (Addr × Obj)) (P : Nat → σ → Prop) (st₀ : σ)
    (hh : A.handled = none) (hl : s.heap.IsList l vs.toArray) (hlL : l ≠ env.locals)
    (hcl : ∀ st, ∀ p ∈ nw st, p.2.cls = .type "list")
    (F : Fr h₀ env.locals s.heap m₀) (N : News h₀ env.locals s.heap (nw st₀ ++ news))
    (hP : P 0 st₀) (hM : ∀ y, m₀ y = M st₀ y)
    (turn : ∀ i v st h tk own, vs[i]? = some v → P i st → Fr h₀ env.locals h (fun y => if y = x then some v else M st y) → News h₀ env.locals h (nw st ++ (news ++ own)) →
      wpAny (model prog w) A (execs body env) (TPost h₀ env.locals (P (i + 1)) M nw (news ++ own) { s with heap := h, toks := tk } Q) E { s with heap := h, toks := tk })
    (done : ∀ st h tk, P vs.length st → Fr h₀ env.locals h (M st) → News h₀ env.locals h (nw st ++ news) → Q .next { s with heap := h, toks := tk }) :
    wpAny (model prog w) A (pyIter (.ref l)) (fun it s₂ => LoopAtV prog w A h₀ env x body Q E it s₂) E s := by
  obtain ⟨ol, hol, _⟩ := id hl
  have hne : l ≠ s.heap.objs.size := Nat.ne_of_lt (Heap.lt_size hol)
  have hnew : h₀.get? s.heap.objs.size = none := by
    cases q : h₀.get? s.heap.objs.size with
    | none => rfl
    | some o => exact absurd (Heap.lt_size (F.keep _ _ q)) (Nat.lt_irrefl _)
  refine wpAny_pyIter_list hl ?_
  have W := Walks.list (prog := prog) (w := w) hh s.heap.objs.size l hne vs.toArray
  rw [List.size_toArray] at W
  refine loop_walks (s := { s with heap := s.heap.push { cls := .type "list_iterator", data := .fields #[.ref l, .int 0 0] } }) M nw P st₀ W ?_ hnew ?_ hcl ⟨⟨_, Heap.get?_push_size _ rfl, rfl, rfl⟩, hl.push _⟩ (F.push _) (fun p hp => ⟨Heap.get?_push_of_some _ (N p hp).1, (N p hp).2⟩) ?_ hP hM ?_ ?_
  · intro hm
    rcases List.mem_cons.mp hm with e | hm
    · exact absurd F.ns.lt (e ▸ Nat.lt_irrefl _)
    · exact hlL (List.mem_singleton.mp hm).symm
  · rintro i h ⟨⟨o, ho, hc, _⟩, _⟩
    exact ⟨o, ho, by rw [hc]; decide⟩
  · intro p hp e
    exact absurd (Heap.lt_size (N p hp).1) (e ▸ Nat.lt_irrefl _)
  · intro i v st h tk own _ hv hPi F₁ N₁
    exact turn i v st h tk own (by simpa using hv) hPi F₁ N₁
  · intro st h tk hPn F₁ N₁
    exact done st h tk hPn F₁ N₁

theorem range_size (n : Nat) : Builtin.Range.rangeSize 0 (n : Int) 1 = (n : Int) := by
  unfold Builtin.Range.rangeSize
  rw [if_pos (by decide)]
  split <;> omega
theorem fits_long {i : Int} (h0 : 0 ≤ i) (h1 : i < 2000000) : Builtin.Range.rangeFitsLong i = true := by
  unfold Builtin.Range.rangeFitsLong
  have e : (2 : Int) ^ 63 = 9223372036854775808 := by decide
  rw [e, Bool.and_eq_true, decide_eq_true_eq, decide_eq_true_eq]
  omega
theorem range_small (n : Nat) (hn : n < 1000000) : Builtin.Range.small 0 (n : Int) 1 = true := by
  unfold Builtin.Range.small
  rw [range_size, fits_long (by omega) (by omega), fits_long (by omega) (by omega), fits_long (by omega) (by omega), if_pos (by decide), fits_long (i := (n : Int) + (1 - 1)) (by omega) (by omega)]
  simp
theorem iter_range {σ : Type} {r : Addr} {b : Int} {n : Nat} {t u v : Tok} {m₀ : Str → Option Value} {news : List (Addr × Obj)}
    (M : σ → Str → Option Value) (nw : σ → List (Addr × Obj)) (P : Nat → σ → Prop) (st₀ : σ)
    (hh : A.handled = none) (hr : IsRange s.heap r 0 b 1 t u v) (hb : b = (n : Int)) (hn : n < 1000000)
    (hcl : ∀ st, ∀ p ∈ nw st, p.2.cls = .type "list")
    (F : Fr h₀ env.locals s.heap m₀) (N : News h₀ env.locals s.heap (nw st₀ ++ news))
    (hP : P 0 st₀) (hM : ∀ y, m₀ y = M st₀ y)
    (turn : ∀ i tk' st h tk own, i < n → P i st → Fr h₀ env.locals h (fun y => if y = x then some (.int (i : Int) tk') else M st y) → News h₀ env.locals h (nw st ++ (news ++ own)) →
      wpAny (model prog w) A (execs body env) (TPost h₀ env.locals (P (i + 1)) M nw (news ++ own) { s with heap := h, toks := tk } Q) E { s with heap := h, toks := tk })
    (done : ∀ st h tk, P n st → Fr h₀ env.locals h (M st) → News h₀ env.locals h (nw st ++ news) → Q .next { s with heap := h, toks := tk }) :
    wpAny (model prog w) A (pyIter (.ref r)) (fun it s₂ => LoopAtV prog w A h₀ env x body Q E it s₂) E s := by
  have hnew : h₀.get? s.heap.objs.size = none := by
    cases q : h₀.get? s.heap.objs.size with
    | none => rfl
    | some o => exact absurd (Heap.lt_size (F.keep _ _ q)) (Nat.lt_irrefl _)
  subst hb
  refine wpAny_pyIter_range hr ?small ?_
  case small => exact range_small n hn
  have hsz := range_size n
  rw [hsz]
  have W := Walks.range (prog := prog) (w := w) hh s.heap.objs.size 0 1 n
  refine loop_walks (s := { s with heap := s.heap.push { cls := .type "range_iterator", data := .fields #[rawInt 0, rawInt (n : Int), rawInt 1] } }) M nw P st₀ W ?_ hnew ?_ hcl ?_ (F.push _) (fun p hp => ⟨Heap.get?_push_of_some _ (N p hp).1, (N p hp).2⟩) ?_ hP hM ?_ ?_
  · intro hm
    exact absurd F.ns.lt ((List.mem_singleton.mp hm) ▸ Nat.lt_irrefl _)
  · intro i h hh'
    exact ⟨_, hh', by simp⟩
  · show IsRangeIter _ _ _ _ _
    simp only [Int.natCast_zero, Int.zero_mul, Int.add_zero, Int.sub_zero]
    exact Heap.get?_push_size _ rfl
  · intro p hp e
    exact absurd (Heap.lt_size (N p hp).1) (e ▸ Nat.lt_irrefl _)
  · rintro i v' st h tk own hin ⟨t', rfl⟩ hPi F₁ N₁
    have e0 : (0 : Int) + (i : Int) * 1 = (i : Int) := by omega
    rw [e0] at F₁
    exact turn i t' st h tk own hin hPi F₁ N₁
  · intro st h tk hPn F₁ N₁
    exact done st h tk hPn F₁ N₁

/-- the same, the maps written over the frame's own map -/
theorem iter_listM {σ : Type} {l : Addr} {vs : List Value} {m₀ : Str → Option Value} {news : List (Addr × Obj)}
    (M : (Str → Option Value) → σ → Str → Option Value) (nw : σ → List (Addr × Obj)) (P : Nat → σ → Prop)
    (hh : A.handled = none) (hl : s.heap.IsList l vs.toArray) (hlL : l ≠ env.locals)
    (hcl : ∀ st, ∀ p ∈ nw st, p.2.cls = .type "list")
    (F : Fr h₀ env.locals s.heap m₀)
    (start : ∃ st₀, P 0 st₀ ∧ News h₀ env.locals s.heap (nw st₀ ++ news) ∧ ∀ y, m₀ y = M m₀ st₀ y)
    (turn : ∀ i v st h tk own, vs[i]? = some v → P i st → Fr h₀ env.locals h (fun y => if y = x then some v else M m₀ st y) → News h₀ env.locals h (nw st ++ (news ++ own)) →
      wpAny (model prog w) A (execs body env) (TPost h₀ env.locals (P (i + 1)) (M m₀) nw (news ++ own) { s with heap := h, toks := tk } Q) E { s with heap := h, toks := tk })
    (done : ∀ st h tk, P vs.length st → Fr h₀ env.locals h (M m₀ st) → News h₀ env.locals h (nw st ++ news) → Q .next { s with heap := h, toks := tk }) :
    wpAny (model prog w) A (pyIter (.ref l)) (fun it s₂ => LoopAtV prog w A h₀ env x body Q E it s₂) E s := by
  obtain ⟨st₀, hP, N, hM⟩ := start
  exact iter_list (M m₀) nw P st₀ hh hl hlL hcl F N hP hM turn done

theorem iter_rangeM {σ : Type} {r : Addr} {b : Int} {n : Nat} {t u v : Tok} {m₀ : Str → Option Value} {news : List (Addr × Obj)}
    (M : (Str → Option Value) → σ → Str → Option Value) (nw : σ → List (Addr × Obj)) (P : Nat → σ → Prop)
    (hh : A.handled = none) (hr : IsRange s.heap r 0 b 1 t u v) (hb : b = (n : Int)) (hn : n < 1000000)
    (hcl : ∀ st, ∀ p ∈ nw st, p.2.cls = .type "list")
    (F : Fr h₀ env.locals s.heap m₀)
    (start : ∃ st₀, P 0 st₀ ∧ News h₀ env.locals s.heap (nw st₀ ++ news) ∧ ∀ y, m₀ y = M m₀ st₀ y)
    (turn : ∀ i tk' st h tk own, i < n → P i st → Fr h₀ env.locals h (fun y => if y = x then some (.int (i : Int) tk') else M m₀ st y) → News h₀ env.locals h (nw st ++ (news ++ own)) →
      wpAny (model prog w) A (execs body env) (TPost h₀ env.locals (P (i + 1)) (M m₀) nw (news ++ own) { s with heap := h, toks := tk } Q) E { s with heap := h, toks := tk })
    (done : ∀ st h tk, P n st → Fr h₀ env.locals h (M m₀ st) → News h₀ env.locals h (nw st ++ news) → Q .next { s with heap := h, toks := tk }) :
    wpAny (model prog w) A (pyIter (.ref r)) (fun it s₂ => LoopAtV prog w A h₀ env x body Q E it s₂) E s := by
  obtain ⟨st₀, hP, N, hM⟩ := start
  exact iter_range (M m₀) nw P st₀ hh hr hb hn hcl F N hP hM turn done
end

theorem upd1 {m : Str → Option Value} {a : Str} {va : Option Value} (ha : m a = va) : ∀ y, m y = if y = a then va else m y := by
  intro y
  by_cases h1 : y = a
  · rw [if_pos h1, h1, ha]
  · rw [if_neg h1]
theorem upd2 {m : Str → Option Value} {a b : Str} {va vb : Option Value} (ha : m a = va) (hb : m b = vb) : ∀ y, m y = if y = a then va else if y = b then vb else m y := by
  intro y
  by_cases h1 : y = a
  · rw [if_pos h1, h1, ha]
  · rw [if_neg h1]; exact upd1 hb y
theorem upd3 {m : Str → Option Value} {a b c : Str} {va vb vc : Option Value} (ha : m a = va) (hb : m b = vb) (hc : m c = vc) : ∀ y, m y = if y = a then va else if y = b then vb else if y = c then vc else m y := by
  intro y
  by_cases h1 : y = a
  · rw [if_pos h1, h1, ha]
  · rw [if_neg h1]; exact upd2 hb hc y

theorem TEnd.of1 {α : Type} {h₀ : Heap} {L : Addr} {a : Str} {P : Option Value × α → Prop} {m₀ : Str → Option Value} {nw : Option Value × α → List (Addr × Obj)} {rest : List (Addr × Obj)} {s₁ : Shared} {h' : Heap} {tk : Nat} {m' : Str → Option Value} {news' : List (Addr × Obj)} (x : α)
    (F : Fr h₀ L h' m') (N : News h₀ L h' news') (hsub : ∀ p ∈ nw (m' a, x) ++ rest, p ∈ news') (hP : P (m' a, x)) (hM : ∀ y, y ≠ a → m' y = m₀ y) :
    TEnd h₀ L P (fun st y => if y = a then st.1 else m₀ y) nw rest s₁ { s₁ with heap := h', toks := tk } :=
  TEnd.mk (m' a, x) F N hsub hP fun y => by
    by_cases h1 : y = a
    · rw [if_pos h1, h1]
    · rw [if_neg h1]; exact hM y h1
theorem TEnd.of2 {α : Type} {h₀ : Heap} {L : Addr} {a b : Str} {P : Option Value × Option Value × α → Prop} {m₀ : Str → Option Value} {nw : Option Value × Option Value × α → List (Addr × Obj)} {rest : List (Addr × Obj)} {s₁ : Shared} {h' : Heap} {tk : Nat} {m' : Str → Option Value} {news' : List (Addr × Obj)} (x : α)
    (F : Fr h₀ L h' m') (N : News h₀ L h' news') (hsub : ∀ p ∈ nw (m' a, m' b, x) ++ rest, p ∈ news') (hP : P (m' a, m' b, x)) (hM : ∀ y, y ≠ a → y ≠ b → m' y = m₀ y) :
    TEnd h₀ L P (fun st y => if y = a then st.1 else if y = b then st.2.1 else m₀ y) nw rest s₁ { s₁ with heap := h', toks := tk } :=
  TEnd.mk (m' a, m' b, x) F N hsub hP fun y => by
    by_cases h1 : y = a
    · rw [if_pos h1, h1]
    · rw [if_neg h1]
      by_cases h2 : y = b
      · rw [if_pos h2, h2]
      · rw [if_neg h2]; exact hM y h1 h2

theorem TEnd.of3 {α : Type} {h₀ : Heap} {L : Addr} {a b c : Str} {P : Option Value × Option Value × Option Value × α → Prop} {m₀ : Str → Option Value} {nw : Option Value × Option Value × Option Value × α → List (Addr × Obj)} {rest : List (Addr × Obj)} {s₁ : Shared} {h' : Heap} {tk : Nat} {m' : Str → Option Value} {news' : List (Addr × Obj)} (x : α)
    (F : Fr h₀ L h' m') (N : News h₀ L h' news') (hsub : ∀ p ∈ nw (m' a, m' b, m' c, x) ++ rest, p ∈ news') (hP : P (m' a, m' b, m' c, x)) (hM : ∀ y, y ≠ a → y ≠ b → y ≠ c → m' y = m₀ y) :
    TEnd h₀ L P (fun st y => if y = a then st.1 else if y = b then st.2.1 else if y = c then st.2.2.1 else m₀ y) nw rest s₁ { s₁ with heap := h', toks := tk } :=
  TEnd.mk (m' a, m' b, m' c, x) F N hsub hP fun y => by
    by_cases h1 : y = a
    · rw [if_pos h1, h1]
    · rw [if_neg h1]
      by_cases h2 : y = b
      · rw [if_pos h2, h2]
      · rw [if_neg h2]
        by_cases h3 : y = c
        · rw [if_pos h3, h3]
        · rw [if_neg h3]; exact hM y h1 h2 h3

section
open Builtin Builtin.Str
theorem gives_find4 (x y : Str) (i : Int) (t u v v' : Tok) : Gives («str.find» ⟨[.str x t, .str y u, .int i v, .int (x.length : Int) v'], []⟩) (.int (Txt.find3 x y i)) := by
  show Gives (match occurrences x y (fromIndex x.length i) (min (fromIndex x.length (x.length : Int)) x.length) 1 with | k :: _ => retInt k | [] => (do rule "str.find.not-found"; retInt (-1))) _
  have e : min (fromIndex x.length (x.length : Int)) x.length = x.length := by unfold fromIndex; split <;> omega
  rw [e]
  unfold Txt.find3
  cases occurrences x y (fromIndex x.length i) x.length 1 with
  | nil => exact .rule (.of_eq rfl)
  | cons k _ => exact .of_eq rfl
theorem find4 {prog : Program} {w : World} {A : Around} {E : Value → Shared → Prop} {s : Shared} {x y : Str} {t u v v' : Tok} {i j : Int} {Q : Value → Shared → Prop} (hj : j = (x.length : Int))
    (hq : Q (.int (Txt.find3 x y i) s.toks) { s with toks := s.toks + 1 }) : wpAny (model prog w) A (call (.builtin "str.find") [.str x t, .str y u, .int i v, .int j v']) Q E s := by
  subst hj
  exact call_gives F.slot_str_find (typeIs_str _ _ _) F.entry_str_find (F.args_str_find_4 _ _ _ _) (gives_find4 x y i t u v v') hq
end
end Mine
namespace Mine
open StrLaws Builtin Builtin.Str

abbrev one (c : Nat) : Str := ⟨#[c]⟩
abbrev dots : Str := Str.ofString "..."
theorem dots_is : dots = ⟨#[46, 46, 46]⟩ := by decide +kernel
theorem empty_is : Str.ofString "" = ⟨#[]⟩ := by decide +kernel
def tailOf : List Nat → List Nat
  | [] => []
  | c :: cs => c :: 46 :: 46 :: 46 :: tailOf cs

theorem at_dots {x : Str} {a : Nat} : At x dots x.length a ↔ (x.cps.toList.drop a).take 3 = [46, 46, 46] := by
  unfold At
  rw [subAt_eq, dots_is, beq_iff_eq]
  show (a + 3 ≤ x.length ∧ (x.cps.toList.drop a).take 3 = [46, 46, 46]) ↔ _
  constructor
  · exact fun h => h.2
  · intro h
    refine ⟨?_, h⟩
    have := congrArg List.length h
    simp at this
    show a + 3 ≤ x.cps.size
    omega

theorem sub_nil (x : Str) (a b : Nat) (h : b ≤ a) : strSub x a b = Str.ofString "" := by
  rw [empty_is]
  apply Str.ext'
  apply Array.toList_inj.mp
  rw [strSub_toList, Nat.sub_eq_zero_of_le h]
  simp

theorem tail_parts (x : Str) : ∀ (cs : List Nat) (a f : Nat) (cuts : List Nat), (∀ c ∈ cs, c ≠ 46) → x.cps.toList.drop a = tailOf cs → ChainG x dots x.length a cuts f → (∀ k, f ≤ k → ¬ At x dots x.length k) →
    partsFrom x 3 a cuts = cs.map one ++ [Str.ofString ""]
  | [], a, f, cuts, _, hd, hc, hn => by
    have hlen : x.length ≤ a := by
      have := congrArg List.length hd
      simp [tailOf] at this
      show x.cps.size ≤ a
      omega
    cases cuts with
    | nil => show [strSub x a x.length] = _; rw [sub_nil x a _ hlen]; rfl
    | cons d r =>
      exfalso
      have h1 := hc.1
      have h2 := hc.2.1.1
      have : dots.length = 3 := by rw [dots_is]; rfl
      omega
  | c :: cs, a, f, cuts, hne, hd, hc, hn => by
    have hd4 : x.cps.toList.drop (a + 4) = tailOf cs := by
      rw [← List.drop_drop, hd]; rfl
    have hA1 : At x dots x.length (a + 1) := at_dots.mpr (by rw [← List.drop_drop, hd]; rfl)
    have hA0 : ¬ At x dots x.length a := fun h => by
      have := at_dots.mp h
      rw [hd] at this
      have h46 : c = 46 := by simpa [tailOf] using this
      exact hne c (.head _) h46
    cases cuts with
    | nil =>
      have e : f = a := hc
      exact absurd hA1 (hn (a + 1) (by omega))
    | cons d r =>
      obtain ⟨h1, h2, h3, h4⟩ := hc
      have hda : d ≠ a := fun e => hA0 (e ▸ h2)
      have hd1 : d = a + 1 := by
        rcases Nat.lt_or_ge (a + 1) d with h | h
        · exact absurd hA1 (h3 (a + 1) (by omega) h)
        · omega
      subst hd1
      have h3' : dots.length = 3 := by rw [dots_is]; rfl
      rw [h3'] at h4
      show strSub x a (a + 1) :: partsFrom x 3 (a + 1 + 3) r = _
      rw [tail_parts x cs (a + 1 + 3) f r (fun c hc => hne c (.tail _ hc)) hd4 h4 hn]
      have e1 : strSub x a (a + 1) = one c := by
        apply Str.ext'
        apply Array.toList_inj.mp
        rw [strSub_toList, hd]
        have : a + 1 - a = 1 := by omega
        rw [this]; rfl
      rw [e1]; rfl

theorem join_list_of : ∀ (c : Nat) (cs : List Nat), (Str.join dots ((c :: cs).map one)).cps.toList ++ [46, 46, 46] = tailOf (c :: cs)
  | c, [] => rfl
  | c, d :: cs => by
    have ih := join_list_of d cs
    show (one c ++ dots ++ Str.join dots ((d :: cs).map one)).cps.toList ++ [46, 46, 46] = c :: 46 :: 46 :: 46 :: tailOf (d :: cs)
    rw [← ih, dots_is]
    show ((#[c] ++ #[46, 46, 46] ++ (Str.join ⟨#[46, 46, 46]⟩ ((d :: cs).map one)).cps : Array Nat).toList) ++ [46, 46, 46] = _
    simp

abbrev wantOf (row : List Str) : Str := dots ++ Txt.join dots row ++ dots
theorem want_list (c : Nat) (cs : List Nat) : (wantOf ((c :: cs).map one)).cps.toList = 46 :: 46 :: 46 :: tailOf (c :: cs) := by
  have e : Txt.join dots ((c :: cs).map one) = Str.join dots ((c :: cs).map one) := glued_eq_join _ _
  show ((dots.cps ++ (Txt.join dots ((c :: cs).map one)).cps ++ dots.cps : Array Nat)).toList = _
  rw [e, Array.toList_append, Array.toList_append, List.append_assoc]
  have h := join_list_of c cs
  have hdot : dots.cps.toList = [46, 46, 46] := by rw [dots_is]
  rw [hdot, h]; rfl

theorem want_at0 (c : Nat) (cs : List Nat) : At (wantOf ((c :: cs).map one)) dots (wantOf ((c :: cs).map one)).length 0 := at_dots.mpr (by rw [want_list]; rfl)

theorem want_in (c : Nat) (cs : List Nat) : (occurrences (wantOf ((c :: cs).map one)) dots 0 (wantOf ((c :: cs).map one)).length 1).isEmpty = false := by
  have h := (found_iff (wantOf ((c :: cs).map one)) dots).mpr ⟨0, (want_at0 c cs).1, (want_at0 c cs).2⟩
  simpa using h

theorem kind_dots (x : Str) : ¬ Builtin.Str.strKind x < Builtin.Str.strKind dots := by
  have h : Builtin.Str.strKind dots = 1 := by decide +kernel
  rw [h]
  unfold Builtin.Str.strKind
  split
  · omega
  · split <;> omega

theorem want_split (c : Nat) (cs : List Nat) (hne : ∀ d ∈ c :: cs, d ≠ 46) : Txt.split (wantOf ((c :: cs).map one)) dots = Str.ofString "" :: ((c :: cs).map one ++ [Str.ofString ""]) := by
  have hA := want_at0 c cs
  have h3' : dots.length = 3 := by rw [dots_is]; rfl
  obtain ⟨f, hG, hn⟩ := occ_tight (wantOf ((c :: cs).map one)) dots (by omega)
  have hX := want_list c cs
  generalize wantOf ((c :: cs).map one) = x at *
  unfold Txt.split
  rw [if_neg ?k1]
  case k1 =>
    rw [Bool.or_eq_true, decide_eq_true_eq, decide_eq_true_eq]
    rintro (h | h)
    · have := hA.1; omega
    · exact kind_dots _ h
  cases hc : occurrences x dots 0 x.length (x.length + 1) with
  | nil =>
    rw [hc] at hG
    have e : f = 0 := hG
    exact absurd hA (hn 0 (by omega))
  | cons d r =>
    rw [hc] at hG
    obtain ⟨h1, h2, h3, h4⟩ := hG
    have hd0 : d = 0 := by
      rcases Nat.lt_or_ge 0 d with h | h
      · exact absurd hA (h3 0 (Nat.le_refl _) h)
      · omega
    subst hd0
    rw [if_neg (by simp), partsBetween_eq, h3']
    rw [h3'] at h4
    show strSub x 0 0 :: partsFrom x 3 (0 + 3) r = _
    rw [tail_parts x (c :: cs) (0 + 3) f r hne (by rw [hX]; rfl) h4 hn, sub_nil x 0 0 (Nat.le_refl _)]
end Mine
namespace Mine
theorem fill : (Challenge.rw_mq0245_01, hd.heap_39) = (Challenge.rw_mq0245_01, Mine.hd.heap_39) := by
  k_fill
  rfl
theorem enter {prog : Program} {w : World} {A : Around} {s : Shared} {K : Frag} {R : Result → Shared → Prop} {name qual : Str} {params : Arguments} {body : List Stmt} {scope : Scope} {dV kV doc pm cdv ct oc : Value} {an od : Option Addr} {osl : Array (Option Value)} {f : Addr} {args : Args} {binds : List (Str × Value)}
    (X : K.In s.heap) (hlim : s.heap.NoLimit)
    (ho : K.lookup f = some ⟨oc, od, .func (fnOf name qual params body scope dV kV doc pm an cdv ct), osl⟩) (hcd : codeIn K cdv qual = true) (hroom : A.depth < recursionLimit)
    (hbind : BindsTo s (fnOf name qual params body scope dV kV doc pm an cdv ct) args binds) (hloc : ∀ y ∈ binds, scope.names.lookup y.1 = some .local)
    (h : ∀ h₁, Fr s.heap s.heap.objs.size h₁ (fun y => binds.reverse.lookup y) → News s.heap s.heap.objs.size h₁ [] →
      wpAny (model prog w) (A.deeper (envOf qual scope s.heap.objs.size f cdv)) (execs body (envOf qual scope s.heap.objs.size f cdv))
        (fun fl s' => R (.ok (.ret (match fl with | .ret v => v | _ => .none))) s') (fun _ _ => False)
        { s with heap := h₁, toks := s.toks + binds.length })
    (hco : scope.isCoroutine = false := by rfl) (hgen : scope.isGenerator = false := by rfl) (hk : scope.kind = .function := by rfl)
    (hcell : ∀ x ∈ scope.names, x.2 ≠ .cell := by decide) : codeAny (model prog w) A (.call (.ref f) args) R s := by
  refine codeAny_call_def (fd := fnOf name qual params body scope dV kV doc pm an cdv ct) (body := body) (binds := binds) hroom (X _ _ ho) rfl hlim (codeRec_of X hcd) rfl hbind hcell hloc (fun h₁ hns hk₁ => ?_) hco hgen hk
  exact wpAny_mono (h h₁ ⟨hns, hk₁, Nat.le_refl _⟩ News.nil) (fun _ _ q => q) fun _ _ q => q.elim

/-- one turn of the loop: where the search goes on, or none -/
def seek (got : Str) (p : Int) (x : Str) : Option Int := if Txt.find3 got x p < 0 then none else some (Txt.find3 got x p + (x.length : Int))
def ellB (got : Str) (parts : List Str) : Bool := (parts.foldlM (seek got) 0).isSome

theorem find3_bounds (x y : Str) (i : Int) : Txt.find3 x y i < 0 ∨ (0 ≤ Txt.find3 x y i ∧ Txt.find3 x y i + (y.length : Int) ≤ (x.length : Int)) := by
  unfold Txt.find3
  rcases StrLaws.occ_head_from x y (fromIndex x.length i) 1 (Nat.le_refl 1) with ⟨h0, _⟩ | ⟨k, r, h0, _, hk, _⟩
  · rw [h0]; left; decide
  · rw [h0]; right
    have := hk.1
    dsimp only
    omega
theorem foldlM_take {got : Str} {parts : List Str} {i : Nat} {y : Str} {a : Int} (hy : parts[i]? = some y) (h : (parts.take i).foldlM (seek got) 0 = some a) :
    (parts.take (i + 1)).foldlM (seek got) 0 = seek got a y := by
  rw [List.take_add_one, hy, List.foldlM_append, h]
  show (do let p ← some a; [y].foldlM (seek got) p) = _
  simp [List.foldlM]
theorem foldlM_none {got : Str} {parts : List Str} {i : Nat} (h : (parts.take i).foldlM (seek got) 0 = none) : parts.foldlM (seek got) 0 = none := by
  rw [← List.take_append_drop i parts, List.foldlM_append, h]; rfl

theorem getD_last (l : List Str) (a b : Str) (d : Str) : (a :: (l ++ [b])).getD (-1 + ((a :: (l ++ [b])).length : Int)).toNat d = b := by
  have e : (-1 + ((a :: (l ++ [b])).length : Int)).toNat = l.length + 1 := by
    simp only [List.length_cons, List.length_append, List.length_nil]; omega
  rw [e, List.getD_cons_succ, List.getD_eq_getElem?_getD, List.getElem?_append_right (Nat.le_refl _)]
  simp

theorem strValues_get {l : List (Str × Tok)} {i : Nat} {v : Value} (h : (strValues l)[i]? = some v) : ∃ y tv, (l.map (·.1))[i]? = some y ∧ v = .str y tv := by
  unfold strValues at h
  rw [List.getElem?_map] at h
  cases q : l[i]? with
  | none => rw [q] at h; cases h
  | some p => rw [q] at h; exact ⟨p.1, p.2, by rw [List.getElem?_map, q]; rfl, (Option.some.inj h).symm⟩

theorem ell_call {w : World} {A : Around} {s : Shared} {mean : ExcName → Option Value} {mg mb : Str → Option Value} {R : Result → Shared → Prop} {want got : Str} {t1 t2 : Tok} {signs : List Str}
   (T : Top Mine.hd.view_39 (looseW Mine.hd.view_39 [Str.ofString "EXACT_TOKEN_TYPES"]) mean mg mb s.heap) (KX : (Mine.hd.heap_39 w.params).In s.heap)
   (hh : A.handled = none) (hdep : A.depth < 900) (hun : A.units < 100)
   (hin : (Builtin.Str.occurrences want (Str.ofString "...") 0 want.length 1).isEmpty = false)
   (hspl : Txt.split want (Str.ofString "...") = Str.ofString "" :: (signs ++ [Str.ofString ""])) (hlen : want.length ≤ 100000) (hgot : got.length ≤ 1000)
   (post : ∀ h' tk, (∀ b o, s.heap.get? b = some o → h'.get? b = some o) → R (.ok (.ret (.bool (ellB got (Str.ofString "" :: (signs ++ [Str.ofString ""])))))) { s with heap := h', toks := tk }) :
   codeAny (model Challenge.rw_mq0245_01.prog w) A (.call (.ref 21) ⟨[.str want t1, .str got t2], []⟩) R s := by
  obtain ⟨hA0, dA, fA, gA, uA⟩ := A
  dsimp only at hh hdep hun
  subst hh
  refine enter KX T.nolimit rfl (by k_is) (Nat.lt_of_lt_of_le hdep (by decide)) (BindsTo.of_eq (binds := [(Str.ofString "want", _), (Str.ofString "got",_)]) rfl) (locs rfl) ?_
  intro h₁ F N
  w_on
  w_top on
  k_fold
  k_steps
  · rename (List.map _ _)[Int.toNat 0]? = some _ => hy0
    rename List.map _ _ = Txt.split _ _ => hl0
    rw [hl0, hspl] at hy0
    have hy1 := (Option.some.inj hy0).symm
    subst hy1
    k_steps
    generalize he : List.getD (List.map _ _) _ Str.empty = yl at *
    have hyl : yl = Str.ofString "" := by
      rw [← he]
      simp only [hl0, hspl]
      exact getD_last _ _ _ _
    subst hyl
    k_steps
    rename Fr _ _ _ _ => F
    rename News _ _ _ _ => N
    rename StrsAre _ _ => hS
    rename List (Str × Tok) => l
    have hparts : l.map (·.1) = Str.ofString "" :: (signs ++ [Str.ofString ""]) := hl0.trans hspl
    refine iter_listM (σ := Option Value × Option Value × Int) (fun m₀ st y => if y = Str.ofString "startpos" then st.1 else if y = Str.ofString "w" then st.2.1 else m₀ y) (fun _ => [])
      (fun i st => 0 ≤ st.2.2 ∧ st.2.2 ≤ (got.length : Int) ∧ ((l.map (·.1)).take i).foldlM (seek got) 0 = some st.2.2 ∧ ∃ t, st.1 = some (.int st.2.2 t)) rfl (N.isList (.tail _ (.head _))) ?_ (fun _ _ h => nomatch h) F ⟨(_, _, 0), ⟨Int.le_refl _, Int.natCast_nonneg _, rfl, _, rfl⟩, N, upd2 rfl rfl⟩ ?_ ?_
    · exact (N _ (.tail _ (.head _))).2.1
    · rintro i v ⟨sv, wv, a⟩ h tk own hv ⟨ha1, ha2, ha3, ta, hsv⟩ F2 N2
      dsimp only at F2 N2 ha1 ha2 ha3 hsv
      subst hsv
      obtain ⟨y, tv, hy, rfl⟩ := strValues_get hv
      clear N F
      have hfb := find3_bounds got y a
      show wpAny _ _ _ _ _ _
      k_fold
      k_steps
      refine find4 rfl ?_
      k_steps
      · rename Fr _ _ _ _ => F3
        have e : ellB got (Str.ofString "" :: (signs ++ [Str.ofString ""])) = false := by
          unfold ellB
          rw [← hparts, foldlM_none (i := i + 1)]
          · rfl
          · rw [foldlM_take hy ha3]
            exact if_pos (by assumption)
        show R (.ok (.ret (.bool false))) _
        rw [← e]
        exact post _ _ F3.keep
      · rename Fr _ _ _ _ => F3
        rename News _ _ _ _ => N3
        rename ¬ Txt.find3 _ _ _ < 0 => hnf
        refine TEnd.of2 (Txt.find3 got y a + (y.length : Int)) F3 N3 (fun p hp => hp) ⟨?_, ?_, ?_, _, rfl⟩ ?_
        · dsimp only; omega
        · dsimp only; omega
        · rw [foldlM_take hy ha3]
          exact if_neg hnf
        · intro z h1 h2
          simp only [if_neg h1, if_neg h2]
    · rintro ⟨sv, wv, a⟩ h tk ⟨_, _, ha3, _⟩ F2 N2
      clear N F
      k_steps
      rename Fr _ _ _ _ => F3
      have e : ellB got (Str.ofString "" :: (signs ++ [Str.ofString ""])) = true := by
        unfold ellB
        have el : (strValues l).length = (l.map (·.1)).length := by simp [strValues]
        rw [el, List.take_length, hparts] at ha3
        rw [ha3]; rfl
      show R (.ok (.ret (.bool true))) _
      rw [← e]
      exact post _ _ F3.keep
  · exfalso
    rename List.map _ _ = Txt.split _ _ => hl0
    rename ¬ (2:Int) ≤ _ => h2
    have := congrArg List.length (hl0.trans hspl)
    simp at this
    omega
end Mine
namespace Mine
def fitsB (got : Str) (cs : List Nat) : Bool := ellB got (Str.ofString "" :: (cs.map one ++ [Str.ofString ""]))
def ins (k c : Nat) (row : List Nat) : List Nat := row.take k ++ [c] ++ row.drop k
def innerStep (got : Str) (c : Nat) (row : List Nat) (k : Nat) : List Nat := if k ≤ row.length ∧ fitsB got (ins k c row) = true then ins k c row else row
def innerAll (got : Str) (c n : Nat) (row : List Nat) : List Nat := (List.range n).foldl (innerStep got c) row
def outerStep (got : Str) (row : List Nat) (c : Nat) : List Nat := if fitsB got [c] = true then innerAll got c (got.length + 1) row else row
def foundB (got : Str) (sg : List Nat) : List Nat := sg.foldl (outerStep got) []

theorem innerAll_succ (got : Str) (c n : Nat) (row : List Nat) : innerAll got c (n + 1) row = innerStep got c (innerAll got c n row) n := by
  unfold innerAll
  rw [List.range_succ, List.foldl_append]
  rfl
theorem foundB_take {got : Str} {sg : List Nat} {i c : Nat} (hc : sg[i]? = some c) : foundB got (sg.take (i + 1)) = outerStep got (foundB got (sg.take i)) c := by
  unfold foundB
  rw [List.take_add_one, hc, List.foldl_append]
  rfl
theorem ins_len (k c : Nat) (row : List Nat) : (ins k c row).length = row.length + 1 := by
  unfold ins
  simp only [List.length_append, List.length_take, List.length_drop, List.length_singleton]
  omega
theorem ins_mem {k c d : Nat} {row : List Nat} (h : d ∈ ins k c row) : d = c ∨ d ∈ row := by
  unfold ins at h
  simp only [List.mem_append, List.mem_singleton] at h
  rcases h with (h | h) | h
  · exact .inr (List.mem_of_mem_take h)
  · exact .inl h
  · exact .inr (List.mem_of_mem_drop h)
theorem innerStep_len (got : Str) (c : Nat) (row : List Nat) (k : Nat) : (innerStep got c row k).length ≤ row.length + 1 := by
  unfold innerStep
  split
  · rw [ins_len]; exact Nat.le_refl _
  · omega
theorem innerStep_mem {got : Str} {c d : Nat} {row : List Nat} {k : Nat} (h : d ∈ innerStep got c row k) : d = c ∨ d ∈ row := by
  unfold innerStep at h
  split at h
  · exact ins_mem h
  · exact .inr h
theorem innerAll_len (got : Str) (c : Nat) (row : List Nat) : ∀ n, (innerAll got c n row).length ≤ row.length + n
  | 0 => Nat.le_refl _
  | n + 1 => by
    rw [innerAll_succ]
    have h1 := innerAll_len got c row n
    have h2 := innerStep_len got c (innerAll got c n row) n
    omega
theorem innerAll_mem {got : Str} {c d : Nat} {row : List Nat} : ∀ {n}, d ∈ innerAll got c n row → d = c ∨ d ∈ row
  | 0, h => .inr h
  | n + 1, h => by
    rw [innerAll_succ] at h
    rcases innerStep_mem h with h | h
    · exact .inl h
    · exact innerAll_mem h
theorem foundB_len {got : Str} {sg : List Nat} : ∀ {i}, i ≤ sg.length → (foundB got (sg.take i)).length ≤ i * (got.length + 1)
  | 0, _ => by simp [foundB]
  | i + 1, hi => by
    rw [foundB_take (List.getElem?_eq_getElem (by omega) : sg[i]? = some _)]
    have h := foundB_len (got := got) (sg := sg) (i := i) (by omega)
    rw [Nat.succ_mul]
    unfold outerStep
    split
    · have h2 := innerAll_len got sg[i] (foundB got (sg.take i)) (got.length + 1)
      omega
    · omega
theorem foundB_mem {got : Str} {sg : List Nat} {d : Nat} : ∀ {i}, i ≤ sg.length → d ∈ foundB got (sg.take i) → d ∈ sg
  | 0, _, h => by simp [foundB] at h
  | i + 1, hi, h => by
    rw [foundB_take (List.getElem?_eq_getElem (by omega) : sg[i]? = some _)] at h
    unfold outerStep at h
    split at h
    · rcases innerAll_mem h with h | h
      · rw [h]; exact List.getElem_mem _
      · exact foundB_mem (by omega) h
    · exact foundB_mem (by omega) h
end Mine
namespace Mine
theorem Fr.grow {h₀ h h' : Heap} {L : Addr} {m : Str → Option Value} (F : Fr h₀ L h m) (k : ∀ b o, h.get? b = some o → h'.get? b = some o) : Fr h₀ L h' m :=
  ⟨F.ns.keeps k, fun b o e => k b o (F.keep b o e), F.above⟩
theorem News.grow {h₀ h h' : Heap} {L : Addr} {news : List (Addr × Obj)} (N : News h₀ L h news) (k : ∀ b o, h.get? b = some o → h'.get? b = some o) : News h₀ L h' news :=
  fun p hp => ⟨k _ _ (N p hp).1, (N p hp).2⟩
theorem sum_ones : ∀ cs : List Nat, ((cs.map one).map (·.length)).sum = cs.length
  | [] => rfl
  | c :: cs => by
    have h := sum_ones cs
    have e : (one c).length = 1 := rfl
    simp only [List.map_cons, List.sum_cons, List.length_cons, h, e]
    omega
theorem join_len (cs : List Nat) : (Txt.join dots (cs.map one)).length ≤ 4 * cs.length := by
  have e : Txt.join dots (cs.map one) = Str.join dots (cs.map one) := StrLaws.glued_eq_join _ _
  have h := StrLaws.join_length_le dots (cs.map one)
  have h3 : dots.length = 3 := by rw [dots_is]; rfl
  rw [sum_ones, h3, List.length_map] at h
  rw [e]; omega
theorem fits_call {w : World} {A : Around} {s : Shared} {mean : ExcName → Option Value} {mg mb : Str → Option Value} {R : Result → Shared → Prop} {r : Addr} {vs : List Value} {cs : List Nat} {got : Str} {t2 : Tok}
   (T : Top Mine.hd.view_39 (looseW Mine.hd.view_39 [Str.ofString "EXACT_TOKEN_TYPES"]) mean mg mb s.heap) (KX : (Mine.hd.heap_39 w.params).In s.heap)
   (hh : A.handled = none) (hdep : A.depth < 800) (hun : A.units < 90)
   (hL : s.heap.IsList r vs.toArray) (hS : StrsAre vs (cs.map one)) (hne : cs ≠ []) (hdot : ∀ c ∈ cs, c ≠ 46) (hrow : cs.length ≤ 10000) (hgot : got.length ≤ 1000)
   (post : ∀ h' tk, (∀ b o, s.heap.get? b = some o → h'.get? b = some o) → R (.ok (.ret (.bool (ellB got (Str.ofString "" :: (cs.map one ++ [Str.ofString ""])))))) { s with heap := h', toks := tk }) :
   codeAny (model Challenge.rw_mq0245_01.prog w) A (.call (.ref 31) ⟨[.ref r, .str got t2], []⟩) R s := by
  obtain ⟨hA0, dA, fA, gA, uA⟩ := A
  dsimp only at hh hdep hun
  subst hh
  refine enter KX T.nolimit rfl (by k_is) (Nat.lt_of_lt_of_le hdep (by decide)) (BindsTo.of_eq (binds := [(Str.ofString "row", _), (Str.ofString "text",_)]) rfl) (locs rfl) ?_
  intro h₁ F N
  have hjl := join_len cs
  have h3 : dots.length = 3 := by rw [dots_is]; rfl
  show wpAny _ _ _ _ _ _
  w_on
  w_top on
  k_fold
  k_steps
  refine join_list (hL.at fun o e => F.keep _ o e) (ys := cs.map one) (by simpa using hS) ?_ ?_
  · rw [sum_ones, List.length_map, h3]; omega
  intro t' k
  refine PyProof.Rows.add_str ?_ ?z1
  case z1 => rw [sizeLine_eq]; change dots.length + (Txt.join dots (cs.map one)).length ≤ _; omega
  intro t3 k3
  k_steps
  refine PyProof.Rows.add_str ?_ ?z2
  case z2 => rw [sizeLine_eq, Str.length_append]; change dots.length + (Txt.join dots (cs.map one)).length + dots.length ≤ _; omega
  intro t4 k4
  k_steps
  obtain ⟨c0, cs0, rfl⟩ : ∃ c0 cs0, cs = c0 :: cs0 := by
    cases cs with
    | nil => exact absurd rfl hne
    | cons a l => exact ⟨a, l, rfl⟩
  refine wpAny_call (ell_call (signs := (c0 :: cs0).map one) (T.keeps F.keep) (KX.keeps F.keep) rfl ?_ ?_ (want_in c0 cs0) (want_split c0 cs0 hdot) ?_ hgot ?_)
  · show dA + 1 < 900; omega
  · show uA + 3 < 100; omega
  · rw [Str.length_append, Str.length_append]; change dots.length + (Txt.join dots ((c0 :: cs0).map one)).length + dots.length ≤ _; omega
  intro h' tk' keep
  exact post _ _ fun b o e => keep b o (F.keep b o e)
end Mine
namespace Mine
local macro_rules | `(tactic| ktr_unf) => `(tactic| repeat' (first | (k_unfold; (try dsimp only)) | ((fail_if_success (with_reducible show wpAny _ _ (pyIter _) _ _ _)); (fail_if_success (with_reducible show wpAny _ _ (exec (PySem.Stmt.For _ _ _ _ _) _) _ _ _)); (first | walk1 | (dsimp only; walk1) | (leave1; try dsimp only)))))
theorem strsAre_get : ∀ {vs : List Value} {ys : List Str} {i : Nat} {v : Value}, StrsAre vs ys → vs[i]? = some v → ∃ y t, ys[i]? = some y ∧ v = .str y t
  | _, _, 0, _, .cons y t _, h => ⟨y, t, rfl, (Option.some.inj h).symm⟩
  | _, _, i + 1, _, .cons y t r, h => strsAre_get (i := i) r h
theorem strsAre_one {vs : List Value} {sg : List Nat} {i : Nat} {v : Value} (h : StrsAre vs (sg.map one)) (hv : vs[i]? = some v) : ∃ c tv, sg[i]? = some c ∧ v = .str (one c) tv := by
  obtain ⟨y, t, hy, e⟩ := strsAre_get h hv
  rw [List.getElem?_map] at hy
  cases q : sg[i]? with
  | none => rw [q] at hy; cases hy
  | some c => rw [q] at hy; exact ⟨c, t, rfl, by rw [e, ← Option.some.inj hy]⟩
theorem strsAre_ins {vs : List Value} {row : List Nat} {c : Nat} {tv : Tok} (h : StrsAre vs (row.map one)) (j : Nat) : StrsAre (vs.take j ++ [.str (one c) tv] ++ vs.drop j) ((ins j c row).map one) := by
  unfold ins
  rw [List.map_append, List.map_append, List.map_take, List.map_drop]
  exact ((h.take' j).append' (.cons _ _ .nil)).append' (h.drop' j)

theorem found_call {w : World} {A : Around} {s : Shared} {mean : ExcName → Option Value} {mg mb : Str → Option Value} {R : Result → Shared → Prop} {S : Addr} {vs : List Value} {sg : List Nat} {got : Str} {t2 : Tok}
   (T : Top Mine.hd.view_39 (looseW Mine.hd.view_39 [Str.ofString "EXACT_TOKEN_TYPES"]) mean mg mb s.heap) (KX : (Mine.hd.heap_39 w.params).In s.heap)
   (hh : A.handled = none) (hdep : A.depth < 700) (hun : A.units < 80)
   (hL : s.heap.IsList S vs.toArray) (hS : StrsAre vs (sg.map one)) (hdot : ∀ c ∈ sg, c ≠ 46) (hsg : sg.length ≤ 50) (hgot : got.length ≤ 100)
   (post : ∀ h' tk r rvs, (∀ b o, s.heap.get? b = some o → h'.get? b = some o) → s.heap.get? r = none → h'.get? r = some (listOf rvs.toArray 0) → StrsAre rvs ((foundB got sg).map one) → R (.ok (.ret (.ref r))) { s with heap := h', toks := tk }) :
   codeAny (model Challenge.rw_mq0245_01.prog w) A (.call (.ref 38) ⟨[.ref S, .str got t2], []⟩) R s := by
  obtain ⟨hA0, dA, fA, gA, uA⟩ := A
  dsimp only at hh hdep hun
  subst hh
  have e63 : (2:Int)^63 = 9223372036854775808 := by decide
  refine enter KX T.nolimit rfl (by k_is) (Nat.lt_of_lt_of_le hdep (by decide)) (BindsTo.of_eq (binds := [(Str.ofString "signs", _), (Str.ofString "text",_)]) rfl) (locs rfl) ?_
  intro h₁ F N
  have hid : s.heap.IsList S vs.toArray ∧ StrsAre vs (sg.map one) := ⟨hL, hS⟩
  have hvl : vs.length = sg.length := by rw [hS.length, List.length_map]
  clear hL hS
  show wpAny _ _ _ _ _ _
  w_on
  w_top on
  k_fold
  ktr_unf
  rename Fr _ _ _ _ => F
  rename News _ _ _ _ => N
  refine For_invV s.heap rfl rfl ?_
  ktr_unf
  refine iter_listM (σ := Option Value × Option Value × Option Value × Addr × List Value × List Nat)
    (fun m₀ st y => if y = Str.ofString "row" then st.1 else if y = Str.ofString "sign" then st.2.1 else if y = Str.ofString "k" then st.2.2.1 else m₀ y)
    (fun st => [(st.2.2.2.1, listOf st.2.2.2.2.1.toArray 0)])
    (fun i st => st.1 = some (.ref st.2.2.2.1) ∧ StrsAre st.2.2.2.2.1 (st.2.2.2.2.2.map one) ∧ st.2.2.2.2.2 = foundB got (sg.take i))
    rfl (hid.1.at fun o e => F.keep _ o e) ?_ ?_ F ⟨(_, _, _, _, [], []), ⟨rfl, .nil, rfl⟩, N, upd3 rfl rfl rfl⟩ ?_ ?_
  · obtain ⟨o, ho, _⟩ := hid.1
    exact Nat.ne_of_lt (Nat.lt_of_lt_of_le (Heap.lt_size ho) F.above)
  · rintro st p hp
    rw [List.mem_singleton.mp hp]
  · rintro i v ⟨rv, sv, kv, r, rvs, row⟩ h tk own hv ⟨hrv, hrow, hfd⟩ F2 N2
    dsimp only at F2 N2 hrv hrow hfd
    subst hrv
    simp only [List.cons_append, List.nil_append] at N2
    obtain ⟨c, tv, hc, rfl⟩ := strsAre_one hid.2 hv
    have hcm : c ∈ sg := List.mem_of_getElem? hc
    have hil : i < sg.length := (List.getElem?_eq_some_iff.mp hc).1
    have hrl : row.length ≤ 5050 := by
      have h1 := foundB_len (got := got) (sg := sg) (i := i) (by omega)
      rw [← hfd] at h1
      have h2 : i * (got.length + 1) ≤ 50 * 101 := Nat.mul_le_mul (by omega) (by omega)
      omega
    have hrd : ∀ d ∈ row, d ≠ 46 := fun d hd => hdot d (foundB_mem (got := got) (i := i) (by omega) (hfd ▸ hd))
    clear N F
    show wpAny _ _ _ _ _ _
    k_fold
    ktr_unf
    rename Fr _ _ _ _ => F
    rename News _ _ _ _ => N
    refine wpAny_call (fits_call (cs := [c]) (T.keeps F.keep) (KX.keeps F.keep) rfl ?_ ?_ (N.isList (.head _)) (.cons _ _ .nil) (by simp) ?_ (by simp) (by omega) ?_)
    · show dA + 1 < 800; omega
    · show uA + 3 < 90; omega
    · intro d hd
      rw [List.mem_singleton.mp hd]
      exact hdot _ hcm
    intro h2 tk2 keep
    replace F := Fr.grow F keep
    replace N := News.grow N keep
    change wpAny _ _ (truthy (.bool (fitsB got [c]))) _ _ _
    ktr_unf
    · rename fitsB got [c] = true => hfit
      refine For_invV s.heap rfl rfl ?_
      ktr_unf
      rename IsRange _ _ _ _ _ _ _ _ => hR
      rename Fr _ _ _ _ => F
      rename News _ _ _ _ => N
      refine iter_rangeM (n := got.length + 1) (σ := Option Value × Option Value × Addr × List Value × List Nat)
        (fun m₀ st y => if y = Str.ofString "row" then st.1 else if y = Str.ofString "k" then st.2.1 else m₀ y)
        (fun st => [(st.2.2.1, listOf st.2.2.2.1.toArray 0)])
        (fun i st => st.1 = some (.ref st.2.2.1) ∧ StrsAre st.2.2.2.1 (st.2.2.2.2.map one) ∧ st.2.2.2.2 = innerAll got c i row)
        rfl hR rfl (by omega) ?_ F ⟨(_, _, r, rvs, row), ⟨rfl, hrow, rfl⟩, fun p hp => N p (.tail _ hp), upd2 rfl rfl⟩ ?_ ?_
      · rintro st p hp
        rw [List.mem_singleton.mp hp]
      · rintro j tj ⟨rv2, kv2, r2, rvs2, row2⟩ h3 tk3 own3 hj ⟨hrv2, hrow2, hin2⟩ F2 N2
        dsimp only at F2 N2 hrv2 hrow2 hin2
        subst hrv2
        simp only [List.cons_append, List.nil_append] at N2
        clear N F hrow
        have hsz2 : rvs2.toArray.size = row2.length := by rw [List.size_toArray, hrow2.length, List.length_map]
        have hsz3 : rvs2.length = row2.length := by rw [hrow2.length, List.length_map]
        have hlen2 : row2.length ≤ 9000 := by
          have := innerAll_len got c row j
          rw [← hin2] at this
          omega
        have hdot2 : ∀ d ∈ ins j c row2, d ≠ 46 := fun d hd => by
          rcases ins_mem hd with e | hd
          · rw [e]; exact hdot _ hcm
          · rcases innerAll_mem (hin2 ▸ hd) with e | hd
            · rw [e]; exact hdot _ hcm
            · exact hrd d hd
        have hil2 := ins_len j c row2
        show wpAny _ _ _ _ _ _
        k_fold
        ktr_unf
        · rename ((j : Nat) : Int) ≤ _ => hjl
          have hjl' : j ≤ row2.length := by first | omega | (simp only [hsz2, hsz3, List.length_map] at hjl; omega)
          try clear N2
          try clear F2
          rename Fr _ _ _ _ => F
          rename News _ _ _ _ => N
          rw [slicePick_upto' rvs2.toArray j] at N
          refine add_lists F N (vs := rvs2.take j) (ws := [.str (one c) tv]) (N.isList (.tail _ (.head _))) (N.isList (.head _)) ?_ ?z1
          case z1 => rw [sizeLine_eq, List.length_take, List.length_singleton]; omega
          intro h4 F4 N4
          try clear F
          try clear N
          ktr_unf
          try clear F4
          try clear N4
          rename Fr _ _ _ _ => F
          rename News _ _ _ _ => N
          rw [slicePick_from' rvs2.toArray j] at N
          refine add_lists F N (vs := rvs2.take j ++ [.str (one c) tv]) (ws := rvs2.drop j) (N.isList (.tail _ (.head _))) (N.isList (.head _)) ?_ ?z2
          case z2 => rw [sizeLine_eq]; simp only [List.length_append, List.length_take, List.length_drop, List.length_singleton]; omega
          intro h5 F5 N5
          try clear F
          try clear N
          ktr_unf
          refine wpAny_call (fits_call (cs := ins j c row2) (T.keeps F5.keep) (KX.keeps F5.keep) rfl ?_ ?_ (N5.isList (.head _)) (strsAre_ins hrow2 j) (by simp [ins]) hdot2 (by omega) (by omega) ?_)
          · show dA + 1 < 800; omega
          · show uA + 3 < 90; omega
          intro h6 tk6 keep6
          have F6 := Fr.grow F5 keep6
          have N6 : News _ _ _ ((r2, listOf rvs2.toArray 0) :: (own ++ own3)) := fun p hp => (News.grow N5 keep6) p (.tail _ (.tail _ (.tail _ (.tail _ (.tail _ hp)))))
          clear F5 N5
          change wpAny _ _ (truthy (.bool (fitsB got (ins j c row2)))) _ _ _
          ktr_unf
          · rename fitsB got (ins j c row2) = true => hfit2
            try clear F6
            try clear N6
            rename Fr _ _ _ _ => F
            rename News _ _ _ _ => N
            rw [slicePick_upto' rvs2.toArray j] at N
            refine add_lists F N (vs := rvs2.take j) (ws := [.str (one c) tv]) (N.isList (.tail _ (.head _))) (N.isList (.head _)) ?_ ?z3
            case z3 => rw [sizeLine_eq, List.length_take, List.length_singleton]; omega
            intro h7 F7 N7
            try clear F
            try clear N
            ktr_unf
            try clear F7
            try clear N7
            rename Fr _ _ _ _ => F
            rename News _ _ _ _ => N
            rw [slicePick_from' rvs2.toArray j] at N
            refine add_lists F N (vs := rvs2.take j ++ [.str (one c) tv]) (ws := rvs2.drop j) (N.isList (.tail _ (.head _))) (N.isList (.head _)) ?_ ?z4
            case z4 => rw [sizeLine_eq]; simp only [List.length_append, List.length_take, List.length_drop, List.length_singleton]; omega
            intro h8 F8 N8
            try clear F
            try clear N
            ktr_unf
            try clear F8
            try clear N8
            rename Fr _ _ _ _ => F9
            rename News _ _ _ _ => N9
            refine TEnd.of2 (_, rvs2.take j ++ [.str (one c) tv] ++ rvs2.drop j, ins j c row2) F9 N9 ?_ ⟨rfl, strsAre_ins hrow2 j, ?_⟩ ?_
            · intro p hp
              rcases List.mem_cons.mp hp with e | hp
              · rw [e]; exact .head _
              · exact .tail _ (.tail _ (.tail _ (.tail _ (.tail _ (.tail _ hp)))))
            · show ins j c row2 = innerAll got c (j + 1) row
              rw [innerAll_succ, ← hin2]
              exact (if_pos ⟨hjl', hfit2⟩).symm
            · intro z h1 h2
              simp only [if_neg h1, if_neg h2]
          · rename fitsB got (ins j c row2) = false => hfit2
            refine TEnd.of2 (r2, rvs2, row2) F6 N6 (fun p hp => hp) ⟨rfl, hrow2, ?_⟩ ?_
            · show row2 = innerAll got c (j + 1) row
              rw [innerAll_succ, ← hin2]
              exact (if_neg fun h => by rw [hfit2] at h; cases h.2).symm
            · intro z h1 h2
              simp only [if_neg h1, if_neg h2]
        · rename ¬ ((j : Nat) : Int) ≤ _ => hjl
          have hjl' : ¬ j ≤ row2.length := by first | omega | (simp only [hsz2, hsz3, List.length_map] at hjl; omega)
          refine TEnd.of2 (r2, rvs2, row2) F2 N2 (fun p hp => hp) ⟨rfl, hrow2, ?_⟩ ?_
          · show row2 = innerAll got c (j + 1) row
            rw [innerAll_succ, ← hin2]
            exact (if_neg fun h => hjl' h.1).symm
          · intro z h1 h2
            simp only [if_neg h1, if_neg h2]
      · rintro ⟨rv2, kv2, r2, rvs2, row2⟩ h3 tk3 ⟨hrv2, hrow2, hin2⟩ F2 N2
        dsimp only at F2 N2 hrv2 hrow2 hin2
        subst hrv2
        simp only [List.cons_append, List.nil_append] at N2
        clear N F
        show wpAny _ _ _ _ _ _
        ktr_unf
        refine TEnd.of3 (r2, rvs2, row2) F2 N2 (fun p hp => hp) ⟨rfl, hrow2, ?_⟩ ?_
        · show row2 = foundB got (sg.take (i + 1))
          rw [foundB_take hc, ← hfd]
          unfold outerStep
          rw [if_pos hfit]
          exact hin2
        · intro z h1 h2 h3
          simp only [if_neg h1, if_neg h2, if_neg h3]
    · rename fitsB got [c] = false => hfit
      refine TEnd.of3 (r, rvs, row) F N (fun p hp => .tail _ hp) ⟨rfl, hrow, ?_⟩ ?_
      · show row = foundB got (sg.take (i + 1))
        rw [foundB_take hc, ← hfd]
        unfold outerStep
        rw [if_neg fun h => by rw [hfit] at h; cases h]
      · intro z h1 h2 h3
        simp only [if_neg h1, if_neg h2, if_neg h3]
  · rintro ⟨rv, sv, kv, r, rvs, row⟩ h tk ⟨hrv, hrow, hfd⟩ F2 N2
    dsimp only at F2 N2 hrv hrow hfd
    subst hrv
    simp only [List.cons_append, List.nil_append] at N2
    clear N F
    show wpAny _ _ _ _ _ _
    ktr_unf
    rw [hvl, List.take_length] at hfd
    subst hfd
    exact post _ _ r rvs F2.keep (N2 _ (.head _)).2.2 (N2 _ (.head _)).1 hrow
end Mine
namespace Mine
abbrev signTab : Str := Str.ofString "()[]:,;+-*/|&<>=.%{}    ~^                @    !"
def numB (c : Nat) : Int := 7 + Txt.find signTab (one c)
theorem num_call {w : World} {A : Around} {s : Shared} {mean : ExcName → Option Value} {mg mb : Str → Option Value} {R : Result → Shared → Prop} {c : Nat} {t2 : Tok}
   (T : Top Mine.hd.view_39 (looseW Mine.hd.view_39 [Str.ofString "EXACT_TOKEN_TYPES"]) mean mg mb s.heap) (KX : (Mine.hd.heap_39 w.params).In s.heap)
   (hh : A.handled = none) (hdep : A.depth < 700) (hun : A.units < 80) (hc : Txt.find signTab (one c) ≠ -1)
   (post : ∀ h' tk t, (∀ b o, s.heap.get? b = some o → h'.get? b = some o) → R (.ok (.ret (.int (numB c) t))) { s with heap := h', toks := tk }) :
   codeAny (model Challenge.rw_mq0245_01.prog w) A (.call (.ref 45) ⟨[.str (one c) t2], []⟩) R s := by
  obtain ⟨hA0, dA, fA, gA, uA⟩ := A
  dsimp only at hh hdep hun
  subst hh
  refine enter KX T.nolimit rfl (by k_is) (Nat.lt_of_lt_of_le hdep (by decide)) (BindsTo.of_eq (binds := [(Str.ofString "sign", _)]) rfl) (locs rfl) ?_
  intro h₁ F N
  show wpAny _ _ _ _ _ _
  w_on
  w_top on
  k_fold
  k_steps
  show R (.ok (.ret (.int (numB c) _))) _
  exact post _ _ _ F.keep
end Mine
namespace Mine

def keyStr : Value → Str
  | .str x _ => x
  | _ => Str.empty
def keyTok : Value → Tok
  | .str _ t => t
  | _ => 0
def OkEntry (P : Params) (e : DictEntry) : Prop := e.key = .str (keyStr e.key) (keyTok e.key) ∧ e.hash = PyData.keyHash P (keyStr e.key)
def AllOk (P : Params) : List DictEntry → Prop
  | [] => True
  | e :: r => OkEntry P e ∧ AllOk P r
theorem allOk_mem {P : Params} : ∀ {es : List DictEntry}, AllOk P es → ∀ e ∈ es, OkEntry P e
  | _ :: _, h, _, .head _ => h.1
  | _ :: _, h, e, .tail _ m => allOk_mem h.2 e m
def kvsOf (es : List DictEntry) : List (Str × Value) := es.map fun e => (keyStr e.key, e.val)
theorem pairs_of {prog : Program} {w : World} : ∀ {es : List DictEntry}, AllOk w.params es → Pairs (PySem.strKind prog w) es (kvsOf es)
  | [], _ => .nil
  | e :: r, h => .cons (by
      show Value.isStrOf (keyStr e.key) e.key = true
      rw [h.1.1]; exact beq_self_eq_true _) rfl (pairs_of h.2)
theorem dictAt_of {prog : Program} {w : World} {h : Heap} {d : Addr} {es : Array DictEntry} {ep : Nat} (hd : h.get? d = some { cls := .type "dict", data := .dict es ep }) (hok : AllOk w.params es.toList) (hnd : ((kvsOf es.toList).map (·.1)).Nodup) :
    h.DictAt (PySem.strKind prog w) d (kvsOf es.toList) ep := by
  refine ⟨_, es, hd, ?_, rfl, ?_, pairs_of hok, hnd⟩
  · exact ⟨rfl, rfl, rfl⟩
  · intro e he
    have h1 := allOk_mem hok e (Array.mem_toList_iff.mpr he)
    refine ⟨keyStr e.key, ?_, h1.2⟩
    show Value.isStrOf (keyStr e.key) e.key = true
    rw [h1.1]; exact beq_self_eq_true _

def dictIn (K : Frag) (a : Addr) : List DictEntry := match K.lookup a with
  | some ⟨_, _, .dict es _, _⟩ => es.toList
  | _ => []
theorem table_ok (w : World) : AllOk w.params (dictIn (hd.heap_39 w.params) 22) := by
  repeat' (first | exact trivial | (refine ⟨⟨rfl, rfl⟩, ?_⟩))
def wordsL : List Str := [Str.ofString "!", Str.ofString "!=", Str.ofString "%", Str.ofString "%=", Str.ofString "&", Str.ofString "&=", Str.ofString "(", Str.ofString ")", Str.ofString "*", Str.ofString "**", Str.ofString "**=", Str.ofString "*=", Str.ofString "+", Str.ofString "+=", Str.ofString ",", Str.ofString "-", Str.ofString "-=", Str.ofString "->", Str.ofString ".", Str.ofString "...", Str.ofString "/", Str.ofString "//", Str.ofString "//=", Str.ofString "/=", Str.ofString ":", Str.ofString ":=", Str.ofString ";", Str.ofString "<", Str.ofString "<<", Str.ofString "<<=", Str.ofString "<=", Str.ofString "=", Str.ofString "==", Str.ofString ">", Str.ofString ">=", Str.ofString ">>", Str.ofString ">>=", Str.ofString "@", Str.ofString "@=", Str.ofString "[", Str.ofString "]", Str.ofString "^", Str.ofString "^=", Str.ofString "{", Str.ofString "|", Str.ofString "|=", Str.ofString "}", Str.ofString "~"]
def wordAt (x : Int) : Str := wordsL.getD (x % 48).toNat Str.empty
theorem table_words (P : Params) : (kvsOf (dictIn (hd.heap_39 P) 22)).map (·.1) = wordsL := rfl
theorem words_nodup : wordsL.Nodup := by decide +kernel
theorem dict_at {prog : Program} {w : World} {h : Heap} (KX : (hd.heap_39 w.params).In h) : h.DictAt (PySem.strKind prog w) 22 (kvsOf (dictIn (hd.heap_39 w.params) 22)) 48 := by
  have hd : h.get? 22 = some { cls := .type "dict", data := .dict (dictIn (hd.heap_39 w.params) 22).toArray 48 } := KX 22 _ rfl
  have := dictAt_of (prog := prog) (w := w) hd (by simpa using table_ok w) (by
    rw [show (kvsOf (dictIn (Mine.hd.heap_39 w.params) 22).toArray.toList).map (·.1) = wordsL from rfl]; exact words_nodup)
  exact this

theorem strsAre_of {vs : List Value} {kvs : List (Str × Value)} (hl : vs.length = kvs.length) (h : ∀ (j : Nat) v, vs[j]? = some v → ∃ k x, kvs[j]? = some (k, x) ∧ Value.isStrOf k v = true) : StrsAre vs (kvs.map (·.1)) := by
  induction vs generalizing kvs with
  | nil =>
    cases kvs with
    | nil => exact .nil
    | cons a l => cases hl
  | cons v vs ih =>
    cases kvs with
    | nil => cases hl
    | cons a l =>
      obtain ⟨k, x, hk, hv⟩ := h 0 v rfl
      obtain ⟨t, rfl⟩ := Value.isStrOf_shape hv
      have e := Option.some.inj hk
      subst e
      exact .cons _ _ (ih (by simpa using hl) fun j v hj => h (j + 1) v hj)
theorem strsAre_at : ∀ {vs : List Value} {ys : List Str} {i : Nat} {y : Str}, StrsAre vs ys → ys[i]? = some y → ∃ t, vs[i]? = some (.str y t)
  | _, _, 0, _, .cons y t _, h => ⟨t, by rw [← Option.some.inj h]; rfl⟩
  | _, _, i + 1, _, .cons _ _ r, h => strsAre_at (i := i) r h
theorem fmod48 (x : Int) : x.fmod 48 = x % 48 := Int.fmod_eq_emod_of_nonneg _ (by decide)
theorem word_get (x : Int) : wordsL[(x.fmod 48).toNat]? = some (wordAt x) := by
  rw [fmod48]
  unfold wordAt
  have h1 : 0 ≤ x % 48 := Int.emod_nonneg _ (by decide)
  have h2 : x % 48 < 48 := Int.emod_lt_of_pos _ (by decide)
  have h3 : (x % 48).toNat < wordsL.length := by show _ < 48; omega
  rw [List.getD_eq_getElem?_getD, List.getElem?_eq_getElem h3]
  rfl
theorem fmod_bounds (x : Int) : 0 ≤ x.fmod 48 ∧ x.fmod 48 < 48 := by
  rw [fmod48]
  exact ⟨Int.emod_nonneg _ (by decide), Int.emod_lt_of_pos _ (by decide)⟩
theorem take_snoc {ns : List Int} {i : Nat} {k : Int} (f : Int → Str) (hk : ns[i]? = some k) : (ns.take (i + 1)).map f = (ns.take i).map f ++ [f k] := by
  rw [List.take_add_one, hk]
  simp
theorem words_len : ∀ y ∈ wordsL, 1 ≤ y.length ∧ y.length ≤ 3 := by decide +kernel
theorem wordAt_mem (x : Int) : wordAt x ∈ wordsL := List.mem_of_getElem? (word_get x)
theorem word_len (x : Int) : (wordAt x).length ≤ 3 := (words_len _ (wordAt_mem x)).2
theorem words_sum : ∀ ns : List Int, ((ns.map wordAt).map (·.length)).sum ≤ 3 * ns.length
  | [] => Nat.le_refl _
  | x :: r => by
    have h1 := word_len x
    have h2 := words_sum r
    simp only [List.map_cons, List.sum_cons, List.length_cons]
    omega
abbrev textOf (ns : List Int) : Str := Txt.join (Str.ofString "") ((ns.take 4).map wordAt) ++ Str.ofString ">>="
theorem join_le (ns : List Int) : (Txt.join (Str.ofString "") ((ns.take 4).map wordAt)).length ≤ 12 := by
  have e : Txt.join (Str.ofString "") ((ns.take 4).map wordAt) = Str.join (Str.ofString "") ((ns.take 4).map wordAt) := StrLaws.glued_eq_join _ _
  have h := StrLaws.join_length_le (Str.ofString "") ((ns.take 4).map wordAt)
  have h2 := words_sum (ns.take 4)
  have h3 : (ns.take 4).length ≤ 4 := by rw [List.length_take]; omega
  have h4 : (Str.ofString "").length = 0 := by rw [empty_is]; rfl
  rw [h4] at h
  rw [e]; omega
theorem text_le (ns : List Int) : (textOf ns).length ≤ 15 := by
  have h := join_le ns
  have h3 : (Str.ofString ">>=").length = 3 := by decide +kernel
  rw [Str.length_append]; omega
def isSign (y : Str) : Bool := decide (y.length = 1) && (y != Str.ofString ".")
def sgL : List Nat := [33, 37, 38, 40, 41, 42, 43, 44, 45, 47, 58, 59, 60, 61, 62, 64, 91, 93, 94, 123, 124, 125, 126]
theorem signs_are : wordsL.filter isSign = sgL.map one := by decide +kernel
theorem filter_snoc {l : List Str} {i : Nat} {y : Str} (p : Str → Bool) (hy : l[i]? = some y) : (l.take (i + 1)).filter p = (l.take i).filter p ++ (if p y = true then [y] else []) := by
  rw [List.take_add_one, hy, List.filter_append]
  simp only [Option.toList, List.filter_cons, List.filter_nil]
theorem turn_nat (x : Int) : ∃ tn : Nat, x.fmod ((23 : Nat) : Int) = (tn : Int) ∧ tn < 23 := by
  have e : x.fmod ((23 : Nat) : Int) = x % 23 := Int.fmod_eq_emod_of_nonneg _ (by decide)
  have h1 : 0 ≤ x % 23 := Int.emod_nonneg _ (by decide)
  have h2 : x % 23 < 23 := Int.emod_lt_of_pos _ (by decide)
  exact ⟨(x % 23).toNat, by rw [e]; omega, by omega⟩
theorem sg_dot : ∀ c ∈ sgL, c ≠ 46 := by decide
end Mine
namespace Mine
open LCg LCt
section
variable {prog : Program} {w : World} {A : Around} {E : Value → Shared → Prop} {s : Shared} {h₀ : Heap} {L : Addr} {m : Str → Option Value} {env : Env} {ct elt : Expr} {x : Str} {scope : Scope} {cl : List (Str × Addr)} {S : List (Addr × Obj) → Prop} {P : Nat → Value → Prop} {Fin : List Value → List (Addr × Obj) → Prop} {news : List (Addr × Obj)}

theorem rest_U {n : Nat} (Inv : Nat → List Value → Prop) (h0 : Inv 0 [])
    (turn : ∀ i v I oI C oC D m₂ ys h tk (E' : Value → Shared → Prop), i < n → Inv i ys → P i v → NsObj oC m₂ → m₂ x = some v → Fr h₀ L h m → News h₀ L h ((I, oI) :: (C, oC) :: (D, lst ys) :: news) → Off3 I C D news → ((@Ne Nat I C) ∧ (@Ne Nat I D) ∧ (@Ne Nat C D)) →
      wpAny (model prog w) A (eval elt (compEnvC scope cl C env)) (CompEnd h₀ L m { s with heap := h, toks := tk } I oI C oC D (lst ys) S (fun y news' => news' = news ∧ Inv (i + 1) (ys ++ [y]))) E' { s with heap := h, toks := tk })
    (fin : ∀ ys, Inv n ys → Fin ys news) : CompRest prog w A h₀ L m env elt x scope cl s S P Fin n 0 [] news := by
  have key : ∀ (j i : Nat) (ys : List Value), i + j = n → Inv i ys → CompRest prog w A h₀ L m env elt x scope cl s S P Fin j i ys news := by
    intro j
    induction j with
    | zero =>
      intro i ys hi hy
      have e : i = n := by omega
      exact CompRest.zero (fin ys (e ▸ hy))
    | succ j ih =>
      intro i ys hi hy
      refine CompRest.succ ?_
      intro v I oI C oC D m₂ h tk E' hv hC hx F N off ne
      refine wpAny_mono (turn i v I oI C oC D m₂ ys h tk E' (by omega) hy hv hC hx F N off ne) (fun y s₂ hq => ?_) fun _ _ e => e
      obtain ⟨h', tk', nw, e, F', N', off', hS, hn, hI⟩ := hq
      subst hn
      exact ⟨h', tk', nw, e, F', N', off', hS, ih (i + 1) _ (by omega) hI⟩
  exact key n 0 [] (by omega) h0

theorem rest_T {n : Nat} (Inv : Nat → List Value → Prop) (h0 : Inv 0 [])
    (turn : ∀ i v I oI C oC D m₂ ys h tk (E' : Value → Shared → Prop), i < n → Inv i ys → P i v → NsObj oC m₂ → m₂ x = some v → Fr h₀ L h m → News h₀ L h ((I, oI) :: (C, oC) :: (D, lst ys) :: news) → Off3 I C D news → ((@Ne Nat I C) ∧ (@Ne Nat I D) ∧ (@Ne Nat C D)) →
      wpAny (model prog w) A (isTrue ct (compEnvC scope cl C env) (eval ct (compEnvC scope cl C env))) (fun ok s' => if ok = true then
        wpAny (model prog w) A (eval elt (compEnvC scope cl C env)) (CompEnd h₀ L m { s with heap := h, toks := tk } I oI C oC D (lst ys) S (fun y news' => news' = news ∧ Inv (i + 1) (ys ++ [y]))) E' s'
        else CompEnd h₀ L m { s with heap := h, toks := tk } I oI C oC D (lst ys) S (fun _ news' => news' = news ∧ Inv (i + 1) ys) Value.none s') E' { s with heap := h, toks := tk })
    (fin : ∀ ys, Inv n ys → Fin ys news) : CompRestT prog w A h₀ L m env ct elt x scope cl s S P Fin n 0 [] news := by
  have key : ∀ (j i : Nat) (ys : List Value), i + j = n → Inv i ys → CompRestT prog w A h₀ L m env ct elt x scope cl s S P Fin j i ys news := by
    intro j
    induction j with
    | zero =>
      intro i ys hi hy
      have e : i = n := by omega
      exact CompRestT.zero (fin ys (e ▸ hy))
    | succ j ih =>
      intro i ys hi hy
      refine CompRestT.succ ?_
      intro v I oI C oC D m₂ h tk E' hv hC hx F N off ne
      refine wpAny_mono (turn i v I oI C oC D m₂ ys h tk E' (by omega) hy hv hC hx F N off ne) (fun ok s₂ hq => ?_) fun _ _ e => e
      cases ok with
      | true =>
        rw [if_pos rfl] at hq ⊢
        refine wpAny_mono hq (fun y s₃ hq => ?_) fun _ _ e => e
        obtain ⟨h', tk', nw, e, F', N', off', hS, hn, hI⟩ := hq
        subst hn
        exact ⟨h', tk', nw, e, F', N', off', hS, ih (i + 1) _ (by omega) hI⟩
      | false =>
        rw [if_neg (by decide)] at hq ⊢
        obtain ⟨h', tk', nw, e, F', N', off', hS, hn, hI⟩ := hq
        subst hn
        exact ⟨h', tk', nw, e, F', N', off', hS, ih (i + 1) _ (by omega) hI⟩
  exact key n 0 [] (by omega) h0

theorem comp_str {iter : Expr} {px : Pos} {pos : Pos} {Q : Value → Shared → Prop} (F₀ : Fr h₀ L s.heap m)
    (hclos : closureFor scope env = pure cl) (hcell : ∀ y ∈ scope.names, y.2 ≠ .cell) (hkind : scope.kind = .function)
    (hnames : ∀ y ∈ scope.names, y.2 = .local → scope.names.lookup y.1 = some .local) (hx : scope.names.lookup x = some .local)
    (h : wpAny (model prog w) A (eval iter env) (fun xv s₁ => ∃ text t news, xv = .str text t ∧ A.handled = none ∧ Fr h₀ L s₁.heap m ∧ News h₀ L s₁.heap news ∧ text.cps.size ≤ sizeLine ∧
      ∀ s₂ : Shared, (∃ h, s₂ = { s₁ with heap := h }) → CompRestT prog w A h₀ L m env ct elt x scope cl s₂ (fun _ => True) (SignAt text) (FinE h₀ L m s₂ Q) text.cps.size 0 [] news) E s)
    (hs : ∀ x, foldedSetIterable iter env x = pure x := by intro _; rfl) :
    wpAny (model prog w) A (eval (.ListComp elt [⟨.Name x px, iter, [ct], 0⟩] scope pos) env) Q E s := by
  rw [eval_ListComp]
  refine wpAny_comprehension_free (use := none) rfl hs hclos hkind hnames (wpAny_mono h (fun xv s₁ h₁ => ?_) fun _ _ e => e)
  obtain ⟨text, t, news, rfl, hh, F, N, hsz, R⟩ := h₁
  have fin : ∀ (o : Obj) (T : String), o = { cls := .type T, data := .fields #[.str text t, .int 0 0] } → Walks prog w A s₁.heap.objs.size [s₁.heap.objs.size] [s₁.heap.objs.size] text.cps.size (SignAt text) (fun i h => h.IsStrIter s₁.heap.objs.size T text t i) →
      wpAny (model prog w) A (newList []) (fun acc s₃ => wpAny (model prog w) A (newFunctionEnv scope env.globals cl [] env.qual none .none (some env)) (fun cenv s₄ =>
        codeAny (model prog w) A (.compStart (.ListComp elt [⟨.Name x px, iter, [ct], 0⟩] scope pos) 0 (.ref s₁.heap.objs.size) acc { cenv with scope := relabel scope env }) (compPost (model prog w) A E none Q acc cenv.locals) s₄) E s₃) E { s₁ with heap := s₁.heap.push o } := by
    rintro o T rfl W
    have up : ∀ b o', s₁.heap.get? b = some o' → (s₁.heap.push { cls := .type T, data := .fields #[.str text t, .int 0 0] }).get? b = some o' := fun b o e => Heap.get?_push_of_some _ e
    refine block_T W hsz (fun i h st => by obtain ⟨o, e, _⟩ := st; exact ⟨o, e⟩) ?_ hcell hkind hx ⟨_, Heap.get?_push_size _ rfl, rfl, rfl⟩ (fun b hb => ?_)
      (F.keeps up) (N.grown up) (Nat.ne_of_lt F.ns.lt) (next_is_new F) (fun p hp => Nat.ne_of_lt (Heap.lt_size (N p hp).1)) trivial (R _ ⟨_, rfl⟩) ?_
    · intro i h h' o nw st e e' _ _ _
      obtain ⟨o', q, r⟩ := st
      rw [e] at q; cases q
      exact ⟨o, e', r⟩
    · rw [List.mem_singleton.mp hb]
      show s₁.heap.objs.size < (s₁.heap.push _).objs.size
      rw [Heap.size_push]; exact Nat.lt_succ_self _
    · intro D C h tk m' ys news' F' N' o1 hn hC₀ hD₀ hCL hDL hCD offC fin
      refine ⟨m', hn, fun h'' hs'' => fin D h'' tk (F'.change hs'' hCL hC₀) (fun p hp => ?_) o1⟩
      refine ⟨hs''.extBut _ _ ?_ (N' p hp).1, (N' p hp).2⟩
      rcases List.mem_cons.mp hp with rfl | hp
      · exact Ne.symm hCD
      · exact offC p hp
  cases ha : text.cps.all (· < 128)
  · exact wpAny_pyIter_wide ha (fin _ "str_iterator" rfl (Walks.strWide hh _ text t))
  · exact wpAny_pyIter_ascii ha (fin _ "str_ascii_iterator" rfl (Walks.strAscii hh _ text t))
end
end Mine
namespace Mine
open StrLaws Builtin Builtin.Str

theorem fromIndex_nat (n p : Nat) : fromIndex n (p : Int) = p := by
  unfold fromIndex
  split <;> omega

theorem seek_empty (got : Str) (p : Nat) (hp : p ≤ got.length) : seek got (p : Int) (Str.ofString "") = some (p : Int) := by
  have e : Txt.find3 got (Str.ofString "") (p : Int) = (p : Int) := by
    unfold Txt.find3
    rw [fromIndex_nat]
    have hAt : ∀ i, At got (Str.ofString "") got.length i ↔ i ≤ got.length := by
      intro i
      unfold At
      rw [subAt_eq, empty_is]
      show (i + 0 ≤ got.length ∧ ((got.cps.toList.drop i).take 0 == []) = true) ↔ _
      simp
    rcases occ_head_from got (Str.ofString "") p 1 (Nat.le_refl 1) with ⟨h0, hn⟩ | ⟨k, r, h0, hlo, hk, hn⟩
    · exact absurd ((hAt p).mpr hp) (hn p (Nat.le_refl _))
    · rw [h0]
      have : ¬ p < k := fun h => hn p (Nat.le_refl _) h ((hAt p).mpr hp)
      have : k = p := by omega
      rw [this]
  unfold seek
  rw [e, if_neg (by omega)]
  have h0 : (Str.ofString "").length = 0 := by rw [empty_is]; rfl
  rw [h0]; simp

theorem drop_split {X : List Nat} {k c : Nat} (hk : X[k]? = some c) {p : Nat} (hp : p ≤ k) : X.drop p = (X.drop p).take (k - p) ++ c :: X.drop (k + 1) := by
  have h1 : (X.drop p).drop (k - p) = c :: X.drop (k + 1) := by
    rw [List.drop_drop, show p + (k - p) = k by omega]
    have hlt : k < X.length := (List.getElem?_eq_some_iff.mp hk).1
    rw [List.drop_eq_getElem_cons hlt]
    have : X[k] = c := (List.getElem?_eq_some_iff.mp hk).2
    rw [this]
  rw [← h1, List.take_append_drop]

theorem cons_sub_skip {c : Nat} {cs : List Nat} : ∀ {A Y : List Nat}, c ∉ A → (c :: cs).Sublist (A ++ Y) → (c :: cs).Sublist Y
  | [], _, _, h => h
  | a :: A, Y, hn, h => by
    rw [List.cons_append] at h
    cases h with
    | cons _ h => exact cons_sub_skip (fun hm => hn (.tail _ hm)) h
    | cons_cons _ h => exact absurd (.head _) hn

theorem seek_run (got : Str) : ∀ (cs : List Nat) (p : Nat), p ≤ got.length →
    (((cs.map one).foldlM (seek got) (p : Int)) = none ∧ ¬ cs.Sublist (got.cps.toList.drop p)) ∨
    ∃ q : Nat, q ≤ got.length ∧ ((cs.map one).foldlM (seek got) (p : Int)) = some (q : Int) ∧ cs.Sublist (got.cps.toList.drop p)
  | [], p, hp => .inr ⟨p, hp, rfl, List.nil_sublist _⟩
  | c :: cs, p, hp => by
    have hs : ∀ r : Option Int, seek got (p : Int) (one c) = r → ((c :: cs).map one).foldlM (seek got) (p : Int) = r.bind fun q => (cs.map one).foldlM (seek got) q := by
      intro r hr
      rw [List.map_cons, List.foldlM_cons, hr]; rfl
    rcases find3_spec got c (p : Int) with ⟨hf, hn⟩ | ⟨k, hf, hlo, hk, hkc, hn⟩
    · left
      rw [fromIndex_nat] at hn
      have e : seek got (p : Int) (one c) = none := by unfold seek; rw [hf, if_pos (by decide)]
      refine ⟨by rw [hs _ e]; rfl, fun h => ?_⟩
      have hm : c ∈ got.cps.toList.drop p := h.subset (.head _)
      obtain ⟨j, hj⟩ := List.getElem?_of_mem hm
      rw [List.getElem?_drop] at hj
      have hlt : p + j < got.length := by
        have := (List.getElem?_eq_some_iff.mp hj).1
        rwa [Array.length_toList] at this
      exact hn (p + j) (by omega) hlt (getD_of_getElem? hj)
    · rw [fromIndex_nat] at hlo hn
      have hkx : got.cps.toList[k]? = some c := getElem?_of_getD hk hkc
      have e : seek got (p : Int) (one c) = some ((k + 1 : Nat) : Int) := by
        unfold seek
        rw [hf, if_neg (by omega)]
        show some ((k : Int) + ((1 : Nat) : Int)) = _
        simp
      have hA : c ∉ (got.cps.toList.drop p).take (k - p) := by
        intro hm
        obtain ⟨j, hj⟩ := List.getElem?_of_mem hm
        have hjl := (List.getElem?_eq_some_iff.mp hj).1
        rw [List.length_take] at hjl
        rw [List.getElem?_take_of_lt (by omega), List.getElem?_drop] at hj
        exact hn (p + j) (by omega) (by omega) (getD_of_getElem? hj)
      have hsplit := drop_split hkx hlo
      rw [hs _ e]
      rcases seek_run got cs (k + 1) (by omega) with ⟨h1, h2⟩ | ⟨q, hq, h1, h2⟩
      · left
        refine ⟨h1, fun h => h2 ?_⟩
        rw [hsplit] at h
        exact (List.cons_sublist_cons).mp (cons_sub_skip hA h)
      · right
        refine ⟨q, hq, h1, ?_⟩
        rw [hsplit]
        exact (List.Sublist.cons_cons c h2).trans (List.sublist_append_right _ _)

theorem fits_iff (got : Str) (cs : List Nat) : fitsB got cs = true ↔ cs.Sublist got.cps.toList := by
  unfold fitsB ellB
  have e0 := seek_empty got 0 (Nat.zero_le _)
  rw [List.foldlM_cons]
  have e0' : seek got 0 (Str.ofString "") = some ((0 : Nat) : Int) := e0
  rw [e0']
  show ((cs.map one ++ [Str.ofString ""]).foldlM (seek got) ((0 : Nat) : Int)).isSome = true ↔ _
  rw [List.foldlM_append]
  rcases seek_run got cs 0 (Nat.zero_le _) with ⟨h1, h2⟩ | ⟨q, hq, h1, h2⟩
  · rw [h1]
    simp only [List.drop_zero] at h2
    constructor
    · intro h; cases h
    · intro h; exact absurd h h2
  · rw [h1]
    simp only [List.drop_zero] at h2
    constructor
    · intro _; exact h2
    · intro _
      show (([Str.ofString ""] : List Str).foldlM (seek got) (q : Int)).isSome = true
      rw [List.foldlM_cons, seek_empty got q hq]; rfl

/-- the row after k places: the letters found up to k, behind them the elder ones alone -/
def rowAt (T : List Nat) (p : Nat → Bool) (k : Nat) : List Nat := T.take k ++ (T.drop k).filter p

theorem sub_filter {l X : List Nat} {q : Nat → Bool} (h : l.Sublist X) (hl : ∀ d ∈ l, q d = true) : l.Sublist (X.filter q) := by
  have h2 := h.filter q
  rwa [List.filter_eq_self.mpr hl] at h2

theorem row_step (got : Str) (p : Nat → Bool) (c k : Nat) (hpc : p c = false) :
    innerStep got c (rowAt (got.cps.toList.filter fun d => p d || d == c) p k) k = rowAt (got.cps.toList.filter fun d => p d || d == c) p (k + 1) := by
  have hX : ∀ {l : List Nat}, (∀ d ∈ l, (p d || d == c) = true) → l.Sublist got.cps.toList → l.Sublist (got.cps.toList.filter fun d => p d || d == c) := fun hl h => sub_filter h hl
  have hTX : (got.cps.toList.filter fun d => p d || d == c).Sublist got.cps.toList := List.filter_sublist
  have hTq : ∀ d ∈ (got.cps.toList.filter fun d => p d || d == c), p d = true ∨ d = c := fun d hd => by
    have := (List.mem_filter.mp hd).2
    simpa using this
  generalize (got.cps.toList.filter fun d => p d || d == c) = T at *
  have hq : ∀ d, d = c ∨ d ∈ T → (p d || d == c) = true := fun d hd => by
    rcases hd with e | hd
    · simp [e]
    · rcases hTq d hd with h | h
      · simp [h]
      · simp [h]
  by_cases hk : k < T.length
  · have hsplit : T.drop k = T[k] :: T.drop (k + 1) := List.drop_eq_getElem_cons hk
    have htk : T.take (k + 1) = T.take k ++ [T[k]] := (List.take_append_getElem hk).symm
    have hlen : (T.take k).length = k := by rw [List.length_take]; omega
    have hins : ins k c (rowAt T p k) = T.take k ++ [c] ++ (T.drop k).filter p := by
      unfold ins rowAt
      rw [List.take_append_of_le_length (by omega), List.drop_append_of_le_length (by omega)]
      rw [List.take_take, List.drop_take, Nat.min_self, Nat.sub_self, List.take_zero, List.nil_append]
    by_cases ht : T[k] = c
    · have hf : (T.drop k).filter p = (T.drop (k + 1)).filter p := by
        rw [hsplit, List.filter_cons_of_neg (by rw [ht, hpc]; decide)]
      have hrow : T.take k ++ [c] ++ (T.drop k).filter p = rowAt T p (k + 1) := by
        unfold rowAt
        rw [hf, htk, ht]
      have hsub : (rowAt T p (k + 1)).Sublist T := by
        unfold rowAt
        have h1 : ((T.drop (k + 1)).filter p).Sublist (T.drop (k + 1)) := List.filter_sublist
        have h2 := (List.Sublist.refl (T.take (k + 1))).append h1
        rwa [List.take_append_drop] at h2
      have hle : k ≤ (rowAt T p k).length := by
        unfold rowAt
        rw [List.length_append]; omega
      unfold innerStep
      rw [hins, hrow, if_pos ⟨hle, (fits_iff got _).mpr (hsub.trans hTX)⟩]
    · have hpt : p T[k] = true := (hTq _ (List.getElem_mem hk)).resolve_right ht
      have hf : (T.drop k).filter p = T[k] :: (T.drop (k + 1)).filter p := by
        rw [hsplit, List.filter_cons_of_pos hpt]
      have hrow : rowAt T p k = rowAt T p (k + 1) := by
        unfold rowAt
        rw [hf, htk, List.append_assoc]; rfl
      unfold innerStep
      rw [hins, if_neg]
      · exact hrow
      · rintro ⟨_, hfit⟩
        have h1 := (fits_iff got _).mp hfit
        have h2 : (T.take k ++ [c] ++ (T.drop k).filter p).Sublist T := hX (fun d hd => hq d (by
          simp only [List.mem_append, List.mem_singleton] at hd
          rcases hd with (hd | hd) | hd
          · exact .inr (List.mem_of_mem_take hd)
          · exact .inl hd
          · exact .inr (List.mem_of_mem_drop (List.mem_filter.mp hd).1))) h1
        have h3 : (T.take k ++ ([c] ++ (T.drop k).filter p)).Sublist (T.take k ++ T.drop k) := by
          rw [List.take_append_drop, ← List.append_assoc]; exact h2
        have h4 : (c :: (T.drop k).filter p).Sublist (T.drop k) := (List.append_sublist_append_left _).mp h3
        rw [hf, hsplit] at h4
        have h5 : (c :: (T[k] :: (T.drop (k + 1)).filter p)).Sublist (T.drop (k + 1)) := by
          cases h4 with
          | cons _ h => exact h
          | cons_cons _ h => exact absurd rfl ht
        have h6 := h5.filter p
        rw [List.filter_cons_of_neg (by rw [hpc]; decide), List.filter_cons_of_pos hpt, List.filter_filter] at h6
        have h7 := h6.length_le
        simp only [List.length_cons, Bool.and_self] at h7
        exact absurd h7 (Nat.not_succ_le_self _)
  · have hT : ∀ j, k ≤ j → rowAt T p j = T := fun j hj => by
      unfold rowAt
      rw [List.take_of_length_le (by omega), List.drop_eq_nil_of_le (by omega)]
      simp
    rw [hT k (Nat.le_refl _), hT (k + 1) (by omega)]
    unfold innerStep
    rw [if_neg]
    rintro ⟨hle, hfit⟩
    have hk' : k = T.length := by omega
    have hins : ins k c T = T ++ [c] := by
      unfold ins
      rw [List.take_of_length_le (by omega), List.drop_eq_nil_of_le (by omega), List.append_nil]
    rw [hins] at hfit
    have h1 := (fits_iff got _).mp hfit
    have h2 : (T ++ [c]).Sublist T := hX (fun d hd => hq d (by
      simp only [List.mem_append, List.mem_singleton] at hd
      rcases hd with hd | hd
      · exact .inr hd
      · exact .inl hd)) h1
    have h3 := h2.length_le
    rw [List.length_append, List.length_singleton] at h3
    omega

theorem inner_eq (got : Str) (p : Nat → Bool) (c : Nat) (hpc : p c = false) : ∀ k, innerAll got c k (got.cps.toList.filter p) = rowAt (got.cps.toList.filter fun d => p d || d == c) p k
  | 0 => by
    show got.cps.toList.filter p = [] ++ ((got.cps.toList.filter fun d => p d || d == c)).filter p
    rw [List.nil_append, List.filter_filter]
    refine List.filter_congr fun d _ => ?_
    cases p d <;> simp
  | k + 1 => by
    rw [innerAll_succ, inner_eq got p c hpc k]
    exact row_step got p c k hpc

theorem outer_eq (got : Str) (p : Nat → Bool) (c : Nat) (hpc : p c = false) : outerStep got (got.cps.toList.filter p) c = got.cps.toList.filter fun d => p d || d == c := by
  unfold outerStep
  split
  · rw [inner_eq got p c hpc]
    unfold rowAt
    have hl : (got.cps.toList.filter fun d => p d || d == c).length ≤ got.length := by
      have := List.length_filter_le (fun d => p d || d == c) got.cps.toList
      rwa [Array.length_toList] at this
    rw [List.take_of_length_le (by omega), List.drop_eq_nil_of_le (by omega)]
    simp
  · rename_i h
    have hc : c ∉ got.cps.toList := fun hm => h ((fits_iff got [c]).mpr (List.singleton_sublist.mpr hm))
    refine List.filter_congr fun d hd => ?_
    have : d ≠ c := fun e => hc (e ▸ hd)
    simp [this]

theorem found_take (got : Str) (sg : List Nat) (hnd : sg.Nodup) : ∀ i, i ≤ sg.length → foundB got (sg.take i) = got.cps.toList.filter fun d => decide (d ∈ sg.take i)
  | 0, _ => by
    show [] = _
    simp
  | i + 1, hi => by
    have hg : sg[i]? = some sg[i] := List.getElem?_eq_getElem (by omega)
    rw [foundB_take hg, found_take got sg hnd i (by omega)]
    have hn : sg[i] ∉ sg.take i := by
      intro hm
      obtain ⟨j, hj⟩ := List.getElem?_of_mem hm
      have hjl := (List.getElem?_eq_some_iff.mp hj).1
      rw [List.length_take] at hjl
      rw [List.getElem?_take_of_lt (by omega)] at hj
      have e1 : sg[j]? = sg[i]? := by rw [hj, hg]
      have := (List.getElem?_inj (by omega) hnd).mp e1
      omega
    rw [outer_eq got _ _ (decide_eq_false hn)]
    refine List.filter_congr fun d _ => ?_
    rw [List.take_add_one, hg]
    simp only [Option.toList, List.mem_append, List.mem_singleton, Bool.decide_or]
    rfl

theorem found_eq (got : Str) (sg : List Nat) (hnd : sg.Nodup) : foundB got sg = got.cps.toList.filter fun d => decide (d ∈ sg) := by
  have h := found_take got sg hnd sg.length (Nat.le_refl _)
  rwa [List.take_length] at h
end Mine
namespace Mine
def chkTab (kvs : List (Str × Value)) : Bool := sgL.all fun c => match valueAt kvs (one c) with
  | some (.int n _) => n == numB c
  | _ => false
theorem tab_chk (P : Params) : chkTab (kvsOf (dictIn (hd.heap_39 P) 22)) = true := by kernel_rfl
theorem tab_at (P : Params) {c : Nat} (hc : c ∈ sgL) : ∃ t, valueAt (kvsOf (dictIn (hd.heap_39 P) 22)) (one c) = some (.int (numB c) t) := by
  have h := List.all_eq_true.mp (tab_chk P) c hc
  cases q : valueAt (kvsOf (dictIn (hd.heap_39 P) 22)) (one c) with
  | none => rw [q] at h; cases h
  | some v =>
    rw [q] at h
    cases v with
    | int n t => exact ⟨t, by rw [beq_iff_eq.mp h]⟩
    | _ => cases h
theorem find_ok : ∀ c ∈ sgL, Txt.find signTab (one c) ≠ -1 := by decide +kernel
theorem item22 {prog : Program} {w : World} {A : Around} {E : Value → Shared → Prop} {s : Shared} {value slice : PySem.Expr} {c : Nat} {tc : Tok} {Q : Value → Shared → Prop} (KX : (hd.heap_39 w.params).In s.heap) (hc : c ∈ sgL)
    (h : ∀ t, Q (.int (numB c) t) { s with toks := s.toks + 1 })
    (hs : subscripted slice false (.ref 22) (.str (one c) tc) = operate [.ref 22, .str (one c) tc] (getItem (.ref 22) (.str (one c) tc))) (hg : ∀ r, letTemporaryGo value (.ref 22) r = pure ()) :
    wpAny (model prog w) A (subscriptTail value slice (.ref 22) (.str (one c) tc)) Q E s := by
  obtain ⟨t, ht⟩ := tab_at w.params hc
  have hD := (dict_at (prog := prog) KX).dictOf
  exact subscriptTail_builtin hD.typeIs slot_dict_getitem.lookup (wpAny_getItem_of (knd := PySem.strKind prog w) (k := one c) (by show Value.isStrOf (one c) (.str (one c) tc) = true; exact beq_self_eq_true _) hD.mapOf ht (h t)) hs hg
theorem news_new {h₀ h h' : Heap} {L r : Addr} {m : Str → Option Value} {o : Obj} {news : List (Addr × Obj)} (F : Fr h₀ L h m) (N : News h₀ L h news) (keep : ∀ b o, h.get? b = some o → h'.get? b = some o) (hn : h.get? r = none) (hr : h'.get? r = some o) :
    News h₀ L h' ((r, o) :: news) := fun p hp => by
  rcases List.mem_cons.mp hp with rfl | hp
  · refine ⟨hr, fun e => ?_, ?_⟩
    · obtain ⟨oL, es, ep, hL, _⟩ := F.ns
      have e' : r = L := e
      rw [e', hL] at hn; cases hn
    · cases q : h₀.get? r with
      | none => rfl
      | some o' => rw [F.keep _ _ q] at hn; cases hn
  · exact ⟨keep _ _ (N p hp).1, (N p hp).2⟩
theorem foundB_lenAll (got : Str) (sg : List Nat) : (foundB got sg).length ≤ sg.length * (got.length + 1) := by
  have h := foundB_len (got := got) (sg := sg) (i := sg.length) (Nat.le_refl _)
  rwa [List.take_length] at h
theorem foundB_all {got : Str} {sg : List Nat} {d : Nat} (h : d ∈ foundB got sg) : d ∈ sg :=
  foundB_mem (got := got) (i := sg.length) (Nat.le_refl _) (by rwa [List.take_length])
theorem take_snocN {ns : List Nat} {i k : Nat} (f : Nat → Int) (hk : ns[i]? = some k) : (ns.take (i + 1)).map f = (ns.take i).map f ++ [f k] := by
  rw [List.take_add_one, hk]
  simp
theorem dot_is : Str.ofString "." = one 46 := by decide +kernel
theorem one_ne_dot {c : Nat} (h : (one c != Str.ofString ".") = true) : c ≠ 46 := by
  rw [dot_is] at h
  intro e
  subst e
  simp at h
theorem one_eq_dot {c : Nat} (h : (one c != Str.ofString ".") = false) : c = 46 := by
  rw [dot_is] at h
  have h2 : one c = one 46 := by simpa using h
  have h3 := congrArg (fun s : Str => s.cps.toList) h2
  simpa using h3
theorem filterN_snoc {l : List Nat} {i c : Nat} (p : Nat → Bool) (f : Nat → Int) (hc : l[i]? = some c) : ((l.take (i + 1)).filter p).map f = ((l.take i).filter p).map f ++ (if p c = true then [f c] else []) := by
  rw [List.take_add_one, hc, List.filter_append, List.map_append]
  simp only [Option.toList, List.filter_cons, List.filter_nil]
  split <;> rfl
def noDot (c : Nat) : Bool := c != 46
def textL (ns : List Int) : List Nat := (textOf ns).cps.toList
/-- every letter of the text is a sign of the table, or the dot -/
theorem words_chars : ∀ y ∈ wordsL, ∀ c ∈ y.cps.toList, c = 46 ∨ c ∈ sgL := by decide +kernel
theorem join_chars : ∀ l : List Str, (∀ y ∈ l, ∀ c ∈ y.cps.toList, c = 46 ∨ c ∈ sgL) → ∀ c ∈ (Str.join (Str.ofString "") l).cps.toList, c = 46 ∨ c ∈ sgL
  | [], _, c, hc => by simp [Str.join, Str.empty] at hc
  | [y], h, c, hc => h y (.head _) c hc
  | y :: z :: r, h, c, hc => by
    have e : (Str.join (Str.ofString "") (y :: z :: r)).cps = y.cps ++ (Str.ofString "").cps ++ (Str.join (Str.ofString "") (z :: r)).cps := rfl
    rw [e, empty_is, Array.toList_append, Array.toList_append] at hc
    rcases List.mem_append.mp hc with hc | hc
    · rcases List.mem_append.mp hc with hc | hc
      · exact h y (.head _) c hc
      · cases hc
    · exact join_chars (z :: r) (fun y hy => h y (.tail _ hy)) c (by rw [empty_is]; exact hc)
theorem text_chars (ns : List Int) : ∀ c ∈ textL ns, c = 46 ∨ c ∈ sgL := by
  intro c hc
  have e : (textOf ns).cps.toList = (Str.join (Str.ofString "") ((ns.take 4).map wordAt)).cps.toList ++ (Str.ofString ">>=").cps.toList := by
    show ((Txt.join (Str.ofString "") ((ns.take 4).map wordAt)).cps ++ (Str.ofString ">>=").cps).toList = _
    rw [Array.toList_append]
    rw [show Txt.join (Str.ofString "") ((ns.take 4).map wordAt) = Str.join (Str.ofString "") ((ns.take 4).map wordAt) from StrLaws.glued_eq_join _ _]
  unfold textL at hc
  rw [e] at hc
  rcases List.mem_append.mp hc with hc | hc
  · refine join_chars _ (fun y hy => ?_) c hc
    obtain ⟨x, _, rfl⟩ := List.mem_map.mp hy
    exact words_chars _ (wordAt_mem x)
  · have : ∀ c ∈ (Str.ofString ">>=").cps.toList, c = 46 ∨ c ∈ sgL := by decide +kernel
    exact this c hc
theorem rot_nodup (tn : Nat) : (sgL.drop tn ++ sgL.take tn).Nodup := by
  have h : (sgL.take tn ++ sgL.drop tn).Nodup := by rw [List.take_append_drop]; decide
  exact (List.perm_append_comm.nodup_iff).mp h
theorem rot_mem (tn d : Nat) (hd : d ∈ sgL) : d ∈ sgL.drop tn ++ sgL.take tn := by
  rw [← List.take_append_drop tn sgL] at hd
  rcases List.mem_append.mp hd with h | h
  · exact List.mem_append_right _ h
  · exact List.mem_append_left _ h
theorem law_eq (ns : List Int) (sg : List Nat) (hnd : sg.Nodup) (hsub : ∀ d ∈ sg, d ∈ sgL) (hsup : ∀ d ∈ sgL, d ∈ sg) : foundB (textOf ns) sg = (textL ns).filter noDot := by
  rw [found_eq _ _ hnd]
  refine List.filter_congr fun d hd => ?_
  rcases text_chars ns d hd with h | h
  · have h2 : d ∉ sg := fun hm => sg_dot d (hsub d hm) h
    rw [decide_eq_false h2, h]; rfl
  · rw [decide_eq_true (hsup d h)]
    have h2 := sg_dot d h
    unfold noDot
    simpa using h2
end Mine
local macro_rules | `(tactic| ktr_unf) => `(tactic| repeat' (first | (k_unfold; (try dsimp only)) | ((fail_if_success (with_reducible show wpAny _ _ (pyIter _) _ _ _)); (fail_if_success (with_reducible show wpAny _ _ (exec (PySem.Stmt.For _ _ _ _ _) _) _ _ _)); (fail_if_success (with_reducible show wpAny _ _ (eval (PySem.Expr.ListComp _ _ _ _) _) _ _ _)); (fail_if_success (with_reducible show wpAny _ _ (exec (PySem.Stmt.Assign _ (PySem.Expr.ListComp _ _ _ _) _) _) _ _ _)); (fail_if_success (with_reducible show wpAny _ _ (exec (PySem.Stmt.Assign _ (PySem.Expr.Call _ _ _ _) _) _) _ _ _)); (fail_if_success (with_reducible show LCg.CompSrc _ _ _ _ _ _ _ _ _ _ _ _ _ _)); (fail_if_success (with_reducible show LCt.CompSrcT _ _ _ _ _ _ _ _ _ _ _ _ _ _ _)); (first | walk1 | (dsimp only; walk1) | (leave1; try dsimp only)))))
local macro_rules | `(tactic| ktr_rel) => `(tactic| repeat' (first | (k_unfold; (try dsimp only)) | ((fail_if_success (with_reducible show wpAny _ _ (pyIter _) _ _ _)); (fail_if_success (with_reducible show wpAny _ _ (exec (PySem.Stmt.For _ _ _ _ _) _) _ _ _)); (fail_if_success (with_reducible show wpAny _ _ (eval (PySem.Expr.ListComp _ _ _ _) _) _ _ _)); (fail_if_success (with_reducible show wpAny _ _ (exec (PySem.Stmt.Assign _ (PySem.Expr.ListComp _ _ _ _) _) _) _ _ _)); (fail_if_success (with_reducible show wpAny _ _ (subscriptTail _ (PySem.Expr.Slice _ _ _ _) _ _) _ _ _)); (fail_if_success (with_reducible show wpAny _ _ (subscriptTail _ _ (Value.ref _) (Value.str _ _)) _ _ _)); (fail_if_success (with_reducible show wpAny _ _ (call (Value.ref _) _) _ _ _)); (fail_if_success (with_reducible show wpAny _ _ (binaryOp PySem.Operator.Add (Value.ref _) (Value.ref _)) _ _ _)); (fail_if_success (with_reducible show LCg.CompSrc _ _ _ _ _ _ _ _ _ _ _ _ _ _)); (fail_if_success (with_reducible show LCt.CompSrcT _ _ _ _ _ _ _ _ _ _ _ _ _ _ _)); (first | walk1 | (dsimp only; walk1) | (leave1; try dsimp only)))))
theorem PySem.Challenge.cw_mq0245_01_holds : PySem.Challenge.rw_mq0245_01.Holds := by
  refine Mine.hd ?_
  k_go0
  k_fold
  k_steps
  rename Fr _ _ _ _ => F
  rename News _ _ _ _ => N
  rename (Mine.hd.heap_39 _).In _ => KX
  refine kdl_N (kdl_dict (by decide)) rfl F N (Mine.dict_at (KX.keeps F.keep)) ?_ ?_
  · show (Mine.kvsOf _).length ≤ _
    rw [sizeLine_eq, ← List.length_map (f := (·.1)), Mine.table_words]; decide
  intro D c h' tk vs F1 N1 lt hlen hvs
  have hS : StrsAre vs Mine.wordsL := Mine.table_words _ ▸ Mine.strsAre_of hlen hvs
  clear F N
  ktr_unf
  rename Fr _ _ _ _ => F
  rename News _ _ _ _ => N
  refine LCg.ListComp_U (F₀ := F) (by with_unfolding_all rfl) (by decide) (by rfl) (by decide) (by rfl) ?_
  ktr_unf
  rename Fr _ _ _ _ => F
  rename News _ _ _ _ => N
  rename IntsAre _ (List.take 4 _) => hI4
  rename List Int => ns
  rename (List.take 4 ns).length = min 4 ns.length => hC4
  have hvl : vs.length = 48 := by rw [hS.length]; rfl
  have hsv : vs.toArray.size = 48 := by rw [List.size_toArray, hvl]
  have hws4 := hI4.length
  simp only [List.cons_append, List.nil_append] at N
  refine LCg.CompSrc.ledger rfl F N (.head _) (by rw [List.size_toArray, sizeLine_eq]; omega) ?_
  intro g
  refine Mine.rest_U (fun i ys => StrsAre ys (((ns.take 4).take i).map Mine.wordAt)) .nil ?_ ?_
  · intro i v I oI C oC Dl m₂ ys h tk E' hi hInv hv hC hx F2 N2 off ne
    obtain ⟨kx, tx, rfl, hk⟩ := IntsAre.at hI4 i v (by simpa using hv)
    clear F N
    show wpAny _ _ _ _ _ _
    k_fold
    ktr_unf
    obtain ⟨tw, hw⟩ := Mine.strsAre_at hS (Mine.word_get kx)
    refine item_list (N2.isList (.tail _ (.tail _ (.tail _ (.tail _ (.head _)))))) (Mine.fmod_bounds kx).1 (Int.lt_trans (Mine.fmod_bounds kx).2 (by decide)) (by rw [List.getElem?_toArray]; exact hw) ?_
    refine LCg.CompEnd.intro F2 N2 _ (fun p hp => hp) off (.inr ⟨_, .head _, rfl, _, rfl⟩) ⟨rfl, ?_⟩
    rw [Mine.take_snoc _ hk]
    exact hInv.append' (.cons _ _ .nil)
  · intro ys hys
    rw [List.size_toArray, hws4, List.take_length] at hys
    intro Dt h tk2 F3 N3 o3
    clear F N
    ktr_unf
    refine join_list (ys := (ns.take 4).map Mine.wordAt) (N3.isList (.head _)) hys ?_ ?_
    · have h1 := Mine.words_sum (ns.take 4)
      have h2 : (Str.ofString "").length = 0 := by rw [Mine.empty_is]; rfl
      rw [h2]; omega
    intro tj kj
    ktr_unf
    refine PyProof.Rows.add_str ?_ ?z1
    case z1 =>
      have h1 := Mine.join_le ns
      have h3 : (Str.ofString ">>=").length = 3 := by decide +kernel
      rw [sizeLine_eq, h3]; omega
    intro tt kt
    have htl := Mine.text_le ns
    change (Mine.textOf ns).length ≤ 15 at htl
    ktr_unf
    try clear F3
    try clear N3
    rename Fr _ _ _ _ => F
    rename News _ _ _ _ => N
    refine LCt.Assign_ListComp_T (F₀ := F) rfl (by with_unfolding_all rfl) (by with_unfolding_all rfl) (by decide) (by rfl) (by decide) (by rfl) (by rfl) (by rfl) ?_
    ktr_unf
    refine LCt.CompSrcT.ledger rfl F N (.tail _ (.tail _ (.head _))) (by rw [hsv, sizeLine_eq]; decide) ?_
    intro g2
    refine Mine.rest_T (fun i ys => StrsAre ys ((Mine.wordsL.take i).filter Mine.isSign)) .nil ?_ ?_
    · intro i v I oI C oC Dl m₂ ys2 h tk E' hi hInv hv hC hx F2 N2 off ne
      obtain ⟨yw, tw, hyw, rfl⟩ := Mine.strsAre_get hS (by simpa using hv)
      have hyl := (Mine.words_len yw (List.mem_of_getElem? hyw)).2
      clear F N
      show wpAny _ _ _ _ _ _
      k_fold
      ktr_unf
      · rename ((yw.length : Nat) : Int) = 1 => h1
        rename (yw != Str.ofString ".") = true => h2
        refine LCg.CompEnd.intro F2 N2 _ (fun p hp => hp) off (.inr ⟨_, .tail _ (.tail _ (.head _)), rfl, _, rfl⟩) ⟨rfl, ?_⟩
        have e : Mine.isSign yw = true := by
          show (decide (yw.length = 1) && (yw != Str.ofString ".")) = true
          rw [h2, decide_eq_true (by omega)]; rfl
        rw [Mine.filter_snoc _ hyw, if_pos e]
        exact hInv.append' (.cons _ _ .nil)
      · rename (yw != Str.ofString ".") = false => h2
        refine LCg.CompEnd.intro F2 N2 _ (fun p hp => hp) off (.inr ⟨_, .tail _ (.tail _ (.head _)), rfl, _, rfl⟩) ⟨rfl, ?_⟩
        have e : Mine.isSign yw = false := by
          show (decide (yw.length = 1) && (yw != Str.ofString ".")) = false
          rw [h2]; exact Bool.and_false _
        rw [Mine.filter_snoc _ hyw, if_neg (by rw [e]; decide), List.append_nil]
        exact hInv
      · rename ((yw.length : Nat) : Int) ≠ 1 => h1
        refine LCg.CompEnd.intro F2 N2 _ (fun p hp => hp) off (.inr ⟨_, .tail _ (.tail _ (.head _)), rfl, _, rfl⟩) ⟨rfl, ?_⟩
        have e : Mine.isSign yw = false := by
          show (decide (yw.length = 1) && (yw != Str.ofString ".")) = false
          rw [decide_eq_false (by omega)]; rfl
        rw [Mine.filter_snoc _ hyw, if_neg (by rw [e]; decide), List.append_nil]
        exact hInv
    · intro ys2 hys2
      rw [hsv, show Mine.wordsL.take 48 = Mine.wordsL from rfl, Mine.signs_are] at hys2
      intro Ds h tk3 F4 N4 o4
      clear F N
      have hs2 : ys2.toArray.size = 23 := by rw [List.size_toArray, hys2.length]; rfl
      have hs2l : ys2.length = 23 := by rw [hys2.length]; rfl
      ktr_unf
      rename Fr _ _ _ _ => F
      rename News _ _ _ _ => N
      obtain ⟨tn, htn, htn23⟩ := Mine.turn_nat (ns.take 4).sum
      rw [htn] at F
      ktr_rel
      refine slice_list F N (N.isList (.tail _ (.head _))) (.int _ _) .none ?_ (by with_unfolding_all rfl) (by intro _; with_unfolding_all rfl) (by rw [hs2, sizeLine_eq]; decide)
      intro h5 F5 N5
      clear F N
      rw [slicePick_from' ys2.toArray tn] at N5
      ktr_rel
      refine slice_list F5 N5 (N5.isList (.tail _ (.tail _ (.head _)))) .none (.int _ _) ?_ (by with_unfolding_all rfl) (by intro _; with_unfolding_all rfl) (by rw [hs2, sizeLine_eq]; decide)
      intro h6 F6 N6
      clear F5 N5
      rw [slicePick_upto' ys2.toArray tn] at N6
      ktr_rel
      refine add_lists F6 N6 (vs := ys2.drop tn) (ws := ys2.take tn) (N6.isList (.tail _ (.head _))) (N6.isList (.head _)) ?_ ?z5
      case z5 => rw [sizeLine_eq, List.length_drop, List.length_take]; omega
      intro h7 F7 N7
      clear F6 N6
      ktr_rel
      rename Top _ _ _ _ _ _ => T
      have hSg : StrsAre (ys2.drop tn ++ ys2.take tn) ((Mine.sgL.drop tn ++ Mine.sgL.take tn).map Mine.one) := by
        rw [List.map_append, List.map_drop, List.map_take]
        exact (hys2.drop' tn).append' (hys2.take' tn)
      have hsub : ∀ d ∈ Mine.sgL.drop tn ++ Mine.sgL.take tn, d ∈ Mine.sgL := fun d hd => by
        rcases List.mem_append.mp hd with h | h
        · exact List.mem_of_mem_drop h
        · exact List.mem_of_mem_take h
      have hsgl : (Mine.sgL.drop tn ++ Mine.sgL.take tn).length = 23 := by
        rw [List.length_append, List.length_drop, List.length_take, show Mine.sgL.length = 23 from rfl]; omega
      have hnodup := Mine.rot_nodup tn
      have hsup := fun d => Mine.rot_mem tn d
      generalize Mine.sgL.drop tn ++ Mine.sgL.take tn = sg at *
      have heq := Mine.law_eq ns sg hnodup hsub hsup
      refine wpAny_call (Mine.found_call (sg := sg) (T.keeps F7.keep) (KX.keeps F7.keep) rfl ?_ ?_ (N7.isList (.head _)) hSg ?_ (by omega) ?_ ?_)
      · show callerA.depth + 1 < 700; decide
      · show callerA.units + 3 < 80; decide
      · intro d hd
        exact Mine.sg_dot d (hsub d hd)
      · change (Mine.textOf ns).length ≤ 100; omega
      intro h8 tk8 r rvs keep8 hnew8 hget8 hrvs
      have F8 := Mine.Fr.grow F7 keep8
      have N8 := Mine.news_new F7 N7 keep8 hnew8 hget8
      clear F7 N7
      change StrsAre rvs ((Mine.foundB (Mine.textOf ns) sg).map Mine.one) at hrvs
      show wpAny _ _ _ _ _ _
      ktr_rel
      try clear F8
      try clear N8
      rename Fr _ _ _ _ => F
      rename News _ _ _ _ => N
      have hfl := Mine.foundB_lenAll (Mine.textOf ns) sg
      rw [hsgl] at hfl
      have hfm : ∀ d ∈ Mine.foundB (Mine.textOf ns) sg, d ∈ Mine.sgL := fun d hd => hsub d (Mine.foundB_all hd)
      have hrl : rvs.length = (Mine.foundB (Mine.textOf ns) sg).length := by rw [hrvs.length, List.length_map]
      refine LCg.ListComp_U (F₀ := F) (by with_unfolding_all rfl) (by decide) (by rfl) (by decide) (by rfl) ?_
      ktr_rel
      refine LCg.CompSrc.ledger rfl F N (.head _) (by rw [List.size_toArray, sizeLine_eq]; omega) ?_
      intro g3
      refine Mine.rest_U (fun i ys => IntsAre ys (((Mine.foundB (Mine.textOf ns) sg).take i).map Mine.numB)) .nil ?_ ?_
      · intro i v I oI C oC Dl m₂ ys3 h tk E' hi hInv hv hC hx F2 N2 off ne
        obtain ⟨kc, tc, hkc, rfl⟩ := Mine.strsAre_one hrvs (by simpa using hv)
        clear F N
        show wpAny _ _ _ _ _ _
        k_fold
        ktr_rel
        refine Mine.item22 (KX.keeps F2.keep) (hfm _ (List.mem_of_getElem? hkc)) ?_ (by with_unfolding_all rfl) (by intro _; with_unfolding_all rfl)
        intro ti
        refine LCg.CompEnd.intro F2 N2 _ (fun p hp => hp) off (.inr ⟨_, .head _, rfl, _, rfl⟩) ⟨rfl, ?_⟩
        rw [Mine.take_snocN _ hkc]
        exact IntsAre.append hInv (.cons _ _ .nil)
      · intro ys3 hys3
        rw [List.size_toArray, hrl, List.take_length] at hys3
        intro Du h tk9 F9 N9 o9
        clear F N
        ktr_rel
        refine Mine.comp_str (F₀ := F9) (by with_unfolding_all rfl) (by decide) (by rfl) (by decide) (by rfl) ?_
        walk1
        refine ⟨Mine.textOf ns, tt, _, rfl, rfl, F9, N9, ?_, ?_⟩
        · rw [sizeLine_eq]; change (Mine.textOf ns).length ≤ _; omega
        rintro s₂ ⟨g4, rfl⟩
        refine Mine.rest_T (fun i ys => IntsAre ys ((((Mine.textL ns).take i).filter Mine.noDot).map Mine.numB)) .nil ?_ ?_
        · rintro i v I oI C oC Dl m₂ ys4 h tk E' hi hInv ⟨kc, tc, hkc, rfl⟩ hC hx F2 N2 off ne
          have hkc' : (Mine.textL ns)[i]? = some kc := by
            show (Mine.textOf ns).cps.toList[i]? = some kc
            rw [Array.getElem?_toList]; exact hkc
          have hch := Mine.text_chars ns kc (List.mem_of_getElem? hkc')
          clear F9 N9
          show wpAny _ _ _ _ _ _
          k_fold
          ktr_rel
          · rename (_ != Str.ofString ".") = true => hnd
            have hkd : kc ≠ 46 := Mine.one_ne_dot hnd
            have hks : kc ∈ Mine.sgL := hch.resolve_left hkd
            refine wpAny_call (Mine.num_call (c := kc) (T.keeps F2.keep) (KX.keeps F2.keep) rfl ?_ ?_ (Mine.find_ok kc hks) ?_)
            · show callerA.depth + 1 < 700; decide
            · show callerA.units + 3 < 80; decide
            intro h11 tk11 t11 keep11
            refine LCg.CompEnd.intro (Mine.Fr.grow F2 keep11) (Mine.News.grow N2 keep11) _ (fun p hp => hp) off trivial ⟨rfl, ?_⟩
            rw [Mine.filterN_snoc _ _ hkc', if_pos (by unfold Mine.noDot; simpa using hkd)]
            exact IntsAre.append hInv (.cons _ _ .nil)
          · rename (_ != Str.ofString ".") = false => hnd
            have hkd : kc = 46 := Mine.one_eq_dot hnd
            refine LCg.CompEnd.intro F2 N2 _ (fun p hp => hp) off trivial ⟨rfl, ?_⟩
            rw [Mine.filterN_snoc _ _ hkc', if_neg (by unfold Mine.noDot; simpa using hkd), List.append_nil]
            exact hInv
        · intro ys4 hys4
          rw [show (Mine.textL ns).take (Mine.textOf ns).cps.size = Mine.textL ns from List.take_of_length_le (by show (Mine.textOf ns).cps.toList.length ≤ _; rw [Array.length_toList]; exact Nat.le_refl _)] at hys4
          intro Dv h tk12 F12 N12 o12
          clear F9 N9
          ktr_rel
          rw [heq, decide_eq_true rfl]
          wrow_close
